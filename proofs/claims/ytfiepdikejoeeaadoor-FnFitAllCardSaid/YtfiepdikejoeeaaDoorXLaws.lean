/- Laws by which a text over values is read: what each operation comes to. No condition. -/
import Derived.Test.YtfiepdikejoeeaaDoorXOps
import Derived.Lib.Bytealg
import Derived.WalkLawsBesides
set_option linter.unusedVariables false
set_option linter.unusedSimpArgs false
namespace Go.X
open Go

section
variable {P : Program}

/-! ### Forms -/
theorem st_eq_value {s : Sem Next} {w w' : World} {v : Value} {K : Value → World → Prop} (h : s.run P w = .ok (.value v) w') : st P s w K = K v w' :=
  propext ⟨fun x => by have := x.h; unfold st0 at this; rw [h] at this; exact this, fun x => ⟨by unfold st0; rw [h]; exact x⟩⟩
theorem st_eq_skip {s : Sem Next} {w w' : World} {K : Value → World → Prop} (h : s.run P w = .ok .skip w') : st P s w K = K undef w' :=
  propext ⟨fun x => by have := x.h; unfold st0 at this; rw [h] at this; exact this, fun x => ⟨by unfold st0; rw [h]; exact x⟩⟩
theorem st_eq_enter {s : Sem Next} {w w' : World} {f : FuncId} {args : Array Value} {K : Value → World → Prop} (h : s.run P w = .ok (.enter f args) w') : st P s w K = Cl P f args w' K :=
  propext ⟨fun x => by have := x.h; unfold st0 at this; rw [h] at this; exact this, fun x => ⟨by unfold st0; rw [h]; exact x⟩⟩
theorem pu_eq {s : Sem Next} {v : Value} {K : Value → Prop} (h : runPure P s = some v) : pu P s K = K v :=
  propext ⟨fun x => by have := x.h; unfold pu0 at this; rw [h] at this; exact this, fun x => ⟨by unfold pu0; rw [h]; exact x⟩⟩
theorem rd_eq {s : Sem Next} {w : World} {v : Value} {K : Value → Prop} (h : s.run P w = .ok (.value v) w) : rd P s w K = K v :=
  propext ⟨fun x => by obtain ⟨v', h', k⟩ := x.h; rw [h] at h'; injection h' with h1; injection h1 with h1; subst h1; exact k, fun x => ⟨⟨v, h, x⟩⟩⟩
theorem hold_eq {s : Sem Next} {w : World} {v v' : Value} (h : s.run P w = .ok (.value v) w) : hold P s v' w = (v = v') :=
  propext ⟨fun x => by have := x.h; unfold hold0 at this; rw [h] at this; injection this with h1; injection h1, fun x => ⟨by unfold hold0; rw [h, x]⟩⟩

theorem cd_eq (b : Bool) (X Y : Prop) : cd (.bool b) X Y = (if b = true then X else Y) :=
  propext ⟨fun x => x.h, fun x => ⟨x⟩⟩
theorem gd_true (b : Bool) (w : World) (X : (Value → World → Prop) → Prop) (K : Value → World → Prop) : gd (.bool b) true w X K = (if b = true then X K else K undef w) :=
  propext ⟨fun x => by have := x.h; unfold gd0 isb at this; cases b <;> simpa using this, fun x => ⟨by unfold gd0 isb; cases b <;> simpa using x⟩⟩
theorem gd_false (b : Bool) (w : World) (X : (Value → World → Prop) → Prop) (K : Value → World → Prop) : gd (.bool b) false w X K = (if b = true then K undef w else X K) :=
  propext ⟨fun x => by have := x.h; unfold gd0 isb at this; cases b <;> simpa using this, fun x => ⟨by unfold gd0 isb; cases b <;> simpa using x⟩⟩
theorem cd_dec (p : Prop) [Decidable p] (X Y : Prop) : cd (.bool (decide p)) X Y = (if p then X else Y) := by
  rw [cd_eq]; by_cases h : p <;> simp [h]
theorem gd_true_dec (p : Prop) [Decidable p] (w : World) (X : (Value → World → Prop) → Prop) (K : Value → World → Prop) : gd (.bool (decide p)) true w X K = (if p then X K else K undef w) := by
  rw [gd_true]; by_cases h : p <;> simp [h]
theorem gd_false_dec (p : Prop) [Decidable p] (w : World) (X : (Value → World → Prop) → Prop) (K : Value → World → Prop) : gd (.bool (decide p)) false w X K = (if p then K undef w else X K) := by
  rw [gd_false]; by_cases h : p <;> simp [h]
@[go_sem] theorem isb_bool (b c : Bool) : isb (.bool b) c = (b == c) := rfl

theorem jn_intro {R : List Value → Env → World → Prop} {X : (List Value → World → Prop) → Prop} (h : X fun s w => ∀ u, R s u w) : jn R X := ⟨⟨_, fun _ u _ h => h u, h⟩⟩
theorem jn_with {R : List Value → Env → World → Prop} {X : (List Value → World → Prop) → Prop} (k : List Value → World → Prop) (h1 : ∀ s u w, k s w → R s u w) (h2 : X k) : jn R X := ⟨⟨k, h1, h2⟩⟩
theorem lp_intro {s0 : List Value} {w0 : World} {R : List Value → Env → World → (List Value → World → Prop) → Prop} (I : List Value → World → Prop) (μ : List Value → World → Nat) (h0 : I s0 w0)
    (h : ∀ s u w, I s w → R s u w fun s' w' => I s' w' ∧ μ s' w' < μ s w) : lp s0 w0 R := ⟨⟨I, μ, h0, h⟩⟩

theorem run_v' {s : Sem Value} {w w' : World} {v : Value} (h : s.run P w = .ok v w') : (v' s).run P w = .ok (.value v) w' := by
  unfold X.v'; rw [Sem.run_bind, h]; rfl
theorem run_u' {s : Sem Unit} {w w' : World} (h : s.run P w = .ok () w') : (u' s).run P w = .ok .skip w' := by
  unfold u'; rw [Sem.run_bind, h]; rfl

/-- What a plain computation asks of the program alone. -/
def rp (P : Program) {α : Type} : Sem α → Option α
  | .pure a => some a
  | .program k => rp P (k P)
  | .mark _ k => rp P k
  | _ => none
@[simp] theorem rp_pure {α : Type} (a : α) : rp P (Pure.pure a : Sem α) = some a := rfl
@[simp] theorem rp_pure' {α : Type} (a : α) : rp P (Sem.pure a : Sem α) = some a := rfl
@[simp] theorem rp_program : rp P program = some P := rfl
@[simp] theorem rp_halt {α : Type} (h : Halt) : rp P (.halt h : Sem α) = none := rfl
theorem rp_bind {α β : Type} (x : Sem α) (f : α → Sem β) : rp P (x >>= f) = (rp P x).bind fun a => rp P (f a) := by
  show rp P (x.bind f) = _
  induction x <;> simp_all [Sem.bind, rp]
theorem rp_map {α β : Type} (x : Sem α) (f : α → β) : rp P (f <$> x) = (rp P x).map f := by
  show rp P (x.bind fun a => Sem.pure (f a)) = _
  induction x <;> simp_all [Sem.bind, rp]
theorem runPure_v' (s : Sem Value) : runPure P (v' s) = rp P s := by
  show runPure P (s.bind fun a => Sem.pure (.value a)) = _
  induction s <;> simp_all [Sem.bind, runPure, rp]
theorem rp_underlying {t : TypeId} {d : TypeDesc} (h : P.underlying t = some d) : rp P (underlying t) = some d := by
  unfold underlying; simp [rp_bind, h]
theorem pu_v' {s : Sem Value} {v : Value} {K : Value → Prop} (h : rp P s = some v) : pu P (v' s) K = K v := pu_eq (by rw [runPure_v']; exact h)

/-! ### Strings as lists of bytes -/
theorem S_of (s : ByteArray) : Value.string s = S s.data.toList := by
  cases s; rfl

/-! ### Plain operations -/
variable (K : Value → Prop)

@[go_sem] theorem oNil_ptr (a : Addr) : pu P (oNil (.pointer (some a))) K = K (.pointer (some a)) := pu_eq rfl
theorem oPick_eq (c : Bool) (a b : Value) : pu P (oPick (.bool c) a b) K = K (if c = true then a else b) := pu_eq rfl
theorem ite_bool_val (c : Prop) [Decidable c] (x y : Bool) : (if c then Value.bool x else Value.bool y) = .bool (if c then x else y) := by split <;> rfl
@[go_sem] theorem oExtract2_0 (a b : Value) : pu P (oExtract (tup [a, b]) 0) K = K a := pu_eq rfl
@[go_sem] theorem oExtract2_1 (a b : Value) : pu P (oExtract (tup [a, b]) 1) K = K b := pu_eq rfl
@[go_sem] theorem oExtract3_0 (a b c : Value) : pu P (oExtract (tup [a, b, c]) 0) K = K a := pu_eq rfl
@[go_sem] theorem oExtract3_1 (a b c : Value) : pu P (oExtract (tup [a, b, c]) 1) K = K b := pu_eq rfl
@[go_sem] theorem oExtract3_2 (a b c : Value) : pu P (oExtract (tup [a, b, c]) 2) K = K c := pu_eq rfl
@[go_sem] theorem oExtract4_0 (a b c d : Value) : pu P (oExtract (tup [a, b, c, d]) 0) K = K a := pu_eq rfl
@[go_sem] theorem oExtract4_1 (a b c d : Value) : pu P (oExtract (tup [a, b, c, d]) 1) K = K b := pu_eq rfl
@[go_sem] theorem oExtract4_2 (a b c d : Value) : pu P (oExtract (tup [a, b, c, d]) 2) K = K c := pu_eq rfl
@[go_sem] theorem oExtract4_3 (a b c d : Value) : pu P (oExtract (tup [a, b, c, d]) 3) K = K d := pu_eq rfl
@[go_sem] theorem tup_one (a : Value) : tup [a] = a := rfl
@[go_sem] theorem oNot (b : Bool) : pu P (oUn .not (.bool b)) K = K (.bool (!b)) := pu_eq rfl
@[go_sem] theorem gs0 (a : Value) (l : List Value) : gs (a :: l) 0 = a := rfl
@[go_sem] theorem gs1 (a b : Value) (l : List Value) : gs (a :: b :: l) 1 = b := rfl
@[go_sem] theorem gs2 (a b c : Value) (l : List Value) : gs (a :: b :: c :: l) 2 = c := rfl
@[go_sem] theorem gs3 (a b c d : Value) (l : List Value) : gs (a :: b :: c :: d :: l) 3 = d := rfl
@[go_sem] theorem gs4 (a b c d e : Value) (l : List Value) : gs (a :: b :: c :: d :: e :: l) 4 = e := rfl
@[go_sem] theorem gs5 (a b c d e f : Value) (l : List Value) : gs (a :: b :: c :: d :: e :: f :: l) 5 = f := rfl
@[go_sem] theorem gs6 (a b c d e f g : Value) (l : List Value) : gs (a :: b :: c :: d :: e :: f :: g :: l) 6 = g := rfl

theorem oBin_int (op : BinOp) (hop : op ≠ .eql ∧ op ≠ .neq) (t : TypeId) (cx cy : Bool) (x y v : Value) (h : rp P (binOp op t x y) = some v) : pu P (oBin op t cx cy x y) K = K v :=
  pu_v' (by
    rw [rp_bind]
    have : rp P (eqGuard op t (fl cx) (fl cy) x y) = some () := by
      unfold eqGuard
      cases op <;> simp_all [rp_bind] <;> rfl
    rw [this]; exact h)
theorem rp_eqGuard_int (op : BinOp) (t : TypeId) (cx cy : Bool) (k j : IntKind) (x y : Int) : rp P (eqGuard op t (fl cx) (fl cy) (.int k x) (.int j y)) = some () := by
  unfold eqGuard; cases op <;> rfl
theorem rp_eqGuard_str (op : BinOp) (t : TypeId) (cx cy : Bool) (x y : ByteArray) : rp P (eqGuard op t (fl cx) (fl cy) (.string x) (.string y)) = some () := by
  unfold eqGuard; cases op <;> rfl
theorem rp_eqGuard_bool (op : BinOp) (t : TypeId) (cx cy : Bool) (x y : Bool) : rp P (eqGuard op t (fl cx) (fl cy) (.bool x) (.bool y)) = some () := by
  unfold eqGuard; cases op <;> rfl

theorem bin_int {op : BinOp} {t : TypeId} {cx cy : Bool} {k j : IntKind} {x y : Int} {v : Value} (h : rp P (binOp op t (.int k x) (.int j y)) = some v) : pu P (oBin op t cx cy (.int k x) (.int j y)) K = K v :=
  pu_v' (by rw [rp_bind, rp_eqGuard_int]; exact h)
theorem bin_str {op : BinOp} {t : TypeId} {cx cy : Bool} {x y : ByteArray} {v : Value} (h : rp P (binOp op t (.string x) (.string y)) = some v) : pu P (oBin op t cx cy (.string x) (.string y)) K = K v :=
  pu_v' (by rw [rp_bind, rp_eqGuard_str]; exact h)

@[go_sem] theorem oAdd (t : TypeId) (cx cy : Bool) (k : IntKind) (x y : Int) : pu P (oBin .add t cx cy (.int k x) (.int k y)) K = K (.int k (k.wrap (x + y))) :=
  bin_int K (by simp [binOp, Op.intArith])
@[go_sem] theorem oSub (t : TypeId) (cx cy : Bool) (k : IntKind) (x y : Int) : pu P (oBin .sub t cx cy (.int k x) (.int k y)) K = K (.int k (k.wrap (x - y))) :=
  bin_int K (by simp [binOp, Op.intArith])
@[go_sem] theorem oMul (t : TypeId) (cx cy : Bool) (k : IntKind) (x y : Int) : pu P (oBin .mul t cx cy (.int k x) (.int k y)) K = K (.int k (k.wrap (x * y))) :=
  bin_int K (by simp [binOp, Op.intArith])
@[go_sem] theorem oQuo (t : TypeId) (cx cy : Bool) (k : IntKind) (x y : Int) (hy : y ≠ 0) : pu P (oBin .quo t cx cy (.int k x) (.int k y)) K = K (.int k (k.wrap (x.tdiv y))) :=
  bin_int K (by simp [binOp, Op.intDiv, hy])
@[go_sem] theorem oRem (t : TypeId) (cx cy : Bool) (k : IntKind) (x y : Int) (hy : y ≠ 0) : pu P (oBin .rem t cx cy (.int k x) (.int k y)) K = K (.int k (x.tmod y)) :=
  bin_int K (by simp [binOp, Op.intDiv, hy])
@[go_sem] theorem oLss (t : TypeId) (cx cy : Bool) (k : IntKind) (x y : Int) : pu P (oBin .lss t cx cy (.int k x) (.int k y)) K = K (.bool (decide (x < y))) :=
  bin_int K (by simp [binOp, Op.intCmp])
@[go_sem] theorem oLeq (t : TypeId) (cx cy : Bool) (k : IntKind) (x y : Int) : pu P (oBin .leq t cx cy (.int k x) (.int k y)) K = K (.bool (decide (x ≤ y))) :=
  bin_int K (by simp [binOp, Op.intCmp])
@[go_sem] theorem oGtr (t : TypeId) (cx cy : Bool) (k : IntKind) (x y : Int) : pu P (oBin .gtr t cx cy (.int k x) (.int k y)) K = K (.bool (decide (y < x))) :=
  bin_int K (by simp [binOp, Op.intCmp])
@[go_sem] theorem oGeq (t : TypeId) (cx cy : Bool) (k : IntKind) (x y : Int) : pu P (oBin .geq t cx cy (.int k x) (.int k y)) K = K (.bool (decide (y ≤ x))) :=
  bin_int K (by simp [binOp, Op.intCmp])
@[go_sem] theorem oEql (t : TypeId) (cx cy : Bool) (k : IntKind) (x y : Int) : pu P (oBin .eql t cx cy (.int k x) (.int k y)) K = K (.bool (decide (x = y))) :=
  bin_int K (by simp [binOp, Op.intCmp]; by_cases h : x = y <;> simp [h])
@[go_sem] theorem oNeq (t : TypeId) (cx cy : Bool) (k : IntKind) (x y : Int) : pu P (oBin .neq t cx cy (.int k x) (.int k y)) K = K (.bool (decide (x ≠ y))) :=
  bin_int K (by simp [binOp, Op.intCmp]; by_cases h : x = y <;> simp [h])

@[go_sem] theorem oEqlS (t : TypeId) (cx cy : Bool) (x y : List UInt8) : pu P (oBin .eql t cx cy (S x) (S y)) K = K (.bool (decide (x = y))) :=
  bin_str K (by simp [binOp, Op.stringOp]; by_cases h : x = y <;> simp [h])
@[go_sem] theorem oNeqS (t : TypeId) (cx cy : Bool) (x y : List UInt8) : pu P (oBin .neq t cx cy (S x) (S y)) K = K (.bool (decide (x ≠ y))) :=
  bin_str K (by simp [binOp, Op.stringOp]; by_cases h : x = y <;> simp [h])
@[go_sem] theorem oAddS (t : TypeId) (cx cy : Bool) (x y : List UInt8) (h : x.length + y.length ≤ 9223372036854775807) : pu P (oBin .add t cx cy (S x) (S y)) K = K (S (x ++ y)) :=
  bin_str K (by
    have h2 : ¬ (((ByteArray.mk x.toArray).size + (ByteArray.mk y.toArray).size : Nat) : Int) > IntKind.i64.max := by
      show ¬ ((x.toArray.size + y.toArray.size : Nat) : Int) > 9223372036854775807
      simp; omega
    have e : binOp .add t (.string ⟨x.toArray⟩) (.string ⟨y.toArray⟩) = pure (.string (⟨x.toArray⟩ ++ ⟨y.toArray⟩)) := by
      simp only [binOp, Op.stringOp]
      rw [if_neg h2]
    rw [e, rp_pure]
    have e2 : (ByteArray.mk x.toArray ++ ByteArray.mk y.toArray) = ByteArray.mk (x ++ y).toArray := by apply ByteArray.ext; simp
    rw [e2]; rfl)
@[go_sem] theorem oLssS (t : TypeId) (cx cy : Bool) (x y : List UInt8) : pu P (oBin .lss t cx cy (S x) (S y)) K = K (.bool (Op.bytesLess x y)) :=
  bin_str K (by simp [binOp, Op.stringOp])
@[go_sem] theorem oLeqS (t : TypeId) (cx cy : Bool) (x y : List UInt8) : pu P (oBin .leq t cx cy (S x) (S y)) K = K (.bool (Op.bytesLess x y || decide (x = y))) :=
  bin_str K (by simp [binOp, Op.stringOp]; by_cases h : x = y <;> simp [h])
@[go_sem] theorem oGtrS (t : TypeId) (cx cy : Bool) (x y : List UInt8) : pu P (oBin .gtr t cx cy (S x) (S y)) K = K (.bool (!(Op.bytesLess x y || decide (x = y)))) :=
  bin_str K (by simp [binOp, Op.stringOp]; by_cases h : x = y <;> simp [h])
@[go_sem] theorem oGeqS (t : TypeId) (cx cy : Bool) (x y : List UInt8) : pu P (oBin .geq t cx cy (S x) (S y)) K = K (.bool (!Op.bytesLess x y)) :=
  bin_str K (by simp [binOp, Op.stringOp])

theorem pu_builtin {b : Builtin} {ats : Array TypeId} {t : TypeId} {cs : Array Bool} {args : Array Value} {s : Sem Value} {v : Value} (hb : builtin b ats t cs args = v' s) (h : rp P s = some v) :
    pu P (oBuiltin b ats t cs args) K = K v := by
  unfold oBuiltin; rw [hb]; exact pu_v' h

theorem oLenS (t ty : TypeId) (c : Bool) (x : List UInt8) (h : P.underlying t = some .string) : pu P (oBuiltin .len #[t] ty #[c] #[S x]) K = K (.int .i64 x.length) :=
  pu_builtin K (s := Builtin.len_ #[t] ty #[S x]) rfl (by
    simp only [Builtin.len_]
    simp [rp_bind, rp_underlying h, S, goInt]; rfl)
theorem oLenL (t ty e : TypeId) (c : Bool) (a : Option Addr) (n m : Nat) (h : P.underlying t = some (.slice e)) : pu P (oBuiltin .len #[t] ty #[c] #[.slice a n m]) K = K (.int .i64 n) :=
  pu_builtin K (s := Builtin.len_ #[t] ty #[.slice a n m]) rfl (by
    simp only [Builtin.len_]
    simp [rp_bind, rp_underlying h, goInt])

theorem oIdxS (t : TypeId) (x : List UInt8) (k : IntKind) (i : Int) (h : P.underlying t = some .string) (h0 : 0 ≤ i) (h1 : i < x.length) :
    pu P (oIdx t (S x) (.int k i)) K = K (.int .u8 (x.getD i.toNat 0).toNat) :=
  pu_v' (by
    have hs : i.toNat < x.length := by omega
    have e : (ByteArray.mk x.toArray)[i.toNat]? = some (x.getD i.toNat 0) := by
      rw [ByteArray.getElem?_lt' _ _ (by show i.toNat < x.toArray.size; simpa using hs)]
      show some (x.toArray[i.toNat]'(by simpa using hs)) = _
      simp [List.getD, hs]
    simp only [Instr.index, S]
    simp [rp_bind, rp_underlying h, asIntOf, h0, e])

theorem oConvI {s d : TypeId} {k j : IntKind} {x : Int} (hs : P.underlying s = some (.int k)) (hd : P.underlying d = some (.int j)) : pu P (oConv s d (.int k x)) K = K (.int j (j.wrap x)) :=
  pu_v' (by
    unfold convert
    simp [rp_bind, rp_underlying hs, rp_underlying hd, Conv.intToInt])
@[go_sem] theorem oMaxI (t u ty : TypeId) (c1 c2 : Bool) (k : IntKind) (x y : Int) : pu P (oBuiltin .max #[t, u] ty #[c1, c2] #[.int k x, .int k y]) K = K (.int k (max x y)) :=
  pu_builtin K (s := Builtin.max2 (.int k x) (.int k y)) (by
    show X.v' (Builtin.max_ _ _ _) = _
    simp [Builtin.max_]) (by
    simp only [Builtin.max2, rp_pure]
    congr 2
    by_cases h : y > x
    · rw [if_pos h]; omega
    · rw [if_neg h]; omega)
@[go_sem] theorem oMinI (t u ty : TypeId) (c1 c2 : Bool) (k : IntKind) (x y : Int) : pu P (oBuiltin .min #[t, u] ty #[c1, c2] #[.int k x, .int k y]) K = K (.int k (min x y)) :=
  pu_builtin K (s := Builtin.min2 (.int k x) (.int k y)) (by
    show X.v' (Builtin.min_ _ _ _) = _
    simp [Builtin.min_]) (by
    simp only [Builtin.min2, rp_pure]
    congr 2
    by_cases h : y < x
    · rw [if_pos h]; omega
    · rw [if_neg h]; omega)
theorem rp_sliceBound (k : IntKind) (i : Int) (y : Nat) (code : BoundsCode) (h0 : 0 ≤ i) (h1 : i ≤ y) : rp P (Instr.sliceBound (.int k i) y code) = some i.toNat := by
  simp [Instr.sliceBound, asIntOf, rp_bind, h0, h1]

theorem ext_S (x : List UInt8) (a b : Nat) : (ByteArray.mk x.toArray).extract a b = ⟨((x.drop a).take (b - a)).toArray⟩ := ByteArray.extract_mk x a b
theorem size_S (x : List UInt8) : (ByteArray.mk x.toArray).size = x.length := by show x.toArray.size = _; simp

theorem oSliceS_lo (t : TypeId) (x : List UInt8) (k : IntKind) (i : Int) (h : P.underlying t = some .string) (h0 : 0 ≤ i) (h1 : i ≤ x.length) :
    pu P (oSlice t (S x) (some (.int k i)) none none) K = K (S (x.drop i.toNat)) :=
  pu_v' (by
    simp only [Instr.sliceAt, Instr.slice, S, Instr.sliceBounds]
    simp [rp_bind, rp_map, rp_underlying h, size_S, rp_sliceBound k i x.length _ h0 h1, ext_S]
    rw [List.take_of_length_le (by simp)])
theorem oSliceS_hi (t : TypeId) (x : List UInt8) (k : IntKind) (i : Int) (h : P.underlying t = some .string) (h0 : 0 ≤ i) (h1 : i ≤ x.length) :
    pu P (oSlice t (S x) none (some (.int k i)) none) K = K (S (x.take i.toNat)) :=
  pu_v' (by
    simp only [Instr.sliceAt, Instr.slice, S, Instr.sliceBounds]
    simp [rp_bind, rp_map, rp_underlying h, size_S, rp_sliceBound k i x.length _ h0 h1, ext_S])
theorem oSliceS (t : TypeId) (x : List UInt8) (k l : IntKind) (i j : Int) (h : P.underlying t = some .string) (h0 : 0 ≤ i) (h1 : i ≤ j) (h2 : j ≤ x.length) :
    pu P (oSlice t (S x) (some (.int k i)) (some (.int l j)) none) K = K (S ((x.drop i.toNat).take (j.toNat - i.toNat))) :=
  pu_v' (by
    have h3 : 0 ≤ j := by omega
    simp only [Instr.sliceAt, Instr.slice, S, Instr.sliceBounds]
    simp [rp_bind, rp_map, rp_underlying h, size_S, rp_sliceBound l j x.length _ h3 h2, ext_S, rp_sliceBound k i j.toNat _ h0 (by omega)])

/-! ### Fields and calls -/
theorem fldA_law {t : TypeId} {fields : Array Field} {f : Nat} {b o d : Nat} (h : P.underlying t = some (.struct fields)) (hf : (fields[f]?).map (fun x => (x.offset, P.cellsOf x.type == 0)) = some (d, false))
    (ha : (Addr.mk b o none).add d = ⟨b, o + d, none⟩) : pu P (oFldA t (.pointer (some ⟨b, o, none⟩)) f) K = K (.pointer (some ⟨b, o + d, none⟩)) :=
  pu_v' (by
    cases hx : fields[f]? with
    | none => rw [hx] at hf; cases hf
    | some fd =>
      rw [hx] at hf
      simp only [Option.map_some, Option.some.injEq, Prod.mk.injEq, beq_eq_false_iff_ne] at hf
      simp only [Instr.fieldAt, Instr.sureAddr, fieldPlace]
      have e : rp P (sizeOf fd.type) = some (P.cellsOf fd.type) := by
        have h2 := hf.2
        unfold Program.cellsOf at h2 ⊢
        cases hi : P.info? fd.type with
        | none => rw [hi] at h2; exact absurd rfl h2
        | some i => simp [sizeOf, typeInfo, rp_bind, hi]
      simp [rp_bind, rp_underlying h, hx, e, hf.2, hf.1, ha])

theorem st_call {f : FuncId} {fn : Func} {args : Array Value} {w : World} {K : Value → World → Prop} (hf : P.funcs[f]? = some fn) (hn : (fn.name == "runtime.NumGoroutine") = false) (hb : fn.body.isNone = false) :
    st P (oCall f args) w K = Cl P f args w K :=
  st_eq_enter (by
    unfold oCall callFunc
    simp only [Sem.run_bind, run_program, Result.andThen_ok, hf, hn, hb]
    rfl)

theorem st_extern {f : FuncId} {fn : Func} {args : Array Value} {w w' : World} {v : Value} {K : Value → World → Prop} {s : Array Value → Sem Value} (hf : P.funcs[f]? = some fn) (hn : (fn.name == "runtime.NumGoroutine") = false) (hb : fn.body.isNone = true)
    (he : (Extern.findNext fn).isNone = true) (hx : Extern.find fn = some s) (hr : (s args).run P w = .ok v w') : st P (oCall f args) w K = K v w' :=
  st_eq_value (by
    have he' : Extern.findNext fn = none := by simpa using he
    unfold oCall callFunc
    simp only [Sem.run_bind, run_program, Result.andThen_ok, hf, hn, hb, if_true, Bool.false_eq_true, if_false, run_mark, he', hx, hr, Sem.run_pure])

/-! ### Whole numbers stay as they are -/
theorem w_u32 {n : Int} (h0 : 0 ≤ n) (h1 : n ≤ 4294967295) : IntKind.u32.wrap n = n := by
  simp only [IntKind.wrap]; simp [IntKind.bits, IntKind.signed]; omega
theorem w_u64 {n : Int} (h0 : 0 ≤ n) (h1 : n ≤ 18446744073709551615) : IntKind.u64.wrap n = n := by
  simp only [IntKind.wrap]; simp [IntKind.bits, IntKind.signed]; omega
theorem w_u16 {n : Int} (h0 : 0 ≤ n) (h1 : n ≤ 65535) : IntKind.u16.wrap n = n := by
  simp only [IntKind.wrap]; simp [IntKind.bits, IntKind.signed]; omega
theorem w_u8 {n : Int} (h0 : 0 ≤ n) (h1 : n ≤ 255) : IntKind.u8.wrap n = n := by
  simp only [IntKind.wrap]; simp [IntKind.bits, IntKind.signed]; omega
theorem w_i64 {n : Int} (h0 : -9223372036854775808 ≤ n) (h1 : n ≤ 9223372036854775807) : IntKind.i64.wrap n = n := by
  simp only [IntKind.wrap]; simp [IntKind.bits, IntKind.signed]; omega
end
end Go.X
