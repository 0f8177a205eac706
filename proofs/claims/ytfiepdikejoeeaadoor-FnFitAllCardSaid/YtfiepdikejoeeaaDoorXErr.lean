/- Error values: interface values held against one another and asserted. No condition. -/
import Derived.Test.YtfiepdikejoeeaaDoorXDeep
import Derived.LaidEql
set_option linter.unusedVariables false
set_option linter.unusedSimpArgs false
namespace Go.X
open Go Go.RowKit
section
variable {P : Program} {K : Value → Prop} {L : Value → World → Prop}
@[go_sem high] theorem gd_undef (want : Bool) (w : World) (X : (Value → World → Prop) → Prop) (K : Value → World → Prop) : gd undef want w X K = K undef w :=
  propext ⟨fun x => x.h, fun x => ⟨x⟩⟩
/-- What the program says of an interface type and a pointer type whose values it may hold. -/
structure ErrT (P : Program) (ti tp te : TypeId) : Prop where
  hi : ∃ ms, P.underlying ti = some (.interface ms)
  hp : P.underlying tp = some (.pointer te)
  hc : (P.info? tp).map (·.comparable) = some true
  hs : (P.info? te).map (fun j => j.size != 0) = some true
theorem oEqlNil {t : TypeId} {ms : Array (String × TypeId)} (h : P.underlying t = some (.interface ms)) (cx : Bool) : pu P (oBin .eql t cx true .nilIface .nilIface) K = K (.bool true) :=
  pu_v' (by
    have e : rp P (eqGuard .eql t (fl cx) (fl true) .nilIface .nilIface) = some () := by unfold eqGuard; cases cx <;> rfl
    rw [rp_bind, e]
    show rp P (binOp .eql t .nilIface .nilIface) = _
    have h2 : ∀ d : Nat, rp P (Op.equalIn (d + 1) t .nilIface .nilIface) = some true := fun d => by simp [Op.equalIn, rp_bind, rp_underlying h]
    simp only [binOp]
    simp [Op.equal, Op.maxDepth, h2 9999, rp_bind, rp_map])
theorem oEqlNil2 {t : TypeId} {ms : Array (String × TypeId)} (h : P.underlying t = some (.interface ms)) (cx cy : Bool) (u : TypeId) (v : Value) : pu P (oBin .eql t cx cy (.iface u v) .nilIface) K = K (.bool false) :=
  pu_v' (by
    have e : rp P (eqGuard .eql t (fl cx) (fl cy) (.iface u v) .nilIface) = some () := by unfold eqGuard; rfl
    rw [rp_bind, e]
    show rp P (binOp .eql t (.iface u v) .nilIface) = _
    have h2 : ∀ d : Nat, rp P (Op.equalIn (d + 1) t (.iface u v) .nilIface) = some false := fun d => by simp [Op.equalIn, rp_bind, rp_underlying h]
    simp only [binOp]
    simp [Op.equal, Op.maxDepth, h2 9999, rp_bind, rp_map])
theorem oNeqNil {t : TypeId} {ms : Array (String × TypeId)} (h : P.underlying t = some (.interface ms)) (cx : Bool) : pu P (oBin .neq t cx true .nilIface .nilIface) K = K (.bool false) :=
  pu_v' (by
    have e : rp P (eqGuard .neq t (fl cx) (fl true) .nilIface .nilIface) = some () := by unfold eqGuard; cases cx <;> rfl
    rw [rp_bind, e]
    show rp P (binOp .neq t .nilIface .nilIface) = _
    have h2 : ∀ d : Nat, rp P (Op.equalIn (d + 1) t .nilIface .nilIface) = some true := fun d => by simp [Op.equalIn, rp_bind, rp_underlying h]
    simp only [binOp]
    simp [Op.equal, Op.maxDepth, h2 9999, rp_bind, rp_map])
theorem oNeqNil2 {t : TypeId} {ms : Array (String × TypeId)} (h : P.underlying t = some (.interface ms)) (cx cy : Bool) (u : TypeId) (v : Value) : pu P (oBin .neq t cx cy (.iface u v) .nilIface) K = K (.bool true) :=
  pu_v' (by
    have e : rp P (eqGuard .neq t (fl cx) (fl cy) (.iface u v) .nilIface) = some () := by unfold eqGuard; rfl
    rw [rp_bind, e]
    show rp P (binOp .neq t (.iface u v) .nilIface) = _
    have h2 : ∀ d : Nat, rp P (Op.equalIn (d + 1) t (.iface u v) .nilIface) = some false := fun d => by simp [Op.equalIn, rp_bind, rp_underlying h]
    simp only [binOp]
    simp [Op.equal, Op.maxDepth, h2 9999, rp_bind, rp_map])
theorem oAssertNil {t ta te : TypeId} (h : P.underlying ta = some (.pointer te)) (hz : (P.info? ta).map (·.zero) = some (some (.pointer none))) : pu P (oAssert .nilIface t ta true) K = K (tup [.pointer none, .bool false]) :=
  pu_v' (by
    cases hi : P.info? ta with
    | none => rw [hi] at hz; cases hz
    | some i =>
      rw [hi] at hz
      simp only [Option.map_some, Option.some.injEq] at hz
      simp [Instr.typeAssert, rp_bind, rp_underlying h, zeroValue, typeInfo, hi, hz, rp_map, tup])
theorem oAssertSame {t ta te : TypeId} (h : P.underlying ta = some (.pointer te)) (v : Value) : pu P (oAssert (.iface ta v) t ta true) K = K (tup [v, .bool true]) :=
  pu_v' (by simp [Instr.typeAssert, rp_bind, rp_underlying h, tup])
theorem oAssertOther {t ta te tb : TypeId} (h : P.underlying ta = some (.pointer te)) (hz : (P.info? ta).map (·.zero) = some (some (.pointer none))) (hne : tb ≠ ta) (v : Value) : pu P (oAssert (.iface tb v) t ta true) K = K (tup [.pointer none, .bool false]) :=
  pu_v' (by
    cases hi : P.info? ta with
    | none => rw [hi] at hz; cases hz
    | some i =>
      rw [hi] at hz
      simp only [Option.map_some, Option.some.injEq] at hz
      simp [Instr.typeAssert, rp_bind, rp_underlying h, zeroValue, typeInfo, hi, hz, rp_map, tup, hne])
/-- Two errors of one pointer type. -/
theorem stEqlErr {ti tp te : TypeId} (T : ErrT P ti tp te) (cx cy : Bool) {w : World} {b o b' o' : Nat} {l l' : List Value} {t t' : TypeId} (h1 : bk w b = some (CB l t)) (h2 : bk w b' = some (CB l' t')) :
    st P (oBin .eql ti cx cy (.iface tp (pt b o)) (.iface tp (pt b' o'))) w L = L (.bool (decide (b = b' ∧ o = o'))) w := by
  obtain ⟨⟨ms, hi⟩, hp, hc, hs⟩ := T
  cases e1 : P.info? tp with
  | none => rw [e1] at hc; cases hc
  | some i =>
  cases e2 : P.info? te with
  | none => rw [e2] at hs; cases hs
  | some j =>
  rw [e1] at hc
  rw [e2] at hs
  simp only [Option.map_some, Option.some.injEq, bne_iff_ne] at hc hs
  refine st_eq_value (run_v' ?_)
  have g : (eqGuard .eql ti (fl cx) (fl cy) (.iface tp (pt b o)) (.iface tp (pt b' o'))).run P w = .ok () w := by unfold eqGuard; rfl
  show (eqGuard .eql ti (fl cx) (fl cy) (.iface tp (pt b o)) (.iface tp (pt b' o')) >>= fun _ => binOp .eql ti (.iface tp (pt b o)) (.iface tp (pt b' o'))).run P w = _
  rw [Sem.run_bind, g]
  show (binOp .eql ti (.iface tp (pt b o)) (.iface tp (pt b' o'))).run P w = _
  by_cases q : b = b' ∧ o = o'
  · obtain ⟨rfl, rfl⟩ := q
    rw [decide_eq_true ⟨rfl, rfl⟩]
    exact run_eql_iface_ptr_same w ⟨b, o, none⟩ hi hp e1 hc e2
  · rw [decide_eq_false q]
    refine run_eql_iface_ptr_other w hi hp e1 hc e2 hs ?_ h1 h2
    intro e
    injection e with e3 e4
    exact q ⟨e3, e4⟩
/-- Two errors of two types. -/
theorem stEqlErrT {ti tp tq : TypeId} {ms : Array (String × TypeId)} (hi : P.underlying ti = some (.interface ms)) (hne : tp ≠ tq) (cx cy : Bool) (w : World) (x y : Value) :
    st P (oBin .eql ti cx cy (.iface tp x) (.iface tq y)) w L = L (.bool false) w := by
  refine st_eq_value (run_v' ?_)
  have g : (eqGuard .eql ti (fl cx) (fl cy) (.iface tp x) (.iface tq y)).run P w = .ok () w := by unfold eqGuard; rfl
  show (eqGuard .eql ti (fl cx) (fl cy) (.iface tp x) (.iface tq y) >>= fun _ => binOp .eql ti (.iface tp x) (.iface tq y)).run P w = _
  rw [Sem.run_bind, g]
  show (binOp .eql ti (.iface tp x) (.iface tq y)).run P w = _
  simp only [binOp]
  have h : ∀ d : Nat, (Op.equalIn (d + 1) ti (.iface tp x) (.iface tq y)).run P w = .ok false w := fun d => by simp [Op.equalIn, run_underlying hi, hne]
  simp [Op.equal, Op.maxDepth, h 9999]
theorem stEqlNil {t : TypeId} {ms : Array (String × TypeId)} (h : P.underlying t = some (.interface ms)) (cx cy : Bool) (w : World) (u : TypeId) (v : Value) : st P (oBin .eql t cx cy (.iface u v) .nilIface) w L = L (.bool false) w := by
  refine st_eq_value (run_v' ?_)
  have g : (eqGuard .eql t (fl cx) (fl cy) (.iface u v) .nilIface).run P w = .ok () w := by unfold eqGuard; rfl
  show (eqGuard .eql t (fl cx) (fl cy) (.iface u v) .nilIface >>= fun _ => binOp .eql t (.iface u v) .nilIface).run P w = _
  rw [Sem.run_bind, g]
  show (binOp .eql t (.iface u v) .nilIface).run P w = _
  simp only [binOp]
  have h2 : ∀ d : Nat, (Op.equalIn (d + 1) t (.iface u v) .nilIface).run P w = .ok false w := fun d => by simp [Op.equalIn, run_underlying h]
  simp [Op.equal, Op.maxDepth, h2 9999]
end
end Go.X
