/- Laws on memory, block by block: what is laid, read and written. No condition. -/
import Derived.Test.YtfiepdikejoeeaaDoorXLaws
import Derived.Deep.MidRow
import Derived.Below
set_option linter.unusedVariables false
set_option linter.unusedSimpArgs false
namespace Go.X
open Go Go.RowKit

/-- The block with this number. -/
def bk (w : World) (b : Nat) : Option Obj := w.heap[b]?
/-- A block of cells, none of them marked. -/
abbrev CB (l : List Value) (t : TypeId) : Obj := .cells l.toArray t (0, 0)
/-- A struct's or an array's value. -/
def AG (l : List Value) : Value := .agg l.toArray
/-- A pointer to a cell. -/
abbrev pt (b o : Nat) : Value := .pointer (some ⟨b, o, none⟩)
/-- The block with this number turned. -/
def setb (w : World) (b : Nat) (o : Obj) : World := { w with heap := w.heap.setIfInBounds b o }

theorem bk_lt {w : World} {b : Nat} {o : Obj} (h : bk w b = some o) : b < w.heap.size := by
  unfold bk at h
  exact (Array.getElem?_eq_some_iff.1 h).1
@[go_sem] theorem bk_drew (w : World) (b : Nat) : bk w.drew b = bk w b := rfl
@[go_sem] theorem bk_alloc_eq (w : World) (o : Obj) (b : Nat) (h : b = w.heap.size) : bk (w.alloc o) b = some o := by
  subst h; show (w.heap.push o)[w.heap.size]? = _; simp
@[go_sem] theorem bk_alloc_ne (w : World) (o : Obj) (b : Nat) (h : b ≠ w.heap.size) : bk (w.alloc o) b = bk w b := by
  show (w.heap.push o)[b]? = w.heap[b]?
  rw [Array.getElem?_push, if_neg h]
@[go_sem] theorem size_setb (w : World) (b : Nat) (o : Obj) : (setb w b o).heap.size = w.heap.size := by simp [setb]
@[go_sem] theorem size_alloc' (w : World) (o : Obj) : (w.alloc o).heap.size = w.heap.size + 1 := World.size_alloc w o
@[go_sem] theorem size_drew' (w : World) : w.drew.heap.size = w.heap.size := rfl
@[go_sem] theorem bk_setb_eq (w : World) (b b' : Nat) (o : Obj) (h : b' = b) (hb : b < w.heap.size) : bk (setb w b o) b' = some o := by
  subst h; unfold bk setb; simp [hb]
@[go_sem] theorem bk_setb_ne (w : World) (b b' : Nat) (o : Obj) (h : b' ≠ b) : bk (setb w b o) b' = bk w b' := by
  unfold bk setb; simp [Array.getElem?_setIfInBounds_ne (Ne.symm h)]

def cellOf (o : Option Obj) (i : Nat) : Option Value :=
  match o with
  | some (.cells c _ _) => c[i]?
  | _ => none
def frzOf (o : Option Obj) (i : Nat) : Bool :=
  match o with
  | some (.cells _ _ (lo, hi)) => lo ≤ i && i < hi
  | _ => false
def rowOf (o : Option Obj) (i n : Nat) : Option (List Value) :=
  match o with
  | some (.cells c _ _) => if i + n ≤ c.size then some ((c.toList.drop i).take n) else none
  | _ => none
def stoOf (o : Option Obj) (i : Nat) (x : Value) : Option Obj :=
  match o with
  | some (.cells c e fz) => if i < c.size ∧ frzOf (some (.cells c e fz)) i = false ∧ x.oneCell' = true then some (.cells (c.setIfInBounds i x) e fz) else none
  | _ => none
def stoNOf (o : Option Obj) (i n : Nat) (xs : List Value) : Option Obj :=
  match o with
  | some (.cells c e (0, 0)) => if i + n ≤ c.size ∧ xs.length = n ∧ xs.all (·.oneCell') = true then some (.cells (c.toList.take i ++ xs ++ c.toList.drop (i + n)).toArray e (0, 0)) else none
  | _ => none
def optE {α : Type} (o : Option α) (K : α → Prop) (far : Prop) : Prop :=
  match o with
  | some v => K v
  | none => far
theorem optE_some {α : Type} (v : α) (K : α → Prop) (far : Prop) : optE (some v) K far = K v := rfl
@[go_sem] theorem cellOf_CB (l : List Value) (t : TypeId) (i : Nat) : cellOf (some (CB l t)) i = l[i]? := by simp [cellOf]
theorem rowOf_CB (l : List Value) (t : TypeId) (i n : Nat) (h : i + n ≤ l.length) : rowOf (some (CB l t)) i n = some ((l.drop i).take n) := by simp [rowOf, h]
theorem stoOf_CB (l : List Value) (t : TypeId) (i : Nat) (x : Value) (h : i < l.length) : stoOf (some (CB l t)) i x = if x.oneCell' = true then some (CB (l.set i x) t) else none := by simp [stoOf, h, frzOf]
theorem stoNOf_CB (l : List Value) (t : TypeId) (i n : Nat) (xs : List Value) (h : i + n ≤ l.length) : stoNOf (some (CB l t)) i n xs = if xs.length = n ∧ xs.all (·.oneCell') = true then some (CB (l.take i ++ xs ++ l.drop (i + n)) t) else none := by
  simp only [stoNOf, List.size_toArray, h, true_and]

/-! ### Lists of cells, looked at place by place -/
def takeL : List Value → Nat → Option (List Value)
  | _, 0 => some []
  | [], _ + 1 => none
  | a :: l, n + 1 => (takeL l n).map (a :: ·)
def rowL : List Value → Nat → Nat → Option (List Value)
  | l, 0, n => takeL l n
  | [], _ + 1, _ => none
  | _ :: l, i + 1, n => rowL l i n
def setL : List Value → Nat → Value → Option (List Value)
  | [], _, _ => none
  | _ :: l, 0, x => some (x :: l)
  | a :: l, n + 1, x => (setL l n x).map (a :: ·)
def overL : List Value → Nat → List Value → Option (List Value)
  | l, 0, [] => some l
  | _ :: l, n + 1, x :: xs => (overL l n xs).map (x :: ·)
  | _, _, _ => none
def putL : List Value → Nat → Nat → List Value → Option (List Value)
  | l, 0, n, xs => overL l n xs
  | [], _ + 1, _, _ => none
  | a :: l, i + 1, n, xs => (putL l i n xs).map (a :: ·)
@[go_sem] theorem takeL_0 (l : List Value) : takeL l 0 = some [] := by cases l <;> rfl
@[go_sem] theorem takeL_s (a : Value) (l : List Value) (n : Nat) : takeL (a :: l) (n + 1) = (takeL l n).map (a :: ·) := rfl
@[go_sem] theorem rowL_0 (l : List Value) (n : Nat) : rowL l 0 n = takeL l n := by cases l <;> rfl
@[go_sem] theorem rowL_s (a : Value) (l : List Value) (i n : Nat) : rowL (a :: l) (i + 1) n = rowL l i n := rfl
@[go_sem] theorem setL_0 (a x : Value) (l : List Value) : setL (a :: l) 0 x = some (x :: l) := rfl
@[go_sem] theorem setL_s (a x : Value) (l : List Value) (n : Nat) : setL (a :: l) (n + 1) x = (setL l n x).map (a :: ·) := rfl
@[go_sem] theorem overL_0 (l : List Value) : overL l 0 [] = some l := by cases l <;> rfl
@[go_sem] theorem overL_s (a x : Value) (l xs : List Value) (n : Nat) : overL (a :: l) (n + 1) (x :: xs) = (overL l n xs).map (x :: ·) := rfl
@[go_sem] theorem putL_0 (l xs : List Value) (n : Nat) : putL l 0 n xs = overL l n xs := by cases l <;> rfl
@[go_sem] theorem putL_s (a : Value) (l xs : List Value) (i n : Nat) : putL (a :: l) (i + 1) n xs = (putL l i n xs).map (a :: ·) := rfl
theorem takeL_eq : ∀ (l : List Value) (n : Nat), takeL l n = if n ≤ l.length then some (l.take n) else none
  | l, 0 => by simp [takeL_0]
  | [], n + 1 => rfl
  | a :: l, n + 1 => by
    rw [takeL_s, takeL_eq l n]
    by_cases h : n ≤ l.length <;> simp [h]
theorem rowL_eq : ∀ (l : List Value) (i n : Nat), rowL l i n = if i + n ≤ l.length ∧ i ≤ l.length then some ((l.drop i).take n) else none
  | l, 0, n => by rw [rowL_0, takeL_eq]; simp
  | [], i + 1, n => by simp [rowL]
  | a :: l, i + 1, n => by
    rw [rowL_s, rowL_eq l i n]
    have e : (i + 1 + n ≤ (a :: l).length ∧ i + 1 ≤ (a :: l).length) ↔ (i + n ≤ l.length ∧ i ≤ l.length) := by simp; omega
    simp only [e, List.drop_succ_cons]
theorem setL_eq : ∀ (l : List Value) (i : Nat) (x : Value), setL l i x = if i < l.length then some (l.set i x) else none
  | [], i, x => by simp [setL]
  | a :: l, 0, x => by simp [setL]
  | a :: l, n + 1, x => by
    rw [setL_s, setL_eq l n x]
    by_cases h : n < l.length <;> simp [h]
theorem overL_eq : ∀ (l : List Value) (n : Nat) (xs : List Value), overL l n xs = if xs.length = n ∧ n ≤ l.length then some (xs ++ l.drop n) else none
  | l, 0, [] => by simp [overL_0]
  | l, 0, x :: xs => by simp [overL]
  | [], n + 1, xs => by simp [overL]
  | a :: l, n + 1, [] => by simp [overL]
  | a :: l, n + 1, x :: xs => by
    rw [overL_s, overL_eq l n xs]
    by_cases h : xs.length = n ∧ n ≤ l.length
    · simp [h]
    · rw [if_neg h, if_neg (by simpa using h)]; rfl
theorem putL_eq : ∀ (l : List Value) (i n : Nat) (xs : List Value), putL l i n xs = if i + n ≤ l.length ∧ xs.length = n then some (l.take i ++ xs ++ l.drop (i + n)) else none
  | l, 0, n, xs => by rw [putL_0, overL_eq]; simp [and_comm]
  | [], i + 1, n, xs => by
    simp only [putL]
    rw [if_neg (by simp)]
  | a :: l, i + 1, n, xs => by
    rw [putL_s, putL_eq l i n xs]
    by_cases h : i + n ≤ l.length ∧ xs.length = n
    · rw [if_pos h, if_pos (by simp; omega)]
      simp [show i + 1 + n = i + n + 1 by omega]
    · rw [if_neg h, if_neg (by simp; omega)]; rfl
@[go_sem low] theorem rowL_le (l : List Value) (i n : Nat) (h : i + n ≤ l.length) : rowL l i n = some ((l.drop i).take n) := by rw [rowL_eq, if_pos ⟨h, by omega⟩]
@[go_sem low] theorem setL_lt (l : List Value) (i : Nat) (x : Value) (h : i < l.length) : setL l i x = some (l.set i x) := by rw [setL_eq, if_pos h]
@[go_sem] theorem rowOf_L (l : List Value) (t : TypeId) (i n : Nat) (h : 0 < n) : rowOf (some (CB l t)) i n = rowL l i n := by
  rw [rowL_eq]
  simp only [rowOf, List.size_toArray]
  by_cases h1 : i + n ≤ l.length
  · rw [if_pos h1, if_pos ⟨h1, by omega⟩]
  · rw [if_neg h1, if_neg (by omega)]
@[go_sem] theorem stoOf_L (l : List Value) (t : TypeId) (i : Nat) (x : Value) : stoOf (some (CB l t)) i x = bif x.oneCell' then (setL l i x).map (CB · t) else none := by
  rw [setL_eq]
  by_cases h1 : i < l.length <;> by_cases h2 : x.oneCell' = true <;> simp [stoOf, h1, h2, frzOf]
@[go_sem] theorem stoNOf_L (l : List Value) (t : TypeId) (i n : Nat) (xs : List Value) : stoNOf (some (CB l t)) i n xs = bif xs.all (·.oneCell') then (putL l i n xs).map (CB · t) else none := by
  rw [putL_eq]
  simp only [stoNOf, List.size_toArray]
  by_cases h1 : i + n ≤ l.length <;> by_cases h2 : xs.length = n <;> by_cases h3 : xs.all (·.oneCell') = true <;> simp [h1, h2, h3]
attribute [go_sem] Option.map_some Option.isSome_some Option.getD_some cond_true List.getElem?_cons_zero List.getElem?_cons_succ Nat.zero_add Nat.add_zero List.all_cons List.all_nil Bool.and_self Bool.and_true Bool.true_and Option.bind_some
theorem optE_getD {α : Type} {o : Option α} (d : α) {K : α → Prop} {far : Prop} (h : o.isSome = true) : optE o K far = K (o.getD d) := by
  cases o with
  | none => cases h
  | some v => rfl
/-- No block. -/
def noBk : Obj := .cells #[] 0 (0, 0)

theorem cell?_eq (w : World) (b o : Nat) : w.cell? ⟨b, o, none⟩ = cellOf (bk w b) o := by
  unfold World.cell? bk cellOf
  cases w.heap[b]? with
  | none => rfl
  | some ob => cases ob <;> rfl
theorem frozen?_eq (w : World) (b o : Nat) : w.frozen? ⟨b, o, none⟩ = frzOf (bk w b) o := by
  unfold World.frozen? bk frzOf
  cases w.heap[b]? with
  | none => rfl
  | some ob => cases ob <;> rfl
theorem setCell_eq (w : World) (b o : Nat) (x : Value) {c : Array Value} {e : TypeId} {fz : Nat × Nat} (h : bk w b = some (.cells c e fz)) : w.setCell ⟨b, o, none⟩ x = setb w b (.cells (c.setIfInBounds o x) e fz) := by
  have hlt := bk_lt h
  unfold bk at h
  unfold World.setCell setb
  congr 1
  apply Array.ext_getElem?
  intro i
  rw [Array.getElem?_modify]
  by_cases e1 : b = i
  · subst e1
    rw [if_pos rfl, h, Array.getElem?_setIfInBounds_self_of_lt hlt]; rfl
  · rw [if_neg e1, Array.getElem?_setIfInBounds_ne e1]

theorem setb_setb (w : World) (b : Nat) (o o' : Obj) : setb (setb w b o) b o' = setb w b o' := by
  unfold setb; simp

theorem setCells_eq (b : Nat) {e : TypeId} {fz : Nat × Nat} : ∀ (vs : List Value) (o : Nat) (w : World) (c : List Value), bk w b = some (.cells c.toArray e fz) → o + vs.length ≤ c.length →
    w.setCells b o vs = setb w b (.cells (c.take o ++ vs ++ c.drop (o + vs.length)).toArray e fz)
  | [], o, w, c, h, hl => by
    have hlt := bk_lt h
    simp only [World.setCells, List.append_nil, List.length_nil, Nat.add_zero, List.take_append_drop]
    unfold bk at h
    unfold setb
    cases w
    congr 1
    apply Array.ext_getElem?
    intro i
    by_cases e1 : b = i
    · subst e1; rw [Array.getElem?_setIfInBounds_self_of_lt hlt]; exact h
    · rw [Array.getElem?_setIfInBounds_ne e1]
  | v :: vs, o, w, c, h, hl => by
    have hlt := bk_lt h
    simp only [List.length_cons] at hl
    simp only [World.setCells]
    rw [setCell_eq w b o v h]
    rw [setCells_eq (e := e) (fz := fz) b vs (o + 1) _ (c.set o v) (by rw [bk_setb_eq _ _ _ _ rfl hlt]; simp) (by simp; omega), setb_setb]
    have e1 : (c.set o v).take (o + 1) = c.take o ++ [v] := by
      have ho : o < c.length := by omega
      apply List.ext_getElem (by simp; omega)
      intro i h1 h2
      simp only [List.getElem_take, List.getElem_set, List.getElem_append, List.length_take, List.getElem_singleton]
      have hi : i < o + 1 := by simp at h1; omega
      by_cases e1 : o = i
      · subst e1; simp; intro h; omega
      · have : i < min o c.length := by omega
        simp [e1, this]
    have e2 : (c.set o v).drop (o + 1 + vs.length) = c.drop (o + (v :: vs).length) := by
      apply List.ext_getElem?
      intro i
      simp only [List.getElem?_drop, List.length_cons]
      rw [List.getElem?_set_ne (by omega)]
      congr 1; omega
    rw [e1, e2]; simp

section
variable {P : Program} (K : Value → World → Prop) (w : World)

theorem ptr_st (b o : Nat) : pt b o = .pointer (some ⟨b, o, none⟩) := rfl

/-- What a look beyond the block's cells comes to: never asked. -/
def farK (P : Program) (s : Sem Next) (w : World) (K : Value → World → Prop) : Prop := st P s w K
def farR (P : Program) (s : Sem Next) (w : World) (K : Value → Prop) : Prop := rd P s w K
def farH (P : Program) (s : Sem Next) (v : Value) (w : World) : Prop := hold P s v w
def farP (P : Program) (s : Sem Next) (K : Value → Prop) : Prop := pu P s K
def farL (P : Program) (t : TypeId) (x : Value) (w : World) (K : Value → Prop) : Prop := rsl P t x w K

theorem run_load1 {t : TypeId} {d : TypeDesc} (h : P.underlying t = some d) (hd : d.isRow = false) {b o : Nat} {v : Value} (hv : cellOf (bk w b) o = some v) : (loadVar t ⟨b, o, none⟩).run P w = .ok v w := by
  rw [← cell?_eq] at hv
  have hagg : (isAgg t).run P w = .ok false w := by
    unfold isAgg
    rw [Sem.run_bind, run_underlying h w]
    cases d <;> simp_all
  simp [loadVar, Sem.run_bind, hagg, hv]
theorem run_loadN {t : TypeId} {d : TypeDesc} {n : Nat} (h : P.underlying t = some d) (hd : d.isRow = true) (hn : (P.info? t).map (·.size) = some n) {b o : Nat} {l : List Value} (hv : rowOf (bk w b) o n = some l) :
    (loadVar t ⟨b, o, none⟩).run P w = .ok (AG l) w := by
  unfold rowOf at hv
  cases hb : bk w b with
  | none => rw [hb] at hv; cases hv
  | some ob =>
    rw [hb] at hv
    cases ob with
    | cells c e fz =>
      simp only at hv
      by_cases hle : o + n ≤ c.size
      · rw [if_pos hle] at hv
        injection hv with hv
        have hlen : l.length = n := by rw [← hv]; simp; omega
        refine run_loadVar_mid w b o t l d (fun j v hj => ?_) h hd (by rw [hlen]; exact hn)
        rw [cell?_eq, hb]
        show c[o + j]? = some v
        rw [← hv] at hj
        have hjn : j < n := by have := (List.getElem?_eq_some_iff.1 hj).1; simp at this; omega
        rw [List.getElem?_take_of_lt hjn, List.getElem?_drop] at hj
        simpa using hj
      · rw [if_neg hle] at hv; cases hv
    | _ => simp at hv

theorem oLoad1 {t : TypeId} {d : TypeDesc} (h : P.underlying t = some d) (hd : d.isRow = false) (b o : Nat) :
    st P (oLoad t (pt b o)) w K = optE (cellOf (bk w b) o) (fun v => K v w) (farK P (oLoad t (pt b o)) w K) := by
  cases hv : cellOf (bk w b) o with
  | none => rfl
  | some v => exact st_eq_value (run_v' (by simp only [Instr.loadAt, Instr.sureAddr, Sem.run_bind, Sem.run_pure, Result.andThen_ok]; exact run_load1 w h hd hv))
theorem oLoadN {t : TypeId} {d : TypeDesc} {n : Nat} (h : P.underlying t = some d) (hd : d.isRow = true) (hn : (P.info? t).map (·.size) = some n) (b o : Nat) :
    st P (oLoad t (pt b o)) w K = optE (rowOf (bk w b) o n) (fun l => K (AG l) w) (farK P (oLoad t (pt b o)) w K) := by
  cases hv : rowOf (bk w b) o n with
  | none => rfl
  | some v => exact st_eq_value (run_v' (by simp only [Instr.loadAt, Instr.sureAddr, Sem.run_bind, Sem.run_pure, Result.andThen_ok]; exact run_loadN w h hd hn hv))
theorem rLoad1 (K : Value → Prop) {t : TypeId} {d : TypeDesc} (h : P.underlying t = some d) (hd : d.isRow = false) (b o : Nat) :
    rd P (oLoad t (pt b o)) w K = optE (cellOf (bk w b) o) K (farR P (oLoad t (pt b o)) w K) := by
  cases hv : cellOf (bk w b) o with
  | none => rfl
  | some v => exact rd_eq (run_v' (by simp only [Instr.loadAt, Instr.sureAddr, Sem.run_bind, Sem.run_pure, Result.andThen_ok]; exact run_load1 w h hd hv))
theorem rLoadN (K : Value → Prop) {t : TypeId} {d : TypeDesc} {n : Nat} (h : P.underlying t = some d) (hd : d.isRow = true) (hn : (P.info? t).map (·.size) = some n) (b o : Nat) :
    rd P (oLoad t (pt b o)) w K = optE (rowOf (bk w b) o n) (fun l => K (AG l)) (farR P (oLoad t (pt b o)) w K) := by
  cases hv : rowOf (bk w b) o n with
  | none => rfl
  | some v => exact rd_eq (run_v' (by simp only [Instr.loadAt, Instr.sureAddr, Sem.run_bind, Sem.run_pure, Result.andThen_ok]; exact run_loadN w h hd hn hv))
theorem hLoad1 (v' : Value) {t : TypeId} {d : TypeDesc} (h : P.underlying t = some d) (hd : d.isRow = false) (b o : Nat) :
    hold P (oLoad t (pt b o)) v' w = optE (cellOf (bk w b) o) (fun v => v = v') (farH P (oLoad t (pt b o)) v' w) := by
  cases hv : cellOf (bk w b) o with
  | none => rfl
  | some v => exact hold_eq (run_v' (by simp only [Instr.loadAt, Instr.sureAddr, Sem.run_bind, Sem.run_pure, Result.andThen_ok]; exact run_load1 w h hd hv))
theorem hLoadN (v' : Value) {t : TypeId} {d : TypeDesc} {n : Nat} (h : P.underlying t = some d) (hd : d.isRow = true) (hn : (P.info? t).map (·.size) = some n) (b o : Nat) :
    hold P (oLoad t (pt b o)) v' w = optE (rowOf (bk w b) o n) (fun l => AG l = v') (farH P (oLoad t (pt b o)) v' w) := by
  cases hv : rowOf (bk w b) o n with
  | none => rfl
  | some v => exact hold_eq (run_v' (by simp only [Instr.loadAt, Instr.sureAddr, Sem.run_bind, Sem.run_pure, Result.andThen_ok]; exact run_loadN w h hd hn hv))
theorem rsl1 (K : Value → Prop) {t : TypeId} {d : TypeDesc} (h : P.underlying t = some d) (hd : d.isRow = false) (b o : Nat) :
    rsl P t (pt b o) w K = optE (cellOf (bk w b) o) K (farL P t (pt b o) w K) := by
  cases hv : cellOf (bk w b) o with
  | none => rfl
  | some v =>
    have hr : (do loadVar t (← asAddr (pt b o)) : Sem Value).run P w = .ok v w := by
      have := run_load1 w h hd hv
      simpa [asAddr] using this
    exact propext ⟨fun x => by obtain ⟨v', h', k⟩ := x.h; rw [hr] at h'; injection h' with h1; subst h1; exact k, fun x => ⟨⟨v, hr, x⟩⟩⟩
theorem rslN (K : Value → Prop) {t : TypeId} {d : TypeDesc} {n : Nat} (h : P.underlying t = some d) (hd : d.isRow = true) (hn : (P.info? t).map (·.size) = some n) (b o : Nat) :
    rsl P t (pt b o) w K = optE (rowOf (bk w b) o n) (fun l => K (AG l)) (farL P t (pt b o) w K) := by
  cases hv : rowOf (bk w b) o n with
  | none => rfl
  | some v =>
    have hr : (do loadVar t (← asAddr (pt b o)) : Sem Value).run P w = .ok (AG v) w := by
      have := run_loadN w h hd hn hv
      simpa [asAddr] using this
    exact propext ⟨fun x => by obtain ⟨v', h', k⟩ := x.h; rw [hr] at h'; injection h' with h1; subst h1; exact k, fun x => ⟨⟨_, hr, x⟩⟩⟩

theorem run_store1 {t : TypeId} (hn : (P.info? t).map (·.size) = some 1) {b o : Nat} {x : Value} {ob : Obj} (hv : stoOf (bk w b) o x = some ob) : (storeVar t ⟨b, o, none⟩ x).run P w = .ok () (setb w b ob) := by
  unfold stoOf at hv
  cases hb : bk w b with
  | none => rw [hb] at hv; cases hv
  | some ob' =>
    rw [hb] at hv
    cases ob' with
    | cells c e fz =>
      simp only at hv
      by_cases hle : o < c.size ∧ frzOf (some (.cells c e fz)) o = false ∧ x.oneCell' = true
      · rw [if_pos hle] at hv
        have hx := hle.2.2
        injection hv with hv
        have hcells : x.cells = #[x] := by cases x <;> first | rfl | (simp [Value.oneCell'] at hx)
        have hc : w.cell? ⟨b, o, none⟩ = some c[o] := by rw [cell?_eq, hb]; show c[o]? = _; simp [hle.1]
        have hf : w.frozen? ⟨b, o, none⟩ = false := by rw [frozen?_eq, hb]; exact hle.2.1
        cases hq : P.info? t with
        | none => simp [hq] at hn
        | some i =>
          have hs : i.size = 1 := by simpa [hq] using hn
          have hst : (store ⟨b, o, none⟩ x).run P w = .ok () (setb w b ob) := by
            rw [run_store P w _ x _ hx, hc]
            simp only [hf, Bool.false_eq_true, if_false]
            rw [setCell_eq w b o x hb, hv]
          have hadd : (Addr.mk b o none).add 0 = ⟨b, o, none⟩ := rfl
          simp [storeVar, Sem.run_bind, sizeOf, typeInfo, hq, hs, hcells, storeCells, hadd, hst]
      · rw [if_neg hle] at hv; cases hv
    | _ => simp at hv
theorem run_storeN {t : TypeId} {n : Nat} {xs : List Value} (hn : (P.info? t).map (·.size) = some n) {b o : Nat} {ob : Obj} (hv : stoNOf (bk w b) o n xs = some ob) :
    (storeVar t ⟨b, o, none⟩ (AG xs)).run P w = .ok () (setb w b ob) := by
  unfold stoNOf at hv
  cases hb : bk w b with
  | none => rw [hb] at hv; cases hv
  | some ob' =>
    rw [hb] at hv
    cases ob' with
    | cells c e fz =>
      obtain ⟨lo, hi⟩ := fz
      cases lo with
      | succ lo => simp at hv
      | zero =>
        cases hi with
        | succ hi => simp at hv
        | zero =>
          simp only at hv
          by_cases hle0 : o + n ≤ c.size ∧ xs.length = n ∧ xs.all (·.oneCell') = true
          · rw [if_pos hle0] at hv
            obtain ⟨hle, hlen, hx⟩ := hle0
            subst hlen
            injection hv with hv
            have hth : w.there b o xs.toArray.size := fun j hj => by
              have hj' : j < xs.length := by simpa using hj
              constructor
              · rw [cell?_eq, hb]
                show (c[o + j]?).isSome = true
                simp; omega
              · rw [frozen?_eq, hb]
                show (decide (0 ≤ o + j) && decide (o + j < 0)) = false
                simp
            have hr := run_storeVar_mid (P := P) w b o t xs.toArray hth (by simpa using hn) (by simpa using hx)
            rw [show (AG xs) = .agg xs.toArray from rfl, hr]
            congr 1
            rw [show xs.toArray.toList = xs by simp]
            rw [setCells_eq b xs o w c.toList (e := e) (fz := (0, 0)) (by simpa using hb) (by simpa using hle), ← hv]
          · rw [if_neg hle0] at hv; cases hv
    | _ => simp at hv
theorem oStore1 {t : TypeId} (hn : (P.info? t).map (·.size) = some 1) (b o : Nat) (x : Value) :
    st P (oStore t (pt b o) x) w K = optE (stoOf (bk w b) o x) (fun ob => K undef (setb w b ob)) (farK P (oStore t (pt b o) x) w K) := by
  cases hv : stoOf (bk w b) o x with
  | none => rfl
  | some v => exact st_eq_skip (run_u' (by simp only [Instr.storeAt, Instr.sureAddr, Sem.run_bind, Sem.run_pure, Result.andThen_ok]; exact run_store1 w hn hv))
theorem oStoreN {t : TypeId} {n : Nat} (hn : (P.info? t).map (·.size) = some n) (b o : Nat) (xs : List Value) :
    st P (oStore t (pt b o) (AG xs)) w K = optE (stoNOf (bk w b) o n xs) (fun ob => K undef (setb w b ob)) (farK P (oStore t (pt b o) (AG xs)) w K) := by
  cases hv : stoNOf (bk w b) o n xs with
  | none => rfl
  | some v => exact st_eq_skip (run_u' (by simp only [Instr.storeAt, Instr.sureAddr, Sem.run_bind, Sem.run_pure, Result.andThen_ok]; exact run_storeN w hn hv))

theorem oAlloc_of {t : TypeId} {l : List Value} {z : Value} (hz : ∀ w, (zeroValue t).run P w = .ok z w) (hc : z.cells = l.toArray) : st P (oAlloc t) w K = K (pt w.heap.size 0) (w.alloc (CB l t)) :=
  st_eq_value (run_v' (by simp [Instr.alloc, hz, newVar, newRow, hc]))
@[go_sem] theorem oBox_agg (t : TypeId) (l : List Value) : st P (oBox t (AG l)) w K = K (pt w.heap.size 0) (w.alloc (CB l t)) :=
  st_eq_value (run_v' (by simp [Instr.box, newVar, newRow, AG, Value.cells]))
theorem oBox_one (t : TypeId) (x : Value) : st P (oBox t x) w K = if x.oneCell' = true then K (pt w.heap.size 0) (w.alloc (CB [x] t)) else farK P (oBox t x) w K := by
  by_cases hx : x.oneCell' = true
  · rw [if_pos hx]
    exact st_eq_value (run_v' (by
      have hcells : x.cells = #[x] := by cases x <;> first | rfl | (simp [Value.oneCell'] at hx)
      simp [Instr.box, newVar, newRow, hcells]))
  · rw [if_neg hx]; rfl

@[go_sem] theorem oneC_bool (b : Bool) : (Value.bool b).oneCell' = true := rfl
@[go_sem] theorem oneC_int (k : IntKind) (n : Int) : (Value.int k n).oneCell' = true := rfl
@[go_sem] theorem oneC_string (s : ByteArray) : (Value.string s).oneCell' = true := rfl
@[go_sem] theorem oneC_pointer (a : Option Addr) : (Value.pointer a).oneCell' = true := rfl
@[go_sem] theorem oneC_slice (a : Option Addr) (n c : Nat) : (Value.slice a n c).oneCell' = true := rfl
@[go_sem] theorem oneC_map (a : Option Nat) : (Value.map a).oneCell' = true := rfl
@[go_sem] theorem oneC_iface (t : TypeId) (v : Value) : (Value.iface t v).oneCell' = true := rfl
@[go_sem] theorem oneC_nilIface : Value.nilIface.oneCell' = true := rfl
@[go_sem] theorem oneC_nilFunc : Value.nilFunc.oneCell' = true := rfl
@[go_sem] theorem oneC_func (f : Fn) (a b : Array Value) : (Value.func f a b).oneCell' = true := rfl
@[go_sem] theorem oneC_agg (a : Array Value) : (Value.agg a).oneCell' = false := rfl
@[go_sem] theorem oneCell_S (l : List UInt8) : (S l).oneCell' = true := rfl

/-! ### A struct put together -/
def cellsL (v : Value) : List Value := v.cells.toList
@[go_sem] theorem cellsL_AG (l : List Value) : cellsL (AG l) = l := rfl
@[go_sem] theorem cellsL_int (k : IntKind) (n : Int) : cellsL (.int k n) = [.int k n] := rfl
@[go_sem] theorem cellsL_bool (b : Bool) : cellsL (.bool b) = [.bool b] := rfl
@[go_sem] theorem cellsL_S (l : List UInt8) : cellsL (S l) = [S l] := rfl
@[go_sem] theorem cellsL_ptr (a : Option Addr) : cellsL (.pointer a) = [.pointer a] := rfl
@[go_sem] theorem cellsL_slice (a : Option Addr) (n m : Nat) : cellsL (.slice a n m) = [.slice a n m] := rfl
@[go_sem] theorem cellsL_map (r : Option Nat) : cellsL (.map r) = [.map r] := rfl
@[go_sem] theorem cellsL_iface (t : TypeId) (v : Value) : cellsL (.iface t v) = [.iface t v] := rfl
@[go_sem] theorem cellsL_nilIface : cellsL .nilIface = [.nilIface] := rfl
@[go_sem] theorem cellsL_nilFunc : cellsL .nilFunc = [.nilFunc] := rfl
@[go_sem] theorem cellsL_func (f : Fn) (a b : Array Value) : cellsL (.func f a b) = [.func f a b] := rfl

def fillL (pl : List (Nat × Nat)) : List Value → List (Nat × Value) → Option (List Value)
  | cs, [] => some cs
  | cs, (i, v) :: r =>
    match pl[i]? with
    | none => none
    | some (off, n) => if (cellsL v).length = n ∧ off + n ≤ cs.length then fillL pl (cs.take off ++ cellsL v ++ cs.drop (off + n)) r else none

@[go_sem] theorem fillL_nil (pl : List (Nat × Nat)) (cs : List Value) : fillL pl cs [] = some cs := rfl
@[go_sem] theorem fillL_cons (pl : List (Nat × Nat)) (cs : List Value) (i : Nat) (v : Value) (r : List (Nat × Value)) :
    fillL pl cs ((i, v) :: r) = (pl[i]?).bind fun q => (putL cs q.1 q.2 (cellsL v)).bind fun cs => fillL pl cs r := by
  simp only [fillL]
  cases pl[i]? with
  | none => rfl
  | some q =>
    obtain ⟨off, n⟩ := q
    simp only [Option.bind_some, putL_eq]
    by_cases h : (cellsL v).length = n ∧ off + n ≤ cs.length
    · rw [if_pos h, if_pos ⟨h.2, h.1⟩]; rfl
    · rw [if_neg h, if_neg (by omega)]; rfl
theorem foldl_set (off : Nat) : ∀ (vs : List Value) (j : Nat) (cs : Array Value), off + j + vs.length ≤ cs.size →
    ((vs.zipIdx j).foldl (fun cs (x : Value × Nat) => cs.setIfInBounds (off + x.2) x.1) cs).toList = cs.toList.take (off + j) ++ vs ++ cs.toList.drop (off + j + vs.length)
  | [], j, cs, _ => by simp
  | v :: vs, j, cs, h => by
    simp only [List.length_cons] at h
    simp only [List.zipIdx_cons, List.foldl_cons]
    rw [foldl_set off vs (j + 1) _ (by simp; omega)]
    have ho : off + j < cs.toList.length := by simp; omega
    simp only [Array.toList_setIfInBounds]
    have e1 : (cs.toList.set (off + j) v).take (off + (j + 1)) = cs.toList.take (off + j) ++ [v] := by
      apply List.ext_getElem (by simp; omega)
      intro i h1 h2
      simp only [List.getElem_take, List.getElem_set, List.getElem_append, List.length_take, List.getElem_singleton]
      have hi : i < off + j + 1 := by simp at h1; omega
      by_cases e1 : off + j = i
      · subst e1; simp; intro h; omega
      · have : i < min (off + j) cs.toList.length := by omega
        simp at this
        simp [e1, this]
    have e2 : (cs.toList.set (off + j) v).drop (off + (j + 1) + vs.length) = cs.toList.drop (off + j + (v :: vs).length) := by
      apply List.ext_getElem?
      intro i
      simp only [List.getElem?_drop, List.length_cons]
      rw [List.getElem?_set_ne (by omega)]
      congr 1; omega
    rw [e1, e2]; simp

theorem fill_eq (pl : List (Nat × Nat)) : ∀ (ps : List (Nat × Value)) (cs : List Value) (out : List Value), fillL pl cs ps = some out → Instr.fill (fun i => pl[i]?) cs.toArray ps = some out.toArray
  | [], cs, out, h => by simp only [fillL, Option.some.injEq] at h; subst h; rfl
  | (i, v) :: r, cs, out, h => by
    simp only [fillL] at h
    simp only [Instr.fill]
    cases hp : pl[i]? with
    | none => rw [hp] at h; cases h
    | some q =>
      obtain ⟨off, n⟩ := q
      rw [hp] at h
      simp only at h
      by_cases hc : (cellsL v).length = n ∧ off + n ≤ cs.length
      · rw [if_pos hc] at h
        obtain ⟨h1, h2⟩ := hc
        have h3 : v.cells.size = n := by rw [← h1]; simp [cellsL]
        have h4 : (decide (v.cells.size ≠ n) || decide (off + v.cells.size > cs.toArray.size)) = false := by simp [h3]; omega
        simp only [h4, Bool.false_eq_true, if_false]
        have e : (v.cells.zipIdx.foldl (fun cs (x : Value × Nat) => cs.setIfInBounds (off + x.2) x.1) cs.toArray) = (cs.take off ++ cellsL v ++ cs.drop (off + n)).toArray := by
          apply Array.toList_inj.1
          have := foldl_set off (cellsL v) 0 cs.toArray (by simp; omega)
          rw [← Array.foldl_toList]
          simp only [Array.toList_zipIdx]
          rw [show v.cells.toList.zipIdx 0 = (cellsL v).zipIdx 0 from rfl, this]
          simp [h1]
        rw [e]
        exact fill_eq pl r _ out h
      · rw [if_neg hc] at h; cases h

theorem oBuild_of (K : Value → Prop) {t : TypeId} {fields : Array Field} {z : Value} {zs : List Value} {pl : List (Nat × Nat)} {ps : Array (Nat × Value)} (h : P.underlying t = some (.struct fields)) (hz : rp P (zeroValue t) = some z) (hc : z.cells = zs.toArray)
    (hp : rp P (fields.mapM fun f => do pure (f.offset, ← sizeOf f.type)) = some pl.toArray) :
    pu P (oBuild t ps) K = optE (fillL pl zs ps.toList) (fun l => K (AG l)) (farP P (oBuild t ps) K) := by
  cases hv : fillL pl zs ps.toList with
  | none => rfl
  | some l =>
    have hf := fill_eq pl ps.toList zs l hv
    refine pu_v' ?_
    unfold Instr.build
    simp only [rp_bind, hz, Option.bind_some, rp_underlying h, hp, hc]
    have e : (fun i : Nat => pl.toArray[i]?) = fun i : Nat => pl[i]? := by funext i; simp
    simp only [e, hf]
    rfl

/-! ### Structs held against one another -/
def eqF (P : Program) (d : Nat) (xs ys : Array Value) : List Field → Option Bool
  | [] => some true
  | f :: fs =>
    if f.name ≠ "_" then
      (rp P (part f.type xs f.offset)).bind fun a => (rp P (part f.type ys f.offset)).bind fun b => (rp P (Op.equalIn d f.type a b)).bind fun r => if r = true then eqF P d xs ys fs else some false
    else eqF P d xs ys fs

theorem rp_ite {α : Type} (c : Prop) [Decidable c] (x y : Sem α) : rp P (if c then x else y) = if c then rp P x else rp P y := by split <;> rfl

theorem rp_eq_struct {t : TypeId} {fields : Array Field} {d : Nat} {xs ys : Array Value} (h : P.underlying t = some (.struct fields)) (hs : P.stoodInHeld t = false) :
    rp P (Op.equalIn (d + 1) t (.agg xs) (.agg ys)) = eqF P d xs ys fields.toList := by
  simp only [Op.equalIn, rp_bind, rp_underlying h, Option.bind_some, rp_program, hs, Bool.false_eq_true, if_false]
  rw [← Array.forIn_toList]
  generalize fields.toList = fs
  clear h
  induction fs with
  | nil => simp [eqF, rp_bind]
  | cons f fs ih =>
    simp only [List.forIn_cons, eqF, rp_bind, rp_ite]
    split
    · cases h1 : rp P (part f.type xs f.offset) with
      | none => simp [h1]
      | some a =>
        cases h2 : rp P (part f.type ys f.offset) with
        | none => simp [h1, h2]
        | some b =>
          cases h3 : rp P (Op.equalIn d f.type a b) with
          | none => simp [h1, h2, h3]
          | some r =>
            cases r
            · simp [h1, h2, h3]
            · simpa [h1, h2, h3] using ih
    · simpa [rp_bind] using ih

theorem rp_part1 {t : TypeId} {d : TypeDesc} {xs : Array Value} {off : Nat} {v : Value} (h : P.underlying t = some d) (hd : d.isRow = false) (hx : xs[off]? = some v) : rp P (part t xs off) = some v := by
  have hagg : rp P (isAgg t) = some false := by
    unfold isAgg
    rw [rp_bind, rp_underlying h]
    cases d <;> simp_all
  simp [part, rp_bind, hagg, hx]
theorem rp_eqI {t : TypeId} {k j : IntKind} {d : Nat} {a b : Int} (h : P.underlying t = some (.int j)) : rp P (Op.equalIn (d + 1) t (.int k a) (.int k b)) = some (decide (a = b)) := by
  simp [Op.equalIn, rp_bind, rp_underlying h]
  by_cases e : a = b <;> simp [e]
theorem rp_eqB {t : TypeId} {d : Nat} {a b : Bool} (h : P.underlying t = some .bool) : rp P (Op.equalIn (d + 1) t (.bool a) (.bool b)) = some (decide (a = b)) := by
  simp [Op.equalIn, rp_bind, rp_underlying h]
  cases a <;> cases b <;> rfl
theorem rp_eqS {t : TypeId} {d : Nat} {a b : List UInt8} (h : P.underlying t = some .string) : rp P (Op.equalIn (d + 1) t (S a) (S b)) = some (decide (a = b)) := by
  simp only [S, Op.equalIn, rp_bind, rp_underlying h, Option.bind_some, rp_pure, Option.some.injEq]
  rw [beq_toListBytes]
  simp
  by_cases e : a = b <;> simp [e]

theorem eqF_cons {d : Nat} {xs ys : Array Value} {f : Field} {fs : List Field} {a b : Value} {r : Bool} {e : Bool} (hn : f.name ≠ "_") (ha : rp P (part f.type xs f.offset) = some a) (hb : rp P (part f.type ys f.offset) = some b)
    (hr : rp P (Op.equalIn d f.type a b) = some r) (he : eqF P d xs ys fs = some e) : eqF P d xs ys (f :: fs) = some (r && e) := by
  simp only [eqF, hn, ne_eq, not_false_eq_true, if_true, ha, hb, hr, Option.bind_some, he]
  cases r <;> rfl

theorem bin_eq_agg (K : Value → Prop) {t : TypeId} {cx cy : Bool} {xs ys : List Value} {e : Bool} (hg : P.eqGuardType P.depth t = false) (he : rp P (Op.equal t (AG xs) (AG ys)) = some e) :
    pu P (oBin .eql t cx cy (AG xs) (AG ys)) K = K (.bool e) :=
  pu_v' (by
    rw [rp_bind]
    have : rp P (eqGuard .eql t (fl cx) (fl cy) (AG xs) (AG ys)) = some () := by
      simp [eqGuard, AG, rp_bind, hg]
    rw [this]
    simp only [Option.bind_some]
    have e2 : binOp .eql t (AG xs) (AG ys) = (do pure (.bool (← Op.equal t (AG xs) (AG ys)))) := rfl
    rw [e2, rp_bind, he]; rfl)
theorem bin_ne_agg (K : Value → Prop) {t : TypeId} {cx cy : Bool} {xs ys : List Value} {e : Bool} (hg : P.eqGuardType P.depth t = false) (he : rp P (Op.equal t (AG xs) (AG ys)) = some e) :
    pu P (oBin .neq t cx cy (AG xs) (AG ys)) K = K (.bool (!e)) :=
  pu_v' (by
    rw [rp_bind]
    have : rp P (eqGuard .neq t (fl cx) (fl cy) (AG xs) (AG ys)) = some () := by
      simp [eqGuard, AG, rp_bind, hg]
    rw [this]
    simp only [Option.bind_some]
    have e2 : binOp .neq t (AG xs) (AG ys) = (do pure (.bool (!(← Op.equal t (AG xs) (AG ys))))) := rfl
    rw [e2, rp_bind, he]; rfl)
end
end Go.X
