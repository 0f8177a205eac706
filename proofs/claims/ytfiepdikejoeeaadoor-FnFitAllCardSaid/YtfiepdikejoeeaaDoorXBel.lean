/- What a walk leaves as it was. No condition. -/
import Derived.Test.YtfiepdikejoeeaaDoorXBits
set_option linter.unusedVariables false
set_option linter.unusedSimpArgs false
namespace Go.X
open Go Go.RowKit
theorem bel_setb {B : Nat} {a w : World} (h : Below B a w) {b : Nat} (hb : B ≤ b) (o : Obj) : Below B a (setb w b o) :=
  ⟨h.os, h.tape, h.output, by rw [size_setb]; exact h.size, fun k hk => by
    have : bk (setb w b o) k = bk w k := bk_setb_ne w b k o (by omega)
    exact this.trans (h.block k hk)⟩
theorem bel_bk {B : Nat} {w w' : World} (h : Below B w w') {b : Nat} (hb : b < B) : bk w' b = bk w b := h.block b hb
/-- Further on, from a world that is known. -/
theorem bel_on {B C : Nat} {a w w' : World} (k : Below C w w') (h : Below B a w) (hB : B ≤ C) : Below B a w' := h.trans (k.mono hB)


/-! ### Ways that are known -/
section
variable {P : Program} {p : Prop} [Decidable p] (X Y : Prop) (w : World) (G : (Value → World → Prop) → Prop) (K : Value → World → Prop) (L : Value → Prop) (a b : Value)
@[go_sem high] theorem cd_t : cd (.bool true) X Y = X := by rw [cd_eq]; simp
@[go_sem high] theorem cd_f : cd (.bool false) X Y = Y := by rw [cd_eq]; simp
@[go_sem high] theorem gdt_t : gd (.bool true) true w G K = G K := by rw [gd_true]; simp
@[go_sem high] theorem gdt_f : gd (.bool false) true w G K = K undef w := by rw [gd_true]; simp
@[go_sem high] theorem gdf_t : gd (.bool true) false w G K = K undef w := by rw [gd_false]; simp
@[go_sem high] theorem gdf_f : gd (.bool false) false w G K = G K := by rw [gd_false]; simp
@[go_sem high] theorem pick_t : pu P (oPick (.bool true) a b) L = L a := by rw [oPick_eq]; simp
@[go_sem high] theorem pick_f : pu P (oPick (.bool false) a b) L = L b := by rw [oPick_eq]; simp
theorem oEqlB {t : TypeId} (h : P.underlying t = some .bool) (cx cy : Bool) (x y : Bool) : pu P (oBin .eql t cx cy (.bool x) (.bool y)) L = L (.bool (x == y)) :=
  pu_v' (by
    rw [rp_bind, rp_eqGuard_bool]
    simp only [Option.bind_some]
    have e2 : binOp .eql t (.bool x) (.bool y) = (do pure (.bool (← Op.equal t (.bool x) (.bool y)))) := rfl
    have e3 : rp P (Op.equal t (.bool x) (.bool y)) = some (decide (x = y)) := rp_eqB h
    rw [e2, rp_bind, e3]
    cases x <;> cases y <;> rfl)
/-- What is so, or is not, by what is known (by omega). -/
theorem dec_t (h : p) : (Value.bool (decide p)) = .bool true := by simp [h]
theorem dec_f (h : ¬ p) : (Value.bool (decide p)) = .bool false := by simp [h]
@[go_sem] theorem toL_nil : (#[] : Array (Nat × Value)).toList = [] := rfl
@[go_sem] theorem toL_l (l : List (Nat × Value)) : l.toArray.toList = l := rfl
attribute [go_sem] Bool.not_false Bool.not_true Int.toNat_natCast
end
end Go.X
