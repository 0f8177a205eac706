/- The shelf's contracts for path.Clean and path.Join, for this translation. No condition. -/
import Derived.Test.YtdilealdddbhnaaDoorXOwn
import Derived.Test.YtdilealdddbhnaaDoorXT
import Derived.Shelf.Path.JoinRules
set_option linter.unusedVariables false
set_option linter.unusedSimpArgs false
set_option maxRecDepth 100000
namespace Go.Proofs.YtdilealdddbhnaaDoor.X
open Go Go.X Go.Proofs Go.RowKit Go.Lib Go.Shelf
def rho : Shelf.Ren := ⟨fun x => match x with | 30 => Fn.path_Clean | 31 => Fn.path_Join | 46 => Fn.path_lazybuf_append | 47 => Fn.path_lazybuf_index | 48 => Fn.path_lazybuf_string | _ => 0, fun x => match x with | 0 => 0 | 3 => T.int | 4 => T.bool | 5 => T.uint8 | 9 => T.string | 26 => T.sl_string | 30 => T.sl_uint8 | 42 => T.path_lazybuf | 48 => T.p_path_lazybuf | _ => 0, fun x => x⟩
theorem shelfClean : Lays.ph30 P rho := by
  exact { mixed := by kernel_rfl, f30 := by kernel_rfl, f46 := by kernel_rfl, f47 := by kernel_rfl, f48 := by kernel_rfl, info5 := by kernel_rfl, t0 := by kernel_rfl, a0 := fun _ => by kernel_rfl, z0 := fun _ => by kernel_rfl, v0 := fun _ => by kernel_rfl, t3 := by kernel_rfl, a3 := fun _ => by kernel_rfl, z3 := fun _ => by kernel_rfl, v3 := fun _ => by kernel_rfl, t4 := by kernel_rfl, a4 := fun _ => by kernel_rfl, z4 := fun _ => by kernel_rfl, v4 := fun _ => by kernel_rfl, t5 := by kernel_rfl, a5 := fun _ => by kernel_rfl, z5 := fun _ => by kernel_rfl, v5 := fun _ => by kernel_rfl, t9 := by kernel_rfl, a9 := fun _ => by kernel_rfl, z9 := fun _ => by kernel_rfl, v9 := fun _ => by kernel_rfl, t30 := by kernel_rfl, a30 := fun _ => by kernel_rfl, z30 := fun _ => by kernel_rfl, v30 := fun _ => by kernel_rfl, t42 := by kernel_rfl, a42 := fun _ => by kernel_rfl, z42 := fun _ => by kernel_rfl, v42 := fun _ => by kernel_rfl, t48 := by kernel_rfl, a48 := fun _ => by kernel_rfl, z48 := fun _ => by kernel_rfl, v48 := fun _ => by kernel_rfl }
theorem shelfJoin : Lays.ph31 P rho := by
  exact { mixed := by kernel_rfl, f30 := by kernel_rfl, f31 := by kernel_rfl, f46 := by kernel_rfl, f47 := by kernel_rfl, f48 := by kernel_rfl, info5 := by kernel_rfl, t0 := by kernel_rfl, a0 := fun _ => by kernel_rfl, z0 := fun _ => by kernel_rfl, v0 := fun _ => by kernel_rfl, t3 := by kernel_rfl, a3 := fun _ => by kernel_rfl, z3 := fun _ => by kernel_rfl, v3 := fun _ => by kernel_rfl, t4 := by kernel_rfl, a4 := fun _ => by kernel_rfl, z4 := fun _ => by kernel_rfl, v4 := fun _ => by kernel_rfl, t5 := by kernel_rfl, a5 := fun _ => by kernel_rfl, z5 := fun _ => by kernel_rfl, v5 := fun _ => by kernel_rfl, t9 := by kernel_rfl, a9 := fun _ => by kernel_rfl, z9 := fun _ => by kernel_rfl, v9 := fun _ => by kernel_rfl, t26 := by kernel_rfl, a26 := fun _ => by kernel_rfl, z26 := fun _ => by kernel_rfl, v26 := fun _ => by kernel_rfl, t30 := by kernel_rfl, a30 := fun _ => by kernel_rfl, z30 := fun _ => by kernel_rfl, v30 := fun _ => by kernel_rfl, t42 := by kernel_rfl, a42 := fun _ => by kernel_rfl, z42 := fun _ => by kernel_rfl, v42 := fun _ => by kernel_rfl, t48 := by kernel_rfl, a48 := fun _ => by kernel_rfl, z48 := fun _ => by kernel_rfl, v48 := fun _ => by kernel_rfl }
theorem clean_spec {l : List UInt8} {w : World} {K : Value → World → Prop} (hl : l.length ≤ 281474976710656) (h : ∀ w', Below w.heap.size w w' → K (S (Pa.clean l)) w') : Cl P Fn.path_Clean #[S l] w K := by
  have c := Any.path_Clean shelfClean ⟨l.toArray⟩ w (by rw [size_S]; exact hl)
  refine Calls.mono c fun e w' he => ?_
  exact ⟨_, he.1, h _ he.2⟩
theorem join_spec {b o c : Nat} {xs : List (List UInt8)} {w : World} {K : Value → World → Prop} (hc : rowOf (bk w b) o xs.length = some (xs.map S)) (hb : b < w.heap.size) (hl : Pa.lens xs + xs.length ≤ 281474976710656)
    (h : ∀ w', Below w.heap.size w w' → K (S (Pa.join xs)) w') : Cl P Fn.path_Join #[sl b o xs.length c] w K := by
  have e1 : (xs.map fun l => (⟨l.toArray⟩ : ByteArray)).map (·.data.toList) = xs := by
    rw [List.map_map]
    exact (List.map_congr_left (fun _ _ => rfl)).trans (List.map_id xs)
  have c1 := Any.path_Join_rules shelfJoin b o c (xs.map fun l => (⟨l.toArray⟩ : ByteArray)) w (fun j x hx => by
    rw [cell?_eq]
    rw [List.getElem?_map] at hx
    unfold rowOf at hc
    unfold cellOf
    split at hc
    · rename_i cs tt fz hbk
      split at hc
      · rename_i hlt
        have hj : j < xs.length := by
          refine Nat.lt_of_not_le fun hle => ?_
          rw [List.getElem?_eq_none (by simpa using hle)] at hx; cases hx
        have := congrArg (fun z : Option (List Value) => z.bind (·[j]?)) hc
        simp only [Option.bind_some, List.getElem?_map] at this
        rw [List.getElem?_take_of_lt hj, List.getElem?_drop, List.getElem?_eq_getElem hj] at this
        rw [List.getElem?_eq_getElem hj] at hx
        simp only [Option.map_some, Option.some.injEq] at hx
        rw [← Array.getElem?_toList, this]
        show some (S xs[j]) = _
        rw [← hx]; rfl
      · cases hc
    · cases hc) hb (by rw [e1, List.length_map]; exact hl)
  rw [e1, List.length_map] at c1
  refine Calls.mono c1 fun e w' he => ?_
  exact ⟨_, he.1, h _ he.2⟩
end Go.Proofs.YtdilealdddbhnaaDoor.X
