/- The shelf's contract for path.Clean, for this translation. No condition. -/
import Derived.Test.YtdilealdddbhnaaXOwn
import Derived.Test.YtdilealdddbhnaaXT
import Derived.Shelf.Path.Clean
set_option linter.unusedVariables false
set_option linter.unusedSimpArgs false
set_option maxRecDepth 100000
namespace Go.Proofs.Ytdilealdddbhnaa.X
open Go Go.X Go.Proofs Go.RowKit Go.Lib Go.Shelf
def rho : Shelf.Ren := ⟨fun x => match x with | 30 => Fn.path_Clean | 46 => Fn.path_lazybuf_append | 47 => Fn.path_lazybuf_index | 48 => Fn.path_lazybuf_string | _ => 0, fun x => match x with | 0 => 0 | 3 => 3 | 4 => 4 | 5 => 5 | 9 => 9 | 30 => 31 | 42 => 115 | 48 => 118 | _ => 0, fun x => x⟩
theorem shelfClean : Lays.ph30 P rho := by
  exact { mixed := by kernel_rfl, f30 := by kernel_rfl, f46 := by kernel_rfl, f47 := by kernel_rfl, f48 := by kernel_rfl, info5 := by kernel_rfl, t0 := by kernel_rfl, a0 := fun _ => by kernel_rfl, z0 := fun _ => by kernel_rfl, v0 := fun _ => by kernel_rfl, t3 := by kernel_rfl, a3 := fun _ => by kernel_rfl, z3 := fun _ => by kernel_rfl, v3 := fun _ => by kernel_rfl, t4 := by kernel_rfl, a4 := fun _ => by kernel_rfl, z4 := fun _ => by kernel_rfl, v4 := fun _ => by kernel_rfl, t5 := by kernel_rfl, a5 := fun _ => by kernel_rfl, z5 := fun _ => by kernel_rfl, v5 := fun _ => by kernel_rfl, t9 := by kernel_rfl, a9 := fun _ => by kernel_rfl, z9 := fun _ => by kernel_rfl, v9 := fun _ => by kernel_rfl, t30 := by kernel_rfl, a30 := fun _ => by kernel_rfl, z30 := fun _ => by kernel_rfl, v30 := fun _ => by kernel_rfl, t42 := by kernel_rfl, a42 := fun _ => by kernel_rfl, z42 := fun _ => by kernel_rfl, v42 := fun _ => by kernel_rfl, t48 := by kernel_rfl, a48 := fun _ => by kernel_rfl, z48 := fun _ => by kernel_rfl, v48 := fun _ => by kernel_rfl }
theorem clean_spec {l : List UInt8} {w : World} {K : Value → World → Prop} (hl : l.length ≤ 281474976710656) (h : ∀ w', Below w.heap.size w w' → K (S (Pa.clean l)) w') : Cl P Fn.path_Clean #[S l] w K := by
  have c := Any.path_Clean shelfClean ⟨l.toArray⟩ w (by rw [size_S]; exact hl)
  refine Calls.mono c fun e w' he => ?_
  exact ⟨_, he.1, h _ he.2⟩
end Go.Proofs.Ytdilealdddbhnaa.X
