/- The errors that the listed variables hold, out of the row's condition. No condition of its own. -/
import Derived.Test.YteblpejgenehfaaDoorHd
import Derived.Test.YteblpejgenehfaaDoorXLaid
set_option linter.unusedVariables false
set_option linter.unusedSimpArgs false
set_option maxRecDepth 100000
namespace Go.Proofs.YteblpejgenehfaaDoor.X
open Go Go.X Go.Proofs Go.RowKit Go.ChangeShapes

theorem star : ("*" : String) ++ "errors.errorString" = "*errors.errorString" := by decide
theorem errRow (u : TypeId) (h : P.typeName? 3 u = some "*errors.errorString") : u = T.p_errors_errorString :=
  typeName_ptr_named (nm := "errors.errorString") (by rw [star]; kernel_rfl) (by kernel_rfl) (by decide) u (by rw [star]; exact h)
/-- The variables aa the row lists them. -/
abbrev senL : List (Nat × String × List UInt8) := [(G.os_ErrExist, "pub-marram/pub/afero/inner/os.ErrExist", [102, 105, 108, 101, 32, 97, 108, 114, 101, 97, 100, 121, 32, 101, 120, 105, 115, 116, 115]), (G.os_ErrNotExist, "pub-marram/pub/afero/inner/os.ErrNotExist", [102, 105, 108, 101, 32, 100, 111, 101, 115, 32, 110, 111, 116, 32, 101, 120, 105, 115, 116]), (G.os_ENOENT, "pub-marram/pub/afero/inner/os.ENOENT", [110, 111, 32, 115, 117, 99, 104, 32, 102, 105, 108, 101, 32, 111, 114, 32, 100, 105, 114, 101, 99, 116, 111, 114, 121]), (G.os_ENOTDIR, "pub-marram/pub/afero/inner/os.ENOTDIR", [110, 111, 116, 32, 97, 32, 100, 105, 114, 101, 99, 116, 111, 114, 121]), (G.os_EPERM, "pub-marram/pub/afero/inner/os.EPERM", [111, 112, 101, 114, 97, 116, 105, 111, 110, 32, 110, 111, 116, 32, 112, 101, 114, 109, 105, 116, 116, 101, 100]), (G.os_EIO, "pub-marram/pub/afero/inner/os.EIO", [105, 110, 112, 117, 116, 47, 111, 117, 116, 112, 117, 116, 32, 101, 114, 114, 111, 114]), (G.os_EBADFD, "pub-marram/pub/afero/inner/os.EBADFD", [102, 105, 108, 101, 32, 100, 101, 115, 99, 114, 105, 112, 116, 111, 114, 32, 105, 110, 32, 98, 97, 100, 32, 115, 116, 97, 116, 101]), (G.io_EOF, "io.EOF", [69, 79, 70]), (G.io_ErrUnexpectedEOF, "io.ErrUnexpectedEOF", [117, 110, 101, 120, 112, 101, 99, 116, 101, 100, 32, 69, 79, 70]), (G.mem_ErrFileClosed, "pub-marram/pub/afero/mem.ErrFileClosed", [70, 105, 108, 101, 32, 105, 115, 32, 99, 108, 111, 115, 101, 100]), (G.mem_ErrOutOfRange, "pub-marram/pub/afero/mem.ErrOutOfRange", [111, 117, 116, 32, 111, 102, 32, 114, 97, 110, 103, 101])]
abbrev senD (x : Nat × String × List UInt8) : String × DataW Unit := (x.2.1, .iface "*errors.errorString" (.ptr (.agg [.lit (.string x.2.2)])))
theorem sents_of {W : World} : ∀ (l : List (Nat × String × List UInt8)) (ps : List MemPlace), (∀ x ∈ l, P.globalNamed x.2.1 = some x.1 ∧ (P.globals[x.1]?).map (·.type) = some T.error) → DataW.LaidVars P W (l.map senD) ps → ps.Nodup →
    (∀ b off, MemPlace.cell b off ∈ ps → (∃ c t, W.heap[b]? = some (.cells c t (0, 0))) ∧ ∀ u v, W.cell? ⟨b, off, none⟩ = some (.iface u v) → Value.okWide P W .any 0 u v) →
    ∃ aa : List (Nat × Nat), aa.length = l.length ∧ aa.Nodup ∧ (∀ a ∈ aa, MemPlace.cell a.1 a.2 ∈ ps ∧ ∃ c t, bk W a.1 = some (CB c t)) ∧ ∀ i (h1 : i < l.length) (h2 : i < aa.length), ∃ tt, bk W l[i].1 = some (CB [er aa[i]] tt)
  | [], ps, _, _, _, _ => ⟨[], rfl, List.nodup_nil, fun a h => (by cases h), fun i h1 => absurd h1 (by simp)⟩
  | x :: r, ps, hx, hv, hn, hr => by
    obtain ⟨n, nm, tx⟩ := x
    obtain ⟨g0, t0, cs0, f0, p0, q0, hg0, ht0, hv0, hd0, hq, rfl⟩ := hv
    have hx0 := hx _ (List.mem_cons_self ..)
    obtain rfl := Option.some.inj (hx0.1.symm.trans hg0)
    obtain rfl := Option.some.inj (hx0.2.symm.trans ht0)
    obtain ⟨l0⟩ := cs0
    have ok0 : ∀ u v, l0 = [.iface u v] → Value.okWide P W .any 0 u v := fun u v e => by
      subst e
      exact (hr n 0 (by simp [MemPlace.row])).2 u v (by simpa using World.var?_cell hg0 hv0 0)
    obtain ⟨a, s, rfl, hc, hs, hz, rfl⟩ := errorString_of_trod Tryd.underlying99 errRow U.p_errors_errorString Tryd.underlying153 rfl rfl U.string (by kernel_rfl) (by kernel_rfl) hd0 ok0
    have hspot : a.spot = none := by
      unfold World.cell? at hc
      split at hc
      · cases h : a.spot with
        | none => rfl
        | some s => rw [h] at hc; simp at hc
      · cases hc
    obtain ⟨b, o, sp⟩ := a
    simp only at hspot
    subst hspot
    have hrow1 : MemPlace.row ⟨b, o, none⟩ 1 = [MemPlace.cell b o] := by simp [MemPlace.row]
    have mem1 : MemPlace.cell b o ∈ MemPlace.row ⟨n, 0, none⟩ (#[Value.iface T.p_errors_errorString (pt b o)] : Array Value).size ++ MemPlace.row ⟨b, o, none⟩ 1 ++ q0 := List.mem_append_left _ (List.mem_append_right _ (by rw [hrow1]; exact List.mem_cons_self ..))
    have mem0 : MemPlace.cell n 0 ∈ MemPlace.row ⟨n, 0, none⟩ (#[Value.iface T.p_errors_errorString (pt b o)] : Array Value).size ++ MemPlace.row ⟨b, o, none⟩ 1 ++ q0 := List.mem_append_left _ (List.mem_append_left _ (by simp [MemPlace.row]))
    obtain ⟨⟨c1, tt1, hb1⟩, _⟩ := hr b o mem1
    obtain ⟨⟨c0, tt0, hb0⟩, _⟩ := hr n 0 mem0
    obtain ⟨aa, e1, e2, e3, e4⟩ := sents_of r q0 (fun y hy => hx y (List.mem_cons_of_mem _ hy)) hq (List.nodup_append.1 hn).2.1 fun b off hm => hr b off (List.mem_append_right _ hm)
    refine ⟨(b, o) :: aa, by simp [e1], List.nodup_cons.2 ⟨fun hm => ?_, e2⟩, fun a ha => ?_, fun i h1 h2 => ?_⟩
    · exact (List.nodup_append.1 hn).2.2 _ (List.mem_append_right _ (by rw [hrow1]; exact List.mem_cons_self ..)) _ (e3 _ hm).1 rfl
    · rcases List.mem_cons.1 ha with rfl | ha
      · exact ⟨mem1, c1.toList, tt1, hb1⟩
      · exact ⟨List.mem_append_right _ (e3 a ha).1, (e3 a ha).2⟩
    · cases i with
      | zero =>
        refine ⟨tt0, ?_⟩
        have e : W.var? P nm = some #[.iface T.p_errors_errorString (pt b o)] := hv0
        simp only [World.var?, hg0, Option.bind_some, hb0] at e
        injection e with e
        subst e
        exact hb0
      | succ i => exact e4 i (by simpa using h1) (by simpa using h2)
theorem sn_of {W : World} (h : laidMet P (senL.map senD) W) : ∃ m, Sn W W.heap.size m := by
  obtain ⟨ps, hv, hn, hr⟩ := h
  have hx : ∀ x ∈ senL, P.globalNamed x.2.1 = some x.1 ∧ (P.globals[x.1]?).map (·.type) = some T.error := by
    have : (senL.all fun x => P.globalNamed x.2.1 == some x.1 && (P.globals[x.1]?).map (·.type) == some T.error) = true := by kernel_rfl
    intro x hx
    have := List.all_eq_true.1 this x hx
    simpa using this
  obtain ⟨aa, e1, e2, e3, e4⟩ := sents_of senL ps hx hv hn hr
  have hs : ∀ g ∈ sents, ∃ i, i < 11 ∧ (senL.map (·.1))[i]? = some g ∧ (senL.map (·.1)).idxOf g = i := by decide
  refine ⟨fun g => aa.getD ((senL.map (·.1)).idxOf g) (0, 0), fun g hg => ?_, fun g hg => ?_, fun g hg g' hg' e => ?_⟩
  · obtain ⟨i, hi, h1, h2⟩ := hs g hg
    obtain ⟨tt, h3⟩ := e4 i (by simpa using hi) (by rw [e1]; simpa using hi)
    rw [h2]
    have h4 : senL[i]'(by simpa using hi) = senL[i]'(by simpa using hi) := rfl
    have h5 : (senL[i]'(by simpa using hi)).1 = g := by
      rw [List.getElem?_map, List.getElem?_eq_getElem (by simpa using hi)] at h1
      exact Option.some.inj h1
    rw [h5] at h3
    have h6 : aa.getD i (0, 0) = aa[i]'(by rw [e1]; simpa using hi) := by simp [List.getD, show i < aa.length by rw [e1]; simpa using hi]
    rw [h6]
    exact ⟨bk_lt h3, tt, h3⟩
  · obtain ⟨i, hi, h1, h2⟩ := hs g hg
    rw [h2]
    have h6 : aa.getD i (0, 0) = aa[i]'(by rw [e1]; simpa using hi) := by simp [List.getD, show i < aa.length by rw [e1]; simpa using hi]
    rw [h6]
    obtain ⟨_, c, t, h7⟩ := e3 _ (List.getElem_mem (by rw [e1]; simpa using hi : i < aa.length))
    exact ⟨bk_lt h7, c, t, h7⟩
  · obtain ⟨i, hi, h1, h2⟩ := hs g hg
    obtain ⟨i', hi', h1', h2'⟩ := hs g' hg'
    simp only [h2, h2'] at e
    have h6 : aa.getD i (0, 0) = aa[i]'(by rw [e1]; simpa using hi) := by simp [List.getD, show i < aa.length by rw [e1]; simpa using hi]
    have h6' : aa.getD i' (0, 0) = aa[i']'(by rw [e1]; simpa using hi') := by simp [List.getD, show i' < aa.length by rw [e1]; simpa using hi']
    rw [h6, h6'] at e
    have := (List.getElem_inj e2).1 e
    subst this
    rw [h1] at h1'
    exact Option.some.inj h1'
end Go.Proofs.YteblpejgenehfaaDoor.X
