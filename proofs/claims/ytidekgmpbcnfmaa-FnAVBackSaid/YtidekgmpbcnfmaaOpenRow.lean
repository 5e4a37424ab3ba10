/- An argument that is a slice: its elements as rows of cells, each with its own reading. No program in sight. -/
import Derived.Test.YtidekgmpbcnfmaaRow
import Derived.Deep.Slices
import Derived.Deep.Fields
import Derived.ChangeSame
namespace Go.Proofs.Ytidekgmpbcnfmaa
set_option linter.unusedVariables false
open Go.RowKit Go.ChangeShapes Go.WideShapes Go.Deep

section
variable {P : Program} {H : Type} {enc : TypeId × Value → H} {W : World}
/-- a reading of a row of cells as type e -/
def Reads (enc : TypeId × Value → H) (P : Program) (W : World) (e : TypeId) (row : List Value) : Prop := ∃ n x, DataW.trod enc P W 0 (fun _ => true) true n e row = some x

theorem rows_of_trod {t e : TypeId} {S fuel : Nat} {v : Value} {x : DataW H × List MemPlace} (ht : P.underlying t = some (.slice e)) (hC : P.cellsOf e = S) (h0S : 0 < S)
    (h : DataW.trod enc P W 0 (fun _ => true) true fuel t [v] = some x) : ∃ rows, Rw S W v rows ∧ (∀ row ∈ rows, row.length = S) ∧ ∀ row ∈ rows, Reads enc P W e row := by
  rcases Go.Deep.open_slice ht h with ⟨h0, _⟩ | ⟨a, len, cap, m, n, D, Pl, hcs, hb, hl, hm, hmm, hx, hi⟩
  · simp at h0
    subst h0
    exact ⟨[], Rw.nil S W, by simp, by simp⟩
  · simp at hcs
    subst hcs
    simp at hmm
    subst hmm
    rw [hC] at hi
    have hrow : ∀ i, ∃ row : List Value, i < len → (W.cells? 0 (a.add (i * S)) S = some row ∧ DataW.trod enc P W 0 (fun _ => true) true n e row = some (D i, Pl i)) := by
      intro i
      by_cases h1 : i < len
      · obtain ⟨row, h2⟩ := hi i (by omega)
        exact ⟨row, fun _ => h2⟩
      · exact ⟨[], fun h2 => absurd h2 h1⟩
    have hch : ∃ f : Nat → List Value, ∀ i, i < len → (W.cells? 0 (a.add (i * S)) S = some (f i) ∧ DataW.trod enc P W 0 (fun _ => true) true n e (f i) = some (D i, Pl i)) :=
      ⟨fun i => Classical.choose (hrow i), fun i => Classical.choose_spec (hrow i)⟩
    obtain ⟨f, hf⟩ := hch
    refine ⟨(List.range len).map f, ⟨some a, len, m, rfl, by simp, hl, hm, fun h0 => ?_⟩, ?_, ?_⟩
    · obtain ⟨_, hl2, hcell⟩ := World.cells?_some (hf 0 h0).1
      have c0 := hcell 0 (by omega)
      obtain ⟨b, off, spot⟩ := a
      have hspot : spot = none := by
        have h1 : ((f 0)[0]?).isSome := by simp; omega
        obtain ⟨u, hu⟩ := Option.isSome_iff_exists.1 h1
        rw [hu] at c0
        have := World.cell?_spot c0
        simpa [Addr.add] using this
      subst hspot
      refine ⟨b, off, rfl, fun i row hrw j u hu => ?_⟩
      have hi2 : i < len := by
        have := (List.getElem?_eq_some_iff.1 hrw).1
        simpa using this
      simp [hi2] at hrw
      subst hrw
      obtain ⟨_, hl3, hcell3⟩ := World.cells?_some (hf i hi2).1
      have hj : j < S := by
        have := (List.getElem?_eq_some_iff.1 hu).1
        omega
      have c1 := hcell3 j hj
      rw [hu, addr_add, addr_add, Nat.add_assoc] at c1
      exact c1
    · intro row hr
      obtain ⟨i, hi2, rfl⟩ := List.mem_map.1 hr
      exact (World.cells?_some (hf i (List.mem_range.1 hi2)).1).2.1
    · intro row hr
      obtain ⟨i, hi2, rfl⟩ := List.mem_map.1 hr
      exact ⟨n, _, (hf i (List.mem_range.1 hi2)).2⟩

theorem open_rows {t e : TypeId} {S : Nat} {v : Value} {d : DataW H} {p : List MemPlace} {r : Reach} {b0 : Nat} (ht : P.underlying t = some (.slice e)) (hC : P.cellsOf e = S) (h0S : 0 < S)
    (hv : Value.okWide P W r b0 t v) (h : DataW.Trod enc P W 0 (fun _ => true) true t v d p) : ∃ rows, Rw S W v rows ∧ (∀ row ∈ rows, row.length = S) ∧ ∀ row ∈ rows, Reads enc P W e row := by
  obtain ⟨a, len, cap, rfl⟩ := WideShapes.okWide_slice ht hv
  obtain ⟨fuel, hf⟩ := h
  exact rows_of_trod ht hC h0S hf

/-- the fields of a row that reads as a struct of fields of one cell each -/
theorem Reads.field {e : TypeId} {fs : Array Field} {row : List Value} (h : Reads enc P W e row) (he : P.underlying e = some (.struct fs)) (hone : oneCellFields P fs = true) (hl : row.length = fs.size) :
    ∀ (j : Nat) (f : Field), fs[j]? = some f → ∃ u, row[j]? = some u ∧ Reads enc P W f.type [u] := by
  obtain ⟨n, x, h⟩ := h
  intro j f hj
  obtain ⟨ys, n', hn', hy, hlen, hyl, hf⟩ := DataW.trod_struct he h
  obtain ⟨ho, hk⟩ := hone_of hone j f hj
  have hjl : j < fs.size := (Array.getElem?_eq_some_iff.1 hj).1
  have h1 := hf j f hj
  rw [ho, hk] at h1
  have hjr : j < row.length := by omega
  have hone' : (row.drop j).take 1 = [row[j]] := by
    rw [List.drop_eq_getElem_cons hjr]
    rfl
  rw [hone', List.getElem?_eq_getElem (by omega)] at h1
  exact ⟨row[j], List.getElem?_eq_getElem hjr, n', _, h1⟩
theorem Reads.int {e : TypeId} {k : IntKind} {u : Value} (h : Reads enc P W e [u]) (he : P.underlying e = some (.int k)) : ∃ n, u = .int k n ∧ (Lit.int k n).wf = true := by
  obtain ⟨n, x, h⟩ := h
  obtain ⟨z, hz, _, hw⟩ := DataW.trod_int he h
  simp at hz
  exact ⟨z, hz, hw⟩
theorem Reads.bool {e : TypeId} {u : Value} (h : Reads enc P W e [u]) (he : P.underlying e = some .bool) : ∃ b, u = .bool b := by
  obtain ⟨n, x, h⟩ := h
  obtain ⟨z, hz, _⟩ := DataW.trod_bool he h
  simp at hz
  exact ⟨z, hz⟩
/-- a field that is itself a slice -/
theorem Reads.rows {t e : TypeId} {S : Nat} {u : Value} (h : Reads enc P W t [u]) (ht : P.underlying t = some (.slice e)) (hC : P.cellsOf e = S) (h0S : 0 < S) : ∃ rows, Rw S W u rows ∧ (∀ row ∈ rows, row.length = S) ∧ ∀ row ∈ rows, Reads enc P W e row := by
  obtain ⟨n, x, h⟩ := h
  exact rows_of_trod ht hC h0S h
end
end Go.Proofs.Ytidekgmpbcnfmaa
