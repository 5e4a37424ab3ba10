/- spec's Step, any step: it says yes to what impl.pqStep says. -/
import Derived.Test.YtepjailijekepaaDoorPqStepSpecC
namespace Go.Proofs.YtepjailijekepaaDoor
set_option linter.unusedVariables false
open Go.RowKit
open Pqm

theorem rw_out {w : World} {v : Value} {l : List It} (h : Rw 2 w v (pits l)) : ∃ a c, v = .slice a l.length c := by
  obtain ⟨a, n, c, rfl, hn, _⟩ := h
  rw [pits_len] at hn
  exact ⟨a, c, by rw [hn]⟩

theorem pqspec_any (σ σ' : Que) (dup : Bool) (s : Stp) (t : Sad) (qv sv tv : Value) (w : World) (hst : PStep dup σ s σ' t) (hok : StOk s) (hg : σ.1 = true → σ.2 = []) (hq : Rw 2 w qv (pits σ.2)) (hs : Rw 2 w sv (pits s.2.2)) (ht : Rw 2 w tv (pits t.1)) (h9 : σ.2.length + s.2.2.length ≤ 100000) :
    Calls Tryd.prog 10 #[.agg #[qv, .bool dup, .bool σ.1], .agg #[.int .i64 s.1, .int .i64 s.2.1, sv], .agg #[tv, .int .i64 t.2.1, .bool t.2.2.1, .int .i64 t.2.2.2]] w fun e w' =>
      ∃ qv', e = .returned (.tuple #[.agg #[qv', .bool dup, .bool σ'.1], .bool true]) ∧ Rw 2 w' qv' (pits σ'.2) ∧ (σ'.1 = true → σ'.2 = []) ∧ Below w.heap.size w w' := by
  obtain ⟨op, n, its⟩ := s
  obtain ⟨gone, q⟩ := σ
  obtain ⟨items, N, is, E⟩ := t
  simp only at hst hq hs ht h9 hg ⊢
  obtain ⟨qa, qc, rfl⟩ := rw_out hq
  obtain ⟨sa, sc, rfl⟩ := rw_out hs
  obtain ⟨ta, tc, rfl⟩ := rw_out ht
  have hq9 : q.length ≤ 100000 := by omega
  unfold PStep at hst
  simp only at hst
  rcases hst with ⟨rfl, rfl, rfl, rfl, rfl⟩ | ⟨rfl, rfl, rfl, rfl, rfl⟩ | ⟨rfl, rfl, rfl, rfl, rfl⟩ | ⟨rfl, rfl, hqe, rfl, rfl, rfl⟩ | ⟨rfl, rfl, hqe, htk, hlen, rfl, rfl⟩ | ⟨rfl, hqe, rfl, rfl⟩ | ⟨rfl, hqe, rfl, x, hx, hm, rfl⟩ | ⟨rfl, rfl, rfl⟩ | ⟨rfl, rfl, rfl⟩ | ⟨rfl, rfl⟩ | ⟨rfl, rfl, rfl⟩
  · exact (sp1g qa ta sa q.length qc 0 tc its.length sc dup is true n N 0 w).mono fun e w' h => ⟨_, h.1, hq.below rfl h.2, hg, h.2⟩
  · exact (sp1 qa ta sa q.length qc tc its.length sc dup is n N q its w hq hs h9).mono fun e w' ⟨pa, ca, h1, h2, h3⟩ => ⟨_, h1, h2, (fun h => by cases h), h3⟩
  · exact (sp2g qa ta sa q.length qc 0 tc its.length sc dup is true n N 0 w).mono fun e w' h => ⟨_, h.1, hq.below rfl h.2, hg, h.2⟩
  · subst hqe
    exact (sp2e qa ta sa 0 qc 0 tc its.length sc dup is true n N 0 w).mono fun e w' h => ⟨_, h.1, hq.below rfl h.2, (fun h => by cases h), h.2⟩
  · have hgt := hok.get rfl
    have h1 : 1 ≤ n := hgt.1
    have h2 : n ≤ 1000 := hgt.2
    exact (sp2 qa ta sa q.length qc items.length tc its.length sc dup is n N q items w hq ht hqe htk hlen h1 h2 hq9).mono fun e w' ⟨pa, ca, h1, h2, h3⟩ => ⟨_, h1, h2, (fun h => by cases h), h3⟩
  · subst hqe
    exact (sp3e qa ta sa 0 qc 0 tc its.length sc dup is gone n N E w).mono fun e w' h => ⟨_, h.1, hq.below rfl h.2, hg, h.2⟩
  · cases gone with
    | true => exact absurd (hg rfl) hqe
    | false => exact (sp3 qa ta sa q.length qc tc its.length sc dup is n N E q x w hq ht hqe hx hm hq9).mono fun e w' h => ⟨_, h.1, hq.below rfl h.2, hg, h.2⟩
  · cases gone with
    | true => exact (sp4t qa ta sa q.length qc items.length tc its.length sc dup is true n _ E w).mono fun e w' h => ⟨_, h.1, hq.below rfl h.2, hg, h.2⟩
    | false => exact (sp4f qa ta sa q.length qc items.length tc its.length sc dup is true n 0 E w hq9).mono fun e w' h => ⟨_, h.1, hq.below rfl h.2, hg, h.2⟩
  · cases gone with
    | true => exact (sp5t qa ta sa q.length qc items.length tc its.length sc dup _ true n N E w).mono fun e w' h => ⟨_, h.1, hq.below rfl h.2, hg, h.2⟩
    | false => exact (sp5f qa ta sa q.length qc items.length tc its.length sc dup true true n N E w hq9).mono fun e w' h => ⟨_, h.1, hq.below rfl h.2, hg, h.2⟩
  · exact (sp6 qa ta sa q.length qc items.length tc its.length sc dup is gone n N E w).mono fun e w' h => ⟨_, h.1, Rw.nil 2 w', (fun _ => rfl), h.2⟩
  · exact (sp7 qa ta sa q.length qc items.length tc its.length sc dup true _ n N E w).mono fun e w' h => ⟨_, h.1, hq.below rfl h.2, hg, h.2⟩
end Go.Proofs.YtepjailijekepaaDoor
