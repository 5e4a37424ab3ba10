/- Walks of package set: Flatten and All. -/
import Derived.Test.YtdmkijdokmnicaaSetOps
namespace Go.Proofs.Ytdmkijdokmnicaa
set_option linter.unusedVariables false
open Go.RowKit

/-- ks has the members of l, each once -/
def SameSet (ks l : List Int) : Prop := ks.Nodup ∧ ∀ x, x ∈ ks ↔ x ∈ l

def FlatLoop (s b r Z : Nat) (l : List Int) (w : World) (k : Nat) (wr : World) : Prop :=
  ∃ (done : List Int) (p : Option Addr) (cap : Nat), VRange wr ik b r (setl l) done k ∧ Blk wr s 81 #[.map (some b), .slice p done.length cap] ∧ wr.ownsRow Z 20 1 (.slice p done.length cap) done.length (ifs done) ∧ p ≠ none ∧ Only2 s b w wr ∧ Z ≤ wr.heap.size

theorem Only2.step {s b : Nat} {w w1 w2 : World} {row : Option Nat} (h : Only2 s b w w1) (hg : w1.grownBy w2 row) (hr : ∀ k, row = some k → k = s ∨ k = b ∨ w.heap.size ≤ k) : Only2 s b w w2 :=
  ⟨hg.os.trans h.os, hg.tape.trans h.tape, hg.output.trans h.output, Nat.le_trans h.size hg.size, fun k hk h1 h2 => (hg.block k (Nat.lt_of_lt_of_le hk h.size) (fun e => by rcases hr k e.symm with h | h | h <;> omega)).trans (h.block k hk h1 h2)⟩
theorem VRange.iter {α : Type} [DecidableEq α] {mk : α → Value} {b r : Nat} {l : List (α × Value)} {done : List α} {cnt : Nat} {w : World} (h : VRange w mk b r l done cnt) : ∃ m a c d, w.heap[r]? = some (.mapIter m a c d) := by
  obtain ⟨es, clock, since, seen, c0, _, _, _, _, _, hr, _⟩ := h
  exact ⟨_, _, _, _, hr⟩
theorem VRange.ne_blk {α : Type} [DecidableEq α] {mk : α → Value} {b r : Nat} {l : List (α × Value)} {done : List α} {cnt : Nat} {w : World} (h : VRange w mk b r l done cnt) {s : Nat} {t : TypeId} {cs : Array Value} (hs : Blk w s t cs) : s ≠ r ∧ s ≠ b := by
  obtain ⟨m, a, c, d, hr⟩ := h.iter
  obtain ⟨es, clock, hm, _⟩ := h.owns
  unfold Blk at hs
  refine ⟨fun e => ?_, fun e => ?_⟩
  · subst e; rw [hr] at hs; cases hs
  · subst e; rw [hm] at hs; cases hs
theorem owns_blk {w : World} {B : Nat} {e : TypeId} {size : Nat} {v : Value} {n : Nat} {xs : List Value} (h : w.ownsRow B e size v n xs) {g : Nat} (hg : v.ownBlock = some g) : ∃ cs, Blk w g e cs := by
  rcases h.2 with ⟨rfl, _⟩ | ⟨g', cap, cur, rfl, _, hh, _⟩
  · cases hg
  · simp [Value.ownBlock] at hg
    subst hg
    exact ⟨cur, hh⟩

set_option maxRecDepth 100000 in
set_option maxHeartbeats 2000000 in
theorem sflat_any (s b : Nat) (l : List Int) (n0 c0 : Nat) (w : World) (hset : SetAt w s b l (.slice none n0 c0)) (h9 : l.length ≤ 100000) :
    Calls Try.prog 27 #[.pointer (some ⟨s, 0, none⟩)] w fun e w' => ∃ (ks : List Int) (p : Addr) (cap : Nat), e = .returned (.slice (some p) ks.length cap) ∧ SetAt w' s b l (.slice (some p) ks.length cap) ∧
      w'.ownsRow w.heap.size 20 1 (.slice (some p) ks.length cap) ks.length (ifs ks) ∧ SameSet ks l ∧ Only2 s b w w' := by
  have hnil := fun (w : World) (n c : Nat) => run_neq_slice_nil_any (P := Try.prog) w 61 20 none n c 0 0 Try.underlying61
  have hln : (l.length : Int) ≤ 100000 := by omega
  have q0 : w.cell? ⟨s, 0, none⟩ = some (.map (some b)) := hset.1.cell 0 rfl
  have q1 : w.cell? ⟨s, 1, none⟩ = some (.slice none n0 c0) := hset.1.cell 1 rfl
  have f1 := hset.1.free 1
  have hsl := hset.1.lt
  have HS := Lib.hid hset
  have HN := Lib.hid (setl_len l)
  have HKEYS := Lib.hid (setl_keys l)
  obtain ⟨n, hn⟩ : ∃ n, l.length = n := ⟨_, rfl⟩
  have HNN := Lib.hid hn
  rw [hn] at hln h9
  clear hset hn
  go_enter Try.func27, Try.ntmps27
  go_wp2_with (first
    | (at_len; refine wpList_vlen _ rfl _ 79 rfl 20 82 Try.underlying79 b _ rfl HS.out.2.1 (n : Int) (by rw [HN.out, HNN.out]) ?_)
    | (at_make; refine wpList_make2 rfl _ _ 61 rfl w.heap.size 20 .nilIface 16 Try.underlying61 info_if rfl _ _ _ _ 0 n rfl rfl rfl rfl (Nat.zero_le _) (by omega) (by unfold maxLen; omega) (Nat.le_refl _) ?_; intro w1 hown1 hb1 hs1; have c1a := (hb1.cell (p := ⟨s, 1, none⟩) hsl).trans q1; have c1f := (hb1.frozen (p := ⟨s, 1, none⟩) hsl).trans f1; have c0a := (hb1.cell (p := ⟨s, 0, none⟩) hsl).trans q0)
    | (at_range; refine wpList_vrange _ rfl _ 79 rfl 20 82 Try.underlying79 b _ rfl ((HS.out.below hb1).clear _).2.1 ?_; intro w2 cnt hrg hg2 hz2; rw [show (w1.setCell ⟨s, 1, none⟩ (.slice (some ⟨w.heap.size, 0, none⟩) 0 n)).heap.size = w1.heap.size from by simp] at hrg hz2 ⊢))
  go_frame
  have HRG := Lib.hid hrg
  have HG2 := Lib.hid hg2
  have HB1 := Lib.hid hb1
  have HOWN := Lib.hid hown1
  have hsz2 : w.heap.size ≤ w2.heap.size := by omega
  clear hrg hg2 hz2 hown1 c1a c1f c0a hnil q0 q1 f1
  go_loopg [3] cnt (fun k _ wr => FlatLoop s b w1.heap.size w.heap.size l w k wr)
  case atStart =>
    have hs := ((HS.out.below HB1.out).clear (.slice (some ⟨w.heap.size, 0, none⟩) 0 n)).1.grown HG2.out (by simp)
    have ho : w2.ownsRow w.heap.size 20 1 (.slice (some ⟨w.heap.size, 0, none⟩) 0 n) 0 (ifs []) := by
      have h := Only2.owns (s := s) (b := s) (Only2.store (s := s) (b := s) w1 (a := ⟨s, 1, none⟩) rfl (.slice (some ⟨w.heap.size, 0, none⟩) 0 n)) HOWN.out (by simp [Value.ownBlock]; omega)
      exact h.kept HG2.out (.inr (by simp [Value.ownBlock]))
    refine ⟨[], some ⟨w.heap.size, 0, none⟩, n, HRG.out, hs, ho, by simp, ?_, hsz2⟩
    exact ((Only2.of_below HB1.out).trans (Only2.store (s := s) (b := b) w1 (a := ⟨s, 1, none⟩) rfl _)).step HG2.out (by simp)
  case round =>
    obtain ⟨done, p, cap, hrg, hblk, hown, hpn, hon, hzz⟩ := hrel
    have HRG2 := Lib.hid hrg
    have HBK := Lib.hid hblk
    have HO := Lib.hid hown
    have HON := Lib.hid hon
    have HPN := Lib.hid hpn
    clear hrg hblk hown hon hpn
    go_wp2_with (at_next; refine wpList_vnext _ rfl _ rfl 20 KIF b w1.heap.size (setl l) done gk rfl HRG2.out ?_ ?_)
    · intro hall
      have HALL := Lib.hid hall
      have d1 : wr.cell? ⟨s, 1, none⟩ = some (.slice p done.length cap) := HBK.out.cell 1 rfl
      clear hall
      go_wp2_with fail
      go_ret
      have hpn := HPN.out
      cases p with
      | none => exact absurd rfl hpn
      | some a =>
        refine ⟨done, a, cap, rfl, ⟨HBK.out, HRG2.out.owns, HS.out.2.2.1, HS.out.2.2.2⟩, HO.out, ⟨HRG2.out.nodup.1, fun x => ?_⟩, HON.out⟩
        rw [HALL.out x, HKEYS.out]
    · intro c u w3 cnt3 hmem hnd hrg3 hlt hgr3 hsz3 hen
      unfold ik at hen ⊢
      have hne := HRG2.out.ne_blk HBK.out
      have hblk3 := HBK.out.grown hgr3 (fun e => hne.1 (by injection e with e; exact e.symm))
      have hown3 := HO.out.kept hgr3 (by
        cases hv : (Value.slice p done.length cap).ownBlock with
        | none => exact .inl rfl
        | some g =>
          obtain ⟨cs, hg⟩ := owns_blk HO.out hv
          exact .inr (fun e => (HRG2.out.ne_blk hg).1 (by injection e)))
      have d1 : w3.cell? ⟨s, 1, none⟩ = some (.slice p done.length cap) := hblk3.cell 1 rfl
      have e1 := hblk3.free 1
      have HB3 := Lib.hid hblk3
      have HO3 := Lib.hid hown3
      have HRG3 := Lib.hid hrg3
      have HGR3 := Lib.hid hgr3
      have HNE := Lib.hid hne
      have hz3 : w.heap.size ≤ w3.heap.size := by omega
      have hlt3 := hblk3.lt
      have hmx : done.length + 1 ≤ maxLen ∧ (done.length + 1) * 16 ≤ 140737488355328 := by
        have h1 : done.length ≤ l.length := HRG2.out.nodup.1.length_le_of_subset (fun x hx => by have := HRG2.out.nodup.2 x hx; rw [HKEYS.out] at this; exact this)
        have := HNN.out
        unfold maxLen
        omega
      have HMX := Lib.hid hmx
      have HSZ3 := Lib.hid hsz3
      have HLT := Lib.hid hlt
      clear hmem hblk3 hown3 hrg3 hgr3 hne hmx hsz3 hlt
      go_wp2_with (at_builtin; refine wpList_append1 rfl _ _ 61 rfl w.heap.size 20 .nilIface 16 Try.underlying61 info_if rfl _ done.length (ifs done) rfl HO3.out _ rfl rfl HMX.out.1 HMX.out.2 hz3 ?_; intro g cap4 w4 hown4 hg4 hb4; have HQ4 : Hid (s ≠ b ∧ (Value.slice p done.length cap).ownBlock ≠ some s) := Lib.hid ⟨HS.out.2.2.1, fun e => (by obtain ⟨cs, hg⟩ := owns_blk HO3.out e; unfold Blk at hg; rw [HB3.out] at hg; simp at hg)⟩; have hblk4 := HB3.out.grown hg4 HQ4.out.2; have d1b : w4.cell? ⟨s, 1, none⟩ = some (.slice p done.length cap) := hblk4.cell 1 rfl; have e1b := hblk4.free 1; have HB4 := Lib.hid hblk4; clear hblk4)
      go_roundg cnt3
      case measure => exact HLT.out
      case rel =>
        have hne4 := HRG3.out.ne_blk HB3.out
        have howner : ∀ k, (Value.slice p done.length cap).ownBlock = some k → k ≠ w1.heap.size ∧ k ≠ b ∧ w.heap.size ≤ k := by
          intro k hk
          obtain ⟨cs, hg⟩ := owns_blk HO3.out hk
          exact ⟨(HRG3.out.ne_blk hg).1, (HRG3.out.ne_blk hg).2, (HO3.out.lt k hk).1⟩
        have hrg4 := HRG3.out.grown hg4 (fun e => (howner b e).2.1 rfl) (fun e => (howner _ e).1 rfl)
        have hgs : g ≠ s := by
          obtain ⟨cs, hg⟩ := owns_blk hown4 (g := g) rfl
          intro e
          subst e
          unfold Blk at hg
          rw [HB4.out] at hg
          simp at hg
        have hln : (done ++ [c]).length = done.length + 1 := by simp
        refine ⟨done ++ [c], some ⟨g, 0, none⟩, cap4, hrg4.setCell (Ne.symm hne4.2) (Ne.symm hne4.1) _, ?_, ?_, by simp, ?_, ?_⟩
        · rw [hln]
          simpa using HB4.out.set 1 (.slice (some ⟨g, 0, none⟩) (done.length + 1) cap4)
        · rw [hln, ifs_app]
          exact Only2.owns (Only2.store (s := s) (b := s) w4 (a := ⟨s, 1, none⟩) rfl _) hown4 (by simp [Value.ownBlock]; exact hgs)
        · refine ((HON.out.step HGR3.out (fun k e => .inr (.inr (by injection e with e; omega)))).step hg4 (fun k e => .inr (.inr (howner k e).2.2))).trans (Only2.store (s := s) (b := b) w4 (a := ⟨s, 1, none⟩) rfl _)
        · simp
          exact Nat.le_trans hz3 hb4.size

set_option maxRecDepth 100000 in
set_option maxHeartbeats 400000 in
theorem sflat_again (s b : Nat) (l : List Int) (p : Addr) (n c : Nat) (w : World) (hset : SetAt w s b l (.slice (some p) n c)) :
    Calls Try.prog 27 #[.pointer (some ⟨s, 0, none⟩)] w fun e w' => e = .returned (.slice (some p) n c) ∧ w = w' := by
  have hnil := fun (w : World) (n c : Nat) => run_neq_slice_nil_any (P := Try.prog) w 61 20 (some p) n c 0 0 Try.underlying61
  have q1 : w.cell? ⟨s, 1, none⟩ = some (.slice (some p) n c) := hset.1.cell 1 rfl
  clear hset
  go_enter Try.func27, Try.ntmps27
  go_wp2_with fail
  go_ret
  exact ⟨rfl, rfl⟩
end Go.Proofs.Ytdmkijdokmnicaa
