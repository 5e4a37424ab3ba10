/- Walks of package set: New, Add, Remove, Len, All, Exists, Flatten, and of impl.anys. -/
import Derived.Test.YtdmkijdokmnicaaSetBase
namespace Go.Proofs.Ytdmkijdokmnicaa
set_option linter.unusedVariables false
open Go.RowKit

/-- a set in block s, whose map in block b has the values l; what lies in its field flattened is fl -/
def SetAt (w : World) (s b : Nat) (l : List Int) (fl : Value) : Prop :=
  Blk w s 81 #[.map (some b), fl] ∧ VMap w ik b (setl l) ∧ s ≠ b ∧ l.Nodup
theorem SetAt.below {w w' : World} {s b : Nat} {l : List Int} {fl : Value} (h : SetAt w s b l fl) (hb : Below w.heap.size w w') : SetAt w' s b l fl :=
  ⟨h.1.below hb h.1.lt, h.2.1.below hb h.2.1.lt, h.2.2.1, h.2.2.2⟩
theorem SetAt.low {w w' : World} {s b S : Nat} {l : List Int} {fl : Value} (h : SetAt w s b l fl) (hs : s < S) (hbS : b < S) (hb : Below S w w') : SetAt w' s b l fl :=
  ⟨h.1.below hb hs, h.2.1.below hb hbS, h.2.2.1, h.2.2.2⟩

def AnysLoop (l : List Int) (n : Nat) (w : World) (k : Nat) (out idx : Value) (wr : World) : Prop :=
  ∃ (i : Nat) (p : Option Addr) (cap : Nat), out = .slice p i cap ∧ idx = .int .i64 (i : Int) ∧ i + k = n ∧ wr.ownsRow w.heap.size 20 1 (.slice p i cap) i (ifs (l.take i)) ∧ Below w.heap.size w wr

set_option maxRecDepth 100000 in
set_option maxHeartbeats 1000000 in
theorem anys_any (v : Value) (l : List Int) (w : World) (hv : Sl w v (i64s l)) (h9 : l.length ≤ 1000) :
    Calls Try.prog 21 #[v] w fun e w' => ∃ v', e = .returned v' ∧ w'.ownsRow w.heap.size 20 1 v' l.length (ifs l) ∧ Below w.heap.size w w' := by
  obtain ⟨a, n, cap, rfl, hla, hc, hm, hr⟩ := hv
  rw [i64s_len] at hla
  have hn1 : n ≤ 1000 := by omega
  have HL := Lib.hid hla
  clear hla h9 hm
  go_enter Try.func21, Try.ntmps21
  go_wp2_with fail
  go_loopg [3, 8] n (fun k out idx wr => AnysLoop l n w k out idx wr)
  case atStart => exact ⟨0, none, 0, rfl, rfl, by omega, World.ownsRow_nil _ _ _ _, Below.refl _ _⟩
  case round =>
    obtain ⟨i, p, cap0, rfl, rfl, hik, hown, hbel⟩ := hrel
    have HO := Lib.hid hown
    have hsz := hbel.size
    clear hown
    by_cases hi : i < n
    · cases gk with
      | zero => omega
      | succ k =>
        obtain ⟨b1, o1, rfl, hcell⟩ := hr (by omega)
        have h1 := hcell i _ (i64s_at l i (by rw [HL.out]; exact hi))
        rw [← hbel.cell (World.block_lt_of_cell? w _ h1)] at h1
        have hs := take_getD l i (by rw [HL.out]; exact hi)
        obtain ⟨X, hX⟩ : ∃ X, l.getD i 0 = X := ⟨_, rfl⟩
        rw [hX] at hs h1
        have HS := Lib.hid hs
        have hm1 : i + 1 ≤ maxLen := by unfold maxLen; omega
        clear hr hcell hX hs
        go_wp2_with (at_builtin; refine wpList_append1 rfl _ _ 61 rfl w.heap.size 20 .nilIface 16 Try.underlying61 info_if rfl _ i (ifs (l.take i)) rfl HO.out _ rfl rfl hm1 (by omega) hsz ?_; intro g cap1 w1 hown1 hg1 hb1)
        go_roundg k
        case measure => omega
        case rel =>
          refine ⟨i + 1, some ⟨g, 0, none⟩, cap1, rfl, by go_num, by omega, ?_, hbel.trans hb1⟩
          rw [HS.out, ifs_app]
          exact hown1
    · obtain rfl : i = n := by omega
      have hd : decide ((i : Int) < (i : Int)) = false := by simp
      go_wp2_with fail
      go_ret
      refine ⟨_, rfl, ?_, hbel⟩
      have := HO.out
      rw [List.take_of_length_le (by rw [HL.out]; exact Nat.le_refl _)] at this
      rw [HL.out]
      exact this

def NewLoop (l : List Int) (n s b : Nat) (w : World) (k : Nat) (idx : Value) (wr : World) : Prop :=
  ∃ i : Nat, idx = .int .i64 (i : Int) ∧ i + k = n ∧ SetAt wr s b (Zs.addAll [] (l.take i)) (.slice none 0 0) ∧ Below w.heap.size w wr

theorem addAll_take (l0 l : List Int) (i : Nat) (h : i < l.length) : setl (Zs.addAll l0 (l.take (i + 1))) = Vm.put (l.getD i 0) (.agg #[]) (setl (Zs.addAll l0 (l.take i))) := by
  rw [take_getD l i h, Zs.add_snoc, setl_put]
theorem remAll_take (l0 l : List Int) (i : Nat) (h : i < l.length) : setl (Zs.remAll l0 (l.take (i + 1))) = Vm.del (l.getD i 0) (setl (Zs.remAll l0 (l.take i))) := by
  rw [take_getD l i h, Zs.rem_snoc, setl_del]

set_option maxRecDepth 100000 in
set_option maxHeartbeats 1000000 in
theorem snew_any (v : Value) (l : List Int) (w : World) (hv : Sl w v (ifs l)) (h9 : l.length ≤ 1000) :
    Calls Try.prog 20 #[v] w fun e w' => ∃ s b, e = .returned (.pointer (some ⟨s, 0, none⟩)) ∧ SetAt w' s b (Zs.addAll [] l) (.slice none 0 0) ∧ w.heap.size ≤ s ∧ w.heap.size ≤ b ∧ Below w.heap.size w w' := by
  have hmm : ∀ w, (Instr.makeMap 79 (some (.int .i64 10))).run Try.prog w = .ok (.map (some w.heap.size)) (w.alloc (.map #[] 0)) := fun _ => by kernel_rfl
  obtain ⟨a, n, cap, rfl, hla, hc, hm, hr⟩ := hv
  rw [ifs_len] at hla
  have hn1 : n ≤ 1000 := by omega
  have HL := Lib.hid hla
  clear hla h9 hm
  go_enter Try.func20, Try.ntmps20
  go_wp2_with fail
  clear hmm
  go_loopg [11] n (fun k idx wr => NewLoop l n (w.heap.size + 1) w.heap.size w k idx wr)
  case atStart =>
    refine ⟨0, rfl, by omega, ⟨?_, (VMap.made w ik).alloc _, by omega, by simp [Zs.addAll]⟩, ((Below.refl _ _).alloc (Nat.le_refl _) _).alloc (by simp) _⟩
    have h := Blk.new (w.alloc (.map #[] 0)) 81 #[.map (some w.heap.size), .slice none 0 0]
    simpa using h
  case round =>
    obtain ⟨i, rfl, hik, hset, hbel⟩ := hrel
    have c0 : wr.cell? ⟨w.heap.size + 1, 0, none⟩ = some (.map (some w.heap.size)) := hset.1.cell 0 rfl
    have f1 := hset.1.free 1
    have c1 : wr.cell? ⟨w.heap.size + 1, 1, none⟩ = some (.slice none 0 0) := hset.1.cell 1 rfl
    have HS := Lib.hid hset
    have HB := Lib.hid hbel
    clear hset
    by_cases hi : i < n
    · cases gk with
      | zero => omega
      | succ k =>
        obtain ⟨b1, o1, rfl, hcell⟩ := hr (by omega)
        have h1 := hcell i _ (ifs_at l i (by rw [HL.out]; exact hi))
        rw [← hbel.cell (World.block_lt_of_cell? w _ h1)] at h1
        have ht := addAll_take [] l i (by rw [HL.out]; exact hi)
        have hnd := Zs.nodup_add (l.take (i + 1)) [] (by simp)
        obtain ⟨X, hX⟩ : ∃ X, l.getD i 0 = X := ⟨_, rfl⟩
        rw [hX] at ht h1
        have HTK := Lib.hid ht
        have HND := Lib.hid hnd
        clear hr hcell hX ht hnd hbel
        go_wp2_with (at_mapUpdate; refine wpList_vput _ rfl _ _ _ 79 rfl 20 82 KIF Try.underlying79 w.heap.size _ rfl HS.out.2.1 X rfl _ rfl ?_; intro w1 hvm ht1)
        go_roundg k
        case measure => omega
        case rel =>
          refine ⟨i + 1, by go_num, by omega, ⟨HS.out.1.grown ht1.grown (by simp), by rw [HTK.out]; exact hvm, by omega, HND.out⟩, HB.out.grown ht1.grown HB.out.size (by simp)⟩
    · obtain rfl : i = n := by omega
      have hd : decide ((i : Int) < (i : Int)) = false := by simp
      have hfin : l.take i = l := List.take_of_length_le (by rw [HL.out]; exact Nat.le_refl _)
      have HF := Lib.hid hfin
      clear hfin
      by_cases h0 : 0 < i
      · go_wp2_with fail
        go_ret
        have hs := HS.out
        rw [HF.out] at hs
        refine ⟨_, _, rfl, ⟨?_, hs.2.1.setCell (by simp) _, by omega, hs.2.2.2⟩, by omega, by omega, HB.out.setCell (by simp) _⟩
        simpa using hs.1.set 1 (.slice none 0 0)
      · go_wp2_with fail
        go_ret
        have hs := HS.out
        rw [HF.out] at hs
        exact ⟨_, _, rfl, hs, by omega, by omega, HB.out⟩
end Go.Proofs.Ytdmkijdokmnicaa
