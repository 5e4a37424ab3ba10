/- Walks of package set: Add, Remove, Len, All, Exists, Flatten. -/
import Derived.Test.YtdmkijdokmnicaaSet
namespace Go.Proofs.Ytdmkijdokmnicaa
set_option linter.unusedVariables false
open Go.RowKit

/-- w' is w with new blocks and writes to blocks s and b alone -/
structure Only2 (s b : Nat) (w w' : World) : Prop where
  os : w'.os = w.os
  tape : w'.tape = w.tape
  output : w'.output = w.output
  size : w.heap.size ≤ w'.heap.size
  block : ∀ k, k < w.heap.size → k ≠ s → k ≠ b → w'.heap[k]? = w.heap[k]?
theorem Only2.refl (s b : Nat) (w : World) : Only2 s b w w := ⟨rfl, rfl, rfl, Nat.le_refl _, fun _ _ _ _ => rfl⟩
theorem Only2.trans {s b : Nat} {u v w : World} (h : Only2 s b u v) (k : Only2 s b v w) : Only2 s b u w :=
  ⟨k.os.trans h.os, k.tape.trans h.tape, k.output.trans h.output, Nat.le_trans h.size k.size, fun i hi h1 h2 => (k.block i (Nat.lt_of_lt_of_le hi h.size) h1 h2).trans (h.block i hi h1 h2)⟩
theorem Only2.of_below {s b : Nat} {w w' : World} (h : Below w.heap.size w w') : Only2 s b w w' := ⟨h.os, h.tape, h.output, h.size, fun k hk _ _ => h.block k hk⟩
theorem Only2.of_grown {s b : Nat} {w w' : World} {row : Option Nat} (h : w.grownBy w' row) (hr : ∀ k, row = some k → k = s ∨ k = b ∨ w.heap.size ≤ k) : Only2 s b w w' :=
  ⟨h.os, h.tape, h.output, h.size, fun k hk h1 h2 => h.block k hk (fun e => by rcases hr k e.symm with h | h | h <;> omega)⟩
theorem Only2.below {s b B : Nat} {w w' : World} (h : Only2 s b w w') (hs : B ≤ s) (hb : B ≤ b) (hw : B ≤ w.heap.size) : Below B w w' :=
  ⟨h.os, h.tape, h.output, h.size, fun k hk => h.block k (by omega) (by omega) (by omega)⟩
theorem Only2.store {s b : Nat} (w : World) {a : Addr} (ha : a.block = s) (u : Value) : Only2 s b w (w.setCell a u) :=
  Only2.of_grown (row := some s) ⟨rfl, rfl, rfl, by simp, fun k hk hne => Below.heap_setCell w a u k (fun e => hne (by rw [e, ha]))⟩ (fun k e => .inl (by injection e with e; exact e.symm))
theorem Only2.owns {s b : Nat} {w w' : World} (h : Only2 s b w w') {B : Nat} {e : TypeId} {size : Nat} {v : Value} {n : Nat} {xs : List Value} (ho : w.ownsRow B e size v n xs) (hv : ∀ k, v.ownBlock = some k → k ≠ s ∧ k ≠ b) : w'.ownsRow B e size v n xs := by
  refine ⟨ho.1, ?_⟩
  have hl := ho.lt
  rcases ho.2 with h0 | ⟨g, cap, cur, rfl, hbg, hg, r⟩
  · exact .inl h0
  · exact .inr ⟨g, cap, cur, rfl, hbg, (h.block g (hl g rfl).2 (hv g rfl).1 (hv g rfl).2).trans hg, r⟩
theorem Only2.blk {s b : Nat} {w w' : World} (h : Only2 s b w w') {c : Nat} {t : TypeId} {cs : Array Value} (hk : Blk w c t cs) (h1 : c ≠ s) (h2 : c ≠ b) : Blk w' c t cs :=
  (h.block c hk.lt h1 h2).trans hk

def AddSLoop (l0 l : List Int) (n s b : Nat) (w : World) (k : Nat) (idx : Value) (wr : World) : Prop :=
  ∃ i : Nat, idx = .int .i64 (i : Int) ∧ i + k = n ∧ SetAt wr s b (Zs.addAll l0 (l.take i)) (.slice none 0 0) ∧ Only2 s b w wr
def RemSLoop (l0 l : List Int) (n s b : Nat) (w : World) (k : Nat) (idx : Value) (wr : World) : Prop :=
  ∃ i : Nat, idx = .int .i64 (i : Int) ∧ i + k = n ∧ SetAt wr s b (Zs.remAll l0 (l.take i)) (.slice none 0 0) ∧ Only2 s b w wr

theorem SetAt.clear {w : World} {s b : Nat} {l : List Int} {fl : Value} (h : SetAt w s b l fl) (u : Value) : SetAt (w.setCell ⟨s, 1, none⟩ u) s b l u := by
  refine ⟨?_, h.2.1.setCell (Ne.symm h.2.2.1) _, h.2.2.1, h.2.2.2⟩
  simpa using h.1.set 1 u

/-- the cells of a slice that lies apart from the set's blocks -/
def Apart (s b : Nat) (v : Value) : Prop := ∀ p m c, v = .slice (some p) m c → p.block ≠ s ∧ p.block ≠ b

set_option maxRecDepth 100000 in
set_option maxHeartbeats 1000000 in
theorem sadd_any (s b : Nat) (l0 l : List Int) (fl v : Value) (w : World) (hset : SetAt w s b l0 fl) (hv : Sl w v (ifs l)) (hap : Apart s b v) (h9 : l.length ≤ 1000) :
    Calls Try.prog 22 #[.pointer (some ⟨s, 0, none⟩), v] w fun e w' => e = .returned (.tuple #[]) ∧ SetAt w' s b (Zs.addAll l0 l) (.slice none 0 0) ∧ Only2 s b w w' := by
  obtain ⟨a, n, cap, rfl, hla, hc, hm, hr⟩ := hv
  rw [ifs_len] at hla
  have hn1 : n ≤ 1000 := by omega
  have HL := Lib.hid hla
  have c1 : w.cell? ⟨s, 1, none⟩ = some fl := hset.1.cell 1 rfl
  have f1 := hset.1.free 1
  have HS0 := Lib.hid (hset.clear (.slice none 0 0))
  clear hla h9 hm hset
  go_enter Try.func22, Try.ntmps22
  go_wp2_with fail
  go_loopg [11] n (fun k idx wr => AddSLoop l0 l n s b w k idx wr)
  case atStart => exact ⟨0, rfl, by omega, by simpa [Zs.addAll] using HS0.out, Only2.store (s := s) (b := b) w (a := ⟨s, 1, none⟩) rfl _⟩
  case round =>
    obtain ⟨i, rfl, hik, hset, hon⟩ := hrel
    have d0 : wr.cell? ⟨s, 0, none⟩ = some (.map (some b)) := hset.1.cell 0 rfl
    have HS := Lib.hid hset
    have HO := Lib.hid hon
    clear hset c1 f1
    by_cases hi : i < n
    · cases gk with
      | zero => omega
      | succ k =>
        obtain ⟨b1, o1, rfl, hcell⟩ := hr (by omega)
        have hpb := hap _ _ _ rfl
        have h1 := hcell i _ (ifs_at l i (by rw [HL.out]; exact hi))
        have h1b : wr.cell? ⟨b1, o1 + i, none⟩ = some (.iface 3 (.int .i64 (l.getD i 0))) := by
          rw [← h1]
          exact World.cell?_of_block (hon.block b1 (World.block_lt_of_cell? w _ h1) hpb.1 hpb.2)
        have ht := addAll_take l0 l i (by rw [HL.out]; exact hi)
        obtain ⟨X, hX⟩ : ∃ X, l.getD i 0 = X := ⟨_, rfl⟩
        rw [hX] at ht h1b
        have HTK := Lib.hid ht
        have HND : Hid ((Zs.addAll l0 (l.take (i + 1))).Nodup) := by
          have h := HS.out.2.2.2
          rw [take_getD l i (by rw [HL.out]; exact hi), Zs.add_snoc]
          refine Lib.hid ?_
          split
          · exact h
          · rename_i hn
            rw [List.nodup_append]
            refine ⟨h, by simp, fun x hx y hy => ?_⟩
            simp only [List.mem_singleton] at hy
            subst hy
            intro e
            subst e
            exact hn hx
        clear hr hcell hX ht h1 hon hap hpb
        go_wp2_with (at_mapUpdate; refine wpList_vput _ rfl _ _ _ 79 rfl 20 82 KIF Try.underlying79 b _ rfl HS.out.2.1 X rfl _ rfl ?_; intro w1 hvm ht1)
        go_roundg k
        case measure => omega
        case rel =>
          refine ⟨i + 1, by go_num, by omega, ⟨HS.out.1.grown ht1.grown (by simpa using Ne.symm HS.out.2.2.1), by rw [HTK.out]; exact hvm, HS.out.2.2.1, HND.out⟩, HO.out.trans (Only2.of_grown ht1.grown (fun k e => .inr (.inl (by injection e with e; exact e.symm))))⟩
    · obtain rfl : i = n := by omega
      have hd : decide ((i : Int) < (i : Int)) = false := by simp
      have hfin : l.take i = l := List.take_of_length_le (by rw [HL.out]; exact Nat.le_refl _)
      have HF := Lib.hid hfin
      clear hfin hon hap
      go_wp2_with fail
      go_end0
      have hs := HS.out
      rw [HF.out] at hs
      exact ⟨rfl, hs, HO.out⟩

set_option maxRecDepth 100000 in
set_option maxHeartbeats 1000000 in
theorem srem_any (s b : Nat) (l0 l : List Int) (fl v : Value) (w : World) (hset : SetAt w s b l0 fl) (hv : Sl w v (ifs l)) (hap : Apart s b v) (h9 : l.length ≤ 1000) :
    Calls Try.prog 23 #[.pointer (some ⟨s, 0, none⟩), v] w fun e w' => e = .returned (.tuple #[]) ∧ SetAt w' s b (Zs.remAll l0 l) (.slice none 0 0) ∧ Only2 s b w w' := by
  obtain ⟨a, n, cap, rfl, hla, hc, hm, hr⟩ := hv
  rw [ifs_len] at hla
  have hn1 : n ≤ 1000 := by omega
  have HL := Lib.hid hla
  have c1 : w.cell? ⟨s, 1, none⟩ = some fl := hset.1.cell 1 rfl
  have f1 := hset.1.free 1
  have HS0 := Lib.hid (hset.clear (.slice none 0 0))
  clear hla h9 hm hset
  go_enter Try.func23, Try.ntmps23
  go_wp2_with fail
  go_loopg [11] n (fun k idx wr => RemSLoop l0 l n s b w k idx wr)
  case atStart => exact ⟨0, rfl, by omega, by simpa [Zs.remAll] using HS0.out, Only2.store (s := s) (b := b) w (a := ⟨s, 1, none⟩) rfl _⟩
  case round =>
    obtain ⟨i, rfl, hik, hset, hon⟩ := hrel
    have d0 : wr.cell? ⟨s, 0, none⟩ = some (.map (some b)) := hset.1.cell 0 rfl
    have HS := Lib.hid hset
    have HO := Lib.hid hon
    clear hset c1 f1
    by_cases hi : i < n
    · cases gk with
      | zero => omega
      | succ k =>
        obtain ⟨b1, o1, rfl, hcell⟩ := hr (by omega)
        have hpb := hap _ _ _ rfl
        have h1 := hcell i _ (ifs_at l i (by rw [HL.out]; exact hi))
        have h1b : wr.cell? ⟨b1, o1 + i, none⟩ = some (.iface 3 (.int .i64 (l.getD i 0))) := by
          rw [← h1]
          exact World.cell?_of_block (hon.block b1 (World.block_lt_of_cell? w _ h1) hpb.1 hpb.2)
        have ht := remAll_take l0 l i (by rw [HL.out]; exact hi)
        obtain ⟨X, hX⟩ : ∃ X, l.getD i 0 = X := ⟨_, rfl⟩
        rw [hX] at ht h1b
        have HTK := Lib.hid ht
        have HND : Hid ((Zs.remAll l0 (l.take (i + 1))).Nodup) := by
          have h := HS.out.2.2.2
          rw [take_getD l i (by rw [HL.out]; exact hi), Zs.rem_snoc]
          exact Lib.hid (h.erase _)
        clear hr hcell hX ht h1 hon hap hpb
        go_wp2_with (at_delete; refine wpList_vdel _ rfl _ _ 79 20 rfl 82 KIF Try.underlying79 b _ rfl HS.out.2.1 X rfl ?_; intro w1 hvm ht1)
        go_roundg k
        case measure => omega
        case rel =>
          refine ⟨i + 1, by go_num, by omega, ⟨HS.out.1.grown ht1.grown (by simpa using Ne.symm HS.out.2.2.1), by rw [HTK.out]; exact hvm, HS.out.2.2.1, HND.out⟩, HO.out.trans (Only2.of_grown ht1.grown (fun k e => .inr (.inl (by injection e with e; exact e.symm))))⟩
    · obtain rfl : i = n := by omega
      have hd : decide ((i : Int) < (i : Int)) = false := by simp
      have hfin : l.take i = l := List.take_of_length_le (by rw [HL.out]; exact Nat.le_refl _)
      have HF := Lib.hid hfin
      clear hfin hon hap
      go_wp2_with fail
      go_end0
      have hs := HS.out
      rw [HF.out] at hs
      exact ⟨rfl, hs, HO.out⟩

set_option maxRecDepth 100000 in
set_option maxHeartbeats 400000 in
theorem slen_any (s b : Nat) (l : List Int) (fl : Value) (w : World) (hset : SetAt w s b l fl) (h9 : l.length ≤ 100000) :
    Calls Try.prog 25 #[.pointer (some ⟨s, 0, none⟩)] w fun e w' => e = .returned (.int .i64 (l.length : Int)) ∧ w = w' := by
  have c0 : w.cell? ⟨s, 0, none⟩ = some (.map (some b)) := hset.1.cell 0 rfl
  have HS := Lib.hid hset
  clear hset
  obtain ⟨n, hn⟩ : ∃ n, l.length = n := ⟨_, rfl⟩
  rw [hn] at h9 ⊢
  have HN := Lib.hid hn
  clear hn
  go_enter Try.func25, Try.ntmps25
  go_wp2_with (at_len; refine wpList_vlen _ rfl _ 79 rfl 20 82 Try.underlying79 b _ rfl HS.out.2.1 (n : Int) (by rw [setl_len, HN.out]) ?_)
  go_ret
  exact ⟨rfl, rfl⟩

theorem zero_unit (w : World) : (zeroValue 82).run Try.prog w = .ok (.agg #[]) w := by kernel_rfl

set_option maxRecDepth 100000 in
set_option maxHeartbeats 400000 in
theorem sexists_any (s b : Nat) (l : List Int) (fl : Value) (x : Int) (w : World) (hset : SetAt w s b l fl) :
    Calls Try.prog 28 #[.pointer (some ⟨s, 0, none⟩), .iface 3 (.int .i64 x)] w fun e w' => e = .returned (.bool (decide (x ∈ l))) ∧ Below w.heap.size w w' := by
  have c0 : w.cell? ⟨s, 0, none⟩ = some (.map (some b)) := hset.1.cell 0 rfl
  have HS := Lib.hid hset
  have HG := Lib.hid (setl_get x l)
  clear hset
  obtain ⟨X, hX⟩ : ∃ X : Bool, decide (x ∈ l) = X := ⟨_, rfl⟩
  have HX := Lib.hid hX
  rw [hX]
  clear hX
  have hq : Vm.get x (setl l) = if X = true then some (.agg #[]) else none := by
    rw [HG.out, ← HX.out]; simp
  have HQ := Lib.hid hq
  clear hq HG
  cases X
  all_goals
    go_enter Try.func28, Try.ntmps28
    go_wp2_with (at_lookup; refine wpList_vlook_ok _ rfl _ _ 79 rfl 20 82 KIF Try.underlying79 (zero_unit _) b _ rfl HS.out.2.1 x rfl _ HQ.out ?_)
    go_ret
    exact ⟨rfl, (Below.refl _ _).alloc (Nat.le_refl _) _⟩
end Go.Proofs.Ytdmkijdokmnicaa
