/- Walk of package set's All; small laws for drawn regions. -/
import Derived.Test.YtdmkijdokmnicaaSetFlat
import Derived.Deep.RegionHeld3
namespace Go.Proofs.Ytdmkijdokmnicaa
set_option linter.unusedVariables false
open Go.RowKit

theorem SetAt.drew {w : World} {s b : Nat} {l : List Int} {fl : Value} (h : SetAt w s b l fl) : SetAt w.drew s b l fl := h
theorem SetAt.alloc {w : World} {s b : Nat} {l : List Int} {fl : Value} (h : SetAt w s b l fl) (o : Obj) : SetAt (w.alloc o) s b l fl := ⟨h.1.alloc o, h.2.1.alloc o, h.2.2.1, h.2.2.2⟩

theorem apart_owns {w : World} {B : Nat} {e : TypeId} {size : Nat} {v : Value} {n : Nat} {xs : List Value} (h : w.ownsRow B e size v n xs) {s b : Nat} {l : List Int} {fl : Value} (hs : SetAt w s b l fl) (he : e ≠ 81) : Apart s b v := by
  intro p m c hv
  obtain ⟨cs, hg⟩ := owns_blk h (g := p.block) (by rw [hv]; rfl)
  obtain ⟨es, clock, hm, _⟩ := hs.2.1
  have h1 := hs.1
  unfold Blk at hg h1
  refine ⟨fun e1 => ?_, fun e1 => ?_⟩
  · rw [e1, h1] at hg
    injection hg with hg
    injection hg with _ hg
    exact he hg.symm
  · rw [e1, hm] at hg; cases hg

theorem below_step {B : Nat} {w W w' : World} (h : Below B w W) (hb : Below W.heap.size W w') (hB : B ≤ w.heap.size) : Below B w w' := h.trans (hb.mono (Nat.le_trans hB h.size))

/-- append of one cell to the call's own, as one step of a region that draws -/
theorem step_append1 {P : Program} {w : World} {ops : Array Oper} {o : Oper} {a : Act} {K : Act → World → Prop} {Q : Exit → Act → World → Prop} {E : Prop} (hgd : o.guard = none) (s x : Operand) (t : TypeId)
    (ho : o.op = .call { callee := .builtin .append, args := #[s, x], argTypes := #[t, t] })
    (base : Nat) (e : TypeId) (z : Value) (bytes : Nat) (ht : P.underlying t = some (.slice e)) (hi : (P.info? e).map (fun i => (i.zero, i.size, i.bytes)) = some (some z, 1, bytes)) (hz : z.cells = #[z])
    (v : Value) (n : Nat) (xs : List Value) (hs : a.eval s = v) (hown : w.ownsRow base e 1 v n xs)
    (u : Value) (hx : a.eval x = .slice (some ⟨w.heap.size, 0, none⟩) 1 1) (h1 : u.oneCell' = true)
    (h63 : n + 1 ≤ maxLen) (hbytes : (n + 1) * bytes ≤ 140737488355328) (hbase : base ≤ w.heap.size)
    (h : ∀ g cap w', w'.ownsRow base e 1 (.slice (some ⟨g, 0, none⟩) (n + 1) cap) (n + 1) (xs ++ [u]) → w.grownBy w' v.ownBlock → Below base w w' → K (a.put o.dst (.slice (some ⟨g, 0, none⟩) (n + 1) cap)) w') :
    if Region.wanted o (yielded ops a.tmps) = true then Oper.wp P o a (w.alloc (.cells #[u] e)) K Q else E := by
  obtain ⟨i, h2, h3, h4, h5⟩ := info_parts hi
  have hw : (w.alloc (.cells #[u] e)).heap.size = w.heap.size + 1 := by simp
  obtain ⟨v', w', hrun, hown', hgr, hnil⟩ := run_append_own (P := P) (w.alloc (.cells #[u] e)) base t o.type e i z 1 bytes ht h2 h3 h4 h5 (by rw [hz]; rfl) (by omega) v n xs (hown.alloc _) ⟨w.heap.size, 0, none⟩ 1 1 [u] rfl (cell_one_new _ _ _) (by simpa using h1) h63 hbytes (by omega)
  have hg2 : w.grownBy w' v.ownBlock := ⟨hgr.os, hgr.tape, hgr.output, by have := hgr.size; omega, fun k hk hne => (hgr.block k (by omega) hne).trans (Below.heap_alloc w _ k hk)⟩
  have hv' : ∃ g cap, v' = .slice (some ⟨g, 0, none⟩) (n + 1) cap := by
    rcases hown'.2 with ⟨e, _⟩ | ⟨g, cap, cur, e, _⟩
    · have := (hnil.1 e).2; omega
    · exact ⟨g, cap, e⟩
  obtain ⟨g, cap, rfl⟩ := hv'
  have hwd : Region.wanted o (yielded ops a.tmps) = true := by simp [Region.wanted, hgd]
  rw [if_pos hwd]
  unfold Oper.wp execOp
  simp only [ho, resolve, invoke, builtin, Sem.run_bind, Sem.run_pure, Result.andThen_ok, List.map_toArray, List.map_cons, List.map_nil, hs, hx, hrun]
  exact h g cap w' hown' hg2 ((Below.refl _ _).grown hg2 hbase fun k hk => (hown.lt k hk).1)

theorem row_weaken {w : World} {B B' : Nat} {e : TypeId} {size : Nat} {v : Value} {n : Nat} {xs : List Value} (h : w.ownsRow B e size v n xs) (hB : B' ≤ B) : w.ownsRow B' e size v n xs := by
  refine ⟨h.1, ?_⟩
  rcases h.2 with h0 | ⟨g, cap, cur, rfl, hbg, hg, r⟩
  · exact .inl h0
  · exact .inr ⟨g, cap, cur, rfl, Nat.le_trans hB hbg, hg, r⟩
theorem row_below {w w' : World} {B : Nat} {e : TypeId} {size : Nat} {v : Value} {n : Nat} {xs : List Value} (h : w.ownsRow B e size v n xs) (hb : Below w.heap.size w w') : w'.ownsRow B e size v n xs := by
  refine ⟨h.1, ?_⟩
  have hl := h.lt
  rcases h.2 with h0 | ⟨g, cap, cur, rfl, hbg, hg, r⟩
  · exact .inl h0
  · exact .inr ⟨g, cap, cur, rfl, hbg, (hb.block g (hl g rfl).2).trans hg, r⟩
/-- rows of different types lie in different blocks -/
theorem row_apart {w : World} {B B' : Nat} {e e' : TypeId} {size size' : Nat} {v v' : Value} {n n' : Nat} {xs xs' : List Value} (h : w.ownsRow B e size v n xs) (h' : w.ownsRow B' e' size' v' n' xs') (he : e ≠ e') : v.ownBlock = none ∨ v.ownBlock ≠ v'.ownBlock := by
  cases hv : v.ownBlock with
  | none => exact .inl rfl
  | some g =>
    refine .inr fun e1 => ?_
    obtain ⟨cs, hg⟩ := owns_blk h hv
    obtain ⟨cs', hg'⟩ := owns_blk h' (e1.symm)
    unfold Blk at hg hg'
    rw [hg] at hg'
    injection hg' with hg'
    injection hg' with _ hg'
    exact he hg'
theorem row_not {w : World} {B : Nat} {e : TypeId} {size : Nat} {v : Value} {n : Nat} {xs : List Value} (h : w.ownsRow B e size v n xs) {s : Nat} {t : TypeId} {cs : Array Value} (hs : Blk w s t cs) (he : e ≠ t) : v.ownBlock = none ∨ v.ownBlock ≠ some s := by
  cases hv : v.ownBlock with
  | none => exact .inl rfl
  | some g =>
    refine .inr fun e1 => ?_
    obtain ⟨cs, hg⟩ := owns_blk h hv
    injection e1 with e1
    subst e1
    unfold Blk at hg hs
    rw [hg] at hs
    injection hs with hs
    injection hs with _ hs
    exact he hs
theorem row_notmap {w : World} {B : Nat} {e : TypeId} {size : Nat} {v : Value} {n : Nat} {xs : List Value} (h : w.ownsRow B e size v n xs) {b : Nat} {l : List (Int × Value)} (hs : VMap w ik b l) : ∀ k, v.ownBlock = some k → k ≠ b := by
  intro k hk e1
  obtain ⟨cs, hg⟩ := owns_blk h hk
  obtain ⟨es, clock, hm, _⟩ := hs
  subst e1
  unfold Blk at hg
  rw [hm] at hg
  cases hg

def AllSLoop (n : Nat) (l items : List Int) (w : World) (k : Nat) (idx : Value) (wr : World) : Prop :=
  ∃ i : Nat, idx = .int .i64 (i : Int) ∧ i + k = n ∧ (∀ x, x ∈ items.take i → x ∈ l) ∧ Below w.heap.size w wr

set_option maxRecDepth 100000 in
set_option maxHeartbeats 1000000 in
theorem sall_any (s b : Nat) (l : List Int) (fl : Value) (items : List Int) (v : Value) (w : World) (hset : SetAt w s b l fl) (hv : Sl w v (ifs items)) (h9 : items.length ≤ 1000) :
    Calls Try.prog 26 #[.pointer (some ⟨s, 0, none⟩), v] w fun e w' => e = .returned (.bool (items.all fun x => decide (x ∈ l))) ∧ Below w.heap.size w w' := by
  obtain ⟨a, n, cap, rfl, hla, hc, hm, hr⟩ := hv
  rw [ifs_len] at hla
  have hn1 : n ≤ 1000 := by omega
  have HL := Lib.hid hla
  have HS := Lib.hid hset
  obtain ⟨T, hT⟩ : ∃ T, (items.all fun x => decide (x ∈ l)) = T := ⟨_, rfl⟩
  have HTT := Lib.hid hT
  rw [hT]
  clear hla h9 hm hset hT
  go_enter Try.func26, Try.ntmps26
  go_wp2_with fail
  go_loopg [11] n (fun k idx wr => AllSLoop n l items w k idx wr)
  case atStart => exact ⟨0, rfl, by omega, by simp, Below.refl _ _⟩
  case round =>
    obtain ⟨i, rfl, hik, hall, hbel⟩ := hrel
    have HALL := Lib.hid hall
    have HB := Lib.hid hbel
    have HSR := Lib.hid (HS.out.below hbel)
    have c0 : wr.cell? ⟨s, 0, none⟩ = some (.map (some b)) := HSR.out.1.cell 0 rfl
    clear hall
    by_cases hi : i < n
    · cases gk with
      | zero => omega
      | succ k =>
        obtain ⟨b1, o1, rfl, hcell⟩ := hr (by omega)
        have hil : i < items.length := by rw [HL.out]; exact hi
        have h1 := hcell i _ (ifs_at items i hil)
        rw [← hbel.cell (World.block_lt_of_cell? w _ h1)] at h1
        have hmem : items.getD i 0 ∈ items := by
          rw [List.getD_eq_getElem?_getD, List.getElem?_eq_getElem hil]
          exact List.getElem_mem hil
        have htk := take_getD items i hil
        obtain ⟨X, hX⟩ : ∃ X, items.getD i 0 = X := ⟨_, rfl⟩
        rw [hX] at h1 hmem htk
        have HMEM := Lib.hid hmem
        have HTK := Lib.hid htk
        have HG := Lib.hid (setl_get X l)
        clear hr hcell hX hbel hmem htk hil
        by_cases hin : X ∈ l
        · have hq : Vm.get X (setl l) = some (.agg #[]) := by rw [HG.out, if_pos hin]
          have HQ := Lib.hid hq
          have HIN := Lib.hid hin
          clear hq hin HG
          go_wp2_with (at_lookup; refine wpList_vlook_ok _ rfl _ _ 79 rfl 20 82 KIF Try.underlying79 (zero_unit _) b _ rfl HSR.out.2.1 X rfl _ HQ.out ?_)
          go_roundg k
          case measure => omega
          case rel =>
            refine ⟨i + 1, by go_num, by omega, fun x hx => ?_, HB.out.alloc HB.out.size _⟩
            rw [HTK.out] at hx
            rcases List.mem_append.1 hx with h | h
            · exact HALL.out x h
            · obtain rfl : x = X := by simpa using h
              exact HIN.out
        · have hq : Vm.get X (setl l) = none := by rw [HG.out, if_neg hin]
          have HQ := Lib.hid hq
          have hfin : T = false := by
            rw [← HTT.out, List.all_eq_false]
            exact ⟨X, HMEM.out, by simpa using hin⟩
          have HF := Lib.hid hfin
          clear hq hin HG hfin
          go_wp2_with (at_lookup; refine wpList_vlook_ok _ rfl _ _ 79 rfl 20 82 KIF Try.underlying79 (zero_unit _) b _ rfl HSR.out.2.1 X rfl _ HQ.out ?_)
          go_ret
          exact ⟨by rw [HF.out]; rfl, HB.out.alloc HB.out.size _⟩
    · obtain rfl : i = n := by omega
      have hd : decide ((i : Int) < (i : Int)) = false := by simp
      have hfin : T = true := by
        rw [← HTT.out, List.all_eq_true]
        intro x hx
        have := HALL.out x (by rw [List.take_of_length_le (by rw [HL.out]; exact Nat.le_refl _)]; exact hx)
        simpa using this
      have HF := Lib.hid hfin
      clear hfin
      go_wp2_with fail
      go_ret
      exact ⟨by rw [HF.out]; rfl, HB.out⟩
end Go.Proofs.Ytdmkijdokmnicaa
