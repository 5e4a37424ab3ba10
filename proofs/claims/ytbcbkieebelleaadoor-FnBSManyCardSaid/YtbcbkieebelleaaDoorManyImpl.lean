/- The walk of impl.BSNextSetMany. -/
import Derived.Test.YtbcbkieebelleaaDoorMany
import Derived.Laws.MakeOwn
import Derived.Deep.RegionHeld3
namespace Go.Proofs.YtbcbkieebelleaaDoor
set_option linter.unusedVariables false
open Go.RowKit

theorem nextmany_any (B p L i g2 rm B2 : Nat) (ws : List Nat) (w : World) (hb : Bs B w p L ws ws.length) (hn9 : ws.length ≤ 1000) (hi : i ≤ 100000) (hrm : 1 ≤ rm) (hrm9 : rm ≤ 100) (hT : Tab w)
    (xs0 : List Nat) (hown : w.ownsRow B2 22 1 (.slice (some ⟨g2, 0, none⟩) rm rm) rm (u64s xs0)) (hxs : xs0.length = rm) (hne : g2 ≠ p) (hneg : ∀ g n, w.cell? ⟨p, 1, none⟩ = some (.slice (some ⟨g, 0, none⟩) n n) → g ≠ g2) (hne0 : g2 ≠ 0) :
    Calls Tryd.prog 15 #[.pointer (some ⟨p, 0, none⟩), .int .u64 (i : Int), .slice (some ⟨g2, 0, none⟩) rm rm] w (ManyIs (Bsm.bit ws) (64 * ws.length) i w B2 g2 rm) := by
  by_cases hq : i / 64 < ws.length
  · exact nextmany_in B p L i g2 rm B2 ws w hb hn9 hq hrm hrm9 hT xs0 hown hxs hne hneg hne0
  · exact nextmany_out B p L i g2 rm B2 ws w hb hn9 hi (by omega) hrm hrm9 xs0 hown hxs

theorem run_make_row {P : Program} (t e : TypeId) (z : Value) (bytes : Nat) (ht : P.underlying t = some (.slice e)) (hi : (P.info? e).map (fun i => (i.zero, i.size, i.bytes)) = some (some z, 1, bytes)) (kl kc : IntKind) (n : Nat) (N : Int) (hN : N = (n : Int)) (hbytes : bytes * n ≤ 281474976710656) (h63 : n ≤ 9223372036854775807) (w : World) :
    (Instr.makeSlice t (.int kl N) (.int kc N)).run P w = .ok (.slice (some ⟨w.heap.size, 0, none⟩) n n) (w.alloc (.cells (madeCells z.cells n) e)) := by
  subst hN
  obtain ⟨i, h2, h3, h4, h5⟩ := info_parts hi
  have hb : (i.bytes : Int) * (n : Int) ≤ 281474976710656 := by
    have h : ((i.bytes * n : Nat) : Int) ≤ 281474976710656 := by rw [h5]; omega
    rwa [Int.natCast_mul] at h
  have hr := run_make (P := P) w t e i z ht h2 h3 kl kc n n (by omega) (by omega) hb (by omega)
  simp only [Int.toNat_natCast, h4, Nat.mul_one] at hr
  exact hr
theorem own_made (w : World) (e : TypeId) (n : Nat) (B : Nat) (hB : B ≤ w.heap.size) (hn : n ≤ maxLen) : (w.alloc (.cells (madeCells (Value.int .u64 0).cells n) e)).ownsRow B e 1 (.slice (some ⟨w.heap.size, 0, none⟩) n n) n (u64s (List.replicate n 0)) := by
  have hl : (madeCells (Value.int .u64 0).cells n).toList = List.replicate n (.int .u64 0) := toList_madeCells_one _ _
  have hu : u64s (List.replicate n 0) = List.replicate n (.int .u64 0) := by simp [u64s]
  rw [hu]
  refine ⟨by simp, .inr ⟨w.heap.size, n, madeCells (Value.int .u64 0).cells n, rfl, hB, heap_alloc_new w _, Nat.le_refl _, hn, ?_, ?_⟩⟩
  · have := congrArg List.length hl; simp at this; rw [this]; omega
  · rw [hl]; simp

/-- what BSNextSetMany returns -/
def NextManyIs (bs : List Bool) (i rm : Nat) (w : World) (e : Ending) (w' : World) : Prop :=
  ∃ (cs : List Nat) (T last : Nat) (g : Nat), e = .returned (.tuple #[.slice (some ⟨g, 0, none⟩) cs.length rm, .int .u64 (last : Nat)]) ∧ Sl w' (.slice (some ⟨g, 0, none⟩) cs.length rm) (u64s cs) ∧ cs = posr (fun j => bs.getD j false) i T ∧
    (cs = [] ∧ (∀ x, i ≤ x → bs.getD x false = false) ∨ cs ≠ [] ∧ last + 1 = i + T) ∧ (T = 0 ∨ i + T ≤ bs.length + 63) ∧ Below w.heap.size w w'

theorem Buf.sl {w wr : World} {B g rm : Nat} {cs : List Nat} (h : Buf w B g rm cs wr) (hl : cs.length ≤ rm) (hr : rm ≤ 100) : Sl wr (.slice (some ⟨g, 0, none⟩) cs.length rm) (u64s cs) := by
  refine ⟨_, _, _, rfl, by rw [u64s_len], hl, by unfold maxLen; omega, fun _ => ⟨g, 0, rfl, fun i u hu => ?_⟩⟩
  have hi : i < cs.length := by
    rcases Nat.lt_or_ge i cs.length with h1 | h1
    · exact h1
    · rw [List.getElem?_eq_none (by rw [u64s_len]; exact h1)] at hu; cases hu
  rw [u64s_at cs i hi] at hu
  rw [Nat.zero_add, h.cell i hi hl, hu]

theorem many_end {bs : List Bool} {ws cs : List Nat} {i rm g B T last : Nat} {w W w' : World} (hbit : ∀ j, Bsm.bit ws j = bs.getD j false) (hwl : bs.length ≤ 64 * ws.length) (hwl2 : 64 * ws.length ≤ bs.length + 63) (htop : T = 0 ∨ i + T ≤ 64 * ws.length) (hW : Below w.heap.size w W) (hg : w.heap.size ≤ g) (hr : rm ≤ 100)
    (hl : cs.length ≤ rm) (hcs : cs = posr (Bsm.bit ws) i T) (hb : Buf W B g rm cs w') (hd : cs = [] ∧ (∀ x, i ≤ x → x < 64 * ws.length → Bsm.bit ws x = false) ∨ cs ≠ [] ∧ last + 1 = i + T) :
    NextManyIs bs i rm w (.returned (.tuple #[.slice (some ⟨g, 0, none⟩) cs.length rm, .int .u64 (last : Nat)])) w' := by
  have hf : Bsm.bit ws = fun j => bs.getD j false := funext hbit
  refine ⟨cs, T, last, g, rfl, hb.sl hl hr, by rw [← hf]; exact hcs, ?_, by omega, hW.grown hb.grown hW.size (fun k hk => by injection hk with hk; omega)⟩
  rcases hd with ⟨h1, h2⟩ | h
  · refine .inl ⟨h1, fun x hx => ?_⟩
    by_cases h3 : x < 64 * ws.length
    · rw [← hbit]; exact h2 x hx h3
    · exact Bsm.getD_out bs x (by omega)
  · exact .inr h

theorem Bs.words_at {B p L : Nat} {ws : List Nat} {cap : Nat} {w : World} (h : Bs B w p L ws cap) {g n c : Nat} (hg : w.cell? ⟨p, 1, none⟩ = some (.slice (some ⟨g, 0, none⟩) n c)) : B ≤ g ∧ g < w.heap.size := by
  obtain ⟨g', _, _, hk, ho, _⟩ := h
  have c1 := hk.cell 1 rfl
  rw [c1] at hg
  have hgg : g' = g := by injection hg with hg; injection hg with hg; injection hg with hg; injection hg
  have := ho.lt g' rfl
  omega

theorem many_a {B p L i rm : Nat} {ws : List Nat} {w1 : World} (hb : Bs B w1 p L ws ws.length) (hn9 : ws.length ≤ 1000) (hi : i ≤ 100000) (hrm : 1 ≤ rm) (hrm9 : rm ≤ 100) (hT : Tab w1) :
    Calls Tryd.prog 15 #[.pointer (some ⟨p, 0, none⟩), .int .u64 (i : Int), .slice (some ⟨w1.heap.size, 0, none⟩) rm rm] (w1.alloc (.cells (madeCells #[.int .u64 0] rm) 22))
      (ManyIs (Bsm.bit ws) (64 * ws.length) i (w1.alloc (.cells (madeCells #[.int .u64 0] rm) 22)) w1.heap.size w1.heap.size rm) := by
  have hpl : p < w1.heap.size := by obtain ⟨_, _, _, hk, _⟩ := hb; exact hk.lt
  have hbA : Below w1.heap.size w1 (w1.alloc (.cells (madeCells #[.int .u64 0] rm) 22)) := (Below.refl _ _).alloc (Nat.le_refl _) _
  refine nextmany_any B p L i w1.heap.size rm w1.heap.size ws _ (hb.below hbA) hn9 hi hrm hrm9 (hT.below hbA hT.lt) (List.replicate rm 0) (own_made w1 22 rm _ (Nat.le_refl _) (by unfold maxLen; omega)) (by simp) (by omega) (fun g n hg => ?_) (by have := hT.lt; omega)
  have := hb.words_at (g := g) (n := n) (c := n) (by rw [← hg]; exact (hbA.cell (p := ⟨p, 1, none⟩) hpl).symm)
  omega
theorem many_b {p L i rm g2 : Nat} {ws : List Nat} {V w1 : World} (hb1 : Below ((V.alloc (.cells (madeCells #[.int .u64 0] rm) 22)).drew).heap.size ((V.alloc (.cells (madeCells #[.int .u64 0] rm) 22)).drew) w1)
    (hb : Bs ((V.alloc (.cells (madeCells #[.int .u64 0] rm) 22)).drew).heap.size w1 p L ws ws.length) (hn9 : ws.length ≤ 1000) (hi : i ≤ 100000) (hrm : 1 ≤ rm) (hrm9 : rm ≤ 100) (hT : Tab w1) (hV : 0 < V.heap.size) (hg2 : V.heap.size = g2) :
    Calls Tryd.prog 15 #[.pointer (some ⟨p, 0, none⟩), .int .u64 (i : Int), .slice (some ⟨g2, 0, none⟩) rm rm] w1
      (ManyIs (Bsm.bit ws) (64 * ws.length) i w1 g2 g2 rm) := by
  subst hg2
  have hsz : ((V.alloc (.cells (madeCells #[.int .u64 0] rm) 22)).drew).heap.size = V.heap.size + 1 := by show (V.alloc _).heap.size = _; simp
  have hp : V.heap.size < p := by obtain ⟨_, h, _⟩ := hb; omega
  refine nextmany_any _ p L i V.heap.size rm V.heap.size ws _ hb hn9 hi hrm hrm9 hT (List.replicate rm 0) (ownsRow_below (w := (V.alloc (.cells (madeCells #[.int .u64 0] rm) 22)).drew) (show ((V.alloc (.cells (madeCells #[.int .u64 0] rm) 22)).drew).ownsRow V.heap.size 22 1 (.slice (some ⟨V.heap.size, 0, none⟩) rm rm) rm (u64s (List.replicate rm 0)) from own_made V 22 rm _ (Nat.le_refl _) (by unfold maxLen; omega)) hb1) (by simp) (by omega) (fun g n hg => ?_) (by omega)
  have := hb.words_at hg
  omega

set_option maxRecDepth 100000 in
set_option maxHeartbeats 4000000 in
theorem bsnextmany_any (v : Value) (bs : List Bool) (i rm : Nat) (w : World) (hv : IsBits w v bs) (hn : bs.length ≤ 400) (hi : i ≤ 10000) (hrm : 1 ≤ rm) (hrm9 : rm ≤ 100) (hT : Tab w) :
    Calls Tryd.prog 7 #[v, .int .u64 (i : Int), .int .u64 (rm : Int)] w (NextManyIs bs i rm w) := by
  have hv0 := hv
  obtain ⟨s, rfl, hs⟩ := hv
  obtain ⟨a, n, cap, rfl, _⟩ := hs
  have hb0 : Below w.heap.size w (w.alloc (.cells #[.int .u64 (bs.length : Int), .slice a n cap] 25)) := (Below.refl _ _).alloc (Nat.le_refl _) _
  have bk := Blk.new w 25 #[.int .u64 (bs.length : Int), .slice a n cap]
  have c0 := bk.cell 0 rfl
  have c1 := bk.cell 1 rfl
  have HV := Lib.hid (hv0.below rfl hb0)
  have HB0 := Lib.hid hb0
  have HT := Lib.hid hT
  have HTL := Lib.hid hT.lt
  have hmk := fun W => run_make_row (P := Tryd.prog) 23 22 (.int .u64 0) 8 Tryd.underlying23 info_u64 .u64 .u64 rm (rm : Int) rfl (by omega) (by omega) W
  have hdr : ∀ W : World, W.drew.heap.size = W.heap.size := fun _ => rfl
  have hbA : Below (w.alloc (.cells #[.int .u64 (bs.length : Int), .slice a n cap] 25)).heap.size (w.alloc (.cells #[.int .u64 (bs.length : Int), .slice a n cap] 25)) ((w.alloc (.cells #[.int .u64 (bs.length : Int), .slice a n cap] 25)).drew) := (Below.refl _ _).drew
  have hbB : Below (w.alloc (.cells #[.int .u64 (bs.length : Int), .slice a n cap] 25)).heap.size (w.alloc (.cells #[.int .u64 (bs.length : Int), .slice a n cap] 25)) (((w.alloc (.cells #[.int .u64 (bs.length : Int), .slice a n cap] 25)).alloc (.cells (madeCells #[.int .u64 0] rm) 22)).drew) := ((Below.refl _ _).alloc (Nat.le_refl _) _).drew
  have HVA := Lib.hid (HV.out.below rfl hbA)
  have HVB := Lib.hid (HV.out.below rfl hbB)
  have hwA : Below w.heap.size w ((w.alloc (.cells #[.int .u64 (bs.length : Int), .slice a n cap] 25)).drew) := HB0.out.drew
  have hwB : Below w.heap.size w (((w.alloc (.cells #[.int .u64 (bs.length : Int), .slice a n cap] 25)).alloc (.cells (madeCells #[.int .u64 0] rm) 22)).drew) := (HB0.out.alloc (by simp) _).drew
  have HWA := Lib.hid hwA
  have HWB := Lib.hid hwB
  have hx : w.heap.size < (w.alloc (.cells #[.int .u64 (bs.length : Int), .slice a n cap] 25)).heap.size := by simp
  have HCA0 := Lib.hid ((hbA.cell (p := ⟨w.heap.size, 0, none⟩) hx).trans c0)
  have HCA1 := Lib.hid ((hbA.cell (p := ⟨w.heap.size, 1, none⟩) hx).trans c1)
  have HCB0 := Lib.hid ((hbB.cell (p := ⟨w.heap.size, 0, none⟩) hx).trans c0)
  have HCB1 := Lib.hid ((hbB.cell (p := ⟨w.heap.size, 1, none⟩) hx).trans c1)
  have HSA : Hid (((w.alloc (.cells #[.int .u64 (bs.length : Int), .slice a n cap] 25)).drew).heap.size = w.heap.size + 1) := by show (w.alloc _).heap.size = _; simp
  have HSB : Hid ((((w.alloc (.cells #[.int .u64 (bs.length : Int), .slice a n cap] 25)).alloc (.cells (madeCells #[.int .u64 0] rm) 22)).drew).heap.size = w.heap.size + 2) := by show ((w.alloc _).alloc _).heap.size = _; simp
  have HSX : Hid ((w.alloc (.cells #[.int .u64 (bs.length : Int), .slice a n cap] 25)).heap.size = w.heap.size + 1) := by show (w.alloc _).heap.size = _; simp
  clear hv0 hb0 hT bk hbA hbB hwA hwB hx
  go_enter Tryd.func7, Tryd.ntmps7
  go_wp2_with fail
  go_region_held3 (fun w' => w'.cell? ⟨w.heap.size, 0, none⟩ = some (.int .u64 (bs.length : Int)) ∧ w'.cell? ⟨w.heap.size, 1, none⟩ = some (.slice a n cap))
    ((first | go_keep | exact ⟨by assumption, by assumption⟩))
    ((first
      | (go_at_call 14; (with_reducible refine Calls.mono (set64_any _ bs ((w.alloc (.cells #[.int .u64 (bs.length : Int), .slice a n cap] 25)).drew) HVA.out (by omega)) ?_); rintro e w1 ⟨p, ws, rfl, hbs, hwl, hbit, hb1⟩; rw [← hwl] at hbs; have HBSA := Lib.hid hbs; have HWL := Lib.hid hwl; have HBIT := Lib.hid hbit; have HBA1 := Lib.hid hb1; have HZA : Hid (w.heap.size + 1 ≤ w1.heap.size) := (by have := hb1.size; have := HSA.out; unfold Hid; omega); have s0 : w1.cell? ⟨w.heap.size, 0, none⟩ = some (.int .u64 (bs.length : Int)) := (hb1.cell (p := ⟨w.heap.size, 0, none⟩) (by have := HSA.out; simp only []; omega)).trans HCA0.out; have s1 : w1.cell? ⟨w.heap.size, 1, none⟩ = some (.slice a n cap) := (hb1.cell (p := ⟨w.heap.size, 1, none⟩) (by have := HSA.out; simp only []; omega)).trans HCA1.out; have HBW : Hid (Below w.heap.size w w1) := HWA.out.trans (hb1.mono (by have := HSA.out; omega)); have HT1 : Hid (Tab w1) := HT.out.below HBW.out HTL.out; clear hbs hwl hbit hb1)
      | (go_at_call 14; (with_reducible refine Calls.mono (set64_any _ bs (((w.alloc (.cells #[.int .u64 (bs.length : Int), .slice a n cap] 25)).alloc (.cells (madeCells #[.int .u64 0] rm) 22)).drew) HVB.out (by omega)) ?_); rintro e w1 ⟨p, ws, rfl, hbs, hwl, hbit, hb1⟩; rw [← hwl] at hbs; have HBSB := Lib.hid hbs; have HWL := Lib.hid hwl; have HBIT := Lib.hid hbit; have HBB1 := Lib.hid hb1; have HZB : Hid (w.heap.size + 2 ≤ w1.heap.size) := (by have := hb1.size; have := HSB.out; unfold Hid; omega); have s0 : w1.cell? ⟨w.heap.size, 0, none⟩ = some (.int .u64 (bs.length : Int)) := (hb1.cell (p := ⟨w.heap.size, 0, none⟩) (by have := HSB.out; simp only []; omega)).trans HCB0.out; have s1 : w1.cell? ⟨w.heap.size, 1, none⟩ = some (.slice a n cap) := (hb1.cell (p := ⟨w.heap.size, 1, none⟩) (by have := HSB.out; simp only []; omega)).trans HCB1.out; have HBW : Hid (Below w.heap.size w w1) := HWB.out.trans (hb1.mono (by have := HSB.out; omega)); have HT1 : Hid (Tab w1) := HT.out.below HBW.out HTL.out; clear hbs hwl hbit hb1)
      | (go_at_call 15; have tok := HBSA; (with_reducible refine Calls.mono (many_a HBSA.out (by rw [HWL.out]; omega) (by omega) hrm hrm9 HT1.out) ?_); rintro e w2 ⟨cs, T, last, rfl, hcl, hcs, htop, hbuf, hdis⟩; have t0 : w2.cell? ⟨w.heap.size, 0, none⟩ = some (.int .u64 (bs.length : Int)) := (hbuf.grown.cell_far ⟨w.heap.size, 0, none⟩ (by have := HZA.out; simp only [World.size_alloc]; omega) (by have := HZA.out; simp; omega)).trans ((((Below.refl _ _).alloc (Nat.le_refl _) _).cell (p := ⟨w.heap.size, 0, none⟩) (by have := HZA.out; simp only []; omega)).trans s0); have t1 : w2.cell? ⟨w.heap.size, 1, none⟩ = some (.slice a n cap) := (hbuf.grown.cell_far ⟨w.heap.size, 1, none⟩ (by have := HZA.out; simp only [World.size_alloc]; omega) (by have := HZA.out; simp; omega)).trans ((((Below.refl _ _).alloc (Nat.le_refl _) _).cell (p := ⟨w.heap.size, 1, none⟩) (by have := HZA.out; simp only []; omega)).trans s1); have HM := Lib.hid (many_end HBIT.out (by rw [HWL.out]; omega) (by rw [HWL.out]; omega) htop (HBW.out.alloc (by have := HZA.out; omega) _) (by have := HZA.out; omega) hrm9 hcl hcs hbuf hdis); clear hcl hcs htop hbuf hdis)
      | (go_at_call 15; have tok := HBSB; (with_reducible refine Calls.mono (many_b HBB1.out HBSB.out (by rw [HWL.out]; omega) (by omega) hrm hrm9 HT1.out (by rw [HSX.out]; omega) HSX.out) ?_); rintro e w2 ⟨cs, T, last, rfl, hcl, hcs, htop, hbuf, hdis⟩; have t0 : w2.cell? ⟨w.heap.size, 0, none⟩ = some (.int .u64 (bs.length : Int)) := (hbuf.grown.cell_far ⟨w.heap.size, 0, none⟩ (by have := HZB.out; simp only []; omega) (by simp)).trans s0; have t1 : w2.cell? ⟨w.heap.size, 1, none⟩ = some (.slice a n cap) := (hbuf.grown.cell_far ⟨w.heap.size, 1, none⟩ (by have := HZB.out; simp only []; omega) (by simp)).trans s1; have HM := Lib.hid (many_end HBIT.out (by rw [HWL.out]; omega) (by rw [HWL.out]; omega) htop HBW.out (by omega) hrm9 hcl hcs hbuf hdis); clear hcl hcs htop hbuf hdis)))
  all_goals
    go_wp2_with fail
    go_ret2
    exact HM.out
end Go.Proofs.YtbcbkieebelleaaDoor
