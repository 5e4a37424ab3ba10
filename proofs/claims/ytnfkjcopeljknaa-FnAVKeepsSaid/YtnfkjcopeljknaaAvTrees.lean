/- The walk of spec.AVTrees. -/
import Derived.Test.YtnfkjcopeljknaaAvStepH
import Derived.Deep.RegionHeld3
import Derived.Deep.DeepCutAuto
namespace Go.Proofs.Ytnfkjcopeljknaa
set_option linter.unusedVariables false
open Go.RowKit Avm

/-- the trees of a script, as lists -/
def sStep (all : List Lst) (s : AStp) : List Lst := if s.op = 3 then all else all ++ [stepL s.op (all.getD (s.frm % all.length) []) s.es]
def sTrees (all : List Lst) (S : List AStp) : List Lst := S.foldl sStep all
theorem sTrees_succ (all : List Lst) (S : List AStp) (i : Nat) (s : AStp) (h : S[i]? = some s) : sTrees all (S.take (i + 1)) = sStep (sTrees all (S.take i)) s := by
  obtain ⟨hlt, hge⟩ := List.getElem?_eq_some_iff.1 h
  unfold sTrees
  rw [List.take_succ_eq_append_getElem hlt, List.foldl_append, hge]
  rfl
theorem sStep_len (all : List Lst) (s : AStp) : (sStep all s).length ≤ all.length + 1 ∧ all.length ≤ (sStep all s).length := by
  unfold sStep
  split
  · omega
  · simp
theorem sTrees_len (S : List AStp) : ∀ all : List Lst, (sTrees all S).length ≤ all.length + S.length ∧ all.length ≤ (sTrees all S).length := by
  induction S with
  | nil => intro all; exact ⟨Nat.le_refl _, Nat.le_refl _⟩
  | cons s S ih =>
    intro all
    have h1 := ih (sStep all s)
    have h2 := sStep_len all s
    show (sTrees (sStep all s) S).length ≤ _ ∧ _ ≤ (sTrees (sStep all s) S).length
    simp only [List.length_cons]
    omega
theorem sTrees_big (S : List AStp) : ∀ (all : List Lst) (k : Nat), (∀ s ∈ S, s.es.length ≤ 100) → (∀ L ∈ all, L.length ≤ k) → ∀ L ∈ sTrees all S, L.length ≤ k + 100 * S.length := by
  induction S with
  | nil => intro all k _ h L hL; exact Nat.le_trans (h L hL) (by omega)
  | cons s S ih =>
    intro all k hs h L hL
    have h2 : ∀ L ∈ sStep all s, L.length ≤ k + 100 := by
      intro L hL
      unfold sStep at hL
      split at hL
      · have := h L hL; omega
      · rcases List.mem_append.1 hL with hL | hL
        · have := h L hL; omega
        · rw [List.mem_singleton.1 hL]
          have h3 := stepL_len s.op s.es (all.getD (s.frm % all.length) [])
          have h4 := hs s (by simp)
          have h5 : (all.getD (s.frm % all.length) []).length ≤ k := by
            rw [List.getD_eq_getElem?_getD]
            cases hq : all[s.frm % all.length]? with
            | none => simp
            | some x => exact h x (List.mem_of_getElem? hq)
          omega
    have h3 := ih (sStep all s) (k + 100) (fun s hs' => hs s (List.mem_cons_of_mem _ hs')) h2 L hL
    simp only [List.length_cons]
    omega

theorem info_sle : (Try.prog.info? 22).map (fun i => (i.zero, i.size, i.bytes)) = some (some (.slice none 0 0), 1, 24) := by kernel_rfl
def ListsAt (w : World) (G : Nat) (vs : List Value) (LL : List Lst) : Prop := vs.length = LL.length ∧ ∀ (i : Nat) (v : Value) (L : Lst), vs[i]? = some v → LL[i]? = some L → w.ownsRow G 25 2 v L.length (aes L).flatten
theorem ListsAt.fr {w w' : World} {G : Nat} {vs : List Value} {LL : List Lst} {F F' : List Nat} (h : ListsAt w G vs LL) (hf : Fr F F' w w') (hF : ∀ v n xs, w.ownsRow G 25 2 v n xs → ∀ k ∈ obl v, k ∉ F) : ListsAt w' G vs LL :=
  ⟨h.1, fun i v L h1 h2 => hf.own (h.2 i v L h1 h2) (hF _ _ _ (h.2 i v L h1 h2))⟩
theorem ListsAt.below {w w' : World} {G : Nat} {vs : List Value} {LL : List Lst} (h : ListsAt w G vs LL) (hb : Below w.heap.size w w') : ListsAt w' G vs LL := h.fr (Fr.of_below [] hb) (fun _ _ _ _ _ _ h => by cases h)
theorem ListsAt.row {w w' : World} {G : Nat} {vs : List Value} {LL : List Lst} (h : ListsAt w G vs LL) {B : Nat} {e : TypeId} {z : Nat} {u u' : Value} {n : Nat} {xs : List Value} (ho : w.ownsRow B e z u n xs) (h1 : 25 ≠ e) (hf : Fr (obl u) (obl u') w w') : ListsAt w' G vs LL :=
  h.fr hf fun v n xs hv => row_row hv ho h1
theorem ListsAt.snoc {w : World} {G : Nat} {vs : List Value} {LL : List Lst} (h : ListsAt w G vs LL) {v : Value} {L : Lst} (h1 : w.ownsRow G 25 2 v L.length (aes L).flatten) : ListsAt w G (vs ++ [v]) (LL ++ [L]) := by
  refine ⟨by simp [h.1], fun i v' L' hv hL => ?_⟩
  by_cases hi : i < vs.length
  · rw [List.getElem?_append_left hi] at hv
    rw [List.getElem?_append_left (by rw [← h.1]; exact hi)] at hL
    exact h.2 i v' L' hv hL
  · have hl := (List.getElem?_eq_some_iff.1 hv).1
    simp at hl
    have hi2 : i = vs.length := by omega
    subst hi2
    rw [List.getElem?_append_right (Nat.le_refl _), Nat.sub_self] at hv
    rw [h.1, List.getElem?_append_right (Nat.le_refl _), Nat.sub_self] at hL
    simp at hv hL
    subst hv hL
    exact h1
theorem rw_slice {S : Nat} {w : World} {v : Value} {rows : List (List Value)} (h : Rw S w v rows) : ∃ a n c, v = .slice a n c := by obtain ⟨a, n, c, e, _⟩ := h; exact ⟨a, n, c, e⟩
/-- behind the step of a round -/
def TMid (G : Nat) (w wz : World) (L' : Lst) (op : Nat) (n0 : Nat) (s8 s9 : Value) (wx : World) : Prop :=
  ∃ (N : Nat) (v1 : Option Addr) (v2 v3 : Nat) (a1 : Option Addr) (b1 c1 : Nat) (a2 : Option Addr) (b2 c2 : Nat) (m : Nat), s8 = .slice v1 v2 v3 ∧ s9 = .pointer (some ⟨N, 0, none⟩) ∧ Blk wx N 36 #[.int .i64 (m : Int), .slice a1 b1 c1, .slice a2 b2 c2] ∧
    (op ≠ 3 → wx.ownsRow G 25 2 (.slice v1 v2 v3) L'.length (aes L').flatten) ∧ Below wz.heap.size wz wx
def TreesLoop (S : List AStp) (G n : Nat) (w : World) (k : Nat) (s4 s5 idx : Value) (wr : World) : Prop :=
  ∃ (i m : Nat) (qa : Option Addr) (ca : Nat) (qo : Option Addr) (co : Nat) (vs xs : List Value), s4 = .slice qa m ca ∧ s5 = .slice qo i co ∧ idx = .int .i64 (i : Int) ∧ i + k = n ∧ vs.length = m ∧
    wr.ownsRow G 22 1 (.slice qa m ca) m vs ∧ wr.ownsRow G 36 3 (.slice qo i co) i xs ∧ ListsAt wr G vs (sTrees [[]] (S.take i)) ∧ Below G w wr

theorem keepA {w : World} {p : Addr} {u : Value} (h : w.cell? p = some u) (o : Obj) : (w.alloc o).cell? p = some u := (((Below.refl w.heap.size w).alloc (Nat.le_refl _) o).cell (World.block_lt_of_cell? _ _ h)).trans h
theorem keepD {w : World} {p : Addr} {u : Value} (h : w.cell? p = some u) : w.drew.cell? p = some u := h
theorem keepS {w : World} {p a : Addr} {u x : Value} (h : w.cell? p = some u) (hn : p.block ≠ a.block) : (w.setCell a x).cell? p = some u := by
  obtain ⟨b, o, s⟩ := p
  have hs := World.cell?_spot h
  subst hs
  exact (Fr.store w (F := [a.block]) (a := a) (by simp) x).cell h (fun e => hn (List.mem_singleton.1 e))

set_option maxRecDepth 100000 in
set_option maxHeartbeats 4000000 in
theorem avtrees_any (S : List AStp) (v : Value) (R : List (List Value)) (w : World) (hv : Rw 3 w v R) (hst : AStepsAt w R S) (hn : S.length ≤ 400) (hok : ∀ s ∈ S, 1 ≤ s.op ∧ s.op ≤ 3 ∧ 0 < s.es.length ∧ s.es.length ≤ 100) (hC : AvStepC) :
    Calls Try.prog 17 #[v] w fun e w' => ∃ (qa : Option Addr) (ca : Nat) (u : Value) (vs : List Value), e = .returned (.tuple #[.slice qa (sTrees [[]] S).length ca, u]) ∧ w'.ownsRow w.heap.size 22 1 (.slice qa (sTrees [[]] S).length ca) (sTrees [[]] S).length vs ∧
      ListsAt w' w.heap.size vs (sTrees [[]] S) ∧ Below w.heap.size w w' := by
  obtain ⟨a0, n, cap, rfl, hla, hc, hm, hrr⟩ := hv
  have hnS : S.length = n := by rw [← hst.1, hla]
  rw [hnS] at hn
  have HLA := Lib.hid hla
  have HST := Lib.hid hst
  have HNS := Lib.hid hnS
  have HOK := Lib.hid hok
  have HC := Lib.hid hC
  have HBIG := Lib.hid (sTrees_big S [[]] 0 (fun s hs => (hok s hs).2.2.2) (fun L hL => by rw [List.mem_singleton.1 hL]; exact Nat.le_refl _))
  obtain ⟨G, hG⟩ : ∃ G, w.heap.size = G := ⟨_, rfl⟩
  have HG := Lib.hid hG
  have hO0 : (w.alloc (.cells #[.slice none 0 0] 22)).ownsRow G 22 1 (.slice (some ⟨w.heap.size, 0, none⟩) 1 1) 1 [.slice none 0 0] :=
    World.ownsRow_lit (base := G) (e := 22) (size := 1) w #[.slice none 0 0] 1 (by omega) (by decide) rfl
  have hB0 : Below G w (w.alloc (.cells #[.slice none 0 0] 22)) := by rw [← hG]; exact (Below.refl _ _).alloc (Nat.le_refl _) _
  have HO0 := Lib.hid hO0
  have HB0 := Lib.hid hB0
  clear hst hla hnS hok hC hG hO0 hB0
  go_enter Try.func17, Try.ntmps17
  go_wp2_with fail
  go_loopg [4, 5, 7, 8, 9, 13] n (fun k s4 s5 s7 s8 s9 idx wr => TreesLoop S G n w k s4 s5 idx wr)
  case atStart =>
    refine ⟨0, 1, _, _, none, 0, [.slice none 0 0], [], rfl, rfl, rfl, by omega, rfl, HO0.out, World.ownsRow_nil _ _ _ _, ⟨rfl, fun i v L h1 h2 => ?_⟩, HB0.out⟩
    cases i with
    | zero =>
      simp [sTrees] at h1 h2
      subst h1 h2
      exact World.ownsRow_nil _ _ _ _
    | succ i => simp at h1
  case round =>
    clear HO0 HB0
    obtain ⟨i, m, qa, ca, qo, co, vs, xs, rfl, rfl, rfl, hik, hvm, hoa, hoo, hls, hbel⟩ := hrel
    have HOA := Lib.hid hoa
    have HOO := Lib.hid hoo
    have HLS := Lib.hid hls
    have HB := Lib.hid hbel
    have HVM := Lib.hid hvm
    have hsz : G ≤ wr.heap.size := by have := hbel.size; have := HG.out; omega
    clear hoa hoo hbel
    by_cases hi : i < n
    · cases gk with
      | zero => omega
      | succ k =>
        obtain ⟨bS, oS, rfl, hcell⟩ := hrr (by omega)
        have hiS : i < S.length := by rw [HNS.out]; exact hi
        have hiR : i < R.length := by rw [HLA.out]; exact hi
        obtain ⟨vse, hrow, hrw⟩ := HST.out.2 i _ _ (List.getElem?_eq_getElem hiR) (List.getElem?_eq_getElem hiS)
        have hR := List.getElem?_eq_getElem hiR
        rw [hrow] at hR
        have hmemS : S[i] ∈ S := List.getElem_mem hiS
        have hsu := sTrees_succ [[]] S i _ (List.getElem?_eq_getElem hiS)
        obtain ⟨s, hs⟩ : ∃ s, S[i] = s := ⟨_, rfl⟩
        rw [hs] at hrow hR hrw hmemS hsu
        have hoks := HOK.out s hmemS
        obtain ⟨op, frm, es⟩ := s
        simp only at hR hrw hoks
        have d0 := hcell i _ hR 0 (.int .i64 (op : Int)) rfl
        have d1 := hcell i _ hR 1 (.int .i64 (frm : Int)) rfl
        have d2 := hcell i _ hR 2 vse rfl
        rw [← HB.out.cell (by rw [← HG.out]; exact World.block_lt_of_cell? w _ d0), Nat.add_zero] at d0
        rw [← HB.out.cell (by rw [← HG.out]; exact World.block_lt_of_cell? w _ d1), ← Nat.add_assoc] at d1
        rw [← HB.out.cell (by rw [← HG.out]; exact World.block_lt_of_cell? w _ d2), ← Nat.add_assoc] at d2
        have hvs : ∃ a n c, vse = .slice a n c := by obtain ⟨a, n, c, e, _⟩ := hrw; exact ⟨a, n, c, e⟩
        obtain ⟨va, vn, vc, rfl⟩ := hvs
        obtain ⟨AL, hAL⟩ : ∃ AL, sTrees [[]] (S.take i) = AL := ⟨_, rfl⟩
        rw [hAL] at hsu hls
        have hALm : AL.length = m := by rw [← hls.1, hvm]
        have hbnd := sTrees_len (S.take i) [[]]
        rw [hAL, List.length_take] at hbnd
        simp only [List.length_cons, List.length_nil] at hbnd
        have hm0 : 0 < m := by omega
        have hm1 : m ≤ 500 := by omega
        have hjm : frm % m < m := Nat.mod_lt _ hm0
        obtain ⟨j, hj⟩ : ∃ j, frm % m = j := ⟨_, rfl⟩
        have hjj : (j + m) % m = j := by rw [← hj]; simp
        rw [hj] at hjm
        obtain ⟨ve, hve⟩ : ∃ ve, vs[j]? = some ve := ⟨_, List.getElem?_eq_getElem (by omega)⟩
        obtain ⟨L, hL⟩ : ∃ L, AL[j]? = some L := ⟨_, List.getElem?_eq_getElem (by omega)⟩
        have hrl := hls.2 j ve L hve hL
        have hLl : L.length ≤ 50000 := by
          have h1 := sTrees_big (S.take i) [[]] 0 (fun s hs => (HOK.out s (List.mem_of_mem_take hs)).2.2.2) (fun L hL => by rw [List.mem_singleton.1 hL]; exact Nat.le_refl _) L (by rw [hAL]; exact List.mem_of_getElem? hL)
          rw [List.length_take] at h1
          omega
        have hgd : AL.getD (frm % AL.length) [] = L := by rw [hALm, hj, List.getD_eq_getElem?_getD, hL]; rfl
        have hcell4 := Sl.of_owns HOA.out
        obtain ⟨_, _, _, e4, hl4, hc4, hm4, hr4⟩ := hcell4
        injection e4 with e4 e5 e6
        subst e4 e5 e6
        obtain ⟨b4, o4, rfl, hcl4⟩ := hr4 hm0
        have hva : ∃ a n c, ve = .slice a n c := by
          rcases hrl.2 with ⟨rfl, _⟩ | ⟨g, cap', cur, rfl, _⟩
          · exact ⟨_, _, _, rfl⟩
          · exact ⟨_, _, _, rfl⟩
        obtain ⟨la, ln, lc, rfl⟩ := hva
        have p4 := hcl4 j (.slice la ln lc) hve
        have t1 : Int.tmod (frm : Int) (m : Int) = (j : Int) := by rw [tmod_nat, hj]
        have t2 : Int.tmod ((j : Int) + (m : Int)) (m : Int) = (j : Int) := by
          rw [show ((j : Int) + (m : Int)) = ((j + m : Nat) : Int) by simp, tmod_nat, hjj]
        have t3 : IntKind.i64.wrap ((j : Int) + (m : Int)) = (j : Int) + (m : Int) := IntWalk.i64_in _ (by omega)
        have t3a : IntKind.i64.wrap (j : Int) = (j : Int) := IntWalk.i64_in _ (by omega)
        have t4 : ((m : Int) == 0) = false := by rw [beq_eq_false_iff_ne]; omega
        have t5 : ¬ ((m : Int) = 0) := by omega
        have t6 : ¬ (m = 0) := by omega
        have j1 : (j : Int) < (m : Int) := by omega
        have j2 : (0 : Int) ≤ (j : Int) := by omega
        -- the world behind the step's own copy
        have hbz : Below wr.heap.size wr (wr.alloc (.cells #[.int .i64 (op : Int), .int .i64 (frm : Int), .slice va vn vc] 32)) := (Below.refl _ _).alloc (Nat.le_refl _) _
        have kS := Blk.new wr 32 #[.int .i64 (op : Int), .int .i64 (frm : Int), .slice va vn vc]
        have hoaz := HOA.out.alloc (.cells #[.int .i64 (op : Int), .int .i64 (frm : Int), .slice va vn vc] 32)
        have hooz := HOO.out.alloc (.cells #[.int .i64 (op : Int), .int .i64 (frm : Int), .slice va vn vc] 32)
        have hlsz := hls.below hbz
        have hrlz := (Rw.of_owns (aes_two _) (by decide) hrl).below rfl hbz
        have hrwz := (hrw.below HG.out.symm HB.out).below rfl hbz
        have hBz := HB.out.trans (hbz.mono hsz)
        have p4z : (wr.alloc (.cells #[.int .i64 (op : Int), .int .i64 (frm : Int), .slice va vn vc] 32)).cell? ⟨b4, o4 + j, none⟩ = some (.slice la ln lc) := (hbz.cell (World.block_lt_of_cell? wr _ p4)).trans p4
        have hb4 : b4 < wr.heap.size := World.block_lt_of_cell? wr _ p4
        obtain ⟨BS, hBS⟩ : ∃ BS, wr.heap.size = BS := ⟨_, rfl⟩
        obtain ⟨wz, hwz⟩ : ∃ wz, wz = wr.alloc (.cells #[.int .i64 (op : Int), .int .i64 (frm : Int), .slice va vn vc] 32) := ⟨_, rfl⟩
        rw [hBS] at kS
        rw [← hwz] at kS hoaz hooz hlsz hrlz hrwz hBz p4z
        have hszz : G ≤ wz.heap.size := by have := hBz.size; have := HG.out; omega
        have z0 : wz.cell? ⟨BS, 0, none⟩ = some (.int .i64 (op : Int)) := kS.cell 0 rfl
        have z1 : wz.cell? ⟨BS, 1, none⟩ = some (.int .i64 (frm : Int)) := kS.cell 1 rfl
        have z2 : wz.cell? ⟨BS, 2, none⟩ = some (.slice va vn vc) := kS.cell 2 rfl
        have HWZ := Lib.hid hwz
        have HBS := Lib.hid hBS
        have KS := Lib.hid kS
        have hcall : ∀ wx, Below wz.heap.size wz wx → _ := fun wx hb => HC.out (.slice la ln lc) L es op frm (.slice va vn vc) wx (hrlz.below rfl hb) (hrwz.below rfl hb) hoks.2.2.2 hLl hoks.1 hoks.2.1
        have HCALL := Lib.hid hcall
        have HOAZ := Lib.hid hoaz
        have HOOZ := Lib.hid hooz
        have HLSZ := Lib.hid hlsz
        have HBZ := Lib.hid hBz
        have HSU := Lib.hid hsu
        have HGD := Lib.hid hgd
        have HES := Lib.hid hoks
        have Z0 := Lib.hid z0
        have Z1 := Lib.hid z1
        have Z2 := Lib.hid z2
        have P4 := Lib.hid p4z
        clear hcell hiS hiR hrow hR hmemS hs hoks hrw hls hAL hALm hbnd hL hrl hve hl4 hc4 hm4 hr4 hcl4 hj hjj hbz kS hoaz hooz hlsz hrlz hrwz hBz hwz hBS hcall hsu hgd hLl
        go_upto_region 6 with fail
        rw [← HWZ.out, HBS.out]
        clear HWZ HBS p4 d0 d1 d2 HOA HOO HLS HB
        have hbN : Below wz.heap.size wz (wz.alloc (.cells #[.int .i64 0, .slice none 0 0, .slice none 0 0] 36)) := (Below.refl _ _).alloc (Nat.le_refl _) _
        have HBN := Lib.hid hbN
        have hBSl : BS < wz.heap.size := World.block_lt_of_cell? _ _ z0
        have hb4l : b4 < wz.heap.size := World.block_lt_of_cell? _ _ p4z
        have hBSn : ¬ BS = wz.heap.size := by omega
        have hb4n : ¬ b4 = wz.heap.size := by omega
        clear hbN
        go_cut [8, 9] (fun s8 s9 wx => TMid G w wz (stepL op L es) op 0 s8 s9 wx)
        case first =>
          go_region_held3 (fun w' => w'.cell? ⟨BS, 0, none⟩ = some (.int .i64 (op : Int)) ∧ w'.cell? ⟨BS, 1, none⟩ = some (.int .i64 (frm : Int)) ∧ w'.cell? ⟨BS, 2, none⟩ = some (.slice va vn vc) ∧ w'.cell? ⟨b4, o4 + j, none⟩ = some (.slice la ln lc))
            ((first | exact ⟨by with_reducible assumption, by with_reducible assumption, by with_reducible assumption, by with_reducible assumption⟩ | (refine ⟨?_, ?_, ?_, ?_⟩ <;> (repeat (first | with_reducible assumption | with_reducible refine keepA ?_ _ | with_reducible refine keepD ?_ | (with_reducible refine keepS ?_ (by simp only []; omega)))))))
            ((first
              | (go_at_call 18; (with_reducible refine Calls.mono (HCALL.out _ ?_) ?_); (first | with_reducible exact Below.refl _ _ | with_reducible exact (Below.refl _ _).drew | with_reducible exact (Below.refl _ _).drew.drew); rintro e w5 ⟨v', q1, c1, q2, c2, rfl, hr5, ho5, -, -, hb5⟩; have hb6 : Below wz.heap.size wz w5 := Below.trans (by (repeat (first | with_reducible exact Below.refl _ _ | with_reducible refine Below.drew ?_))) hb5; have HO5 : Hid (op ≠ 3 → w5.ownsRow G 25 2 v' (stepL op L es).length (aes (stepL op L es)).flatten) := Lib.hid (fun h => own_base' (ho5 h HES.out.2.2.1) hszz); have HB5 := Lib.hid hb6; obtain ⟨v1, v2, v3, rfl⟩ := rw_slice hr5; have z05 : w5.cell? ⟨BS, 0, none⟩ = some (.int .i64 (op : Int)) := (hb6.cell hBSl).trans Z0.out; have z15 : w5.cell? ⟨BS, 1, none⟩ = some (.int .i64 (frm : Int)) := (hb6.cell hBSl).trans Z1.out; have z25 : w5.cell? ⟨BS, 2, none⟩ = some (.slice va vn vc) := (hb6.cell hBSl).trans Z2.out; have p45 : w5.cell? ⟨b4, o4 + j, none⟩ = some (.slice la ln lc) := (hb6.cell hb4l).trans P4.out; clear hr5 ho5 hb5 hb6)
              | (go_at_call 18; (with_reducible refine Calls.mono (HCALL.out _ ?_) ?_); (first | with_reducible exact HBN.out | with_reducible exact HBN.out.drew | with_reducible exact HBN.out.drew.drew); rintro e w5 ⟨v', q1, c1, q2, c2, rfl, hr5, ho5, -, -, hb5⟩; have hb6 : Below wz.heap.size wz w5 := HBN.out.trans ((show Below (wz.alloc (.cells #[.int .i64 0, .slice none 0 0, .slice none 0 0] 36)).heap.size _ _ from Below.trans (by (repeat (first | with_reducible exact Below.refl _ _ | with_reducible refine Below.drew ?_))) hb5).mono HBN.out.size); have HN5 : Hid (Blk w5 wz.heap.size 36 #[.int .i64 0, .slice none 0 0, .slice none 0 0]) := Lib.hid ((Blk.new wz _ _).next (show Below (wz.alloc (.cells #[.int .i64 0, .slice none 0 0, .slice none 0 0] 36)).heap.size (wz.alloc (.cells #[.int .i64 0, .slice none 0 0, .slice none 0 0] 36)) _ from Below.trans (by (repeat (first | with_reducible exact Below.refl _ _ | with_reducible refine Below.drew ?_))) hb5)); have HO5 : Hid (op ≠ 3 → w5.ownsRow G 25 2 v' (stepL op L es).length (aes (stepL op L es)).flatten) := Lib.hid (fun h => own_base' (ho5 h HES.out.2.2.1) (Nat.le_trans hszz HBN.out.size)); have HB5 := Lib.hid hb6; obtain ⟨v1, v2, v3, rfl⟩ := rw_slice hr5; have n0 := HN5.out.cell 0 rfl; have n1 := HN5.out.cell 1 rfl; have n2 := HN5.out.cell 2 rfl; have fn0 := HN5.out.free 0; have fn1 := HN5.out.free 1; have fn2 := HN5.out.free 2; have z05 : w5.cell? ⟨BS, 0, none⟩ = some (.int .i64 (op : Int)) := (hb6.cell hBSl).trans Z0.out; have z15 : w5.cell? ⟨BS, 1, none⟩ = some (.int .i64 (frm : Int)) := (hb6.cell hBSl).trans Z1.out; have z25 : w5.cell? ⟨BS, 2, none⟩ = some (.slice va vn vc) := (hb6.cell hBSl).trans Z2.out; have p45 : w5.cell? ⟨b4, o4 + j, none⟩ = some (.slice la ln lc) := (hb6.cell hb4l).trans P4.out; clear hr5 ho5 hb5 hb6)
              | fail))
          any_goals
            fail_if_success (have tok := HN5)
            go_wp2_with fail
            go_meet
            exact ⟨_, _, _, _, _, _, _, _, _, _, _, rfl, rfl, Blk.new _ _ _, fun h => (Fr.of_below [] ((Below.refl _ _).alloc (Nat.le_refl _) _)).own (HO5.out h) (fun _ _ h => by cases h), HB5.out.alloc HB5.out.size _⟩
          all_goals
            go_wp2_with fail
            go_meet
            exact ⟨_, _, _, _, _, _, _, _, _, _, _, rfl, rfl, (((HN5.out.set 0 _).set 1 _).set 2 _), fun h => ((Fr.store _ (F := [wz.heap.size]) (a := ⟨wz.heap.size, 0, none⟩) (by simp) _).trans ((Fr.store _ (F := [wz.heap.size]) (a := ⟨wz.heap.size, 1, none⟩) (by simp) _).trans (Fr.store _ (F := [wz.heap.size]) (a := ⟨wz.heap.size, 2, none⟩) (by simp) _))).own (HO5.out h) (fun k hk e => by
              rw [List.mem_singleton] at e
              subst e
              exact row_blk (HO5.out h) HN5.out (by decide) (mem_obl.1 hk)), ((HB5.out.setCell (Nat.le_refl _) _).setCell (Nat.le_refl _) _).setCell (Nat.le_refl _) _⟩
        case rest =>
          obtain ⟨N, v1, v2, v3, a1, b1, c1, a2, b2, c2, mm, rfl, rfl, hN, hown5, hb5⟩ := hcut
          have hszc : G ≤ wc.heap.size := Nat.le_trans hszz hb5.size
          have n0 := hN.cell 0 rfl
          have n1 := hN.cell 1 rfl
          have n2 := hN.cell 2 rfl
          have HOW5 := Lib.hid hown5
          have HB5 := Lib.hid (HBZ.out.trans (hb5.mono hszz))
          have HOAC := Lib.hid ((Fr.of_below [] hb5).own HOAZ.out (fun _ _ h => by cases h))
          have HOOC := Lib.hid ((Fr.of_below [] hb5).own HOOZ.out (fun _ _ h => by cases h))
          have HLSC := Lib.hid (HLSZ.out.below hb5)
          have HKSC := Lib.hid (KS.out.next hb5)
          have hone : ∀ u ∈ (#[.int .i64 (mm : Int), .slice a1 b1 c1, .slice a2 b2 c2] : Array Value).toList, u.oneCell' = true := by
            intro u hu
            simp at hu
            rcases hu with rfl | rfl | rfl <;> rfl
          have HON := Lib.hid hone
          clear hN hown5 hb5 hone HOAZ HOOZ HLSZ KS HBZ Z0 Z1 Z2 P4 z0 z1 z2 p4z HBN hBSl hb4l hBSn hb4n HCALL t1 t2 t3 t3a t4 t5 t6 j1 j2 hb4
          by_cases hop : op = 3
          · have hne : ((op : Int) != 3) = false := by simp [hop]
            have hne2 : (op : Int) = 3 := by simp [hop]
            have HNE := Lib.hid hop
            clear hop hne2
            go_wp2_with (at_builtin; (refine wpList_appendS rfl _ _ 29 rfl G 3 36 (.agg #[.int .i64 0, .slice none 0 0, .slice none 0 0]) 56 Try.underlying29 info_avs rfl (by decide) (.slice qo i co) i xs rfl HOOC.out #[.int .i64 (mm : Int), .slice a1 b1 c1, .slice a2 b2 c2] rfl rfl HON.out (by unfold maxLen; omega) (by omega) (by omega) ?_; intro g6 k6 w6 hown6 hg6 hb6; have HO6 := Lib.hid hown6; have HF6 : Hid (Fr (obl (.slice qo i co)) (obl (.slice qo i co)) wc w6) := Lib.hid (Fr.of_grown (v' := .slice qo i co) hg6 (fun k hk => .inl hk)); have HOA6 := Lib.hid (HF6.out.own HOAC.out (row_row HOAC.out HOOC.out (by decide))); have hz6 : w6.cell? ⟨BS, 0, none⟩ = some (.int .i64 (op : Int)) := (Blk.grown HKSC.out hg6 (row_blk HOOC.out HKSC.out (by decide))).cell 0 rfl; have HB6 := Lib.hid hb6; have hs6 : G ≤ w6.heap.size := Nat.le_trans hszc HF6.out.size; clear hown6 hg6 hb6))
            go_roundg k
            case measure => omega
            case rel => exact ⟨i + 1, m, _, ca, _, k6, vs, _, rfl, rfl, by go_num, by omega, HVM.out, HOA6.out, HO6.out, by rw [HSU.out, show sStep AL { op := op, frm := frm, es := es } = AL from if_pos HNE.out]; exact HLSC.out.row HOOC.out (by decide) HF6.out, HB5.out.trans HB6.out⟩
          · have hne : ((op : Int) != 3) = true := by simp; omega
            have hne2 : ¬ ((op : Int) = 3) := by omega
            have HNE := Lib.hid hop
            clear hop
            go_wp2_with (at_builtin; first | (refine wpList_appendS rfl _ _ 29 rfl G 3 36 (.agg #[.int .i64 0, .slice none 0 0, .slice none 0 0]) 56 Try.underlying29 info_avs rfl (by decide) (.slice qo i co) i xs rfl HOOC.out #[.int .i64 (mm : Int), .slice a1 b1 c1, .slice a2 b2 c2] rfl rfl HON.out (by unfold maxLen; omega) (by omega) (by omega) ?_; intro g6 k6 w6 hown6 hg6 hb6; have HO6 := Lib.hid hown6; have HF6 : Hid (Fr (obl (.slice qo i co)) (obl (.slice qo i co)) wc w6) := Lib.hid (Fr.of_grown (v' := .slice qo i co) hg6 (fun k hk => .inl hk)); have HOA6 := Lib.hid (HF6.out.own HOAC.out (row_row HOAC.out HOOC.out (by decide))); have hz6 : w6.cell? ⟨BS, 0, none⟩ = some (.int .i64 (op : Int)) := (Blk.grown HKSC.out hg6 (row_blk HOOC.out HKSC.out (by decide))).cell 0 rfl; have HB6 := Lib.hid hb6; have hs6 : G ≤ w6.heap.size := Nat.le_trans hszc HF6.out.size; clear hown6 hg6 hb6) | (refine wpList_append1A rfl _ _ 43 rfl G 22 (.slice none 0 0) 24 Try.underlying43 info_sle rfl (.slice (some ⟨b4, o4, none⟩) m ca) m vs rfl HOA6.out (.slice v1 v2 v3) rfl rfl (by unfold maxLen; omega) (by omega) hs6 ?_; intro g7 k7 w7 hown7 hf7; have HO7 := Lib.hid hown7; have HF7 := Lib.hid hf7; clear hown7 hf7))
            go_roundg k
            case measure => omega
            case rel =>
              have hff : Fr (obl (.slice (some ⟨b4, o4, none⟩) m ca)) (obl (.slice (some ⟨g7, 0, none⟩) (m + 1) k7)) w6 w7 := HF7.out
              refine ⟨i + 1, m + 1, _, k7, _, k6, vs ++ [.slice v1 v2 v3], _, rfl, rfl, by go_num, by omega, by simp [HVM.out], HO7.out, hff.own HO6.out ?_, ?_, (HB5.out.trans HB6.out).trans (hff.below (fun k hk => (own_lt HOA6.out k hk).2) hs6)⟩
              · exact row_row HO6.out HOA6.out (by decide)
              · have e1 : sStep AL { op := op, frm := frm, es := es } = AL ++ [stepL op L es] := by
                  unfold sStep
                  rw [if_neg HNE.out]
                  simp only [HGD.out]
                rw [HSU.out, e1]
                have h1 := HF6.out.own (HOW5.out HNE.out) (row_row (HOW5.out HNE.out) HOOC.out (by decide))
                exact ((HLSC.out.row HOOC.out (by decide) HF6.out).row HOA6.out (by decide) hff).snoc (hff.own h1 (row_row h1 HOA6.out (by decide)))
    · obtain rfl : i = n := by omega
      rw [List.take_of_length_le (by rw [HNS.out]; exact Nat.le_refl _)] at HLS
      have hml : m = (sTrees [[]] S).length := by rw [← HLS.out.1, HVM.out]
      subst hml
      clear hls hvm
      go_wp2_with fail
      go_ret2
      rw [HG.out]
      exact ⟨qa, ca, _, vs, rfl, HOA.out, HLS.out, HB.out⟩
end Go.Proofs.Ytnfkjcopeljknaa
