/- Walks of laws.roadOnce, roadBits and roadSame. -/
import Derived.Test.YtgifbdjifmoafaaGreatRdSet
import Derived.Test.YtgifbdjifmoafaaGreatBaSets
import Derived.Test.YtgifbdjifmoafaaGreatBaSparseLaw
import Derived.Test.YtgifbdjifmoafaaGreatStep
import Derived.Test.YtgifbdjifmoafaaGreatBaOrSp
import Derived.Deep.RegionLaw
namespace Go.Proofs.YtgifbdjifmoafaaGreat
set_option linter.unusedVariables false
open Go.RowKit Bam

def u16s (l : List Nat) : List Value := l.map fun (x : Nat) => Value.int .u16 (x : Int)
theorem u16s_len (l : List Nat) : (u16s l).length = l.length := by simp [u16s]
theorem u16s_at (l : List Nat) (i : Nat) (h : i < l.length) : (u16s l)[i]? = some (.int .u16 ((l.getD i 0 : Nat) : Int)) := by
  simp [u16s, List.getElem?_eq_getElem h]
theorem nats16_of {w : World} {v : Value} (h : IsInts .u16 w v) : ∃ ns : List Nat, Sl w v (u16s ns) ∧ ∀ x ∈ ns, x < 65536 := by
  obtain ⟨xs, hs, hb⟩ := h
  have hx : ∀ x ∈ xs, 0 ≤ x ∧ x < 65536 := fun x hx => by
    have := hb x hx
    simp [Lit.wf, IntKind.min, IntKind.max, IntKind.signed, IntKind.bits] at this
    omega
  refine ⟨xs.map Int.toNat, ?_, fun x hx2 => ?_⟩
  · have e : u16s (xs.map Int.toNat) = xs.map (Value.int .u16) := by
      unfold u16s
      rw [List.map_map]
      refine List.map_congr_left fun x hm => ?_
      have := hx x hm
      simp only [Function.comp]
      congr 1
      omega
    rw [e]; exact hs
  · obtain ⟨y, hy, rfl⟩ := List.mem_map.1 hx2
    have := hx y hy
    omega

def OnceRel (n : Nat) (w : World) (k : Nat) (so idx : Value) (wr : World) : Prop :=
  ∃ (i : Nat) (S : List Nat), idx = .int .i64 (i : Int) ∧ i + k = n ∧ Us wr so S ∧ Asc S ∧ S.length ≤ 30 ∧ (∀ x ∈ S, x < 2048) ∧ Below w.heap.size w wr

theorem sPut_len (S : List Nat) (k : Nat) : (sPut S k).length ≤ S.length + 1 := by
  unfold sPut
  split
  · omega
  · rw [List.length_append, List.length_cons, List.length_take, List.length_drop]; omega

set_option maxRecDepth 100000 in
set_option maxHeartbeats 1000000 in
theorem once_any (v : Value) (xs : List Nat) (w : World) (hv : Sl w v (u16s xs)) (hb : ∀ x ∈ xs, x < 65536) :
    Calls Tryz.prog 4 #[v, .int .u64 2048, .int .i64 30] w fun e w' => ∃ v' X, e = .returned v' ∧ Us w' v' X ∧ Asc X ∧ X.length ≤ 30 ∧ (∀ x ∈ X, x < 2048) ∧ Below w.heap.size w w' := by
  obtain ⟨a, n, c, rfl, hl, hc, hm, hr⟩ := hv
  rw [u16s_len] at hl
  have HL := Lib.hid hl
  have HB := Lib.hid hb
  have HR := Lib.hid hr
  have hn9 : (n : Int) ≤ 9223372036854775807 := by unfold maxLen at hm; omega
  clear hl hb hr hc hm
  go_enter Tryz.func4, Tryz.ntmps4
  go_wp2_with fail
  go_loopg [7, 8] n (fun k so idx wr => OnceRel n w k so idx wr)
  case atStart => exact ⟨0, [], rfl, by omega, Us.nil _, Asc.nil, by simp, by simp, Below.refl _ _⟩
  case round =>
    obtain ⟨i, S, rfl, hik, hus, hasc, hsl, hsb, hbel⟩ := hrel
    obtain ⟨b, d, rfl, -⟩ := hus.shape
    obtain ⟨s, hs⟩ : ∃ s, S.length = s := ⟨_, rfl⟩
    rw [hs] at hsl hus ⊢
    have HS := Lib.hid hs
    have HU := Lib.hid hus
    have HA := Lib.hid hasc
    have HSB := Lib.hid hsb
    have HBE := Lib.hid hbel
    clear hus hasc hsb hs
    by_cases hi : i < n
    · by_cases hs30 : s < 30
      · have e1 : decide ((s : Int) < 30) = true := by rw [decide_eq_true_iff]; omega
        obtain ⟨g, o, rfl, hcell⟩ := HR.out (by omega)
        have hci := hcell i _ (u16s_at xs i (by rw [HL.out]; exact hi))
        have hX16 : xs.getD i 0 < 65536 := HB.out _ (by
          rw [List.getD_eq_getElem?_getD, List.getElem?_eq_getElem (by rw [HL.out]; exact hi)]; exact List.getElem_mem _)
        obtain ⟨X, hX⟩ : ∃ X, xs.getD i 0 = X := ⟨_, rfl⟩
        rw [hX] at hci hX16
        rw [← hbel.cell (World.block_lt_of_cell? w _ hci)] at hci
        obtain ⟨K, hK⟩ : ∃ K, K = X % 2048 := ⟨_, rfl⟩
        have hKl : K < 2048 := by omega
        have hkm : (X : Int) % 2048 = (K : Int) := by omega
        have hkt : (X : Int).tmod 2048 = (K : Int) := by rw [Int.tmod_eq_emod_of_nonneg (by omega)]; omega
        have hxw : IntKind.u64.wrap (X : Int) = (X : Int) := by simp only [IntKind.wrap, IntKind.signed, IntKind.bits]; simp; omega
        have hp := put_any _ S K wr (HS.out ▸ HU.out) (by have := HS.out; omega)
        rw [HS.out] at hp
        have HP := Lib.hid hp
        have i1 : (i : Int) < (n : Int) := by omega
        have i2 : (0 : Int) ≤ (i : Int) := by omega
        clear hcell hX hK hp hbel hX16
        cases gk with
        | zero => omega
        | succ k =>
          go_wp2_with fail
          refine HP.out.mono ?_
          rintro e w' ⟨v', rfl, hu', hb'⟩
          have HU2 := Lib.hid hu'
          have HB2 := Lib.hid hb'
          clear hu' hb'
          go_wp2_with fail
          go_roundg k
          case measure => omega
          case rel => exact ⟨i + 1, _, by go_num, by omega, HU2.out, sPut_asc HA.out K, by have := sPut_len S K; have := HS.out; omega, fun x hx => by
            rcases (sPut_mem S K x).1 hx with rfl | h
            · exact hKl
            · exact HSB.out x h, HBE.out.trans (HB2.out.mono HBE.out.size)⟩
      · obtain rfl : s = 30 := by omega
        clear hbel
        go_wp2_with fail
        go_ret
        exact ⟨_, S, rfl, HU.out, HA.out, by have := HS.out; omega, HSB.out, HBE.out⟩
    · obtain rfl : i = n := by omega
      clear hbel
      go_wp2_with fail
      go_ret
      exact ⟨_, S, rfl, HU.out, HA.out, by have := HS.out; omega, HSB.out, HBE.out⟩

def RsRel (n : Nat) (w : World) (k : Nat) (idx : Value) (wr : World) : Prop :=
  ∃ (i nq : Nat), idx = .int .i64 (i : Int) ∧ i + k = n ∧ wr = w.drewN nq

set_option maxRecDepth 100000 in
set_option maxHeartbeats 1000000 in
theorem sameroad_any (L : Int) (u v : Value) (N : List Nat) (w : World) (hu : Sl w u (u64s N)) (hv : Sl w v (u64s N)) :
    Calls Tryz.prog 8 #[.agg #[.int .u64 L, u], v] w fun e w' => e = .returned (.bool true) ∧ Below w.heap.size w w' := by
  obtain ⟨a, n, c, rfl, hl, hc, hm, hr⟩ := hu
  obtain ⟨a2, n2, c2, rfl, hl2, hc2, hm2, hr2⟩ := hv
  rw [u64s_len] at hl hl2
  obtain rfl : n2 = n := by omega
  have HL := Lib.hid hl
  have hn9 : (n2 : Int) ≤ 9223372036854775807 := by unfold maxLen at hm; omega
  have hee : ((n2 : Int) != (n2 : Int)) = false := by simp
  have hbl : Below w.heap.size w (w.alloc (.cells #[.int .u64 L, .slice a n2 c] 39)) := (Below.refl _ _).alloc (Nat.le_refl _) _
  have HR : Hid (0 < n2 → ∃ g o g2 o2, a = some ⟨g, o, none⟩ ∧ a2 = some ⟨g2, o2, none⟩ ∧ ∀ i, i < n2 → (w.alloc (.cells #[.int .u64 L, .slice a n2 c] 39)).cell? ⟨g, o + i, none⟩ = some (.int .u64 ((N.getD i 0 : Nat) : Int)) ∧ (w.alloc (.cells #[.int .u64 L, .slice a n2 c] 39)).cell? ⟨g2, o2 + i, none⟩ = some (.int .u64 ((N.getD i 0 : Nat) : Int))) := Lib.hid (fun h0 => by
    obtain ⟨g, o, rfl, h1⟩ := hr h0
    obtain ⟨g2, o2, rfl, h2⟩ := hr2 h0
    refine ⟨g, o, g2, o2, rfl, rfl, fun i hi => ?_⟩
    have x1 := h1 i _ (u64s_at N i (by omega))
    have x2 := h2 i _ (u64s_at N i (by omega))
    exact ⟨(hbl.cell (World.block_lt_of_cell? w _ x1)).trans x1, (hbl.cell (World.block_lt_of_cell? w _ x2)).trans x2⟩)
  have HBL := Lib.hid hbl
  have hq : Blk (w.alloc (.cells #[.int .u64 L, .slice a n2 c] 39)) w.heap.size 39 #[.int .u64 L, .slice a n2 c] := Blk.new _ _ _
  have x1 : (w.alloc (.cells #[.int .u64 L, .slice a n2 c] 39)).cell? ⟨w.heap.size, 1, none⟩ = some (.slice a n2 c) := hq.cell 1 rfl
  obtain ⟨w0, hw0⟩ : ∃ w0, w0 = w.alloc (.cells #[.int .u64 L, .slice a n2 c] 39) := ⟨_, rfl⟩
  rw [← hw0] at HR HBL x1
  clear hl hl2 hr hr2 hc hc2 hm hm2 hq hbl
  go_enter Tryz.func8, Tryz.ntmps8
  go_wp2_with fail
  rw [← hw0]
  clear hw0
  go_wp2_with fail
  go_loopg [5] n2 (fun k idx wr => RsRel n2 w0 k idx wr)
  case atStart => exact ⟨0, 0, rfl, by omega, rfl⟩
  case round =>
    obtain ⟨i, nq, rfl, hik, rfl⟩ := hrel
    by_cases hi : i < n2
    · obtain ⟨g, o, g2, o2, rfl, rfl, hcell⟩ := HR.out (by omega)
      obtain ⟨y1, y2⟩ := hcell i hi
      obtain ⟨X, hX⟩ : ∃ X, N.getD i 0 = X := ⟨_, rfl⟩
      rw [hX] at y1 y2
      have i1 : (i : Int) < (n2 : Int) := by omega
      have i2 : (0 : Int) ≤ (i : Int) := by omega
      have hxx : ((X : Int) != (X : Int)) = false := by simp
      clear hcell hX
      cases gk with
      | zero => omega
      | succ k =>
        go_wp2_with fail
        go_quiet (fail)
        go_wp2_with fail
        go_roundg k
        case measure => omega
        case rel => exact ⟨i + 1, _, by go_num, by omega, rfl⟩
    · obtain rfl : i = n2 := by omega
      go_wp2_with fail
      go_ret
      exact ⟨rfl, below_drewN HBL.out _⟩

def RbRel (X : List Nat) (n x : Nat) (w : World) (k : Nat) (idx : Value) (wr : World) : Prop :=
  ∃ (i : Nat) (q : Option Addr) (c : Nat), idx = .int .i64 (i : Int) ∧ i + k = n ∧ Blk wr x 39 #[.int .u64 2048, .slice q i c] ∧ wr.ownsRow w.heap.size 36 1 (.slice q i c) i (rb_u64s (X.take i)) ∧
    Blk wr w.heap.size 39 #[.int .u64 0, .slice none 0 0] ∧ Below w.heap.size w wr

theorem take_snoc0 (X : List Nat) (i : Nat) (h : i < X.length) : X.take (i + 1) = X.take i ++ [X.getD i 0] := by
  rw [List.take_succ_eq_append_getElem h, List.getD_eq_getElem?_getD, List.getElem?_eq_getElem h]; rfl

set_option maxRecDepth 100000 in
set_option maxHeartbeats 2000000 in
theorem roadbits_any (v : Value) (X : List Nat) (w : World) (hv : Us w v X) (hX : X.length ≤ 1000) :
    Calls Tryz.prog 7 #[v] w fun e w' => ∃ q n c, e = .returned (.agg #[.int .u64 2048, .slice q n c]) ∧ w'.ownsRow w.heap.size 36 1 (.slice q n c) n (rb_u64s X) ∧ Below w.heap.size w w' := by
  obtain ⟨a, cc, rfl, hr⟩ := hv.shape
  obtain ⟨n, hn⟩ : ∃ n, X.length = n := ⟨_, rfl⟩
  rw [hn] at hr hX hv ⊢
  have HN := Lib.hid hn
  have HR := Lib.hid hr
  clear hv hr hn
  have hb0 : Below w.heap.size w ((w.alloc (.cells #[.int .u64 0, .slice none 0 0] 39)).alloc (.cells #[.int .u64 2048, .slice none 0 0] 39)) := ((Below.refl _ _).alloc (Nat.le_refl _) _).alloc (by simp) _
  have k0 := (Blk.new w 39 #[.int .u64 0, .slice none 0 0]).alloc (.cells #[.int .u64 2048, .slice none 0 0] 39)
  have k1 := Blk.new (w.alloc (.cells #[.int .u64 0, .slice none 0 0] 39)) 39 #[.int .u64 2048, .slice none 0 0]
  rw [World.size_alloc] at k1
  obtain ⟨x, hx⟩ : ∃ x, w.heap.size + 1 = x := ⟨_, rfl⟩
  rw [hx] at k1
  have hxw : w.heap.size ≤ x := by omega
  have hxn : w.heap.size ≠ x := by omega
  obtain ⟨w0, hw0⟩ : ∃ w0, w0 = (w.alloc (.cells #[.int .u64 0, .slice none 0 0] 39)).alloc (.cells #[.int .u64 2048, .slice none 0 0] 39) := ⟨_, rfl⟩
  rw [← hw0] at hb0 k0 k1
  have HB0 := Lib.hid hb0
  have K0 := Lib.hid k0
  have K1 := Lib.hid k1
  clear hb0 k0 k1
  go_enter Tryz.func7, Tryz.ntmps7
  go_wp2_with fail
  rw [← hw0]
  clear hw0
  go_loopg [4] n (fun k idx wr => RbRel X n x w k idx wr)
  case atStart => exact ⟨0, none, 0, rfl, by omega, K1.out, World.ownsRow_nil _ _ _ _, K0.out, HB0.out⟩
  case round =>
    obtain ⟨i, q, c, rfl, hik, hxb, hown, hrb, hbel⟩ := hrel
    have hsz := hbel.size
    have HXB := Lib.hid hxb
    have HO := Lib.hid hown
    have HRB := Lib.hid hrb
    have HB := Lib.hid hbel
    by_cases hi : i < n
    · obtain ⟨g, rfl, hcell⟩ := HR.out (by omega)
      have hci := hcell i hi
      rw [← hbel.cell (World.block_lt_of_cell? w _ hci)] at hci
      have hts := take_snoc0 X i (by rw [HN.out]; exact hi)
      obtain ⟨y, hy⟩ : ∃ y, X.getD i 0 = y := ⟨_, rfl⟩
      rw [hy] at hci hts
      have HTS := Lib.hid hts
      have x1 := hxb.cell 1 rfl
      have f1 := hxb.free 1
      have hxlt : x < wr.heap.size := hxb.lt
      have i1 : (i : Int) < (n : Int) := by omega
      have i2 : (0 : Int) ≤ (i : Int) := by omega
      have HMX := Lib.hid (show i + [Value.int .u64 (y : Int)].length ≤ maxLen by simp; unfold maxLen; omega)
      have HMY := Lib.hid (show (i + [Value.int .u64 (y : Int)].length) * 8 ≤ 140737488355328 by simp; omega)
      clear hcell hy hts hbel hxb hown hrb
      cases gk with
      | zero => omega
      | succ k =>
        go_wp2_with fail
        go_region_law
          ((refine step_apSl (by rfl) (.tmp 13) (.tmp 18) 37 37 (by rfl) w.heap.size 36 36 (.int .u64 0) 8 Tryz.underlying37 Tryz.underlying37 rb_info_u64 rfl (.slice q i c) i (rb_u64s (X.take i)) (by rfl) ?_ _ [Value.int .u64 (y : Int)] (by rfl) ?_ (by simp [Value.oneCell']) HMX.out HMY.out ?_ ?_; (repeat (first | with_reducible exact HO.out | with_reducible refine World.ownsRow.alloc ?_ _ | with_reducible refine row_drew ?_)); (first | exact sl_new _ _ _ | exact sl_newD _ _ _); (first | exact hsz | (simp; omega)); intro p9 m9 c9 w9 hown9 hg9 hb9; have HG9 := Lib.hid hg9; have HO9 := Lib.hid hown9; have HBK9 : Hid (Blk w9 x 39 #[.int .u64 2048, .slice q i c]) := Lib.hid (Blk.grown (by (repeat (first | with_reducible exact HXB.out | with_reducible refine Blk.drew ?_ | with_reducible refine Blk.alloc ?_ _))) hg9 (row_blk HO.out HXB.out (by decide))); have HRB9 : Hid (Blk w9 w.heap.size 39 #[.int .u64 0, .slice none 0 0]) := Lib.hid (Blk.grown (by (repeat (first | with_reducible exact HRB.out | with_reducible refine Blk.drew ?_ | with_reducible refine Blk.alloc ?_ _))) hg9 (row_blk HO.out HRB.out (by decide))); have HB9 : Hid (Below w.heap.size w w9) := Lib.hid (HB.out.trans (Below.trans (by (repeat (first | with_reducible exact Below.refl _ _ | with_reducible refine Below.drew ?_ | with_reducible exact (Below.refl _ _).alloc hsz _))) hb9)); have c1 : w9.cell? ⟨x, 1, none⟩ = some (.slice q i c) := HBK9.out.cell 1 rfl; have f9 := HBK9.out.free 1; clear hg9 hown9 hb9))
        all_goals
          go_wp2_with fail
          go_roundg k
          case measure => omega
          case rel =>
            have hm : m9 = i + 1 := by have := nil_len HO9.out; simpa using this
            subst hm
            refine ⟨i + 1, p9, c9, by go_num, by omega, ?_, ?_, ?_, ?_⟩
            · simpa using HBK9.out.set 1 (.slice p9 (i + 1) c9)
            · rw [HTS.out, rb_u64s_append]
              exact (Fr.store w9 (F := [x]) (a := ⟨x, 1, none⟩) (List.mem_singleton.2 rfl) _).own HO9.out (fun k hk e => row_blk HO9.out HBK9.out (by decide) (by rw [List.mem_singleton.1 e] at hk; exact mem_obl.1 hk))
            · exact (Fr.store w9 (F := [x]) (a := ⟨x, 1, none⟩) (List.mem_singleton.2 rfl) _).blk HRB9.out (by rw [List.mem_singleton]; exact hxn)
            · exact HB9.out.setCell hxw _
    · obtain rfl : i = n := by omega
      have hts : X.take i = X := List.take_of_length_le (by rw [HN.out]; exact Nat.le_refl _)
      rw [hts] at hown
      have HO := Lib.hid hown
      have x0 := hxb.cell 0 rfl
      have x1 := hxb.cell 1 rfl
      have r0 := hrb.cell 0 rfl
      have r1 := hrb.cell 1 rfl
      have f0 := hrb.free 0
      have f1 := hrb.free 1
      clear hts hown hxb hrb hbel
      go_wp2_with fail
      refine bodyPost_ret (v := .agg #[.int .u64 2048, .slice q i c]) (by simp [results, Tryz.results7, go_sem, *]) rfl ?_
      refine ⟨q, i, c, rfl, ?_, ?_⟩
      · have hfr := (Fr.store wr (F := [w.heap.size]) (a := ⟨w.heap.size, 0, none⟩) (List.mem_singleton.2 rfl) (.int .u64 2048)).trans (Fr.store _ (F := [w.heap.size]) (a := ⟨w.heap.size, 1, none⟩) (List.mem_singleton.2 rfl) (.slice q i c))
        exact hfr.own HO.out (fun k hk e => row_blk HO.out HRB.out (by decide) (by rw [List.mem_singleton.1 e] at hk; exact mem_obl.1 hk))
      · exact (HB.out.setCell (Nat.le_refl _) _).setCell (Nat.le_refl _) _
end Go.Proofs.YtgifbdjifmoafaaGreat
