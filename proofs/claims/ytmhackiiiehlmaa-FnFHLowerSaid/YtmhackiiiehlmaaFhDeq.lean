/- fibheap: DequeueMin. -/
import Derived.Test.YtmhackiiiehlmaaFhCo
import Derived.Test.YtmhackiiiehlmaaFhPtr
import Derived.BigRegion
namespace Go.Proofs.Ytmhackiiiehlmaa
set_option linter.unusedVariables false
open Go.RowKit Fh

set_option maxRecDepth 100000 in
theorem size_any (h : Nat) (x : Value) (n : Nat) (w : World) (hk : Blk w h 44 #[x, .int .u64 (n : Int)]) :
    Calls Try.prog 15 #[.pointer (some ⟨h, 0, none⟩)] w fun e w' => e = .returned (.int .u64 (n : Int)) ∧ w' = w := by
  have c1 := hk.cell 1 rfl
  clear hk
  go_enter Try.func15, Try.ntmps15
  go_wp2_with fail
  go_ret
  exact ⟨rfl, rfl⟩
set_option maxRecDepth 100000 in
theorem isempty_any (h : Nat) (x : Value) (n : Nat) (w : World) (hk : Blk w h 44 #[x, .int .u64 (n : Int)]) :
    Calls Try.prog 16 #[.pointer (some ⟨h, 0, none⟩)] w fun e w' => e = .returned (.bool (decide (n = 0))) ∧ w' = w := by
  have c1 := hk.cell 1 rfl
  clear hk
  by_cases hn : n = 0
  · subst hn
    go_enter Try.func16, Try.ntmps16
    go_wp2_with fail
    go_ret
    exact ⟨rfl, rfl⟩
  · have hb : ((n : Int) == 0) = false := by rw [beq_eq_false_iff_ne]; omega
    have hd : decide (n = 0) = false := by simpa using hn
    rw [hd]
    go_enter Try.func16, Try.ntmps16
    go_wp2_with fail
    go_ret
    exact ⟨rfl, rfl⟩

/-- some nodes' pointers to their parents are gone -/
def clrS (s : St) (C : List Nat) : St := { s with pa := fun x => if x ∈ C then none else s.pa x }
theorem clrS_snoc (s : St) (C : List Nat) (x : Nat) : setA (clrS s C) x none = clrS s (C ++ [x]) := by
  unfold setA clrS
  congr 1
  funext y
  unfold upd
  by_cases hy : y = x
  · simp [hy]
  · simp [hy]
theorem clrS_nil (s : St) : clrS s [] = s := by unfold clrS; simp
theorem seg_at {n p : Nat → Nat} (l : List Nat) : ∀ (a b : Nat), Seg n p a l b → ∀ i, i ≤ l.length → n ((a :: l).getD i 0) = (l ++ [b]).getD i 0 := by
  induction l with
  | nil =>
    intro a b h i hi
    obtain rfl : i = 0 := by simpa using hi
    simpa using h.1
  | cons y l ih =>
    intro a b h i hi
    cases i with
    | zero => simpa using h.1
    | succ i =>
      have := ih y b h.2.2 i (by simpa using hi)
      simpa using this
theorem nx_mem {n p : Nat → Nat} {L : List Nat} (h : Ring n p L) {x : Nat} (hx : x ∈ L) : n x ∈ L := by
  obtain ⟨l1, l2, rfl⟩ := List.append_of_mem hx
  have := (ring_nx (ring_turn h)).2
  simp at this ⊢
  rcases this with e | e | e <;> simp [e]
/-- behind the taking of the least root out of its ring -/
def DqA (h : Nat) (s : St) (A : List Nat) (m N : Nat) (l : List Nat) (w wx : World) : Prop :=
  HpAt wx (out s m) A ∧ Blk wx h 44 #[pt l.head?, .int .u64 (N : Int)] ∧ Fr (h :: A) (h :: A) w wx
/-- behind the making of one ring of roots; m3 stands for it -/
def DqC (w1 : World) (h : Nat) (s : St) (A D' : List Nat) (N : Nat) (wx : World) : Prop :=
  ∃ (s3 : St) (R3 : List Nat) (m3 : Option Nat), HpAt wx s3 A ∧ Nodes s3 D' R3 ∧ s3.pr = s.pr ∧ (m3 = none → R3 = []) ∧ (∀ a, m3 = some a → a ∈ R3) ∧ Blk wx h 44 #[pt m3, .int .u64 (N : Int)] ∧ Fr (h :: A) (h :: A) w1 wx
theorem DqC.drew {w1 wx : World} {h N : Nat} {s : St} {A D' : List Nat} (h1 : DqC w1 h s A D' N wx) : DqC w1 h s A D' N wx.drew := by
  obtain ⟨s3, R3, m3, a, b, c, d, e, f, g⟩ := h1
  exact ⟨s3, R3, m3, a, b, c, d, e, f, g.drew⟩
theorem dqc_set {w1 w3 : World} {h N : Nat} {s s3 : St} {A D' R3 : List Nat} {m3 : Option Nat} {u : Value} (hat : HpAt w3 s3 A) (hn : Nodes s3 D' R3) (hp : s3.pr = s.pr) (h1 : m3 = none → R3 = []) (h2 : ∀ a, m3 = some a → a ∈ R3) (hk : Blk w3 h 44 #[u, .int .u64 (N : Int)]) (hf : Fr (h :: A) (h :: A) w1 w3) (hh : h ∉ A) : DqC w1 h s A D' N (w3.setCell ⟨h, 0, none⟩ (pt m3)) :=
  ⟨s3, R3, m3, fun b hb => (hat b hb).other (fun e => hh (by have : b = h := e; exact this ▸ hb)) _, hn, hp, h1, h2, hk.set 0 (pt m3), hf.trans (Fr.store _ (F := h :: A) (a := ⟨h, 0, none⟩) (by simp) _)⟩
theorem fr_up {w w' : World} {h : Nat} {A : List Nat} (hf : Fr A A w.drew w') : Fr (h :: A) (h :: A) w w' :=
  (show Fr A A w w' from ⟨hf.os, hf.tape, hf.output, hf.size, hf.block, hf.next⟩).weaken (fun k hk => List.mem_cons_of_mem _ hk) (fun k hk => by
    rcases List.mem_cons.1 hk with rfl | hk
    · exact .inr (by simp)
    · exact .inl hk)
theorem hp_drew {w : World} {s : St} {D : List Nat} (h : HpAt w s D) : HpAt w.drew s D := h
theorem filter_ne_len {D : List Nat} {m : Nat} (hn : D.Nodup) (hm : m ∈ D) : (D.filter fun x => decide (x ≠ m)).length + 1 = D.length := by
  induction D with
  | nil => cases hm
  | cons a D ih =>
    obtain ⟨h1, h2⟩ := List.nodup_cons.1 hn
    by_cases ha : a = m
    · subst ha
      rw [List.filter_cons, if_neg (by simp), List.filter_eq_self.2 (fun x hx => by simp; exact fun e => h1 (e ▸ hx))]
      rfl
    · rw [List.filter_cons, if_pos (by simpa using ha)]
      have hm' : m ∈ D := by
        rcases List.mem_cons.1 hm with e | e
        · exact absurd e.symm ha
        · exact e
      simp only [List.length_cons]
      rw [ih h2 hm']
theorem info_pent : (Try.prog.info? 41).map (fun i => (i.zero, i.size, i.bytes)) = some (some (.pointer none), 1, 8) := by kernel_rfl
/-- what DequeueMin does -/
def DeqPost (h : Nat) (s : St) (A D : List Nat) (m : Nat) (w : World) (e : Ending) (w' : World) : Prop :=
  ∃ (s' : St) (R' : List Nat) (m' : Option Nat), e = .returned (.tuple #[.pointer (some ⟨m, 0, none⟩), .nilIface]) ∧ Hp w' h s' A (D.filter fun x => decide (x ≠ m)) R' m' ∧ s'.pr = s.pr ∧ Fr (h :: A) (h :: A) w w'

set_option maxRecDepth 100000 in
set_option maxHeartbeats 16000000 in
theorem dequeue_any (hq : Nat) (s : St) (A D R : List Nat) (m : Nat) (w : World) (hh : Hp w hq s A D R (some m)) (hn : D.length ≤ 1000) :
    Calls Try.prog 22 #[.pointer (some ⟨hq, 0, none⟩)] w (DeqPost hq s A D m w) := by
  obtain ⟨hat, hsub, ⟨⟨K, P, hi, ha, ho⟩, hnd, hsm⟩, hle, hk⟩ := hh
  obtain ⟨l, h1, hp⟩ := hi.first hle.1
  have h2 := h1.gone
  have hmD : m ∈ D := ((hi.mR m).1 (by simp [hle.1])).1
  have hmA := hsub m hmD
  obtain ⟨N, hN⟩ : ∃ N, D.length = N + 1 := ⟨D.length - 1, by have := List.length_pos_of_mem hmD; omega⟩
  rw [hN] at hk
  have hpos : decide (N + 1 = 0) = false := by simp
  have HIE := Lib.hid (isempty_any hq _ (N + 1) w hk)
  rw [hpos] at HIE
  have hhA := hp_ne hat hk (by decide)
  have c0 : w.cell? ⟨hq, 0, none⟩ = some (.pointer (some ⟨m, 0, none⟩)) := hk.cell 0 rfl
  have c1 := hk.cell 1 rfl
  have f0 := hk.free 0
  have f1 := hk.free 1
  have hw1 : IntKind.u64.wrap (((N + 1 : Nat) : Int) - 1) = (N : Int) := by simp only [IntKind.wrap, IntKind.signed, IntKind.bits]; simp; omega
  have h1c : Hid (s.ch m = (K m).head?) := Lib.hid (hi.ch m hmD)
  have HK := Lib.hid hk
  have HAT := Lib.hid hat
  have HI := Lib.hid hi
  have H1 := Lib.hid h1
  have H2 := Lib.hid h2
  have HA := Lib.hid ha
  have HO := Lib.hid ho
  have HSUB := Lib.hid hsub
  have HND := Lib.hid hnd
  have HSM := Lib.hid hsm
  have HHA := Lib.hid hhA
  have HMA := Lib.hid hmA
  have HMD := Lib.hid hmD
  have HMR := Lib.hid hle.1
  have HNN := Lib.hid hN
  have n2 := hat.c2 hmA
  have hnr := (ring_nx h1.rn)
  have hpr := ring_pv h1.rn
  have hml : (m :: l).Nodup := by have := h1.rd; rwa [List.append_nil] at this
  have hring := ring_one h1.rn hml
  have hRA : ∀ x ∈ m :: l, x ∈ A := fun x hx => hsub x ((hi.mR x).1 (by rw [List.append_nil]; exact hp.mem_iff.2 hx)).1
  have hmh : ¬ m = hq := fun e => hhA (e ▸ hmA)
  have HRA := Lib.hid hRA
  have HRING := Lib.hid h1.rn
  have HNR := Lib.hid hnr
  have HPR := Lib.hid hpr
  clear hk hat hi h1 h2 ha ho hsub hnd hsm hle hp hhA hmD hpos hnr hpr hRA
  go_enter Try.func22, Try.ntmps22
  go_wp2_with fail
  refine HIE.out.mono ?_
  rintro e w1 ⟨rfl, rfl⟩
  go_upto_region 5 with fail
  obtain ⟨wa, hwa⟩ : ∃ wa, wa = w1.setCell ⟨hq, 1, none⟩ (.int .u64 (N : Int)) := ⟨_, rfl⟩
  have hata : HpAt wa s A := by rw [hwa]; exact fun b hb => (HAT.out b hb).other (fun e => HHA.out (by have : b = hq := e; exact this ▸ hb)) _
  have hka : Blk wa hq 44 #[.pointer (some ⟨m, 0, none⟩), .int .u64 (N : Int)] := by rw [hwa]; exact HK.out.set 1 (.int .u64 (N : Int))
  have hfa : Fr (hq :: A) (hq :: A) w1 wa := by rw [hwa]; exact Fr.store _ (F := hq :: A) (a := ⟨hq, 1, none⟩) (by simp) _
  rw [← hwa]
  clear hwa c0 c1 f0 f1 n2
  have HATA := Lib.hid hata
  have HKA := Lib.hid hka
  have HFA := Lib.hid hfa
  have n2 := hata.c2 HMA.out
  clear hata hka hfa
  go_cut [34] from 29 to 34 (fun s34 wx => s34 = .bool (decide (l = [])) ∧ wx = wa)
  case first =>
    -- [[A
    by_cases hl0 : l = []
    · have hd : decide (l = []) = true := by simpa using hl0
      have hnm := hring.2 hl0
      rw [hnm] at n2
      have he := eql_same wa ⟨m, 0, none⟩
      have HD := Lib.hid hd
      clear hl0 hd hring hnm hw1 hml
      go_wp2_with fail
      go_meet
      exact ⟨by rw [HD.out], rfl⟩
    · have hd : decide (l = []) = false := by simpa using hl0
      have hnm : ¬ s.nx m = m := fun e => hl0 (hring.1 e)
      have he := eql_other (HATA.out _ (HRA.out _ HNR.out.2)) (HATA.out m HMA.out) hnm
      obtain ⟨y, hy⟩ : ∃ y, s.nx m = y := ⟨_, rfl⟩
      rw [hy] at n2 he hnm
      have HD := Lib.hid hd
      clear hl0 hd hring hw1 hml hy
      go_wp2_with fail
      go_meet
      exact ⟨by rw [HD.out], rfl⟩
    -- A]]
  case rest =>
    obtain ⟨rfl, hwx⟩ := hcut
    rw [hwx]
    clear hwx
    go_upto_if 34 with fail
    go_cut [4] from 34 to 79 (fun s4 wx => s4 = .pointer (some ⟨m, 0, none⟩) ∧ DqA hq s A m N l w1 wx)
    case first =>
      -- [[B
      have h0 : wa.cell? ⟨hq, 0, none⟩ = some (.pointer (some ⟨m, 0, none⟩)) := HKA.out.cell 0 rfl
      have fh := HKA.out.free 0
      cases l with
      | nil =>
        have hd : decide (([] : List Nat) = []) = true := rfl
        rw [hd]
        have HOS : Hid (out s m = s) := Lib.hid (out_self HRING.out.1 HRING.out.2)
        clear hd hring hw1 n2
        go_wp2_with fail
        go_meet
        refine ⟨rfl, ?_, HKA.out.set 0 (.pointer none), HFA.out.trans (Fr.store _ (F := hq :: A) (a := ⟨hq, 0, none⟩) (by simp) _)⟩
        rw [HOS.out]
        exact fun b hb => (HATA.out b hb).other (fun e => HHA.out (by have : b = hq := e; exact this ▸ hb)) _
      | cons y l =>
        have hd : decide ((y :: l) = []) = false := rfl
        rw [hd]
        have hnm : s.nx m = y := HRING.out.1
        have hyA : y ∈ A := HRA.out y (by simp)
        have hpA := HRA.out _ HPR.out
        have hpm : s.pv m ≠ m := fun e => by
          obtain ⟨-, -, q⟩ := out_ring HRING.out hml
          rw [e] at q
          exact (List.nodup_cons.1 hml).1 q
        have hym : ¬ y = m := fun e => (List.nodup_cons.1 hml).1 (by rw [← e]; simp)
        have hmy : ¬ m = y := fun e => hym e.symm
        have m3 := HATA.out.c3 HMA.out
        rw [hnm] at n2
        have HOUT : Hid (setP (setN s (s.pv m) y) y (s.pv m) = out s m) := Lib.hid (by unfold out outN outP setP setN; rw [hnm])
        have HFIN := Lib.hid ((HATA.out.sN hpA y).sP hyA (s.pv m))
        obtain ⟨p, hpp⟩ : ∃ p, s.pv m = p := ⟨_, rfl⟩
        rw [hpp] at hpA hpm m3 HOUT HFIN
        have hmp : ¬ m = p := fun e => hpm e.symm
        have p2 := HATA.out.c2 hpA
        have y3 := HATA.out.c3 hyA
        have fp := (HATA.out p hpA).free 2
        have fy := (HATA.out y hyA).free 3
        have hph : ¬ p = hq := fun e => HHA.out (e ▸ hpA)
        have hhp : ¬ hq = p := fun e => hph e.symm
        have hyh : ¬ y = hq := fun e => HHA.out (e ▸ hyA)
        have hhy : ¬ hq = y := fun e => hyh e.symm
        have hhm : ¬ hq = m := fun e => hmh e.symm
        have HPA := Lib.hid hpA
        have HYA := Lib.hid hyA
        have HY0 := Lib.hid hnm
        have HP0 := Lib.hid hpp
        clear hd hring hw1 hml hnm hpp hyA hpA
        go_wp2_with fail
        go_big_region
        go_upto_region 8 with fail
        obtain ⟨wb, hwb⟩ : ∃ wb, wb = (wa.setCell ⟨p, 2, none⟩ (.pointer (some ⟨y, 0, none⟩))).drew := ⟨_, rfl⟩
        have hatb : HpAt wb (setN s p y) A := by rw [hwb]; exact HATA.out.sN HPA.out y
        have hkb : Blk wb hq 44 #[.pointer (some ⟨m, 0, none⟩), .int .u64 (N : Int)] := by rw [hwb]; exact HKA.out.other hhp _
        have hfb : Fr (hq :: A) (hq :: A) w1 wb := by rw [hwb]; exact (HFA.out.trans (Fr.store _ (F := hq :: A) (a := ⟨p, 2, none⟩) (List.mem_cons_of_mem _ HPA.out) _)).drew
        rw [← hwb]
        clear hwb h0 fh m3 n2 p2 y3 fp fy
        have h0 : wb.cell? ⟨hq, 0, none⟩ = some (.pointer (some ⟨m, 0, none⟩)) := hkb.cell 0 rfl
        have n2 : wb.cell? ⟨m, 2, none⟩ = some (.pointer (some ⟨y, 0, none⟩)) := by
          have e : (setN s p y).nx m = y := (upd_ne _ _ hmp).trans HY0.out
          have q := hatb.c2 HMA.out
          rw [e] at q; exact q
        have m3 : wb.cell? ⟨m, 3, none⟩ = some (.pointer (some ⟨p, 0, none⟩)) := by
          have q := hatb.c3 HMA.out
          have e : (setN s p y).pv m = p := HP0.out
          rw [e] at q; exact q
        have y3 := hatb.c3 HYA.out
        have fy := (hatb y HYA.out).free 3
        have fh := hkb.free 0
        have HATB := Lib.hid hatb
        have HKB := Lib.hid hkb
        have HFB := Lib.hid hfb
        clear hatb hkb hfb
        go_big_region
        go_wp2_with fail
        go_meet
        refine ⟨rfl, ?_, ?_, ?_⟩
        · rw [← HOUT.out]
          have q := HATB.out.sP HYA.out p
          exact fun b hb => (q b hb).other (fun e => HHA.out (by have : b = hq := e; exact this ▸ hb)) _
        · exact (HKB.out.other hhy _).set 0 (.pointer (some ⟨y, 0, none⟩))
        · exact ((HFB.out.trans (Fr.store _ (F := hq :: A) (a := ⟨y, 3, none⟩) (List.mem_cons_of_mem _ HYA.out) _)).trans (Fr.store _ (F := hq :: A) (a := ⟨hq, 0, none⟩) (by simp) _)).drew
      -- B]]
    case rest =>
      obtain ⟨rfl, hat1, hk1, hf1⟩ := hcut
      obtain ⟨s1, hs1⟩ : ∃ s1, out s m = s1 := ⟨_, rfl⟩
      have h2 := H2.out
      have hch := h1c.out
      rw [hs1] at hat1 h2
      have hpr1 : s1.pr = s.pr := by rw [← hs1]; rfl
      have hpa1 : s1.pa = s.pa := by rw [← hs1]; rfl
      have hch1 : s1.ch m = (K m).head? := by rw [← hs1]; exact hch
      obtain ⟨C, hC⟩ : ∃ C, K m = C := ⟨_, rfl⟩
      rw [hC] at h2 hch1
      have HC := Lib.hid hC
      have hCA : ∀ x ∈ C, x ∈ A := fun x hx => HSUB.out x (((HI.out.mK m HMD.out x).1 (by rw [hC]; exact hx)).1)
      have hCn : C.Nodup := by rw [← hC]; exact HI.out.kd m HMD.out
      have m4 := hat1.c4 HMA.out
      have HAT1 := Lib.hid hat1
      have HK1 := Lib.hid hk1
      have HF1 := Lib.hid hf1
      have H2 := Lib.hid h2
      have HPR1 := Lib.hid hpr1
      have HCH1 := Lib.hid hch1
      have HPA1 := Lib.hid hpa1
      have HCA := Lib.hid hCA
      have HCN := Lib.hid hCn
      have HCR := Lib.hid h2.qn
      rw [hch1] at m4
      clear hat1 hk1 hf1 h2 hch hs1 hpr1 hpa1 hch1 hC hCA hCn
      go_upto_region 10 with fail
      obtain ⟨wb, hwb⟩ : ∃ wb, wb = wc := ⟨_, rfl⟩
      rw [← hwb] at HAT1 HK1 HF1 m4 ⊢
      clear hwb
      go_cut [84] from 80 to 84 (fun s84 wx => s84 = .bool (!decide (C = [])) ∧ wx = wb)
      case first =>
        -- [[C
        cases C with
        | nil =>
          have m4 : wb.cell? ⟨m, 4, none⟩ = some (.pointer none) := m4
          go_wp2_with fail
          go_meet
          exact ⟨rfl, rfl⟩
        | cons c kl =>
          have m4 : wb.cell? ⟨m, 4, none⟩ = some (.pointer (some ⟨c, 0, none⟩)) := m4
          go_wp2_with fail
          go_meet
          exact ⟨rfl, rfl⟩
        -- C]]
      case rest =>
        obtain ⟨rfl, hwx⟩ := hcut
        rw [hwx]
        clear hwx
        go_upto_if 84 with fail
        go_cut [4] from 84 to 102 (fun s4 wx => s4 = .pointer (some ⟨m, 0, none⟩) ∧ HpAt wx (clrS s1 C) A ∧ Blk wx hq 44 #[pt l.head?, .int .u64 (N : Int)] ∧ Fr (hq :: A) (hq :: A) w1 wx)
        case first =>
          -- [[D
          cases C with
          | nil =>
            have hd : (!decide (([] : List Nat) = [])) = false := rfl
            rw [hd]
            clear hd
            go_wp2_with fail
            go_meet
            exact ⟨rfl, by rw [clrS_nil]; exact HAT1.out, HK1.out, HF1.out⟩
          | cons c kl =>
            have hd : (!decide ((c :: kl) = [])) = true := rfl
            rw [hd]
            have m4 : wb.cell? ⟨m, 4, none⟩ = some (.pointer (some ⟨c, 0, none⟩)) := m4
            have hmC : m ∉ c :: kl := fun hm => by
              have e1 := (HI.out.mK m HMD.out m).1 (by rw [HC.out]; exact hm)
              have e2 := (HI.out.mR m).1 (by rw [List.append_nil]; exact HMR.out)
              rw [e2.2] at e1; cases e1.2
            have HMC := Lib.hid hmC
            obtain ⟨n, hn2⟩ : ∃ n, (c :: kl).length = n := ⟨_, rfl⟩
            have HN2 := Lib.hid hn2
            have hnp : 0 < n := by rw [← hn2]; simp
            clear hd hmC hn2
            go_wp2_with fail
            go_loopg [5, 6] n (fun kk s5 s6 wr => ∃ i, i + kk = n ∧ s5 = .pointer (some ⟨((c :: kl) ++ [c]).getD i 0, 0, none⟩) ∧ s6 = .bool (decide (i < n)) ∧ HpAt wr (clrS s1 ((c :: kl).take i)) A ∧ Blk wr hq 44 #[pt l.head?, .int .u64 (N : Int)] ∧ Fr (hq :: A) (hq :: A) w1 wr)
            case atStart => exact ⟨0, by omega, rfl, by simp [hnp], by rw [List.take_zero, clrS_nil]; exact HAT1.out, HK1.out, HF1.out⟩
            case round =>
              clear HAT1 HK1 HF1 m4
              obtain ⟨i, hik, rfl, rfl, hat, hk, hf⟩ := hrel
              have HATr := Lib.hid hat
              have HKr := Lib.hid hk
              have HFr := Lib.hid hf
              by_cases hi : i < n
              · have hdi : decide (i < n) = true := by simpa using hi
                rw [hdi]
                have hil : i < (c :: kl).length := by rw [HN2.out]; exact hi
                obtain ⟨x, hx⟩ : ∃ x, ((c :: kl) ++ [c]).getD i 0 = x := ⟨_, rfl⟩
                rw [hx]
                obtain ⟨y, hy⟩ : ∃ y, ((c :: kl) ++ [c]).getD (i + 1) 0 = y := ⟨_, rfl⟩
                have hxe : (c :: kl)[i]? = some x := by
                  rw [← hx, List.getD_eq_getElem?_getD, List.getElem?_append_left hil, List.getElem?_eq_getElem hil]; rfl
                have hxC : x ∈ c :: kl := List.mem_of_getElem? hxe
                have hxA := HCA.out x hxC
                have hnx : s1.nx x = y := by
                  have q := seg_at kl c c HCR.out i (by simp at hil; omega)
                  have q2 : (c :: kl).getD i 0 = x := by rw [List.getD_eq_getElem?_getD, hxe]; rfl
                  rw [q2] at q
                  rw [q, ← hy]
                  simp
                have hyC : y ∈ c :: kl := by rw [← hnx]; exact nx_mem HCR.out hxC
                have hyA := HCA.out y hyC
                have x5 := hat.c5 hxA
                have fx := (hat x hxA).free 5
                have x2 := hat.c2 hxA
                have HXA := Lib.hid hxA
                have HXE := Lib.hid hxe
                have HYA := Lib.hid hyA
                have HY := Lib.hid hy
                rw [show (clrS s1 ((c :: kl).take i)).nx x = y from hnx] at x2
                have hnd := HCN.out
                have hyc : y = c ↔ i + 1 = n := by
                  have q : ((c :: kl) ++ [c])[i + 1]? = some y := by
                    have hlt : i + 1 < ((c :: kl) ++ [c]).length := by rw [List.length_append, HN2.out]; simp; omega
                    rw [← hy, List.getD_eq_getElem?_getD, List.getElem?_eq_getElem hlt]; rfl
                  constructor
                  · intro e
                    rcases Nat.lt_or_ge (i + 1) n with hlt | hge
                    · rw [List.getElem?_append_left (by rw [HN2.out]; exact hlt), e] at q
                      simp at q
                      exact absurd (List.mem_of_getElem? q) (List.nodup_cons.1 hnd).1
                    · omega
                  · intro e
                    rw [List.getElem?_append_right (by rw [HN2.out]; omega), HN2.out, e, Nat.sub_self] at q
                    simpa using q.symm
                have HYC := Lib.hid hyc
                clear hat hk hf hdi hil hx hxe hxC hxA hnx hyC hyA hnd hyc hy
                cases gk with
                | zero => omega
                | succ k =>
                  go_upto_region 14 with fail
                  obtain ⟨wd, hwd⟩ : ∃ wd, wd = wr.setCell ⟨x, 5, none⟩ (.pointer none) := ⟨_, rfl⟩
                  have hatd : HpAt wd (clrS s1 ((c :: kl).take (i + 1))) A := by
                    rw [hwd, List.take_add_one, HXE.out]
                    have q := HATr.out.sA HXA.out none
                    rw [clrS_snoc] at q
                    exact q
                  have hkd : Blk wd hq 44 #[pt l.head?, .int .u64 (N : Int)] := by
                    rw [hwd]; exact HKr.out.other (fun e => HHA.out (by have : hq = x := e; exact this ▸ HXA.out)) _
                  have hfd : Fr (hq :: A) (hq :: A) w1 wd := by rw [hwd]; exact HFr.out.trans (Fr.store _ (F := hq :: A) (a := ⟨x, 5, none⟩) (List.mem_cons_of_mem _ HXA.out) _)
                  rw [← hwd]
                  clear hwd x5 fx x2
                  have m4 : wd.cell? ⟨m, 4, none⟩ = some (.pointer (some ⟨c, 0, none⟩)) := by
                    have q := hatd.c4 HMA.out
                    rw [show (clrS s1 ((c :: kl).take (i + 1))).ch m = some c from HCH1.out] at q
                    exact q
                  have HATd := Lib.hid hatd
                  have HKd := Lib.hid hkd
                  have HFd := Lib.hid hfd
                  by_cases hin : i + 1 = n
                  · have hyc := HYC.out.2 hin
                    have he := neq_same wd ⟨c, 0, none⟩
                    rw [hyc] at HY ⊢
                    clear hatd hkd hfd hyc
                    go_wp2_with fail
                    go_roundg k
                    case measure => omega
                    case rel => exact ⟨i + 1, by omega, by rw [HY.out], by simp [hin], HATd.out, HKd.out, HFd.out⟩
                  · have he := neq_other (hatd y HYA.out) (hatd c (HCA.out c (by simp))) (fun e => hin (HYC.out.1 e))
                    clear hatd hkd hfd
                    go_wp2_with fail
                    go_roundg k
                    case measure => omega
                    case rel => exact ⟨i + 1, by omega, by rw [HY.out], by simp; omega, HATd.out, HKd.out, HFd.out⟩
              · have hdi : decide (i < n) = false := by simpa using hi
                rw [hdi]
                have hin : i = n := by omega
                clear hat hk hf hdi
                go_wp2_with fail
                go_meet
                refine ⟨rfl, ?_, HKr.out, HFr.out⟩
                have q := HATr.out
                rw [List.take_of_length_le (by rw [HN2.out]; omega)] at q
                exact q
          -- D]]
        case rest =>
          obtain ⟨rfl, hat2, hk2, hf2⟩ := hcut
          obtain ⟨D', hD'⟩ : ∃ D', (D.filter fun x => decide (x ≠ m)) = D' := ⟨_, rfl⟩
          have HI2 : Hid (Fh.Inv (clrS s1 C) D' l C K (fun x => if P x = some m then none else P x)) := Lib.hid (by rw [← hD']; have q := H2.out; exact ⟨q.rn, q.qn, q.kn, q.ch, q.dg, q.mR, q.mK, q.dm, q.rd, q.kd, q.rk⟩)
          have HAG : Hid (Agr (clrS s1 C) (fun x => if P x = some m then none else P x) D' []) := Lib.hid (fun x hx hn => by
            rw [← hD'] at hx
            have hxD := (List.mem_filter.1 hx).1
            have hiff := HI.out.mK m HMD.out x
            rw [HC.out] at hiff
            show (if x ∈ C then none else s1.pa x) = if P x = some m then none else P x
            rw [HPA1.out, HA.out x hxD (by simp)]
            by_cases hp : P x = some m
            · rw [if_pos hp, if_pos (hiff.2 ⟨hxD, hp⟩)]
            · rw [if_neg hp, if_neg (fun hm => hp (hiff.1 hm).2)])
          have HOD : Hid (Ord (clrS s1 C) (fun x => if P x = some m then none else P x) D' []) := Lib.hid (fun x hx hn b hb => by
            rw [← hD'] at hx
            have hxD := (List.mem_filter.1 hx).1
            show s1.pr b ≤ s1.pr x
            have hb : (if P x = some m then none else P x) = some b := hb
            rw [HPR1.out]
            by_cases hp : P x = some m
            · rw [if_pos hp] at hb; cases hb
            · rw [if_neg hp] at hb; exact HO.out x hxD (by simp) b hb)
          have HND' : Hid D'.Nodup := Lib.hid (by rw [← hD']; exact HND.out.filter _)
          have HSM' : Hid (∀ x ∈ D', Sm ((clrS s1 C).pr x)) := Lib.hid (fun x hx => by
            rw [← hD'] at hx
            show Sm (s1.pr x)
            rw [HPR1.out]; exact HSM.out x (List.mem_filter.1 hx).1)
          have HPR2 : Hid ((clrS s1 C).pr = s.pr) := Lib.hid HPR1.out
          have HDA : Hid (∀ x ∈ D', x ∈ A) := Lib.hid (fun x hx => by rw [← hD'] at hx; exact HSUB.out x (List.mem_filter.1 hx).1)
          have HDD := Lib.hid hD'
          have hch2 : (clrS s1 C).ch m = C.head? := HCH1.out
          obtain ⟨s2, hs2⟩ : ∃ s2, clrS s1 C = s2 := ⟨_, rfl⟩
          rw [hs2] at hat2 hch2 HI2 HAG HOD HSM' HPR2
          have m4' := hat2.c4 HMA.out
          rw [hch2] at m4'
          have HAT2 := Lib.hid hat2
          have HK2 := Lib.hid hk2
          have HF2 := Lib.hid hf2
          have h0 : wc.cell? ⟨hq, 0, none⟩ = some (pt l.head?) := hk2.cell 0 rfl
          have fh0 := hk2.free 0
          clear hat2 hk2 hf2 hD' hs2 hch2 m4 hml hring H2
          go_upto_region 17 with fail
          go_cut [4] from 103 to 114 (fun s4 wx => s4 = .pointer (some ⟨m, 0, none⟩) ∧ DqC w1 hq s A D' N wx)
          case first =>
            -- [[E
            clear HIE hw1
            cases l with
            | nil =>
              have h0 : wc.cell? ⟨hq, 0, none⟩ = some (.pointer none) := h0
              cases C with
              | nil =>
                have m4' : wc.cell? ⟨m, 4, none⟩ = some (.pointer none) := m4'
                have HFIN : Hid (DqC w1 hq s A D' N (wc.setCell ⟨hq, 0, none⟩ (pt none))) := Lib.hid (dqc_set HAT2.out ⟨⟨K, _, HI2.out, HAG.out, HOD.out⟩, HND'.out, HSM'.out⟩ HPR2.out (fun _ => rfl) (fun a ha => (by cases ha)) HK2.out HF2.out HHA.out)
                go_region_law ((go_simp; go_at_call 39; refine Calls.mono (mergenil_any none _) ?_; rintro e w3 ⟨rfl, rfl⟩))
                all_goals (try go_wp2_with fail)
                all_goals
                  go_meet
                  exact ⟨rfl, HFIN.out.drew⟩
              | cons c kl =>
                have m4' : wc.cell? ⟨m, 4, none⟩ = some (.pointer (some ⟨c, 0, none⟩)) := m4'
                have HFIN : Hid (DqC w1 hq s A D' N (wc.setCell ⟨hq, 0, none⟩ (pt (some c)))) := Lib.hid (dqc_set HAT2.out ⟨⟨K, _, HI2.out.swap, HAG.out, HOD.out⟩, HND'.out, HSM'.out⟩ HPR2.out (fun e => (by cases e)) (fun a ha => (by injection ha with ha; rw [← ha]; simp)) HK2.out HF2.out HHA.out)
                go_region_law ((go_simp; go_at_call 39; refine Calls.mono (mergefirst_any c _) ?_; rintro e w3 ⟨rfl, rfl⟩))
                all_goals (try go_wp2_with fail)
                all_goals
                  go_meet
                  exact ⟨rfl, HFIN.out.drew⟩
            | cons y l =>
              have h0 : wc.cell? ⟨hq, 0, none⟩ = some (.pointer (some ⟨y, 0, none⟩)) := h0
              cases C with
              | nil =>
                have m4' : wc.cell? ⟨m, 4, none⟩ = some (.pointer none) := m4'
                have HFIN : Hid (DqC w1 hq s A D' N (wc.setCell ⟨hq, 0, none⟩ (pt (some y)))) := Lib.hid (dqc_set HAT2.out ⟨⟨K, _, HI2.out, HAG.out, HOD.out⟩, HND'.out, HSM'.out⟩ HPR2.out (fun e => (by cases e)) (fun a ha => (by injection ha with ha; rw [← ha]; simp)) HK2.out HF2.out HHA.out)
                go_region_law ((go_simp; go_at_call 39; refine Calls.mono (mergenil_any (some y) _) ?_; rintro e w3 ⟨rfl, rfl⟩))
                all_goals (try go_wp2_with fail)
                all_goals
                  go_meet
                  exact ⟨rfl, HFIN.out.drew⟩
              | cons c kl =>
                have m4' : wc.cell? ⟨m, 4, none⟩ = some (.pointer (some ⟨c, 0, none⟩)) := m4'
                have hrd := List.nodup_append.1 HI2.out.rd
                have hyc : y ≠ c := hrd.2.2 y (by simp) c (by simp)
                have hny := (ring_nx HI2.out.rn).2
                have hnc := (ring_nx HI2.out.qn).2
                have hne : s2.nx y ≠ s2.nx c := hrd.2.2 _ hny _ hnc
                have hin : ∀ x ∈ (y :: l) ++ (c :: kl), x ∈ D' := fun x hx => ((HI2.out.mR x).1 hx).1
                have hyD := hin y (by simp)
                have hcD := hin c (by simp)
                have HMG : Hid (∀ wx, HpAt wx s2 A → _) := Lib.hid (fun wx hx => mergelists_any s2 A y c wx hx (HDA.out y hyD) (HDA.out c hcD) hyc (HDA.out _ (hin _ (List.mem_append_left _ hny))) (HDA.out _ (hin _ (List.mem_append_right _ hnc))) hne (HSM'.out y hyD) (HSM'.out c hcD))
                have HN3 : Hid (Nodes (merge s2 y c) D' (y :: kl ++ c :: l)) := Lib.hid ⟨⟨K, _, HI2.out.merge, HAG.out, HOD.out⟩, HND'.out, HSM'.out⟩
                have HL3 : Hid (lesser s2 y c ∈ y :: kl ++ c :: l) := Lib.hid (by rcases lesser_or s2 y c with e | e <;> rw [e] <;> simp)
                obtain ⟨mm, hmm⟩ : ∃ mm, lesser s2 y c = mm := ⟨_, rfl⟩
                have HMM := Lib.hid hmm
                clear hrd hyc hny hnc hne hin hyD hcD hmm
                go_region_law ((go_simp; go_at_call 39; refine Calls.mono (HMG.out _ ?_) ?_; (first | exact HAT2.out | exact hp_drew HAT2.out); rintro e w3 ⟨rfl, hat3, hf3⟩; rw [HMM.out]; have HAT3 := Lib.hid hat3; have HK3 : Hid (Blk w3 hq 44 #[.pointer (some ⟨y, 0, none⟩), .int .u64 (N : Int)]) := Lib.hid (hf3.blk (show Blk _ hq _ _ from HK2.out) HHA.out); have HF3 : Hid (Fr (hq :: A) (hq :: A) wc w3) := Lib.hid (fr_up hf3); have k0 := HK3.out.cell 0 rfl; have kf := HK3.out.free 0; clear hat3 hf3))
                all_goals (try go_wp2_with fail)
                all_goals
                  go_meet
                  have q : DqC w1 hq s A D' N (w3.setCell ⟨hq, 0, none⟩ (pt (some mm))) := dqc_set (m3 := some mm) HAT3.out HN3.out HPR2.out (fun e => (by cases e)) (fun a ha => (by injection ha with ha; rw [← ha, ← HMM.out]; exact HL3.out)) HK3.out (HF2.out.trans HF3.out) HHA.out
                  exact ⟨rfl, q⟩
            -- E]]
          case rest =>
            obtain ⟨rfl, s3, R3, m3, hat3, hn3, hp3, hr3, hr4, hk3, hf3⟩ := hcut
            have hDl : D'.length = N := by
              have q := filter_ne_len HND.out HMD.out
              rw [HDD.out, HNN.out] at q
              omega
            have HAT3 := Lib.hid hat3
            have HN3 := Lib.hid hn3
            have HP3 := Lib.hid hp3
            have HF3 := Lib.hid hf3
            have HK3 := Lib.hid hk3
            have HDL := Lib.hid hDl
            have hN1 : N ≤ 1000 := by omega
            clear HIE hw1 hat3 hn3 hp3 hf3 hDl h0 fh0 m4' HI2 HAG HOD HSM' HPR2 HAT2 HK2 HF2 HCH1 HCR HPA1 HPR1
            cases m3 with
            | none =>
              obtain rfl := hr3 rfl
              have k0 : wc.cell? ⟨hq, 0, none⟩ = some (.pointer none) := hk3.cell 0 rfl
              clear hk3 hr3 hr4
              go_wp2_with fail
              go_ret2
              refine ⟨s3, [], none, rfl, ?_, HP3.out, HF3.out⟩
              rw [HDD.out]
              exact ⟨HAT3.out, HDA.out, HN3.out, rfl, by rw [HDL.out]; exact HK3.out⟩
            | some a =>
              have k0 : wc.cell? ⟨hq, 0, none⟩ = some (.pointer (some ⟨a, 0, none⟩)) := hk3.cell 0 rfl
              have k1 : wc.cell? ⟨hq, 1, none⟩ = some (.int .u64 (N : Int)) := hk3.cell 1 rfl
              have haR := hr4 a rfl
              clear hk3 hr3 hr4
              obtain ⟨wp, rfl⟩ : ∃ x, x = wc := ⟨_, rfl⟩
              have hself : wp.heap.size ≤ wp.heap.size := Nat.le_refl _
              go_upto_block 2 with (at_make; first
                | (refine wpList_make2 rfl _ _ 48 rfl wp.heap.size 41 (.pointer none) 8 Try.underlying48 info_pent rfl _ _ _ _ 0 N rfl rfl rfl rfl (Nat.zero_le _) (by omega) (by unfold maxLen; omega) hself ?_; intro w4 hown4 hb4 hs4; have HOT := Lib.hid hown4; have HB4 := Lib.hid hb4; have hs4' : wp.heap.size ≤ w4.heap.size := hb4.size; have k0 := (hb4.cell (World.block_lt_of_cell? wp _ k0)).trans k0; have k1 := (hb4.cell (World.block_lt_of_cell? wp _ k1)).trans k1; have HS4 := Lib.hid hs4; clear hown4 hb4 hs4)
                | (refine wpList_make2 rfl _ _ 48 rfl wp.heap.size 41 (.pointer none) 8 Try.underlying48 info_pent rfl _ _ _ _ 0 N rfl rfl rfl rfl (Nat.zero_le _) (by omega) (by unfold maxLen; omega) hs4' ?_; intro w5 hown5 hb5 hs5; have HOV := Lib.hid hown5; have HB5 := Lib.hid hb5; have hs5' : w4.heap.size ≤ w5.heap.size := hb5.size; have k0 := (hb5.cell (World.block_lt_of_cell? w4 _ k0)).trans k0; have k1 := (hb5.cell (World.block_lt_of_cell? w4 _ k1)).trans k1; have HS5 := Lib.hid hs5; clear hown5 hb5 hs5)
                | fail)
              obtain ⟨⟨K3, P3, hi3, ha3, ho3⟩, hnd3, hsm3⟩ := HN3.out
              obtain ⟨l3, hi3', hpm3⟩ := hi3.first haR
              have hLA : ∀ x ∈ a :: l3, x ∈ A := fun x hx => HDA.out x ((hi3'.mR x).1 (by rw [List.append_nil]; exact hx)).1
              have hLn : (a :: l3).Nodup := by have q := hi3'.rd; rwa [List.append_nil] at q
              have hLl : (a :: l3).length ≤ 1000 := by
                have q : (a :: l3).length ≤ D'.length := nodup_le hLn (fun x hx => ((hi3'.mR x).1 (by rw [List.append_nil]; exact hx)).1)
                rw [HDL.out] at q; omega
              have HI3 := Lib.hid hi3'
              have HA3 := Lib.hid ha3
              have HO3 := Lib.hid ho3
              have HLA := Lib.hid hLA
              have HLN := Lib.hid hLn
              obtain ⟨B, hB⟩ : ∃ B, wp.heap.size = B := ⟨_, rfl⟩
              have hS4 := HS4.out
              have hb45 : Below wp.heap.size wp w5 := HB4.out.trans (HB5.out.mono HB4.out.size)
              have hot5 := (Fr.of_below [] HB5.out).own HOT.out (fun _ _ h => by cases h)
              have hov5 := HOV.out
              have hdis : ∀ k ∈ obl (.slice (some ⟨wp.heap.size, 0, none⟩) 0 N), k ∉ obl (.slice (some ⟨w4.heap.size, 0, none⟩) 0 N) := fun k hk hk2 => by
                rw [obl_some, List.mem_singleton] at hk hk2
                omega
              rw [hB] at hot5 hov5 hb45 hdis ⊢
              obtain ⟨V0, hV0⟩ : ∃ V0, w4.heap.size = V0 := ⟨_, rfl⟩
              rw [hV0] at hov5 hdis ⊢
              have HB45 := Lib.hid hb45
              have HOT5 := Lib.hid hot5
              have HOV5 := Lib.hid hov5
              have HDIS := Lib.hid hdis
              have HBB := Lib.hid hB
              have hszB : B ≤ w5.heap.size := by rw [← hB]; exact hb45.size
              obtain ⟨n3, hn3⟩ : ∃ n, (a :: l3).length = n := ⟨_, rfl⟩
              have hn3p : 0 < n3 := by rw [← hn3]; simp
              rw [hn3] at hLl
              have HN33 := Lib.hid hn3
              clear hi3 ha3 ho3 hnd3 hsm3 hi3' hLA hLn hB hS4 hb45 hot5 hov5 hdis hV0 hn3 HOT HOV HS4 HS5 HB4 HB5 hs4' hs5' k0 k1
              go_cut [8] from 135 to 152 (fun s8 wx => ∃ (q : Option Addr) (c : Nat), s8 = .slice q n3 c ∧ wx.ownsRow B 41 1 (.slice q n3 c) n3 (ptrs (a :: l3)) ∧ wx.ownsRow B 41 1 (.slice (some ⟨B, 0, none⟩) 0 N) 0 [] ∧ (∀ k ∈ obl (.slice (some ⟨B, 0, none⟩) 0 N), k ∉ obl (.slice q n3 c)) ∧ Below B wp wx)
              case first =>
                -- [[F
                go_wp2_with fail
                go_loopg [8, 9] n3 (fun kk s8 s9 wr => ∃ (i : Nat) (q : Option Addr) (c : Nat), i + kk = n3 ∧ s8 = .slice q i c ∧ s9 = .pointer (some ⟨((a :: l3) ++ [a]).getD i 0, 0, none⟩) ∧ wr.ownsRow B 41 1 (.slice q i c) i (ptrs ((a :: l3).take i)) ∧ wr.ownsRow B 41 1 (.slice (some ⟨B, 0, none⟩) 0 N) 0 [] ∧ (∀ k ∈ obl (.slice (some ⟨B, 0, none⟩) 0 N), k ∉ obl (.slice q i c)) ∧ Below B wp wr)
                case atStart => exact ⟨0, _, _, by omega, rfl, rfl, HOV5.out, HOT5.out, HDIS.out, HB45.out⟩
                case round =>
                  obtain ⟨i, q, c, hik, rfl, rfl, hov, hot, hdis, hbel⟩ := hrel
                  have HOVr := Lib.hid hov
                  have HOTr := Lib.hid hot
                  have HDr := Lib.hid hdis
                  have HBr := Lib.hid hbel
                  have hatr : HpAt wr s3 A := HAT3.out.below (by rw [HBB.out]; exact hbel)
                  obtain ⟨x, hx⟩ : ∃ x, ((a :: l3) ++ [a]).getD i 0 = x := ⟨_, rfl⟩
                  rw [hx]
                  have hsr : B ≤ wr.heap.size := by have := hbel.size; rw [HBB.out] at this; exact this
                  by_cases hi : i < n3
                  · have hil : i < (a :: l3).length := by rw [HN33.out]; exact hi
                    have hxe : (a :: l3)[i]? = some x := by
                      rw [← hx, List.getD_eq_getElem?_getD, List.getElem?_append_left hil, List.getElem?_eq_getElem hil]; rfl
                    have hxL : x ∈ a :: l3 := List.mem_of_getElem? hxe
                    obtain ⟨y, hy⟩ : ∃ y, ((a :: l3) ++ [a]).getD (i + 1) 0 = y := ⟨_, rfl⟩
                    have hnx : s3.nx x = y := by
                      have q1 := seg_at l3 a a HI3.out.rn i (by simp at hil; omega)
                      have q2 : (a :: l3).getD i 0 = x := by rw [List.getD_eq_getElem?_getD, hxe]; rfl
                      rw [q2] at q1
                      rw [q1, ← hy]
                      simp
                    have HXA := Lib.hid (HLA.out x hxL)
                    have HXE := Lib.hid hxe
                    have HY := Lib.hid hy
                    have HNX := Lib.hid hnx
                    have hxa : 0 < i → x ≠ a := fun h0 e => by
                      cases i with
                      | zero => omega
                      | succ i =>
                        rw [e] at hxe
                        have q1 : l3[i]? = some a := by simpa using hxe
                        exact (List.nodup_cons.1 HLN.out).1 (List.mem_of_getElem? q1)
                    clear hx hxe hxL hy hnx hil hov hot hdis hbel
                    cases gk with
                    | zero => omega
                    | succ k =>
                    by_cases hi0 : i = 0
                    · have hi0' : ((i : Int) == 0) = true := by rw [beq_iff_eq]; omega
                      clear hatr hxa hi0
                      go_wp2_with (at_builtin; refine wpList_append1A rfl _ _ 48 rfl B 41 (.pointer none) 8 Try.underlying48 info_pent rfl (.slice q i c) i (ptrs ((a :: l3).take i)) rfl HOVr.out (.pointer (some ⟨x, 0, none⟩)) rfl rfl (by unfold maxLen; omega) (by omega) hsr ?_; intro g5 k5 w7 hown5 hf5; have HO5 := Lib.hid hown5; have HT5 := Lib.hid (hf5.own HOTr.out HDr.out); have HB7 := Lib.hid (HBr.out.trans (hf5.below (fun z hz => (own_lt HOVr.out z hz).2) hsr)); have x2 := (HAT3.out.below (by rw [HBB.out]; exact HB7.out)).c2 HXA.out; rw [HNX.out] at x2; have HTL := Lib.hid (own_lt HOTr.out); have HG5 := Lib.hid (hf5.next g5 (by simp)); clear hown5 hf5)
                      go_roundg k
                      case measure => omega
                      case rel =>
                        refine ⟨i + 1, some ⟨g5, 0, none⟩, k5, by omega, rfl, by rw [HY.out], ?_, HT5.out, fun z hz hz2 => ?_, HB7.out⟩
                        · rw [List.take_add_one, HXE.out]
                          have e : ptrs ((a :: l3).take i ++ (some x).toList) = ptrs ((a :: l3).take i) ++ [.pointer (some ⟨x, 0, none⟩)] := by simp [ptrs]
                          rw [e]; exact HO5.out
                        · rw [obl_some, List.mem_singleton] at hz2
                          subst hz2
                          rcases HG5.out with e | e
                          · exact HDr.out _ hz e
                          · have := (HTL.out _ hz).1; omega
                    · have hi0' : ((i : Int) == 0) = false := by rw [beq_eq_false_iff_ne]; omega
                      have hne := neq_other (hatr a (HLA.out a (by simp))) (hatr x HXA.out) (fun e => hxa (by omega) e.symm)
                      obtain ⟨_, _, _, e1, -, -, -, hr1⟩ := Sl.of_owns HOVr.out
                      injection e1 with e1 e2 e3
                      subst e1 e2 e3
                      obtain ⟨bV, oV, rfl, hcV⟩ := hr1 (by omega)
                      have v0e : (ptrs ((a :: l3).take i))[0]? = some (.pointer (some ⟨a, 0, none⟩)) := by
                        cases i with
                        | zero => omega
                        | succ i => rfl
                      have v0 := hcV 0 (.pointer (some ⟨a, 0, none⟩)) v0e
                      rw [Nat.add_zero] at v0
                      have i1 : (0 : Int) < (i : Int) := by omega
                      have i2 : 0 < i := by omega
                      clear hatr hxa hr1 hcV
                      go_wp2_with (at_builtin; refine wpList_append1A rfl _ _ 48 rfl B 41 (.pointer none) 8 Try.underlying48 info_pent rfl (.slice (some ⟨bV, oV, none⟩) i c) i (ptrs ((a :: l3).take i)) rfl HOVr.out (.pointer (some ⟨x, 0, none⟩)) rfl rfl (by unfold maxLen; omega) (by omega) hsr ?_; intro g5 k5 w7 hown5 hf5; have HO5 := Lib.hid hown5; have HT5 := Lib.hid (hf5.own HOTr.out HDr.out); have HB7 := Lib.hid (HBr.out.trans (hf5.below (fun z hz => (own_lt HOVr.out z hz).2) hsr)); have x2 := (HAT3.out.below (by rw [HBB.out]; exact HB7.out)).c2 HXA.out; rw [HNX.out] at x2; have HTL := Lib.hid (own_lt HOTr.out); have HG5 := Lib.hid (hf5.next g5 (by simp)); clear hown5 hf5)
                      go_roundg k
                      case measure => omega
                      case rel =>
                        refine ⟨i + 1, some ⟨g5, 0, none⟩, k5, by omega, rfl, by rw [HY.out], ?_, HT5.out, fun z hz hz2 => ?_, HB7.out⟩
                        · rw [List.take_add_one, HXE.out]
                          have e : ptrs ((a :: l3).take i ++ (some x).toList) = ptrs ((a :: l3).take i) ++ [.pointer (some ⟨x, 0, none⟩)] := by simp [ptrs]
                          rw [e]; exact HO5.out
                        · rw [obl_some, List.mem_singleton] at hz2
                          subst hz2
                          rcases HG5.out with e | e
                          · exact HDr.out _ hz e
                          · have := (HTL.out _ hz).1; omega
                  · have hin : i = n3 := by omega
                    have hxa : x = a := by
                      rw [← hx, List.getD_eq_getElem?_getD, List.getElem?_append_right (by rw [HN33.out]; omega), HN33.out, hin, Nat.sub_self]; rfl
                    have hi0' : ((i : Int) == 0) = false := by rw [beq_eq_false_iff_ne]; omega
                    have heq := neq_same wr ⟨a, 0, none⟩
                    rw [hxa]
                    obtain ⟨_, _, _, e1, -, -, -, hr1⟩ := Sl.of_owns HOVr.out
                    injection e1 with e1 e2 e3
                    subst e1 e2 e3
                    obtain ⟨bV, oV, rfl, hcV⟩ := hr1 (by omega)
                    have v0e : (ptrs ((a :: l3).take i))[0]? = some (.pointer (some ⟨a, 0, none⟩)) := by
                      cases i with
                      | zero => omega
                      | succ i => rfl
                    have v0 := hcV 0 (.pointer (some ⟨a, 0, none⟩)) v0e
                    rw [Nat.add_zero] at v0
                    have i1 : (0 : Int) < (i : Int) := by omega
                    have i2 : 0 < i := by omega
                    have HIN := Lib.hid hin
                    clear hatr hx hxa hov hot hdis hbel hr1 hcV v0e hin
                    go_wp2_with fail
                    go_meet
                    have h1 := HOVr.out
                    have h2 := HOTr.out
                    have h3 := HDr.out
                    rw [List.take_of_length_le (by rw [HN33.out]; rw [HIN.out]; exact Nat.le_refl _)] at h1
                    rw [HIN.out] at h1 h3 ⊢
                    exact ⟨_, c, rfl, h1, h2, h3, HBr.out⟩
                -- F]]
              case rest =>
                obtain ⟨qv, cv, rfl, hov, hot, hdis, hbel⟩ := hcut
                have HCON := Lib.hid (con_start HI3.out HA3.out HO3.out)
                have hbel' : Below wp.heap.size wp wc := by rw [HBB.out]; exact hbel
                have HAT6 := Lib.hid (HAT3.out.below hbel')
                have HK6 := Lib.hid (blk_next HK3.out hbel')
                have HB6 := Lib.hid hbel'
                have haD : a ∈ D' := ((HI3.out.mR a).1 (by simp)).1
                have hlog : CoLog D' s3.pr s3 [] (a :: l3) a none := ⟨⟨_, HCON.out⟩, rfl, Nat.zero_le _, haD⟩
                have hgv : ∃ gv, qv = some ⟨gv, 0, none⟩ := by
                  rcases hov.2 with ⟨e, h0⟩ | ⟨g, cap, cur, e, _⟩
                  · omega
                  · injection e with e1 e2 e3
                    exact ⟨g, e1⟩
                obtain ⟨gv, rfl⟩ := hgv
                have hmem : CoMem wp hq B A N (.slice (some ⟨gv, 0, none⟩) n3 cv) (a :: l3) s3 [] a (some ⟨B, 0, none⟩) N wc :=
                  ⟨HAT6.out, hot, by rw [HN33.out]; exact hov, hdis, HK6.out, Fr.of_below _ HB6.out, HHA.out, HBB.out⟩
                have hsm3' : Hid (∀ b ∈ D', Sm (s3.pr b)) := Lib.hid HN3.out.2.2
                have HND3 : Hid D'.Nodup := Lib.hid HN3.out.2.1
                obtain ⟨q, hq0⟩ : ∃ q, s3.pr = q := ⟨_, rfl⟩
                rw [hq0] at hlog hsm3'
                have HQ := Lib.hid hq0
                obtain ⟨Lr, hLr⟩ : ∃ Lr, a :: l3 = Lr := ⟨_, rfl⟩
                rw [hLr] at hlog hmem HN33
                have HLOG := Lib.hid hlog
                have HMEM := Lib.hid hmem
                clear hbel hbel' hov hot hdis HCON haD hlog hmem hq0 HAT6 HK6 HB6 hLr HLN HLA HO3 HA3 HI3 HN3 HAT3 HK3 HOT5 HOV5 HB45 HDIS hself k0 k1 hszB hpm3 haR
                obtain ⟨wv, rfl⟩ : ∃ x, x = wc := ⟨_, rfl⟩
                go_wp2_with fail
                go_loopg [7, 155] n3 (fun kk s7 s155 wr => ∃ (i : Nat) (s' : St) (T : List (Option Nat)) (m' tc : Nat) (tq : Option Addr), i + kk = n3 ∧ s7 = .slice tq T.length tc ∧ s155 = .int .i64 (i : Int) ∧ CoLog D' q s' T (Lr.drop i) m' none ∧ CoMem wp hq B A N (.slice (some ⟨gv, 0, none⟩) n3 cv) Lr s' T m' tq tc wr)
                case atStart => exact ⟨0, s3, [], a, N, some ⟨B, 0, none⟩, by omega, rfl, rfl, HLOG.out, HMEM.out⟩
                case round =>
                  obtain ⟨i, s', T, m', tc, tq, hik, rfl, rfl, hlog, hmem⟩ := hrel
                  obtain ⟨w7, rfl⟩ : ∃ x, x = wr := ⟨_, rfl⟩
                  obtain ⟨kk3, rfl⟩ : ∃ x, x = gk := ⟨_, rfl⟩
                  have HMEMr := Lib.hid hmem
                  have HLOGr := Lib.hid hlog
                  clear HMEM HLOG
                  by_cases hi : i < n3
                  · have hil : i < Lr.length := by rw [HN33.out]; exact hi
                    obtain ⟨x, hx⟩ : ∃ x, Lr[i]? = some x := ⟨_, List.getElem?_eq_getElem hil⟩
                    obtain ⟨g9, c9, e9, hcv, -⟩ := hmem.vcell hx
                    have hg9 : gv = g9 := by injection e9 with e; injection e with e; injection e
                    subst hg9
                    have hlog2 : CoLog D' q s' T (Lr.drop (i + 1)) m' (some x) := by
                      rw [List.drop_eq_getElem_cons hil] at hlog
                      have e : Lr[i] = x := by rw [List.getElem?_eq_getElem hil] at hx; injection hx
                      rw [e] at hlog
                      exact hlog.next
                    have HLOG2 := Lib.hid hlog2
                    clear hil hx e9 hlog hlog2 hmem HLOGr
                    go_wp2_with fail
                    go_loopg [7, 11] (cnt T) (fun kk s7 s11 wr => ∃ (s2 : St) (T2 : List (Option Nat)) (x2 tc2 : Nat) (tq2 : Option Addr), s7 = .slice tq2 T2.length tc2 ∧ s11 = .pointer (some ⟨x2, 0, none⟩) ∧ CoLog D' q s2 T2 (Lr.drop (i + 1)) m' (some x2) ∧ CoMem wp hq B A N (.slice (some ⟨gv, 0, none⟩) n3 cv) Lr s2 T2 m' tq2 tc2 wr ∧ cnt T2 ≤ kk)
                    case atStart => exact ⟨s', T, x, tc, tq, rfl, rfl, HLOG2.out, HMEMr.out, Nat.le_refl _⟩
                    case round =>
                      obtain ⟨s2, T2, x2, tc2, tq2, rfl, rfl, hlog, hmem, hc⟩ := hrel
                      obtain ⟨w8, rfl⟩ : ∃ x, x = wr := ⟨_, rfl⟩
                      obtain ⟨kk4, rfl⟩ : ∃ x, x = gk := ⟨_, rfl⟩
                      have HM2 := Lib.hid hmem
                      have HL2 := Lib.hid hlog
                      have HC2 := Lib.hid hc
                      clear HMEMr HLOG2 hcv
                      obtain ⟨hxD, hxd⟩ := hlog.dgx
                      have HXA : Hid (x2 ∈ A) := Lib.hid (HDA.out x2 hxD)
                      have hlen := hlog.2.2.1
                      rw [HDL.out] at hxd hlen
                      obtain ⟨d, hd⟩ : ∃ d, s2.dg x2 = d := ⟨_, rfl⟩
                      have HD := Lib.hid hd
                      rw [hd] at hxd
                      clear hmem hlog hc hd hlen
                      go_upto_block 8 with fail
                      go_cut [7] from 159 to 168 (fun s7 wx => ∃ (T3 : List (Option Nat)) (tc3 : Nat) (tq3 : Option Addr), s7 = .slice tq3 T3.length tc3 ∧ CoLog D' q s2 T3 (Lr.drop (i + 1)) m' (some x2) ∧ CoMem wp hq B A N (.slice (some ⟨gv, 0, none⟩) n3 cv) Lr s2 T3 m' tq3 tc3 wx ∧ d < T3.length ∧ cnt T3 = cnt T2)
                      case first =>
                        -- [[G
                        go_wp2_with fail
                        go_loopg [7] (d + 1) (fun kk s7 wr => ∃ (T3 : List (Option Nat)) (tc3 : Nat) (tq3 : Option Addr), s7 = .slice tq3 T3.length tc3 ∧ CoLog D' q s2 T3 (Lr.drop (i + 1)) m' (some x2) ∧ CoMem wp hq B A N (.slice (some ⟨gv, 0, none⟩) n3 cv) Lr s2 T3 m' tq3 tc3 wr ∧ d + 1 ≤ T3.length + kk ∧ cnt T3 = cnt T2)
                        case atStart => exact ⟨T2, tc2, tq2, rfl, HL2.out, HM2.out, by omega, rfl⟩
                        case round =>
                          obtain ⟨T3, tc3, tq3, rfl, hlog, hmem, hk3, hcn⟩ := hrel
                          have HM3 := Lib.hid hmem
                          have HL3 := Lib.hid hlog
                          have HCN := Lib.hid hcn
                          have x0 := hmem.hat.c0 HXA.out
                          rw [HD.out] at x0
                          have hsr : B ≤ wr.heap.size := by have := hmem.fr.size; rw [HBB.out] at this; exact this
                          have hot := hmem.ot
                          obtain ⟨L, hL⟩ : ∃ L, T3.length = L := ⟨_, rfl⟩
                          have HL := Lib.hid hL
                          rw [hL] at hk3 hot ⊢
                          have HOT := Lib.hid hot
                          clear hmem hlog hcn hL hot
                          by_cases hld : L ≤ d
                          · go_wp2_with (at_builtin; refine wpList_append1A rfl _ _ 48 rfl B 41 (.pointer none) 8 Try.underlying48 info_pent rfl (.slice tq3 L tc3) L (T3.map pt) rfl HOT.out (.pointer none) rfl rfl (by unfold maxLen; omega) (by omega) hsr ?_; intro g5 k5 w9 hown5 hf5; have HO5 := Lib.hid hown5; have HF5 := Lib.hid hf5; clear hown5 hf5)
                            have hg5 : CoMem wp hq B A N (.slice (some ⟨gv, 0, none⟩) n3 cv) Lr s2 (T3 ++ [none]) m' (some ⟨g5, 0, none⟩) k5 w9 := HM3.out.grow (by rw [HL.out]; exact HO5.out) (by rw [HL.out]; exact HF5.out)
                            go_roundg (gk - 1)
                            case measure => omega
                            case rel => exact ⟨T3 ++ [none], k5, some ⟨g5, 0, none⟩, by rw [List.length_append, HL.out]; rfl, HL3.out.grow (by rw [HL.out, HD.out]; exact hld), hg5, by rw [List.length_append, HL.out]; simp; omega, by rw [cnt_grow]; exact HCN.out⟩
                          · have hdl : d < L := by omega
                            go_wp2_with fail
                            go_meet
                            exact ⟨T3, tc3, tq3, by rw [HL.out], HL3.out, HM3.out, by rw [HL.out]; exact hdl, HCN.out⟩
                        -- G]]
                      case rest =>
                        obtain ⟨T3, tc3, tq3, rfl, hlog, hmem, hdl, hcn⟩ := hcut
                        obtain ⟨w9, rfl⟩ : ∃ x, x = wc := ⟨_, rfl⟩
                        obtain ⟨o, ho⟩ : ∃ o, T3[d]? = some o := ⟨_, List.getElem?_eq_getElem hdl⟩
                        obtain ⟨g, rfl, hcell, hfree, -⟩ := hmem.cell ho
                        have x0 := hmem.hat.c0 HXA.out
                        rw [HD.out] at x0
                        obtain ⟨L, hL⟩ : ∃ L, T3.length = L := ⟨_, rfl⟩
                        rw [hL] at hdl ⊢
                        have HL := Lib.hid hL
                        have HM3 := Lib.hid hmem
                        have HL3 := Lib.hid hlog
                        have HCN := Lib.hid hcn
                        have HO := Lib.hid ho
                        have hmD : m' ∈ D' := hlog.2.2.2
                        have HMA' := Lib.hid (HDA.out m' hmD)
                        have HQ2 : Hid (s2.pr = q) := Lib.hid hlog.2.1
                        have HSX : Hid (Sm (q x2)) := Lib.hid (hsm3'.out x2 hlog.dgx.1)
                        have HSM2 : Hid (Sm (q m')) := Lib.hid (hsm3'.out m' hmD)
                        have hdl1 : (d : Int) < (L : Int) := by omega
                        have hd0 : (0 : Int) ≤ (d : Int) := by omega
                        clear hL hmem hlog hcn ho hmD
                        cases o with
                        | none =>
                          -- [[H
                          have hcell : w9.cell? ⟨g, d, none⟩ = some (.pointer none) := hcell
                          go_upto_region 50 with fail
                          have hmem5 := HM3.out.tset (d := d) (some x2)
                          obtain ⟨we, hwe⟩ : ∃ we, we = w9.setCell ⟨g, d, none⟩ (.pointer (some ⟨x2, 0, none⟩)) := ⟨_, rfl⟩
                          rw [show w9.setCell ⟨g, d, none⟩ (pt (some x2)) = we from hwe.symm] at hmem5
                          rw [← hwe]
                          clear hcell hfree x0 hwe
                          have x6 := hmem5.hat.c6 HXA.out
                          have m6 := hmem5.hat.c6 HMA'.out
                          have h0 := hmem5.hk.cell 0 rfl
                          have hf0 := hmem5.hk.free 0
                          rw [HQ2.out] at x6 m6
                          have hlog5 := HL3.out.place (by rw [HL.out, HD.out]; exact hdl)
                          rw [HD.out] at hlog5
                          have hlt := fl_lt HSX.out HSM2.out
                          have heq := fl_eq HSX.out HSM2.out
                          obtain ⟨F1, hF1⟩ : ∃ F1, fl (q x2) = F1 := ⟨_, rfl⟩
                          obtain ⟨F2, hF2⟩ : ∃ F2, fl (q m') = F2 := ⟨_, rfl⟩
                          rw [hF1] at x6 hlt heq
                          rw [hF2] at m6 hlt heq
                          clear hF1 hF2
                          by_cases hle : q x2 ≤ q m'
                          · rw [if_pos hle] at hlog5
                            have HL5 := Lib.hid hlog5
                            have HM5 := Lib.hid hmem5
                            have hleq : (FloatKind.f64.format.order F1 F2 == some .lt || FloatKind.f64.format.order F1 F2 == some .eq) = true := by
                              rw [hlt, heq, Bool.or_eq_true, decide_eq_true_eq, decide_eq_true_eq]; omega
                            clear hlog5 hmem5 hlt heq hle
                            go_quiet (fail)
                            go_wp2_with fail
                            go_roundg (kk3 - 1)
                            case measure => omega
                            case rel => exact ⟨i + 1, s2, T3.set d (some x2), x2, tc3, some ⟨g, 0, none⟩, by omega, by rw [List.length_set, HL.out], rfl, HL5.out, (HM5.out.drewN _).hset x2⟩
                          · rw [if_neg hle] at hlog5
                            have HL5 := Lib.hid hlog5
                            have HM5 := Lib.hid hmem5
                            have hleq : (FloatKind.f64.format.order F1 F2 == some .lt || FloatKind.f64.format.order F1 F2 == some .eq) = false := by
                              rw [hlt, heq, Bool.or_eq_false_iff, decide_eq_false_iff_not, decide_eq_false_iff_not]; omega
                            clear hlog5 hmem5 hlt heq hle
                            go_quiet (fail)
                            go_wp2_with fail
                            go_roundg (kk3 - 1)
                            case measure => omega
                            case rel => exact ⟨i + 1, s2, T3.set d (some x2), m', tc3, some ⟨g, 0, none⟩, by omega, by rw [List.length_set, HL.out], rfl, HL5.out, HM5.out.drewN _⟩
                          -- H]]
                        | some o =>
                          have hcell2 : w9.cell? ⟨g, d, none⟩ = some (.pointer (some ⟨o, 0, none⟩)) := hcell
                          clear hcell
                          obtain ⟨t, y, ht, hy, hoD, hj, hlog5, hcnt⟩ := HL3.out.join (by rw [HD.out]; exact HO.out)
                          rw [HD.out] at hlog5 hcnt
                          have HL5 := Lib.hid hlog5
                          have HT := Lib.hid ht
                          have HY := Lib.hid hy
                          have HJ := Lib.hid hj
                          have HCT : Hid (cnt (T3.set d none) + 1 = cnt T2) := Lib.hid (by rw [hcnt]; exact HCN.out)
                          have HOA : Hid (o ∈ A) := Lib.hid (HDA.out o hoD)
                          have HSO : Hid (Sm (q o)) := Lib.hid (hsm3'.out o hoD)
                          clear ht hy hoD hj hlog5 hcnt
                          go_upto_region 36 with fail
                          have hmem6 := HM3.out.tset (d := d) none
                          obtain ⟨we, hwe⟩ : ∃ we, we = w9.setCell ⟨g, d, none⟩ (.pointer none) := ⟨_, rfl⟩
                          rw [show w9.setCell ⟨g, d, none⟩ (pt none) = we from hwe.symm] at hmem6
                          rw [← hwe]
                          clear hcell2 hfree x0 hwe
                          have HM6 := Lib.hid hmem6
                          go_cut [205] from 197 to 205 (fun s205 wx => s205 = .bool (decide (q o < q x2)) ∧ CoMem wp hq B A N (.slice (some ⟨gv, 0, none⟩) n3 cv) Lr s2 (T3.set d none) m' (some ⟨g, 0, none⟩) tc3 wx)
                          case first =>
                            have x6 := hmem6.hat.c6 HXA.out
                            have o6 := hmem6.hat.c6 HOA.out
                            rw [HQ2.out] at x6 o6
                            have hlt := fl_lt HSO.out HSX.out
                            obtain ⟨F1, hF1⟩ : ∃ F1, fl (q o) = F1 := ⟨_, rfl⟩
                            obtain ⟨F2, hF2⟩ : ∃ F2, fl (q x2) = F2 := ⟨_, rfl⟩
                            rw [hF1] at o6 hlt
                            rw [hF2] at x6 hlt
                            obtain ⟨B1, hB1⟩ : ∃ B1, decide (q o < q x2) = B1 := ⟨_, rfl⟩
                            have HB1 := Lib.hid hB1
                            rw [hB1] at hlt
                            clear hF1 hF2 hmem6 hB1
                            go_quiet (fail)
                            go_wp2_with fail
                            go_meet
                            exact ⟨by rw [HB1.out], HM6.out.drewN _⟩
                          case rest =>
                            obtain ⟨rfl, hmem7⟩ := hcut
                            obtain ⟨wf, rfl⟩ : ∃ x, x = wc := ⟨_, rfl⟩
                            have HM7 := Lib.hid hmem7
                            clear hmem6 hmem7
                            go_upto_if 205 with fail
                            go_cut [13, 14] from 205 to 209 (fun s13 s14 wx => s13 = .pointer (some ⟨t, 0, none⟩) ∧ s14 = .pointer (some ⟨y, 0, none⟩) ∧ wx = wf)
                            case first =>
                              by_cases hlt : q o < q x2
                              · have hB1 : decide (q o < q x2) = true := by simpa using hlt
                                rw [hB1]
                                have et : t = o := by rw [HT.out, if_pos hlt]
                                have ey : y = x2 := by rw [HY.out, if_pos hlt]
                                have ET := Lib.hid et
                                have EY := Lib.hid ey
                                clear hlt hB1 et ey
                                go_wp2_with fail
                                go_meet
                                exact ⟨by rw [ET.out], by rw [EY.out], rfl⟩
                              · have hB1 : decide (q o < q x2) = false := by simpa using hlt
                                rw [hB1]
                                have et : t = x2 := by rw [HT.out, if_neg hlt]
                                have ey : y = o := by rw [HY.out, if_neg hlt]
                                have ET := Lib.hid et
                                have EY := Lib.hid ey
                                clear hlt hB1 et ey
                                go_wp2_with fail
                                go_meet
                                exact ⟨by rw [ET.out], by rw [EY.out], rfl⟩
                            case rest =>
                              obtain ⟨rfl, rfl, rfl⟩ := hcut
                              have hne := HJ.out.ne
                              have hyA := HDA.out y HJ.out.yD
                              have htA := HDA.out t HJ.out.tD
                              have hnA := HDA.out _ HJ.out.nD
                              have hpA := HDA.out _ HJ.out.pD
                              have hny := HJ.out.ny
                              have hpy := HJ.out.py
                              have HYA := Lib.hid hyA
                              have HTA := Lib.hid htA
                              have HS12 : Hid (setN (setP (setN (setP s2 (s2.nx y) (s2.pv y)) (s2.pv y) (s2.nx y)) y y) y y = solo (out s2 y) y) := Lib.hid (link_stores s2 t y hny hpy)
                              have y2 := HM7.out.hat.c2 hyA
                              have y3 := HM7.out.hat.c3 hyA
                              have HM8 := Lib.hid (HM7.out.sP hnA (s2.pv y))
                              have HM9 := Lib.hid ((HM7.out.sP hnA (s2.pv y)).sN hpA (s2.nx y))
                              have fn := (HM7.out.hat _ hnA).free 3
                              have hnx9 : ((setN (setP s2 (s2.nx y) (s2.pv y)) (s2.pv y) (s2.nx y)).nx y) = s2.nx y := upd_ne _ _ (fun e => hpy e.symm)
                              have hpv8 : ((setP s2 (s2.nx y) (s2.pv y)).pv y) = s2.pv y := upd_ne _ _ (fun e => hny e.symm)
                              have z2 := HM8.out.hat.c2 hyA
                              have z3 := HM8.out.hat.c3 hyA
                              rw [hpv8] at z3
                              have hz2 : (setP s2 (s2.nx y) (s2.pv y)).nx y = s2.nx y := rfl
                              rw [hz2] at z2
                              have fp := (HM8.out.hat _ hpA).free 2
                              obtain ⟨vn, hvn⟩ : ∃ v, s2.pv (s2.nx y) = v := ⟨_, rfl⟩
                              have nc := HM7.out.hat.c3 hnA
                              rw [hvn] at nc
                              obtain ⟨vp, hvp⟩ : ∃ v, (setP s2 (s2.nx y) (s2.pv y)).nx (s2.pv y) = v := ⟨_, rfl⟩
                              have pc := HM8.out.hat.c2 hpA
                              rw [hvp] at pc
                              clear hvn hvp
                              have HN8 := Lib.hid hnA
                              have HP8 := Lib.hid hpA
                              obtain ⟨n, hn0⟩ : ∃ n, s2.nx y = n := ⟨_, rfl⟩
                              obtain ⟨p, hp0⟩ : ∃ p, s2.pv y = p := ⟨_, rfl⟩
                              rw [hn0, hp0] at HM8 HM9 HS12 z2 z3
                              rw [hp0] at HP8
                              rw [hn0] at y2 fn hny
                              rw [hp0] at y3 hpy
                              rw [hn0, hp0] at fp pc
                              rw [hn0] at nc
                              clear hyA htA hnA hpA hnx9 hpv8 hz2 hn0 hp0 HN8
                              go_upto_region 41 with fail
                              have HZ2 := Lib.hid z2
                              have HZ3 := Lib.hid z3
                              have HFP := Lib.hid fp
                              have HPC := Lib.hid pc
                              clear z2 z3 fp pc
                              go_big_region
                              go_upto_region 42 with fail
                              obtain ⟨wg, hwg⟩ : ∃ wg, wg = (wc.setCell ⟨n, 3, none⟩ (.pointer (some ⟨p, 0, none⟩))).drew := ⟨_, rfl⟩
                              have z2 : wg.cell? ⟨y, 2, none⟩ = some (.pointer (some ⟨n, 0, none⟩)) := by rw [hwg]; exact HZ2.out
                              have z3 : wg.cell? ⟨y, 3, none⟩ = some (.pointer (some ⟨p, 0, none⟩)) := by rw [hwg]; exact HZ3.out
                              have fp : wg.frozen? ⟨p, 2, none⟩ = false := by rw [hwg]; exact HFP.out
                              have pc : wg.cell? ⟨p, 2, none⟩ = some (.pointer (some ⟨vp, 0, none⟩)) := by rw [hwg]; exact HPC.out
                              have HM10 : Hid (CoMem wp hq B A N (.slice (some ⟨gv, 0, none⟩) n3 cv) Lr (setN (setP s2 n p) p n) (T3.set d none) m' (some ⟨g, 0, none⟩) tc3 (wg.setCell ⟨p, 2, none⟩ (.pointer (some ⟨n, 0, none⟩))).drew) := Lib.hid (by rw [hwg]; exact (HM8.out.drew.sN HP8.out n).drew)
                              rw [← hwg]
                              clear hwg y2 y3 fn nc HZ2 HZ3 HFP HPC HM8 HM9 HP8
                              go_big_region
                              go_upto_region 43 with fail
                              obtain ⟨wi, hwi⟩ : ∃ wi, wi = (wg.setCell ⟨p, 2, none⟩ (.pointer (some ⟨n, 0, none⟩))).drew := ⟨_, rfl⟩
                              rw [← hwi] at HM10 ⊢
                              have y2 := (HM10.out.hat y HYA.out).free 2
                              have y3 := (HM10.out.hat y HYA.out).free 3
                              obtain ⟨v2, yc2⟩ : ∃ v, wi.cell? ⟨y, 2, none⟩ = some (.pointer (some ⟨v, 0, none⟩)) := ⟨_, HM10.out.hat.c2 HYA.out⟩
                              obtain ⟨v3, yc3⟩ : ∃ v, wi.cell? ⟨y, 3, none⟩ = some (.pointer (some ⟨v, 0, none⟩)) := ⟨_, HM10.out.hat.c3 HYA.out⟩
                              have HM11 := Lib.hid ((HM10.out.sP HYA.out y).sN HYA.out y)
                              rw [HS12.out] at HM11
                              clear hwi z2 z3 fp pc HM10
                              go_upto_region 45 with fail
                              obtain ⟨wj, hwj⟩ : ∃ wj, wj = (wi.setCell ⟨y, 3, none⟩ (.pointer (some ⟨y, 0, none⟩))).setCell ⟨y, 2, none⟩ (.pointer (some ⟨y, 0, none⟩)) := ⟨_, rfl⟩
                              rw [← hwj] at HM11 ⊢
                              clear hwj y2 y3 yc2 yc3
                              have hs5y : (solo (out s2 y) y).nx y = y := upd_same _ _ _
                              have hs5c : (solo (out s2 y) y).ch t = s2.ch t := rfl
                              have hs5d : (solo (out s2 y) y).dg t = s2.dg t := rfl
                              have hs5p : (solo (out s2 y) y).pr = s2.pr := rfl
                              have hjc := HJ.out.ch
                              have hjd := HJ.out.dg
                              rw [HDL.out] at hjd
                              obtain ⟨s5, hs5⟩ : ∃ s5, solo (out s2 y) y = s5 := ⟨_, rfl⟩
                              rw [hs5] at HM11 HL5 hs5y hs5c hs5d hs5p hjc
                              rw [← hs5c] at hjc
                              rw [← hs5d] at hjd
                              rw [HQ2.out] at hs5p
                              have t4 := HM11.out.hat.c4 HTA.out
                              have t0 := HM11.out.hat.c0 HTA.out
                              have ft0 := (HM11.out.hat t HTA.out).free 0
                              have ft4 := (HM11.out.hat t HTA.out).free 4
                              obtain ⟨v5, y5⟩ : ∃ v, wj.cell? ⟨y, 5, none⟩ = some v := ⟨_, HM11.out.hat.c5 HYA.out⟩
                              obtain ⟨v1, y1⟩ : ∃ v, wj.cell? ⟨y, 1, none⟩ = some v := ⟨_, HM11.out.hat.c1 HYA.out⟩
                              have fy5 := (HM11.out.hat y HYA.out).free 5
                              have fy1 := (HM11.out.hat y HYA.out).free 1
                              have hyt : ¬ y = t := fun e => hne e.symm
                              have hk4 : 0 < kk4 := by have := HCT.out; have := HC2.out; omega
                              obtain ⟨dt, hdt⟩ : ∃ dt, s5.dg t = dt := ⟨_, rfl⟩
                              rw [hdt] at t0 hjd
                              have HDT := Lib.hid hdt
                              have hwr : IntKind.i64.wrap ((dt : Int) + 1) = ((dt + 1 : Nat) : Int) := by simp only [IntKind.wrap, IntKind.signed, IntKind.bits]; simp; omega
                              clear hs5 hs5c hs5d hdt
                              cases hc : s5.ch t with
                              | none =>
                                rw [hc] at t4
                                have t4' : wj.cell? ⟨t, 4, none⟩ = some (.pointer none) := t4
                                have HM12 := (((HM11.out.sC HTA.out (some y)).sA HYA.out (some t)).sM HYA.out false).sD HTA.out (dt + 1)
                                rw [← HDT.out, link_none hc hne, HDT.out, show ((dt + 1 : Nat) : Int) = (dt : Int) + 1 from rfl] at HM12
                                have HM13 := Lib.hid HM12
                                clear t4 hjc HM12 hs5y hs5p hc
                                go_wp2_with fail
                                refine (mergefirst_any y wj).mono ?_
                                rintro e wk ⟨rfl, rfl⟩
                                go_wp2_with fail
                                go_roundg (kk4 - 1)
                                case measure => omega
                                case rel => exact ⟨linkS s5 t y, T3.set d none, t, tc3, some ⟨g, 0, none⟩, by rw [List.length_set, HL.out], rfl, HL5.out, HM13.out, by have := HCT.out; have := HC2.out; omega⟩
                              | some c =>
                                rw [hc] at t4
                                have t4' : wj.cell? ⟨t, 4, none⟩ = some (.pointer (some ⟨c, 0, none⟩)) := t4
                                rcases hjc with hjc | ⟨c', hc', cD, cy, nD, nne⟩
                                · rw [hc] at hjc; cases hjc
                                have ecc : c' = c := by rw [hc] at hc'; injection hc' with e; exact e.symm
                                subst ecc
                                have hyD := HJ.out.yD
                                have HMG := Lib.hid (mergelists_any s5 A c' y wj HM11.out.hat (HDA.out _ cD) HYA.out cy (HDA.out _ nD) (by rw [hs5y]; exact HYA.out) (by rw [hs5y]; exact nne) (by rw [hs5p]; exact hsm3'.out c' cD) (by rw [hs5p]; exact hsm3'.out y hyD))
                                have HCC := Lib.hid hc
                                clear t4 hc hc' cD cy nD nne hs5y hs5p hyD ft0 ft4 fy5 fy1 y1 y5 t0
                                go_wp2_with fail
                                refine HMG.out.mono ?_
                                rintro e wk ⟨rfl, hatk, hfk⟩
                                have HM12 := HM11.out.call hatk hfk
                                obtain ⟨mm, hmm⟩ : ∃ mm, lesser s5 c' y = mm := ⟨_, rfl⟩
                                have t0 := HM12.hat.c0 HTA.out
                                have ft0 := (HM12.hat t HTA.out).free 0
                                have ft4 := (HM12.hat t HTA.out).free 4
                                obtain ⟨v4, t4⟩ : ∃ v, wk.cell? ⟨t, 4, none⟩ = some v := ⟨_, HM12.hat.c4 HTA.out⟩
                                obtain ⟨v5, y5⟩ : ∃ v, wk.cell? ⟨y, 5, none⟩ = some v := ⟨_, HM12.hat.c5 HYA.out⟩
                                obtain ⟨v1, y1⟩ : ∃ v, wk.cell? ⟨y, 1, none⟩ = some v := ⟨_, HM12.hat.c1 HYA.out⟩
                                have fy5 := (HM12.hat y HYA.out).free 5
                                have fy1 := (HM12.hat y HYA.out).free 1
                                rw [show (merge s5 c' y).dg t = dt from HDT.out] at t0
                                have HM13 := (((HM12.sC HTA.out (some mm)).sA HYA.out (some t)).sM HYA.out false).sD HTA.out (dt + 1)
                                rw [← HDT.out, ← hmm, link_some HCC.out, hmm, HDT.out, show ((dt + 1 : Nat) : Int) = (dt : Int) + 1 from rfl] at HM13
                                rw [hmm]
                                have HM14 := Lib.hid HM13
                                clear hatk hfk HM12 HM13 hmm t4'
                                go_wp2_with fail
                                go_roundg (kk4 - 1)
                                case measure => omega
                                case rel => exact ⟨linkS s5 t y, T3.set d none, t, tc3, some ⟨g, 0, none⟩, by rw [List.length_set, HL.out], rfl, HL5.out, HM14.out, by have := HCT.out; have := HC2.out; omega⟩
                  · have hin : i = n3 := by omega
                    clear hmem hlog
                    go_wp2_with fail
                    go_ret2
                    obtain ⟨⟨Re, hcon⟩, hpe, -, -⟩ := HLOGr.out
                    rw [List.drop_eq_nil_of_le (by rw [HN33.out, hin]; exact Nat.le_refl _)] at hcon
                    have he := con_end hcon
                    obtain ⟨Ke, Pe, q1, q2, q3⟩ := hcon.iv
                    refine ⟨s', Re, some m', rfl, ?_, hpe.trans (HQ.out.symm.trans HP3.out), HF3.out.trans HMEMr.out.fr⟩
                    rw [HDD.out]
                    exact ⟨HMEMr.out.hat, HDA.out, ⟨⟨Ke, Pe, q1, q2, q3⟩, HND3.out, fun b hb => by rw [hpe]; exact hsm3'.out b hb⟩, he, by rw [HDL.out]; exact HMEMr.out.hk⟩
end Go.Proofs.Ytmhackiiiehlmaa
