/- fibheap: cutNode, which calls itself. -/
import Derived.Test.YtmhackiiiehlmaaFhCo
import Derived.Test.YtmhackiiiehlmaaFhPtr
import Derived.BigRegion
namespace Go.Proofs.Ytmhackiiiehlmaa
set_option linter.unusedVariables false
open Go.RowKit Fh

/-- what cutNode does -/
def CutPost (hq : Nat) (A D : List Nat) (N : Nat) (s : St) (P : Nat → Option Nat) (E : List Nat) (x : Nat) (w : World) (e : Ending) (w' : World) : Prop :=
  ∃ (s' : St) (R' : List Nat) (K' : Nat → List Nat) (P' : Nat → Option Nat) (m' : Nat), e = .returned (.tuple #[]) ∧ HpAt w' s' A ∧ Fh.Inv s' D R' [] K' P' ∧ Agr s' P' D E ∧ (∀ y b, P' y = some b → P y = some b) ∧ P' x = none ∧ s'.pr = s.pr ∧ Least s' R' (some m') ∧
    Blk w' hq 44 #[.pointer (some ⟨m', 0, none⟩), .int .u64 (N : Int)] ∧ Fr (hq :: A) (hq :: A) w w'
/-- what it wants -/
structure CutPre (r : Nat → Nat) (hq : Nat) (A D : List Nat) (N : Nat) (s : St) (R : List Nat) (K : Nat → List Nat) (P : Nat → Option Nat) (E : List Nat) (x m : Nat) (w : World) : Prop where
  hat : HpAt w s A
  sub : ∀ b ∈ D, b ∈ A
  iv : Fh.Inv s D R [] K P
  ag : Agr s P D E
  rk : ∀ y ∈ D, ∀ b, P y = some b → r y < r b
  er : ∀ e ∈ E, r e < r x
  xD : x ∈ D
  le : Least s R (some m)
  sm : ∀ b ∈ D, Sm (s.pr b)
  hn : D.length ≤ 1000
  nd : D.Nodup
  hk : Blk w hq 44 #[.pointer (some ⟨m, 0, none⟩), .int .u64 (N : Int)]
  hh : hq ∉ A
/-- the store without a mark -/
theorem inv_ma {s : St} {D R Q : List Nat} {K : Nat → List Nat} {P : Nat → Option Nat} (h : Fh.Inv s D R Q K P) (x : Nat) (v : Bool) : Fh.Inv (setM s x v) D R Q K P := ⟨h.rn, h.qn, h.kn, h.ch, h.dg, h.mR, h.mK, h.dm, h.rd, h.kd, h.rk⟩
theorem inv_pa {s : St} {D R Q : List Nat} {K : Nat → List Nat} {P : Nat → Option Nat} (h : Fh.Inv s D R Q K P) (x : Nat) (v : Option Nat) : Fh.Inv (setA s x v) D R Q K P := ⟨h.rn, h.qn, h.kn, h.ch, h.dg, h.mR, h.mK, h.dm, h.rd, h.kd, h.rk⟩
theorem least_pr {s s' : St} {R : List Nat} {m : Nat} (h : Least s R (some m)) (e : s'.pr = s.pr) : Least s' R (some m) := ⟨h.1, fun z hz => by rw [e]; exact h.2 z hz⟩
theorem hp_hq {w : World} {s : St} {A : List Nat} (h : HpAt w s A) {hq : Nat} (hh : hq ∉ A) (i : Nat) (v : Value) : HpAt (w.setCell ⟨hq, i, none⟩ v) s A := fun b hb => (h b hb).other (a := ⟨hq, i, none⟩) (fun e => hh (by have : b = hq := e; exact this ▸ hb)) v
theorem hk_node {w : World} {hq b : Nat} {A : List Nat} {cs : Array Value} {t : TypeId} (h : Blk w hq t cs) (hh : hq ∉ A) (hb : b ∈ A) (i : Nat) (v : Value) : Blk (w.setCell ⟨b, i, none⟩ v) hq t cs := h.other (a := ⟨b, i, none⟩) (fun e => hh (by have : hq = b := e; exact this ▸ hb)) v
theorem fr_node {w0 w : World} {hq b : Nat} {A : List Nat} (h : Fr (hq :: A) (hq :: A) w0 w) (hb : b ∈ A) (i : Nat) (v : Value) : Fr (hq :: A) (hq :: A) w0 (w.setCell ⟨b, i, none⟩ v) := h.trans (Fr.store _ (F := hq :: A) (a := ⟨b, i, none⟩) (List.mem_cons_of_mem _ hb) v)
theorem fr_hq {w0 w : World} {hq : Nat} {A : List Nat} (h : Fr (hq :: A) (hq :: A) w0 w) (i : Nat) (v : Value) : Fr (hq :: A) (hq :: A) w0 (w.setCell ⟨hq, i, none⟩ v) := h.trans (Fr.store _ (F := hq :: A) (a := ⟨hq, i, none⟩) (by simp) v)
/-- what is known of a node that has a parent -/
structure Cuts (A : List Nat) (s : St) (x t : Nat) : Prop where
  ne : x ≠ t
  tA : t ∈ A
  nA : s.nx x ∈ A
  pA : s.pv x ∈ A
  ny : s.nx x = x → s.pv x = x
  py : s.nx x ≠ x → s.pv x ≠ x
  nt : s.nx x ≠ t
  pt' : s.pv x ≠ t
  ch : ∃ c, s.ch t = some c ∧ c ∈ A
  dg : 0 < s.dg t ∧ s.dg t ≤ 1000
theorem CutPre.cuts {r : Nat → Nat} {hq : Nat} {A D : List Nat} {N : Nat} {s : St} {R : List Nat} {K : Nat → List Nat} {P : Nat → Option Nat} {E : List Nat} {x m : Nat} {w : World} (h : CutPre r hq A D N s R K P E x m w) {t : Nat} (hp : P x = some t) : Cuts A s x t := by
  have hi := h.iv
  obtain ⟨q1, q2, q3⟩ := hi.child_alone h.xD hp
  have htD := hi.dm x h.xD t hp
  have hr := h.rk x h.xD t hp
  have hxt : x ≠ t := fun e => by rw [e] at hr; omega
  have hK := hi.mK t htD
  have hxK := (hK x).2 ⟨h.xD, hp⟩
  have hnt : ∀ z ∈ K t, z ≠ t := fun z hz e => by
    have := (hK z).1 hz
    rw [e] at this
    have := h.rk t htD t this.2
    omega
  refine ⟨hxt, h.sub t htD, h.sub _ ((hK _).1 q2).1, h.sub _ ((hK _).1 q3).1, q1, fun e e2 => e ?_, hnt _ q2, hnt _ q3, ?_, ?_⟩
  · obtain ⟨k1, k2, hk⟩ := List.append_of_mem hxK
    have hturn : Ring s.nx s.pv (x :: (k2 ++ k1)) := by
      have := hi.kn t htD
      rw [hk] at this
      exact ring_turn this
    have hnd : (x :: (k2 ++ k1)).Nodup := by
      have := hi.kd t htD
      rw [hk] at this
      exact (List.Perm.nodup_iff (List.perm_append_comm (l₁ := k1) (l₂ := x :: k2))).1 this
    cases hl : k2 ++ k1 with
    | nil => rw [hl] at hturn; exact hturn.1
    | cons y l =>
      rw [hl] at hturn hnd
      have := (out_ring hturn hnd).2.2
      rw [e2] at this
      exact absurd this (List.nodup_cons.1 hnd).1
  · rw [hi.ch t htD]
    cases hk : K t with
    | nil => rw [hk] at hxK; cases hxK
    | cons c l => exact ⟨c, rfl, h.sub c ((hK c).1 (by rw [hk]; simp)).1⟩
  · rw [hi.dg t htD]
    refine ⟨List.length_pos_of_mem hxK, Nat.le_trans ?_ h.hn⟩
    exact nodup_le (hi.kd t htD) (fun z hz => ((hK z).1 hz).1)
theorem least_mem {s : St} {D R : List Nat} {K : Nat → List Nat} {P : Nat → Option Nat} (h : Fh.Inv s D R [] K P) {m : Nat} (hl : Least s R (some m)) : m ∈ D ∧ P m = none := (h.mR m).1 (by rw [List.append_nil]; exact hl.1)

/-- the nodes, the heap's own block, the frame -/
structure Cw (hq : Nat) (A : List Nat) (N m : Nat) (w0 : World) (s : St) (w : World) : Prop where
  hat : HpAt w s A
  hk : Blk w hq 44 #[.pointer (some ⟨m, 0, none⟩), .int .u64 (N : Int)]
  fr : Fr (hq :: A) (hq :: A) w0 w
  hh : hq ∉ A
section
variable {hq : Nat} {A : List Nat} {N m : Nat} {w0 w : World} {s : St}
theorem Cw.store (h : Cw hq A N m w0 s w) {b i : Nat} {v : Value} {s' : St} (hb : b ∈ A) (hs : HpAt (w.setCell ⟨b, i, none⟩ v) s' A) : Cw hq A N m w0 s' (w.setCell ⟨b, i, none⟩ v) := ⟨hs, hk_node h.hk h.hh hb i v, fr_node h.fr hb i v, h.hh⟩
theorem Cw.sN (h : Cw hq A N m w0 s w) {b : Nat} (hb : b ∈ A) (v : Nat) : Cw hq A N m w0 (setN s b v) (w.setCell ⟨b, 2, none⟩ (.pointer (some ⟨v, 0, none⟩))) := h.store hb (h.hat.sN hb v)
theorem Cw.sP (h : Cw hq A N m w0 s w) {b : Nat} (hb : b ∈ A) (v : Nat) : Cw hq A N m w0 (setP s b v) (w.setCell ⟨b, 3, none⟩ (.pointer (some ⟨v, 0, none⟩))) := h.store hb (h.hat.sP hb v)
theorem Cw.sC (h : Cw hq A N m w0 s w) {b : Nat} (hb : b ∈ A) (v : Option Nat) : Cw hq A N m w0 (setC s b v) (w.setCell ⟨b, 4, none⟩ (pt v)) := h.store hb (h.hat.sC hb v)
theorem Cw.sA (h : Cw hq A N m w0 s w) {b : Nat} (hb : b ∈ A) (v : Option Nat) : Cw hq A N m w0 (setA s b v) (w.setCell ⟨b, 5, none⟩ (pt v)) := h.store hb (h.hat.sA hb v)
theorem Cw.sD (h : Cw hq A N m w0 s w) {b : Nat} (hb : b ∈ A) (v : Nat) : Cw hq A N m w0 (setD s b v) (w.setCell ⟨b, 0, none⟩ (.int .i64 (v : Int))) := h.store hb (h.hat.sD hb v)
theorem Cw.sM (h : Cw hq A N m w0 s w) {b : Nat} (hb : b ∈ A) (v : Bool) : Cw hq A N m w0 (setM s b v) (w.setCell ⟨b, 1, none⟩ (.bool v)) := h.store hb (h.hat.sM hb v)
theorem Cw.drew (h : Cw hq A N m w0 s w) : Cw hq A N m w0 s w.drew := ⟨h.hat, h.hk, h.fr.drew, h.hh⟩
theorem Cw.drewN (h : Cw hq A N m w0 s w) (n : Nat) : Cw hq A N m w0 s (w.drewN n) := ⟨h.hat, h.hk, h.fr.drewN n, h.hh⟩
theorem Cw.sH (h : Cw hq A N m w0 s w) (v : Nat) : Cw hq A N v w0 s (w.setCell ⟨hq, 0, none⟩ (.pointer (some ⟨v, 0, none⟩))) := ⟨hp_hq h.hat h.hh 0 _, h.hk.set 0 (.pointer (some ⟨v, 0, none⟩)), fr_hq h.fr 0 _, h.hh⟩
theorem Cw.call (h : Cw hq A N m w0 s w) {s' : St} {w' : World} (hs : HpAt w' s' A) (hf : Fr A A w w') : Cw hq A N m w0 s' w' :=
  ⟨hs, hf.blk h.hk h.hh, h.fr.trans (hf.weaken (fun k hk => List.mem_cons_of_mem _ hk) (fun k hk => by
    rcases List.mem_cons.1 hk with rfl | hk
    · exact .inr (by simp)
    · exact .inl hk)), h.hh⟩
end
theorem upd_self {α : Type} (f : Nat → α) (a : Nat) : upd f a (f a) = f := by
  funext x
  unfold upd
  split
  · rename_i e; rw [e]
  · rfl
theorem setC_self {s : St} {t : Nat} {v : Option Nat} (h : s.ch t = v) : setC s t v = s := by
  unfold setC; rw [← h, upd_self]
theorem out_nx (s : St) (x : Nat) : (out s x).nx x = s.nx x := by
  unfold out outN upd
  simp only
  split <;> rfl
/-- x cut, store by store -/
theorem cut_stores {s : St} {x t c : Nat} (hc : s.ch t = some c) (hxt : x ≠ t) :
    setN (setP (setD (setC (out (setM s x false) x) t (if c = x then (if s.nx x = x then none else some (s.nx x)) else some c)) t (s.dg t - 1)) x x) x x = cutS s x t := by
  unfold cutS
  rw [hc]
  simp only [Option.some.injEq]
  rfl
set_option maxRecDepth 100000 in
set_option maxHeartbeats 4000000 in
theorem cutnode_any (r : Nat → Nat) (hq : Nat) (A D : List Nat) (N M : Nat) (hM : ∀ y ∈ D, r y ≤ M) : ∀ (n : Nat) (s : St) (R : List Nat) (K : Nat → List Nat) (P : Nat → Option Nat) (E : List Nat) (x m : Nat) (w : World), M - r x < n → CutPre r hq A D N s R K P E x m w →
    Calls Try.prog 48 #[.pointer (some ⟨hq, 0, none⟩), .pointer (some ⟨x, 0, none⟩)] w (CutPost hq A D N s P E x w) := by
  intro n
  induction n with
  | zero => intro s R K P E x m w hn; omega
  | succ n ih =>
    intro s R K P E x m w hn h
    have HPRE := Lib.hid h
    have HNN := Lib.hid hn
    have HSUB := Lib.hid h.sub
    have HIH := Lib.hid ih
    have HMM := Lib.hid hM
    have hxA := h.sub x h.xD
    have HXA := Lib.hid hxA
    have HHA := Lib.hid h.hh
    have hxE : x ∉ E := fun e => Nat.lt_irrefl _ (h.er x e)
    have hpa : s.pa x = P x := h.ag x h.xD hxE
    have hcw : Cw hq A N m w s w := ⟨h.hat, h.hk, Fr.refl _ _, h.hh⟩
    have hcw0 := hcw.sM hxA false
    have HC0 := Lib.hid hcw0
    have x1 := h.hat.c1 hxA
    have x5 := h.hat.c5 hxA
    have fx1 := (h.hat x hxA).free 1
    rw [hpa] at x5
    cases hp : P x with
    | none =>
      rw [hp] at x5
      have x5' : w.cell? ⟨x, 5, none⟩ = some (.pointer none) := x5
      have HFIN : Hid (CutPost hq A D N s P E x w (.returned (.tuple #[])) (w.setCell ⟨x, 1, none⟩ (.bool false))) :=
        Lib.hid ⟨setM s x false, R, K, P, m, rfl, HC0.out.hat, inv_ma h.iv x false, h.ag, fun y b e => e, hp, rfl, h.le, HC0.out.hk, HC0.out.fr⟩
      clear h hpa hp hxE hxA ih x5 hcw hcw0 hM
      go_enter Try.func48, Try.ntmps48
      go_wp2_with fail
      refine bodyPost_ret (results_none rfl _ _ _) rfl ?_
      exact HFIN.out
    | some t =>
      rw [hp] at x5
      have x5' : w.cell? ⟨x, 5, none⟩ = some (.pointer (some ⟨t, 0, none⟩)) := x5
      have hc := h.cuts hp
      have HC := Lib.hid hc
      have HP := Lib.hid hp
      have hxt := hc.ne
      have x2 := h.hat.c2 hxA
      obtain ⟨c, hch, hcA⟩ := hc.ch
      have HCH := Lib.hid hch
      have HCA := Lib.hid hcA
      have HPA := Lib.hid hpa
      clear h hpa hp hxE ih x5 hc hn hch hcA hM
      go_enter Try.func48, Try.ntmps48
      go_upto_region 2 with fail
      obtain ⟨wa, hwa⟩ : ∃ wa, wa = w.setCell ⟨x, 1, none⟩ (.bool false) := ⟨_, rfl⟩
      rw [← hwa] at HC0 hcw0 ⊢
      clear hwa x1 x5' fx1 x2 hcw
      have x2 := hcw0.hat.c2 hxA
      rw [show (setM s x false).nx x = s.nx x from rfl] at x2
      clear hcw0
      go_cut [17] from 12 to 17 (fun s17 wx => s17 = .bool (!decide (s.nx x = x)) ∧ wx = wa)
      case first =>
        by_cases hnx : s.nx x = x
        · have he := neq_same wa ⟨x, 0, none⟩
          have HD : Hid ((!decide (s.nx x = x)) = false) := Lib.hid (by simp [hnx])
          rw [hnx] at x2
          clear hnx
          go_wp2_with fail
          go_meet
          exact ⟨by rw [HD.out], rfl⟩
        · have he := neq_other (HC0.out.hat _ HC.out.nA) (HC0.out.hat x hxA) hnx
          have HD : Hid ((!decide (s.nx x = x)) = true) := Lib.hid (by simp [hnx])
          obtain ⟨y, hy⟩ : ∃ y, s.nx x = y := ⟨_, rfl⟩
          rw [hy] at x2 he
          clear hnx hy
          go_wp2_with fail
          go_meet
          exact ⟨by rw [HD.out], rfl⟩
      case rest =>
        obtain ⟨rfl, hwx⟩ := hcut
        rw [hwx]
        clear hwx
        go_upto_if 17 with fail
        go_cut [1] from 17 to 37 (fun s1 wx => s1 = .pointer (some ⟨x, 0, none⟩) ∧ Cw hq A N m w (out (setM s x false) x) wx)
        case first =>
          by_cases hnx : s.nx x = x
          · have hd : (!decide (s.nx x = x)) = false := by simp [hnx]
            rw [hd]
            have HOS : Hid (out (setM s x false) x = setM s x false) := Lib.hid (out_self hnx (HC.out.ny hnx))
            clear hnx hd x2
            go_wp2_with fail
            go_meet
            exact ⟨rfl, by rw [HOS.out]; exact HC0.out⟩
          · have hd : (!decide (s.nx x = x)) = true := by simp [hnx]
            rw [hd]
            have hnA := HC.out.nA
            have hpA := HC.out.pA
            have hpx := HC.out.py hnx
            have x3 := HC0.out.hat.c3 hxA
            rw [show (setM s x false).pv x = s.pv x from rfl] at x3
            have HOUT : Hid (setN (setP (setM s x false) (s.nx x) (s.pv x)) (s.pv x) (s.nx x) = out (setM s x false) x) := Lib.hid rfl
            have HM8 := Lib.hid (HC0.out.sP hnA (s.pv x))
            have fn := (HC0.out.hat _ hnA).free 3
            obtain ⟨vn, nc⟩ : ∃ v, wa.cell? ⟨s.nx x, 3, none⟩ = some (.pointer (some ⟨v, 0, none⟩)) := ⟨_, HC0.out.hat.c3 hnA⟩
            have hpv8 : (setP (setM s x false) (s.nx x) (s.pv x)).pv x = s.pv x := upd_ne _ _ (fun e => hnx e.symm)
            have z2 := HM8.out.hat.c2 hxA
            have z3 := HM8.out.hat.c3 hxA
            rw [hpv8] at z3
            rw [show (setP (setM s x false) (s.nx x) (s.pv x)).nx x = s.nx x from rfl] at z2
            have fp := (HM8.out.hat _ hpA).free 2
            obtain ⟨vp, hvp⟩ : ∃ v, (setP (setM s x false) (s.nx x) (s.pv x)).nx (s.pv x) = v := ⟨_, rfl⟩
            have pc := HM8.out.hat.c2 hpA
            rw [hvp] at pc
            have HP8 := Lib.hid hpA
            obtain ⟨q, hq0⟩ : ∃ q, s.nx x = q := ⟨_, rfl⟩
            obtain ⟨p, hp0⟩ : ∃ p, s.pv x = p := ⟨_, rfl⟩
            rw [hq0, hp0] at HM8 HOUT z2 z3 fp pc
            rw [hq0] at x2 fn nc hnx
            rw [hp0] at x3 hpx HP8
            have HZ2 := Lib.hid z2
            have HZ3 := Lib.hid z3
            have HFP := Lib.hid fp
            have HPC := Lib.hid pc
            clear hd hvp hpv8 hnA hpA hq0 hp0 z2 z3 fp pc
            go_upto_region 3 with fail
            go_big_region
            go_upto_region 4 with fail
            obtain ⟨wg, hwg⟩ : ∃ wg, wg = (wa.setCell ⟨q, 3, none⟩ (.pointer (some ⟨p, 0, none⟩))).drew := ⟨_, rfl⟩
            have z2 : wg.cell? ⟨x, 2, none⟩ = some (.pointer (some ⟨q, 0, none⟩)) := by rw [hwg]; exact HZ2.out
            have z3 : wg.cell? ⟨x, 3, none⟩ = some (.pointer (some ⟨p, 0, none⟩)) := by rw [hwg]; exact HZ3.out
            have fp : wg.frozen? ⟨p, 2, none⟩ = false := by rw [hwg]; exact HFP.out
            have pc : wg.cell? ⟨p, 2, none⟩ = some (.pointer (some ⟨vp, 0, none⟩)) := by rw [hwg]; exact HPC.out
            have HM10 : Hid (Cw hq A N m w (setN (setP (setM s x false) q p) p q) (wg.setCell ⟨p, 2, none⟩ (.pointer (some ⟨q, 0, none⟩))).drew) := Lib.hid (by rw [hwg]; exact (HM8.out.drew.sN HP8.out q).drew)
            rw [← hwg]
            clear hwg x2 x3 fn nc HZ2 HZ3 HFP HPC HM8 HP8
            go_big_region
            go_wp2_with fail
            go_meet
            exact ⟨rfl, by rw [← HOUT.out]; exact HM10.out⟩
        case rest =>
          obtain ⟨rfl, hcw1⟩ := hcut
          obtain ⟨wd, rfl⟩ : ∃ y, y = wc := ⟨_, rfl⟩
          clear x2
          have HC1 := Lib.hid hcw1
          have x5 := hcw1.hat.c5 hxA
          rw [show (out (setM s x false) x).pa x = s.pa x from rfl, HPA.out, HP.out] at x5
          have x5' : wd.cell? ⟨x, 5, none⟩ = some (.pointer (some ⟨t, 0, none⟩)) := x5
          have t4 := hcw1.hat.c4 HC.out.tA
          rw [show (out (setM s x false) x).ch t = s.ch t from rfl, HCH.out] at t4
          have t4' : wd.cell? ⟨t, 4, none⟩ = some (.pointer (some ⟨c, 0, none⟩)) := t4
          clear x5 t4 hcw1
          go_upto_region 5 with fail
          go_cut [46] from 38 to 46 (fun s46 wx => s46 = .bool (decide (c = x)) ∧ wx = wd)
          case first =>
            by_cases hcx : c = x
            · have he := eql_same wd ⟨x, 0, none⟩
              have HD : Hid ((decide (c = x)) = true) := Lib.hid (by simp [hcx])
              rw [hcx] at t4'
              clear hcx
              go_wp2_with fail
              go_meet
              exact ⟨by rw [HD.out], rfl⟩
            · have he := eql_other (HC1.out.hat _ HCA.out) (HC1.out.hat x hxA) hcx
              have HD : Hid ((decide (c = x)) = false) := Lib.hid (by simp [hcx])
              clear hcx
              go_wp2_with fail
              go_meet
              exact ⟨by rw [HD.out], rfl⟩
          case rest =>
            obtain ⟨rfl, hwx⟩ := hcut
            rw [hwx]
            clear hwx t4' x5'
            go_upto_if 46 with fail
            go_cut [1] from 46 to 68 (fun s1 wx => s1 = .pointer (some ⟨x, 0, none⟩) ∧ Cw hq A N m w (setC (out (setM s x false) x) t (if c = x then (if s.nx x = x then none else some (s.nx x)) else some c)) wx)
            case first =>
              have x2 := HC1.out.hat.c2 hxA
              rw [out_nx, show (setM s x false).nx x = s.nx x from rfl] at x2
              have x5 := HC1.out.hat.c5 hxA
              rw [show (out (setM s x false) x).pa x = s.pa x from rfl, HPA.out, HP.out] at x5
              have x5' : wd.cell? ⟨x, 5, none⟩ = some (.pointer (some ⟨t, 0, none⟩)) := x5
              obtain ⟨vt, t4⟩ : ∃ v, wd.cell? ⟨t, 4, none⟩ = some v := ⟨_, HC1.out.hat.c4 HC.out.tA⟩
              have ft := (HC1.out.hat t HC.out.tA).free 4
              clear x5
              by_cases hcx : c = x
              · have hd : decide (c = x) = true := by simp [hcx]
                rw [hd]
                by_cases hnx : s.nx x = x
                · have he := neq_same wd ⟨x, 0, none⟩
                  have HD : Hid (Cw hq A N m w (setC (out (setM s x false) x) t (if c = x then (if s.nx x = x then none else some (s.nx x)) else some c)) (wd.setCell ⟨t, 4, none⟩ (.pointer none))) := Lib.hid (by
                    rw [if_pos hcx, if_pos hnx]
                    exact HC1.out.sC HC.out.tA none)
                  rw [hnx] at x2
                  clear hnx hcx hd
                  go_wp2_with fail
                  go_meet
                  exact ⟨rfl, HD.out⟩
                · have he := neq_other (HC1.out.hat _ HC.out.nA) (HC1.out.hat x hxA) hnx
                  have HD : Hid (Cw hq A N m w (setC (out (setM s x false) x) t (if c = x then (if s.nx x = x then none else some (s.nx x)) else some c)) (wd.setCell ⟨t, 4, none⟩ (.pointer (some ⟨s.nx x, 0, none⟩)))) := Lib.hid (by
                    rw [if_pos hcx, if_neg hnx]
                    exact HC1.out.sC HC.out.tA (some (s.nx x)))
                  obtain ⟨y, hy⟩ : ∃ y, s.nx x = y := ⟨_, rfl⟩
                  rw [hy] at x2 he HD
                  have HY := Lib.hid hy
                  clear hnx hcx hd hy
                  go_upto_region 7 with fail
                  go_big_region
                  go_wp2_with fail
                  go_meet
                  exact ⟨rfl, by rw [HY.out]; exact HD.out.drew⟩
              · have hd : decide (c = x) = false := by simp [hcx]
                rw [hd]
                have HD : Hid (Cw hq A N m w (setC (out (setM s x false) x) t (if c = x then (if s.nx x = x then none else some (s.nx x)) else some c)) wd) := Lib.hid (by
                  rw [if_neg hcx, setC_self (s := out (setM s x false) x) (t := t) HCH.out]
                  exact HC1.out)
                clear hcx hd
                go_wp2_with fail
                go_meet
                exact ⟨rfl, HD.out⟩
            case rest =>
              obtain ⟨rfl, hcw2⟩ := hcut
              have HCS := Lib.hid (cut_stores (s := s) (x := x) HCH.out hxt)
              obtain ⟨v2, hv2⟩ : ∃ v2, (if c = x then (if s.nx x = x then none else some (s.nx x)) else some c) = v2 := ⟨_, rfl⟩
              rw [hv2] at hcw2 HCS
              clear hv2
              have HC2 := Lib.hid hcw2
              have htA := HC.out.tA
              have x5 := hcw2.hat.c5 hxA
              rw [show (setC (out (setM s x false) x) t v2).pa x = s.pa x from rfl, HPA.out, HP.out] at x5
              have x5' : wc.cell? ⟨x, 5, none⟩ = some (.pointer (some ⟨t, 0, none⟩)) := x5
              have t0 := hcw2.hat.c0 htA
              rw [show (setC (out (setM s x false) x) t v2).dg t = s.dg t from rfl] at t0
              have ft0 := (hcw2.hat t htA).free 0
              have fx3 := (hcw2.hat x hxA).free 3
              have fx2 := (hcw2.hat x hxA).free 2
              obtain ⟨vx3, x3⟩ : ∃ v, wc.cell? ⟨x, 3, none⟩ = some v := ⟨_, hcw2.hat.c3 hxA⟩
              obtain ⟨vx2, x2⟩ : ∃ v, wc.cell? ⟨x, 2, none⟩ = some v := ⟨_, hcw2.hat.c2 hxA⟩
              have HC3 := Lib.hid (((hcw2.sD htA (s.dg t - 1)).sP hxA x).sN hxA x)
              rw [HCS.out] at HC3
              have hdg := HC.out.dg
              obtain ⟨d, hd⟩ : ∃ d, s.dg t = d + 1 := ⟨s.dg t - 1, by omega⟩
              rw [hd] at t0 hdg HC3
              rw [Nat.add_sub_cancel] at HC3
              have hwr : wrap64 (d : Int) = (d : Int) := by unfold wrap64; omega
              have htx : ¬ t = x := fun e => hxt e.symm
              clear x5 hcw2 hd hdg
              go_upto_region 12 with fail
              obtain ⟨wi, hwi⟩ : ∃ wi, wi = (((wc.setCell ⟨t, 0, none⟩ (.int .i64 (d : Int))).setCell ⟨x, 3, none⟩ (.pointer (some ⟨x, 0, none⟩))).setCell ⟨x, 2, none⟩ (.pointer (some ⟨x, 0, none⟩))) := ⟨_, rfl⟩
              rw [← hwi] at HC3 ⊢
              clear hwi x5' t0 ft0 fx3 fx2 x3 x2 hwr HC2 HC1 HC0
              obtain ⟨K2, hi2⟩ := HPRE.out.iv.cutted HPRE.out.xD HP.out
              obtain ⟨R3, K3, hi3, hpm3⟩ := HPRE.out.iv.cutMerge HPRE.out.xD HP.out HPRE.out.le.1
              have hmR := HPRE.out.le.1
              have hnm := nx_mem' hi2.rn hmR
              have hnx1 : (cutS s x t).nx x = x := hi2.qn.1
              have hxR : x ∉ R := fun hm => (List.nodup_append.1 hi2.rd).2.2 x hm x (by simp) rfl
              have hRA : ∀ z ∈ R, z ∈ A := fun z hz => HSUB.out z ((hi2.mR z).1 (List.mem_append_left _ hz)).1
              have hmD := (least_mem HPRE.out.iv HPRE.out.le).1
              have HMG := Lib.hid (mergelists_any (cutS s x t) A m x wi HC3.out.hat (hRA m hmR) hxA (fun e => hxR (e ▸ hmR)) (hRA _ hnm) (by rw [hnx1]; exact hxA) (by rw [hnx1]; exact fun e => hxR (e ▸ hnm)) (HPRE.out.sm m hmD) (HPRE.out.sm x HPRE.out.xD))
              have HL3 : Hid (Least (merge (cutS s x t) m x) R3 (some (lesser (cutS s x t) m x))) := Lib.hid (least_merge (s := cutS s x t) (least_pr HPRE.out.le rfl) hpm3)
              have HI3 := Lib.hid hi3
              have h0 := HC3.out.hk.cell 0 rfl
              clear hi2 hi3 hpm3 hmR hnm hnx1 hxR hRA hmD
              go_wp2_with fail
              refine HMG.out.mono ?_
              rintro e wk ⟨rfl, hatk, hfk⟩
              have hcw4 := HC3.out.call hatk hfk
              obtain ⟨m3, hm3⟩ : ∃ m3, lesser (cutS s x t) m x = m3 := ⟨_, rfl⟩
              rw [hm3] at HL3 ⊢
              have k0 := hcw4.hk.cell 0 rfl
              have kf := hcw4.hk.free 0
              have hcw5 := hcw4.sH m3
              have HC5 := Lib.hid hcw5
              clear hatk hfk hcw4 hm3 h0 HMG
              go_upto_region 13 with fail
              obtain ⟨wl, hwl⟩ : ∃ wl, wl = wk.setCell ⟨hq, 0, none⟩ (.pointer (some ⟨m3, 0, none⟩)) := ⟨_, rfl⟩
              rw [← hwl] at HC5 hcw5 ⊢
              clear hwl k0 kf
              have x5 := hcw5.hat.c5 hxA
              rw [show (merge (cutS s x t) m x).pa x = s.pa x from rfl, HPA.out, HP.out] at x5
              have x5' : wl.cell? ⟨x, 5, none⟩ = some (.pointer (some ⟨t, 0, none⟩)) := x5
              have fx5 := (hcw5.hat x hxA).free 5
              have t1 := hcw5.hat.c1 htA
              have ft1 := (hcw5.hat t htA).free 1
              rw [show (merge (cutS s x t) m x).ma t = s.ma t from upd_ne _ _ htx] at t1
              obtain ⟨s3, hs3⟩ : ∃ s3, merge (cutS s x t) m x = s3 := ⟨_, rfl⟩
              have hpr3 : s3.pr = s.pr := by rw [← hs3]; rfl
              have hpa3 : s3.pa = s.pa := by rw [← hs3]; rfl
              rw [hs3] at HC5 HI3 HL3
              have HPR3 := Lib.hid hpr3
              have HAG3 : Hid (Agr s3 (upd P x none) D (x :: E)) := Lib.hid (fun y hy hn => by
                rw [List.mem_cons, not_or] at hn
                rw [hpa3, upd_ne _ _ hn.1]
                exact HPRE.out.ag y hy hn.2)
              have HSUBP : Hid (∀ y b, (upd P x none) y = some b → P y = some b) := Lib.hid (fun y b e => by
                by_cases hyx : y = x
                · rw [hyx, upd_same] at e; cases e
                · rwa [upd_ne _ _ hyx] at e)
              clear x5 hcw5 hs3 hpr3 hpa3
              cases hma : s.ma t with
              | true =>
                rw [hma] at t1
                have HPRE4 : Hid (CutPre r hq A D N s3 R3 K3 (upd P x none) (x :: E) t m3 wl) := Lib.hid ⟨HC5.out.hat, HSUB.out, HI3.out, HAG3.out, fun y hy b e => HPRE.out.rk y hy b (HSUBP.out y b e), fun e he => by
                  have hr := HPRE.out.rk x HPRE.out.xD t HP.out
                  rcases List.mem_cons.1 he with rfl | he
                  · exact hr
                  · have := HPRE.out.er e he; omega, HPRE.out.iv.dm x HPRE.out.xD t HP.out, HL3.out, fun b hb => by rw [HPR3.out]; exact HPRE.out.sm b hb, HPRE.out.hn, HPRE.out.nd, HC5.out.hk, HHA.out⟩
                have HIH2 := Lib.hid (HIH.out s3 R3 K3 (upd P x none) (x :: E) t m3 wl (by
                  have h1 := HPRE.out.rk x HPRE.out.xD t HP.out
                  have h2 := HMM.out t (HPRE.out.iv.dm x HPRE.out.xD t HP.out)
                  have h3 := HNN.out
                  omega) HPRE4.out)
                clear hma
                go_wp2_with fail
                refine HIH2.out.mono ?_
                rintro e wm ⟨s4, R4, K4, P4, m4, rfl, hat4, hi4, ha4, hs4, hp4, hpr4, hl4, hk4, hf4⟩
                have hcw6 : Cw hq A N m4 w s4 wm := ⟨hat4, hk4, HC5.out.fr.trans hf4, HHA.out⟩
                have fx5' := (hat4 x hxA).free 5
                obtain ⟨vx5, x5''⟩ : ∃ v, wm.cell? ⟨x, 5, none⟩ = some v := ⟨_, hat4.c5 hxA⟩
                have hP4 : P4 x = none := by
                  cases hq4 : P4 x with
                  | none => rfl
                  | some b => have := hs4 x b hq4; rw [upd_same] at this; cases this
                have HFIN : Hid (CutPost hq A D N s P E x w (.returned (.tuple #[])) (wm.setCell ⟨x, 5, none⟩ (.pointer none))) :=
                  Lib.hid ⟨setA s4 x none, R4, K4, P4, m4, rfl, (hcw6.sA hxA none).hat, inv_pa hi4 x none, fun y hy hn => by
                    by_cases hyx : y = x
                    · rw [hyx, hP4]; exact upd_same _ _ _
                    · exact (upd_ne _ _ hyx).trans (ha4 y hy (by rw [List.mem_cons, not_or]; exact ⟨hyx, hn⟩)), fun y b e => HSUBP.out y b (hs4 y b e), hP4, hpr4.trans HPR3.out, hl4, (hcw6.sA hxA none).hk, (hcw6.sA hxA none).fr⟩
                clear hat4 hi4 ha4 hs4 hp4 hpr4 hl4 hk4 hf4 hcw6 hP4
                go_wp2_with fail
                refine bodyPost_end (results_none rfl _ _ _) rfl ?_
                exact HFIN.out
              | false =>
                rw [hma] at t1
                have hcw6 := HC5.out.sM htA true
                have hcw7 := hcw6.sA hxA none
                have HFIN : Hid (CutPost hq A D N s P E x w (.returned (.tuple #[])) ((wl.setCell ⟨t, 1, none⟩ (.bool true)).setCell ⟨x, 5, none⟩ (.pointer none))) :=
                  Lib.hid ⟨setA (setM s3 t true) x none, R3, K3, upd P x none, m3, rfl, hcw7.hat, inv_pa (inv_ma HI3.out t true) x none, fun y hy hn => by
                    by_cases hyx : y = x
                    · rw [hyx, upd_same]; exact upd_same _ _ _
                    · exact (upd_ne _ _ hyx).trans (HAG3.out y hy (by rw [List.mem_cons, not_or]; exact ⟨hyx, hn⟩)), HSUBP.out, upd_same _ _ _, HPR3.out, HL3.out, hcw7.hk, hcw7.fr⟩
                clear hma hcw6 hcw7
                go_wp2_with fail
                refine bodyPost_end (results_none rfl _ _ _) rfl ?_
                exact HFIN.out
end Go.Proofs.Ytmhackiiiehlmaa
