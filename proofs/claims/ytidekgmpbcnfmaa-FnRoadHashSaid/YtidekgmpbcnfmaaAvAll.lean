/- The walk of impl.avAll. -/
import Derived.Test.YtidekgmpbcnfmaaAvSaidS
namespace Go.Proofs.Ytidekgmpbcnfmaa
set_option linter.unusedVariables false
open Go.RowKit Avm

structure AStp where
  op : Nat
  frm : Nat
  es : List (Int × Int)
structure ASaid where
  n : Nat
  os : List (Option (Int × Int))
abbrev Lst := List (Int × Int)
def kvO (k : Int) (o : Option Int) : Option (Int × Int) := o.map fun v => (k, v)
theorem oent_kvO (k : Int) (o : Option Int) : oent (kvO k o) = ovv k o := by cases o <;> rfl
def keyAt (es : Lst) (q : Nat) : Int := (es.getD q (0, 0)).1
def insOs (l es : Lst) : List (Option (Int × Int)) := (List.range es.length).map fun q => kvO (keyAt es q) (outO l es q)
def getOs (l es : Lst) : List (Option (Int × Int)) := (List.range es.length).map fun q => kvO (keyAt es q) (look l (keyAt es q))
def delS (l : Lst) (k : Int) : Lst := l.filter fun x => decide (x.1 ≠ k)
def delAll (l es : Lst) : Lst := es.foldl (fun l e => delS l e.1) l
def delOs (l es : Lst) : List (Option (Int × Int)) := (List.range es.length).map fun q => kvO (keyAt es q) (look (delAll l (es.take q)) (keyAt es q))
theorem insOs_vals (l es : Lst) : (insOs l es).map oent = (List.range es.length).map (outI l es) := by
  unfold insOs
  rw [List.map_map]
  exact List.map_congr_left fun q _ => oent_kvO _ _
theorem getOs_vals (l es : Lst) : (getOs l es).map oent = (List.range es.length).map fun q => ovv (es.getD q (0, 0)).1 (look l (es.getD q (0, 0)).1) := by
  unfold getOs
  rw [List.map_map]
  exact List.map_congr_left fun q _ => oent_kvO _ _
theorem delOs_vals (l es : Lst) : (delOs l es).map oent = (List.range es.length).map fun q => ovv (es.getD q (0, 0)).1 (look (delAll l (es.take q)) (es.getD q (0, 0)).1) := by
  unfold delOs
  rw [List.map_map]
  exact List.map_congr_left fun q _ => oent_kvO _ _
theorem insOs_len (l es : Lst) : (insOs l es).length = es.length := by simp [insOs]
theorem getOs_len (l es : Lst) : (getOs l es).length = es.length := by simp [getOs]
theorem delOs_len (l es : Lst) : (delOs l es).length = es.length := by simp [delOs]
theorem delAll_len (es : Lst) : ∀ l : Lst, (delAll l es).length ≤ l.length := by
  induction es with
  | nil => intro l; exact Nat.le_refl _
  | cons e es ih => intro l; exact Nat.le_trans (ih _) (List.length_filter_le _ _)

/-- what Delete does -/
def DelC : Prop := ∀ (i : Nat) (t : T) (v : Value) (es : Lst) (w : World), Tr w i t → Sl w v (ents es) → 0 < es.length → es.length ≤ 1000 → t.toL.length ≤ 100000 → ∀ G, (G ≤ w.heap.size ∧ ∀ b ∈ t.blocks, G ≤ b) →
  Calls Try.prog 28 #[.pointer (some ⟨i, 0, none⟩), v] w fun e w' => ∃ i' t' q c F, e = .returned (.tuple #[.pointer (some ⟨i', 0, none⟩), .slice q es.length c]) ∧ Tr w' i' t' ∧ t'.toL = delAll t.toL es ∧
    w'.ownsRow w.heap.size 92 1 (.slice q es.length c) es.length ((List.range es.length).map fun q => ovv (es.getD q (0, 0)).1 (look (delAll t.toL (es.take q)) (es.getD q (0, 0)).1)) ∧ Fr t.blocks F w w' ∧ ∀ b ∈ t'.blocks, G ≤ b

/-- a step on trees as lists; a Delete leaves the other trees unsaid -/
def AStep (σ : List (Option Lst)) (s : AStp) (σ' : List (Option Lst)) (u : ASaid) : Prop :=
  ∃ L, σ[s.frm % σ.length]? = some (some L) ∧ L.length ≤ 90000 ∧ 0 < s.es.length ∧ s.es.length ≤ 100 ∧
    ((s.op = 1 ∧ σ' = σ ++ [some (insAll L s.es)] ∧ u = ⟨(insAll L s.es).length, insOs L s.es⟩) ∨
     (s.op = 2 ∧ σ' = σ.map (fun _ => none) ++ [some (delAll L s.es)] ∧ u = ⟨(delAll L s.es).length, delOs L s.es⟩) ∨
     (s.op = 3 ∧ σ' = σ ∧ u = ⟨L.length, getOs L s.es⟩))
inductive ARuns : List (Option Lst) → List AStp → List ASaid → List (Option Lst) → Prop
  | nil (σ : List (Option Lst)) : ARuns σ [] [] σ
  | cons {σ σ1 σ2 : List (Option Lst)} {s : AStp} {ss : List AStp} {u : ASaid} {us : List ASaid} : σ.length ≤ 500 → AStep σ s σ1 u → ARuns σ1 ss us σ2 → ARuns σ (s :: ss) (u :: us) σ2
theorem ARuns.len {σ σ' : List (Option Lst)} {ss : List AStp} {us : List ASaid} (h : ARuns σ ss us σ') : us.length = ss.length := by
  induction h with
  | nil => rfl
  | cons _ _ _ ih => simp [ih]
theorem ARuns.head {σ σ' : List (Option Lst)} {ss : List AStp} {us : List ASaid} {i : Nat} (h : ARuns σ (ss.drop i) (us.drop i) σ') (hi : i < ss.length) : ∃ s u σ1, ss[i]? = some s ∧ us[i]? = some u ∧ σ.length ≤ 500 ∧ AStep σ s σ1 u ∧ ARuns σ1 (ss.drop (i + 1)) (us.drop (i + 1)) σ' := by
  rw [List.drop_eq_getElem_cons hi] at h
  generalize hT : us.drop i = T at h
  cases h with
  | cons hl hd hr =>
    rename_i σ1 t ts'
    have h0 : us[i]? = some t := by
      have := congrArg (fun l => l[0]?) hT
      simpa using this
    have h1 : us.drop (i + 1) = ts' := by
      have := congrArg List.tail hT
      simpa using this
    exact ⟨_, t, σ1, List.getElem?_eq_getElem hi, h0, hl, hd, by rw [h1]; exact hr⟩
theorem ARuns.fin {σ σ' : List (Option Lst)} {us : List ASaid} (h : ARuns σ [] us σ') : σ = σ' ∧ us = [] := by cases h; exact ⟨rfl, rfl⟩

def AStepsAt (w : World) (R : List (List Value)) (S : List AStp) : Prop := R.length = S.length ∧ ∀ (i : Nat) (row : List Value) (s : AStp), R[i]? = some row → S[i]? = some s → ∃ v, row = [.int .i64 (s.op : Int), .int .i64 (s.frm : Int), v] ∧ Rw 2 w v (aes s.es)
def ASaidOne (w : World) (G : Nat) (row : List Value) (u : ASaid) : Prop :=
  ∃ q1 c1 q2 c2, row = [.int .i64 (u.n : Int), .slice q1 u.os.length c1, .slice q2 u.os.length c2] ∧ w.ownsRow G 25 2 (.slice q1 u.os.length c1) u.os.length (aes (u.os.map oget)).flatten ∧ w.ownsRow G 4 1 (.slice q2 u.os.length c2) u.os.length (bvs (u.os.map Option.isSome))
def ASaidAt (w : World) (G : Nat) (R : List (List Value)) (U : List ASaid) : Prop := R.length = U.length ∧ ∀ (i : Nat) (row : List Value) (u : ASaid), R[i]? = some row → U[i]? = some u → ASaidOne w G row u
def ptrs (ps : List Nat) : List Value := ps.map fun i => .pointer (some ⟨i, 0, none⟩)
def TreesAt (w : World) (G : Nat) (ps : List Nat) (σ : List (Option Lst)) : Prop := ps.length = σ.length ∧ ∀ (j i : Nat) (L : Lst), ps[j]? = some i → σ[j]? = some (some L) → ∃ t, Tr w i t ∧ t.toL = L ∧ ∀ b ∈ t.blocks, G ≤ b

theorem ASaidOne.fr {w w' : World} {G : Nat} {row : List Value} {u : ASaid} {F F' : List Nat} (h : ASaidOne w G row u) (hf : Fr F F' w w') (h1 : ∀ (e : TypeId) (z : Nat) (v : Value) (n : Nat) (xs : List Value), e = 25 ∨ e = 4 → w.ownsRow G e z v n xs → ∀ k ∈ obl v, k ∉ F) : ASaidOne w' G row u := by
  obtain ⟨q1, c1, q2, c2, e, ho1, ho2⟩ := h
  exact ⟨q1, c1, q2, c2, e, hf.own ho1 (h1 _ _ _ _ _ (.inl rfl) ho1), hf.own ho2 (h1 _ _ _ _ _ (.inr rfl) ho2)⟩
theorem ASaidAt.fr {w w' : World} {G : Nat} {R : List (List Value)} {U : List ASaid} {F F' : List Nat} (h : ASaidAt w G R U) (hf : Fr F F' w w') (h1 : ∀ (e : TypeId) (z : Nat) (v : Value) (n : Nat) (xs : List Value), e = 25 ∨ e = 4 → w.ownsRow G e z v n xs → ∀ k ∈ obl v, k ∉ F) : ASaidAt w' G R U :=
  ⟨h.1, fun i row u hr hu => (h.2 i row u hr hu).fr hf h1⟩
theorem ASaidAt.below {w w' : World} {G : Nat} {R : List (List Value)} {U : List ASaid} (h : ASaidAt w G R U) (hb : Below w.heap.size w w') : ASaidAt w' G R U := h.fr (Fr.of_below [] hb) (fun _ _ _ _ _ _ _ _ _ h => by cases h)
theorem ASaidAt.row {w w' : World} {G : Nat} {R : List (List Value)} {U : List ASaid} (h : ASaidAt w G R U) {B : Nat} {e : TypeId} {size : Nat} {u u' : Value} {n : Nat} {xs : List Value} (ho : w.ownsRow B e size u n xs) (h1 : 25 ≠ e) (h2 : 4 ≠ e) (hf : Fr (obl u) (obl u') w w') : ASaidAt w' G R U :=
  h.fr hf fun e' z v m ys he hv => by
    rcases he with rfl | rfl
    · exact row_row hv ho h1
    · exact row_row hv ho h2
theorem ASaidAt.tree {w w' : World} {G : Nat} {R : List (List Value)} {U : List ASaid} (h : ASaidAt w G R U) {t : T} (ht : At w t) {F' : List Nat} (hf : Fr t.blocks F' w w') : ASaidAt w' G R U :=
  h.fr hf fun e' z v m ys he hv k hk hm => by
    obtain ⟨cs, hb⟩ := at_blk ht hm
    rcases he with rfl | rfl
    · exact row_blk hv hb (by decide) (mem_obl.1 hk)
    · exact row_blk hv hb (by decide) (mem_obl.1 hk)
theorem tree_own {w : World} {t : T} (ht : At w t) {B : Nat} {e : TypeId} {size : Nat} {u : Value} {n : Nat} {xs : List Value} (ho : w.ownsRow B e size u n xs) (h2 : e ≠ 94) : ∀ k ∈ obl u, k ∉ t.blocks := fun k hk hm => by
  obtain ⟨cs, hb⟩ := at_blk ht hm
  exact row_blk ho hb h2 (mem_obl.1 hk)
theorem ASaidAt.snoc {w : World} {G : Nat} {R : List (List Value)} {U : List ASaid} (h : ASaidAt w G R U) {row : List Value} {u : ASaid} (h1 : ASaidOne w G row u) : ASaidAt w G (R ++ [row]) (U ++ [u]) := by
  refine ⟨by simp [h.1], fun i row' u' hr hu => ?_⟩
  by_cases hi : i < R.length
  · rw [List.getElem?_append_left hi] at hr
    rw [List.getElem?_append_left (by rw [← h.1]; exact hi)] at hu
    exact h.2 i row' u' hr hu
  · have hl := (List.getElem?_eq_some_iff.1 hr).1
    simp at hl
    have hi2 : i = R.length := by omega
    subst hi2
    rw [List.getElem?_append_right (Nat.le_refl _), Nat.sub_self] at hr
    rw [h.1, List.getElem?_append_right (Nat.le_refl _), Nat.sub_self] at hu
    simp at hr hu
    subst hr hu
    exact h1
theorem TreesAt.below {w w' : World} {G : Nat} {ps : List Nat} {σ : List (Option Lst)} (h : TreesAt w G ps σ) (hb : Below w.heap.size w w') : TreesAt w' G ps σ :=
  ⟨h.1, fun j i L h1 h2 => by obtain ⟨t, h3, h4, h5⟩ := h.2 j i L h1 h2; exact ⟨t, h3.below hb, h4, h5⟩⟩
theorem TreesAt.row {w w' : World} {G : Nat} {ps : List Nat} {σ : List (Option Lst)} (h : TreesAt w G ps σ) {B : Nat} {e : TypeId} {size : Nat} {u u' : Value} {n : Nat} {xs : List Value} (ho : w.ownsRow B e size u n xs) (h1 : e ≠ 96) (h2 : e ≠ 94) (hf : Fr (obl u) (obl u') w w') : TreesAt w' G ps σ :=
  ⟨h.1, fun j i L hp hs => by obtain ⟨t, h3, h4, h5⟩ := h.2 j i L hp hs; exact ⟨t, h3.row ho h1 h2 hf, h4, h5⟩⟩
theorem TreesAt.snoc {w : World} {G : Nat} {ps : List Nat} {σ : List (Option Lst)} (h : TreesAt w G ps σ) {i : Nat} {t : T} (h1 : Tr w i t) (h2 : ∀ b ∈ t.blocks, G ≤ b) : TreesAt w G (ps ++ [i]) (σ ++ [some t.toL]) := by
  refine ⟨by simp [h.1], fun j i' L hp hs => ?_⟩
  by_cases hi : j < ps.length
  · rw [List.getElem?_append_left hi] at hp
    rw [List.getElem?_append_left (by rw [← h.1]; exact hi)] at hs
    exact h.2 j i' L hp hs
  · have hl := (List.getElem?_eq_some_iff.1 hp).1
    simp at hl
    have hi2 : j = ps.length := by omega
    subst hi2
    rw [List.getElem?_append_right (Nat.le_refl _), Nat.sub_self] at hp
    rw [h.1, List.getElem?_append_right (Nat.le_refl _), Nat.sub_self] at hs
    simp at hp hs
    subst hp
    exact ⟨t, h1, hs, h2⟩
theorem TreesAt.gone {w w' : World} {G : Nat} {ps : List Nat} {σ : List (Option Lst)} (h : TreesAt w G ps σ) : TreesAt w' G ps (σ.map fun _ => none) :=
  ⟨by simp [h.1], fun j i L _ hs => by
    simp only [List.getElem?_map] at hs
    cases hq : σ[j]? <;> rw [hq] at hs <;> simp at hs⟩
theorem ptrs_snoc (ps : List Nat) (i : Nat) : ptrs (ps ++ [i]) = ptrs ps ++ [.pointer (some ⟨i, 0, none⟩)] := by simp [ptrs]
theorem ptrs_len (ps : List Nat) : (ptrs ps).length = ps.length := by simp [ptrs]

theorem info_imp : (Try.prog.info? 68).map (fun i => (i.zero, i.size, i.bytes)) = some (some (.pointer none), 1, 8) := by kernel_rfl
theorem info_avs : (Try.prog.info? 36).map (fun i => (i.zero, i.size, i.bytes)) = some (some (.agg #[.int .i64 0, .slice none 0 0, .slice none 0 0]), 3, 56) := by kernel_rfl
theorem own_base' {w : World} {B B' : Nat} {e : TypeId} {size : Nat} {v : Value} {n : Nat} {xs : List Value} (h : w.ownsRow B e size v n xs) (hB : B' ≤ B) : w.ownsRow B' e size v n xs := by
  refine ⟨h.1, ?_⟩
  rcases h.2 with h0 | ⟨g, cap, cur, e, hbg, r⟩
  · exact .inl h0
  · exact .inr ⟨g, cap, cur, e, Nat.le_trans hB hbg, r⟩

def AMid (G : Nat) (w : World) (i : Nat) (qo : Option Addr) (co : Nat) (rows : List (List Value)) (us : List ASaid) (σ1 : List (Option Lst)) (u : ASaid) (s4 s8 s9 : Value) (wx : World) : Prop :=
  ∃ (ps : List Nat) (mm : Nat) (qt : Option Addr) (ct it : Nat) (t : T) (q : Option Addr) (m c : Nat), ps.length = mm ∧ s4 = .slice qt mm ct ∧ s8 = .pointer (some ⟨it, 0, none⟩) ∧ s9 = .slice q m c ∧ wx.ownsRow G 68 1 (.slice qt mm ct) mm (ptrs ps) ∧ wx.ownsRow G 36 3 (.slice qo i co) i rows.flatten ∧
    ASaidAt wx G rows us ∧ TreesAt wx G ps σ1 ∧ Tr wx it t ∧ t.toL.length = u.n ∧ Sl wx (.slice q m c) (u.os.map oent) ∧ Below G w wx ∧ u.n ≤ 1000000 ∧ u.os.length ≤ 1000 ∧ G ≤ wx.heap.size

def ALoop (G n : Nat) (S : List AStp) (U : List ASaid) (σ' : List (Option Lst)) (w : World) (k : Nat) (s4 s5 idx : Value) (wr : World) : Prop :=
  ∃ (i : Nat) (ps : List Nat) (qt : Option Addr) (ct : Nat) (qo : Option Addr) (co : Nat) (rows : List (List Value)) (σ : List (Option Lst)), s4 = .slice qt ps.length ct ∧ s5 = .slice qo i co ∧ idx = .int .i64 (i : Int) ∧ i + k = n ∧
    wr.ownsRow G 68 1 (.slice qt ps.length ct) ps.length (ptrs ps) ∧ wr.ownsRow G 36 3 (.slice qo i co) i rows.flatten ∧ (∀ r ∈ rows, r.length = 3) ∧ rows.length = i ∧ ASaidAt wr G rows (U.take i) ∧ TreesAt wr G ps σ ∧ ARuns σ (S.drop i) (U.drop i) σ' ∧ Below G w wr

theorem tmod_nat (a b : Nat) : Int.tmod (a : Int) (b : Int) = ((a % b : Nat) : Int) := by
  rw [Int.tmod_eq_emod_of_nonneg (by omega)]; rfl

set_option maxRecDepth 100000 in
set_option maxHeartbeats 4000000 in
theorem avall_any (S : List AStp) (U : List ASaid) (σ' : List (Option Lst)) (v : Value) (R : List (List Value)) (w : World) (hv : Rw 3 w v R) (hst : AStepsAt w R S) (hr : ARuns [some []] S U σ') (hn : S.length ≤ 400) (hD : (∃ s ∈ S, s.op = 2) → DelC) (hAS : AvSaidC) :
    Calls Try.prog 14 #[v] w fun e w' => ∃ (ps : List Nat) (qt : Option Addr) (ct : Nat) (qo : Option Addr) (co : Nat) (rows : List (List Value)), e = .returned (.tuple #[.slice qt ps.length ct, .slice qo S.length co]) ∧ w'.ownsRow w.heap.size 68 1 (.slice qt ps.length ct) ps.length (ptrs ps) ∧
      w'.ownsRow w.heap.size 36 3 (.slice qo S.length co) S.length rows.flatten ∧ (∀ r ∈ rows, r.length = 3) ∧ rows.length = S.length ∧ ASaidAt w' w.heap.size rows U ∧ TreesAt w' w.heap.size ps σ' ∧ Below w.heap.size w w' := by
  obtain ⟨a0, n, cap, rfl, hla, hc, hm, hrr⟩ := hv
  have hnS : S.length = n := by rw [← hst.1, hla]
  rw [hnS] at hn ⊢
  have HLA := Lib.hid hla
  have HST := Lib.hid hst
  have HNS := Lib.hid hnS
  have HR := Lib.hid hr
  have HD := Lib.hid hD
  have HAS := Lib.hid hAS
  obtain ⟨G, hG⟩ : ∃ G, w.heap.size = G := ⟨_, rfl⟩
  have HG := Lib.hid hG
  clear hst hr hla hnS hD hAS
  go_enter Try.func14, Try.ntmps14
  go_wp2_with fail
  refine (newimm_any w).mono ?_
  rintro e w1 ⟨i0, rfl, htr, hi0, hbel⟩
  have HT1 := Lib.hid htr
  have HB1 := Lib.hid hbel
  have hs1 := hbel.size
  clear htr hbel
  go_wp2_with fail
  have hO0 : (w1.alloc (.cells #[.pointer (some ⟨i0, 0, none⟩)] 68)).ownsRow G 68 1 (.slice (some ⟨w1.heap.size, 0, none⟩) [i0].length 1) [i0].length (ptrs [i0]) :=
    World.ownsRow_lit (base := G) (e := 68) (size := 1) w1 #[.pointer (some ⟨i0, 0, none⟩)] 1 (by omega) (by decide) rfl
  have hT0 : TreesAt (w1.alloc (.cells #[.pointer (some ⟨i0, 0, none⟩)] 68)) G [i0] [some []] := by
    refine ⟨rfl, fun j i L h1 h2 => ?_⟩
    cases j with
    | zero =>
      simp at h1 h2
      subst h1
      exact ⟨.nil, HT1.out.below ((Below.refl _ _).alloc (Nat.le_refl _) _), h2.symm, fun b hb => by cases hb⟩
    | succ j => simp at h1
  have HO0 := Lib.hid hO0
  have HT0 := Lib.hid hT0
  have HB0 := Lib.hid (show Below G w (w1.alloc (.cells #[.pointer (some ⟨i0, 0, none⟩)] 68)) from by rw [← hG]; exact HB1.out.alloc hs1 _)
  obtain ⟨b1, hb1⟩ : ∃ b1, w1.heap.size = b1 := ⟨_, rfl⟩
  obtain ⟨wa, hwa⟩ : ∃ wa, wa = w1.alloc (.cells #[.pointer (some ⟨i0, 0, none⟩)] 68) := ⟨_, rfl⟩
  rw [← hwa, hb1] at HO0
  rw [← hwa] at HT0 HB0
  rw [hb1, ← hwa]
  clear hO0 hT0 hwa hb1 HT1 HB1 hs1 hi0
  go_loopg [4, 5, 7, 8, 9, 14] n (fun k s4 s5 s7 s8 s9 idx wr => ALoop G n S U σ' w k s4 s5 idx wr)
  case atStart => exact ⟨0, [i0], some ⟨b1, 0, none⟩, 1, none, 0, [], [some []], rfl, rfl, rfl, by omega, HO0.out, World.ownsRow_nil _ _ _ _, by simp, rfl, ⟨rfl, fun i row u h => by simp at h⟩, HT0.out, HR.out, HB0.out⟩
  case round =>
    clear HO0 HT0 HB0 HR
    obtain ⟨i, ps, qt, ct, qo, co, rows, σ, rfl, rfl, rfl, hik, hot, hoo, hrl, hrn, hsa, htr, hru, hbel⟩ := hrel
    have HOT := Lib.hid hot
    have HOO := Lib.hid hoo
    have HRL := Lib.hid hrl
    have HRN := Lib.hid hrn
    have HSA := Lib.hid hsa
    have HTR := Lib.hid htr
    have HRU := Lib.hid hru
    have HB := Lib.hid hbel
    have hsz : G ≤ wr.heap.size := by have := hbel.size; omega
    clear hot hoo hrl hrn hsa htr hru hbel
    by_cases hi : i < n
    · cases gk with
      | zero => omega
      | succ k =>
        obtain ⟨bS, oS, rfl, hcell⟩ := hrr (by omega)
        have hiS : i < S.length := by rw [HNS.out]; exact hi
        have hiR : i < R.length := by rw [HLA.out]; exact hi
        obtain ⟨s, u, σ1, h1, h2, h3, hdo, h5⟩ := HRU.out.head hiS
        obtain ⟨vs, hrow, hrw⟩ := HST.out.2 i _ _ (List.getElem?_eq_getElem hiR) h1
        have hR := List.getElem?_eq_getElem hiR
        rw [hrow] at hR
        have hmemS : s ∈ S := List.mem_of_getElem? h1
        have tht : U.take (i + 1) = U.take i ++ [u] := by
          obtain ⟨hlt, hge⟩ := List.getElem?_eq_some_iff.1 h2
          rw [List.take_succ_eq_append_getElem hlt, hge]
        obtain ⟨op, frm, es⟩ := s
        simp only at hR hrw
        have d0 := hcell i _ hR 0 (.int .i64 (op : Int)) rfl
        have d1 := hcell i _ hR 1 (.int .i64 (frm : Int)) rfl
        have d2 := hcell i _ hR 2 vs rfl
        rw [← HB.out.cell (by rw [← HG.out]; exact World.block_lt_of_cell? w _ d0), Nat.add_zero] at d0
        rw [← HB.out.cell (by rw [← HG.out]; exact World.block_lt_of_cell? w _ d1), ← Nat.add_assoc] at d1
        rw [← HB.out.cell (by rw [← HG.out]; exact World.block_lt_of_cell? w _ d2), ← Nat.add_assoc] at d2
        have hvs : ∃ a n c, vs = .slice a n c := by obtain ⟨a, n, c, e, _⟩ := hrw; exact ⟨a, n, c, e⟩
        obtain ⟨va, vn, vc, rfl⟩ := hvs
        obtain ⟨L, hL, hLl, hes0, hes1, hcase⟩ := hdo
        have hpl : ps.length = σ.length := HTR.out.1
        rw [← hpl] at hL h3
        obtain ⟨m, hm⟩ : ∃ m, ps.length = m := ⟨_, rfl⟩
        rw [hm] at hL h3
        have hm0 : 0 < m := by
          rcases Nat.eq_zero_or_pos m with h | h
          · subst h
            rw [Nat.mod_zero] at hL
            have := (List.getElem?_eq_some_iff.1 hL).1
            omega
          · exact h
        have hjm : frm % m < m := Nat.mod_lt _ hm0
        obtain ⟨j, hj⟩ : ∃ j, frm % m = j := ⟨_, rfl⟩
        have hjj : (j + m) % m = j := by rw [← hj]; simp
        rw [hj] at hL hjm
        obtain ⟨it, hit⟩ : ∃ it, ps[j]? = some it := ⟨_, List.getElem?_eq_getElem (by omega)⟩
        obtain ⟨t, ht, htL, htG⟩ := HTR.out.2 j it L hit hL
        have hcell4 := Sl.of_owns HOT.out
        have HOT2 := HOT
        rw [hm] at HOT2 hcell4 ⊢
        obtain ⟨_, _, _, e4, hl4, hc4, hm4, hr4⟩ := hcell4
        injection e4 with e4 e5 e6
        subst e4 e5 e6
        obtain ⟨b4, o4, rfl, hcl4⟩ := hr4 hm0
        have p4 := hcl4 j (.pointer (some ⟨it, 0, none⟩)) (by simp [ptrs, hit])
        have t1 : Int.tmod (frm : Int) (m : Int) = (j : Int) := by rw [tmod_nat, hj]
        have t2 : Int.tmod ((j : Int) + (m : Int)) (m : Int) = (j : Int) := by
          rw [show ((j : Int) + (m : Int)) = ((j + m : Nat) : Int) by simp, tmod_nat, hjj]
        have t3 : IntKind.i64.wrap ((j : Int) + (m : Int)) = (j : Int) + (m : Int) := IntWalk.i64_in _ (by omega)
        have t3a : IntKind.i64.wrap (j : Int) = (j : Int) := IntWalk.i64_in _ (by omega)
        have t4 : ((m : Int) == 0) = false := by rw [beq_eq_false_iff_ne]; omega
        have j1 : (j : Int) < (m : Int) := by omega
        have j2 : (0 : Int) ≤ (j : Int) := by omega
        clear hcell hiS hiR h1 h2 hrow hR hL hit hl4 hc4 hm4 hr4 hcl4 hj hjj hpl
        have hb4 : b4 < wr.heap.size := World.block_lt_of_cell? wr _ p4
        have hb4' : ¬ b4 = wr.heap.size := by omega
        go_upto_block 2 with fail
        have hrwz : Rw 2 (wr.alloc (.cells #[.int .i64 (op : Int), .int .i64 (frm : Int), .slice va vn vc] 32)) (.slice va vn vc) (aes es) := (hrw.below HG.out.symm HB.out).below rfl ((Below.refl _ _).alloc (Nat.le_refl _) _)
        have hbz : Below wr.heap.size wr (wr.alloc (.cells #[.int .i64 (op : Int), .int .i64 (frm : Int), .slice va vn vc] 32)) := (Below.refl _ _).alloc (Nat.le_refl _) _
        have kS := Blk.new wr 32 #[.int .i64 (op : Int), .int .i64 (frm : Int), .slice va vn vc]
        have HOTZ := Lib.hid (HOT2.out.alloc (.cells #[.int .i64 (op : Int), .int .i64 (frm : Int), .slice va vn vc] 32))
        have HOOZ := Lib.hid (HOO.out.alloc (.cells #[.int .i64 (op : Int), .int .i64 (frm : Int), .slice va vn vc] 32))
        have hsaz := HSA.out.below hbz
        have htrz := HTR.out.below hbz
        have htz := ht.below hbz
        have hBz : Below G w (wr.alloc (.cells #[.int .i64 (op : Int), .int .i64 (frm : Int), .slice va vn vc] 32)) := HB.out.trans (hbz.mono hsz)
        have hszz : G ≤ (wr.alloc (.cells #[.int .i64 (op : Int), .int .i64 (frm : Int), .slice va vn vc] 32)).heap.size := by simp; omega
        obtain ⟨BS, hBS⟩ : ∃ BS, wr.heap.size = BS := ⟨_, rfl⟩
        obtain ⟨wz, hwz⟩ : ∃ wz, wz = wr.alloc (.cells #[.int .i64 (op : Int), .int .i64 (frm : Int), .slice va vn vc] 32) := ⟨_, rfl⟩
        rw [hBS] at kS
        rw [← hwz] at hrwz kS HOTZ HOOZ hsaz htrz htz hBz hszz ⊢
        rw [hBS]
        have e2 := kS.cell 2 rfl
        have HRWZ := Lib.hid hrwz
        have HSAZ := Lib.hid hsaz
        have HTRZ := Lib.hid htrz
        have HTZ := Lib.hid htz
        have HBZ := Lib.hid hBz
        have HSZZ := Lib.hid hszz
        have HCASE := Lib.hid hcase
        have HRUN := Lib.hid h5
        have HTK := Lib.hid tht
        have HM := Lib.hid hm
        have HTL := Lib.hid htL
        have HTG := Lib.hid htG
        have HDC := Lib.hid (show op = 2 → DelC from fun e => HD.out ⟨_, hmemS, e⟩)
        clear hrwz hbz kS hsaz htrz htz hBz hcase h5 tht hm htL htG hmemS hrw ht hwz hBS hb4 hb4' p4 t1 t2 t3 t3a t4 d0 d1 d2 HOT HOT2 hszz HB HTR HSA HOO hsz j1 j2
        go_cut [4, 8, 9] (fun s4 s8 s9 wx => AMid G w i qo co rows (U.take i) σ1 u s4 s8 s9 wx)
        case first =>
          rcases HCASE.out with ⟨rfl, rfl, rfl⟩ | ⟨rfl, rfl, rfl⟩ | ⟨rfl, rfl, rfl⟩
          · clear HDC HCASE
            go_wp2_with fail
            refine (aventries_any _ es wz HRWZ.out (by omega)).mono ?_
            rintro e w2 ⟨u2, rfl, hsl2, hb2⟩
            have hin := inserts_any it t u2 es w2 (HTZ.out.below hb2) hsl2 hes0 (by omega) (by rw [HTL.out]; omega) G ⟨Nat.le_trans HSZZ.out hb2.size, HTG.out⟩
            have HIN := Lib.hid hin
            have HB2 := Lib.hid hb2
            clear hin hsl2 hb2 e2
            go_wp2_with fail
            refine HIN.out.mono ?_
            rintro e w3 ⟨i3, t3, q3, c3, rfl, htr3, htl3, hown3, hb3, hg3⟩
            have hbz3 : Below wz.heap.size wz w3 := HB2.out.trans (hb3.mono HB2.out.size)
            have HOT3 : Hid (w3.ownsRow G 68 1 (.slice (some ⟨b4, o4, none⟩) m ct) m (ptrs ps)) := Lib.hid ((Fr.of_below [] hbz3).own HOTZ.out (fun _ _ h => by cases h))
            have HOO3 : Hid (w3.ownsRow G 36 3 (.slice qo i co) i rows.flatten) := Lib.hid ((Fr.of_below [] hbz3).own HOOZ.out (fun _ _ h => by cases h))
            have HSL3 := Lib.hid (Sl.of_owns hown3)
            have HOW3 := Lib.hid hown3
            have HTR3 := Lib.hid htr3
            have HTL3 := Lib.hid htl3
            have HG3 := Lib.hid hg3
            have HBZ3 := Lib.hid hbz3
            have hs3 : G ≤ w3.heap.size := Nat.le_trans HSZZ.out hbz3.size
            clear htr3 htl3 hown3 hb3 hg3 hbz3
            go_wp2_with (at_builtin; refine wpList_append1A rfl _ _ 53 rfl G 68 (.pointer none) 8 Try.underlying53 info_imp rfl (.slice (some ⟨b4, o4, none⟩) m ct) m (ptrs ps) rfl HOT3.out (.pointer (some ⟨i3, 0, none⟩)) rfl rfl (by unfold maxLen; omega) (by omega) hs3 ?_; intro g5 k5 w5 hown5 hf5; have HO5 := Lib.hid hown5; have HF5 := Lib.hid hf5; clear hown5 hf5)
            go_meet
            have hff : Fr (obl (.slice (some ⟨b4, o4, none⟩) m ct)) (obl (.slice (some ⟨g5, 0, none⟩) (m + 1) k5)) w3 w5 := HF5.out
            have htlen := insAll_len L es
            refine ⟨ps ++ [i3], m + 1, _, k5, i3, t3, q3, es.length, c3, by simp [HM.out], rfl, rfl, rfl, by rw [ptrs_snoc]; exact HO5.out, hff.own HOO3.out (row_row HOO3.out HOT3.out (by decide)), (HSAZ.out.below HBZ3.out).row HOT3.out (by decide) (by decide) hff, ?_, HTR3.out.row HOT3.out (by decide) (by decide) hff, by rw [HTL3.out, HTL.out], ?_, (HBZ.out.trans (HBZ3.out.mono HSZZ.out)).trans (hff.below (fun k hk => (own_lt HOT3.out k hk).2) hs3), by simp only []; omega, by simp only [insOs_len]; omega, Nat.le_trans hs3 hff.size⟩
            · have h1 := ((HTRZ.out.below HBZ3.out).row HOT3.out (by decide) (by decide) hff).snoc (HTR3.out.row HOT3.out (by decide) (by decide) hff) HG3.out
              rw [HTL3.out, HTL.out] at h1
              exact h1
            · simp only [insOs_vals]
              have h1 := Sl.of_owns (hff.own HOW3.out (row_row HOW3.out HOT3.out (by decide)))
              rw [HTL.out] at h1
              exact h1
          · have hdel := HDC.out rfl
            have HDEL := Lib.hid hdel
            clear HDC HCASE hdel
            go_wp2_with fail
            refine (aventries_any _ es wz HRWZ.out (by omega)).mono ?_
            rintro e w2 ⟨u2, rfl, hsl2, hb2⟩
            have hin := HDEL.out it t u2 es w2 (HTZ.out.below hb2) hsl2 hes0 (by omega) (by rw [HTL.out]; omega) G ⟨Nat.le_trans HSZZ.out hb2.size, HTG.out⟩
            have HIN := Lib.hid hin
            have HB2 := Lib.hid hb2
            clear hin hsl2 hb2 e2
            go_wp2_with fail
            refine HIN.out.mono ?_
            rintro e w3 ⟨i3, t3, q3, c3, F3, rfl, htr3, htl3, hown3, hf3, hg3⟩
            have hat2 := (HTZ.out.below HB2.out).sub
            have HOT3 : Hid (w3.ownsRow G 68 1 (.slice (some ⟨b4, o4, none⟩) m ct) m (ptrs ps)) := Lib.hid (by
              have h1 := (Fr.of_below [] HB2.out).own HOTZ.out (fun _ _ h => by cases h)
              exact hf3.own h1 (tree_own hat2 h1 (by decide)))
            have HOO3 : Hid (w3.ownsRow G 36 3 (.slice qo i co) i rows.flatten) := Lib.hid (by
              have h1 := (Fr.of_below [] HB2.out).own HOOZ.out (fun _ _ h => by cases h)
              exact hf3.own h1 (tree_own hat2 h1 (by decide)))
            have HSA3 := Lib.hid ((HSAZ.out.below HB2.out).tree hat2 hf3)
            have HTRL := Lib.hid HTRZ.out.1
            have HSL3 := Lib.hid (Sl.of_owns hown3)
            have HOW3 := Lib.hid hown3
            have HTR3 := Lib.hid htr3
            have HTL3 := Lib.hid htl3
            have HG3 := Lib.hid hg3
            have HBZ3 := Lib.hid (hf3.below (B := G) HTG.out (Nat.le_trans HSZZ.out HB2.out.size))
            have hs3 : G ≤ w3.heap.size := Nat.le_trans (Nat.le_trans HSZZ.out HB2.out.size) hf3.size
            clear htr3 htl3 hown3 hf3 hg3 hat2
            go_wp2_with (at_builtin; refine wpList_append1A rfl _ _ 53 rfl G 68 (.pointer none) 8 Try.underlying53 info_imp rfl (.slice (some ⟨b4, o4, none⟩) m ct) m (ptrs ps) rfl HOT3.out (.pointer (some ⟨i3, 0, none⟩)) rfl rfl (by unfold maxLen; omega) (by omega) hs3 ?_; intro g5 k5 w5 hown5 hf5; have HO5 := Lib.hid hown5; have HF5 := Lib.hid hf5; clear hown5 hf5)
            go_meet
            have hff : Fr (obl (.slice (some ⟨b4, o4, none⟩) m ct)) (obl (.slice (some ⟨g5, 0, none⟩) (m + 1) k5)) w3 w5 := HF5.out
            have htlen := delAll_len es L
            refine ⟨ps ++ [i3], m + 1, _, k5, i3, t3, q3, es.length, c3, by simp [HM.out], rfl, rfl, rfl, by rw [ptrs_snoc]; exact HO5.out, hff.own HOO3.out (row_row HOO3.out HOT3.out (by decide)), HSA3.out.row HOT3.out (by decide) (by decide) hff, ?_, HTR3.out.row HOT3.out (by decide) (by decide) hff, by rw [HTL3.out, HTL.out], ?_, ((HBZ.out.trans (HB2.out.mono HSZZ.out)).trans HBZ3.out).trans (hff.below (fun k hk => (own_lt HOT3.out k hk).2) hs3), by simp only []; omega, by simp only [delOs_len]; omega, Nat.le_trans hs3 hff.size⟩
            · have h1 := (HTRZ.out.gone (w' := w5)).snoc (HTR3.out.row HOT3.out (by decide) (by decide) hff) HG3.out
              rw [HTL3.out, HTL.out] at h1
              exact h1
            · simp only [delOs_vals]
              have h1 := Sl.of_owns (hff.own HOW3.out (row_row HOW3.out HOT3.out (by decide)))
              rw [HTL.out] at h1
              exact h1
          · clear HDC HCASE
            go_wp2_with fail
            refine (aventries_any _ es wz HRWZ.out (by omega)).mono ?_
            rintro e w2 ⟨u2, rfl, hsl2, hb2⟩
            have hin := gets_any it t u2 es w2 (HTZ.out.below hb2) hsl2 (by omega)
            have HIN := Lib.hid hin
            have HB2 := Lib.hid hb2
            clear hin hsl2 hb2 e2
            go_wp2_with fail
            refine HIN.out.mono ?_
            rintro e w3 ⟨q3, c3, rfl, hown3, hb3⟩
            have hbz3 : Below wz.heap.size wz w3 := HB2.out.trans (hb3.mono HB2.out.size)
            have HOW3 := Lib.hid hown3
            have HBZ3 := Lib.hid hbz3
            have hs3 : G ≤ w3.heap.size := Nat.le_trans HSZZ.out hbz3.size
            clear hown3 hb3 hbz3
            go_wp2_with fail
            go_meet
            refine ⟨ps, m, _, ct, it, t, q3, es.length, c3, HM.out, rfl, rfl, rfl, (Fr.of_below [] HBZ3.out).own HOTZ.out (fun _ _ h => by cases h), (Fr.of_below [] HBZ3.out).own HOOZ.out (fun _ _ h => by cases h), HSAZ.out.below HBZ3.out, HTRZ.out.below HBZ3.out, HTZ.out.below HBZ3.out, by rw [HTL.out], ?_, HBZ.out.trans (HBZ3.out.mono HSZZ.out), by simp only []; omega, by simp only [getOs_len]; omega, hs3⟩
            simp only [getOs_vals]
            have h1 := Sl.of_owns HOW3.out
            rw [HTL.out] at h1
            exact h1
        case rest =>
          clear HRWZ HSAZ HTRZ HTZ HBZ HOTZ HOOZ HDC HCASE HM HTL HTG e2 HSZZ
          obtain ⟨ps', mm, qt', ct', it', t', q', m', c', hpl', rfl, rfl, rfl, hot', hoo', hsa', htr', ht', htl', hsl', hbel', hu1, hu2, hsz'⟩ := hcut
          have HOT' := Lib.hid hot'
          have HOO' := Lib.hid hoo'
          have HSA' := Lib.hid hsa'
          have HTR' := Lib.hid htr'
          have HBE' := Lib.hid hbel'
          have HPL' := Lib.hid hpl'
          have hca := HAS.out it' t' (.slice q' m' c') u.os _ ht' hsl' hu2 (by rw [htl']; exact hu1)
          rw [htl'] at hca
          obtain ⟨un, hun⟩ : ∃ un, u.n = un := ⟨_, rfl⟩
          obtain ⟨ul, hul⟩ : ∃ ul, u.os.length = ul := ⟨_, rfl⟩
          rw [hun, hul] at hca
          have HCA := Lib.hid hca
          have HUN := Lib.hid (And.intro hun hul)
          clear hot' hoo' hsa' htr' ht' htl' hsl' hbel' hu1 hu2 hpl' hca hun hul
          go_wp2_with fail
          refine HCA.out.mono ?_
          rintro e w6 ⟨q1, c1, q2, c2, rfl, ho1, ho2, hb6⟩
          have HO1 := Lib.hid ho1
          have HO2 := Lib.hid ho2
          have HB6 := Lib.hid hb6
          have HOO6 : Hid (w6.ownsRow G 36 3 (.slice qo i co) i rows.flatten) := Lib.hid ((Fr.of_below [] hb6).own HOO'.out (fun _ _ h => by cases h))
          have HOT6 : Hid (w6.ownsRow G 68 1 (.slice qt' mm ct') mm (ptrs ps')) := Lib.hid ((Fr.of_below [] hb6).own HOT'.out (fun _ _ h => by cases h))
          have hs6 : G ≤ w6.heap.size := Nat.le_trans hsz' hb6.size
          have hone : ∀ u ∈ (#[.int .i64 (un : Int), .slice q1 ul c1, .slice q2 ul c2] : Array Value).toList, u.oneCell' = true := by
            intro u hu
            simp at hu
            rcases hu with rfl | rfl | rfl <;> rfl
          have HON := Lib.hid hone
          clear ho1 ho2 hb6 hone
          go_wp2_with (at_builtin; refine wpList_appendS rfl _ _ 29 rfl G 3 36 (.agg #[.int .i64 0, .slice none 0 0, .slice none 0 0]) 56 Try.underlying29 info_avs rfl (by decide) (.slice qo i co) i rows.flatten rfl HOO6.out #[.int .i64 (un : Int), .slice q1 ul c1, .slice q2 ul c2] rfl rfl HON.out (by unfold maxLen; omega) (by omega) (by omega) ?_; intro g7 cap7 w7 hown7 hg7 hb7; have HO7 := Lib.hid hown7; have HG7 := Lib.hid hg7; have HB7 := Lib.hid hb7; clear hown7 hg7 hb7)
          go_roundg k
          case measure => omega
          case rel =>
            obtain ⟨hE1, hE2⟩ := HUN.out
            have hff : Fr (obl (.slice qo i co)) (obl (.slice qo i co)) w6 w7 := Fr.of_grown (v' := .slice qo i co) HG7.out (fun k hk => .inl hk)
            refine ⟨i + 1, ps', qt', ct', _, _, rows ++ [[.int .i64 (un : Int), .slice q1 ul c1, .slice q2 ul c2]], σ1, by rw [HPL'.out], rfl, by go_num, by omega, by rw [HPL'.out]; exact hff.own HOT6.out (row_row HOT6.out HOO6.out (by decide)), by simpa using HO7.out, ?_, by simp [HRN.out], ?_, (HTR'.out.below HB6.out).row HOO6.out (by decide) (by decide) hff, HRUN.out, (HBE'.out.trans (HB6.out.mono hsz')).trans (HB7.out)⟩
            · intro r hr
              rcases List.mem_append.1 hr with h | h
              · exact HRL.out r h
              · simp at h; subst h; rfl
            · rw [HTK.out]
              refine ((HSA'.out.below HB6.out).row HOO6.out (by decide) (by decide) hff).snoc ⟨q1, c1, q2, c2, by rw [hE1, hE2], ?_, ?_⟩
              · rw [hE2]
                exact own_base' (hff.own HO1.out (row_row HO1.out HOO6.out (by decide))) hsz'
              · rw [hE2]
                exact own_base' (hff.own HO2.out (row_row HO2.out HOO6.out (by decide))) hsz'
    · obtain rfl : i = n := by omega
      have hdn : S.drop i = [] := List.drop_of_length_le (by rw [HNS.out]; exact Nat.le_refl _)
      rw [hdn] at HRU
      obtain ⟨e1, e2⟩ := HRU.out.fin
      subst e1
      have hUl : U.take i = U := by
        have := List.take_append_drop i U
        rw [e2, List.append_nil] at this
        exact this
      rw [hUl] at HSA
      clear hdn e2 hUl HRU
      go_wp2_with fail
      go_ret2
      rw [HG.out]
      exact ⟨ps, qt, ct, qo, co, rows, rfl, HOT.out, HOO.out, HRL.out, HRN.out, HSA.out, HTR.out, HB.out⟩
end Go.Proofs.Ytidekgmpbcnfmaa
