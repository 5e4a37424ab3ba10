/- FnAVBack's plain law: what was put in and taken out again. -/
import Derived.Test.YtidekgmpbcnfmaaAvKeys
namespace Go.Proofs.Ytidekgmpbcnfmaa
set_option linter.unusedVariables false
open Go.RowKit Avm

theorem lookPerm {a b : Lst} (h : a.Perm b) (hs : Srt b) (k : Int) : look a k = look b k := by
  unfold look
  cases ha : a.find? (fun x => x.1 == k) with
  | none =>
    rw [List.find?_eq_none] at ha
    rw [List.find?_eq_none.2 fun x hx => ha x (h.mem_iff.2 hx)]
  | some x =>
    have h1 := List.find?_some ha
    have h2 := List.mem_of_find?_eq_some ha
    cases hb : b.find? (fun x => x.1 == k) with
    | none =>
      rw [List.find?_eq_none] at hb
      exact absurd h1 (hb x (h.mem_iff.1 h2))
    | some y =>
      have h3 := List.find?_some hb
      have h4 := List.mem_of_find?_eq_some hb
      have h5 : x = y := by
        have hx := h.mem_iff.1 h2
        simp only [beq_iff_eq] at h1 h3
        have := List.pairwise_iff_getElem.1 hs
        obtain ⟨i, hi, rfl⟩ := List.getElem_of_mem hx
        obtain ⟨j, hj, rfl⟩ := List.getElem_of_mem h4
        rcases Nat.lt_trichotomy i j with h6 | h6 | h6
        · have := this i j hi hj h6; omega
        · subst h6; rfl
        · have := this j i hj hi h6; omega
      rw [h5]
/-- keys unlike one another -/
def Dk (l : Lst) : Prop := l.Pairwise fun a b => a.1 ≠ b.1
theorem look_isSome {l : Lst} {k : Int} (h : ∀ x ∈ l, x.1 ≠ k) : (look l k).isSome = false := by rw [look_none h]; rfl
theorem look_isNone {l : Lst} {k : Int} (h : (look l k).isSome = false) : ∀ x ∈ l, x.1 ≠ k := by
  intro x hx e
  unfold look at h
  cases hf : l.find? (fun x => x.1 == k) with
  | none => rw [List.find?_eq_none] at hf; exact hf x hx (by simpa using e)
  | some y => rw [hf] at h; cases h
theorem dk_firS {out : Lst} (h : Dk out) (x : Int × Int) : Dk (firS out x) := by
  unfold firS
  cases hs : (look out x.1).isSome with
  | true => exact h
  | false =>
    refine List.pairwise_append.2 ⟨h, List.pairwise_singleton _ _, fun a ha b hb => ?_⟩
    rw [List.mem_singleton.1 hb]
    exact look_isNone hs a ha
theorem dk_fold (l : Lst) : ∀ {out : Lst}, Dk out → Dk (l.foldl firS out) := by
  induction l with
  | nil => intro out h; exact h
  | cons x l ih => intro out h; exact ih (dk_firS h x)
theorem dk_first (l : Lst) : Dk (firstL l) := dk_fold l List.Pairwise.nil
theorem fold_ext (l : Lst) : ∀ out : Lst, ∃ m, l.foldl firS out = out ++ m := by
  induction l with
  | nil => intro out; exact ⟨[], by simp⟩
  | cons x l ih =>
    intro out
    obtain ⟨m, hm⟩ := ih (firS out x)
    have : ∃ m1, firS out x = out ++ m1 := by
      unfold firS
      cases (look out x.1).isSome
      · exact ⟨[x], rfl⟩
      · exact ⟨[], by simp⟩
    obtain ⟨m1, h1⟩ := this
    exact ⟨m1 ++ m, by rw [List.foldl_cons, hm, h1, List.append_assoc]⟩
theorem fold_dk (l : Lst) : ∀ out : Lst, Dk (out ++ l) → l.foldl firS out = out ++ l := by
  induction l with
  | nil => intro out _; simp
  | cons x l ih =>
    intro out h
    have h1 : firS out x = out ++ [x] := by
      have h2 := (List.pairwise_append.1 h).2.2
      unfold firS
      rw [look_isSome fun a ha => h2 a ha x (by simp)]
      rfl
    rw [List.foldl_cons, h1, ih (out ++ [x]) (by rw [List.append_assoc]; exact h), List.append_assoc]
    rfl
theorem first_more (a b : Lst) : ∃ m, firstL (firstL a ++ b) = firstL a ++ m := by
  have h1 : firstL (firstL a ++ b) = b.foldl firS (firstL a) := by
    show (firstL a ++ b).foldl firS [] = _
    rw [List.foldl_append, fold_dk (firstL a) [] (by rw [List.nil_append]; exact dk_first a), List.nil_append]
  obtain ⟨m, hm⟩ := fold_ext b (firstL a)
  exact ⟨m, h1.trans hm⟩

/-- two lists of the same entries, the second one sorted -/
def Twn (a b : Lst) : Prop := a.Perm b ∧ Srt b
theorem Twn.lk {a b : Lst} (h : Twn a b) (k : Int) : look a k = look b k := lookPerm h.1 h.2 k
theorem Twn.len {a b : Lst} (h : Twn a b) : a.length = b.length := h.1.length_eq
theorem Twn.put {a b : Lst} (h : Twn a b) (e : Int × Int) (hn : ∀ x ∈ a, x.1 ≠ e.1) : Twn (a ++ [e]) (insS b e.1 e.2) := by
  refine ⟨?_, insS_srt h.2 _ _⟩
  have hb : ∀ x ∈ b, x.1 ≠ e.1 := fun x hx => hn x (h.1.mem_iff.2 hx)
  have h2 : b.Perm (b.filter (fun x => decide (x.1 < e.1)) ++ b.filter (fun x => decide (e.1 < x.1))) := by
    have hs := h.2
    clear h hn hs
    induction b with
    | nil => exact List.Perm.refl _
    | cons x b ih =>
      have ih := ih fun y hy => hb y (List.mem_cons_of_mem _ hy)
      have hx := hb x (by simp)
      rcases Int.lt_or_gt_of_ne hx with h | h
      · have d2 : decide (x.1 < e.1) = true := by simpa using h
        have d3 : decide (e.1 < x.1) = false := by simp; omega
        rw [List.filter_cons, List.filter_cons, d2, d3]
        simpa using ih.cons x
      · have d2 : decide (x.1 < e.1) = false := by simp; omega
        have d3 : decide (e.1 < x.1) = true := by simpa using h
        rw [List.filter_cons, List.filter_cons, d2, d3]
        simp only [if_true, Bool.false_eq_true, if_false]
        exact (ih.cons x).trans List.perm_middle.symm
  unfold insS
  refine ((h.1.trans h2).append_right [e]).trans ?_
  rw [List.append_assoc]
  refine List.Perm.append_left _ ?_
  exact List.perm_append_comm (l₁ := b.filter fun x => decide (e.1 < x.1)) (l₂ := [e])
theorem Twn.puts (es : Lst) : ∀ {a b : Lst}, Twn a b → Dk (a ++ es) → Twn (a ++ es) (insAll b es) := by
  induction es with
  | nil => intro a b h _; simpa [insAll] using h
  | cons e es ih =>
    intro a b h hd
    have h1 := h.put e fun x hx => (List.pairwise_append.1 hd).2.2 x hx e (by simp)
    have := ih h1 (by rw [List.append_assoc]; exact hd)
    rw [List.append_assoc] at this
    exact this
theorem Twn.del {a b : Lst} (h : Twn a b) (k : Int) : Twn (delS a k) (delS b k) := ⟨h.1.filter _, List.Pairwise.filter _ h.2⟩
theorem delS_none' {l : Lst} {k : Int} (h : ∀ x ∈ l, x.1 ≠ k) : delS l k = l := List.filter_eq_self.2 fun x hx => by simpa using h x hx
/-- of the entries behind, the first is taken out -/
theorem Twn.take {a : Lst} {e : Int × Int} {es b : Lst} (h : Twn (a ++ e :: es) b) (hd : Dk (a ++ e :: es)) : look b e.1 = some e.2 ∧ Twn (a ++ es) (delS b e.1) := by
  have h3 := List.pairwise_append.1 hd
  refine ⟨by rw [← h.lk]; exact look_mid fun x hx => h3.2.2 x hx e (by simp), ?_⟩
  have h1 := h.del e.1
  have e1 : delS (a ++ e :: es) e.1 = a ++ es := by
    unfold delS
    rw [List.filter_append, List.filter_cons]
    have h4 := delS_none' (k := e.1) fun x hx => h3.2.2 x hx e (by simp)
    have h5 := delS_none' (l := es) (k := e.1) fun x hx => fun e' => (List.pairwise_cons.1 h3.2.1).1 x hx e'.symm
    unfold delS at h4 h5
    rw [h4, h5]
    simp
  rw [e1] at h1
  exact h1
theorem dk_drop {a : Lst} {e : Int × Int} {es : Lst} (hd : Dk (a ++ e :: es)) : Dk (a ++ es) := List.Pairwise.sublist (List.Sublist.append (List.Sublist.refl _) (List.sublist_cons_self e es)) hd
theorem Twn.takes (es : Lst) : ∀ {a b : Lst}, Twn (a ++ es) b → Dk (a ++ es) → Twn a (delAll b es) ∧ delOs b es = es.map some := by
  induction es with
  | nil => intro a b h _; exact ⟨by simpa [delAll] using h, rfl⟩
  | cons e es ih =>
    intro a b h hd
    obtain ⟨h1, h2⟩ := h.take hd
    obtain ⟨h3, h4⟩ := ih h2 (dk_drop hd)
    refine ⟨h3, ?_⟩
    unfold delOs at h4 ⊢
    rw [List.length_cons, List.range_succ_eq_map, List.map_cons, List.map_map, List.map_cons]
    congr 1
    · show kvO e.1 (look b e.1) = some e
      rw [h1]; rfl
theorem getOs_all {l b : Lst} (h : Twn l b) (hd : Dk l) : getOs b (askE l) = l.map some := by
  unfold getOs
  rw [askE_len]
  refine List.ext_getElem (by simp) fun i h1 h2 => ?_
  have hi : i < l.length := by simpa using h1
  have hk : keyAt (askE l) i = l[i].1 := by unfold keyAt askE; simp [List.getD_eq_getElem?_getD, hi]
  simp only [List.getElem_map, List.getElem_range, hk]
  have hl : look l l[i].1 = some l[i].2 := by
    have hs : l = l.take i ++ (l[i].1, l[i].2) :: l.drop (i + 1) := by
      have := List.take_append_drop i l
      rw [List.drop_eq_getElem_cons hi] at this
      exact this.symm
    have hd2 := hd
    rw [hs] at hd2
    have := look_mid (rs := l.drop (i + 1)) (v := l[i].2) fun x hx => (List.pairwise_append.1 hd2).2.2 x hx (l[i].1, l[i].2) (by simp)
    rw [← hs] at this
    exact this
  rw [← h.lk, hl]
  rfl
theorem getOs_eq {l b c : Lst} (h1 : Twn l b) (h2 : Twn l c) (es : Lst) : getOs b es = getOs c es := by
  unfold getOs
  exact List.map_congr_left fun q _ => by rw [← h1.lk, ← h2.lk]

/-- the two scripts' runs -/
theorem back_runs (first more ask : Lst) (hd : Dk (first ++ more)) (h0 : 0 < first.length) (h1 : first.length ≤ 100) (m0 : 0 < more.length) (m1 : more.length ≤ 100) (a0 : 0 < ask.length) (a1 : ask.length ≤ 100) :
    ∃ L1 L2 L3 : Lst, Twn first L1 ∧ Twn (first ++ more) L2 ∧ Twn first L3 ∧ delOs L2 more = more.map some ∧
      (∃ σ, ARuns [some []] [⟨1, 0, first⟩, ⟨3, 1, ask⟩] [⟨L1.length, insOs [] first⟩, ⟨L1.length, getOs L1 ask⟩] σ) ∧
      (∃ σ, ARuns [some []] [⟨1, 0, first⟩, ⟨1, 1, more⟩, ⟨3, 2, ask⟩, ⟨2, 2, more⟩, ⟨3, 3, ask⟩] [⟨L1.length, insOs [] first⟩, ⟨L2.length, insOs L1 more⟩, ⟨L2.length, getOs L2 ask⟩, ⟨L3.length, delOs L2 more⟩, ⟨L3.length, getOs L3 ask⟩] σ) := by
  have t1 : Twn first (insAll [] first) := by
    have := Twn.puts first (a := []) (b := []) ⟨List.Perm.refl _, List.Pairwise.nil⟩ (by rw [List.nil_append]; exact (List.pairwise_append.1 hd).1)
    simpa using this
  have t2 := Twn.puts more t1 hd
  obtain ⟨t3, t4⟩ := Twn.takes more t2 hd
  obtain ⟨L1, hL1⟩ : ∃ L, insAll [] first = L := ⟨_, rfl⟩
  have hq : (insAll [] first).length ≤ 100 := by rw [← t1.len]; exact h1
  rw [hL1] at t1 t2 t3 t4 hq
  obtain ⟨L2, hL2⟩ : ∃ L, insAll L1 more = L := ⟨_, rfl⟩
  rw [hL2] at t2 t3 t4
  have hq2 : L2.length ≤ 200 := by rw [← t2.len, List.length_append]; omega
  obtain ⟨L3, hL3⟩ : ∃ L, delAll L2 more = L := ⟨_, rfl⟩
  rw [hL3] at t3
  have hq3 : L3.length ≤ 100 := by rw [← t3.len]; exact h1
  refine ⟨L1, L2, L3, t1, t2, t3, t4, ⟨_, .cons (by simp) ⟨[], rfl, by simp, h0, h1, .inl ⟨rfl, rfl, by rw [hL1]⟩⟩ (.cons (by simp) ⟨L1, by rw [hL1]; rfl, by omega, a0, a1, .inr (.inr ⟨rfl, rfl, rfl⟩)⟩ (.nil _))⟩, ⟨_, .cons (by simp) ⟨[], rfl, by simp, h0, h1, .inl ⟨rfl, rfl, by rw [hL1]⟩⟩ (.cons (by simp) ⟨L1, by rw [hL1]; rfl, by omega, m0, m1, .inl ⟨rfl, rfl, by rw [hL2]⟩⟩ (.cons (by simp) ⟨L2, by rw [hL2]; rfl, by omega, a0, a1, .inr (.inr ⟨rfl, rfl, rfl⟩)⟩ (.cons (by simp) ⟨L2, by rw [hL2]; rfl, by omega, m0, m1, .inr (.inl ⟨rfl, rfl, by rw [hL3]⟩)⟩ (.cons (by simp) ⟨L3, by rw [hL3]; rfl, by omega, a0, a1, .inr (.inr ⟨rfl, rfl, rfl⟩)⟩ (.nil _)))))⟩⟩
end Go.Proofs.Ytidekgmpbcnfmaa
