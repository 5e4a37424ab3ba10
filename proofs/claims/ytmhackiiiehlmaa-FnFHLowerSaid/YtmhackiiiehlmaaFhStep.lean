/- impl: a heap with its entries by number; (*fhHeap).step. -/
import Derived.Test.YtmhackiiiehlmaaFhSaid
namespace Go.Proofs.Ytmhackiiiehlmaa
set_option linter.unusedVariables false
open Go.RowKit Fh

/-- a heap in block hb; L: the entries' priorities by their numbers, none where the entry is gone; F: its blocks -/
structure Hs (B : Nat) (w : World) (hb : Nat) (hq : Nat) (s : St) (A D R : List Nat) (m : Option Nat) (tp : Option Addr) (n c : Nat) (Es : List (Option Nat)) : Prop where
  hp : Hp w hq s A D R m
  hk : Blk w hb 50 #[.pointer (some ⟨hq, 0, none⟩), .slice tp n c]
  ho : w.ownsRow B 41 1 (.slice tp n c) n (Es.map pt)
  de : ∀ b, b ∈ D ↔ some b ∈ Es
  un : ∀ (b j k : Nat), Es[j]? = some (some b) → Es[k]? = some (some b) → j = k
  bA : ∀ k ∈ hb :: hq :: A, B ≤ k
def HsAt (B : Nat) (w : World) (hb : Nat) (F : List Nat) (L : List (Option Int)) : Prop :=
  ∃ (hq : Nat) (s : St) (A D R : List Nat) (m : Option Nat) (tp : Option Addr) (n c : Nat) (Es : List (Option Nat)), Hs B w hb hq s A D R m tp n c Es ∧ F = hb :: hq :: A ++ obl (.slice tp n c) ∧ L = Es.map (Option.map s.pr)
theorem Hs.len {B : Nat} {w : World} {hb hq : Nat} {s : St} {A D R : List Nat} {m : Option Nat} {tp : Option Addr} {n c : Nat} {Es : List (Option Nat)} (h : Hs B w hb hq s A D R m tp n c Es) : Es.length = n := by have := h.ho.1; simpa using this
theorem Hs.below {B : Nat} {w w' : World} {hb hq : Nat} {s : St} {A D R : List Nat} {m : Option Nat} {tp : Option Addr} {n c : Nat} {Es : List (Option Nat)} (h : Hs B w hb hq s A D R m tp n c Es) (hw : Below w.heap.size w w') : Hs B w' hb hq s A D R m tp n c Es := by
  obtain ⟨q1, q2, q3, q4, q5⟩ := h.hp
  exact ⟨⟨q1.below hw, q2, q3, q4, blk_next q5 hw⟩, blk_next h.hk hw, (Fr.of_below [] hw).own h.ho (fun _ _ h => by cases h), h.de, h.un, h.bA⟩
theorem Fr.fresh {F F' : List Nat} {w w' : World} (h : Fr F F' w w') {a : Addr} (ha : w.heap.size ≤ a.block) (u : Value) : Fr F F' w (w'.setCell a u) :=
  ⟨h.os, h.tape, h.output, by simpa using h.size, fun k hk hn => (Below.heap_setCell w' a u k (fun e => by omega)).trans (h.block k hk hn), h.next⟩
theorem Hs.res {B : Nat} {w : World} {hb hq : Nat} {s : St} {A D R : List Nat} {m : Option Nat} {tp : Option Addr} {n c : Nat} {Es : List (Option Nat)} (h : Hs B w hb hq s A D R m tp n c Es) {r : Nat} {cs : Array Value} (hr : Blk w r 37 cs) (i : Nat) (v : Value) : Hs B (w.setCell ⟨r, i, none⟩ v) hb hq s A D R m tp n c Es := by
  obtain ⟨q1, q2, q3, q4, q5⟩ := h.hp
  have hne : ∀ {b : Nat} {t : TypeId} {cs' : Array Value}, Blk w b t cs' → t ≠ 37 → b ≠ r := fun {b t cs'} hb ht e => by
    subst e
    unfold Blk at hb hr
    rw [hb] at hr
    injection hr with e
    injection e with _ e
    exact ht e
  exact ⟨⟨fun b hb => (q1 b hb).other (a := ⟨r, i, none⟩) (hne (q1 b hb) (by decide)) v, q2, q3, q4, q5.other (a := ⟨r, i, none⟩) (hne q5 (by decide)) v⟩, h.hk.other (a := ⟨r, i, none⟩) (hne h.hk (by decide)) v, ownsRow_setCell_other h.ho (a := ⟨r, i, none⟩) (row_blk h.ho hr (by decide)) v, h.de, h.un, h.bA⟩
theorem Hs.hbA {B : Nat} {w : World} {hb hq : Nat} {s : St} {A D R : List Nat} {m : Option Nat} {tp : Option Addr} {n c : Nat} {Es : List (Option Nat)} (h : Hs B w hb hq s A D R m tp n c Es) : hb ∉ hq :: A := by
  obtain ⟨q1, q2, q3, q4, q5⟩ := h.hp
  intro hm
  have hk := h.hk
  rcases List.mem_cons.1 hm with e | e
  · unfold Blk at hk q5
    rw [e, q5] at hk
    injection hk with e
    injection e with _ e
    exact absurd e (by decide)
  · have h1 := q1 hb e
    unfold Blk at hk h1
    rw [h1] at hk
    injection hk with e
    injection e with _ e
    exact absurd e (by decide)
theorem Hs.rowA {B : Nat} {w : World} {hb hq : Nat} {s : St} {A D R : List Nat} {m : Option Nat} {tp : Option Addr} {n c : Nat} {Es : List (Option Nat)} (h : Hs B w hb hq s A D R m tp n c Es) : ∀ k ∈ obl (.slice tp n c), k ∉ hb :: hq :: A := by
  obtain ⟨q1, q2, q3, q4, q5⟩ := h.hp
  intro k hk hm
  have hk := mem_obl.1 hk
  rcases List.mem_cons.1 hm with e | hm
  · subst e; exact row_blk h.ho h.hk (by decide) hk
  · rcases List.mem_cons.1 hm with e | hm
    · subst e; exact row_blk h.ho q5 (by decide) hk
    · exact row_blk h.ho (q1 k hm) (by decide) hk
theorem map_pr {s s' : St} {Es : List (Option Nat)} (h : ∀ x, some x ∈ Es → s'.pr x = s.pr x) : Es.map (Option.map s'.pr) = Es.map (Option.map s.pr) := by
  refine List.map_congr_left (fun o ho => ?_)
  cases o with
  | none => rfl
  | some x => show some _ = some _; rw [h x ho]
theorem hs_put {B : Nat} {wb wd w7 : World} {hb hq : Nat} {s s' : St} {A D R R' : List Nat} {m m' : Option Nat} {tp : Option Addr} {n c b g5 k5 : Nat} {p : Int} {Es : List (Option Nat)} (h : Hs B wb hb hq s A D R m tp n c Es) (hbA : b ∉ A) (hbb : b ≠ hb) (hBb : B ≤ b) (hbn : wb.heap.size ≤ b)
    (hp' : Hp wd hq s' (b :: A) (b :: D) R' m') (hpr : s'.pr = upd s.pr b p) (hf : Fr (hq :: A) (hq :: b :: A) wb wd)
    (ho5 : w7.ownsRow B 41 1 (.slice (some ⟨g5, 0, none⟩) (n + 1) k5) (n + 1) (Es.map pt ++ [.pointer (some ⟨b, 0, none⟩)])) (hf5 : Fr (obl (.slice tp n c)) [g5] wd w7) :
    Hs B (w7.setCell ⟨hb, 1, none⟩ (.slice (some ⟨g5, 0, none⟩) (n + 1) k5)) hb hq s' (b :: A) (b :: D) R' m' (some ⟨g5, 0, none⟩) (n + 1) k5 (Es ++ [some b]) ∧ (Es ++ [some b]).map (Option.map s'.pr) = Es.map (Option.map s.pr) ++ [some p] ∧
    Fr (hb :: hq :: A ++ obl (.slice tp n c)) (hb :: hq :: (b :: A) ++ obl (.slice (some ⟨g5, 0, none⟩) (n + 1) k5)) wb (w7.setCell ⟨hb, 1, none⟩ (.slice (some ⟨g5, 0, none⟩) (n + 1) k5)) := by
  have hbA0 := h.hbA
  have hkd := hf.blk h.hk hbA0
  have hod := hf.own h.ho (fun k hk hm => h.rowA k hk (List.mem_cons_of_mem _ hm))
  have hsub := h.hp.2.1
  obtain ⟨q1, q2, q3, q4, q5⟩ := hp'
  have hbD : b ∉ D := fun e => hbA (hsub b e)
  have hbE : some b ∉ Es := fun e => hbD ((h.de b).2 e)
  have h7 : ∀ {k : Nat} {t : TypeId} {cs : Array Value}, Blk wd k t cs → t ≠ 41 → Blk w7 k t cs := fun hk ht => hf5.blk hk (fun e => row_blk hod hk (fun e => ht e.symm) (mem_obl.1 e))
  have hk7 := h7 hkd (by decide)
  have hneh : ∀ k ∈ hq :: b :: A, k ≠ hb := fun k hk e => by
    subst e
    rcases List.mem_cons.1 hk with e | hk
    · exact hbA0 (by rw [e]; simp)
    · rcases List.mem_cons.1 hk with e | hk
      · exact hbb e.symm
      · exact hbA0 (List.mem_cons_of_mem _ hk)
  refine ⟨⟨⟨fun x hx => (h7 (q1 x hx) (by decide)).other (a := ⟨hb, 1, none⟩) (hneh x (List.mem_cons_of_mem _ hx)) _, q2, q3, q4, (h7 q5 (by decide)).other (a := ⟨hb, 1, none⟩) (hneh hq (by simp)) _⟩, hk7.set 1 _, ?_, fun x => ?_, fun x j k hj hk => ?_, fun k hk => ?_⟩, ?_, ?_⟩
  · rw [List.map_append]
    exact ownsRow_setCell_other ho5 (a := ⟨hb, 1, none⟩) (row_blk ho5 hk7 (by decide)) _
  · rw [List.mem_cons, List.mem_append, List.mem_singleton, h.de x]
    constructor
    · rintro (rfl | e)
      · exact .inr rfl
      · exact .inl e
    · rintro (e | e)
      · exact .inr e
      · injection e with e; exact .inl e
  · have hl : ∀ i, (Es ++ [some b])[i]? = some (some x) → (Es[i]? = some (some x)) ∨ (i = Es.length ∧ x = b) := fun i hi => by
      rcases Nat.lt_or_ge i Es.length with h1 | h1
      · rw [List.getElem?_append_left h1] at hi; exact .inl hi
      · rw [List.getElem?_append_right h1] at hi
        cases hz : i - Es.length with
        | zero => rw [hz] at hi; simp at hi; exact .inr ⟨by omega, hi.symm⟩
        | succ z => rw [hz] at hi; simp at hi
    rcases hl j hj with h1 | ⟨h1, h2⟩ <;> rcases hl k hk with h3 | ⟨h3, h4⟩
    · exact h.un x j k h1 h3
    · exact absurd (List.mem_of_getElem? (h4 ▸ h1)) hbE
    · exact absurd (List.mem_of_getElem? (h2 ▸ h3)) hbE
    · omega
  · rcases List.mem_cons.1 hk with rfl | hk
    · exact h.bA _ (by simp)
    · rcases List.mem_cons.1 hk with rfl | hk
      · exact h.bA _ (by simp)
      · rcases List.mem_cons.1 hk with rfl | hk
        · exact hBb
        · exact h.bA k (by simp [hk])
  · rw [List.map_append, map_pr (s := s) (s' := s') (fun x hx => by rw [hpr, upd_ne _ _ (fun e => hbE (by rw [← e]; exact hx))])]
    show _ ++ [some (s'.pr b)] = _
    rw [hpr, upd_same]
  · have f1 : Fr (hb :: hq :: A ++ obl (.slice tp n c)) (hb :: hq :: (b :: A) ++ obl (.slice tp n c)) wb wd := hf.weaken (fun k hk => by
      rcases List.mem_cons.1 hk with rfl | hk
      · simp
      · simp [hk]) (fun k hk => by
      simp only [List.cons_append, List.mem_cons, List.mem_append] at hk ⊢
      rcases hk with rfl | rfl | rfl | hk | hk
      · exact .inr (.inl rfl)
      · exact .inl (.inl rfl)
      · exact .inl (.inr (.inl rfl))
      · exact .inl (.inr (.inr hk))
      · exact .inr (.inr (.inr (.inr hk))))
    have f2 : Fr (hb :: hq :: (b :: A) ++ obl (.slice tp n c)) (hb :: hq :: (b :: A) ++ [g5]) wd w7 := hf5.weaken (fun k hk => List.mem_append_right _ hk) (fun k hk => by
      rcases List.mem_append.1 hk with hk | hk
      · exact .inr (List.mem_append_left _ hk)
      · exact .inl hk)
    exact (f1.trans f2).trans (Fr.store _ (F := hb :: hq :: (b :: A) ++ [g5]) (a := ⟨hb, 1, none⟩) (by simp) _)
/-- what a step says is stored -/
def resW (w : World) (r : Nat) (v0 v1 v2 v3 v4 : Value) : World := ((((w.setCell ⟨r, 0, none⟩ v0).setCell ⟨r, 1, none⟩ v1).setCell ⟨r, 2, none⟩ v2).setCell ⟨r, 3, none⟩ v3).setCell ⟨r, 4, none⟩ v4
theorem hs_res {B : Nat} {w : World} {hb hq : Nat} {s : St} {A D R : List Nat} {m : Option Nat} {tp : Option Addr} {n c : Nat} {Es : List (Option Nat)} (h : Hs B w hb hq s A D R m tp n c Es) {r : Nat} {cs : Array Value} (hr : Blk w r 37 cs) (v0 v1 v2 v3 v4 : Value) {F F' : List Nat} {w0 : World} (hf : Fr F F' w0 w) (hr0 : w0.heap.size ≤ r) :
    Hs B (resW w r v0 v1 v2 v3 v4) hb hq s A D R m tp n c Es ∧ Fr F F' w0 (resW w r v0 v1 v2 v3 v4) := by
  have r1 := hr.set 0 v0
  have r2 := r1.set 1 v1
  have r3 := r2.set 2 v2
  have r4 := r3.set 3 v3
  exact ⟨((((h.res hr 0 v0).res r1 1 v1).res r2 2 v2).res r3 3 v3).res r4 4 v4, (((((hf.fresh (a := ⟨r, 0, none⟩) hr0 v0).fresh (a := ⟨r, 1, none⟩) hr0 v1).fresh (a := ⟨r, 2, none⟩) hr0 v2).fresh (a := ⟨r, 3, none⟩) hr0 v3).fresh (a := ⟨r, 4, none⟩) hr0 v4)⟩
/-- a step's value -/
def stepV (op n p : Int) : Value := .agg #[.int .i64 op, .int .i64 n, .int .i64 p, .slice none 0 0]
/-- what a step says -/
def StepPost (B hb : Nat) (F : List Nat) (is : Bool) (ent0 q0 : Int) (L' : List (Option Int)) (w : World) (e : Ending) (w' : World) : Prop :=
  e = .returned (saidV is ent0 q0) ∧ ∃ F', HsAt B w' hb F' L' ∧ Fr F F' w w'
set_option maxRecDepth 100000 in
set_option maxHeartbeats 4000000 in
theorem step1_any (B hb : Nat) (F : List Nat) (L : List (Option Int)) (k p : Int) (w : World) (h : HsAt B w hb F L) (hp : Sm p) (hn : L.length ≤ 500) (hB : B ≤ w.heap.size) :
    Calls Try.prog 14 #[.pointer (some ⟨hb, 0, none⟩), stepV 1 k p] w (StepPost B hb F true (L.length : Int) p (L ++ [some p]) w) := by
  obtain ⟨hq, s, A, D, R, m, tp, n, c, Es, hs, rfl, rfl⟩ := h
  have hlen := hs.len
  rw [List.length_map, hlen] at hn ⊢
  have HS := Lib.hid hs
  have c0 := hs.hk.cell 0 rfl
  have hlt := hs.hk.lt
  have hlt2 := hs.hp.2.2.2.2.lt
  have hDn : D.length ≤ 1000 := by
    have h1 : (D.map some).length ≤ Es.length := by
      have hnd : (D.map some).Nodup := by
        have := hs.hp.2.2.1.2.1
        exact List.Pairwise.map _ (fun a b e e2 => e (by injection e2)) this
      have hsub : ∀ x ∈ D.map some, x ∈ Es := fun x hx => by
        obtain ⟨b, hb, rfl⟩ := List.mem_map.1 hx
        exact (hs.de b).1 hb
      exact hnd.length_le_of_subset hsub
    rw [List.length_map] at h1
    omega
  have HEN := Lib.hid (fun w2 (h2 : Hp w2 hq s A D R m) => enqueue_any p hp hq s A D R m w2 h2 hDn)
  have hfl : ∀ w, (convert 3 57 (.int .i64 p)).run Try.prog w = .ok (.float .f64 (fl p)) w := by
    intro w; exact run_convert_int_float w 3 57 .i64 .f64 p (by kernel_rfl) (by kernel_rfl)
  have HP := Lib.hid hp
  clear hs hp hDn
  unfold stepV
  go_enter Try.func14, Try.ntmps14
  go_upto_region 3 with fail
  obtain ⟨wb, hwb⟩ : ∃ wb, wb = ((w.alloc (.cells #[.int .i64 1, .int .i64 k, .int .i64 p, .slice none 0 0] 32)).alloc (.cells #[.bool false, .int .i64 0, .int .i64 0, .int .i64 0, .bool false] 37)) := ⟨_, rfl⟩
  have hsz : wb.heap.size = w.heap.size + 2 := by rw [hwb, World.size_alloc, World.size_alloc]
  have hbel : Below w.heap.size w wb := by rw [hwb]; exact ((Below.refl _ _).alloc (Nat.le_refl _) _).alloc (by simp) _
  have hbox : Blk wb w.heap.size 32 #[.int .i64 1, .int .i64 k, .int .i64 p, .slice none 0 0] := by rw [hwb]; exact (Blk.new w _ _).alloc _
  have hres : Blk wb (w.heap.size + 1) 37 #[.bool false, .int .i64 0, .int .i64 0, .int .i64 0, .bool false] := by
    rw [hwb]
    have q := Blk.new (w.alloc (.cells #[.int .i64 1, .int .i64 k, .int .i64 p, .slice none 0 0] 32)) 37 #[.bool false, .int .i64 0, .int .i64 0, .int .i64 0, .bool false]
    rw [World.size_alloc] at q
    exact q
  rw [← hwb]
  clear hwb
  have hs1 := HS.out.below hbel
  have HS1 := Lib.hid hs1
  have HBEL := Lib.hid hbel
  have HRES := Lib.hid hres
  have c0 := hs1.hk.cell 0 rfl
  have b2 := hbox.cell 2 rfl
  have hltw : hb < wb.heap.size := by omega
  clear hs1 hbox hres hbel
  go_cut [5] from 18 to 25 (fun s5 wx => s5 = .pointer (some ⟨w.heap.size + 2, 0, none⟩) ∧ ∃ s' R' m', Hp wx hq s' ((w.heap.size + 2) :: A) ((w.heap.size + 2) :: D) R' m' ∧ s'.pr = upd s.pr (w.heap.size + 2) p ∧ Fr (hq :: A) (hq :: (w.heap.size + 2) :: A) wb wx)
  case first =>
    obtain ⟨F1, hF1⟩ : ∃ F1, fl p = F1 := ⟨_, rfl⟩
    rw [hF1] at hfl HEN
    clear hF1
    go_region_law ((go_simp; go_at_call 19; refine Calls.mono (HEN.out _ HS1.out.hp) ?_; rintro e w3 ⟨s3, R3, m3, rfl, hp3, hpr3, hf3⟩; have HP3 := Lib.hid hp3; have HPR3 := Lib.hid hpr3; have HF3 := Lib.hid hf3; clear hp3 hpr3 hf3))
    all_goals (try go_wp2_with fail)
    all_goals
      go_meet
      have q1 : Hp w3 hq s3 (wb.heap.size :: A) (wb.heap.size :: D) R3 m3 := HP3.out
      have q2 : s3.pr = upd s.pr wb.heap.size p := HPR3.out
      have q3 : Fr (hq :: A) (hq :: wb.heap.size :: A) wb w3 := ⟨HF3.out.os, HF3.out.tape, HF3.out.output, HF3.out.size, HF3.out.block, HF3.out.next⟩
      rw [hsz] at q1 q2 q3
      exact ⟨rfl, s3, R3, m3, q1, q2, q3⟩
  case rest =>
    obtain ⟨rfl, s', R', m', hp', hpr', hf'⟩ := hcut
    obtain ⟨wd, rfl⟩ : ∃ y, y = wc := ⟨_, rfl⟩
    obtain ⟨b, hb2⟩ : ∃ b, w.heap.size + 2 = b := ⟨_, rfl⟩
    rw [hb2] at hp' hpr' hf' ⊢
    have hbA := HS1.out.hbA
    have hk4 := hf'.blk HS1.out.hk hbA
    have ho4 := hf'.own HS1.out.ho (fun k hk hm => HS1.out.rowA k hk (List.mem_cons_of_mem _ hm))
    have hne : ∀ k ∈ hq :: A, k ≠ w.heap.size + 1 := fun k hk e => by
      have h1 : k < w.heap.size := by
        rcases List.mem_cons.1 hk with rfl | hk
        · exact hlt2
        · exact HS.out.hp.1.lt k hk
      omega
    have hr4 := hf'.blk HRES.out (fun hm => hne _ hm rfl)
    have hsz4 : wb.heap.size ≤ wd.heap.size := hf'.size
    have HP4 := Lib.hid hp'
    have HPR4 := Lib.hid hpr'
    have HF4 := Lib.hid hf'
    have HK4 := Lib.hid hk4
    have HO4 := Lib.hid ho4
    have HR4 := Lib.hid hr4
    have HBB := Lib.hid hb2
    have c1 := hk4.cell 1 rfl
    have f1 := hk4.free 1
    have hltb : hb < wd.heap.size := by omega
    have hBd : B ≤ wd.heap.size := by omega
    clear hp' hpr' hf' hk4 ho4 hr4 c0 b2 hne hbA hb2
    go_upto_region 5 with (at_builtin; refine wpList_append1A rfl _ _ 48 rfl B 41 (.pointer none) 8 Try.underlying48 info_pent rfl (.slice tp n c) n (Es.map pt) rfl HO4.out (.pointer (some ⟨b, 0, none⟩)) rfl rfl (by unfold maxLen; omega) (by omega) hBd ?_; intro g5 k5 w7 hown5 hf5; have HO5 := Lib.hid hown5; have HF5 := Lib.hid hf5; have c1' := (hf5.blk HK4.out (fun hm => row_blk HO4.out HK4.out (by decide) (mem_obl.1 hm))).cell 1 rfl; have f1' := (hf5.blk HK4.out (fun hm => row_blk HO4.out HK4.out (by decide) (mem_obl.1 hm))).free 1; clear hown5 hf5)
    have hbA2 : b ∉ A := fun hm => by have := HS.out.hp.1.lt b hm; have := HBB.out; omega
    obtain ⟨hsE, hLE, hfE⟩ := hs_put HS1.out hbA2 (by have := HBB.out; omega) (by have := HBB.out; omega) (by have := HBB.out; omega) HP4.out HPR4.out HF4.out HO5.out HF5.out
    obtain ⟨wE, hwE⟩ : ∃ wE, wE = w7.setCell ⟨hb, 1, none⟩ (.slice (some ⟨g5, 0, none⟩) (n + 1) k5) := ⟨_, rfl⟩
    rw [← hwE] at hsE hfE ⊢
    have hrE : Blk wE (w.heap.size + 1) 37 #[.bool false, .int .i64 0, .int .i64 0, .int .i64 0, .bool false] := by
      rw [hwE]
      refine (HF5.out.blk HR4.out (fun hm => row_blk HO4.out HR4.out (by decide) (mem_obl.1 hm))).other (a := ⟨hb, 1, none⟩) (fun e => ?_) _
      have e : w.heap.size + 1 = hb := e
      omega
    have hpb : s'.pr b = p := by rw [HPR4.out, upd_same]
    have HSD := Lib.hid (said_any hb (.pointer (some ⟨hq, 0, none⟩)) b s' (b :: A) B (n + 1) k5 (some ⟨g5, 0, none⟩) (Es ++ [some b]) wE hsE.hk hsE.ho hsE.hp.1 (fun x hx => hsE.hp.2.1 x ((hsE.de x).2 hx)) (by simp) (by rw [hpb]; exact HP.out) (hsE.un b) (by omega))
    have HSE := Lib.hid hsE
    have HLE := Lib.hid hLE
    have HFE := Lib.hid hfE
    have HRE := Lib.hid hrE
    have HPB := Lib.hid hpb
    clear hsE hLE hfE hrE hpb hwE c1 f1 c1' f1' HO5 HF5 HP4 HPR4 HF4 HK4 HO4 HR4 hbA2
    go_wp2_with fail
    refine HSD.out.mono ?_
    rintro e wG ⟨⟨fe, q, rfl, hfnd⟩, hbG⟩
    obtain ⟨rfl, rfl⟩ := hfnd.yes n (by omega) (by rw [List.getElem?_append_right (by rw [hlen]; exact Nat.le_refl _), hlen, Nat.sub_self]; rfl)
    rw [HPB.out]
    have hrG := blk_next HRE.out hbG
    have r0 := hrG.cell 0 rfl
    have r1 := hrG.cell 1 rfl
    have r2 := hrG.cell 2 rfl
    have r3 := hrG.cell 3 rfl
    have r4 := hrG.cell 4 rfl
    have g0 := hrG.free 0
    have g1 := hrG.free 1
    have g2 := hrG.free 2
    have g3 := hrG.free 3
    have g4 := hrG.free 4
    have HRG := Lib.hid hrG
    have HBG := Lib.hid hbG
    clear hfnd hbG hrG
    unfold saidV
    go_wp2_with fail
    refine bodyPost_ret (v := saidV true (n : Int) p) (by simp [results, Try.results14, go_sem, saidV, *]) rfl ?_
    have hfr : Fr (hb :: hq :: A ++ obl (.slice tp n c)) (hb :: hq :: (b :: A) ++ obl (.slice (some ⟨g5, 0, none⟩) (n + 1) k5)) w wG :=
      ((Fr.of_below _ HBEL.out).trans HFE.out).trans (Fr.of_below _ HBG.out)
    obtain ⟨hsF, hfF⟩ := hs_res (HSE.out.below HBG.out) HRG.out (.bool true) (.int .i64 (n : Int)) (.int .i64 p) (.int .i64 0) (.bool false) hfr (Nat.le_succ _)
    exact ⟨rfl, _, ⟨hq, s', b :: A, b :: D, R', m', _, _, _, _, hsF, rfl, HLE.out.symm⟩, hfF⟩
theorem hs_dcount {B : Nat} {w : World} {hb hq : Nat} {s : St} {A D R : List Nat} {m : Option Nat} {tp : Option Addr} {n c : Nat} {Es : List (Option Nat)} (h : Hs B w hb hq s A D R m tp n c Es) (hn : n ≤ 500) : D.length ≤ 1000 := by
  have h1 : (D.map some).length ≤ Es.length := by
    have hnd : (D.map some).Nodup := List.Pairwise.map _ (fun a b e e2 => e (by injection e2)) h.hp.2.2.1.2.1
    have hsub : ∀ x ∈ D.map some, x ∈ Es := fun x hx => by
      obtain ⟨b, hb, rfl⟩ := List.mem_map.1 hx
      exact (h.de b).1 hb
    exact hnd.length_le_of_subset hsub
  rw [List.length_map, h.len] at h1
  omega
/-- a number's entry -/
theorem at_pr {s : St} {Es : List (Option Nat)} {j : Nat} {q : Int} (h : (Es.map (Option.map s.pr))[j]? = some (some q)) : ∃ b, Es[j]? = some (some b) ∧ s.pr b = q := by
  rw [List.getElem?_map] at h
  cases hj : Es[j]? with
  | none => rw [hj] at h; cases h
  | some o =>
    rw [hj] at h
    cases o with
    | none => injection h with h; cases h
    | some b => injection h with h; injection h with h; exact ⟨b, rfl, h⟩
theorem pr_at {s : St} {Es : List (Option Nat)} {j b : Nat} (h : Es[j]? = some (some b)) : (Es.map (Option.map s.pr))[j]? = some (some (s.pr b)) := by
  rw [List.getElem?_map, h]; rfl
/-- the least root is there, and is the least of all -/
theorem hs_min {B : Nat} {w : World} {hb hq : Nat} {s : St} {A D R : List Nat} {m : Option Nat} {tp : Option Addr} {n c : Nat} {Es : List (Option Nat)} (h : Hs B w hb hq s A D R m tp n c Es) {j b : Nat} (hj : Es[j]? = some (some b)) :
    ∃ a i : Nat, m = some a ∧ a ∈ D ∧ Es[i]? = some (some a) ∧ i < n ∧ ∀ k x : Nat, Es[k]? = some (some x) → s.pr a ≤ s.pr x := by
  obtain ⟨q1, q2, ⟨⟨K, P, q3, q4, q5⟩, q6, q7⟩, q8, q9⟩ := h.hp
  have hbD : b ∈ D := (h.de b).2 (List.mem_of_getElem? hj)
  cases m with
  | none =>
    have hR : R = [] := q8
    have := q3.least (fun y hy b hb => q5 y hy (by simp) b hb) (v := s.pr b + 1) (fun z hz => by rw [hR] at hz; cases hz) b hbD
    omega
  | some a =>
    have haD := (least_mem q3 q8).1
    obtain ⟨i, hi⟩ := List.getElem?_of_mem ((h.de a).1 haD)
    refine ⟨a, i, rfl, haD, hi, ?_, fun k x hk => q3.least (fun y hy b hb => q5 y hy (by simp) b hb) (v := s.pr a) (fun z hz => q8.2 z (by rwa [List.append_nil] at hz)) x ((h.de x).2 (List.mem_of_getElem? hk))⟩
    have := (List.getElem?_eq_some_iff.1 hi).1
    rw [h.len] at this
    exact this
/-- an entry is gone -/
theorem hs_gone {B : Nat} {wb wd wg : World} {hb hq : Nat} {s s' : St} {A D R R' : List Nat} {m m' : Option Nat} {g n c a j : Nat} {Es : List (Option Nat)} (h : Hs B wb hb hq s A D R m (some ⟨g, 0, none⟩) n c Es) (hj : Es[j]? = some (some a))
    (hp' : Hp wd hq s' A (D.filter fun x => decide (x ≠ a)) R' m') (hpr : s'.pr = s.pr) (hf : Fr (hq :: A) (hq :: A) wb wd) (hg : Below wd.heap.size wd wg) :
    Hs B (wg.setCell ⟨g, j, none⟩ (pt none)) hb hq s' A (D.filter fun x => decide (x ≠ a)) R' m' (some ⟨g, 0, none⟩) n c (Es.set j none) ∧ (Es.set j none).map (Option.map s'.pr) = (Es.map (Option.map s.pr)).set j none ∧
    Fr (hb :: hq :: A ++ obl (.slice (some ⟨g, 0, none⟩) n c)) (hb :: hq :: A ++ obl (.slice (some ⟨g, 0, none⟩) n c)) wb (wg.setCell ⟨g, j, none⟩ (pt none)) := by
  have hkd := blk_next (hf.blk h.hk h.hbA) hg
  have hod := (Fr.of_below [] hg).own (hf.own h.ho (fun k hk hm => h.rowA k hk (List.mem_cons_of_mem _ hm))) (fun _ _ h => by cases h)
  obtain ⟨q1, q2, q3, q4, q5⟩ := hp'
  have q1' := q1.below hg
  have q5' := blk_next q5 hg
  have hng : ∀ {k : Nat} {t : TypeId} {cs : Array Value}, Blk wg k t cs → t ≠ 41 → k ≠ g := fun hk ht e => row_blk hod hk (fun e => ht e.symm) (by rw [e]; rfl)
  refine ⟨⟨⟨fun x hx => (q1' x hx).other (a := ⟨g, j, none⟩) (hng (q1' x hx) (by decide)) _, q2, q3, q4, q5'.other (a := ⟨g, j, none⟩) (hng q5' (by decide)) _⟩, hkd.other (a := ⟨g, j, none⟩) (hng hkd (by decide)) _, ?_, fun x => ?_, fun x i k hi hk => ?_, h.bA⟩, ?_, ?_⟩
  · rw [List.map_set]; exact (hod.stored j (pt none)).1
  · rw [List.mem_filter, h.de x, decide_eq_true_eq]
    constructor
    · rintro ⟨h1, h2⟩
      obtain ⟨i, hi⟩ := List.getElem?_of_mem h1
      have hij : i ≠ j := fun e => by rw [e, hj] at hi; injection hi with hi; injection hi with hi; exact h2 hi.symm
      exact List.mem_of_getElem? (by rw [List.getElem?_set_ne (Ne.symm hij)]; exact hi)
    · intro h1
      obtain ⟨i, hi⟩ := List.getElem?_of_mem h1
      have hij : i ≠ j := fun e => by
        rw [e, List.getElem?_set_self (List.getElem?_eq_some_iff.1 hj).1] at hi
        cases hi
      rw [List.getElem?_set_ne (Ne.symm hij)] at hi
      exact ⟨List.mem_of_getElem? hi, fun e => hij (h.un a i j (e ▸ hi) hj)⟩
  · have hij : ∀ z, (Es.set j none)[z]? = some (some x) → Es[z]? = some (some x) := fun z hz => by
      by_cases e : z = j
      · rw [e, List.getElem?_set_self (List.getElem?_eq_some_iff.1 hj).1] at hz; cases hz
      · rwa [List.getElem?_set_ne (Ne.symm e)] at hz
    exact h.un x i k (hij i hi) (hij k hk)
  · rw [hpr, List.map_set]; rfl
  · have f1 : Fr (hb :: hq :: A ++ obl (.slice (some ⟨g, 0, none⟩) n c)) (hb :: hq :: A ++ obl (.slice (some ⟨g, 0, none⟩) n c)) wb wd := hf.weaken (fun k hk => by
      rcases List.mem_cons.1 hk with rfl | hk
      · simp
      · simp [hk]) (fun k hk => .inr hk)
    exact (f1.trans (Fr.of_below _ hg)).trans (Fr.store _ (F := hb :: hq :: A ++ obl (.slice (some ⟨g, 0, none⟩) n c)) (a := ⟨g, j, none⟩) (by simp [obl_some]) _)

set_option maxRecDepth 100000 in
set_option maxHeartbeats 4000000 in
theorem step3_any (B hb : Nat) (F : List Nat) (L : List (Option Int)) (k p : Int) (w : World) (h : HsAt B w hb F L) (hn : L.length ≤ 500) (hB : B ≤ w.heap.size) (hL : ∃ (j : Nat) (q : Int), L[j]? = some (some q)) :
    Calls Try.prog 14 #[.pointer (some ⟨hb, 0, none⟩), stepV 3 k p] w fun e w' => ∃ (j : Nat) (q : Int), L[j]? = some (some q) ∧ (∀ (i : Nat) (r : Int), L[i]? = some (some r) → q ≤ r) ∧ StepPost B hb F true (j : Int) q (L.set j none) w e w' := by
  obtain ⟨hq, s, A, D, R, m, tp, n, c, Es, hs, rfl, rfl⟩ := h
  have hlen := hs.len
  rw [List.length_map, hlen] at hn
  obtain ⟨j0, q0, hL⟩ := hL
  obtain ⟨b0, hb0, -⟩ := at_pr hL
  obtain ⟨a, j, rfl, haD, hja, hjn, hmin⟩ := hs_min hs hb0
  obtain ⟨g, rfl⟩ : ∃ g, tp = some ⟨g, 0, none⟩ := by
    rcases hs.ho.2 with ⟨e, h0⟩ | ⟨g, cap, cur, e, _⟩
    · omega
    · injection e with e1 e2 e3
      exact ⟨g, e1⟩
  have HS := Lib.hid hs
  have HJA := Lib.hid hja
  have HMIN := Lib.hid hmin
  have HAD := Lib.hid haD
  have c0 := hs.hk.cell 0 rfl
  have hlt := hs.hk.lt
  have hlt2 := hs.hp.2.2.2.2.lt
  have HEN := Lib.hid (fun w2 (h2 : Hp w2 hq s A D R (some a)) => dequeue_any hq s A D R a w2 h2 (hs_dcount hs hn))
  have HPA := Lib.hid (hs.hp.2.2.1.2.2 a haD)
  have haA := hs.hp.2.1 a haD
  clear hs hb0 hL hja hmin haD
  unfold stepV
  go_enter Try.func14, Try.ntmps14
  go_upto_region 9 with fail
  obtain ⟨wb, hwb⟩ : ∃ wb, wb = ((w.alloc (.cells #[.int .i64 3, .int .i64 k, .int .i64 p, .slice none 0 0] 32)).alloc (.cells #[.bool false, .int .i64 0, .int .i64 0, .int .i64 0, .bool false] 37)) := ⟨_, rfl⟩
  have hsz : wb.heap.size = w.heap.size + 2 := by rw [hwb, World.size_alloc, World.size_alloc]
  have hbel : Below w.heap.size w wb := by rw [hwb]; exact ((Below.refl _ _).alloc (Nat.le_refl _) _).alloc (by simp) _
  have hres : Blk wb (w.heap.size + 1) 37 #[.bool false, .int .i64 0, .int .i64 0, .int .i64 0, .bool false] := by
    rw [hwb]
    have q := Blk.new (w.alloc (.cells #[.int .i64 3, .int .i64 k, .int .i64 p, .slice none 0 0] 32)) 37 #[.bool false, .int .i64 0, .int .i64 0, .int .i64 0, .bool false]
    rw [World.size_alloc] at q
    exact q
  rw [← hwb]
  clear hwb
  have hs1 := HS.out.below hbel
  have HS1 := Lib.hid hs1
  have HBEL := Lib.hid hbel
  have HRES := Lib.hid hres
  have c0 := hs1.hk.cell 0 rfl
  have hltw : hb < wb.heap.size := by omega
  clear hs1 hres hbel
  go_wp2_with fail
  refine (HEN.out wb HS1.out.hp).mono ?_
  rintro e wd ⟨s', R', m', rfl, hp', hpr', hf'⟩
  have hbA := HS1.out.hbA
  have hk4 := hf'.blk HS1.out.hk hbA
  have ho4 := hf'.own HS1.out.ho (fun k hk hm => HS1.out.rowA k hk (List.mem_cons_of_mem _ hm))
  have hne : ∀ k ∈ hq :: A, k ≠ w.heap.size + 1 := fun k hk e => by
    have h1 : k < w.heap.size := by
      rcases List.mem_cons.1 hk with rfl | hk
      · exact hlt2
      · exact HS.out.hp.1.lt k hk
    omega
  have hr4 := hf'.blk HRES.out (fun hm => hne _ hm rfl)
  have hsz4 : wb.heap.size ≤ wd.heap.size := hf'.size
  have HSD := Lib.hid (said_any hb (.pointer (some ⟨hq, 0, none⟩)) a s' A B n c (some ⟨g, 0, none⟩) Es wd hk4 ho4 hp'.1 (fun x hx => HS.out.hp.2.1 x ((HS.out.de x).2 hx)) haA (by rw [hpr']; exact HPA.out) (HS.out.un a) (by omega))
  have HP4 := Lib.hid hp'
  have HPR4 := Lib.hid hpr'
  have HF4 := Lib.hid hf'
  have HK4 := Lib.hid hk4
  have HO4 := Lib.hid ho4
  have HR4 := Lib.hid hr4
  clear hp' hpr' hf' hk4 ho4 hr4 hne hbA c0
  go_wp2_with fail
  refine HSD.out.mono ?_
  rintro e wG ⟨⟨fe, q, rfl, hfnd⟩, hbG⟩
  obtain ⟨rfl, rfl⟩ := hfnd.yes j hjn HJA.out
  rw [HPR4.out]
  have HBG := Lib.hid hbG
  clear hfnd hbG
  obtain ⟨q, hq9⟩ : ∃ q, s.pr a = q := ⟨_, rfl⟩
  rw [hq9]
  have HQ9 := Lib.hid hq9
  clear hq9
  unfold saidV
  go_upto_region 10 with fail
  obtain ⟨wH, hwH⟩ : ∃ wH, wH = wG.alloc (.cells #[.bool true, .int .i64 (j : Int), .int .i64 q, .int .i64 0, .bool false] 37) := ⟨_, rfl⟩
  have hbH : Below wd.heap.size wd wH := by rw [hwH]; exact HBG.out.alloc HBG.out.size _
  have hoB : Blk wH wG.heap.size 37 #[.bool true, .int .i64 (j : Int), .int .i64 q, .int .i64 0, .bool false] := by rw [hwH]; exact Blk.new wG _ _
  have hGs : wd.heap.size ≤ wG.heap.size := HBG.out.size
  have hHs : wH.heap.size = wG.heap.size + 1 := by rw [hwH, World.size_alloc]
  rw [← hwH]
  clear hwH
  obtain ⟨hsI, hLI, hfI⟩ := hs_gone HS1.out HJA.out HP4.out HPR4.out HF4.out hbH
  have HGN := Lib.hid (gone_any hb (.pointer (some ⟨hq, 0, none⟩)) B n c g j Es wH (blk_next HK4.out hbH) ((Fr.of_below [] hbH).own HO4.out (fun _ _ h => by cases h)) (by omega) hjn)
  have hrH := blk_next HR4.out hbH
  have hng : ∀ {z : Nat} {t : TypeId} {cs : Array Value}, Blk wH z t cs → t ≠ 41 → z ≠ g := fun hk ht e => row_blk ((Fr.of_below [] hbH).own HO4.out (fun _ _ h => by cases h)) hk (fun e => ht e.symm) (by rw [e]; rfl)
  have hrI := hrH.other (a := ⟨g, j, none⟩) (hng hrH (by decide)) (pt none)
  have hoI := hoB.other (a := ⟨g, j, none⟩) (hng hoB (by decide)) (pt none)
  obtain ⟨wI, hwI⟩ : ∃ wI, wI = wH.setCell ⟨g, j, none⟩ (pt none) := ⟨_, rfl⟩
  have o1 := hoB.cell 1 rfl
  rw [← hwI] at hsI hfI hrI hoI HGN
  have HSI := Lib.hid hsI
  have HLI := Lib.hid hLI
  have HFI := Lib.hid hfI
  have HRI := Lib.hid hrI
  have HOI := Lib.hid hoI
  clear hwI hsI hLI hfI hrI hoI hrH hoB
  go_wp2_with fail
  refine HGN.out.mono ?_
  rintro e w9 ⟨rfl, rfl⟩
  have r0 := HRI.out.cell 0 rfl
  have r1 := HRI.out.cell 1 rfl
  have r2 := HRI.out.cell 2 rfl
  have r3 := HRI.out.cell 3 rfl
  have r4 := HRI.out.cell 4 rfl
  have g0 := HRI.out.free 0
  have g1 := HRI.out.free 1
  have g2 := HRI.out.free 2
  have g3 := HRI.out.free 3
  have g4 := HRI.out.free 4
  have q0' := HOI.out.cell 0 rfl
  have q1 := HOI.out.cell 1 rfl
  have q2 := HOI.out.cell 2 rfl
  have q3 := HOI.out.cell 3 rfl
  have q4 := HOI.out.cell 4 rfl
  clear o1
  go_wp2_with fail
  refine bodyPost_ret (v := saidV true (j : Int) q) (by simp [results, Try.results14, go_sem, saidV, *]) rfl ?_
  have hfr : Fr (hb :: hq :: A ++ obl (.slice (some ⟨g, 0, none⟩) n c)) (hb :: hq :: A ++ obl (.slice (some ⟨g, 0, none⟩) n c)) w w9 := (Fr.of_below _ HBEL.out).trans HFI.out
  obtain ⟨hsF, hfF⟩ := hs_res HSI.out HRI.out (.bool true) (.int .i64 (j : Int)) (.int .i64 q) (.int .i64 0) (.bool false) hfr (Nat.le_succ _)
  refine ⟨j, q, ?_, fun i r hi => ?_, rfl, _, ⟨hq, s', A, _, R', m', _, _, _, _, hsF, rfl, HLI.out.symm⟩, hfF⟩
  · rw [pr_at HJA.out, HQ9.out]
  · obtain ⟨x, hx, rfl⟩ := at_pr hi
    rw [← HQ9.out]
    exact HMIN.out i x hx
set_option maxRecDepth 100000 in
set_option maxHeartbeats 4000000 in
theorem step2_any (B hb : Nat) (F : List Nat) (L : List (Option Int)) (k p : Int) (w : World) (h : HsAt B w hb F L) (hn : L.length ≤ 500) (hB : B ≤ w.heap.size) (hL : ∀ (j : Nat) (q : Int), L[j]? ≠ some (some q)) :
    Calls Try.prog 14 #[.pointer (some ⟨hb, 0, none⟩), stepV 2 k p] w (StepPost B hb F false (-1) 0 L w) := by
  obtain ⟨hq, s, A, D, R, m, tp, n, c, Es, hs, rfl, rfl⟩ := h
  have hlen := hs.len
  rw [List.length_map, hlen] at hn
  have hD : D = [] := by
    cases hD : D with
    | nil => rfl
    | cons x D' =>
      obtain ⟨j, hj⟩ := List.getElem?_of_mem ((hs.de x).1 (by rw [hD]; simp))
      exact absurd (pr_at (s := s) hj) (hL j _)
  have HS := Lib.hid hs
  have c0 := hs.hk.cell 0 rfl
  have hlt := hs.hk.lt
  have hlt2 := hs.hp.2.2.2.2.lt
  have hkq := hs.hp.2.2.2.2
  rw [hD] at hkq
  have HMN := Lib.hid (fun w2 (h2 : Blk w2 hq 44 #[pt m, .int .u64 ((0 : Nat) : Int)]) => min_any hq (pt m) w2 h2)
  have HKQ := Lib.hid hkq
  have hneq : ∀ (T : TypeId) (v : Value) (w : World), (binOp .eql 60 (.iface T v) .nilIface).run Try.prog w = .ok (.bool false) w := fun T v w => by
    have h : ∀ d : Nat, (Op.equalIn (d + 1) 60 (.iface T v) .nilIface).run Try.prog w = .ok false w := fun d => by simp [Op.equalIn, run_underlying Try.underlying60]
    simp only [binOp]
    simp [Op.equal, Op.maxDepth, h 9999]
  clear hs hL hD hkq
  unfold stepV
  go_enter Try.func14, Try.ntmps14
  go_upto_region 7 with fail
  obtain ⟨wb, hwb⟩ : ∃ wb, wb = ((w.alloc (.cells #[.int .i64 2, .int .i64 k, .int .i64 p, .slice none 0 0] 32)).alloc (.cells #[.bool false, .int .i64 0, .int .i64 0, .int .i64 0, .bool false] 37)) := ⟨_, rfl⟩
  have hsz : wb.heap.size = w.heap.size + 2 := by rw [hwb, World.size_alloc, World.size_alloc]
  have hbel : Below w.heap.size w wb := by rw [hwb]; exact ((Below.refl _ _).alloc (Nat.le_refl _) _).alloc (by simp) _
  have hres : Blk wb (w.heap.size + 1) 37 #[.bool false, .int .i64 0, .int .i64 0, .int .i64 0, .bool false] := by
    rw [hwb]
    have q := Blk.new (w.alloc (.cells #[.int .i64 2, .int .i64 k, .int .i64 p, .slice none 0 0] 32)) 37 #[.bool false, .int .i64 0, .int .i64 0, .int .i64 0, .bool false]
    rw [World.size_alloc] at q
    exact q
  rw [← hwb]
  clear hwb
  have hs1 := HS.out.below hbel
  have HS1 := Lib.hid hs1
  have HBEL := Lib.hid hbel
  have HRES := Lib.hid hres
  have c0 := hs1.hk.cell 0 rfl
  have hltw : hb < wb.heap.size := by omega
  have HMN2 := Lib.hid (HMN.out wb (blk_next HKQ.out hbel))
  have HNE := Lib.hid hneq
  clear hs1 hres hbel hneq
  go_wp2_with fail
  refine HMN2.out.mono ?_
  rintro e wd ⟨⟨T, v, rfl⟩, rfl⟩
  have HSD := Lib.hid (saidnil_any hb (.pointer (some ⟨hq, 0, none⟩)) T v A s B n c tp Es wd HS1.out.hk HS1.out.ho (by omega) (HNE.out T v))
  go_wp2_with fail
  refine HSD.out.mono ?_
  rintro e wG ⟨rfl, hbG⟩
  have hrG := blk_next HRES.out hbG
  have r0 := hrG.cell 0 rfl
  have r1 := hrG.cell 1 rfl
  have r2 := hrG.cell 2 rfl
  have r3 := hrG.cell 3 rfl
  have r4 := hrG.cell 4 rfl
  have g0 := hrG.free 0
  have g1 := hrG.free 1
  have g2 := hrG.free 2
  have g3 := hrG.free 3
  have g4 := hrG.free 4
  have HRG := Lib.hid hrG
  have HBG := Lib.hid hbG
  clear hbG hrG c0
  unfold saidV
  go_wp2_with fail
  refine bodyPost_ret (v := saidV false (-1) 0) (by simp [results, Try.results14, go_sem, saidV, *]) rfl ?_
  have hfr : Fr (hb :: hq :: A ++ obl (.slice tp n c)) (hb :: hq :: A ++ obl (.slice tp n c)) w wG := (Fr.of_below _ HBEL.out).trans (Fr.of_below _ HBG.out)
  obtain ⟨hsF, hfF⟩ := hs_res (HS1.out.below HBG.out) HRG.out (.bool false) (.int .i64 (-1)) (.int .i64 0) (.int .i64 0) (.bool false) hfr (Nat.le_succ _)
  exact ⟨rfl, _, ⟨hq, s, A, D, R, m, _, _, _, _, hsF, rfl, rfl⟩, hfF⟩
/-- a priority is decreased -/
theorem hs_dec {B : Nat} {wb wd : World} {hb hq : Nat} {s s' : St} {A D R R' : List Nat} {m m' : Option Nat} {tp : Option Addr} {n c a j : Nat} {p : Int} {Es : List (Option Nat)} (h : Hs B wb hb hq s A D R m tp n c Es) (hj : Es[j]? = some (some a))
    (hp' : Hp wd hq s' A D R' m') (hpr : s'.pr = upd s.pr a p) (hf : Fr (hq :: A) (hq :: A) wb wd) :
    Hs B wd hb hq s' A D R' m' tp n c Es ∧ Es.map (Option.map s'.pr) = (Es.map (Option.map s.pr)).set j (some p) ∧
    Fr (hb :: hq :: A ++ obl (.slice tp n c)) (hb :: hq :: A ++ obl (.slice tp n c)) wb wd := by
  refine ⟨⟨hp', hf.blk h.hk h.hbA, hf.own h.ho (fun k hk hm => h.rowA k hk (List.mem_cons_of_mem _ hm)), h.de, h.un, h.bA⟩, ?_, hf.weaken (fun k hk => by
      rcases List.mem_cons.1 hk with rfl | hk
      · simp
      · simp [hk]) (fun k hk => .inr hk)⟩
  apply List.ext_getElem?
  intro i
  by_cases hij : i = j
  · subst hij
    rw [List.getElem?_set_self (by rw [List.length_map]; exact (List.getElem?_eq_some_iff.1 hj).1), pr_at hj, hpr, upd_same]
  · rw [List.getElem?_set_ne (Ne.symm hij), List.getElem?_map, List.getElem?_map]
    cases hi : Es[i]? with
    | none => rfl
    | some o =>
      cases o with
      | none => rfl
      | some x =>
        have hxa : x ≠ a := fun e => hij (h.un a i j (e ▸ hi) hj)
        show some (some (s'.pr x)) = some (some (s.pr x))
        rw [hpr, upd_ne _ _ hxa]
end Go.Proofs.Ytmhackiiiehlmaa
