/- impl's arrays in memory: a list of bit arrays, each with its own blocks; walks of made and at. -/
import Derived.Test.YtgifbdjifmoafaaGreatBaSp3
import Derived.Test.YtgifbdjifmoafaaGreatBaNums
namespace Go.Proofs.YtgifbdjifmoafaaGreat
set_option linter.unusedVariables false
open Go.RowKit Bam

/-- block p is a dense array with the words W -/
def DeAt (w : World) (p : Nat) (F : List Nat) (W : List Nat) (lo hi : Nat) (any : Bool) : Prop :=
  ∃ (a : Option Addr) (c : Nat), Blk w p 107 #[.slice a W.length c, .int .u64 (lo : Int), .int .u64 (hi : Int), .bool any] ∧ Ue 87 w (.slice a W.length c) W ∧ F = p :: obl (.slice a W.length c)
theorem DeAt.frame {w w' : World} {p : Nat} {F G G' : List Nat} {W : List Nat} {lo hi : Nat} {any : Bool} (h : DeAt w p F W lo hi any) (hf : Fr G G' w w') (hd : ∀ k ∈ F, k ∉ G) : DeAt w' p F W lo hi any := by
  obtain ⟨a, c, h1, h2, rfl⟩ := h
  exact ⟨a, c, hf.blk h1 (hd p List.mem_cons_self), hf.own h2 (fun k hk => hd k (List.mem_cons_of_mem _ hk)), rfl⟩
theorem DeAt.lt {w : World} {p : Nat} {F : List Nat} {W : List Nat} {lo hi : Nat} {any : Bool} (h : DeAt w p F W lo hi any) : ∀ k ∈ F, k < w.heap.size := by
  obtain ⟨a, c, h1, h2, rfl⟩ := h
  intro k hk
  rcases List.mem_cons.1 hk with e | e
  · rw [e]; exact h1.lt
  · exact (own_lt h2 k e).1

inductive Arr where
  | sp (ps : Ps)
  | de (W : List Nat) (lo hi : Nat) (any : Bool)
def ArrAt (w : World) (p : Nat) (F : List Nat) : Arr → Prop
  | .sp ps => SpAt w p F ps
  | .de W lo hi any => DeAt w p F W lo hi any
def tyOf : Arr → TypeId
  | .sp _ => 99
  | .de _ _ _ _ => 97
theorem ArrAt.frame {w w' : World} {p : Nat} {F G G' : List Nat} {x : Arr} (h : ArrAt w p F x) (hf : Fr G G' w w') (hd : ∀ k ∈ F, k ∉ G) : ArrAt w' p F x := by
  cases x with
  | sp ps => exact SpAt.frame h hf hd
  | de W lo hi any => exact DeAt.frame h hf hd
theorem ArrAt.lt {w : World} {p : Nat} {F : List Nat} {x : Arr} (h : ArrAt w p F x) : ∀ k ∈ F, k < w.heap.size := by
  cases x with
  | sp ps => exact SpAt.lt h
  | de W lo hi any => exact DeAt.lt h
theorem ArrAt.below {w w' : World} {p : Nat} {F : List Nat} {x : Arr} (h : ArrAt w p F x) (hb : Below w.heap.size w w') : ArrAt w' p F x := h.frame (Fr.of_below [] hb) (fun k _ h => by simp at h)
/-- a row of other elements, a block of another type lies apart from an array -/
theorem ArrAt.apart_row {w : World} {p : Nat} {F : List Nat} {x : Arr} (h : ArrAt w p F x) {B : Nat} {e : TypeId} {size : Nat} {v : Value} {n : Nat} {xs : List Value} (ho : w.ownsRow B e size v n xs) (h1 : e ≠ 87) (h2 : e ≠ 25) (h3 : e ≠ 111) (h4 : e ≠ 107) : ∀ k ∈ obl v, k ∉ F := by
  intro k hk hF
  cases x with
  | sp ps =>
    obtain ⟨a1, c1, a2, c2, k1, k2, k3, rfl⟩ := h
    rcases List.mem_cons.1 hF with e | e
    · exact row_blk ho k1 h3 (e ▸ mem_obl.1 hk)
    · rcases List.mem_append.1 e with e | e
      · exact row_row ho k2 h1 k hk e
      · exact row_row ho k3 h2 k hk e
  | de W lo hi any =>
    obtain ⟨a, c, k1, k2, rfl⟩ := h
    rcases List.mem_cons.1 hF with e | e
    · exact row_blk ho k1 h4 (e ▸ mem_obl.1 hk)
    · exact row_row ho k2 h1 k hk e
theorem blk_blk {w : World} {b : Nat} {t t' : TypeId} {cs cs' : Array Value} (h : Blk w b t cs) (h' : Blk w b t' cs') : t = t' := by
  unfold Blk at h h'
  rw [h] at h'
  injection h' with h'
  injection h'
theorem ArrAt.apart_blk {w : World} {p : Nat} {F : List Nat} {x : Arr} (h : ArrAt w p F x) {b : Nat} {e : TypeId} {cs : Array Value} (hb : Blk w b e cs) (h1 : 87 ≠ e) (h2 : 25 ≠ e) (h3 : e ≠ 111) (h4 : e ≠ 107) : b ∉ F := by
  intro hF
  cases x with
  | sp ps =>
    obtain ⟨a1, c1, a2, c2, k1, k2, k3, rfl⟩ := h
    rcases List.mem_cons.1 hF with e | e
    · subst e; exact h3 (blk_blk hb k1)
    · rcases List.mem_append.1 e with e | e
      · exact row_blk k2 hb h1 (mem_obl.1 e)
      · exact row_blk k3 hb h2 (mem_obl.1 e)
  | de W lo hi any =>
    obtain ⟨a, c, k1, k2, rfl⟩ := h
    rcases List.mem_cons.1 hF with e | e
    · subst e; exact h4 (blk_blk hb k1)
    · exact row_blk k2 hb h1 (mem_obl.1 e)

structure Ent where
  p : Nat
  F : List Nat
  x : Arr
def entV (e : Ent) : Value := .iface (tyOf e.x) (.pointer (some ⟨e.p, 0, none⟩))
def Sep (es : List Ent) : Prop := ∀ (i j : Nat) (e f : Ent), es[i]? = some e → es[j]? = some f → i ≠ j → ∀ k ∈ e.F, k ∉ f.F
/-- block a holds impl's arrays es -/
structure Sta (w : World) (a : Nat) (s : Option Addr) (c : Nat) (es : List Ent) : Prop where
  blk : Blk w a 57 #[.slice s es.length c]
  row : w.ownsRow 0 71 1 (.slice s es.length c) es.length (es.map entV)
  at_ : ∀ e ∈ es, ArrAt w e.p e.F e.x
  sep : Sep es
def foot (a : Nat) (s : Option Addr) (c : Nat) (es : List Ent) : List Nat := a :: (obl (.slice s es.length c) ++ es.flatMap (·.F))
theorem mem_foot {a : Nat} {s : Option Addr} {c : Nat} {es : List Ent} {k : Nat} : k ∈ foot a s c es ↔ k = a ∨ k ∈ obl (.slice s es.length c) ∨ ∃ e ∈ es, k ∈ e.F := by
  unfold foot
  rw [List.mem_cons, List.mem_append, List.mem_flatMap]

theorem Sta.lt {w : World} {a : Nat} {s : Option Addr} {c : Nat} {es : List Ent} (h : Sta w a s c es) : ∀ k ∈ foot a s c es, k < w.heap.size := by
  intro k hk
  rcases mem_foot.1 hk with e | e | ⟨e, he, hk⟩
  · rw [e]; exact h.blk.lt
  · exact (own_lt h.row k e).1
  · exact (h.at_ e he).lt k hk
theorem Sta.frame {w w' : World} {a : Nat} {s : Option Addr} {c : Nat} {es : List Ent} (h : Sta w a s c es) {G G' : List Nat} (hf : Fr G G' w w') (hd : ∀ k ∈ foot a s c es, k ∉ G) : Sta w' a s c es :=
  ⟨hf.blk h.blk (hd a (mem_foot.2 (.inl rfl))), hf.own h.row (fun k hk => hd k (mem_foot.2 (.inr (.inl hk)))), fun e he => (h.at_ e he).frame hf (fun k hk => hd k (mem_foot.2 (.inr (.inr ⟨e, he, hk⟩)))), h.sep⟩
theorem Sta.below {w w' : World} {a : Nat} {s : Option Addr} {c : Nat} {es : List Ent} (h : Sta w a s c es) (hb : Below w.heap.size w w') : Sta w' a s c es := h.frame (Fr.of_below [] hb) (fun k _ h => by simp at h)
theorem Sta.drewN {w : World} {a : Nat} {s : Option Addr} {c : Nat} {es : List Ent} (h : Sta w a s c es) (n : Nat) : Sta (w.drewN n) a s c es := h.below ⟨rfl, rfl, rfl, Nat.le_refl _, fun _ _ => rfl⟩

/-- an array is turned in place -/
theorem Sta.turn {w w' : World} {a : Nat} {s : Option Addr} {c : Nat} {es : List Ent} (h : Sta w a s c es) {i : Nat} {p : Nat} {F F' : List Nat} {x x' : Arr} (hi : es[i]? = some ⟨p, F, x⟩) (hf : Fr F F' w w') (h' : ArrAt w' p F' x') (ht : tyOf x' = tyOf x) :
    Sta w' a s c (es.set i ⟨p, F', x'⟩) ∧ Fr (foot a s c es) (foot a s c (es.set i ⟨p, F', x'⟩)) w w' := by
  have hx : ArrAt w p F x := h.at_ _ (List.mem_of_getElem? hi)
  have hl : (es.set i ⟨p, F', x'⟩).length = es.length := List.length_set ..
  have hv : (es.set i ⟨p, F', x'⟩).map entV = es.map entV := by
    rw [List.map_set]
    have e : entV ⟨p, F', x'⟩ = entV ⟨p, F, x⟩ := by unfold entV; simp only [ht]
    rw [e]
    apply List.ext_getElem?
    intro q
    by_cases eq : q = i
    · subst eq
      have hlt : q < es.length := (List.getElem?_eq_some_iff.1 hi).1
      rw [List.getElem?_set_self (by simpa using hlt), List.getElem?_map, hi]; rfl
    · rw [List.getElem?_set_ne (fun h => eq h.symm)]
  have hlt := (List.getElem?_eq_some_iff.1 hi).1
  have hget : ∀ j e, (es.set i ⟨p, F', x'⟩)[j]? = some e → (j = i ∧ e = ⟨p, F', x'⟩) ∨ (j ≠ i ∧ es[j]? = some e) := by
    intro j e hj
    by_cases e2 : j = i
    · subst e2
      rw [List.getElem?_set_self hlt] at hj
      injection hj with hj
      exact .inl ⟨rfl, hj.symm⟩
    · rw [List.getElem?_set_ne (fun h => e2 h.symm)] at hj
      exact .inr ⟨e2, hj⟩
  have other : ∀ j e, j ≠ i → es[j]? = some e → ∀ k ∈ e.F, k ∉ F := fun j e hj he k hk => h.sep j i e _ he hi hj k hk
  have next : ∀ k ∈ F', k ∈ F ∨ w.heap.size ≤ k := hf.next
  refine ⟨⟨?_, ?_, ?_, ?_⟩, ?_⟩
  · rw [hl]; exact hf.blk h.blk (hx.apart_blk h.blk (by decide) (by decide) (by decide) (by decide))
  · rw [hl, hv]; exact hf.own h.row (hx.apart_row h.row (by decide) (by decide) (by decide) (by decide))
  · intro e he
    obtain ⟨j, hj⟩ := List.mem_iff_getElem?.1 he
    rcases hget j e hj with ⟨_, e2⟩ | ⟨e2, e3⟩
    · subst e2; exact h'
    · exact (h.at_ e (List.mem_of_getElem? e3)).frame hf (other j e e2 e3)
  · intro j q e f hj hq hne k hk hk2
    rcases hget j e hj with ⟨e1, e2⟩ | ⟨e1, e2⟩
    · subst e2
      rcases hget q f hq with ⟨f1, f2⟩ | ⟨f1, f2⟩
      · omega
      · rcases next k hk with g | g
        · exact other q f f1 f2 k hk2 g
        · have := (h.at_ f (List.mem_of_getElem? f2)).lt k hk2; omega
    · rcases hget q f hq with ⟨f1, f2⟩ | ⟨f1, f2⟩
      · subst f2
        rcases next k hk2 with g | g
        · exact other j e e1 e2 k hk g
        · have := (h.at_ e (List.mem_of_getElem? e2)).lt k hk; omega
      · exact h.sep j q e f e2 f2 hne k hk hk2
  · refine Fr.weaken hf (fun k hk => mem_foot.2 (.inr (.inr ⟨_, List.mem_of_getElem? hi, hk⟩))) (fun k hk => ?_)
    rcases mem_foot.1 hk with e | e | ⟨e, he, hk⟩
    · exact .inr (mem_foot.2 (.inl e))
    · rw [hl] at e; exact .inr (mem_foot.2 (.inr (.inl e)))
    · obtain ⟨j, hj⟩ := List.mem_iff_getElem?.1 he
      rcases hget j e hj with ⟨_, e2⟩ | ⟨e2, e3⟩
      · subst e2; exact .inl hk
      · exact .inr (mem_foot.2 (.inr (.inr ⟨e, List.mem_of_getElem? e3, hk⟩)))

theorem Sta.push {w w' : World} {a : Nat} {s : Option Addr} {c : Nat} {es : List Ent} {p : Nat} {F : List Nat} {x : Arr} {g2 c2 : Nat} (h : Sta w a s c es) (hx : ArrAt w p F x) (hd : ∀ k ∈ F, k ∉ foot a s c es)
    (hf : Fr (a :: obl (.slice s es.length c)) [a, g2] w w') (hb : Blk w' a 57 #[.slice (some ⟨g2, 0, none⟩) (es.length + 1) c2]) (ho : w'.ownsRow 0 71 1 (.slice (some ⟨g2, 0, none⟩) (es.length + 1) c2) (es.length + 1) (es.map entV ++ [.iface (tyOf x) (.pointer (some ⟨p, 0, none⟩))])) :
    Sta w' a (some ⟨g2, 0, none⟩) c2 (es ++ [Ent.mk p F x]) ∧ Fr (foot a s c es ++ F) (foot a (some ⟨g2, 0, none⟩) c2 (es ++ [Ent.mk p F x])) w w' := by
  have hl : (es ++ [Ent.mk p F x]).length = es.length + 1 := by simp
  have hm : (es ++ [Ent.mk p F x]).map entV = es.map entV ++ [.iface (tyOf x) (.pointer (some ⟨p, 0, none⟩))] := by simp [entV]
  have hap : ∀ e ∈ es, ∀ k ∈ e.F, k ∉ a :: obl (.slice s es.length c) := fun e he k hk hk2 => by
    rcases List.mem_cons.1 hk2 with e2 | e2
    · exact (h.at_ e he).apart_blk h.blk (by decide) (by decide) (by decide) (by decide) (e2 ▸ hk)
    · exact (h.at_ e he).apart_row h.row (by decide) (by decide) (by decide) (by decide) k e2 hk
  have hget : ∀ j e, (es ++ [Ent.mk p F x])[j]? = some e → (es[j]? = some e) ∨ (j = es.length ∧ e = ⟨p, F, x⟩) := by
    intro j e hj
    by_cases hlt : j < es.length
    · rw [List.getElem?_append_left hlt] at hj; exact .inl hj
    · rw [List.getElem?_append_right (by omega)] at hj
      have hj0 : j - es.length = 0 := by
        have := (List.getElem?_eq_some_iff.1 hj).1
        simp only [List.length_cons, List.length_nil] at this; omega
      rw [hj0] at hj
      injection hj with hj
      exact .inr ⟨by omega, hj.symm⟩
  refine ⟨⟨by rw [hl]; exact hb, by rw [hl, hm]; exact ho, fun e he => ?_, fun i j e f hi hj hne k hk hk2 => ?_⟩, ?_⟩
  · rcases List.mem_append.1 he with e2 | e2
    · exact (h.at_ e e2).frame hf (hap e e2)
    · rw [List.mem_singleton.1 e2]
      exact hx.frame hf (fun k hk hk2 => hd k hk (by
        rcases List.mem_cons.1 hk2 with e | e
        · exact mem_foot.2 (.inl e)
        · exact mem_foot.2 (.inr (.inl e))))
  · rcases hget i e hi with e1 | ⟨e1, rfl⟩ <;> rcases hget j f hj with f1 | ⟨f1, rfl⟩
    · exact h.sep i j e f e1 f1 hne k hk hk2
    · exact hd k hk2 (mem_foot.2 (.inr (.inr ⟨e, List.mem_of_getElem? e1, hk⟩)))
    · exact hd k hk (mem_foot.2 (.inr (.inr ⟨f, List.mem_of_getElem? f1, hk2⟩)))
    · omega
  · refine Fr.weaken hf (fun k hk => List.mem_append.2 (.inl ?_)) (fun k hk => ?_)
    · rcases List.mem_cons.1 hk with e | e
      · exact mem_foot.2 (.inl e)
      · exact mem_foot.2 (.inr (.inl e))
    · rcases mem_foot.1 hk with e | e | ⟨e, he, hk⟩
      · exact .inl (e ▸ List.mem_cons_self)
      · rw [obl_some] at e; exact .inl (List.mem_cons_of_mem _ e)
      · rcases List.mem_append.1 he with e2 | e2
        · exact .inr (List.mem_append.2 (.inl (mem_foot.2 (.inr (.inr ⟨e, e2, hk⟩)))))
        · rw [List.mem_singleton.1 e2] at hk; exact .inr (List.mem_append.2 (.inr hk))

theorem info_bita : (Tryz.prog.info? 71).map (fun i => (i.zero, i.size, i.bytes)) = some (some .nilIface, 1, 16) := by kernel_rfl

set_option maxHeartbeats 1000000 in
theorem made_any (a : Nat) (s : Option Addr) (c : Nat) (es : List Ent) (p : Nat) (F : List Nat) (x : Arr) (w : World) (h : Sta w a s c es) (hx : ArrAt w p F x) (hd : ∀ k ∈ F, k ∉ foot a s c es) (hn : es.length ≤ 1000) :
    Calls Tryz.prog 32 #[.pointer (some ⟨a, 0, none⟩), .iface (tyOf x) (.pointer (some ⟨p, 0, none⟩))] w fun e w' => e = .returned (.tuple #[]) ∧
      ∃ s' c', Sta w' a s' c' (es ++ [Ent.mk p F x]) ∧ Fr (foot a s c es ++ F) (foot a s' c' (es ++ [Ent.mk p F x])) w w' := by
  have h0 : w.cell? ⟨a, 0, none⟩ = some (.slice s es.length c) := h.blk.cell 0 rfl
  have hf0 := h.blk.free 0
  have hsa : (Value.slice s es.length c).ownBlock ≠ some a := row_blk h.row h.blk (by decide)
  obtain ⟨n, hN⟩ : ∃ n, n = es.length := ⟨_, rfl⟩
  obtain ⟨L, hL⟩ : ∃ L, L = es.map entV := ⟨_, rfl⟩
  obtain ⟨T, hu⟩ : ∃ T, T = tyOf x := ⟨_, rfl⟩
  have HB := Lib.hid h.blk
  have HR := Lib.hid h.row
  have H := Lib.hid h
  have HX := Lib.hid hx
  have HD := Lib.hid hd
  have HSA := Lib.hid hsa
  have HU := Lib.hid hu
  rw [← hN] at h0 hn HB HR HSA
  rw [← hL] at HR
  rw [← hu]
  have HN := Lib.hid hN
  have HL := Lib.hid hL
  clear h hx hd hsa hN hL hu
  go_enter Tryz.func32, Tryz.ntmps32
  go_wp2_with (at_builtin; refine wpList_append1A rfl _ _ 55 rfl 0 71 .nilIface 16 Tryz.underlying55 info_bita rfl _ n _ rfl HR.out (.iface T (.pointer (some ⟨p, 0, none⟩))) rfl rfl (by unfold maxLen; omega) (by omega) (Nat.zero_le _) ?_; intro g2 cap2 w2 own2 fr2; have O2 := Lib.hid own2; have F2 := Lib.hid fr2; have hbk2 := F2.out.blk HB.out (fun e => HSA.out (mem_obl.1 e)); have B2 := Lib.hid hbk2; have hf2 := hbk2.free 0; have hc2 := hbk2.cell 0 rfl; clear own2 fr2 hbk2)
  go_end0
  have hag : a ≠ g2 := fun e => row_blk O2.out B2.out (by decide) (by rw [e]; rfl)
  have hr := (fr_store_other w2 a 0 (.slice (some ⟨g2, 0, none⟩) (n + 1) cap2)).own O2.out (fun k hk => by rw [obl_some, List.mem_singleton] at hk; simp; omega)
  have hb := B2.out.set 0 (.slice (some ⟨g2, 0, none⟩) (n + 1) cap2)
  have hf : Fr (a :: obl (.slice s n c)) [a, g2] w (w2.setCell ⟨a, 0, none⟩ (.slice (some ⟨g2, 0, none⟩) (n + 1) cap2)) := (Fr.weaken (G := a :: obl (.slice s n c)) (G' := [a, g2]) F2.out (fun k hk => List.mem_cons_of_mem _ hk) (fun k hk => by
    rcases List.mem_cons.1 hk with e | e
    · exact .inr (e ▸ List.mem_cons_self)
    · exact .inl e)).trans (Fr.store _ (a := ⟨a, 0, none⟩) List.mem_cons_self _)
  rw [HL.out, HU.out, HN.out] at hr
  rw [HN.out] at hb hf
  have hfin := H.out.push HX.out HD.out hf hb hr
  rw [← HN.out] at hfin
  exact ⟨rfl, some ⟨g2, 0, none⟩, cap2, hfin.1, hfin.2⟩

theorem arat_any (a : Nat) (s : Option Addr) (c : Nat) (es : List Ent) (i : Nat) (e0 : Ent) (w : World) (h : Sta w a s c es) (hi : es[i]? = some e0) (hn : es.length ≤ 1000) :
    Calls Tryz.prog 35 #[.pointer (some ⟨a, 0, none⟩), .int .i64 (i : Int)] w fun e w' => e = .returned (.iface (tyOf e0.x) (.pointer (some ⟨e0.p, 0, none⟩))) ∧ w = w' := by
  have h0 : w.cell? ⟨a, 0, none⟩ = some (.slice s es.length c) := h.blk.cell 0 rfl
  have hlt := (List.getElem?_eq_some_iff.1 hi).1
  have hg : ∃ g, s = some ⟨g, 0, none⟩ := by
    rcases h.row.2 with ⟨e, e2⟩ | ⟨g, cap, cur, e, _⟩
    · omega
    · injection e with e1; exact ⟨g, e1⟩
  obtain ⟨g, rfl⟩ := hg
  have hc := h.row.cells (g := g) rfl i (entV e0) (by rw [List.getElem?_map, hi]; rfl)
  rw [addr_add, Nat.zero_add] at hc
  unfold entV at hc
  obtain ⟨n, hN⟩ : ∃ n, n = es.length := ⟨_, rfl⟩
  rw [← hN] at h0 hn hlt
  obtain ⟨T, hT⟩ : ∃ T, tyOf e0.x = T := ⟨_, rfl⟩
  obtain ⟨p, hp⟩ : ∃ p, e0.p = p := ⟨_, rfl⟩
  rw [hT, hp] at hc ⊢
  have h1 : ¬ (i : Int) < 0 := by omega
  have h2 : ¬ (n : Int) ≤ (i : Int) := by omega
  clear h hi hT hp hN
  go_enter Tryz.func35, Tryz.ntmps35
  go_wp2_with fail
  go_ret
  exact ⟨rfl, rfl⟩
end Go.Proofs.YtgifbdjifmoafaaGreat
