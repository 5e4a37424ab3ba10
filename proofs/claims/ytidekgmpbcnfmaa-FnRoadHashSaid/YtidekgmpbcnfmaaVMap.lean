/- Maps as lists of keys and values, for walks: keys of any type whose equality is decided (integers, or interface values that hold integers). No program in sight. -/
import Derived.Test.YtidekgmpbcnfmaaMem
import Derived.Maps.RangeWalk
import Derived.Maps.OwnSet
import Derived.Lib.Hide
namespace Go.Proofs.Ytidekgmpbcnfmaa
set_option linter.unusedVariables false
set_option linter.unusedSectionVars false
open Go.RowKit
open Go.ChangeMaps (setBlock)

namespace Vm
section
variable {α : Type} [DecidableEq α]
/-- what a key is bound to -/
def get (a : α) : List (α × Value) → Option Value
  | [] => none
  | (b, v) :: r => if b = a then some v else get a r
/-- the list with a key bound -/
def put (a : α) (v : Value) : List (α × Value) → List (α × Value)
  | [] => [(a, v)]
  | (b, u) :: r => if b = a then (b, v) :: r else (b, u) :: put a v r
/-- the list without a key -/
def del (a : α) : List (α × Value) → List (α × Value)
  | [] => []
  | (b, u) :: r => if b = a then r else (b, u) :: del a r
def keys (l : List (α × Value)) : List α := l.map Prod.fst

theorem absent {a : α} : ∀ {l : List (α × Value)}, a ∉ keys l → get a l = none ∧ (∀ v, put a v l = l ++ [(a, v)]) ∧ del a l = l
  | [], _ => ⟨rfl, fun _ => rfl, rfl⟩
  | (b, u) :: r, h => by
    simp only [keys, List.map_cons, List.mem_cons, not_or] at h
    obtain ⟨h1, h2, h3⟩ := absent (l := r) h.2
    have hb : ¬ b = a := fun e => h.1 e.symm
    exact ⟨by simp [get, hb, h1], fun v => by simp [put, hb, h2], by simp [del, hb, h3]⟩

theorem here {a : α} {v : Value} : ∀ {l : List (α × Value)} {j : Nat}, (keys l).Nodup → l[j]? = some (a, v) → get a l = some v ∧ (∀ u, put a u l = l.set j (a, u)) ∧ del a l = l.eraseIdx j
  | [], j, _, h => by simp at h
  | (b, u) :: r, 0, _, h => by
    simp only [List.getElem?_cons_zero, Option.some.injEq, Prod.mk.injEq] at h
    obtain ⟨rfl, rfl⟩ := h
    exact ⟨by simp [get], fun v => by simp [put], by simp [del]⟩
  | (b, u) :: r, j + 1, hn, h => by
    simp only [List.getElem?_cons_succ] at h
    simp only [keys, List.map_cons, List.nodup_cons] at hn
    obtain ⟨h1, h2, h3⟩ := here (l := r) hn.2 h
    have hb : ¬ b = a := fun e => hn.1 (by rw [e]; exact List.mem_map.2 ⟨(a, v), List.mem_of_getElem? h, rfl⟩)
    exact ⟨by simp [get, hb, h1], fun v => by simp [put, hb, h2], by simp [del, hb, h3]⟩

theorem get_none {a : α} : ∀ {l : List (α × Value)}, get a l = none ↔ a ∉ keys l
  | [] => by simp [get, keys]
  | (b, u) :: r => by
    have ih := get_none (a := a) (l := r)
    by_cases hb : b = a
    · simp [get, hb, keys]
    · have hb' : ¬ a = b := fun e => hb e.symm
      simp only [get, hb, if_false, ih, keys, List.map_cons, List.mem_cons, hb', false_or]

theorem get_mem {a : α} {v : Value} : ∀ {l : List (α × Value)}, get a l = some v → (a, v) ∈ l
  | [], h => by simp [get] at h
  | (b, u) :: r, h => by
    by_cases hb : b = a
    · simp only [get, hb, if_true, Option.some.injEq] at h
      subst h; subst hb; simp
    · simp only [get, hb, if_false] at h
      exact List.mem_cons_of_mem _ (get_mem h)

theorem mem_get {a : α} {v : Value} {l : List (α × Value)} (hn : (keys l).Nodup) (h : (a, v) ∈ l) : get a l = some v := by
  obtain ⟨j, hj⟩ := List.getElem?_of_mem h
  exact (here hn hj).1

theorem mem_keys {a : α} {l : List (α × Value)} : a ∈ keys l ↔ ∃ v, get a l = some v := by
  cases h : get a l with
  | none => simp [get_none.1 h]
  | some v => simp only [Option.some.injEq, exists_eq', iff_true]; exact List.mem_map.2 ⟨_, get_mem h, rfl⟩

theorem get_put (a b : α) (v : Value) : ∀ (l : List (α × Value)), get b (put a v l) = if a = b then some v else get b l
  | [] => by simp [put, get]
  | (c, u) :: r => by
    have ih := get_put a b v r
    by_cases hc : c = a
    · subst hc
      by_cases hb : c = b <;> simp [put, get, hb]
    · by_cases hb : c = b
      · subst hb
        simp [put, get, hc, Ne.symm hc]
      · simp only [put, hc, if_false, get, hb, ih]

theorem keys_put (a : α) (v : Value) (l : List (α × Value)) : keys (put a v l) = if a ∈ keys l then keys l else keys l ++ [a] := by
  induction l with
  | nil => simp [put, keys]
  | cons p r ih =>
    obtain ⟨c, u⟩ := p
    by_cases hc : c = a
    · subst hc; simp [put, keys]
    · have hc' : ¬ a = c := fun e => hc e.symm
      simp only [put, hc, if_false, keys, List.map_cons, List.mem_cons, hc', false_or] at ih ⊢
      rw [ih]
      split <;> rename_i hin <;> simp [hin]

theorem nodup_put {a : α} {v : Value} {l : List (α × Value)} (h : (keys l).Nodup) : (keys (put a v l)).Nodup := by
  rw [keys_put]
  split
  · exact h
  · rename_i hn
    rw [List.nodup_append]
    refine ⟨h, by simp, fun x hx y hy => ?_⟩
    simp only [List.mem_singleton] at hy
    subst hy
    intro e
    subst e
    exact hn hx

theorem del_sub (a : α) : ∀ (l : List (α × Value)), (del a l).Sublist l
  | [] => List.Sublist.refl _
  | (b, u) :: r => by
    by_cases hb : b = a
    · simp only [del, hb, if_true]; exact List.sublist_cons_self _ _
    · simp only [del, hb, if_false]; exact (del_sub a r).cons_cons _

theorem nodup_del {a : α} {l : List (α × Value)} (h : (keys l).Nodup) : (keys (del a l)).Nodup := ((del_sub a l).map _).nodup h

theorem keys_del {a : α} : ∀ {l : List (α × Value)}, (keys l).Nodup → keys (del a l) = (keys l).filter (fun b => !decide (b = a))
  | [], _ => by simp [del, keys]
  | (b, u) :: r, h => by
    simp only [keys, List.map_cons, List.nodup_cons] at h
    by_cases hb : b = a
    · subst hb
      have e : List.filter (fun c => !decide (c = b)) (r.map Prod.fst) = r.map Prod.fst := List.filter_eq_self.2 fun x hx => by
        simp only [Bool.not_eq_true', decide_eq_false_iff_not]
        intro e
        subst e
        exact h.1 hx
      simp [del, keys, e]
    · have ih := keys_del (a := a) h.2
      simp only [keys] at ih
      simp [del, hb, keys, ih]

theorem get_del {a b : α} {l : List (α × Value)} (h : (keys l).Nodup) : get b (del a l) = if a = b then none else get b l := by
  induction l with
  | nil => simp [del, get]
  | cons p r ih =>
    obtain ⟨c, u⟩ := p
    simp only [keys, List.map_cons, List.nodup_cons] at h
    have ih := ih h.2
    by_cases hc : c = a
    · subst hc
      by_cases hb : c = b
      · subst hb
        simp only [del, if_true]
        exact get_none.2 h.1
      · simp [del, get, hb]
    · by_cases hb : c = b
      · subst hb
        simp [del, get, hc, Ne.symm hc]
      · simp only [del, hc, if_false, get, hb, ih]
end
end Vm

/-- how keys of type k behave that are made by mk -/
structure KeyFn (P : Program) (k : TypeId) {α : Type} (mk : α → Value) : Prop where
  inj : ∀ a b, mk a = mk b → a = b
  check : ∀ (w : World) (em : Bool) (a : α), (Instr.checkKey em 10000 k (mk a)).run P w = .ok () w
  find : ∀ (w : World) (a : α) (es : List MapEntry), (∀ e ∈ es, ∃ b, e.key = mk b) →
    ((Instr.findKey k (mk a) es).run P w = .ok none w ∧ ∀ e ∈ es, e.key ≠ mk a) ∨ ∃ j e, (Instr.findKey k (mk a) es).run P w = .ok (some (j, e.val)) w ∧ es[j]? = some e ∧ e.key = mk a
  stays : ∀ (w : World) (a : α), (Instr.keyThatStays (mk a) (mk a)).run P w = .ok (mk a) w

/-- keys that are integers themselves -/
theorem KeyFn.int {P : Program} {k : TypeId} {q : IntKind} (hk : P.underlying k = some (.int q)) : KeyFn P k (fun n : {n : Int // (Lit.int q n).wf = true} => Value.int q n.1) := by
  have K := Maps.int_keyed hk
  have hw : ∀ a : {n : Int // (Lit.int q n).wf = true}, keyOf P k (.int q a.1) = some (.int q a.1) := fun a => Maps.keyOf_int_mk hk a.2
  refine ⟨fun a b h => Subtype.ext (by injection h), fun w em a => K.check w em (hw a), fun w a es hes => ?_, fun w a => K.stays w (hw a)⟩
  exact K.find w (hw a) es fun e he => by obtain ⟨b, hb⟩ := hes e he; exact ⟨_, by rw [hb]; exact hw b⟩

theorem sameBits_int (T : TypeId) (q : IntKind) (n : Int) : Instr.sameBits 10000 (.iface T (.int q n)) (.iface T (.int q n)) = true := by
  show Instr.sameBits (9999 + 1) _ _ = true
  simp [Instr.sameBits]

theorem equal_iface {P : Program} {k T : TypeId} {q : IntKind} {ms : Array (String × TypeId)} {i : TypeInfo} (hk : P.underlying k = some (.interface ms)) (hT : P.underlying T = some (.int q)) (hi : P.info? T = some i) (hc : i.comparable = true)
    (a b : Int) (w : World) : (Op.equal k (.iface T (.int q a)) (.iface T (.int q b))).run P w = .ok (a == b) w := by
  have h : ∀ d : Nat, (Op.equalIn (d + 1 + 1) k (.iface T (.int q a)) (.iface T (.int q b))).run P w = .ok (a == b) w := fun d => by
    simp [Op.equalIn, run_underlying hk, run_underlying hT, typeInfo, hi, hc]
  exact h 9998

/-- keys that are interface values that hold integers -/
theorem KeyFn.iface {P : Program} {k T : TypeId} {q : IntKind} {ms : Array (String × TypeId)} {i : TypeInfo} (hk : P.underlying k = some (.interface ms)) (hT : P.underlying T = some (.int q)) (hi : P.info? T = some i) (hc : i.comparable = true) :
    KeyFn P k (fun n : Int => Value.iface T (.int q n)) := by
  refine ⟨fun a b h => by simpa using h, fun w em a => ?_, fun w a es hes => ?_, fun w a => ?_⟩
  · have h : ∀ d : Nat, (Instr.checkKey em (d + 1 + 1) k (.iface T (.int q a))).run P w = .ok () w := fun d => by
      simp [Instr.checkKey, run_underlying hk, run_underlying hT, typeInfo, hi, hc]
    exact h 9998
  · have asking : ∀ (es : List MapEntry) (i : Nat), (∀ e ∈ es, ∃ b : Int, e.key = .iface T (.int q b)) →
        ((Instr.findAsking k (.iface T (.int q a)) es i).run P w = .ok none w ∧ ∀ e ∈ es, e.key ≠ .iface T (.int q a)) ∨
          ∃ j e, (Instr.findAsking k (.iface T (.int q a)) es i).run P w = .ok (some (i + j, e.val)) w ∧ es[j]? = some e ∧ e.key = .iface T (.int q a) := by
      intro es
      induction es with
      | nil => intro i _; exact .inl ⟨by simp [Instr.findAsking], by simp⟩
      | cons e r ih =>
        intro i hes
        obtain ⟨b, hb⟩ := hes e (by simp)
        have heq := equal_iface (ms := ms) hk hT hi hc a b w
        by_cases hab : a = b
        · subst hab
          refine .inr ⟨0, e, ?_, rfl, hb⟩
          simp [Instr.findAsking, hb, heq]
        · have hf : (a == b) = false := by simpa using hab
          rcases ih (i + 1) (fun e he => hes e (List.mem_cons_of_mem _ he)) with ⟨h1, h2⟩ | ⟨j, e', h1, h2, h3⟩
          · refine .inl ⟨by simp [Instr.findAsking, hb, heq, hf, h1], fun x hx => ?_⟩
            rcases List.mem_cons.1 hx with rfl | hx
            · rw [hb]; simp; exact fun e => hab e.symm
            · exact h2 x hx
          · refine .inr ⟨j + 1, e', ?_, by simpa using h2, h3⟩
            simp only [Instr.findAsking, hb, Sem.run_bind, heq, hf, Result.andThen, h1, Bool.false_eq_true, if_false]
            rw [show i + 1 + j = i + (j + 1) by omega]
    cases es with
    | nil => exact .inl ⟨by simp [Instr.findKey, run_underlying hk, Instr.findNow], by simp⟩
    | cons e r =>
      obtain ⟨b, hb⟩ := hes e (by simp)
      have hnow : Instr.findNow (.interface ms) (.iface T (.int q a)) (e :: r) 0 = none := by simp [Instr.findNow, Instr.sameNow]
      have hrun : (Instr.findKey k (.iface T (.int q a)) (e :: r)).run P w = (Instr.findAsking k (.iface T (.int q a)) (e :: r) 0).run P w := by
        simp [Instr.findKey, run_underlying hk, hnow]
      rw [hrun]
      simpa using asking (e :: r) 0 hes
  · simp [Instr.keyThatStays, sameBits_int]

section
variable {α : Type} [DecidableEq α] {P : Program} {k e t : TypeId} {mk : α → Value} {w : World} {b r : Nat} {l : List (α × Value)} {done : List α}

/-- block b is a map that binds as l says -/
def VMap (w : World) (mk : α → Value) (b : Nat) (l : List (α × Value)) : Prop :=
  ∃ es clock, w.heap[b]? = some (.map es clock) ∧ es.toList.map (fun x => (x.key, x.val)) = l.map (fun p => (mk p.1, p.2)) ∧ (Vm.keys l).Nodup ∧ (es.toList.map (·.born)).Nodup ∧ ∀ x ∈ es.toList, x.born < clock

theorem VMap.nodup (h : VMap w mk b l) : (Vm.keys l).Nodup := by obtain ⟨_, _, _, _, h, _⟩ := h; exact h
theorem VMap.lt (h : VMap w mk b l) : b < w.heap.size := by obtain ⟨_, _, hb, _⟩ := h; exact (Array.getElem?_eq_some_iff.1 hb).1
theorem VMap.made (w : World) (mk : α → Value) : VMap (w.alloc (.map #[] 0)) mk w.heap.size [] := ⟨#[], 0, (MapKept.heap_alloc w _).1, by simp, by simp [Vm.keys], by simp, by simp⟩
theorem VMap.of_block {w' : World} (h : VMap w mk b l) (hb : w'.heap[b]? = w.heap[b]?) : VMap w' mk b l := by
  obtain ⟨es, clock, h1, h2⟩ := h
  exact ⟨es, clock, hb.trans h1, h2⟩
theorem VMap.below {w' : World} {B : Nat} (h : VMap w mk b l) (hb : Below B w w') (hlt : b < B) : VMap w' mk b l := h.of_block (hb.block b hlt)
theorem VMap.alloc (h : VMap w mk b l) (o : Obj) : VMap (w.alloc o) mk b l := h.of_block (Below.heap_alloc w o b h.lt)
theorem VMap.drew (h : VMap w mk b l) : VMap w.drew mk b l := h
theorem VMap.drewN (h : VMap w mk b l) (n : Nat) : VMap (w.drewN n) mk b l := h
theorem VMap.setCell (h : VMap w mk b l) {a : Addr} (ha : b ≠ a.block) (u : Value) : VMap (w.setCell a u) mk b l := h.of_block (Below.heap_setCell w a u b ha)
theorem VMap.grown {w' : World} {row : Option Nat} (h : VMap w mk b l) (hg : w.grownBy w' row) (hne : row ≠ some b) : VMap w' mk b l := h.of_block (hg.block b h.lt (fun e => hne e.symm))
theorem VMap.turned {w' : World} {c : Nat} (h : VMap w mk b l) (ht : w.mapTurned w' c) (hne : b ≠ c) : VMap w' mk b l := h.grown ht.grown (fun e => hne (by injection e with e; exact e.symm))

theorem vm_keys {es : Array MapEntry} (hm : es.toList.map (fun x => (x.key, x.val)) = l.map (fun p => (mk p.1, p.2))) : ∀ x ∈ es.toList, ∃ a, x.key = mk a := by
  intro x hx
  have : (x.key, x.val) ∈ l.map (fun p => (mk p.1, p.2)) := by rw [← hm]; exact List.mem_map.2 ⟨x, hx, rfl⟩
  obtain ⟨p, hp, e⟩ := List.mem_map.1 this
  exact ⟨p.1, by injection e with e1 e2; exact e1.symm⟩

theorem vm_at {es : Array MapEntry} (K : KeyFn P k mk) (hm : es.toList.map (fun x => (x.key, x.val)) = l.map (fun p => (mk p.1, p.2))) {j : Nat} {x : MapEntry} {a : α} (hj : es.toList[j]? = some x) (hk : x.key = mk a) : l[j]? = some (a, x.val) := by
  have h1 : (l.map (fun p => (mk p.1, p.2)))[j]? = some (x.key, x.val) := by rw [← hm, List.getElem?_map, hj]; rfl
  rw [List.getElem?_map] at h1
  cases hl : l[j]? with
  | none => rw [hl] at h1; cases h1
  | some p =>
    rw [hl] at h1
    simp only [Option.map_some, Option.some.injEq, Prod.mk.injEq] at h1
    obtain ⟨p1, p2⟩ := p
    have e1 : p1 = a := K.inj _ _ (h1.1.trans hk)
    have e2 : p2 = x.val := h1.2
    rw [e1, e2]

theorem vm_not {es : Array MapEntry} (hm : es.toList.map (fun x => (x.key, x.val)) = l.map (fun p => (mk p.1, p.2))) {a : α} (hno : ∀ x ∈ es.toList, x.key ≠ mk a) : a ∉ Vm.keys l := by
  intro h
  obtain ⟨p, hp, rfl⟩ := List.mem_map.1 h
  have : (mk p.1, p.2) ∈ es.toList.map (fun x => (x.key, x.val)) := by rw [hm]; exact List.mem_map.2 ⟨p, hp, rfl⟩
  obtain ⟨x, hx, e⟩ := List.mem_map.1 this
  injection e with e1 e2
  exact hno x hx e1

theorem VMap.look (h : VMap w mk b l) (K : KeyFn P k mk) (ht : P.underlying t = some (.map k e)) {z : Value} (hz : (zeroValue e).run P w = .ok z w) (a : α) (ok : Bool) :
    (Instr.lookup t (.map (some b)) (mk a) ok).run P w = .ok (if ok then .tuple #[(Vm.get a l).getD z, .bool (Vm.get a l).isSome] else (Vm.get a l).getD z) w := by
  obtain ⟨es, clock, hb, hm, hn, _⟩ := h
  rcases K.find w a es.toList (vm_keys hm) with ⟨h1, h2⟩ | ⟨j, x, h1, h2, h3⟩
  · have := (Vm.absent (vm_not hm h2)).1
    cases ok <;> simp [Instr.lookup, run_underlying ht, MapKept.run_getObj_map hb, K.check, h1, hz, this]
  · have := (Vm.here hn (vm_at K hm h2 h3)).1
    cases ok <;> simp [Instr.lookup, run_underlying ht, MapKept.run_getObj_map hb, K.check, h1, this]

theorem modify_set {es : Array MapEntry} {j : Nat} {x : MapEntry} (hj : es.toList[j]? = some x) (f : MapEntry → MapEntry) : (es.modify j f).toList = es.toList.set j (f x) := by
  have hlt : j < es.size := by
    have := (List.getElem?_eq_some_iff.1 hj).1
    simpa using this
  apply List.ext_getElem?
  intro i
  rw [List.getElem?_set, Array.getElem?_toList, Array.getElem?_modify]
  have hx : es[j]? = some x := by rw [← Array.getElem?_toList]; exact hj
  by_cases hij : j = i
  · subst hij
    have hx2 : es[j] = x := (Array.getElem?_eq_some_iff.1 hx).2
    simp [hlt, hx2]
  · simp [hij]

theorem VMap.update (h : VMap w mk b l) (K : KeyFn P k mk) (ht : P.underlying t = some (.map k e)) (a : α) (v : Value) :
    ∃ w', (Instr.mapUpdate t (.map (some b)) (mk a) v).run P w = .ok () w' ∧ VMap w' mk b (Vm.put a v l) ∧ w.mapTurned w' b := by
  obtain ⟨es, clock, hb, hm, hn, hd, hc⟩ := h
  rcases K.find w a es.toList (vm_keys hm) with ⟨h1, h2⟩ | ⟨j, x, h1, h2, h3⟩
  · have ha := Vm.absent (vm_not hm h2)
    refine ⟨setBlock w b (.map (es.push ⟨mk a, v, clock⟩) (clock + 1)), ?_, ⟨es.push ⟨mk a, v, clock⟩, clock + 1, (MapKept.heap_set hb).1, ?_, Vm.nodup_put hn, ?_, ?_⟩, ⟨es, clock, _, _, hb, rfl⟩⟩
    · simp [Instr.mapUpdate, run_underlying ht, MapKept.run_getObj_map hb, K.check, h1, MapKept.run_setObj_map _ hb, Result.andThen, setBlock]
    · rw [ha.2.1 v, Array.toList_push, List.map_append, hm, List.map_append]; rfl
    · rw [Array.toList_push, List.map_append, List.nodup_append]
      refine ⟨hd, by simp, fun x hx y hy => ?_⟩
      obtain ⟨z, hz, rfl⟩ := List.mem_map.1 hx
      simp only [List.map_cons, List.map_nil, List.mem_singleton] at hy
      have := hc z hz
      omega
    · intro x hx
      simp only [Array.toList_push, List.mem_append, List.mem_singleton] at hx
      rcases hx with hx | rfl
      · have := hc x hx; omega
      · show clock < clock + 1; omega
  · have hl := vm_at K hm h2 h3
    have hh := Vm.here hn hl
    have hx0 : es[j]? = some x := by rw [← Array.getElem?_toList]; exact h2
    have hms := modify_set h2 (fun y => { y with key := mk a, val := v })
    refine ⟨setBlock w b (.map (es.modify j fun y => { y with key := mk a, val := v }) clock), ?_, ⟨es.modify j fun y => { y with key := mk a, val := v }, clock, (MapKept.heap_set hb).1, ?_, Vm.nodup_put hn, ?_, ?_⟩, ⟨es, clock, _, _, hb, rfl⟩⟩
    · simp [Instr.mapUpdate, run_underlying ht, MapKept.run_getObj_map hb, K.check, h1, hx0, h3, K.stays, MapKept.run_setObj_map _ hb, Result.andThen, setBlock]
    · rw [hms, List.map_set, hm, hh.2.1 v, List.map_set]
    · rw [hms, List.map_set]
      have e1 : (es.toList.map (·.born)).set j x.born = es.toList.map (·.born) := by
        apply List.ext_getElem?
        intro i
        rw [List.getElem?_set]
        by_cases hij : j = i
        · subst hij
          have := (List.getElem?_eq_some_iff.1 h2).1
          rw [List.getElem?_map, h2]
          simp only [if_true, List.length_map, this, Option.map_some]
        · simp [hij]
      rw [e1]; exact hd
    · intro y hy
      rw [hms] at hy
      rcases List.mem_or_eq_of_mem_set hy with h | rfl
      · exact hc y h
      · exact hc x (List.mem_of_getElem? h2)

theorem VMap.drop (h : VMap w mk b l) (K : KeyFn P k mk) (ht : P.underlying t = some (.map k e)) (a : α) (ty : TypeId) :
    ∃ w', (Builtin.delete_ #[t, k] ty #[.map (some b), mk a]).run P w = .ok (.tuple #[]) w' ∧ VMap w' mk b (Vm.del a l) ∧ w.mapTurned w' b := by
  obtain ⟨es, clock, hb, hm, hn, hd, hc⟩ := h
  rcases K.find w a es.toList (vm_keys hm) with ⟨h1, h2⟩ | ⟨j, x, h1, h2, h3⟩
  · have ha := Vm.absent (vm_not hm h2)
    refine ⟨setBlock w b (.map es clock), ?_, ⟨es, clock, (MapKept.heap_set hb).1, by rw [ha.2.2]; exact hm, by rw [ha.2.2]; exact hn, hd, hc⟩, ⟨es, clock, _, _, hb, rfl⟩⟩
    simp [Builtin.delete_, run_underlying ht, MapKept.run_getObj_map hb, K.check, h1, MapKept.run_setObj_map _ hb, Result.andThen, setBlock]
  · have hl := vm_at K hm h2 h3
    have hh := Vm.here hn hl
    refine ⟨setBlock w b (.map (es.eraseIdxIfInBounds j) clock), ?_, ⟨es.eraseIdxIfInBounds j, clock, (MapKept.heap_set hb).1, ?_, Vm.nodup_del hn, ?_, ?_⟩, ⟨es, clock, _, _, hb, rfl⟩⟩
    · simp [Builtin.delete_, run_underlying ht, MapKept.run_getObj_map hb, K.check, h1, MapKept.run_setObj_map _ hb, Result.andThen, setBlock]
    · rw [Array.toList_eraseIdxIfInBounds, ChangeMaps.map_eraseIdx, hm, hh.2.2, ChangeMaps.map_eraseIdx]
    · rw [Array.toList_eraseIdxIfInBounds]; exact ((List.eraseIdx_sublist _ _).map _).nodup hd
    · intro y hy
      rw [Array.toList_eraseIdxIfInBounds] at hy
      exact hc y ((List.eraseIdx_sublist _ _).subset hy)

theorem VMap.len (h : VMap w mk b l) (ht : P.underlying t = some (.map k e)) (ty : TypeId) : (Builtin.len_ #[t] ty #[.map (some b)]).run P w = .ok (.int .i64 (l.length : Int)) w := by
  obtain ⟨es, clock, hb, hm, _⟩ := h
  have hs : es.size = l.length := by
    have := congrArg List.length hm
    simpa using this
  simp [Builtin.len_, Builtin.lenOf, run_underlying ht, MapKept.run_getObj_map hb, hs, goInt]

/-- a loop over the map in block b, whose iterator lies in block r, has handed out the keys done; cnt entries are left -/
def VRange (w : World) (mk : α → Value) (b r : Nat) (l : List (α × Value)) (done : List α) (cnt : Nat) : Prop :=
  ∃ es clock since seen c0, w.heap[b]? = some (.map es clock) ∧ es.toList.map (fun x => (x.key, x.val)) = l.map (fun p => (mk p.1, p.2)) ∧ (Vm.keys l).Nodup ∧ (es.toList.map (·.born)).Nodup ∧ (∀ x ∈ es.toList, x.born < clock) ∧
    w.heap[r]? = some (.mapIter (some b) since seen c0) ∧ (∀ x ∈ es.toList, x.born < since) ∧ since ≤ c0 ∧ since ≤ clock ∧ (leftOf es seen).size = cnt ∧ done.Nodup ∧ (∀ a ∈ done, a ∈ Vm.keys l) ∧
    ∀ x ∈ es.toList, ∀ a, x.key = mk a → (seen.contains x.born = true ↔ a ∈ done)

theorem VRange.owns {cnt : Nat} (h : VRange w mk b r l done cnt) : VMap w mk b l := by
  obtain ⟨es, clock, _, _, _, h1, h2, h3, h4, h5, _⟩ := h
  exact ⟨es, clock, h1, h2, h3, h4, h5⟩
theorem VRange.ltr {cnt : Nat} (h : VRange w mk b r l done cnt) : r < w.heap.size := by
  obtain ⟨es, clock, _, _, _, _, _, _, _, _, hr, _⟩ := h
  exact (Array.getElem?_eq_some_iff.1 hr).1
theorem VRange.of_blocks {cnt : Nat} {w' : World} (h : VRange w mk b r l done cnt) (hb : w'.heap[b]? = w.heap[b]?) (hr : w'.heap[r]? = w.heap[r]?) : VRange w' mk b r l done cnt := by
  obtain ⟨es, clock, since, seen, c0, h1, h2, h3, h4, h5, h6, h7⟩ := h
  exact ⟨es, clock, since, seen, c0, hb.trans h1, h2, h3, h4, h5, hr.trans h6, h7⟩
theorem VRange.left_eq {cnt : Nat} (h : VRange w mk b r l done cnt) : w.rangeLeft b r = cnt := by
  obtain ⟨es, clock, since, seen, c0, h1, h2, h3, h4, h5, h6, h7, h8, h9, h10, _⟩ := h
  simp only [World.rangeLeft, h1, h6]
  exact h10
theorem VRange.grown {cnt : Nat} {w' : World} {row : Option Nat} (h : VRange w mk b r l done cnt) (hg : w.grownBy w' row) (hb : row ≠ some b) (hr : row ≠ some r) : VRange w' mk b r l done cnt :=
  h.of_blocks (hg.block b h.owns.lt (fun e => hb e.symm)) (hg.block r h.ltr (fun e => hr e.symm))
theorem VRange.alloc {cnt : Nat} (h : VRange w mk b r l done cnt) (o : Obj) : VRange (w.alloc o) mk b r l done cnt := h.of_blocks (Below.heap_alloc w o b h.owns.lt) (Below.heap_alloc w o r h.ltr)
theorem VRange.setCell {cnt : Nat} (h : VRange w mk b r l done cnt) {a : Addr} (hb : b ≠ a.block) (hr : r ≠ a.block) (u : Value) : VRange (w.setCell a u) mk b r l done cnt := h.of_blocks (Below.heap_setCell w a u b hb) (Below.heap_setCell w a u r hr)
theorem VRange.drew {cnt : Nat} (h : VRange w mk b r l done cnt) : VRange w.drew mk b r l done cnt := h
theorem VRange.nodup {cnt : Nat} (h : VRange w mk b r l done cnt) : done.Nodup ∧ ∀ a ∈ done, a ∈ Vm.keys l := by
  obtain ⟨es, clock, since, seen, c0, h1, h2, h3, h4, h5, h6, h7, h8, h9, h10, h11, h12, _⟩ := h
  exact ⟨h11, h12⟩

theorem VMap.range (h : VMap w mk b l) (ht : P.underlying t = some (.map k e)) :
    ∃ w' cnt, (Instr.range t (.map (some b))).run P w = .ok (.pointer (some ⟨w.heap.size, 0, none⟩)) w' ∧ VRange w' mk b w.heap.size l [] cnt ∧ w.grownBy w' none ∧ w'.heap.size = w.heap.size + 1 := by
  have hlt := h.lt
  obtain ⟨es, clock, hb, hm, hn, hd, hc⟩ := h
  refine ⟨w.alloc (.mapIter (some b) clock #[] clock), _, run_range_map w t k e b es clock ht hb, ⟨es, clock, clock, #[], clock, ((MapKept.heap_alloc w _).2 b hlt).trans hb, hm, hn, hd, hc, (MapKept.heap_alloc w _).1, hc, Nat.le_refl _, Nat.le_refl _, rfl, by simp, by simp, by simp⟩, World.grownBy_alloc w _ none, by simp⟩

theorem VRange.next {cnt : Nat} (h : VRange w mk b r l done cnt) (K : KeyFn P k mk) (ty : TypeId) :
    ((∀ a, a ∈ done ↔ a ∈ Vm.keys l) ∧ (Instr.next (.pointer (some ⟨r, 0, none⟩)) false ty).run P w = .ok (.tuple #[.bool false]) w) ∨
    ∃ a v w' cnt', (a, v) ∈ l ∧ a ∉ done ∧ (Instr.next (.pointer (some ⟨r, 0, none⟩)) false ty).run P w = .ok (.tuple #[.bool true, mk a, v]) w' ∧ VRange w' mk b r l (done ++ [a]) cnt' ∧ cnt' < cnt ∧ w.grownBy w' (some r) ∧ w'.heap.size = w.heap.size ∧
      (Instr.entry (.pointer (some ⟨r, 0, none⟩))).run P w' = .ok (.tuple #[mk a, v]) w' := by
  obtain ⟨es, clock, since, seen, c0, hb, hm, hn, hd, hc, hr, hold, hsc, hsk, rfl, hdn, hdk, hiff⟩ := h
  have hne : r ≠ b := by intro e; rw [e, hb] at hr; cases hr
  rcases run_next_at (P := P) w ty r b since c0 seen es clock hr hb hold hsc with ⟨h0, hrun⟩ | ⟨x, hx, w1, hal, hrun⟩
  · refine .inl ⟨fun a => ⟨hdk a, fun ha => ?_⟩, hrun⟩
    obtain ⟨p, hp, rfl⟩ := List.mem_map.1 ha
    have : (mk p.1, p.2) ∈ es.toList.map (fun x => (x.key, x.val)) := by rw [hm]; exact List.mem_map.2 ⟨p, hp, rfl⟩
    obtain ⟨y, hy, e⟩ := List.mem_map.1 this
    injection e with e1 e2
    exact (hiff y hy p.1 e1).1 (all_seen es seen h0 y hy)
  · obtain ⟨hem, hes⟩ := mem_left hx
    have hmem : (x.key, x.val) ∈ l.map (fun p => (mk p.1, p.2)) := by rw [← hm]; exact List.mem_map.2 ⟨x, hem, rfl⟩
    obtain ⟨p, hp, e⟩ := List.mem_map.1 hmem
    injection e with e1 e2
    have hr1 : w1.heap[r]? = some (.mapIter (some b) since seen c0) := by rcases hal with rfl | rfl <;> exact hr
    have hb1 : w1.heap[b]? = some (.map es clock) := by rcases hal with rfl | rfl <;> exact hb
    have hset := MapKept.heap_set (o' := .mapIter (some b) since (seen.push x.born) clock) hr1
    have hb' : (setBlock w1 r (.mapIter (some b) since (seen.push x.born) clock)).heap[b]? = some (.map es clock) := (hset.2 b (fun e1 => hne e1.symm)).trans hb1
    have hnd : p.1 ∉ done := fun hin => by
      have := (hiff x hem p.1 e1.symm).2 hin
      rw [hes] at this
      cases this
    have hen := run_entry_at (P := P) _ r b since seen es clock x hset.1 hb' hem hd
    rw [← e1, ← e2] at hrun hen
    refine .inr ⟨p.1, p.2, _, _, hp, hnd, hrun,
      ⟨es, clock, since, seen.push x.born, clock, hb', hm, hn, hd, hc, hset.1, hold, hsk, hsk, rfl, ?_, ?_, ?_⟩, left_shrinks es seen x hx, ?_, ?_, hen⟩
    · rw [List.nodup_append]
      refine ⟨hdn, by simp, fun a ha c hc' => ?_⟩
      simp only [List.mem_singleton] at hc'
      subst hc'
      intro e; subst e; exact hnd ha
    · intro a ha
      simp only [List.mem_append, List.mem_singleton] at ha
      rcases ha with ha | rfl
      · exact hdk a ha
      · exact List.mem_map.2 ⟨p, hp, rfl⟩
    · intro y hy a hya
      rw [contains_push]
      simp only [Bool.or_eq_true, beq_iff_eq, List.mem_append, List.mem_singleton]
      rw [hiff y hy a hya]
      refine or_congr Iff.rfl ?_
      constructor
      · intro hbb
        obtain rfl := born_inj hd hy hem hbb
        exact K.inj _ _ (hya.symm.trans e1.symm)
      · intro hap
        obtain ⟨i, hi⟩ := List.getElem?_of_mem hy
        obtain ⟨j, hj⟩ := List.getElem?_of_mem hem
        have li := vm_at K hm hi hya
        have lj := vm_at K hm hj e1.symm
        have ki : (Vm.keys l)[i]? = some a := by unfold Vm.keys; rw [List.getElem?_map, li]; rfl
        have kj : (Vm.keys l)[j]? = some p.1 := by unfold Vm.keys; rw [List.getElem?_map, lj]; rfl
        rw [← hap] at kj
        have hij : i = j := (List.getElem?_inj (List.getElem?_eq_some_iff.1 ki).1 hn).1 (ki.trans kj.symm)
        subst hij
        rw [hi] at hj
        injection hj with hj
        rw [hj]
    · rcases hal with rfl | rfl <;> exact ⟨rfl, rfl, rfl, by simp [setBlock], fun i _ hi => hset.2 i (fun e1 => hi (by rw [e1]))⟩
    · rcases hal with rfl | rfl <;> simp [setBlock]
end
section
variable {α : Type} [DecidableEq α] {P : Program} {mk : α → Value} (w : World) {ops : Array Oper} {rest : List Oper} {o : Oper} {a : Act} {Q : Exit → Act → World → Prop}

/-- 'v, ok := m[x]' -/
theorem wpList_vlook_ok (hg : o.guard = none) (m x : Operand) (t : TypeId) (hop : o.op = Op.lookup t m x true) (k e : TypeId) (K : KeyFn P k mk) (ht : P.underlying t = some (.map k e)) {z : Value} (hz : (zeroValue e).run P w = .ok z w)
    (b : Nat) (l : List (α × Value)) (hm : a.eval m = .map (some b)) (h : VMap w mk b l) (c : α) (hx : a.eval x = mk c) (g : Option Value) (hgt : Vm.get c l = g)
    (hK : wpList P ops Q rest (a.put o.dst (.tuple #[g.getD z, .bool g.isSome])) w) : wpList P ops Q (o :: rest) a w := by
  refine wpList_plain hg fun K' hK' => ?_
  have hrun := h.look K ht hz c true
  rw [hgt] at hrun
  unfold Oper.wp
  simp [execOp, hop, hm, hx, hrun, Result.andThen]
  exact hK' _ _ hK
/-- 'v := m[x]' -/
theorem wpList_vlook (hg : o.guard = none) (m x : Operand) (t : TypeId) (hop : o.op = Op.lookup t m x false) (k e : TypeId) (K : KeyFn P k mk) (ht : P.underlying t = some (.map k e)) {z : Value} (hz : (zeroValue e).run P w = .ok z w)
    (b : Nat) (l : List (α × Value)) (hm : a.eval m = .map (some b)) (h : VMap w mk b l) (c : α) (hx : a.eval x = mk c) (g : Option Value) (hgt : Vm.get c l = g)
    (hK : wpList P ops Q rest (a.put o.dst (g.getD z)) w) : wpList P ops Q (o :: rest) a w := by
  refine wpList_plain hg fun K' hK' => ?_
  have hrun := h.look K ht hz c false
  rw [hgt] at hrun
  unfold Oper.wp
  simp [execOp, hop, hm, hx, hrun, Result.andThen]
  exact hK' _ _ hK
/-- 'm[x] = v' -/
theorem wpList_vput (hg : o.guard = none) (m x v : Operand) (t : TypeId) (hop : o.op = Op.mapUpdate t m x v) (k e : TypeId) (K : KeyFn P k mk) (ht : P.underlying t = some (.map k e))
    (b : Nat) (l : List (α × Value)) (hm : a.eval m = .map (some b)) (h : VMap w mk b l) (c : α) (hx : a.eval x = mk c) (u : Value) (hv : a.eval v = u)
    (hK : ∀ w', VMap w' mk b (Vm.put c u l) → w.mapTurned w' b → wpList P ops Q rest (a.put o.dst undef) w') : wpList P ops Q (o :: rest) a w := by
  refine wpList_plain hg fun K' hK' => ?_
  obtain ⟨w', hrun, r1, r2⟩ := h.update K ht c u
  unfold Oper.wp
  simp [execOp, hop, hm, hx, hv, hrun, Result.andThen]
  exact hK' _ _ (hK w' r1 r2)
/-- 'delete(m, x)' -/
theorem wpList_vdel (hg : o.guard = none) (m x : Operand) (t k : TypeId) (hop : o.op = Op.call { callee := Callee.builtin Builtin.delete, args := #[m, x], argTypes := #[t, k] }) (e : TypeId) (K : KeyFn P k mk) (ht : P.underlying t = some (.map k e))
    (b : Nat) (l : List (α × Value)) (hm : a.eval m = .map (some b)) (h : VMap w mk b l) (c : α) (hx : a.eval x = mk c)
    (hK : ∀ w', VMap w' mk b (Vm.del c l) → w.mapTurned w' b → wpList P ops Q rest (a.put o.dst (.tuple #[])) w') : wpList P ops Q (o :: rest) a w := by
  refine wpList_plain hg fun K' hK' => ?_
  obtain ⟨w', hrun, r1, r2⟩ := h.drop K ht c o.type
  unfold Oper.wp
  simp [execOp, hop, resolve, invoke, builtin, hm, hx, hrun, Result.andThen]
  exact hK' _ _ (hK w' r1 r2)
/-- 'len(m)' -/
theorem wpList_vlen (hg : o.guard = none) (m : Operand) (t : TypeId) (hop : o.op = Op.call { callee := Callee.builtin Builtin.len, args := #[m], argTypes := #[t] }) (k e : TypeId) (ht : P.underlying t = some (.map k e))
    (b : Nat) (l : List (α × Value)) (hm : a.eval m = .map (some b)) (h : VMap w mk b l) (n : Int) (hn : (l.length : Int) = n)
    (hK : wpList P ops Q rest (a.put o.dst (.int .i64 n)) w) : wpList P ops Q (o :: rest) a w := by
  refine wpList_plain hg fun K' hK' => ?_
  subst hn
  unfold Oper.wp
  simp [execOp, hop, resolve, invoke, builtin, hm, h.len ht o.type, Result.andThen]
  exact hK' _ _ hK
/-- 'range m' -/
theorem wpList_vrange (hg : o.guard = none) (m : Operand) (t : TypeId) (hop : o.op = Op.range t m) (k e : TypeId) (ht : P.underlying t = some (.map k e)) (b : Nat) (l : List (α × Value)) (hm : a.eval m = .map (some b)) (h : VMap w mk b l)
    (hK : ∀ w' cnt, VRange w' mk b w.heap.size l [] cnt → w.grownBy w' none → w'.heap.size = w.heap.size + 1 → wpList P ops Q rest (a.put o.dst (.pointer (some ⟨w.heap.size, 0, none⟩))) w') : wpList P ops Q (o :: rest) a w := by
  refine wpList_plain hg fun K' hK' => ?_
  obtain ⟨w', cnt, hrun, r1, r2, r3⟩ := h.range ht
  unfold Oper.wp
  simp [execOp, hop, hm, hrun, Result.andThen]
  exact hK' _ _ (hK w' cnt r1 r2 r3)
/-- the step of a loop over a map -/
theorem wpList_vnext (hg : o.guard = none) (it : Operand) (hop : o.op = Op.next it false) (k : TypeId) (K : KeyFn P k mk) (b r : Nat) (l : List (α × Value)) (done : List α) (cnt : Nat) (hit : a.eval it = .pointer (some ⟨r, 0, none⟩)) (h : VRange w mk b r l done cnt)
    (hDone : (∀ c, c ∈ done ↔ c ∈ Vm.keys l) → wpList P ops Q rest (a.put o.dst (.tuple #[.bool false])) w)
    (hMore : ∀ (c : α) (u : Value) (w' : World) (cnt' : Nat), (c, u) ∈ l → c ∉ done → VRange w' mk b r l (done ++ [c]) cnt' → cnt' < cnt → w.grownBy w' (some r) → w'.heap.size = w.heap.size →
      (Instr.entry (.pointer (some ⟨r, 0, none⟩))).run P w' = .ok (.tuple #[mk c, u]) w' → wpList P ops Q rest (a.put o.dst (.tuple #[.bool true, mk c, u])) w') :
    wpList P ops Q (o :: rest) a w := by
  refine wpList_plain hg fun K' hK' => ?_
  unfold Oper.wp
  rcases h.next K o.type with ⟨hl, hrun⟩ | ⟨c, u, w', cnt', hmem, hnd, hrun, hrg, hlt, hgr, hsz, hen⟩
  · simp [execOp, hop, hit, hrun, Result.andThen]
    exact hK' _ _ (hDone hl)
  · simp [execOp, hop, hit, hrun, Result.andThen]
    exact hK' _ _ (hMore c u w' cnt' hmem hnd hrg hlt hgr hsz hen)
end
end Go.Proofs.Ytidekgmpbcnfmaa
