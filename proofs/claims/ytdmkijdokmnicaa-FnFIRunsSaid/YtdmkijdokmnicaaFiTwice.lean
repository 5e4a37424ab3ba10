/- spec.FITwice. -/
import Derived.Test.YtdmkijdokmnicaaFiSpec
namespace Go.Proofs.Ytdmkijdokmnicaa
set_option linter.unusedVariables false
open Go.RowKit

def hasAt (xs : List FStep) (key : Int) (i : Nat) : Bool := (Vm.get key (fiSt (xs.take i)).1).isSome
/-- step n sets a key that is there -/
def tw (xs : List FStep) (n : Nat) : Bool := hasAt xs (fstepAt xs n).key n && decide ((fstepAt xs n).op = 1)
theorem has_succ (xs : List FStep) (key : Int) (i : Nat) (h : i < xs.length) (x : FStep) (hx : fstepAt xs i = x) :
    hasAt xs key (i + 1) = if x.key = key ∧ (x.op = 1 ∨ x.op = 4) then decide (x.op = 1) else hasAt xs key i := by
  unfold hasAt
  rw [fi_take xs i h, hx]
  have hok := ok_st (xs.take i)
  obtain ⟨st, hst⟩ : ∃ st, fiSt (xs.take i) = st := ⟨_, rfl⟩
  rw [hst] at hok ⊢
  unfold fiNext
  by_cases h1 : x.op = 1
  · rw [if_pos h1]
    simp only
    rw [Vm.get_put]
    by_cases hk : x.key = key
    · rw [if_pos hk, if_pos ⟨hk, .inl h1⟩]; simp [h1]
    · rw [if_neg hk, if_neg (fun e => hk e.1)]
  · rw [if_neg h1]
    by_cases h4 : x.op = 4
    · rw [if_pos h4]
      simp only
      rw [Vm.get_del hok.1]
      by_cases hk : x.key = key
      · rw [if_pos hk, if_pos ⟨hk, .inr h4⟩]; simp [h4]
      · rw [if_neg hk, if_neg (fun e => hk e.1)]
    · rw [if_neg h4, if_neg (fun e => by rcases e.2 with e | e; exact h1 e; exact h4 e)]
/-- if no step sets a key that is there, the count is the number of pairs -/
theorem count_len (xs : List FStep) (h : ∀ n, n < xs.length → tw xs n = false) : ∀ i, i ≤ xs.length → (fiSt (xs.take i)).2 = (fiSt (xs.take i)).1.length := by
  intro i
  induction i with
  | zero => intro _; simp [fiSt]
  | succ i ih =>
    intro hi
    have ih := ih (by omega)
    have ht := h i (by omega)
    rw [fi_take xs i (by omega)]
    obtain ⟨x, hx⟩ : ∃ x, fstepAt xs i = x := ⟨_, rfl⟩
    unfold tw hasAt at ht
    rw [hx] at ht ⊢
    have hok := ok_st (xs.take i)
    obtain ⟨st, hst⟩ : ∃ st, fiSt (xs.take i) = st := ⟨_, rfl⟩
    rw [hst] at hok ht ih ⊢
    unfold fiNext
    by_cases h1 : x.op = 1
    · rw [if_pos h1]
      have hn : Vm.get x.key st.1 = none := by
        simp [h1] at ht
        exact ht
      obtain ⟨_, hp, _⟩ := Vm.absent (Vm.get_none.1 hn)
      simp only
      rw [hp, ih]
      simp
    · rw [if_neg h1]
      by_cases h4 : x.op = 4
      · rw [if_pos h4]
        simp only
        cases hg : Vm.get x.key st.1 with
        | none =>
          obtain ⟨_, _, hd⟩ := Vm.absent (Vm.get_none.1 hg)
          rw [hd]
          simpa using ih
        | some u =>
          obtain ⟨j, hj, he⟩ := List.getElem_of_mem (Vm.get_mem hg)
          obtain ⟨_, _, hd⟩ := Vm.here hok.1 (show st.1[j]? = some (x.key, u) by rw [List.getElem?_eq_getElem hj, he])
          rw [hd, List.length_eraseIdx, if_pos hj]
          simp [ih]
      · rw [if_neg h4]; exact ih

def TwOut (xs : List FStep) (n : Nat) (w : World) (k : Nat) (idx : Value) (wr : World) : Prop :=
  ∃ i : Nat, idx = .int .i64 (i : Int) ∧ i + k = n ∧ (∀ t, t < i → tw xs t = false) ∧ Below w.heap.size w wr
def TwIn (xs : List FStep) (key : Int) (m : Nat) (w : World) (k : Nat) (there idx : Value) (wr : World) : Prop :=
  ∃ i : Nat, idx = .int .i64 (i : Int) ∧ i + k = m ∧ there = .bool (hasAt xs key i) ∧ Below w.heap.size w wr
theorem bdrew {B : Nat} {w wr : World} (h : Below B w wr) (n : Nat) : Below B w (wr.drewN n) := h.trans ⟨rfl, rfl, rfl, Nat.le_refl _, fun _ _ => rfl⟩

set_option maxRecDepth 100000 in
set_option maxHeartbeats 8000000 in
theorem fitwice_any (u : Value) (xs : List FStep) (n : Nat) (w : World) (hu : Rw 3 w u (xs.map stepRow)) (hn : xs.length = n) (hn9 : n ≤ 1000) :
    Calls Try.prog 19 #[u] w fun e w' => ∃ b, e = .returned (.bool b) ∧ (b = false → ∀ t, t < n → tw xs t = false) ∧ Below w.heap.size w w' := by
  obtain ⟨ua, un, uc, rfl, hul, huc, hum, hur⟩ := hu
  rw [List.length_map, hn] at hul
  subst hul
  have HUR := Lib.hid hur
  have HN := Lib.hid hn
  clear hur hn hum huc
  have hni : (n : Int) ≤ 2000 := by omega
  go_enter Try.func19, Try.ntmps19
  go_wp2_with fail
  go_loopg [3, 4, 5] n (fun k idx _ _ wr => TwOut xs n w k idx wr)
  case atStart => exact ⟨0, rfl, by omega, fun t ht => absurd ht (Nat.not_lt_zero _), Below.refl _ _⟩
  case round =>
    obtain ⟨m, rfl, hmk, htw, hbl⟩ := hrel
    have HTW := Lib.hid htw
    have HBL := Lib.hid hbl
    have hsz := hbl.size
    clear htw hbl
    cases gk with
    | zero =>
      obtain rfl : m = n := by omega
      have hd : decide ((m : Int) < (m : Int)) = false := by simp
      go_wp2_with fail
      go_ret
      exact ⟨_, rfl, fun _ => HTW.out, HBL.out⟩
    | succ k =>
      have hmn : (m : Int) < (n : Int) := by omega
      have hm0 : (0 : Int) ≤ (m : Int) := by omega
      obtain ⟨b1, o1, rfl, hcell⟩ := HUR.out (by omega)
      have HC : Hid (∀ i, i < n → ∀ wx, Below w.heap.size w wx → wx.cell? ⟨b1, o1 + i * 3, none⟩ = some (.int .i64 (fstepAt xs i).op) ∧ wx.cell? ⟨b1, o1 + i * 3 + 1, none⟩ = some (.int .u64 (fstepAt xs i).key)) := Lib.hid (fun i hi wx hb => by
        have hrow := steprow_at xs i (by rw [HN.out]; exact hi)
        have q0 := hcell i _ hrow 0 _ rfl
        have q1 := hcell i _ hrow 1 _ rfl
        rw [← hb.cell (World.block_lt_of_cell? w _ q0)] at q0
        rw [← hb.cell (World.block_lt_of_cell? w _ q1)] at q1
        rw [Nat.add_zero] at q0
        rw [← Nat.add_assoc] at q1
        exact ⟨q0, q1⟩)
      clear hcell
      obtain ⟨⟨op, key, val⟩, hx⟩ : ∃ x, fstepAt xs m = x := ⟨_, rfl⟩
      have HX := Lib.hid hx
      clear hx
      go_wp2_with fail
      go_loopg [4, 5] m (fun k there idx wr => TwIn xs key m w k there idx wr)
      case atStart => exact ⟨0, rfl, by omega, by simp [hasAt, fiSt, Vm.get], HBL.out⟩
      case round =>
        obtain ⟨i, rfl, hik, rfl, hbl⟩ := hrel
        have HBR := Lib.hid hbl
        have hszr := hbl.size
        have hqm := HC.out m (by omega) _ hbl
        rw [HX.out] at hqm
        have r0 := hqm.1
        have r1 := hqm.2
        simp only at r0 r1
        clear hqm
        cases gk with
        | zero =>
          obtain rfl : i = m := by omega
          have hd : decide ((i : Int) < (i : Int)) = false := by simp
          clear hbl
          by_cases hh : hasAt xs key i = true
          · by_cases h1 : op = 1
            · subst h1
              rw [hh]
              go_wp2_with fail
              go_ret
              exact ⟨_, rfl, fun h => by simp at h, HBR.out⟩
            · have hd1 : (op == 1) = false := by simpa using h1
              rw [hh]
              go_wp2_with fail
              go_roundg k
              case measure => omega
              case rel =>
                refine ⟨i + 1, by go_num, by omega, fun t ht => ?_, HBR.out⟩
                by_cases hti : t = i
                · subst hti
                  simp [tw, HX.out, h1]
                · exact HTW.out t (by omega)
          · have hf : hasAt xs key i = false := by simpa using hh
            rw [hf]
            go_wp2_with fail
            go_roundg k
            case measure => omega
            case rel =>
              refine ⟨i + 1, by go_num, by omega, fun t ht => ?_, HBR.out⟩
              by_cases hti : t = i
              · subst hti
                simp [tw, HX.out, hf]
              · exact HTW.out t (by omega)
        | succ k2 =>
          have him : (i : Int) < (m : Int) := by omega
          have hin : (i : Int) < (n : Int) := by omega
          have hi0 : (0 : Int) ≤ (i : Int) := by omega
          have hqi := HC.out i (by omega) _ hbl
          have hsu := has_succ xs key i (by rw [HN.out]; omega)
          obtain ⟨⟨op2, key2, val2⟩, hx2⟩ : ∃ x, fstepAt xs i = x := ⟨_, rfl⟩
          have hsu := hsu _ hx2
          rw [hx2] at hqi
          have s0 := hqi.1
          have s1 := hqi.2
          simp only at s0 s1 hsu
          have HSU := Lib.hid hsu
          clear hqi hx2 hsu hbl
          by_cases hk : key2 = key
          · subst hk
            have hdk : (key2 == key2) = true := by simp
            by_cases h1 : op2 = 1
            · subst h1
              go_wp2_with fail
              go_quiet (fail)
              go_wp2_with fail
              go_roundg k2
              case measure => omega
              case rel => exact ⟨i + 1, by go_num, by omega, by rw [HSU.out]; simp, bdrew HBR.out _⟩
            · have hd1 : (op2 == 1) = false := by simpa using h1
              by_cases h4 : op2 = 4
              · subst h4
                go_wp2_with fail
                go_quiet (fail)
                go_wp2_with fail
                go_roundg k2
                case measure => omega
                case rel => exact ⟨i + 1, by go_num, by omega, by rw [HSU.out]; simp, bdrew HBR.out _⟩
              · have hd4 : (op2 == 4) = false := by simpa using h4
                go_wp2_with fail
                go_quiet (fail)
                go_wp2_with fail
                go_roundg k2
                case measure => omega
                case rel => exact ⟨i + 1, by go_num, by omega, by rw [HSU.out]; simp [h1, h4], bdrew HBR.out _⟩
          · have hdk : (key2 == key) = false := by simpa using hk
            go_wp2_with fail
            go_quiet (fail)
            go_wp2_with fail
            go_roundg k2
            case measure => omega
            case rel => exact ⟨i + 1, by go_num, by omega, by rw [HSU.out]; simp [hk], bdrew HBR.out _⟩
end Go.Proofs.Ytdmkijdokmnicaa
