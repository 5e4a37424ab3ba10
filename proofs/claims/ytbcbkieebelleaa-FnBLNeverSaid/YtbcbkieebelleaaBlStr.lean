/- Strings of bytes, and walks of TestString and impl.BLTestString. -/
import Derived.Test.YtbcbkieebelleaaBlTestImpl
import Derived.Laws.BytesArg
import Derived.Laws.IdiomStrings
import Derived.Outline
namespace Go.Proofs.Ytbcbkieebelleaa
set_option linter.unusedVariables false
open Go.RowKit

theorem str_of {P : Program} {w : World} {a : Option Addr} {n cap : Nat} {bs : List Int} (h : Sl w (.slice a n cap) (u8s bs)) (src dst e : TypeId) (hs : P.underlying src = some (.slice e)) (he : P.underlying e = some (.int .u8)) (hd : P.underlying dst = some .string) :
    (convert src dst (.slice a n cap)).run P w = .ok (.string (strOfNums bs)) w := by
  obtain ⟨a', n', cap', e', hl, hc, hm, hr⟩ := h
  cases e'
  have hl2 : bs.length = n := by simpa [u8s] using hl
  by_cases h0 : 0 < n
  · obtain ⟨b, o, rfl, hcell⟩ := hr h0
    have hc2 : ∀ i, i < n → w.cell? ⟨b, o + i, none⟩ = some (.int .u8 (bs.getD i 0)) := by
      intro i hi
      have hib : i < bs.length := by omega
      exact hcell i _ (by simp [u8s, List.getElem?_eq_getElem hib])
    exact run_convert_bytes_arg w src e hs he b o n cap bs hl2 hc2 dst hd
  · obtain rfl : n = 0 := by omega
    obtain rfl : bs = [] := List.eq_nil_of_length_eq_zero hl2
    cases a with
    | none => exact run_convert_bytes_nil w src e hs he 0 cap dst hd
    | some p =>
      rw [run_convert_bytes_string w src dst e _ 0 cap hs he hd]
      exact run_bytesToString w p 0 cap [] (by simp [loadCells, loadCellsFrom])

/-- what []byte(s) lays, where s is the string of these bytes -/
theorem bytes_of (w : World) (bs : List Int) (hbs : ∀ x ∈ bs, 0 ≤ x ∧ x ≤ 255) (h9 : bs.length ≤ 100000) (src dst e : TypeId) (hs : Try.prog.underlying src = some .string) (hd : Try.prog.underlying dst = some (.slice e)) (he : Try.prog.underlying e = some (.int .u8)) :
    ∃ cap W, (convert src dst (.string (strOfNums bs))).run Try.prog w = .ok (.slice (some ⟨w.heap.size, 0, none⟩) bs.length cap) W ∧ Below w.heap.size w W ∧ Bt W (some ⟨w.heap.size, 0, none⟩) bs.length cap bs := by
  have hr := run_bytes_of_string (P := Try.prog) w src dst e (strOfNums bs) hs hd he
  have hsz := strOfNums_size bs
  have hge := grownCap_ge w (strOfNums bs).size 0 e
  have hle := grownCap_le_maxLen w (strOfNums bs).size 0 e (by rw [hsz]; unfold maxLen; omega)
  obtain ⟨cap, hcap⟩ : ∃ cap, grownCap w (strOfNums bs).size 0 e = cap := ⟨_, rfl⟩
  rw [hcap] at hr hge hle
  rw [hsz] at hr hge
  obtain ⟨o, ho⟩ : ∃ o, (bytesRow (strOfNums bs) cap).size = o := ⟨_, rfl⟩
  rw [ho] at hr
  refine ⟨cap, _, hr, ((Below.refl _ _).drew).alloc (Nat.le_refl _) _, ?_⟩
  have hnew : (w.drew.alloc (.cells (bytesRow (strOfNums bs) cap) e (o, o + 1))).heap[w.heap.size]? = some (.cells (bytesRow (strOfNums bs) cap) e (o, o + 1)) := heap_alloc_new w.drew _
  have hcell : ∀ i v, bs[i]? = some v → (w.drew.alloc (.cells (bytesRow (strOfNums bs) cap) e (o, o + 1))).cell? ⟨w.heap.size, 0 + i, none⟩ = some (.int .u8 v) := by
    intro i v hv
    rw [cell_of_row _ w.heap.size (0 + i) (bytesRow (strOfNums bs) cap) e (o, o + 1) hnew, Nat.zero_add]
    have hi : i < bs.length := by
      rcases Nat.lt_or_ge i bs.length with h | h
      · exact h
      · rw [List.getElem?_eq_none h] at hv; cases hv
    have hve : bs[i] = v := by rw [List.getElem?_eq_getElem hi] at hv; simpa using hv
    have hb := hbs v (by rw [← hve]; exact List.getElem_mem hi)
    have h1 : (bytesRow (strOfNums bs) cap)[i]? = some (.int .u8 ((UInt8.ofNat v.toNat).toNat : Int)) := by
      unfold bytesRow strOfNums
      simp [Array.getElem?_append, hi, hve]
    rw [h1]
    have h2 : ((UInt8.ofNat v.toNat).toNat : Int) = v := by
      have : (UInt8.ofNat v.toNat).toNat = v.toNat := by
        simp
        omega
      rw [this]
      omega
    rw [h2]
  refine ⟨fun h0 => ⟨w.heap.size, 0, rfl, ?_, Nat.le_refl _, hcell⟩, rfl, hge, by unfold maxLen at hle; omega, fun _ => ⟨_, _, rfl⟩⟩
  exact World.block_lt_of_cell? _ _ (hcell 0 (bs[0]'h0) (List.getElem?_eq_getElem h0))

set_option maxRecDepth 100000 in
set_option maxHeartbeats 2000000 in
theorem flteststr_any (bs : List Int) (r1 r2 r3 r4 : Int) (L : Nat → Nat) (hL : LocIs r1 r2 r3 r4 L) (hbase : BaseIs bs r1 r2 r3 r4) (B f p m k Lb : Nat) (ws : List Nat) (cap : Nat) (w : World)
    (hb : Bf B w f p m k Lb ws cap) (hbs : ∀ x ∈ bs, 0 ≤ x ∧ x ≤ 255) (h9 : bs.length ≤ 100000) (hm : 0 < m) (hmL : m ≤ Lb) (hLw : Lb ≤ 64 * ws.length) (hL5 : Lb ≤ 100000) (hk : k ≤ 100000) :
    Calls Try.prog 49 #[.pointer (some ⟨f, 0, none⟩), .string (strOfNums bs)] w fun e w' => e = .returned (.bool (tests L m k ws)) ∧ Below w.heap.size w w' := by
  obtain ⟨c1, W, hconv, hbW, hbt⟩ := bytes_of w bs hbs h9 9 49 5 (by kernel_rfl) (by kernel_rfl) (by kernel_rfl)
  have HC := Lib.hid (fltest_any bs r1 r2 r3 r4 L hL hbase B f p m k Lb ws cap (some ⟨w.heap.size, 0, none⟩) bs.length c1 W (hb.below hbW) hbt hm hmL hLw hL5 hk)
  have HBW := Lib.hid hbW
  obtain ⟨S, hS⟩ : ∃ S, strOfNums bs = S := ⟨_, rfl⟩
  rw [hS] at hconv ⊢
  clear hL hbase hb hbs h9 hm hmL hLw hL5 hk hbW hbt hS
  go_enter Try.func49, Try.ntmps49
  go_wp2_with fail
  refine HC.out.mono ?_
  rintro e w2 ⟨rfl, hb2⟩
  go_wp2_with fail
  go_ret
  exact ⟨rfl, HBW.out.trans (hb2.mono HBW.out.size)⟩

set_option maxRecDepth 100000 in
set_option maxHeartbeats 2000000 in
theorem blteststr_any (bs : List Int) (r1 r2 r3 r4 : Int) (L : Nat → Nat) (hL : LocIs r1 r2 r3 r4 L) (hbase : BaseIs bs r1 r2 r3 r4) (m k : Nat) (ws : List Nat) (v : Value) (w : World)
    (hv : Fil w v m k ws) (hbs : ∀ x ∈ bs, 0 ≤ x ∧ x ≤ 255) (h9 : bs.length ≤ 100000) (hm : 0 < m) (hmw : m ≤ 64 * ws.length) (hw : ws.length ≤ 1000) (hk : k ≤ 100000) :
    Calls Try.prog 29 #[v, .string (strOfNums bs)] w fun e w' => e = .returned (.bool (tests L m k ws)) ∧ Below w.heap.size w w' := by
  have hv0 := hv
  obtain ⟨fa, fn, fc, rfl, _⟩ := hv0
  have hb0 : Below w.heap.size w (w.alloc (.cells #[.int .u64 (m : Int), .int .u64 (k : Int), .slice fa fn fc] 39)) := (Below.refl _ _).alloc (Nat.le_refl _) _
  have HV := Lib.hid (hv.below rfl hb0)
  have HB0 := Lib.hid hb0
  have HL := Lib.hid hL
  have HBASE := Lib.hid hbase
  have HBS := Lib.hid hbs
  have HC := fun (B f p cap : Nat) (w1 : World) (hbf : Bf B w1 f p m k (64 * ws.length) ws cap) => flteststr_any bs r1 r2 r3 r4 L hL hbase B f p m k _ ws cap w1 hbf hbs h9 hm hmw (Nat.le_refl _) (by omega) hk
  obtain ⟨S, hS⟩ : ∃ S, strOfNums bs = S := ⟨_, rfl⟩
  rw [hS] at HC ⊢
  have HCC := Lib.hid HC
  clear hv hb0 hL hbase hbs hS HC
  go_enter Try.func29, Try.ntmps29
  go_wp2_with fail
  refine (filter_any _ m k ws _ HV.out (by omega) hw).mono ?_
  rintro e w1 ⟨f, p, cap, rfl, hbf, hb1⟩
  have HBF := Lib.hid hbf
  have HB1 := Lib.hid (HB0.out.trans (hb1.mono HB0.out.size))
  clear hbf hb1
  go_wp2_with fail
  refine (HCC.out _ f p cap w1 HBF.out).mono ?_
  rintro e w2 ⟨rfl, hb2⟩
  go_wp2_with fail
  go_ret
  exact ⟨rfl, HB1.out.trans (hb2.mono HB1.out.size)⟩
end Go.Proofs.Ytbcbkieebelleaa
