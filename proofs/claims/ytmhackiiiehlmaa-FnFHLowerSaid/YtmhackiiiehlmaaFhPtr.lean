/- Two pointers to entries compared. -/
import Derived.Test.YtmhackiiiehlmaaRows
import Derived.Test.YtmhackiiiehlmaaFhMem
import Derived.WalkLawsBesides
import Derived.LaidEql
namespace Go.Proofs.Ytmhackiiiehlmaa
set_option linter.unusedVariables false
open Go.RowKit

theorem und_np : Try.prog.underlying 41 = some (.pointer 83) := by kernel_rfl
theorem info_node : (Try.prog.info? 83).map (·.size) = some 7 := by kernel_rfl
theorem eqin_same (w : World) (d : Nat) (a : Addr) : (Op.equalIn (d + 1) 41 (.pointer (some a)) (.pointer (some a))).run Try.prog w = .ok true w := by
  obtain ⟨j, hj, hs⟩ := Option.map_eq_some_iff.1 info_node
  simp [Op.equalIn, run_underlying und_np, typeInfo, sizeOf, hj, hs, run_sameAddr_same]
theorem eqin_other {w : World} (d : Nat) {a b : Nat} {ca cb : Array Value} {ta tb : TypeId} (ha : Blk w a ta ca) (hb : Blk w b tb cb) (hne : a ≠ b) : (Op.equalIn (d + 1) 41 (.pointer (some ⟨a, 0, none⟩)) (.pointer (some ⟨b, 0, none⟩))).run Try.prog w = .ok false w := by
  obtain ⟨j, hj, hs⟩ := Option.map_eq_some_iff.1 info_node
  simp [Op.equalIn, run_underlying und_np, typeInfo, sizeOf, hj, hs, run_sameAddr_other w (a := ⟨a, 0, none⟩) (b := ⟨b, 0, none⟩) (fun e => hne (by injection e)) ha hb]
theorem eql_same (w : World) (a : Addr) : (binOp .eql 41 (.pointer (some a)) (.pointer (some a))).run Try.prog w = .ok (.bool true) w := by
  simp only [binOp]
  simp [Op.equal, Op.maxDepth, eqin_same w 9999 a]
theorem neq_same (w : World) (a : Addr) : (binOp .neq 41 (.pointer (some a)) (.pointer (some a))).run Try.prog w = .ok (.bool false) w := by
  simp only [binOp]
  simp [Op.equal, Op.maxDepth, eqin_same w 9999 a]
theorem eql_other {w : World} {a b : Nat} {ca cb : Array Value} {ta tb : TypeId} (ha : Blk w a ta ca) (hb : Blk w b tb cb) (hne : a ≠ b) : (binOp .eql 41 (.pointer (some ⟨a, 0, none⟩)) (.pointer (some ⟨b, 0, none⟩))).run Try.prog w = .ok (.bool false) w := by
  simp only [binOp]
  simp [Op.equal, Op.maxDepth, eqin_other 9999 ha hb hne]
theorem neq_other {w : World} {a b : Nat} {ca cb : Array Value} {ta tb : TypeId} (ha : Blk w a ta ca) (hb : Blk w b tb cb) (hne : a ≠ b) : (binOp .neq 41 (.pointer (some ⟨a, 0, none⟩)) (.pointer (some ⟨b, 0, none⟩))).run Try.prog w = .ok (.bool true) w := by
  simp only [binOp]
  simp [Op.equal, Op.maxDepth, eqin_other 9999 ha hb hne]
theorem eqin_nilr (w : World) (d : Nat) (a : Addr) : (Op.equalIn (d + 1) 41 (.pointer (some a)) (.pointer none)).run Try.prog w = .ok false w := by
  simp [Op.equalIn, run_underlying und_np]
theorem eqin_nill (w : World) (d : Nat) (a : Addr) : (Op.equalIn (d + 1) 41 (.pointer none) (.pointer (some a))).run Try.prog w = .ok false w := by
  simp [Op.equalIn, run_underlying und_np]
theorem eql_nilr (w : World) (a : Addr) : (binOp .eql 41 (.pointer (some a)) (.pointer none)).run Try.prog w = .ok (.bool false) w := by
  simp only [binOp]
  simp [Op.equal, Op.maxDepth, eqin_nilr w 9999 a]
theorem eql_nill (w : World) (a : Addr) : (binOp .eql 41 (.pointer none) (.pointer (some a))).run Try.prog w = .ok (.bool false) w := by
  simp only [binOp]
  simp [Op.equal, Op.maxDepth, eqin_nill w 9999 a]
end Go.Proofs.Ytmhackiiiehlmaa
