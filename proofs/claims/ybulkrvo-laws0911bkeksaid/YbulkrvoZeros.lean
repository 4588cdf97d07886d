import Derived.Test.YbulkrvoRows
import Derived.Test.YbulkrvoBlocks
import Derived.Stop.BytesEq
namespace Go.Proofs.Ybulkrvo
open Go.Proofs Go.RowKit
set_option maxRecDepth 100000

/-- The zero value of type 46: its cells. -/
def Z46 : Array Value := #[.slice none 0 0, .int .u8 0, .int .u8 0, .int .u8 0, .int .u8 0, .int .u8 0, .int .u8 0, .int .u8 0, .int .u8 0, .int .u8 0, .int .u8 0, .int .u8 0, .int .u8 0, .int .u8 0, .int .u8 0, .int .u8 0, .int .u8 0, .int .u64 0, .int .u64 0, .pointer none, .int .u16 0, .int .u64 0, .int .u64 0, .pointer none, .int .u16 0, .int .u32 0, .slice none 0 0, .slice none 0 0, .pointer none, .bool false, .slice none 0 0, .int .i64 0, .int .u32 0]
/-- The zero value of type 53: its cells. -/
def Z53 : Array Value := #[.pointer none, .string ⟨#[]⟩, .pointer none, .pointer none, .slice none 0 0, .int .u8 0, .int .u8 0, .int .u8 0, .int .u8 0, .int .u8 0, .int .u8 0, .int .u8 0, .int .u8 0, .int .u8 0, .int .u8 0, .int .u8 0, .int .u8 0, .int .u8 0, .int .u8 0, .int .u8 0, .int .u8 0, .int .u64 0, .int .u64 0, .pointer none, .int .u16 0, .int .u64 0, .int .u64 0, .pointer none, .int .u16 0, .int .u32 0, .slice none 0 0, .slice none 0 0, .pointer none, .bool false, .slice none 0 0, .int .i64 0, .int .u32 0, .slice none 0 0, .slice none 0 0, .slice none 0 0, .nilIface, .bool false, .int .u64 0, .int .u64 0, .pointer none, .int .u16 0, .int .u64 0, .int .u64 0, .pointer none, .int .u16 0]
/-- The zero value of type 66: its cells. -/
def Z66 : Array Value := #[.int .u8 0, .int .u8 0, .int .u8 0, .int .u8 0, .slice none 0 0, .map none, .pointer none, .int .u8 0, .int .u8 0, .int .u8 0, .int .u8 0, .int .u8 0, .int .u8 0, .int .u8 0, .int .u8 0, .int .u8 0, .int .u8 0, .int .u8 0, .int .u8 0, .int .u8 0, .int .u8 0, .int .u8 0, .int .u8 0, .int .u64 0, .int .u64 0, .pointer none, .int .u16 0, .int .u64 0, .int .u64 0, .pointer none, .int .u16 0, .int .u32 0, .slice none 0 0, .slice none 0 0, .pointer none, .bool false, .slice none 0 0, .int .i64 0, .slice none 0 0, .pointer none, .pointer none, .slice none 0 0, .map none, .pointer none, .pointer none, .int .i64 0]
theorem z46 (W : World) : (zeroValue 46).run Yba.prog W = .ok (.agg Z46) W := Yba.zeroValue46 W
theorem size46 : Z46.size = 33 := by kernel_rfl
theorem size53 : Z53.size = 50 := by kernel_rfl
theorem size66 : Z66.size = 46 := by kernel_rfl
theorem one46 : (Z46.toList.all (·.oneCell')) = true := by kernel_rfl

theorem built46 (parts : List (Nat × Value)) : Yba.prog.built 46 parts = Instr.fill (#[(0, 1), (1, 31), (32, 1)][·]?) Z46 parts := by kernel_rfl
theorem built66 (parts : List (Nat × Value)) : Yba.prog.built 66 parts = Instr.fill (#[(0, 4), (4, 1), (5, 1), (6, 1), (7, 31), (38, 1), (39, 1), (40, 1), (41, 1), (42, 1), (43, 1), (44, 1), (45, 1)][·]?) Z66 parts := by kernel_rfl
theorem built53 (parts : List (Nat × Value)) : Yba.prog.built 53 parts = Instr.fill (#[(0, 1), (1, 1), (2, 1), (3, 1), (4, 33), (37, 1), (38, 1), (39, 1), (40, 1), (41, 1), (42, 4), (46, 4)][·]?) Z53 parts := by kernel_rfl

theorem made46 (a : Option Addr) (l c : Nat) : Yba.prog.built 46 [(0, .slice a l c)] = some (splice Z46 0 [.slice a l c]) := by
  rw [built46, fill_cons _ _ _ _ _ 0 rfl (by rw [size46]; simp [Value.cells])]; rfl
theorem made66 (a : Option Addr) : Yba.prog.built 66 [(3, .pointer a)] = some (splice Z66 6 [.pointer a]) := by
  rw [built66, fill_cons _ _ _ _ _ 6 rfl (by rw [size66]; simp [Value.cells])]; rfl
theorem made53 (a : Option Addr) (K : Array Value) (hK : K.size = 33) : Yba.prog.built 53 [(0, .pointer a), (4, .agg K)] = some (splice (splice Z53 0 [.pointer a]) 4 K.toList) := by
  have hs : (splice Z53 0 [.pointer a]).size = 50 := by rw [size_splice (by rw [size53]; simp), size53]
  rw [built53, fill_cons _ _ _ _ _ 0 rfl (by rw [size53]; simp [Value.cells]), fill_cons _ _ _ _ _ 4 (by simp [Value.cells, hK]) (by simp only [Value.cells, hK]; show 4 + 33 ≤ (splice Z53 0 [.pointer a]).size; rw [hs]; decide)]; rfl
end Go.Proofs.Ybulkrvo
