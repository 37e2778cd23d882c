/-
  OWN TEXT of this seat: the struct Grant as the law builds it, and what its method MonthsFrom hands back.
-/
import Derived.Test.Qxb6609533aTime
import Derived.Deep.WholeRow
import Derived.WalkSpells
namespace Go.Proofs.Qxb6609533a
open Go.RowKit

/-- the cells of a Grant that bears an instrument s, a date (x, y), a registration p, and zero values else -/
def GV (s : ByteArray) (x y : Int) (p : Option Addr) : Array Value := #[.string { data := #[] }, .string s, .bool false, .int .u64 x, .int .i64 y, .pointer none, .int .i64 0, .pointer none, .pointer none, .int .i64 0, .pointer none, .slice none 0 0, .pointer none, .pointer p, .map none, .slice none 0 0, .pointer none, .map none, .slice none 0 0]
theorem size39 : (Try.prog.info? 39).map (·.size) = some 19 := by kernel_rfl
theorem bd (s : ByteArray) (x y : Int) (p : Option Addr) (w : World) : (Instr.build 39 #[(1, .string s), (3, .agg #[.int .u64 x, .int .i64 y, .pointer none]), (11, .pointer p)]).run Try.prog w = .ok (.agg (GV s x y p)) w := by kernel_rfl
theorem GV_one (s : ByteArray) (x y : Int) (p : Option Addr) : (GV s x y p).all (fun v => v.oneCell') = true := by simp [GV, Value.oneCell']

set_option maxHeartbeats 400000 in
theorem months_other (s : ByteArray) (x y : Int) (p : Option Addr) (w : World) (hS : (s.toList == [114, 101, 115, 116, 114, 105, 99, 116, 101, 100]) = false) :
    Calls Try.prog 6 #[.agg (GV s x y p)] w fun e w' => e = .returned (.tuple #[.agg #[.int .u64 x, .int .i64 y, .pointer none], .bool true]) ∧ Below w.heap.size w w' := by
  unfold GV
  go_enter Try.func6, Try.ntmps6
  go_wp2
  refine bodyPost_ret (v := .tuple #[.agg #[.int .u64 x, .int .i64 y, .pointer none], .bool true]) (by simp [results, Try.results6, go_sem]) rfl ⟨rfl, ?_⟩
  exact ((Below.refl _ _).alloc (Nat.le_refl _) _).alloc (by simp) _

set_option maxHeartbeats 400000 in
theorem months_none (s : ByteArray) (x y : Int) (w : World) (hS : (s.toList == [114, 101, 115, 116, 114, 105, 99, 116, 101, 100]) = true) :
    Calls Try.prog 6 #[.agg (GV s x y none)] w fun e w' => e = .returned (.tuple #[.agg #[.int .u64 0, .int .i64 0, .pointer none], .bool false]) ∧ Below w.heap.size w w' := by
  unfold GV
  go_enter Try.func6, Try.ntmps6
  go_wp2
  refine bodyPost_ret (v := .tuple #[.agg #[.int .u64 0, .int .i64 0, .pointer none], .bool false]) (by simp [results, Try.results6, go_sem]) rfl ⟨rfl, ?_⟩
  exact ((Below.refl _ _).alloc (Nat.le_refl _) _).alloc (by simp) _

set_option maxHeartbeats 400000 in
theorem months_some (s : ByteArray) (x y X Y : Int) (b : Nat) (w : World) (hS : (s.toList == [114, 101, 115, 116, 114, 105, 99, 116, 101, 100]) = true)
    (c0 : w.cell? ⟨b, 0, none⟩ = some (.int .u64 X)) (c1 : w.cell? ⟨b, 1, none⟩ = some (.int .i64 Y)) (c2 : w.cell? ⟨b, 2, none⟩ = some (.pointer none)) :
    Calls Try.prog 6 #[.agg (GV s x y (some ⟨b, 0, none⟩))] w fun e w' => e = .returned (.tuple #[.agg #[.int .u64 X, .int .i64 Y, .pointer none], .bool true]) ∧ Below w.heap.size w w' := by
  have z0 : b < w.heap.size := World.block_lt_of_cell? _ _ c0
  have z1 : b < w.heap.size + 1 := by omega
  unfold GV
  go_enter Try.func6, Try.ntmps6
  go_wp2
  refine bodyPost_ret (v := .tuple #[.agg #[.int .u64 X, .int .i64 Y, .pointer none], .bool true]) (by simp [results, Try.results6, go_sem]) rfl ⟨rfl, ?_⟩
  exact ((Below.refl _ _).alloc (Nat.le_refl _) _).alloc (by simp) _

set_option maxHeartbeats 400000 in
theorem bytesOk (s : ByteArray) (x1 x2 x3 x4 : Value) (w : World) (hs : s.size ≤ 1048576) :
    Calls Try.prog 4 #[.string s, x1, x2, x3, x4] w fun e w' => e = .returned (.bool true) ∧ w' = w := by
  go_enter Try.func4, Try.ntmps4
  go_wp2
  go_ret
  exact ⟨rfl, rfl⟩
set_option maxHeartbeats 400000 in
theorem bytesNo (s : ByteArray) (x1 x2 x3 x4 : Value) (w : World) (hs : 1048576 < s.size) :
    Calls Try.prog 4 #[.string s, x1, x2, x3, x4] w fun e w' => e = .returned (.bool false) ∧ w' = w := by
  go_enter Try.func4, Try.ntmps4
  go_wp2
  go_ret
  exact ⟨rfl, rfl⟩

theorem heap_at (w : World) (o : Obj) (n : Nat) (h : n = w.heap.size) : (w.alloc o).heap[n]? = some o := by
  subst h; exact heap_alloc_last w o
theorem setRow_at (w : World) (c c' : Array Value) (t : TypeId) (n : Nat) (h : n = w.heap.size) : (w.alloc (.cells c t)).setRow n c' = w.alloc (.cells c' t) := by
  subst h; exact World.setRow_alloc_new w c c' t

end Go.Proofs.Qxb6609533a
