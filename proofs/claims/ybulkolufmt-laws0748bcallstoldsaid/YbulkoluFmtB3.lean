/-
  SEAT b0748aF, package runtimetest: small facts for the walks of '(*Timed).Receive' (6): which type a message is asked for, and what is answered.
-/
import Derived.Test.YbulkoluFmtB2
namespace Go.Proofs.YbulkoluFmt
open Go.RowKit Go.Extern.Stop Go.Stop Go.Extern

theorem as_hit31 (v : Value) (w : World) : (Instr.typeAssert (.iface 31 v) 20 31 true).run Ybaf.prog w = .ok (.tuple #[v, .bool true]) w := by kernel_rfl
theorem as_hit32 (v : Value) (w : World) : (Instr.typeAssert (.iface 32 v) 20 32 true).run Ybaf.prog w = .ok (.tuple #[v, .bool true]) w := by kernel_rfl
theorem as_hit36 (v : Value) (w : World) : (Instr.typeAssert (.iface 36 v) 20 36 true).run Ybaf.prog w = .ok (.tuple #[v, .bool true]) w := by kernel_rfl
theorem as_hit3 (v : Value) (w : World) : (Instr.typeAssert (.iface 3 v) 20 3 true).run Ybaf.prog w = .ok (.tuple #[v, .bool true]) w := by kernel_rfl
theorem as_hit9 (v : Value) (w : World) : (Instr.typeAssert (.iface 9 v) 20 9 true).run Ybaf.prog w = .ok (.tuple #[v, .bool true]) w := by kernel_rfl
theorem as_miss32_31 (v : Value) (w : World) : (Instr.typeAssert (.iface 32 v) 20 31 true).run Ybaf.prog w = .ok (.tuple #[.agg #[.int .i64 0], .bool false]) w := by kernel_rfl
theorem as_miss36_31 (v : Value) (w : World) : (Instr.typeAssert (.iface 36 v) 20 31 true).run Ybaf.prog w = .ok (.tuple #[.agg #[.int .i64 0], .bool false]) w := by kernel_rfl
theorem as_miss36_32 (v : Value) (w : World) : (Instr.typeAssert (.iface 36 v) 20 32 true).run Ybaf.prog w = .ok (.tuple #[.agg #[.int .i64 0], .bool false]) w := by kernel_rfl
theorem as_miss3_31 (v : Value) (w : World) : (Instr.typeAssert (.iface 3 v) 20 31 true).run Ybaf.prog w = .ok (.tuple #[.agg #[.int .i64 0], .bool false]) w := by kernel_rfl
theorem as_miss3_32 (v : Value) (w : World) : (Instr.typeAssert (.iface 3 v) 20 32 true).run Ybaf.prog w = .ok (.tuple #[.agg #[.int .i64 0], .bool false]) w := by kernel_rfl
theorem as_miss3_36 (v : Value) (w : World) : (Instr.typeAssert (.iface 3 v) 20 36 true).run Ybaf.prog w = .ok (.tuple #[.agg #[.string ByteArray.empty], .bool false]) w := by kernel_rfl
theorem as_miss9_31 (v : Value) (w : World) : (Instr.typeAssert (.iface 9 v) 20 31 true).run Ybaf.prog w = .ok (.tuple #[.agg #[.int .i64 0], .bool false]) w := by kernel_rfl
theorem as_miss9_32 (v : Value) (w : World) : (Instr.typeAssert (.iface 9 v) 20 32 true).run Ybaf.prog w = .ok (.tuple #[.agg #[.int .i64 0], .bool false]) w := by kernel_rfl
theorem as_miss9_36 (v : Value) (w : World) : (Instr.typeAssert (.iface 9 v) 20 36 true).run Ybaf.prog w = .ok (.tuple #[.agg #[.string ByteArray.empty], .bool false]) w := by kernel_rfl
theorem as_miss9_3 (v : Value) (w : World) : (Instr.typeAssert (.iface 9 v) 20 3 true).run Ybaf.prog w = .ok (.tuple #[.int .i64 0, .bool false]) w := by kernel_rfl
theorem as_miss4_31 (v : Value) (w : World) : (Instr.typeAssert (.iface 4 v) 20 31 true).run Ybaf.prog w = .ok (.tuple #[.agg #[.int .i64 0], .bool false]) w := by kernel_rfl
theorem as_miss4_32 (v : Value) (w : World) : (Instr.typeAssert (.iface 4 v) 20 32 true).run Ybaf.prog w = .ok (.tuple #[.agg #[.int .i64 0], .bool false]) w := by kernel_rfl
theorem as_miss4_36 (v : Value) (w : World) : (Instr.typeAssert (.iface 4 v) 20 36 true).run Ybaf.prog w = .ok (.tuple #[.agg #[.string ByteArray.empty], .bool false]) w := by kernel_rfl
theorem as_miss4_3 (v : Value) (w : World) : (Instr.typeAssert (.iface 4 v) 20 3 true).run Ybaf.prog w = .ok (.tuple #[.int .i64 0, .bool false]) w := by kernel_rfl
theorem as_miss4_9 (v : Value) (w : World) : (Instr.typeAssert (.iface 4 v) 20 9 true).run Ybaf.prog w = .ok (.tuple #[.string ByteArray.empty, .bool false]) w := by kernel_rfl

theorem len_a {n : Nat} (h : n ≤ 1024) : n + 1 ≤ maxLen := by unfold maxLen; omega
theorem len_b {n : Nat} (h : n ≤ 1024) : (n + 1) * 16 ≤ 140737488355328 := by omega
theorem le_3 {w : World} {o1 o2 o3 : Obj} {b : Nat} (h : b ≤ w.heap.size) : b ≤ (((w.alloc o1).alloc o2).alloc o3).drew.drew.heap.size := by simp [World.drew]; omega
theorem le_2 {w : World} {o1 o2 : Obj} {b : Nat} (h : b ≤ w.heap.size) : b ≤ ((w.alloc o1).alloc o2).drew.drew.heap.size := by simp [World.drew]; omega
theorem heap_3 (w : World) (o1 o2 o3 : Obj) : (((w.alloc o1).alloc o2).alloc o3).drew.drew.heap[w.heap.size]? = some o1 := by
  show (((w.heap.push o1).push o2).push o3)[w.heap.size]? = some o1
  rw [Array.getElem?_push, if_neg (by simp; omega), Array.getElem?_push, if_neg (by simp), Array.getElem?_push, if_pos rfl]
theorem Kept.cell {A B : World} {S : Nat → Prop} (h : Kept A B S) {p : Addr} (hp : p.block < A.heap.size) (hn : ¬ S p.block) : B.cell? p = A.cell? p := World.cell?_of_block (w := A) (h.block p.block hp hn)
end Go.Proofs.YbulkoluFmt
