/-
  (*shard).wrap (5), and the walks of LawS1446AIntoRing (3), LawS1446ARoundTrip (4).
-/
import Derived.Test.YbulkacxqRows
import Derived.WalkKit
import Derived.ProofKit
import Derived.Below
import Derived.WalkSpells
import Derived.Deep.OwnRows
namespace Go.Proofs.Ybulkacxq
open Go.RowKit
set_option linter.unusedVariables false

theorem Yba.info5 : (Yba.prog.info? 5).map (fun i => (i.zero, i.size, i.bytes)) = some (some (.int .u8 0), 1, 1) := by kernel_rfl

set_option maxHeartbeats 400000 in
theorem wrap_in (bs n : Nat) (ao : Option Addr) (c : Nat) (pos : Int) (w : World) (hc : w.cell? ⟨bs, 9, none⟩ = some (.slice ao n c)) (hn : n ≤ 1024) (h : pos < n) :
    Calls Yba.prog 5 #[.pointer (some ⟨bs, 0, none⟩), .int .i64 pos] w fun e w' => e = .returned (.int .i64 pos) ∧ w' = w := by
  go_enter Yba.func5, Yba.ntmps5
  go_wp2
  go_ret
  exact ⟨rfl, rfl⟩

set_option maxHeartbeats 400000 in
theorem wrap_over (bs n : Nat) (ao : Option Addr) (c : Nat) (pos : Int) (w : World) (hc : w.cell? ⟨bs, 9, none⟩ = some (.slice ao n c)) (hn : n ≤ 1024) (h : (n : Int) ≤ pos) (hp : pos ≤ 9223372036854775807) :
    Calls Yba.prog 5 #[.pointer (some ⟨bs, 0, none⟩), .int .i64 pos] w fun e w' => e = .returned (.int .i64 (pos - n)) ∧ w' = w := by
  go_enter Yba.func5, Yba.ntmps5
  go_wp2
  go_ret
  exact ⟨rfl, rfl⟩

set_option maxHeartbeats 400000 in
theorem into_big (a0 a1 : Int) (w : World) (h : 1024 < a0) :
    Calls Yba.prog 3 #[.int .u16 a0, .int .i64 a1] w fun e w' => e = .returned (.bool true) ∧ Grown w w' := by
  go_enter Yba.func3, Yba.ntmps3
  go_wp2_with fail
  go_ret
  exact ⟨rfl, Grown.refl _⟩

/-- 'int(uint(pos) % uint(2*ln))'. -/
theorem pos_mod (a1 : Int) (n : Nat) (hn : 0 < n) (h : n ≤ 1024) : ∃ p : Nat, p < 2 * n ∧ wrap64 ((IntKind.u64.wrap a1).tmod (2 * (n : Int))) = (p : Int) := by
  have hu : 0 ≤ IntKind.u64.wrap a1 := by rw [IntKind.wrap_u64]; omega
  have e : (IntKind.u64.wrap a1).tmod (2 * (n : Int)) = (IntKind.u64.wrap a1) % (2 * (n : Int)) := Int.tmod_eq_emod_of_nonneg hu
  have h1 : 0 ≤ (IntKind.u64.wrap a1) % (2 * (n : Int)) := Int.emod_nonneg _ (by omega)
  have h2 : (IntKind.u64.wrap a1) % (2 * (n : Int)) < 2 * (n : Int) := Int.emod_lt_of_pos _ (by omega)
  obtain ⟨p, hp⟩ := Int.eq_ofNat_of_zero_le h1
  refine ⟨p, by omega, ?_⟩
  rw [e, hp, IntWalk.wrap64_in _ ⟨by omega, by omega⟩]

theorem log_cell (w : World) (g : Nat) (hg : w.heap.size = g) (n : Nat) (ao : Option Addr) (c0 c1 c2 c3 c4 c5 c6 c7 c8 c10 c11 c12 c13 c14 c15 c16 c17 c18 c19 c20 c21 c22 c23 c24 : Value) :
    (w.alloc (.cells #[c0, c1, c2, c3, c4, c5, c6, c7, c8, .slice ao n n, c10, c11, c12, c13, c14, c15, c16, c17, c18, c19, c20, c21, c22, c23, c24] 52)).cell? ⟨g, 9, none⟩ = some (.slice ao n n) := by
  subst hg
  rw [cell_of_row _ w.heap.size 9 _ 52 (0, 0) (heap_alloc_new w _)]; rfl

set_option maxHeartbeats 1000000 in
theorem into_in (n : Nat) (a1 : Int) (w : World) (h : n ≤ 1024) (hp : 0 < n) (p : Nat) (hp2 : p < n) (hpm : wrap64 ((IntKind.u64.wrap a1).tmod (2 * (n : Int))) = (p : Int)) :
    Calls Yba.prog 3 #[.int .u16 (n : Int), .int .i64 a1] w fun e w' => e = .returned (.bool true) ∧ Grown w w' := by
  have hmk := run_make_row' (P := Yba.prog) 24 5 (.int .u8 0) 1 Yba.underlying24 Yba.info5 rfl .i64 .i64 n (by omega) (by omega)
  have hn0 : ((n : Int) == 0) = false := by simp; omega
  have heq : ((p : Int) == (p : Int)) = true := by simp
  go_enter Yba.func3, Yba.ntmps3
  go_wp2_with fail
  refine (wrap_in (w.heap.size + 1) n _ n _ _ (by exact log_cell _ _ (by simp) n _ _ _ _ _ _ _ _ _ _ _ _ _ _ _ _ _ _ _ _ _ _ _ _ _) h (by omega)).mono ?_
  rintro e w1 ⟨rfl, hw1⟩
  go_wp2_with fail
  go_ret
  refine ⟨rfl, ?_⟩
  exact ((Grown.refl _).alloc _ _).alloc _ _

set_option maxHeartbeats 1000000 in
theorem into_over (n : Nat) (a1 : Int) (w : World) (h : n ≤ 1024) (hp : 0 < n) (p : Nat) (hp1 : n ≤ p) (hp2 : p < 2 * n) (hpm : wrap64 ((IntKind.u64.wrap a1).tmod (2 * (n : Int))) = (p : Int)) :
    Calls Yba.prog 3 #[.int .u16 (n : Int), .int .i64 a1] w fun e w' => e = .returned (.bool true) ∧ Grown w w' := by
  have hmk := run_make_row' (P := Yba.prog) 24 5 (.int .u8 0) 1 Yba.underlying24 Yba.info5 rfl .i64 .i64 n (by omega) (by omega)
  have hn0 : ((n : Int) == 0) = false := by simp; omega
  have heq : ((p : Int) - (n : Int) == (p : Int) - (n : Int)) = true := by simp
  go_enter Yba.func3, Yba.ntmps3
  go_wp2_with fail
  refine (wrap_over (w.heap.size + 1) n _ n _ _ (by exact log_cell _ _ (by simp) n _ _ _ _ _ _ _ _ _ _ _ _ _ _ _ _ _ _ _ _ _ _ _ _ _) h (by omega) (by omega)).mono ?_
  rintro e w1 ⟨rfl, hw1⟩
  go_wp2_with fail
  go_ret
  refine ⟨rfl, ?_⟩
  exact ((Grown.refl _).alloc _ _).alloc _ _

set_option maxHeartbeats 1000000 in
theorem into_zero (a1 : Int) (w : World) (h0 : -9223372036854775808 ≤ a1) (h1 : a1 ≤ 9223372036854775807) :
    Calls Yba.prog 3 #[.int .u16 0, .int .i64 a1] w fun e w' => e = .returned (.bool true) ∧ Grown w w' := by
  have hmk := run_make_row' (P := Yba.prog) 24 5 (.int .u8 0) 1 Yba.underlying24 Yba.info5 rfl .i64 .i64 0 (by omega) (by omega)
  simp only [Int.natCast_zero] at hmk
  have heq : (a1 == a1) = true := by simp
  by_cases hp : a1 < 0
  · go_enter Yba.func3, Yba.ntmps3
    go_wp2_with fail
    refine (wrap_in (w.heap.size + 1) 0 _ 0 _ _ (by exact log_cell _ _ (by simp) 0 _ _ _ _ _ _ _ _ _ _ _ _ _ _ _ _ _ _ _ _ _ _ _ _ _) (by omega) (by simpa using hp)).mono ?_
    rintro e w1 ⟨rfl, hw1⟩
    go_wp2_with fail
    go_ret
    refine ⟨rfl, ?_⟩
    exact ((Grown.refl _).alloc _ _).alloc _ _
  · go_enter Yba.func3, Yba.ntmps3
    go_wp2_with fail
    refine (wrap_over (w.heap.size + 1) 0 _ 0 _ _ (by exact log_cell _ _ (by simp) 0 _ _ _ _ _ _ _ _ _ _ _ _ _ _ _ _ _ _ _ _ _ _ _ _ _) (by omega) (by simpa using hp) h1).mono ?_
    rintro e w1 ⟨rfl, hw1⟩
    go_wp2_with fail
    go_ret
    refine ⟨by simp, ?_⟩
    exact ((Grown.refl _).alloc _ _).alloc _ _

set_option maxHeartbeats 400000 in
theorem round_out (a0 a1 : Int) (w : World) (h : 1024 < a0 ∨ a0 = 0) :
    Calls Yba.prog 4 #[.int .u16 a0, .int .u16 a1] w fun e w' => e = .returned (.bool true) ∧ Grown w w' := by
  rcases h with h | rfl
  · go_enter Yba.func4, Yba.ntmps4
    go_wp2_with fail
    go_ret
    exact ⟨rfl, Grown.refl _⟩
  · go_enter Yba.func4, Yba.ntmps4
    go_wp2_with fail
    go_ret
    exact ⟨rfl, Grown.refl _⟩

set_option maxHeartbeats 1000000 in
theorem round_walk (n : Nat) (a1 : Int) (w : World) (h : n ≤ 1024) (hp : 0 < n) (h0 : 0 ≤ a1) (h1 : a1 ≤ 65535) (p : Nat) (hp2 : p < n) (hpm : a1 % (n : Int) = (p : Int)) :
    Calls Yba.prog 4 #[.int .u16 (n : Int), .int .u16 a1] w fun e w' => e = .returned (.bool true) ∧ Grown w w' := by
  have hmk := run_make_row' (P := Yba.prog) 24 5 (.int .u8 0) 1 Yba.underlying24 Yba.info5 rfl .i64 .i64 n (by omega) (by omega)
  have hn0 : ((n : Int) == 0) = false := by simp; omega
  have heq : ((p : Int) == (p : Int)) = true := by simp
  have heq2 : ((p : Int) + (n : Int) - (n : Int) == (p : Int)) = true := by simp
  go_enter Yba.func4, Yba.ntmps4
  go_wp2_with fail
  refine (wrap_in (w.heap.size + 1) n _ n _ _ (by exact log_cell _ _ (by simp) n _ _ _ _ _ _ _ _ _ _ _ _ _ _ _ _ _ _ _ _ _ _ _ _ _) h (by omega)).mono ?_
  rintro e w1 ⟨rfl, hw1⟩
  go_wp2_with fail
  refine (wrap_over (w.heap.size + 1) n _ n _ _ (by exact log_cell _ _ (by simp) n _ _ _ _ _ _ _ _ _ _ _ _ _ _ _ _ _ _ _ _ _ _ _ _ _) h (by omega) (by omega)).mono ?_
  rintro e w2 ⟨rfl, hw2⟩
  go_wp2_with fail
  go_ret
  refine ⟨rfl, ?_⟩
  exact ((Grown.refl _).alloc _ _).alloc _ _
end Go.Proofs.Ybulkacxq
