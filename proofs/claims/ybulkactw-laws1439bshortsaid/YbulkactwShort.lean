/-
  LawS1439BShort (5): the walk.
-/
import Derived.Test.YbulkactwNode
namespace Go.Proofs.Ybulkactw
open Go.RowKit Go.Mem
set_option linter.unusedVariables false

set_option maxHeartbeats 400000 in
theorem short_big (a0 a1 : Option Addr) (len0 cap0 len1 cap1 : Nat) (s e : Int) (w : World) (h : 1024 < len0 ∨ 1024 < len1) :
    Calls Yba.prog 5 #[.slice a0 len0 cap0, .slice a1 len1 cap1, .int .u8 s, .int .u8 e] w fun e w' => e = .returned (.bool true) ∧ Below w.heap.size w w' := by
  by_cases h0 : 1024 < len0
  · go_enter Yba.func5, Yba.ntmps5
    go_wp2_with fail
    go_ret
    exact ⟨rfl, Below.refl _ _⟩
  · have h1 : 1024 < len1 := by omega
    go_enter Yba.func5, Yba.ntmps5
    go_wp2_with fail
    go_ret
    exact ⟨rfl, Below.refl _ _⟩

set_option maxHeartbeats 1000000 in
theorem short_zero (a0 a1 : Option Addr) (len0 cap0 len1 cap1 : Nat) (s e : Int) (Z0 Z1 : Nat → Int) (w : World) (h0 : Src .u32 w a0 len0 Z0) (h1 : Src .u8 w a1 len1 Z1)
    (hl0 : len0 ≤ 1024) (hl1 : len1 ≤ 1024) (hs0 : 0 ≤ s) (hs1 : s ≤ 255) (he0 : 0 ≤ e) (he1 : e ≤ 255) (ha : s % 20 = 0) (hn : e % 20 = 0) :
    Calls Yba.prog 5 #[.slice a0 len0 cap0, .slice a1 len1 cap1, .int .u8 s, .int .u8 e] w fun e w' => e = .returned (.bool true) ∧ Below w.heap.size w w' := by
  go_enter Yba.func5, Yba.ntmps5
  go_wp2_with fail
  refine (node_any a0 a1 len0 cap0 len1 cap1 0 0 s e Z0 Z1 w h0 h1 hl0 hl1 hs0 hs1 he0 he1 ha hn).mono ?_
  rintro e w1 ⟨rfl, hN, hb, hz⟩
  have hf : w1.cell? ⟨w.heap.size + 3, 1, none⟩ = some (.int .i64 0) := hN.fin
  go_wp2_with fail
  have hN2 := fun o => hN.below ((Below.refl (w.heap.size + 4) w1).alloc (by omega) o) (by omega) (by omega) (by omega) (by omega)
  refine (agrees_none _ (w.heap.size + 3) (w.heap.size + 2) w.heap.size (w.heap.size + 1) 0 len1 (padded Z0 len0) Z1 (by exact hN2 _) _ 0 0 (by omega) (by omega) (by omega)).mono ?_
  rintro e w2 ⟨rfl, m, rfl⟩
  go_wp2_with fail
  go_ret
  exact ⟨rfl, Below.drewN (hb.alloc (by omega) _) _⟩

set_option maxHeartbeats 1000000 in
theorem short_pos (a0 a1 : Option Addr) (len0 cap0 len1 cap1 a n : Nat) (s e : Int) (Z0 Z1 : Nat → Int) (w : World) (h0 : Src .u32 w a0 len0 Z0) (h1 : Src .u8 w a1 len1 Z1)
    (hl0 : len0 ≤ 1024) (hl1 : len1 ≤ 1024) (hs0 : 0 ≤ s) (hs1 : s ≤ 255) (he0 : 0 ≤ e) (he1 : e ≤ 255) (ha : s % 20 = (a : Int)) (hn : e % 20 = (n : Int)) (hpos : 0 < a + n) :
    Calls Yba.prog 5 #[.slice a0 len0 cap0, .slice a1 len1 cap1, .int .u8 s, .int .u8 e] w fun e w' => e = .returned (.bool true) ∧ Below w.heap.size w w' := by
  have ba : a < 20 := by omega
  have bn : n < 20 := by omega
  go_enter Yba.func5, Yba.ntmps5
  go_wp2_with fail
  refine (node_any a0 a1 len0 cap0 len1 cap1 a n s e Z0 Z1 w h0 h1 hl0 hl1 hs0 hs1 he0 he1 ha hn).mono ?_
  rintro e w1 ⟨rfl, hN, hb, hz⟩
  have hf := hN.fin
  have hp : ((a : Int) + (n : Int) == 0) = false := by simp; omega
  obtain ⟨k, hk⟩ : ∃ k, a + n = k + 1 := ⟨a + n - 1, by omega⟩
  go_wp2_with (at_make; refine wpList_make_at rfl (.tmp 40) (.tmp 40) 25 rfl 34 (.int .u32 0) 4 Yba.underlying25 Yba.info34 rfl .i64 .i64 _ _ k rfl rfl (by omega) (by omega) (by omega) (by omega) ?_; intro w2 r2 s2)
  rw [hz] at r2 s2
  have b2 : Below w.heap.size w w2 := s2.below hb (by omega) (by omega)
  have hS : Src .u32 w2 (some ⟨w.heap.size, 0, none⟩) (k + 1) (padded Z0 len0) := fun _ => ⟨_, _, rfl, fun i hi => by
    rw [Nat.zero_add]; exact s2.cell (by omega) (hN.scell i (by omega))⟩
  obtain ⟨w3, hrun, r3, s3⟩ := run_copy_at w2 25 25 3 34 Yba.underlying25 Yba.size34 (w.heap.size + 4) k k (k + 1) (k + 1) (some ⟨w.heap.size, 0, none⟩) _ 34 r2 (cellsOf .u32 (padded Z0 len0) k) (by rw [cellsOf_len]; exact (Nat.min_eq_right (by omega)).symm)
    (Src.pos hS _ (by omega)) (by rw [cellsOf_len]; simp) (cellsOf_one _ _ _)
  rw [hrun]
  clear hrun
  have b3 : Below w.heap.size w w3 := s3.below b2 (by omega) (by have := s2.size; omega)
  have hN3 : IsNode w3 (w.heap.size + 3) (w.heap.size + 2) w.heap.size (w.heap.size + 1) a n len1 (padded Z0 len0) Z1 :=
    hN.below (s3.below (s2.below (Below.refl (w.heap.size + 4) w1) (by omega) (by omega)) (by omega) (by have := s2.size; omega)) (by omega) (by omega) (by omega) (by omega)
  clear hN r2 s2 r3 s3 hS hf hb b2
  go_wp2_with fail
  refine (agrees_short _ (w.heap.size + 3) (w.heap.size + 2) w.heap.size (w.heap.size + 1) a n len1 (padded Z0 len0) Z1 hN3 _ k k ba bn (by omega)).mono ?_
  rintro e w4 ⟨rfl, m, rfl⟩
  go_wp2_with fail
  go_ret
  exact ⟨rfl, Below.drewN b3 _⟩
end Go.Proofs.Ybulkactw
