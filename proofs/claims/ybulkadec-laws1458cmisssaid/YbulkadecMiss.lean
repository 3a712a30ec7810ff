/-
  covers (5), (*bands).miss (4).
-/
import Derived.Test.YbulkadecRows
import Derived.Test.YbulkadecMem
import Derived.ProofKit
import Derived.WalkSpells
import Derived.RegionTactic
import Derived.BigRegion
import Derived.Deep.QuietTactic
import Derived.BigQuiet
namespace Go.Proofs.Ybulkadec
open Go.RowKit Go.Mem
set_option linter.unusedVariables false

/-- The headroom l does not cover the request q. -/
def badB (l q : Int) : Bool := (q != 0) && decide (l < q)

set_option maxHeartbeats 400000 in
theorem covers_any (l q : Int) (w : World) : Calls Yba.prog 5 #[.int .i64 l, .int .i64 q] w fun e w' => e = .returned (.bool (!badB l q)) ∧ w' = w := by
  unfold badB
  by_cases h1 : q ≤ l
  · have hd : decide (q ≤ l) = true := by simp [h1]
    go_enter Yba.func5, Yba.ntmps5
    go_wp2
    go_ret
    exact ⟨congrArg (fun b => Ending.returned (.bool b)) (by simp; omega), rfl⟩
  · have hd : decide (q ≤ l) = false := by simp; omega
    go_enter Yba.func5, Yba.ntmps5
    go_wp2
    go_ret
    exact ⟨congrArg (fun b => Ending.returned (.bool b)) (by rw [Bool.eq_iff_iff]; simp), rfl⟩

/-- The bands x in block bx: short lies in block bs, most in block bm. -/
structure Bands (w : World) (bx bs bm n : Nat) (missed : Bool) : Prop where
  short : w.cell? ⟨bx, 7, none⟩ = some (.slice (some ⟨bs, 0, none⟩) n n)
  most : w.cell? ⟨bx, 8, none⟩ = some (.slice (some ⟨bm, 0, none⟩) n n)
  missed : w.cell? ⟨bx, 9, none⟩ = some (.bool missed)
  free : ∀ i, w.frozen? ⟨bx, i, none⟩ = false

set_option maxHeartbeats 1000000 in
theorem miss_none (bx bl bq bs bm n : Nat) (ms : Bool) (L Q : Nat → Int) (w : World) (hn : n ≤ 1024) (rl : RowAt w bl (rowOf .i64 L n) 2) (rq : RowAt w bq (rowOf .i64 Q n) 2) (hx : Bands w bx bs bm n ms) (hb : ∀ i, i < n → badB (L i) (Q i) = false) :
    Calls Yba.prog 4 #[.pointer (some ⟨bx, 0, none⟩), .slice (some ⟨bl, 0, none⟩) n n, .slice (some ⟨bq, 0, none⟩) n n] w fun e w' => e = .returned (.tuple #[]) ∧ w' = w := by
  go_enter Yba.func4, Yba.ntmps4
  go_wp2_with fail
  go_loop [10] (fun i => ∃ k : Nat, k ≤ n ∧ i = .int .i64 k) (fun i => n - (intOf i).toNat)
  case atStart => exact ⟨0, Nat.zero_le _, rfl⟩
  case round =>
    obtain ⟨k, hk, rfl⟩ := hrel
    by_cases hlt : k < n
    · have c1 := rl.int k hlt
      have c2 := rq.int k hlt
      have b1 : (k : Int) < (n : Int) := by omega
      have hc := covers_any (L k) (Q k) w
      rw [hb k hlt] at hc
      have HC : Hid _ := hc
      clear hc hb rl rq hx
      go_wp2_with (go_at_call 5; refine Calls.mono HC.out ?_; rintro e w1 ⟨rfl, rfl⟩)
      go_round
      case rel => exact ⟨k + 1, by omega, by go_num⟩
      case measure => simp [intOf]; omega
    · clear rl rq hx hb
      go_wp2_with fail
      go_end0
      exact ⟨rfl, rfl⟩

theorem cell_set_other {w : World} {g q b o : Nat} {v u : Value} (hne : b ≠ g ∨ o ≠ q) (h : w.cell? ⟨b, o, none⟩ = some u) : (w.setCell ⟨g, q, none⟩ v).cell? ⟨b, o, none⟩ = some u := by
  rw [World.cell?_setCell_other (a := ⟨g, q, none⟩) (b := ⟨b, o, none⟩)]
  · exact h
  · intro e
    injection e with e1 e2 e3
    omega

/-- The greater of two numbers. -/
def maxI (a b : Int) : Int := if a < b then b else a

set_option maxHeartbeats 1000000 in
theorem miss_some (bx bl bq bs bm n r : Nat) (ms : Bool) (L Q S M : Nat → Int) (w : World) (hn : n ≤ 1024) (rl : RowAt w bl (rowOf .i64 L n) 2) (rq : RowAt w bq (rowOf .i64 Q n) 2) (rs : RowAt w bs (rowOf .i64 S n) 3) (rm : RowAt w bm (rowOf .i64 M n) 2) (hx : Bands w bx bs bm n ms)
    (hr : r < n) (hbad : badB (L r) (Q r) = true) (hb : ∀ i, i < r → badB (L i) (Q i) = false) (d1 : bs ≠ bm) (d2 : bs ≠ bl) (d3 : bx ≠ bs) (d4 : bx ≠ bm) :
    Calls Yba.prog 4 #[.pointer (some ⟨bx, 0, none⟩), .slice (some ⟨bl, 0, none⟩) n n, .slice (some ⟨bq, 0, none⟩) n n] w fun e w' => e = .returned (.tuple #[]) ∧
      ∃ j, w' = (((w.setCell ⟨bs, r, none⟩ (.int .i64 (wrap64 (S r + 1)))).setCell ⟨bm, r, none⟩ (.int .i64 (maxI (M r) (L r)))).setCell ⟨bx, 9, none⟩ (.bool true)).drewN j := by
  go_enter Yba.func4, Yba.ntmps4
  go_wp2_with fail
  go_loop [10] (fun i => ∃ k : Nat, k ≤ r ∧ i = .int .i64 k) (fun i => n - (intOf i).toNat)
  case atStart => exact ⟨0, Nat.zero_le _, rfl⟩
  case round =>
    obtain ⟨k, hk, rfl⟩ := hrel
    have hkn : k < n := by omega
    have c1 := rl.int k hkn
    have c2 := rq.int k hkn
    have b1 : (k : Int) < (n : Int) := by omega
    by_cases hlt : k < r
    · have hc := covers_any (L k) (Q k) w
      rw [hb k hlt] at hc
      have HC : Hid _ := hc
      clear hc hb rl rq hx rs rm
      go_wp2_with (go_at_call 5; refine Calls.mono HC.out ?_; rintro e w1 ⟨rfl, rfl⟩)
      go_round
      case rel => exact ⟨k + 1, by omega, by go_num⟩
      case measure => simp [intOf]; omega
    · obtain rfl : k = r := by omega
      have hc := covers_any (L k) (Q k) w
      rw [hbad] at hc
      have HC : Hid _ := hc
      have c3 := rs.int k hkn
      have c4 := rs.frozen k
      have c5 := rm.int k hkn
      have c6 := rm.frozen k
      obtain ⟨x1, x2, x3, x4⟩ := hx
      have x5 := x4 9
      clear hc hb rl rq rs rm x4
      go_wp2_with (go_at_call 5; refine Calls.mono HC.out ?_; rintro e w1 ⟨rfl, hw1⟩; rw [hw1]; clear hw1 HC)
      obtain ⟨w2, hw2⟩ : ∃ w2, w2 = w.setCell ⟨bs, k, none⟩ (.int .i64 (wrap64 (S k + 1))) := ⟨_, rfl⟩
      have y1 : w2.cell? ⟨bx, 8, none⟩ = some (.slice (some ⟨bm, 0, none⟩) n n) := by rw [hw2]; exact cell_set_other (Or.inl d3) x2
      have y2 : w2.cell? ⟨bl, k, none⟩ = some (.int .i64 (L k)) := by rw [hw2]; exact cell_set_other (Or.inl (Ne.symm d2)) c1
      have y3 : w2.cell? ⟨bm, k, none⟩ = some (.int .i64 (M k)) := by rw [hw2]; exact cell_set_other (Or.inl (Ne.symm d1)) c5
      have y4 : w2.frozen? ⟨bm, k, none⟩ = false := by rw [hw2, World.frozen?_setCell]; exact c6
      have y5 : (w2.setCell ⟨bm, k, none⟩ (.int .i64 (maxI (M k) (L k)))).cell? ⟨bx, 9, none⟩ = some (.bool ms) := by rw [hw2]; exact cell_set_other (Or.inl d4) (cell_set_other (Or.inl d3) x3)
      have y6 : (w2.setCell ⟨bm, k, none⟩ (.int .i64 (maxI (M k) (L k)))).frozen? ⟨bx, 9, none⟩ = false := by rw [World.frozen?_setCell, hw2, World.frozen?_setCell]; exact x5
      rw [← hw2]
      have HW : Hid (w2 = w.setCell ⟨bs, k, none⟩ (.int .i64 (wrap64 (S k + 1)))) := hw2
      clear hw2 x1 x2 x3 x5 c1 c2 c3 c4 c5 c6
      by_cases hM : M k < L k
      · have hmx : maxI (M k) (L k) = L k := if_pos hM
        rw [hmx] at y5 y6
        have HM : Hid (maxI (M k) (L k) = L k) := hmx
        clear hmx
        go_region
        go_wp2_with fail
        refine bodyPost_ret (results_none rfl _ _ _) rfl ?_
        exact ⟨rfl, 1, by rw [HM.out, HW.out]; rfl⟩
      · have hmx : maxI (M k) (L k) = M k := if_neg hM
        rw [hmx] at y5 y6
        have HM : Hid (maxI (M k) (L k) = M k) := hmx
        clear hmx
        go_region
        go_wp2_with fail
        refine bodyPost_ret (results_none rfl _ _ _) rfl ?_
        exact ⟨rfl, 1, by rw [HM.out, HW.out]; rfl⟩
end Go.Proofs.Ybulkadec
