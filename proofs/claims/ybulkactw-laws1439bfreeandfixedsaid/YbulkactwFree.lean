/-
  LawS1439BFreeAndFixed (4): the walk.
-/
import Derived.Test.YbulkactwFreeMem
import Derived.RegionTactic
namespace Go.Proofs.Ybulkactw
open Go.RowKit Go.Mem
set_option linter.unusedVariables false

set_option maxHeartbeats 400000 in
theorem free_big (a0 a1 a2 : Option Addr) (len0 cap0 len1 cap1 len2 cap2 : Nat) (s e f : Int) (w : World) (h : 1024 < len0 ∨ 1024 < len1 ∨ 1024 < len2) :
    Calls Yba.prog 4 #[.slice a0 len0 cap0, .slice a1 len1 cap1, .slice a2 len2 cap2, .int .u8 s, .int .u8 e, .int .u8 f] w fun e w' => e = .returned (.bool true) ∧ Below w.heap.size w w' := by
  by_cases h0 : 1024 < len0
  · go_enter Yba.func4, Yba.ntmps4
    go_wp2_with fail
    go_ret
    exact ⟨rfl, Below.refl _ _⟩
  · by_cases h1 : 1024 < len1
    · go_enter Yba.func4, Yba.ntmps4
      go_wp2_with fail
      go_ret
      exact ⟨rfl, Below.refl _ _⟩
    · have h2 : 1024 < len2 := by omega
      go_enter Yba.func4, Yba.ntmps4
      go_wp2_with fail
      go_ret
      exact ⟨rfl, Below.refl _ _⟩

theorem make_run (w : World) (m n : Nat) (hmn : m ≤ n) (hn : n ≤ 3000) :
    (Instr.makeSlice 25 (.int .i64 (m : Int)) (.int .i64 (n : Int))).run Yba.prog w = .ok (.slice (some ⟨w.heap.size, 0, none⟩) m n) (w.alloc (.cells (madeCells #[.int .u32 0] n) 34)) := by
  obtain ⟨i, hi', hzz⟩ := Option.map_eq_some_iff.1 Yba.info34
  simp only [Prod.mk.injEq] at hzz
  obtain ⟨hz, hs, hb⟩ := hzz
  have hrun := run_make (P := Yba.prog) w 25 34 i _ Yba.underlying25 hi' hz .i64 .i64 m n (by omega) (by omega) (by rw [hb]; omega) (by omega)
  simp only [Int.toNat_natCast, hs, Nat.mul_one] at hrun
  exact hrun

theorem made_row (w : World) (n g : Nat) (hg : w.heap.size = g) : RowAt (w.alloc (.cells (madeCells #[.int .u32 0] n) 34)) g (List.replicate n (.int .u32 0)) 34 := by
  subst hg
  unfold RowAt
  rw [← toList_madeCells_one]
  simpa using heap_alloc_new w _

/-- What o holds behind the copy and the append. -/
def start (S T : Nat → Int) (m : Nat) (i : Nat) : Int := if i < m then S i else T (i - m)

theorem start_row (S T : Nat → Int) (m l : Nat) :
    (lay (List.replicate (m + l) (.int .u32 0)) (cellsOf .u32 S m)).take m ++ (cellsOf .u32 T l ++ (lay (List.replicate (m + l) (.int .u32 0)) (cellsOf .u32 S m)).drop (m + (cellsOf .u32 T l).length)) = rowOf .u32 (start S T m) (m + l) := by
  have e1 : (lay (List.replicate (m + l) (.int .u32 0)) (cellsOf .u32 S m)).length = m + l := by rw [lay_len _ _ (by rw [cellsOf_len]; simp)]; simp
  have e2 : (lay (List.replicate (m + l) (.int .u32 0)) (cellsOf .u32 S m)).drop (m + (cellsOf .u32 T l).length) = [] := List.drop_eq_nil_of_le (by rw [e1, cellsOf_len]; exact Nat.le_refl _)
  have e3 : (lay (List.replicate (m + l) (.int .u32 0)) (cellsOf .u32 S m)).take m = cellsOf .u32 S m := by
    unfold lay
    rw [List.take_append_of_le_length (by rw [cellsOf_len]; exact Nat.le_refl _), List.take_of_length_le (by rw [cellsOf_len]; exact Nat.le_refl _)]
  rw [e2, e3, List.append_nil]
  refine rowOf_ext _ _ _ _ (by simp [cellsOf_len]) fun i hi => ?_
  rw [List.getElem?_append, cellsOf_len, start]
  by_cases h : i < m
  · rw [if_pos h, if_pos h, cellsOf_get _ _ _ _ h]
  · rw [if_neg h, if_neg h, cellsOf_get _ _ _ _ (by omega)]

theorem padded_bd {Z : Nat → Int} {l : Nat} (h : ∀ i, i < l → 0 ≤ Z i ∧ Z i ≤ 4294967295) (i : Nat) : 0 ≤ padded Z l i ∧ padded Z l i ≤ 4294967295 := by
  unfold padded
  split
  · exact h i (by assumption)
  · omega

/-- Where the mask selects, F is the subtree's. -/
def Fine (F S : Nat → Int) (sel : Nat → Bool) (a n : Nat) : Prop := ∀ i, a ≤ i → i < a + n → sel i = true → F i = S i
theorem Fine.upd {F S : Nat → Int} {sel : Nat → Bool} {a n : Nat} (h : Fine F S sel a n) (k : Nat) (v : Int) (hs : sel k = false) : Fine (upd F k v) S sel a n := by
  intro i h1 h2 h3
  have : i ≠ k := by rintro rfl; rw [hs] at h3; cases h3
  rw [Go.Mem.upd, if_neg this]
  exact h i h1 h2 h3

theorem last_call (w5 : World) (B a n r len1 len2 : Nat) (F S Z1 : Nat → Int) (ba : a < 20) (bn : n < 20) (hrn : r < n) (hl1 : len1 ≤ 1024) (hl2 : len2 ≤ 1024)
    (hN5 : IsNode w5 (B + 3) (B + 2) B (B + 1) a n len1 S Z1) (rr5 : RowAt w5 (B + 4) (rowOf .u32 F (a + n + len2)) 34) (hs : selB len1 Z1 (a + r) = true) (hb : 0 ≤ S (a + r) ∧ S (a + r) ≤ 4294967295) (j : Nat) :
    Calls Yba.prog 9 #[.pointer (some ⟨B + 3, 0, none⟩), .slice (some ⟨B + 4, 0, none⟩) (a + n + len2) (a + n + len2)] ((w5.drewN j).setCell ⟨B + 4, a + r, none⟩ (.int .u32 (bits BinOp.xor IntKind.u32 (S (a + r)) 1)))
      fun e w' => e = .returned (.bool false) ∧ ∃ m, w' = ((w5.drewN j).setCell ⟨B + 4, a + r, none⟩ (.int .u32 (bits BinOp.xor IntKind.u32 (S (a + r)) 1))).drewN m := by
  have hbel : Below (B + 4) w5 ((w5.drewN j).setCell ⟨B + 4, a + r, none⟩ (.int .u32 (bits BinOp.xor IntKind.u32 (S (a + r)) 1))) := (Below.drewN (Below.refl _ _) _).setCell (by simp) _
  have r6 := (rr5.drewN j).set (a + r) (.int .u32 (bits BinOp.xor IntKind.u32 (S (a + r)) 1))
  rw [rowOf_set] at r6
  have h := agrees_long _ (B + 3) (B + 2) B (B + 1) a n len1 S Z1 (hN5.below hbel (by omega) (by omega) (by omega) (by omega)) (B + 4) 0 (a + n + len2) (a + n + len2) (upd F (a + r) (bits BinOp.xor IntKind.u32 (S (a + r)) 1)) ba bn hl1 (by omega) (by omega)
    (fun i hi => by rw [Nat.zero_add, r6.cell, rowOf_get _ _ _ _ hi])
  rw [agr_bad _ _ _ (a + r) (by rw [upd, if_pos rfl]; exact xor_one _ hb.1 hb.2) hs n a (by omega) (by omega)] at h
  exact h

set_option maxHeartbeats 2000000 in
theorem free_walk (a0 a1 a2 : Option Addr) (len0 cap0 len1 cap1 len2 cap2 a n : Nat) (s e f : Int) (Z0 Z1 Z2 : Nat → Int) (w : World) (h0 : Src .u32 w a0 len0 Z0) (h1 : Src .u8 w a1 len1 Z1) (h2 : Src .u32 w a2 len2 Z2)
    (hb0 : ∀ i, i < len0 → 0 ≤ Z0 i ∧ Z0 i ≤ 4294967295) (hb1 : ∀ i, i < len1 → 0 ≤ Z1 i ∧ Z1 i ≤ 255)
    (hl0 : len0 ≤ 1024) (hl1 : len1 ≤ 1024) (hl2 : len2 ≤ 1024) (hs0 : 0 ≤ s) (hs1 : s ≤ 255) (he0 : 0 ≤ e) (he1 : e ≤ 255) (hf0 : 0 ≤ f) (hf1 : f ≤ 255) (ha : s % 20 = (a : Int)) (hn : e % 20 = (n : Int)) :
    Calls Yba.prog 4 #[.slice a0 len0 cap0, .slice a1 len1 cap1, .slice a2 len2 cap2, .int .u8 s, .int .u8 e, .int .u8 f] w fun e w' => e = .returned (.bool true) ∧ Below w.heap.size w w' := by
  have ba : a < 20 := by omega
  have bn : n < 20 := by omega
  go_enter Yba.func4, Yba.ntmps4
  go_wp2_with fail
  refine (node_any a0 a1 len0 cap0 len1 cap1 a n s e Z0 Z1 w h0 h1 hl0 hl1 hs0 hs1 he0 he1 ha hn).mono ?_
  rintro e w1 ⟨rfl, hN, hb, hz⟩
  have hst := hN.start
  have hf := hN.fin
  have hmk := fun wq => make_run wq (a + n) (a + n + len2) (by omega) (by omega)
  simp only [Int.natCast_add] at hmk
  go_wp2_with fail
  go_region
  clear hmk
  have R2 := made_row w1 (a + n + len2) (w.heap.size + 4) hz
  have S2 : Step w1 (w1.alloc (.cells (madeCells #[.int .u32 0] (a + n + len2)) 34)) (w.heap.size + 4) (w.heap.size + 5) := ⟨rfl, rfl, rfl, by simp [hz], by omega, fun k hk _ => Below.heap_alloc _ _ _ hk⟩
  obtain ⟨w2, hw2⟩ : ∃ w2, w2 = (w1.alloc (.cells (madeCells #[.int .u32 0] (a + n + len2)) 34)).drew := ⟨_, rfl⟩
  have r2 : RowAt w2 (w.heap.size + 4) (List.replicate (a + n + len2) (.int .u32 0)) 34 := by rw [hw2]; exact R2
  have s2 : Step w1 w2 (w.heap.size + 4) (w.heap.size + 5) := by rw [hw2]; exact ⟨S2.os, S2.tape, S2.output, S2.size, S2.grow, S2.block⟩
  go_wp2_with fail
  rw [← hw2]
  clear hw2 R2 S2
  have b2 : Below w.heap.size w w2 := s2.below hb (by omega) (by omega)
  have hS : Src .u32 w2 (some ⟨w.heap.size, 0, none⟩) (a + n) (padded Z0 len0) := fun _ => ⟨_, _, rfl, fun i hi => by
    rw [Nat.zero_add]; exact s2.cell (by omega) (hN.scell i (by omega))⟩
  obtain ⟨w3, hrun, r3, s3⟩ := run_copy_at w2 25 25 3 34 Yba.underlying25 Yba.size34 (w.heap.size + 4) (a + n) (a + n + len2) (a + n) (a + n) (some ⟨w.heap.size, 0, none⟩) _ 34 r2 (cellsOf .u32 (padded Z0 len0) (a + n)) (by rw [cellsOf_len]; exact (Nat.min_self _).symm)
    (Src.pos hS _ (by omega)) (by rw [cellsOf_len]; simp) (cellsOf_one _ _ _)
  rw [hrun]
  clear hrun
  have z2 := s2.size
  have z3 : w3.heap.size = w.heap.size + 5 := by rw [s3.size, z2]
  have b3 : Below w.heap.size w w3 := s3.below b2 (by omega) (by omega)
  go_wp2_with (at_builtin; refine wpList_append_at rfl (.tmp 55) (.tmp 56) 25 22 rfl 34 34 Yba.underlying25 Yba.underlying22 Yba.size34 (w.heap.size + 4) (a + n) (a + n + len2) len2 cap2 a2 rfl rfl _ r3 (cellsOf .u32 Z2 len2) (cellsOf_len _ _ _) (Src.pos (h2.step b3) _ (Nat.le_refl _)) (Nat.le_refl _) (by rw [lay_len _ _ (by rw [cellsOf_len]; simp)]; simp) (cellsOf_one _ _ _) ?_; intro w4 r4 s4; rw [start_row] at r4; have b4 : Below w.heap.size w w4 := s4.below b3 (by omega) (by omega); have z4 : w4.heap.size = w.heap.size + 5 := (by rw [s4.size, z3]); have hN4 : IsNode w4 (w.heap.size + 3) (w.heap.size + 2) w.heap.size (w.heap.size + 1) a n len1 (padded Z0 len0) Z1 := hN.below (s4.below (s3.below (s2.below (Below.refl (w.heap.size + 4) w1) (by omega) (by omega)) (by omega) (by omega)) (by omega) (by omega)) (by omega) (by omega) (by omega) (by omega); clear hN r2 s2 r3 s3 s4 hS b2 b3 hst hf h0 h2 hb hz z2 z3; have hst := hN4.start; have hf := hN4.fin)
  have fine0 : Fine (start (padded Z0 len0) Z2 (a + n)) (padded Z0 len0) (selB len1 Z1) a n := fun i _ h _ => if_pos h
  go_loopw [16] (fun p wr => ∃ (k : Nat) (F : Nat → Int), a ≤ k ∧ k ≤ a + n ∧ p = .int .i64 k ∧ RowAt wr (w.heap.size + 4) (rowOf .u32 F (a + n + len2)) 34 ∧ Below (w.heap.size + 4) w4 wr ∧ Fine F (padded Z0 len0) (selB len1 Z1) a n) (fun p _ => a + n - (intOf p).toNat)
  case atStart => exact ⟨a, _, Nat.le_refl _, by omega, rfl, r4, Below.refl _ _, fine0⟩
  case round =>
    obtain ⟨k, F, hk1, hk2, rfl, rr, br, fr⟩ := hrel
    have hNr := hN4.below br (by omega) (by omega) (by omega) (by omega)
    have br0 : Below w.heap.size w wr := b4.trans (br.mono (by omega))
    have kr := h1.step br0
    clear hst hf r4 fine0
    have hst := hNr.start
    have hf := hNr.fin
    by_cases hlt : k < a + n
    · have c1 := hNr.scell k hlt
      have c2 : wr.cell? ⟨w.heap.size + 4, k, none⟩ = some (.int .u32 (F k)) := by rw [rr.cell, rowOf_get _ _ _ _ (by omega)]
      have c3 := rr.frozen k
      have b1 : (k : Int) < (a : Int) + (n : Int) := by omega
      have b2 : (k : Int) < (a : Int) + (n : Int) + (len2 : Int) := by omega
      by_cases hs : selB len1 Z1 k = true
      · go_wp2_with (go_at_call 10; refine (sel_yes a1 len1 cap1 k Z1 _ (by omega) hl1 kr hb1 hs).mono ?_; rintro e wq ⟨rfl, rfl⟩)
        go_roundw
        case rel => exact ⟨k + 1, F, by omega, by omega, by go_num, rr, br, fr⟩
        case measure => simp [intOf]; omega
      · have hs' : selB len1 Z1 k = false := by simpa using hs
        clear hs
        go_wp2_with (go_at_call 10; refine (sel_no a1 len1 cap1 k Z1 _ (by omega) hl1 kr hb1 hs').mono ?_; rintro e wq ⟨rfl, rfl⟩)
        go_roundw
        case rel => exact ⟨k + 1, _, by omega, by omega, by go_num, rowOf_set .u32 F (a + n + len2) k _ ▸ rr.set k _, br.setCell (by simp) _, fr.upd k _ hs'⟩
        case measure => simp [intOf]; omega
    · obtain rfl : k = a + n := by omega
      have hO : ∀ i, i < a + n + len2 → wr.cell? ⟨w.heap.size + 4, 0 + i, none⟩ = some (.int .u32 (F i)) := fun i hi => by rw [Nat.zero_add, rr.cell, rowOf_get _ _ _ _ hi]
      have hag := agr_all F (padded Z0 len0) (selB len1 Z1) n a (fun i h1 h2 h3 => fr i h1 h2 h3)
      have hag1 := agrees_long wr (w.heap.size + 3) (w.heap.size + 2) w.heap.size (w.heap.size + 1) a n len1 (padded Z0 len0) Z1 hNr (w.heap.size + 4) 0 (a + n + len2) (a + n + len2) F ba bn hl1 (by omega) (by omega) hO
      rw [hag] at hag1
      have HA : Hid _ := hag1
      clear hag hag1 hO br fr b4 hN4
      go_wp2_with fail
      refine (Calls.mono HA.out ?_)
      rintro e w5 ⟨rfl, m, hw5⟩
      have HW : Hid (w5 = wr.drewN m) := hw5
      have hc : ∀ x, wr.cell? x = w5.cell? x := by rw [hw5]; intro x; rfl
      simp only [hc] at hst hf
      clear hw5 hc
      have br5 : Below w.heap.size w w5 := by rw [HW.out]; exact Below.drewN br0 _
      have rr5 : RowAt w5 (w.heap.size + 4) (rowOf .u32 F (a + n + len2)) 34 := by rw [HW.out]; exact rr
      have hN5 : IsNode w5 (w.heap.size + 3) (w.heap.size + 2) w.heap.size (w.heap.size + 1) a n len1 (padded Z0 len0) Z1 := by rw [HW.out]; exact ⟨hNr.start, hNr.fin, hNr.via, hNr.sub, hNr.mask, hNr.scell, hNr.mcell⟩
      clear HW HA hNr kr br0 rr
      by_cases hn0 : n = 0
      · subst hn0
        have hst : w5.cell? ⟨w.heap.size + 3, 0, none⟩ = some (.int .i64 ((a : Int) - 1)) := hst
        have hf : w5.cell? ⟨w.heap.size + 3, 1, none⟩ = some (.int .i64 (a : Int)) := hf
        clear rr5 hN5 h1
        go_wp2_with fail
        go_quiet (fail)
        go_wp2_with fail
        go_ret
        exact ⟨rfl, Below.drewN br5 _⟩
      · have hnp : 0 < n := by omega
        have hnp' : (0 : Int) < (n : Int) := by omega
        obtain ⟨r, hr⟩ := Int.eq_ofNat_of_zero_le (show 0 ≤ f % (n : Int) from Int.emod_nonneg _ (by omega))
        have hrn : r < n := by have := Int.emod_lt_of_pos f hnp'; omega
        have hwid : (a : Int) + (n : Int) - ((a : Int) - 1) - 1 = (n : Int) := by omega
        have hsel := fun wq (h : Src .u8 wq a1 len1 Z1) => sel_any a1 len1 cap1 (a + r) Z1 wq (by omega) hl1 h hb1
        simp only [Int.natCast_add] at hsel
        have HS : Hid _ := hsel
        clear hsel
        by_cases hs : selB len1 Z1 (a + r) = true
        · rw [hs] at HS
          have c1 := hN5.scell (a + r) (by omega)
          have c2 : w5.cell? ⟨w.heap.size + 4, a + r, none⟩ = some (.int .u32 (F (a + r))) := by rw [rr5.cell, rowOf_get _ _ _ _ (by omega)]
          have c3 := rr5.frozen (a + r)
          have b1 : (a : Int) + (r : Int) < (a : Int) + (n : Int) := by omega
          have b2 : (a : Int) + (r : Int) < (a : Int) + (n : Int) + (len2 : Int) := by omega
          go_wp2_with fail
          go_quiet (fail)
          go_wp2_with fail
          go_quiet (fail)
          go_wp2_with fail
          refine (HS.out _ (h1.step (Below.drewN br5 _))).mono ?_
          rintro e wq ⟨rfl, rfl⟩
          clear hwid hr HS
          go_wp2_with fail
          refine (last_call w5 w.heap.size a n r len1 len2 F (padded Z0 len0) Z1 ba bn hrn hl1 hl2 hN5 rr5 hs (padded_bd hb0 _) _).mono ?_
          rintro e w6 ⟨rfl, m6, rfl⟩
          go_wp2_with fail
          go_ret
          exact ⟨rfl, Below.drewN ((Below.drewN br5 _).setCell (by simp) _) _⟩
        · have hs' : selB len1 Z1 (a + r) = false := by simpa using hs
          rw [hs'] at HS
          clear hs
          go_wp2_with fail
          go_quiet (fail)
          go_wp2_with fail
          go_quiet (fail)
          go_wp2_with fail
          refine (HS.out _ (h1.step (Below.drewN br5 _))).mono ?_
          rintro e wq ⟨rfl, rfl⟩
          go_wp2_with fail
          go_ret
          exact ⟨rfl, Below.drewN br5 _⟩
end Go.Proofs.Ybulkactw
