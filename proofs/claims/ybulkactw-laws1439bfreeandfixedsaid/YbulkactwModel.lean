/-
  LawS1439BModel (3): the walk.
-/
import Derived.Test.YbulkactwSel
namespace Go.Proofs.Ybulkactw
open Go.RowKit Go.Mem
set_option linter.unusedVariables false

set_option maxHeartbeats 400000 in
theorem model_big (a0 a1 a2 : Option Addr) (len0 cap0 len1 cap1 len2 cap2 : Nat) (s e : Int) (w : World) (h : 1024 < len0 ∨ 1024 < len1 ∨ 1024 < len2) :
    Calls Yba.prog 3 #[.slice a0 len0 cap0, .slice a1 len1 cap1, .slice a2 len2 cap2, .int .u8 s, .int .u8 e] w fun e w' => e = .returned (.bool true) ∧ Below w.heap.size w w' := by
  by_cases h0 : 1024 < len0
  · go_enter Yba.func3, Yba.ntmps3
    go_wp2_with fail
    go_ret
    exact ⟨rfl, Below.refl _ _⟩
  · by_cases h1 : 1024 < len1
    · go_enter Yba.func3, Yba.ntmps3
      go_wp2_with fail
      go_ret
      exact ⟨rfl, Below.refl _ _⟩
    · have h2 : 1024 < len2 := by omega
      go_enter Yba.func3, Yba.ntmps3
      go_wp2_with fail
      go_ret
      exact ⟨rfl, Below.refl _ _⟩

theorem Src.drewN {k : IntKind} {w : World} {ao : Option Addr} {len : Nat} {Z : Nat → Int} (h : Src k w ao len Z) (n : Nat) : Src k (w.drewN n) ao len Z := h

/-- Memory behind the node, the copy of oid and its filling. -/
theorem model_mem (a0 : Option Addr) (len0 len2 a n : Nat) (Z0 S Z2 : Nat → Int) (w w1 w2 w3 : World) (h0 : Src .u32 w a0 len0 Z0)
    (hN : IsNode w1 (w.heap.size + 3) (w.heap.size + 2) w.heap.size (w.heap.size + 1) a n len2 S Z2) (hb : Below w.heap.size w w1) (hz : w1.heap.size = w.heap.size + 4)
    (s2 : Step w1 w2 (w.heap.size + 4) (w.heap.size + 4 + 1)) (s3 : Step w2 w3 (w.heap.size + 4) w2.heap.size) (r3 : RowAt w3 (w.heap.size + 4) (lay (List.replicate len0 (.int .u32 0)) (cellsOf .u32 Z0 len0)) 34) :
    Below w.heap.size w w3 ∧ IsNode w3 (w.heap.size + 3) (w.heap.size + 2) w.heap.size (w.heap.size + 1) a n len2 S Z2 ∧ (∀ i, i < len0 → w3.cell? ⟨w.heap.size + 4, 0 + i, none⟩ = some (.int .u32 (Z0 i))) := by
  have b2 : Below w.heap.size w w2 := s2.below hb (by omega) (by omega)
  refine ⟨s3.below b2 (by omega) (by have := s2.size; omega), ?_, fun i hi => ?_⟩
  · exact hN.below (s3.below (s2.below (Below.refl (w.heap.size + 4) w1) (by omega) (by omega)) (by omega) (by have := s2.size; omega)) (by omega) (by omega) (by omega) (by omega)
  · rw [Nat.zero_add, r3.cell, lay_cells .u32 Z0 len0 len0 _ i (Nat.min_self _).symm hi, padded, if_pos hi]

set_option maxHeartbeats 1000000 in
theorem model_short (a0 a1 a2 : Option Addr) (len0 cap0 len1 cap1 len2 cap2 a n : Nat) (s e : Int) (Z0 Z1 Z2 : Nat → Int) (w : World) (h0 : Src .u32 w a0 len0 Z0) (h1 : Src .u32 w a1 len1 Z1) (h2 : Src .u8 w a2 len2 Z2)
    (hl0 : len0 ≤ 1024) (hl1 : len1 ≤ 1024) (hl2 : len2 ≤ 1024) (hs0 : 0 ≤ s) (hs1 : s ≤ 255) (he0 : 0 ≤ e) (he1 : e ≤ 255) (ha : s % 20 = (a : Int)) (hn : e % 20 = (n : Int)) (hlen : len0 < a + n) :
    Calls Yba.prog 3 #[.slice a0 len0 cap0, .slice a1 len1 cap1, .slice a2 len2 cap2, .int .u8 s, .int .u8 e] w fun e w' => e = .returned (.bool true) ∧ Below w.heap.size w w' := by
  have ba : a < 20 := by omega
  have bn : n < 20 := by omega
  go_enter Yba.func3, Yba.ntmps3
  go_wp2_with fail
  refine (node_any a1 a2 len1 cap1 len2 cap2 a n s e Z1 Z2 w h1 h2 hl1 hl2 hs0 hs1 he0 he1 ha hn).mono ?_
  rintro e w1 ⟨rfl, hN, hb, hz⟩
  go_wp2_with (at_make; refine wpList_make_at rfl (.tmp 40) (.tmp 40) 25 rfl 34 (.int .u32 0) 4 Yba.underlying25 Yba.info34 rfl .i64 .i64 _ _ len0 rfl rfl rfl rfl (by omega) (by omega) ?_; intro w2 r2 s2)
  rw [hz] at r2 s2
  obtain ⟨w3, hrun, r3, s3⟩ := run_copy_at w2 25 22 3 34 Yba.underlying25 Yba.size34 (w.heap.size + 4) len0 len0 len0 cap0 a0 _ 34 r2 (cellsOf .u32 Z0 len0) (by rw [cellsOf_len]; exact (Nat.min_self _).symm)
    (Src.pos (h0.step (s2.below hb (by omega) (by omega))) _ (Nat.le_refl _)) (by rw [cellsOf_len]; simp) (cellsOf_one _ _ _)
  rw [hrun]
  obtain ⟨b3, hN3, hO⟩ := model_mem a0 len0 len2 a n Z0 _ Z2 w w1 w2 w3 h0 hN hb hz s2 s3 r3
  clear hrun r2 s2 r3 s3 hN hb
  have hf := hN3.fin
  have hd : decide ((a : Int) + (n : Int) ≤ (len0 : Int)) = false := by simp; omega
  go_wp2_with (go_at_call 9; refine (agrees_short _ (w.heap.size + 3) (w.heap.size + 2) w.heap.size (w.heap.size + 1) a n len2 (padded Z1 len1) Z2 hN3 _ len0 len0 ba bn hlen).mono ?_; rintro e w4 ⟨rfl, m, rfl⟩)
  go_ret
  exact ⟨rfl, Below.drewN b3 _⟩

theorem sel_no (ao : Option Addr) (lm cap p : Nat) (M : Nat → Int) (w : World) (hp : p < 1000) (hlm : lm ≤ 1024) (hM : Src .u8 w ao lm M) (hM1 : ∀ i, i < lm → 0 ≤ M i ∧ M i ≤ 255) (hs : selB lm M p = false) :
    Calls Yba.prog 10 #[.slice ao lm cap, .int .i64 p] w fun e w' => e = .returned (.bool false) ∧ w' = w := by
  have h := sel_any ao lm cap p M w hp hlm hM hM1
  rwa [hs] at h
theorem sel_yes (ao : Option Addr) (lm cap p : Nat) (M : Nat → Int) (w : World) (hp : p < 1000) (hlm : lm ≤ 1024) (hM : Src .u8 w ao lm M) (hM1 : ∀ i, i < lm → 0 ≤ M i ∧ M i ≤ 255) (hs : selB lm M p = true) :
    Calls Yba.prog 10 #[.slice ao lm cap, .int .i64 p] w fun e w' => e = .returned (.bool true) ∧ w' = w := by
  have h := sel_any ao lm cap p M w hp hlm hM hM1
  rwa [hs] at h

theorem cnt_hit {O S : Nat → Int} {sel : Nat → Bool} {G : Bool} {a n k c : Nat} (hk : k < a + n) (HR : ((decide (c = 0) && agr O S sel (a + n - k) k) = G)) (h : (O k != S k) = true) (hs : sel k = true) :
    (decide (c + 1 = 0) && agr O S sel (a + n - (k + 1)) (k + 1)) = G := by
  rw [show a + n - k = (a + n - (k + 1)) + 1 by omega, agr_hit _ _ _ _ _ h hs, Bool.and_false] at HR
  rw [← HR]; simp
theorem cnt_miss {O S : Nat → Int} {sel : Nat → Bool} {G : Bool} {a n k c : Nat} (hk : k < a + n) (HR : ((decide (c = 0) && agr O S sel (a + n - k) k) = G)) (h : ¬ ((O k != S k) = true ∧ sel k = true)) :
    (decide (c = 0) && agr O S sel (a + n - (k + 1)) (k + 1)) = G := by
  rw [show a + n - k = (a + n - (k + 1)) + 1 by omega, agr_miss _ _ _ _ _ h] at HR
  exact HR

set_option maxHeartbeats 400000 in
theorem model_long (a0 a1 a2 : Option Addr) (len0 cap0 len1 cap1 len2 cap2 a n : Nat) (s e : Int) (Z0 Z1 Z2 : Nat → Int) (w : World) (h0 : Src .u32 w a0 len0 Z0) (h1 : Src .u32 w a1 len1 Z1) (h2 : Src .u8 w a2 len2 Z2)
    (hb2 : ∀ i, i < len2 → 0 ≤ Z2 i ∧ Z2 i ≤ 255)
    (hl0 : len0 ≤ 1024) (hl1 : len1 ≤ 1024) (hl2 : len2 ≤ 1024) (hs0 : 0 ≤ s) (hs1 : s ≤ 255) (he0 : 0 ≤ e) (he1 : e ≤ 255) (ha : s % 20 = (a : Int)) (hn : e % 20 = (n : Int)) (hlen : a + n ≤ len0) :
    Calls Yba.prog 3 #[.slice a0 len0 cap0, .slice a1 len1 cap1, .slice a2 len2 cap2, .int .u8 s, .int .u8 e] w fun e w' => e = .returned (.bool true) ∧ Below w.heap.size w w' := by
  have ba : a < 20 := by omega
  have bn : n < 20 := by omega
  go_enter Yba.func3, Yba.ntmps3
  go_wp2_with fail
  refine (node_any a1 a2 len1 cap1 len2 cap2 a n s e Z1 Z2 w h1 h2 hl1 hl2 hs0 hs1 he0 he1 ha hn).mono ?_
  rintro e w1 ⟨rfl, hN, hb, hz⟩
  go_wp2_with (at_make; refine wpList_make_at rfl (.tmp 40) (.tmp 40) 25 rfl 34 (.int .u32 0) 4 Yba.underlying25 Yba.info34 rfl .i64 .i64 _ _ len0 rfl rfl rfl rfl (by omega) (by omega) ?_; intro w2 r2 s2)
  rw [hz] at r2 s2
  obtain ⟨w3, hrun, r3, s3⟩ := run_copy_at w2 25 22 3 34 Yba.underlying25 Yba.size34 (w.heap.size + 4) len0 len0 len0 cap0 a0 _ 34 r2 (cellsOf .u32 Z0 len0) (by rw [cellsOf_len]; exact (Nat.min_self _).symm)
    (Src.pos (h0.step (s2.below hb (by omega) (by omega))) _ (Nat.le_refl _)) (by rw [cellsOf_len]; simp) (cellsOf_one _ _ _)
  rw [hrun]
  obtain ⟨b3, hN3, hO⟩ := model_mem a0 len0 len2 a n Z0 _ Z2 w w1 w2 w3 h0 hN hb hz s2 s3 r3
  clear hrun r2 s2 r3 s3 hN hb
  have hst := hN3.start
  have hf := hN3.fin
  have hd : decide ((a : Int) + (n : Int) ≤ (len0 : Int)) = true := by simp; omega
  have hS := hN3.scell
  have h0' := h0.step b3
  have h2' := h2.step b3
  obtain ⟨G, hG⟩ : ∃ G, G = agr Z0 (padded Z1 len1) (selB len2 Z2) n a := ⟨_, rfl⟩
  have HG : Hid (G = agr Z0 (padded Z1 len1) (selB len2 Z2) n a) := hG
  go_wp2_with (go_at_call 9; refine (agrees_long _ (w.heap.size + 3) (w.heap.size + 2) w.heap.size (w.heap.size + 1) a n len2 (padded Z1 len1) Z2 hN3 (w.heap.size + 4) 0 len0 len0 Z0 ba bn hl2 hlen (by omega) hO).mono ?_; rw [← hG]; clear hG; rintro e w4 ⟨rfl, m, hw4⟩; have HW : Hid (w4 = w3.drewN m) := hw4; have hc : ∀ x, w3.cell? x = w4.cell? x := (by rw [hw4]; intro x; rfl); simp only [hc] at hst hf hS; clear hw4 hc)
  have BB : Hid (Below w.heap.size w w4) := show Below w.heap.size w w4 by rw [HW.out]; exact Below.drewN b3 _
  have k0 : Src .u32 w4 a0 len0 Z0 := by rw [HW.out]; exact h0'
  have k2 : Src .u8 w4 a2 len2 Z2 := by rw [HW.out]; exact h2'
  clear hN3 hO h0 h1 h2 hz b3 h0' h2' HW
  go_loopw [16, 17] (fun t p wr => ∃ c k q : Nat, a ≤ k ∧ k ≤ a + n ∧ c ≤ k ∧ t = .int .i64 c ∧ p = .int .i64 k ∧ wr = w4.drewN q ∧ Hid ((decide (c = 0) && agr Z0 (padded Z1 len1) (selB len2 Z2) (a + n - k) k) = G)) (fun _ p _ => a + n - (intOf p).toNat)
  case atStart => exact ⟨0, a, 0, Nat.le_refl _, by omega, by omega, by go_num, by go_num, rfl, show _ = _ by rw [show a + n - a = n by omega]; simp [HG.out]⟩
  case round =>
    obtain ⟨c, k, q, hk1, hk2, hck, rfl, rfl, hwr, HR⟩ := hrel
    have hc : ∀ x, w4.cell? x = wr.cell? x := by rw [hwr]; intro x; rfl
    simp only [hc] at hst hf hS
    have k2' : Src .u8 wr a2 len2 Z2 := by rw [hwr]; exact k2
    have k0' : Src .u32 wr a0 len0 Z0 := by rw [hwr]; exact k0
    have HW : Hid (wr = w4.drewN q) := hwr
    clear hwr hc HG k0 k2
    by_cases hlt : k < a + n
    · have c1 := hS k hlt
      obtain ⟨b, o, rfl, hOc⟩ := k0' (by omega)
      have c2 := hOc k (by omega)
      have b1 : (k : Int) < (len0 : Int) := by omega
      have b2 : (k : Int) < (a : Int) + (n : Int) := by omega
      clear k0' hOc hS
      by_cases hs : selB len2 Z2 k = true
      · by_cases hne : (Z0 k != padded Z1 len1 k) = true
        · have HF := cnt_hit hlt HR.out hne hs
          have HF' : Hid _ := HF
          clear HF HR
          go_wp2
          go_quiet ((go_at_call 10; refine Calls.quiet_of_same (sel_yes a2 len2 cap2 k Z2 _ (by omega) hl2 (Src.drewN k2' _) hb2 hs)))
          go_wp2
          go_roundw
          case rel => exact ⟨c + 1, k + 1, _, by omega, by omega, by omega, by go_num, by go_num, by rw [HW.out]; exact World.drewN_drewN _ _ _, HF'⟩
          case measure => simp [intOf]; omega
        · have HF := cnt_miss hlt HR.out (fun h => hne h.1)
          have HF' : Hid _ := HF
          have hne' : (Z0 k != padded Z1 len1 k) = false := by simpa using hne
          clear HF HR
          go_wp2
          go_quiet ((go_at_call 10; refine Calls.quiet_of_same (sel_yes a2 len2 cap2 k Z2 _ (by omega) hl2 (Src.drewN k2' _) hb2 hs)))
          go_wp2
          go_roundw
          case rel => exact ⟨c, k + 1, _, by omega, by omega, by omega, by go_num, by go_num, by rw [HW.out]; exact World.drewN_drewN _ _ _, HF'⟩
          case measure => simp [intOf]; omega
      · have HF := cnt_miss hlt HR.out (fun h => hs h.2)
        have HF' : Hid _ := HF
        have hs' : selB len2 Z2 k = false := by simpa using hs
        clear HF HR
        go_wp2
        go_quiet ((go_at_call 10; refine Calls.quiet_of_same (sel_no a2 len2 cap2 k Z2 _ (by omega) hl2 (Src.drewN k2' _) hb2 hs')))
        go_wp2
        go_roundw
        case rel => exact ⟨c, k + 1, _, by omega, by omega, by omega, by go_num, by go_num, by rw [HW.out]; exact World.drewN_drewN _ _ _, HF'⟩
        case measure => simp [intOf]; omega
    · obtain rfl : k = a + n := by omega
      have HF := HR.out
      rw [Nat.sub_self, agr, Bool.and_true] at HF
      have HG : Hid (G = ((c : Int) == 0)) := show G = ((c : Int) == 0) by rw [← HF]; by_cases h : c = 0 <;> simp [h]
      clear HF HR k0' k2' hS
      go_wp2
      go_ret
      exact ⟨congrArg (fun b => Ending.returned (.bool b)) (by rw [HG.out]; simp), by rw [HW.out]; exact Below.drewN BB.out _⟩
end Go.Proofs.Ybulkactw
