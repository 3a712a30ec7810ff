/-
  LawS1458CMiss (3): the walk.
-/
import Derived.Test.YbulkadecAfter
namespace Go.Proofs.Ybulkadec
open Go.RowKit Go.Mem
set_option linter.unusedVariables false

theorem Yba.info2 : (Yba.prog.info? 2).map (fun i => (i.zero, i.size, i.bytes)) = some (some (.int .i64 0), 1, 8) := by kernel_rfl
theorem Yba.info3 : (Yba.prog.info? 3).map (fun i => (i.zero, i.size, i.bytes)) = some (some (.int .i64 0), 1, 8) := by kernel_rfl
theorem Yba.size2 : (Yba.prog.info? 2).map (·.size) = some 1 := by kernel_rfl
theorem Yba.size3 : (Yba.prog.info? 3).map (·.size) = some 1 := by kernel_rfl

set_option maxRecDepth 100000 in
set_option maxHeartbeats 400000 in
theorem law_big (a0 a1 a2 a3 : Option Addr) (len0 cap0 len1 cap1 len2 cap2 len3 cap3 : Nat) (ms : Bool) (w : World) (h : 1024 < len0 ∨ 1024 < len1) :
    Calls Yba.prog 3 #[.slice a0 len0 cap0, .slice a1 len1 cap1, .slice a2 len2 cap2, .slice a3 len3 cap3, .bool ms] w fun e w' => e = .returned (.bool true) ∧ Below w.heap.size w w' := by
  by_cases h0 : 1024 < len0
  · go_enter Yba.func3, Yba.ntmps3
    go_wp2_with fail
    go_ret
    exact ⟨rfl, Below.refl _ _⟩
  · have h1 : 1024 < len1 := by omega
    go_enter Yba.func3, Yba.ntmps3
    go_wp2_with fail
    go_ret
    exact ⟨rfl, Below.refl _ _⟩


def minI : Int := -9223372036854775808
/-- The first k numbers of F are the least int64. -/
def FillTo (F : Nat → Int) (k : Nat) : Prop := ∀ i, i < k → F i = minI
theorem FillTo.next {F : Nat → Int} {k : Nat} (h : FillTo F k) : FillTo (upd F k (-9223372036854775808)) (k + 1) := by
  intro i hi
  unfold upd
  split
  · rfl
  · exact h i (by omega)

set_option maxRecDepth 100000 in
set_option maxHeartbeats 4000000 in
theorem law_b (a0 a1 a2 a3 : Option Addr) (cap0 len1 cap1 len2 cap2 len3 cap3 n : Nat) (ms : Bool) (Z0 Z1 Z2 Z3 : Nat → Int) (w : World) (h0 : Src .i64 w a0 n Z0) (h1 : Src .i64 w a1 len1 Z1) (h2 : Src .i64 w a2 len2 Z2) (h3 : Src .i64 w a3 len3 Z3)
    (hl0 : n ≤ 1024) (hl1 : len1 ≤ 1024) (hyp : n ≤ len1) :
    Calls Yba.prog 3 #[.slice a0 n cap0, .slice a1 len1 cap1, .slice a2 len2 cap2, .slice a3 len3 cap3, .bool ms] w fun e w' => e = .returned (.bool true) ∧ Below w.heap.size w w' := by
  go_enter Yba.func3, Yba.ntmps3
  go_wp2_with (at_make; refine wpList_make_at rfl (.tmp 38) (.tmp 38) 22 rfl 2 (.int .i64 0) 8 Yba.underlying22 Yba.info2 rfl .i64 .i64 _ _ n rfl rfl rfl rfl (by omega) (by omega) ?_; intro wm0 rm0 sm0)
  rw [replicate_rowOf] at rm0
  have bm0 : Below w.heap.size w wm0 := sm0.below (Below.refl _ _) (by omega) (by omega)
  have zm0 : wm0.heap.size = w.heap.size + 1 := by rw [sm0.size]
  obtain ⟨wc0, hrun, rc0, sc0⟩ := run_copy_ints wm0 22 22 3 2 Yba.underlying22 Yba.size2 .i64 w.heap.size n n n cap0 a0 _ Z0 rm0 (h0.step bm0)
  rw [hrun]
  clear hrun
  have b0 : Below w.heap.size w wc0 := sc0.below bm0 (by omega) (by omega)
  have z0 : wc0.heap.size = w.heap.size + 1 := by rw [sc0.size, zm0]
  have R0 : RowAt wc0 w.heap.size (rowOf .i64 Z0 n) 2 := by rw [rowOf_congr .i64 Z0 (over (fun _ => 0) Z0 n) n (fun i hi => (if_pos (by omega)).symm)]; exact rc0
  clear rc0 sc0 rm0 sm0 bm0 zm0
  go_wp2_with (at_make; refine wpList_make_at rfl (.tmp 43) (.tmp 43) 22 rfl 2 (.int .i64 0) 8 Yba.underlying22 Yba.info2 rfl .i64 .i64 _ _ n rfl rfl rfl rfl (by omega) (by omega) ?_; intro wm1 rm1 sm1)
  rw [z0] at rm1 sm1
  rw [replicate_rowOf] at rm1
  have bm1 : Below w.heap.size w wm1 := sm1.below b0 (by omega) (by omega)
  have zm1 : wm1.heap.size = w.heap.size + 2 := by rw [sm1.size]
  replace R0 := R0.step sm1 (by omega)
  obtain ⟨wc1, hrun, rc1, sc1⟩ := run_copy_ints wm1 22 22 3 2 Yba.underlying22 Yba.size2 .i64 (w.heap.size + 1) n n len1 cap1 a1 _ Z1 rm1 (h1.step bm1)
  rw [hrun]
  clear hrun
  have b1 : Below w.heap.size w wc1 := sc1.below bm1 (by omega) (by omega)
  have z1 : wc1.heap.size = w.heap.size + 2 := by rw [sc1.size, zm1]
  replace R0 := R0.step sc1 (by omega)
  have R1 : RowAt wc1 (w.heap.size + 1) (rowOf .i64 Z1 n) 2 := by rw [rowOf_congr .i64 Z1 (over (fun _ => 0) Z1 len1) n (fun i hi => (if_pos (by omega)).symm)]; exact rc1
  clear rc1 sc1 rm1 sm1 bm1 zm1 b0 z0
  go_wp2_with (at_make; refine wpList_make_at rfl (.tmp 48) (.tmp 48) 23 rfl 3 (.int .i64 0) 8 Yba.underlying23 Yba.info3 rfl .i64 .i64 _ _ n rfl rfl rfl rfl (by omega) (by omega) ?_; intro wm2 rm2 sm2)
  rw [z1] at rm2 sm2
  rw [replicate_rowOf] at rm2
  have bm2 : Below w.heap.size w wm2 := sm2.below b1 (by omega) (by omega)
  have zm2 : wm2.heap.size = w.heap.size + 3 := by rw [sm2.size]
  replace R0 := R0.step sm2 (by omega)
  replace R1 := R1.step sm2 (by omega)
  obtain ⟨wc2, hrun, rc2, sc2⟩ := run_copy_ints wm2 23 23 3 3 Yba.underlying23 Yba.size3 .i64 (w.heap.size + 2) n n len2 cap2 a2 _ Z2 rm2 (h2.step bm2)
  rw [hrun]
  clear hrun
  have b2 : Below w.heap.size w wc2 := sc2.below bm2 (by omega) (by omega)
  have z2 : wc2.heap.size = w.heap.size + 3 := by rw [sc2.size, zm2]
  replace R0 := R0.step sc2 (by omega)
  replace R1 := R1.step sc2 (by omega)
  have R2 := rc2
  clear rc2 sc2 rm2 sm2 bm2 zm2 b1 z1
  go_wp2_with (at_make; refine wpList_make_at rfl (.tmp 53) (.tmp 53) 22 rfl 2 (.int .i64 0) 8 Yba.underlying22 Yba.info2 rfl .i64 .i64 _ _ n rfl rfl rfl rfl (by omega) (by omega) ?_; intro wm3 rm3 sm3)
  rw [z2] at rm3 sm3
  rw [replicate_rowOf] at rm3
  have bm3 : Below w.heap.size w wm3 := sm3.below b2 (by omega) (by omega)
  have zm3 : wm3.heap.size = w.heap.size + 4 := by rw [sm3.size]
  replace R0 := R0.step sm3 (by omega)
  replace R1 := R1.step sm3 (by omega)
  replace R2 := R2.step sm3 (by omega)
  clear sm3
  go_wp2_with fail
  go_loopw [16] (fun i wr => ∃ (k : Nat) (F : Nat → Int), k ≤ n ∧ i = .int .i64 k ∧ RowAt wr (w.heap.size + 3) (rowOf .i64 F n) 2 ∧ Below (w.heap.size + 3) wm3 wr ∧ wr.heap.size = w.heap.size + 4 ∧ FillTo F k) (fun i _ => n - (intOf i).toNat)
  case atStart => exact ⟨0, _, Nat.zero_le _, rfl, rm3, Below.refl _ _, zm3, fun i hi => absurd hi (Nat.not_lt_zero _)⟩
  case round =>
  obtain ⟨kf, F, hkf, rfl, rr, br, zr, fr⟩ := hrel
  by_cases hlt : kf < n
  · have c1 := rr.int kf hlt
    have c2 := rr.frozen kf
    have b1 : (kf : Int) < (n : Int) := by omega
    have R := rr.set kf (.int .i64 (-9223372036854775808))
    rw [rowOf_set] at R
    go_wp2_with fail
    go_roundw
    case rel => exact ⟨kf + 1, _, by omega, by go_num, R, br.setCell (by simp) _, by simpa using zr, fr.next⟩
    case measure => simp [intOf]; omega
  obtain rfl : n = kf := by omega
  have rf3 : RowAt wr (w.heap.size + 3) (rowOf .i64 (fun _ => minI) n) 2 := by rw [← rowOf_congr _ _ _ _ fr]; exact rr
  replace R0 := R0.below br (by omega)
  replace R1 := R1.below br (by omega)
  replace R2 := R2.below br (by omega)
  have bf3 : Below w.heap.size w wr := bm3.trans (br.mono (by omega))
  clear rm3 bm3 zm3 rr br fr
  go_wp2_with fail
  obtain ⟨wc3, hrun, rc3, sc3⟩ := run_copy_ints wr 22 22 3 2 Yba.underlying22 Yba.size2 .i64 (w.heap.size + 3) n n len3 cap3 a3 _ Z3 rf3 (h3.step bf3)
  rw [hrun]
  clear hrun
  have b3 : Below w.heap.size w wc3 := sc3.below bf3 (by omega) (by omega)
  have z3 : wc3.heap.size = w.heap.size + 4 := by rw [sc3.size, zr]
  replace R0 := R0.step sc3 (by omega)
  replace R1 := R1.step sc3 (by omega)
  replace R2 := R2.step sc3 (by omega)
  have R3 := rc3
  clear rc3 sc3 rf3 bf3 zr b2 z2
  go_wp2_with (at_make; refine wpList_make_at rfl (.tmp 66) (.tmp 66) 23 rfl 3 (.int .i64 0) 8 Yba.underlying23 Yba.info3 rfl .i64 .i64 _ _ n rfl rfl rfl rfl (by omega) (by omega) ?_; intro wm4 rm4 sm4)
  rw [z3] at rm4 sm4
  rw [replicate_rowOf] at rm4
  have bm4 : Below w.heap.size w wm4 := sm4.below b3 (by omega) (by omega)
  have zm4 : wm4.heap.size = w.heap.size + 5 := by rw [sm4.size]
  replace R0 := R0.step sm4 (by omega)
  replace R1 := R1.step sm4 (by omega)
  replace R2 := R2.step sm4 (by omega)
  replace R3 := R3.step sm4 (by omega)
  obtain ⟨wc4, hrun, rc4, sc4⟩ := run_copy_ints wm4 23 23 3 3 Yba.underlying23 Yba.size3 .i64 (w.heap.size + 4) n n n n (some ⟨w.heap.size + 2, 0, none⟩) _ (over (fun _ => 0) Z2 len2) rm4 R2.src
  rw [hrun]
  clear hrun
  have b4 : Below w.heap.size w wc4 := sc4.below bm4 (by omega) (by omega)
  have z4 : wc4.heap.size = w.heap.size + 5 := by rw [sc4.size, zm4]
  replace R0 := R0.step sc4 (by omega)
  replace R1 := R1.step sc4 (by omega)
  replace R2 := R2.step sc4 (by omega)
  replace R3 := R3.step sc4 (by omega)
  have R4 : RowAt wc4 (w.heap.size + 4) (rowOf .i64 (over (fun _ => 0) Z2 len2) n) 3 := by rw [rowOf_congr .i64 (over (fun _ => 0) Z2 len2) (over (fun _ => 0) (over (fun _ => 0) Z2 len2) n) n (fun i hi => (if_pos (by omega)).symm)]; exact rc4
  clear rc4 sc4 rm4 sm4 bm4 zm4 b3 z3
  go_wp2_with (at_make; refine wpList_make_at rfl (.tmp 71) (.tmp 71) 22 rfl 2 (.int .i64 0) 8 Yba.underlying22 Yba.info2 rfl .i64 .i64 _ _ n rfl rfl rfl rfl (by omega) (by omega) ?_; intro wm5 rm5 sm5)
  rw [z4] at rm5 sm5
  rw [replicate_rowOf] at rm5
  have bm5 : Below w.heap.size w wm5 := sm5.below b4 (by omega) (by omega)
  have zm5 : wm5.heap.size = w.heap.size + 6 := by rw [sm5.size]
  replace R0 := R0.step sm5 (by omega)
  replace R1 := R1.step sm5 (by omega)
  replace R2 := R2.step sm5 (by omega)
  replace R3 := R3.step sm5 (by omega)
  replace R4 := R4.step sm5 (by omega)
  obtain ⟨wc5, hrun, rc5, sc5⟩ := run_copy_ints wm5 22 22 3 2 Yba.underlying22 Yba.size2 .i64 (w.heap.size + 5) n n n n (some ⟨w.heap.size + 3, 0, none⟩) _ (over (fun _ => minI) Z3 len3) rm5 R3.src
  rw [hrun]
  clear hrun
  have b5 : Below w.heap.size w wc5 := sc5.below bm5 (by omega) (by omega)
  have z5 : wc5.heap.size = w.heap.size + 6 := by rw [sc5.size, zm5]
  replace R0 := R0.step sc5 (by omega)
  replace R1 := R1.step sc5 (by omega)
  replace R2 := R2.step sc5 (by omega)
  replace R3 := R3.step sc5 (by omega)
  replace R4 := R4.step sc5 (by omega)
  have R5 : RowAt wc5 (w.heap.size + 5) (rowOf .i64 (over (fun _ => minI) Z3 len3) n) 2 := by rw [rowOf_congr .i64 (over (fun _ => minI) Z3 len3) (over (fun _ => 0) (over (fun _ => minI) Z3 len3) n) n (fun i hi => (if_pos (by omega)).symm)]; exact rc5
  clear rc5 sc5 rm5 sm5 bm5 zm5 b4 z4
  go_wp2_with fail
  refine Calls.mono (miss_after w _ w.heap.size n Z0 Z1 (over (fun _ => 0) Z2 len2) (over (fun _ => minI) Z3 len3) ms (by omega) (before_miss ms _ _ _ _ _ _ _ z5 R0 R1 R2 R3 R4 R5 b5)) ?_
  rintro e wx ⟨rfl, XS, XM, x9, af, vd⟩
  clear R0 R1 R2 R3 R4 R5 b5 z5
  have k0 := h0.step af.below
  have k1 := h1.step af.below
  have hnn : ((n : Int) != (n : Int)) = false := by simp
  obtain ⟨SF, hSF⟩ : ∃ SF, SF = over (fun _ => 0) Z2 len2 := ⟨_, rfl⟩
  obtain ⟨MF, hMF⟩ : ∃ MF, MF = over (fun _ => minI) Z3 len3 := ⟨_, rfl⟩
  rw [← hSF, ← hMF] at af vd
  clear hSF hMF h0 h1 h2 h3
  rcases vd with ⟨hb, e1, e2, e3⟩ | ⟨r0, hr0, hbad, hb, e1, e2, e3⟩
  · rw [e1, e2, e3] at af
    clear e1 e2 e3 XS XM x9
    go_wp2_with fail
    go_loopw [20, 21] (fun id i wr => ∃ k j : Nat, k ≤ n ∧ id = .int .i64 (-1) ∧ i = .int .i64 k ∧ wr = wx.drewN j) (fun _ i _ => n - (intOf i).toNat)
    case atStart => exact ⟨0, 0, Nat.zero_le _, rfl, rfl, rfl⟩
    case round =>
    obtain ⟨k, j, hk, rfl, rfl, hwr⟩ := hrel
    have HW : Hid (wr = wx.drewN j) := hwr
    by_cases hlt : k < n
    · have af' := af.drewN j
      rw [← hwr] at af'
      have c1 := af'.l.int k (by omega)
      have c2 := af'.q.int k (by omega)
      have b1 : (k : Int) < (n : Int) := by omega
      have hbk := hb k hlt
      clear af' af hwr k0 k1 hb
      cases hq : (Z1 k != 0)
      · clear hbk
        go_wp2_with fail
        go_quiet (fail)
        go_wp2_with fail
        go_roundw
        case rel => exact ⟨k + 1, _, by omega, rfl, by go_num, by rw [HW.out]; exact World.drewN_drewN _ _ _⟩
        case measure => simp [intOf]; omega
      · have hd : decide (Z0 k < Z1 k) = false := by simpa [badB, hq] using hbk
        clear hbk
        go_wp2_with fail
        go_quiet (fail)
        go_wp2_with fail
        go_roundw
        case rel => exact ⟨k + 1, _, by omega, rfl, by go_num, by rw [HW.out]; exact World.drewN_drewN _ _ _⟩
        case measure => simp [intOf]; omega
    have af1 := af.drewN j
    rw [← hwr] at af1
    have s1 := af1.x.short
    have s2 := af1.x.most
    have kk0 : Src .i64 wr a0 n Z0 := by rw [hwr]; exact k0
    have kk1 : Src .i64 wr a1 len1 Z1 := by rw [hwr]; exact k1
    clear hwr HW af hb k0 k1
    go_wp2_with fail
    go_loopw [22] (fun i wr => ∃ k : Nat, k ≤ n ∧ i = .int .i64 k ∧ After w wr w.heap.size n Z0 Z1 SF MF SF MF ms ∧ Src .i64 wr a0 n Z0 ∧ Src .i64 wr a1 len1 Z1) (fun i _ => n - (intOf i).toNat)
    case atStart => exact ⟨0, Nat.zero_le _, rfl, af1, kk0, kk1⟩
    case round =>
    clear s1 s2 af1 kk0 kk1
    obtain ⟨k, hk, rfl, ag, kk0, kk1⟩ := hrel
    have t1 := ag.x.short
    have t2 := ag.x.most
    have t3 := ag.x.missed
    by_cases hlt : k < n
    · have c1 := ag.l.int k hlt
      have c2 := ag.q.int k hlt
      have c3 := ag.s.int k hlt
      have c4 := ag.m.int k hlt
      have c5 := ag.xs.int k hlt
      have c6 := ag.xm.int k hlt
      obtain ⟨bb0, oo0, rfl, hc0⟩ := kk0 (by omega)
      obtain ⟨bb1, oo1, rfl, hc1⟩ := kk1 (by omega)
      have c7 := hc0 k (by omega)
      have c8 := hc1 k (by omega)
      have b1 : (k : Int) < (n : Int) := by omega
      have b2 : (k : Int) < (n : Int) := by omega
      have b3 : (k : Int) < (len1 : Int) := by omega
      have e1 : (SF k != SF k) = false := by simp
      have e2 : (MF k != MF k) = false := by simp
      have e3 : (Z0 k != Z0 k) = false := by simp
      have e4 : (Z1 k != Z1 k) = false := by simp
      have HA : Hid _ := ag
      have H0 : Hid _ := kk0
      have H1 : Hid _ := kk1
      clear ag kk0 kk1 hc0 hc1 t3
      have e5 : ((k : Int) == (-1 : Int)) = false := by simp
      go_wp2_with fail

      go_quiet (fail)
      go_wp2_with fail
      go_quiet (fail)
      go_wp2_with fail
      go_roundw
      case rel => exact ⟨k + 1, by omega, by go_num, HA.out.drewN _, fun hp => H0.out hp, fun hp => H1.out hp⟩
      case measure => simp [intOf]; omega
    have e6 : (ms == ms) = true := by simp
    have bel := ag.below
    clear t1 t2 ag kk0 kk1
    go_wp2_with fail
    go_ret
    exact ⟨rfl, bel⟩
  · rw [e1, e2, e3] at af
    clear e1 e2 e3 XS XM x9
    have hq0 : (Z1 r0 != 0) = true := by
      unfold badB at hbad
      exact (Bool.and_eq_true_iff.1 hbad).1
    have hd0 : decide (Z0 r0 < Z1 r0) = true := by
      unfold badB at hbad
      exact (Bool.and_eq_true_iff.1 hbad).2
    clear hbad
    go_wp2_with fail
    go_loopw [20, 21] (fun id i wr => ∃ k j : Nat, k ≤ r0 ∧ id = .int .i64 (-1) ∧ i = .int .i64 k ∧ wr = wx.drewN j) (fun _ i _ => n - (intOf i).toNat)
    case atStart => exact ⟨0, 0, Nat.zero_le _, rfl, rfl, rfl⟩
    case round =>
    obtain ⟨k, j, hk, rfl, rfl, hwr⟩ := hrel
    have HW : Hid (wr = wx.drewN j) := hwr
    by_cases hlt : k < r0
    · have af' := af.drewN j
      rw [← hwr] at af'
      have c1 := af'.l.int k (by omega)
      have c2 := af'.q.int k (by omega)
      have b1 : (k : Int) < (n : Int) := by omega
      have hbk := hb k hlt
      clear af' af hwr k0 k1 hb hq0 hd0
      cases hq : (Z1 k != 0)
      · clear hbk
        go_wp2_with fail
        go_quiet (fail)
        go_wp2_with fail
        go_roundw
        case rel => exact ⟨k + 1, _, by omega, rfl, by go_num, by rw [HW.out]; exact World.drewN_drewN _ _ _⟩
        case measure => simp [intOf]; omega
      · have hd : decide (Z0 k < Z1 k) = false := by simpa [badB, hq] using hbk
        clear hbk
        go_wp2_with fail
        go_quiet (fail)
        go_wp2_with fail
        go_roundw
        case rel => exact ⟨k + 1, _, by omega, rfl, by go_num, by rw [HW.out]; exact World.drewN_drewN _ _ _⟩
        case measure => simp [intOf]; omega
    obtain rfl : r0 = k := by omega
    have af1 := af.drewN j
    rw [← hwr] at af1
    have s1 := af1.x.short
    have s2 := af1.x.most
    have kk0 : Src .i64 wr a0 n Z0 := by rw [hwr]; exact k0
    have kk1 : Src .i64 wr a1 len1 Z1 := by rw [hwr]; exact k1
    clear hwr HW af hb k0 k1
    have b1 : (r0 : Int) < (n : Int) := by omega
    have c1 := af1.l.int r0 (by omega)
    have c2 := af1.q.int r0 (by omega)
    go_wp2_with fail
    go_quiet (fail)
    clear c1 c2 b1
    go_wp2_with fail
    go_loopw [22] (fun i wr => ∃ k : Nat, k ≤ n ∧ i = .int .i64 k ∧ After w wr w.heap.size n Z0 Z1 SF MF (upd SF r0 (wrap64 (SF r0 + 1))) (upd MF r0 (maxI (MF r0) (Z0 r0))) true ∧ Src .i64 wr a0 n Z0 ∧ Src .i64 wr a1 len1 Z1) (fun i _ => n - (intOf i).toNat)
    case atStart => exact ⟨0, Nat.zero_le _, rfl, af1.drewN _, fun hp => kk0 hp, fun hp => kk1 hp⟩
    case round =>
    clear s1 s2 af1 kk0 kk1 hq0 hd0
    obtain ⟨k, hk, rfl, ag, kk0, kk1⟩ := hrel
    have t1 := ag.x.short
    have t2 := ag.x.most
    have t3 := ag.x.missed
    by_cases hlt : k < n
    · have c1 := ag.l.int k hlt
      have c2 := ag.q.int k hlt
      have c3 := ag.s.int k hlt
      have c4 := ag.m.int k hlt
      have c5 := ag.xs.int k hlt
      have c6 := ag.xm.int k hlt
      obtain ⟨bb0, oo0, rfl, hc0⟩ := kk0 (by omega)
      obtain ⟨bb1, oo1, rfl, hc1⟩ := kk1 (by omega)
      have c7 := hc0 k (by omega)
      have c8 := hc1 k (by omega)
      have b1 : (k : Int) < (n : Int) := by omega
      have b2 : (k : Int) < (n : Int) := by omega
      have b3 : (k : Int) < (len1 : Int) := by omega
      have e1 : (SF k != SF k) = false := by simp
      have e2 : (MF k != MF k) = false := by simp
      have e3 : (Z0 k != Z0 k) = false := by simp
      have e4 : (Z1 k != Z1 k) = false := by simp
      have HA : Hid _ := ag
      have H0 : Hid _ := kk0
      have H1 : Hid _ := kk1
      clear ag kk0 kk1 hc0 hc1 t3
      by_cases hkr : k = r0
      · subst hkr
        have e5 : ((k : Int) == (k : Int)) = true := by simp
        have e7 : upd SF k (wrap64 (SF k + 1)) k = wrap64 (SF k + 1) := if_pos rfl
        have e8 : upd MF k (maxI (MF k) (Z0 k)) k = maxI (MF k) (Z0 k) := if_pos rfl
        rw [e7] at c5
        rw [e8] at c6
        clear e7 e8
        have e9 : (wrap64 (SF k + 1) != wrap64 (SF k + 1)) = false := by simp
        by_cases hM : MF k < Z0 k
        · have hmx : maxI (MF k) (Z0 k) = Z0 k := if_pos hM
          rw [hmx] at c6
          clear hmx
          go_wp2_with fail
          go_quiet (fail)
          go_wp2_with fail
          go_quiet (fail)
          go_wp2_with fail
          go_roundw
          case rel => exact ⟨k + 1, by omega, by go_num, HA.out.drewN _, fun hp => H0.out hp, fun hp => H1.out hp⟩
          case measure => simp [intOf]; omega
        · have hmx : maxI (MF k) (Z0 k) = MF k := if_neg hM
          rw [hmx] at c6
          clear hmx
          go_wp2_with fail
          go_quiet (fail)
          go_wp2_with fail
          go_quiet (fail)
          go_wp2_with fail
          go_roundw
          case rel => exact ⟨k + 1, by omega, by go_num, HA.out.drewN _, fun hp => H0.out hp, fun hp => H1.out hp⟩
          case measure => simp [intOf]; omega
      · have e5 : ((k : Int) == (r0 : Int)) = false := by simp; omega
        have e7 : upd SF r0 (wrap64 (SF r0 + 1)) k = SF k := if_neg hkr
        have e8 : upd MF r0 (maxI (MF r0) (Z0 r0)) k = MF k := if_neg hkr
        rw [e7] at c5
        rw [e8] at c6
        clear e7 e8
        go_wp2_with fail
        go_quiet (fail)
        go_wp2_with fail
        go_quiet (fail)
        go_wp2_with fail
        go_roundw
        case rel => exact ⟨k + 1, by omega, by go_num, HA.out.drewN _, fun hp => H0.out hp, fun hp => H1.out hp⟩
        case measure => simp [intOf]; omega
    have e6 : (0 : Int) ≤ (r0 : Int) := by omega
    have bel := ag.below
    clear t1 t2 ag kk0 kk1
    go_wp2_with fail
    go_ret
    exact ⟨rfl, bel⟩

set_option maxRecDepth 100000 in
set_option maxHeartbeats 4000000 in
theorem law_a (a0 a1 a2 a3 : Option Addr) (cap0 len0 cap1 len2 cap2 len3 cap3 n : Nat) (ms : Bool) (Z0 Z1 Z2 Z3 : Nat → Int) (w : World) (h0 : Src .i64 w a0 len0 Z0) (h1 : Src .i64 w a1 n Z1) (h2 : Src .i64 w a2 len2 Z2) (h3 : Src .i64 w a3 len3 Z3)
    (hl0 : len0 ≤ 1024) (hl1 : n ≤ 1024) (hyp : n < len0) :
    Calls Yba.prog 3 #[.slice a0 len0 cap0, .slice a1 n cap1, .slice a2 len2 cap2, .slice a3 len3 cap3, .bool ms] w fun e w' => e = .returned (.bool true) ∧ Below w.heap.size w w' := by
  go_enter Yba.func3, Yba.ntmps3
  go_wp2_with (at_make; refine wpList_make_at rfl (.tmp 38) (.tmp 38) 22 rfl 2 (.int .i64 0) 8 Yba.underlying22 Yba.info2 rfl .i64 .i64 _ _ n rfl rfl rfl rfl (by omega) (by omega) ?_; intro wm0 rm0 sm0)
  rw [replicate_rowOf] at rm0
  have bm0 : Below w.heap.size w wm0 := sm0.below (Below.refl _ _) (by omega) (by omega)
  have zm0 : wm0.heap.size = w.heap.size + 1 := by rw [sm0.size]
  obtain ⟨wc0, hrun, rc0, sc0⟩ := run_copy_ints wm0 22 22 3 2 Yba.underlying22 Yba.size2 .i64 w.heap.size n n len0 cap0 a0 _ Z0 rm0 (h0.step bm0)
  rw [hrun]
  clear hrun
  have b0 : Below w.heap.size w wc0 := sc0.below bm0 (by omega) (by omega)
  have z0 : wc0.heap.size = w.heap.size + 1 := by rw [sc0.size, zm0]
  have R0 : RowAt wc0 w.heap.size (rowOf .i64 Z0 n) 2 := by rw [rowOf_congr .i64 Z0 (over (fun _ => 0) Z0 len0) n (fun i hi => (if_pos (by omega)).symm)]; exact rc0
  clear rc0 sc0 rm0 sm0 bm0 zm0
  go_wp2_with (at_make; refine wpList_make_at rfl (.tmp 43) (.tmp 43) 22 rfl 2 (.int .i64 0) 8 Yba.underlying22 Yba.info2 rfl .i64 .i64 _ _ n rfl rfl rfl rfl (by omega) (by omega) ?_; intro wm1 rm1 sm1)
  rw [z0] at rm1 sm1
  rw [replicate_rowOf] at rm1
  have bm1 : Below w.heap.size w wm1 := sm1.below b0 (by omega) (by omega)
  have zm1 : wm1.heap.size = w.heap.size + 2 := by rw [sm1.size]
  replace R0 := R0.step sm1 (by omega)
  obtain ⟨wc1, hrun, rc1, sc1⟩ := run_copy_ints wm1 22 22 3 2 Yba.underlying22 Yba.size2 .i64 (w.heap.size + 1) n n n cap1 a1 _ Z1 rm1 (h1.step bm1)
  rw [hrun]
  clear hrun
  have b1 : Below w.heap.size w wc1 := sc1.below bm1 (by omega) (by omega)
  have z1 : wc1.heap.size = w.heap.size + 2 := by rw [sc1.size, zm1]
  replace R0 := R0.step sc1 (by omega)
  have R1 : RowAt wc1 (w.heap.size + 1) (rowOf .i64 Z1 n) 2 := by rw [rowOf_congr .i64 Z1 (over (fun _ => 0) Z1 n) n (fun i hi => (if_pos (by omega)).symm)]; exact rc1
  clear rc1 sc1 rm1 sm1 bm1 zm1 b0 z0
  go_wp2_with (at_make; refine wpList_make_at rfl (.tmp 48) (.tmp 48) 23 rfl 3 (.int .i64 0) 8 Yba.underlying23 Yba.info3 rfl .i64 .i64 _ _ n rfl rfl rfl rfl (by omega) (by omega) ?_; intro wm2 rm2 sm2)
  rw [z1] at rm2 sm2
  rw [replicate_rowOf] at rm2
  have bm2 : Below w.heap.size w wm2 := sm2.below b1 (by omega) (by omega)
  have zm2 : wm2.heap.size = w.heap.size + 3 := by rw [sm2.size]
  replace R0 := R0.step sm2 (by omega)
  replace R1 := R1.step sm2 (by omega)
  obtain ⟨wc2, hrun, rc2, sc2⟩ := run_copy_ints wm2 23 23 3 3 Yba.underlying23 Yba.size3 .i64 (w.heap.size + 2) n n len2 cap2 a2 _ Z2 rm2 (h2.step bm2)
  rw [hrun]
  clear hrun
  have b2 : Below w.heap.size w wc2 := sc2.below bm2 (by omega) (by omega)
  have z2 : wc2.heap.size = w.heap.size + 3 := by rw [sc2.size, zm2]
  replace R0 := R0.step sc2 (by omega)
  replace R1 := R1.step sc2 (by omega)
  have R2 := rc2
  clear rc2 sc2 rm2 sm2 bm2 zm2 b1 z1
  go_wp2_with (at_make; refine wpList_make_at rfl (.tmp 53) (.tmp 53) 22 rfl 2 (.int .i64 0) 8 Yba.underlying22 Yba.info2 rfl .i64 .i64 _ _ n rfl rfl rfl rfl (by omega) (by omega) ?_; intro wm3 rm3 sm3)
  rw [z2] at rm3 sm3
  rw [replicate_rowOf] at rm3
  have bm3 : Below w.heap.size w wm3 := sm3.below b2 (by omega) (by omega)
  have zm3 : wm3.heap.size = w.heap.size + 4 := by rw [sm3.size]
  replace R0 := R0.step sm3 (by omega)
  replace R1 := R1.step sm3 (by omega)
  replace R2 := R2.step sm3 (by omega)
  clear sm3
  go_wp2_with fail
  go_loopw [16] (fun i wr => ∃ (k : Nat) (F : Nat → Int), k ≤ n ∧ i = .int .i64 k ∧ RowAt wr (w.heap.size + 3) (rowOf .i64 F n) 2 ∧ Below (w.heap.size + 3) wm3 wr ∧ wr.heap.size = w.heap.size + 4 ∧ FillTo F k) (fun i _ => n - (intOf i).toNat)
  case atStart => exact ⟨0, _, Nat.zero_le _, rfl, rm3, Below.refl _ _, zm3, fun i hi => absurd hi (Nat.not_lt_zero _)⟩
  case round =>
  obtain ⟨kf, F, hkf, rfl, rr, br, zr, fr⟩ := hrel
  by_cases hlt : kf < n
  · have c1 := rr.int kf hlt
    have c2 := rr.frozen kf
    have b1 : (kf : Int) < (n : Int) := by omega
    have R := rr.set kf (.int .i64 (-9223372036854775808))
    rw [rowOf_set] at R
    go_wp2_with fail
    go_roundw
    case rel => exact ⟨kf + 1, _, by omega, by go_num, R, br.setCell (by simp) _, by simpa using zr, fr.next⟩
    case measure => simp [intOf]; omega
  obtain rfl : n = kf := by omega
  have rf3 : RowAt wr (w.heap.size + 3) (rowOf .i64 (fun _ => minI) n) 2 := by rw [← rowOf_congr _ _ _ _ fr]; exact rr
  replace R0 := R0.below br (by omega)
  replace R1 := R1.below br (by omega)
  replace R2 := R2.below br (by omega)
  have bf3 : Below w.heap.size w wr := bm3.trans (br.mono (by omega))
  clear rm3 bm3 zm3 rr br fr
  go_wp2_with fail
  obtain ⟨wc3, hrun, rc3, sc3⟩ := run_copy_ints wr 22 22 3 2 Yba.underlying22 Yba.size2 .i64 (w.heap.size + 3) n n len3 cap3 a3 _ Z3 rf3 (h3.step bf3)
  rw [hrun]
  clear hrun
  have b3 : Below w.heap.size w wc3 := sc3.below bf3 (by omega) (by omega)
  have z3 : wc3.heap.size = w.heap.size + 4 := by rw [sc3.size, zr]
  replace R0 := R0.step sc3 (by omega)
  replace R1 := R1.step sc3 (by omega)
  replace R2 := R2.step sc3 (by omega)
  have R3 := rc3
  clear rc3 sc3 rf3 bf3 zr b2 z2
  go_wp2_with (at_make; refine wpList_make_at rfl (.tmp 66) (.tmp 66) 23 rfl 3 (.int .i64 0) 8 Yba.underlying23 Yba.info3 rfl .i64 .i64 _ _ n rfl rfl rfl rfl (by omega) (by omega) ?_; intro wm4 rm4 sm4)
  rw [z3] at rm4 sm4
  rw [replicate_rowOf] at rm4
  have bm4 : Below w.heap.size w wm4 := sm4.below b3 (by omega) (by omega)
  have zm4 : wm4.heap.size = w.heap.size + 5 := by rw [sm4.size]
  replace R0 := R0.step sm4 (by omega)
  replace R1 := R1.step sm4 (by omega)
  replace R2 := R2.step sm4 (by omega)
  replace R3 := R3.step sm4 (by omega)
  obtain ⟨wc4, hrun, rc4, sc4⟩ := run_copy_ints wm4 23 23 3 3 Yba.underlying23 Yba.size3 .i64 (w.heap.size + 4) n n n n (some ⟨w.heap.size + 2, 0, none⟩) _ (over (fun _ => 0) Z2 len2) rm4 R2.src
  rw [hrun]
  clear hrun
  have b4 : Below w.heap.size w wc4 := sc4.below bm4 (by omega) (by omega)
  have z4 : wc4.heap.size = w.heap.size + 5 := by rw [sc4.size, zm4]
  replace R0 := R0.step sc4 (by omega)
  replace R1 := R1.step sc4 (by omega)
  replace R2 := R2.step sc4 (by omega)
  replace R3 := R3.step sc4 (by omega)
  have R4 : RowAt wc4 (w.heap.size + 4) (rowOf .i64 (over (fun _ => 0) Z2 len2) n) 3 := by rw [rowOf_congr .i64 (over (fun _ => 0) Z2 len2) (over (fun _ => 0) (over (fun _ => 0) Z2 len2) n) n (fun i hi => (if_pos (by omega)).symm)]; exact rc4
  clear rc4 sc4 rm4 sm4 bm4 zm4 b3 z3
  go_wp2_with (at_make; refine wpList_make_at rfl (.tmp 71) (.tmp 71) 22 rfl 2 (.int .i64 0) 8 Yba.underlying22 Yba.info2 rfl .i64 .i64 _ _ n rfl rfl rfl rfl (by omega) (by omega) ?_; intro wm5 rm5 sm5)
  rw [z4] at rm5 sm5
  rw [replicate_rowOf] at rm5
  have bm5 : Below w.heap.size w wm5 := sm5.below b4 (by omega) (by omega)
  have zm5 : wm5.heap.size = w.heap.size + 6 := by rw [sm5.size]
  replace R0 := R0.step sm5 (by omega)
  replace R1 := R1.step sm5 (by omega)
  replace R2 := R2.step sm5 (by omega)
  replace R3 := R3.step sm5 (by omega)
  replace R4 := R4.step sm5 (by omega)
  obtain ⟨wc5, hrun, rc5, sc5⟩ := run_copy_ints wm5 22 22 3 2 Yba.underlying22 Yba.size2 .i64 (w.heap.size + 5) n n n n (some ⟨w.heap.size + 3, 0, none⟩) _ (over (fun _ => minI) Z3 len3) rm5 R3.src
  rw [hrun]
  clear hrun
  have b5 : Below w.heap.size w wc5 := sc5.below bm5 (by omega) (by omega)
  have z5 : wc5.heap.size = w.heap.size + 6 := by rw [sc5.size, zm5]
  replace R0 := R0.step sc5 (by omega)
  replace R1 := R1.step sc5 (by omega)
  replace R2 := R2.step sc5 (by omega)
  replace R3 := R3.step sc5 (by omega)
  replace R4 := R4.step sc5 (by omega)
  have R5 : RowAt wc5 (w.heap.size + 5) (rowOf .i64 (over (fun _ => minI) Z3 len3) n) 2 := by rw [rowOf_congr .i64 (over (fun _ => minI) Z3 len3) (over (fun _ => 0) (over (fun _ => minI) Z3 len3) n) n (fun i hi => (if_pos (by omega)).symm)]; exact rc5
  clear rc5 sc5 rm5 sm5 bm5 zm5 b4 z4
  go_wp2_with fail
  refine Calls.mono (miss_after w _ w.heap.size n Z0 Z1 (over (fun _ => 0) Z2 len2) (over (fun _ => minI) Z3 len3) ms (by omega) (before_miss ms _ _ _ _ _ _ _ z5 R0 R1 R2 R3 R4 R5 b5)) ?_
  rintro e wx ⟨rfl, XS, XM, x9, af, vd⟩
  clear R0 R1 R2 R3 R4 R5 b5 z5
  have k0 := h0.step af.below
  have k1 := h1.step af.below
  have hnn : ((n : Int) != (n : Int)) = false := by simp
  obtain ⟨SF, hSF⟩ : ∃ SF, SF = over (fun _ => 0) Z2 len2 := ⟨_, rfl⟩
  obtain ⟨MF, hMF⟩ : ∃ MF, MF = over (fun _ => minI) Z3 len3 := ⟨_, rfl⟩
  rw [← hSF, ← hMF] at af vd
  clear hSF hMF h0 h1 h2 h3
  rcases vd with ⟨hb, e1, e2, e3⟩ | ⟨r0, hr0, hbad, hb, e1, e2, e3⟩
  · rw [e1, e2, e3] at af
    clear e1 e2 e3 XS XM x9
    go_wp2_with fail
    go_loopw [20, 21] (fun id i wr => ∃ k j : Nat, k ≤ n ∧ id = .int .i64 (-1) ∧ i = .int .i64 k ∧ wr = wx.drewN j) (fun _ i _ => n - (intOf i).toNat)
    case atStart => exact ⟨0, 0, Nat.zero_le _, rfl, rfl, rfl⟩
    case round =>
    obtain ⟨k, j, hk, rfl, rfl, hwr⟩ := hrel
    have HW : Hid (wr = wx.drewN j) := hwr
    by_cases hlt : k < n
    · have af' := af.drewN j
      rw [← hwr] at af'
      have c1 := af'.l.int k (by omega)
      have c2 := af'.q.int k (by omega)
      have b1 : (k : Int) < (n : Int) := by omega
      have hbk := hb k hlt
      clear af' af hwr k0 k1 hb
      cases hq : (Z1 k != 0)
      · clear hbk
        go_wp2_with fail
        go_quiet (fail)
        go_wp2_with fail
        go_roundw
        case rel => exact ⟨k + 1, _, by omega, rfl, by go_num, by rw [HW.out]; exact World.drewN_drewN _ _ _⟩
        case measure => simp [intOf]; omega
      · have hd : decide (Z0 k < Z1 k) = false := by simpa [badB, hq] using hbk
        clear hbk
        go_wp2_with fail
        go_quiet (fail)
        go_wp2_with fail
        go_roundw
        case rel => exact ⟨k + 1, _, by omega, rfl, by go_num, by rw [HW.out]; exact World.drewN_drewN _ _ _⟩
        case measure => simp [intOf]; omega
    have af1 := af.drewN j
    rw [← hwr] at af1
    have s1 := af1.x.short
    have s2 := af1.x.most
    have kk0 : Src .i64 wr a0 len0 Z0 := by rw [hwr]; exact k0
    have kk1 : Src .i64 wr a1 n Z1 := by rw [hwr]; exact k1
    clear hwr HW af hb k0 k1
    go_wp2_with fail
    go_loopw [22] (fun i wr => ∃ k : Nat, k ≤ n ∧ i = .int .i64 k ∧ After w wr w.heap.size n Z0 Z1 SF MF SF MF ms ∧ Src .i64 wr a0 len0 Z0 ∧ Src .i64 wr a1 n Z1) (fun i _ => n - (intOf i).toNat)
    case atStart => exact ⟨0, Nat.zero_le _, rfl, af1, kk0, kk1⟩
    case round =>
    clear s1 s2 af1 kk0 kk1
    obtain ⟨k, hk, rfl, ag, kk0, kk1⟩ := hrel
    have t1 := ag.x.short
    have t2 := ag.x.most
    have t3 := ag.x.missed
    by_cases hlt : k < n
    · have c1 := ag.l.int k hlt
      have c2 := ag.q.int k hlt
      have c3 := ag.s.int k hlt
      have c4 := ag.m.int k hlt
      have c5 := ag.xs.int k hlt
      have c6 := ag.xm.int k hlt
      obtain ⟨bb0, oo0, rfl, hc0⟩ := kk0 (by omega)
      obtain ⟨bb1, oo1, rfl, hc1⟩ := kk1 (by omega)
      have c7 := hc0 k (by omega)
      have c8 := hc1 k (by omega)
      have b1 : (k : Int) < (n : Int) := by omega
      have b2 : (k : Int) < (len0 : Int) := by omega
      have b3 : (k : Int) < (n : Int) := by omega
      have e1 : (SF k != SF k) = false := by simp
      have e2 : (MF k != MF k) = false := by simp
      have e3 : (Z0 k != Z0 k) = false := by simp
      have e4 : (Z1 k != Z1 k) = false := by simp
      have HA : Hid _ := ag
      have H0 : Hid _ := kk0
      have H1 : Hid _ := kk1
      clear ag kk0 kk1 hc0 hc1 t3
      have e5 : ((k : Int) == (-1 : Int)) = false := by simp
      go_wp2_with fail

      go_quiet (fail)
      go_wp2_with fail
      go_quiet (fail)
      go_wp2_with fail
      go_roundw
      case rel => exact ⟨k + 1, by omega, by go_num, HA.out.drewN _, fun hp => H0.out hp, fun hp => H1.out hp⟩
      case measure => simp [intOf]; omega
    have e6 : (ms == ms) = true := by simp
    have bel := ag.below
    clear t1 t2 ag kk0 kk1
    go_wp2_with fail
    go_ret
    exact ⟨rfl, bel⟩
  · rw [e1, e2, e3] at af
    clear e1 e2 e3 XS XM x9
    have hq0 : (Z1 r0 != 0) = true := by
      unfold badB at hbad
      exact (Bool.and_eq_true_iff.1 hbad).1
    have hd0 : decide (Z0 r0 < Z1 r0) = true := by
      unfold badB at hbad
      exact (Bool.and_eq_true_iff.1 hbad).2
    clear hbad
    go_wp2_with fail
    go_loopw [20, 21] (fun id i wr => ∃ k j : Nat, k ≤ r0 ∧ id = .int .i64 (-1) ∧ i = .int .i64 k ∧ wr = wx.drewN j) (fun _ i _ => n - (intOf i).toNat)
    case atStart => exact ⟨0, 0, Nat.zero_le _, rfl, rfl, rfl⟩
    case round =>
    obtain ⟨k, j, hk, rfl, rfl, hwr⟩ := hrel
    have HW : Hid (wr = wx.drewN j) := hwr
    by_cases hlt : k < r0
    · have af' := af.drewN j
      rw [← hwr] at af'
      have c1 := af'.l.int k (by omega)
      have c2 := af'.q.int k (by omega)
      have b1 : (k : Int) < (n : Int) := by omega
      have hbk := hb k hlt
      clear af' af hwr k0 k1 hb hq0 hd0
      cases hq : (Z1 k != 0)
      · clear hbk
        go_wp2_with fail
        go_quiet (fail)
        go_wp2_with fail
        go_roundw
        case rel => exact ⟨k + 1, _, by omega, rfl, by go_num, by rw [HW.out]; exact World.drewN_drewN _ _ _⟩
        case measure => simp [intOf]; omega
      · have hd : decide (Z0 k < Z1 k) = false := by simpa [badB, hq] using hbk
        clear hbk
        go_wp2_with fail
        go_quiet (fail)
        go_wp2_with fail
        go_roundw
        case rel => exact ⟨k + 1, _, by omega, rfl, by go_num, by rw [HW.out]; exact World.drewN_drewN _ _ _⟩
        case measure => simp [intOf]; omega
    obtain rfl : r0 = k := by omega
    have af1 := af.drewN j
    rw [← hwr] at af1
    have s1 := af1.x.short
    have s2 := af1.x.most
    have kk0 : Src .i64 wr a0 len0 Z0 := by rw [hwr]; exact k0
    have kk1 : Src .i64 wr a1 n Z1 := by rw [hwr]; exact k1
    clear hwr HW af hb k0 k1
    have b1 : (r0 : Int) < (n : Int) := by omega
    have c1 := af1.l.int r0 (by omega)
    have c2 := af1.q.int r0 (by omega)
    go_wp2_with fail
    go_quiet (fail)
    clear c1 c2 b1
    go_wp2_with fail
    go_loopw [22] (fun i wr => ∃ k : Nat, k ≤ n ∧ i = .int .i64 k ∧ After w wr w.heap.size n Z0 Z1 SF MF (upd SF r0 (wrap64 (SF r0 + 1))) (upd MF r0 (maxI (MF r0) (Z0 r0))) true ∧ Src .i64 wr a0 len0 Z0 ∧ Src .i64 wr a1 n Z1) (fun i _ => n - (intOf i).toNat)
    case atStart => exact ⟨0, Nat.zero_le _, rfl, af1.drewN _, fun hp => kk0 hp, fun hp => kk1 hp⟩
    case round =>
    clear s1 s2 af1 kk0 kk1 hq0 hd0
    obtain ⟨k, hk, rfl, ag, kk0, kk1⟩ := hrel
    have t1 := ag.x.short
    have t2 := ag.x.most
    have t3 := ag.x.missed
    by_cases hlt : k < n
    · have c1 := ag.l.int k hlt
      have c2 := ag.q.int k hlt
      have c3 := ag.s.int k hlt
      have c4 := ag.m.int k hlt
      have c5 := ag.xs.int k hlt
      have c6 := ag.xm.int k hlt
      obtain ⟨bb0, oo0, rfl, hc0⟩ := kk0 (by omega)
      obtain ⟨bb1, oo1, rfl, hc1⟩ := kk1 (by omega)
      have c7 := hc0 k (by omega)
      have c8 := hc1 k (by omega)
      have b1 : (k : Int) < (n : Int) := by omega
      have b2 : (k : Int) < (len0 : Int) := by omega
      have b3 : (k : Int) < (n : Int) := by omega
      have e1 : (SF k != SF k) = false := by simp
      have e2 : (MF k != MF k) = false := by simp
      have e3 : (Z0 k != Z0 k) = false := by simp
      have e4 : (Z1 k != Z1 k) = false := by simp
      have HA : Hid _ := ag
      have H0 : Hid _ := kk0
      have H1 : Hid _ := kk1
      clear ag kk0 kk1 hc0 hc1 t3
      by_cases hkr : k = r0
      · subst hkr
        have e5 : ((k : Int) == (k : Int)) = true := by simp
        have e7 : upd SF k (wrap64 (SF k + 1)) k = wrap64 (SF k + 1) := if_pos rfl
        have e8 : upd MF k (maxI (MF k) (Z0 k)) k = maxI (MF k) (Z0 k) := if_pos rfl
        rw [e7] at c5
        rw [e8] at c6
        clear e7 e8
        have e9 : (wrap64 (SF k + 1) != wrap64 (SF k + 1)) = false := by simp
        by_cases hM : MF k < Z0 k
        · have hmx : maxI (MF k) (Z0 k) = Z0 k := if_pos hM
          rw [hmx] at c6
          clear hmx
          go_wp2_with fail
          go_quiet (fail)
          go_wp2_with fail
          go_quiet (fail)
          go_wp2_with fail
          go_roundw
          case rel => exact ⟨k + 1, by omega, by go_num, HA.out.drewN _, fun hp => H0.out hp, fun hp => H1.out hp⟩
          case measure => simp [intOf]; omega
        · have hmx : maxI (MF k) (Z0 k) = MF k := if_neg hM
          rw [hmx] at c6
          clear hmx
          go_wp2_with fail
          go_quiet (fail)
          go_wp2_with fail
          go_quiet (fail)
          go_wp2_with fail
          go_roundw
          case rel => exact ⟨k + 1, by omega, by go_num, HA.out.drewN _, fun hp => H0.out hp, fun hp => H1.out hp⟩
          case measure => simp [intOf]; omega
      · have e5 : ((k : Int) == (r0 : Int)) = false := by simp; omega
        have e7 : upd SF r0 (wrap64 (SF r0 + 1)) k = SF k := if_neg hkr
        have e8 : upd MF r0 (maxI (MF r0) (Z0 r0)) k = MF k := if_neg hkr
        rw [e7] at c5
        rw [e8] at c6
        clear e7 e8
        go_wp2_with fail
        go_quiet (fail)
        go_wp2_with fail
        go_quiet (fail)
        go_wp2_with fail
        go_roundw
        case rel => exact ⟨k + 1, by omega, by go_num, HA.out.drewN _, fun hp => H0.out hp, fun hp => H1.out hp⟩
        case measure => simp [intOf]; omega
    have e6 : (0 : Int) ≤ (r0 : Int) := by omega
    have bel := ag.below
    clear t1 t2 ag kk0 kk1
    go_wp2_with fail
    go_ret
    exact ⟨rfl, bel⟩
end Go.Proofs.Ybulkadec
