/-
  The callees of the three laws 'LawS1439B..': (*Family).selects (18), zzs1439bsel (10), (*familyNode).agrees (9): contracts over plain functions.
-/
import Derived.Test.YbulkactwRows
import Derived.WalkKit
import Derived.ProofKit
import Derived.Below
import Derived.Deep.QuietTactic
import Derived.BigQuiet
import Derived.WalkSpells
namespace Go.Proofs.Ybulkactw
open Go.RowKit
set_option linter.unusedVariables false

/-! ### The plain functions -/

/-- Bit k (from the left) of the byte m, as (*Family).selects asks for it. -/
def bitB (m : Int) (k : Nat) : Bool := bits BinOp.and IntKind.u8 m (128 / 2 ^ k) != 0

/-- Position p is selected by the mask of lm bytes M 0, M 1, .. -/
def selB (lm : Nat) (M : Nat → Int) (p : Nat) : Bool := if lm ≤ p / 8 then true else bitB (M (p / 8)) (p % 8)

/-- From position p on, n positions: O agrees with S wherever 'sel' says so. -/
def agr (O S : Nat → Int) (sel : Nat → Bool) : Nat → Nat → Bool
  | 0, _ => true
  | n + 1, p => if (O p != S p) = true ∧ sel p = true then false else agr O S sel n (p + 1)

theorem agr_hit (O S : Nat → Int) (sel : Nat → Bool) (n p : Nat) (h : (O p != S p) = true) (hs : sel p = true) : agr O S sel (n + 1) p = false := by
  simp only [agr, h, hs, and_self, if_true]
theorem agr_miss (O S : Nat → Int) (sel : Nat → Bool) (n p : Nat) (h : ¬ ((O p != S p) = true ∧ sel p = true)) : agr O S sel (n + 1) p = agr O S sel n (p + 1) := by
  simp only [agr, h, if_false]

/-! ### (*Family).selects -/
set_option maxHeartbeats 400000 in
theorem selects_out (bf bm lm p : Nat) (w : World) (hp : p < 1000) (hlm : lm ≤ 1024) (h1 : w.cell? ⟨bf, 1, none⟩ = some (.slice (some ⟨bm, 0, none⟩) lm lm)) (hout : lm ≤ p / 8) :
    Calls Yba.prog 18 #[.pointer (some ⟨bf, 0, none⟩), .int .i64 p] w fun e w' => e = .returned (.bool true) ∧ ∃ n, w' = w.drewN n := by
  have hd : decide ((lm : Int) ≤ (p : Int) / 8) = true := by simp; omega
  go_enter Yba.func18, Yba.ntmps18
  go_wp2
  go_quiet (fail)
  go_wp2
  go_ret
  exact ⟨rfl, _, rfl⟩

set_option maxHeartbeats 400000 in
theorem selects_in (bf bm lm p : Nat) (w : World) (m : Int) (hp : p < 1000) (hlm : lm ≤ 1024) (h1 : w.cell? ⟨bf, 1, none⟩ = some (.slice (some ⟨bm, 0, none⟩) lm lm)) (hin : p / 8 < lm)
    (h2 : w.cell? ⟨bm, p / 8, none⟩ = some (.int .u8 m)) :
    Calls Yba.prog 18 #[.pointer (some ⟨bf, 0, none⟩), .int .i64 p] w fun e w' => e = .returned (.bool (bitB m (p % 8))) ∧ ∃ n, w' = w.drewN n := by
  have hd : decide ((lm : Int) ≤ (p : Int) / 8) = false := by simp; omega
  have hi : (p : Int) / 8 < (lm : Int) := by omega
  go_enter Yba.func18, Yba.ntmps18
  go_wp2
  go_quiet (fail)
  go_wp2
  go_ret
  exact ⟨rfl, _, rfl⟩

theorem selects_any (bf bm lm p : Nat) (M : Nat → Int) (w : World) (hp : p < 1000) (hlm : lm ≤ 1024) (h1 : w.cell? ⟨bf, 1, none⟩ = some (.slice (some ⟨bm, 0, none⟩) lm lm))
    (h2 : ∀ i, i < lm → w.cell? ⟨bm, i, none⟩ = some (.int .u8 (M i))) :
    Calls Yba.prog 18 #[.pointer (some ⟨bf, 0, none⟩), .int .i64 p] w fun e w' => e = .returned (.bool (selB lm M p)) ∧ ∃ n, w' = w.drewN n := by
  unfold selB
  by_cases h : lm ≤ p / 8
  · rw [if_pos h]
    exact selects_out bf bm lm p w hp hlm h1 h
  · rw [if_neg h]
    exact selects_in bf bm lm p w _ hp hlm h1 (by omega) (h2 _ (by omega))

/-! ### (*familyNode).agrees -/

/-- WHAT A NODE IS IN MEMORY: start = a - 1, end = a + n; its family: the subtree's cells S, the mask's cells M. -/
structure IsNode (w : World) (bn bf bs bm a n lm : Nat) (S M : Nat → Int) : Prop where
  start : w.cell? ⟨bn, 0, none⟩ = some (.int .i64 ((a : Int) - 1))
  fin : w.cell? ⟨bn, 1, none⟩ = some (.int .i64 ((a + n : Nat) : Int))
  via : w.cell? ⟨bn, 2, none⟩ = some (.pointer (some ⟨bf, 0, none⟩))
  sub : w.cell? ⟨bf, 0, none⟩ = some (.slice (some ⟨bs, 0, none⟩) (a + n) (a + n))
  mask : w.cell? ⟨bf, 1, none⟩ = some (.slice (some ⟨bm, 0, none⟩) lm lm)
  scell : ∀ i, i < a + n → w.cell? ⟨bs, i, none⟩ = some (.int .u32 (S i))
  mcell : ∀ i, i < lm → w.cell? ⟨bm, i, none⟩ = some (.int .u8 (M i))

set_option maxHeartbeats 400000 in
theorem agrees_short (w : World) (bn bf bs bm a n lm : Nat) (S M : Nat → Int) (hN : IsNode w bn bf bs bm a n lm S M) (ao : Option Addr) (ol oc : Nat) (ha : a < 20) (hn : n < 20) (hol : ol < a + n) :
    Calls Yba.prog 9 #[.pointer (some ⟨bn, 0, none⟩), .slice ao ol oc] w fun e w' => e = .returned (.bool false) ∧ ∃ m, w' = w.drewN m := by
  have h1 := hN.fin
  go_enter Yba.func9, Yba.ntmps9
  go_wp2
  go_ret
  exact ⟨rfl, 0, rfl⟩

set_option maxHeartbeats 400000 in
theorem agrees_none (w : World) (bn bf bs bm a lm : Nat) (S M : Nat → Int) (hN : IsNode w bn bf bs bm a 0 lm S M) (ao : Option Addr) (ol oc : Nat) (ha : a < 20) (hol : a ≤ ol) (hoc : ol ≤ 3000) :
    Calls Yba.prog 9 #[.pointer (some ⟨bn, 0, none⟩), .slice ao ol oc] w fun e w' => e = .returned (.bool true) ∧ ∃ m, w' = w.drewN m := by
  have h1 := hN.fin
  have h2 := hN.start
  simp only [Nat.add_zero] at h1
  go_enter Yba.func9, Yba.ntmps9
  go_wp2
  refine wp_loop_rounds 1 ?_
  rw [rounds_succ]
  go_wp2
  go_ret
  exact ⟨rfl, 0, rfl⟩

set_option maxHeartbeats 1000000 in
theorem agrees_long (w : World) (bn bf bs bm a n lm : Nat) (S M : Nat → Int) (hN : IsNode w bn bf bs bm a n lm S M) (bo oo ol oc : Nat) (O : Nat → Int) (ha : a < 20) (hn : n < 20) (hlm : lm ≤ 1024) (hol : a + n ≤ ol) (hoc : ol ≤ 3000)
    (hO : ∀ i, i < ol → w.cell? ⟨bo, oo + i, none⟩ = some (.int .u32 (O i))) :
    Calls Yba.prog 9 #[.pointer (some ⟨bn, 0, none⟩), .slice (some ⟨bo, oo, none⟩) ol oc] w fun e w' => e = .returned (.bool (agr O S (selB lm M) n a)) ∧ ∃ m, w' = w.drewN m := by
  obtain ⟨h1, h2, h3, h4, h5, h6, h7⟩ := hN
  go_enter Yba.func9, Yba.ntmps9
  go_wp2
  go_loopw [5] (fun p wr => ∃ k m : Nat, a ≤ k ∧ k ≤ a + n ∧ p = .int .i64 k ∧ wr = w.drewN m ∧ Hid (agr O S (selB lm M) (a + n - k) k = agr O S (selB lm M) n a)) (fun p _ => a + n - (intOf p).toNat)
  case atStart => exact ⟨a, 0, Nat.le_refl _, by omega, by go_num, rfl, show _ = _ by rw [show a + n - a = n by omega]⟩
  case round =>
    obtain ⟨k, m, hk1, hk2, rfl, hwr, HR⟩ := hrel
    have hc : ∀ x, w.cell? x = wr.cell? x := by rw [hwr]; intro x; rfl
    simp only [hc] at h1 h2 h3 h4 h5 h6 h7 hO
    have HW : Hid (wr = w.drewN m) := hwr
    clear hwr hc
    by_cases hlt : k < a + n
    · have c1 := h6 k hlt
      have c2 := hO k (by omega)
      have b1 : (k : Int) < (ol : Int) := by omega
      have b2 : (k : Int) < (a : Int) + (n : Int) := by omega
      by_cases hne : (O k != S k) = true
      · by_cases hs : selB lm M k = true
        · have HF : Hid (agr O S (selB lm M) n a = false) := by
            have := HR.out
            rw [show a + n - k = (a + n - (k + 1)) + 1 by omega, agr_hit _ _ _ _ _ hne hs] at this
            exact this.symm
          clear HR
          go_wp2
          go_quiet ((go_at_call 18; refine Calls.quiet_of (selects_any bf bm lm k M _ (by omega) hlm (by exact h5) (by exact h7))))
          go_wp2
          go_ret
          exact ⟨by rw [HF.out]; rfl, _, by rw [HW.out]; exact World.drewN_drewN _ _ _⟩
        · have HF : Hid (agr O S (selB lm M) (a + n - (k + 1)) (k + 1) = agr O S (selB lm M) n a) := by
            have := HR.out
            rw [show a + n - k = (a + n - (k + 1)) + 1 by omega, agr_miss _ _ _ _ _ (fun h => hs h.2)] at this
            exact this
          clear HR
          have hs' : selB lm M k = false := by simpa using hs
          go_wp2
          go_quiet ((go_at_call 18; refine Calls.quiet_of (selects_any bf bm lm k M _ (by omega) hlm (by exact h5) (by exact h7))))
          go_wp2
          go_roundw
          case rel => exact ⟨k + 1, _, by omega, by omega, by go_num, by rw [HW.out]; exact World.drewN_drewN _ _ _, HF⟩
          case measure => simp [intOf]; omega
      · have HF : Hid (agr O S (selB lm M) (a + n - (k + 1)) (k + 1) = agr O S (selB lm M) n a) := by
          have := HR.out
          rw [show a + n - k = (a + n - (k + 1)) + 1 by omega, agr_miss _ _ _ _ _ (fun h => hne h.1)] at this
          exact this
        clear HR
        have hne' : (O k != S k) = false := by simpa using hne
        go_wp2
        go_quiet (fail)
        go_wp2
        go_roundw
        case rel => exact ⟨k + 1, _, by omega, by omega, by go_num, by rw [HW.out]; exact World.drewN_drewN _ _ _, HF⟩
        case measure => simp [intOf]; omega
    · obtain rfl : k = a + n := by omega
      have HF : Hid (agr O S (selB lm M) n a = true) := by
        have := HR.out
        rw [Nat.sub_self] at this
        exact this.symm
      clear HR
      go_wp2
      go_ret
      exact ⟨by rw [HF.out]; rfl, _, HW.out⟩
end Go.Proofs.Ybulkactw
