/-
  zzs1439bsel (10): the laws' own reading of the mask.
-/
import Derived.Test.YbulkactwNode
namespace Go.Proofs.Ybulkactw
open Go.RowKit Go.Mem
set_option linter.unusedVariables false

theorem bit_fin : ∀ m : Fin 256, ∀ k : Fin 8, (bits BinOp.and IntKind.u8 ((m.val : Int) / 2 ^ (7 - k.val)) 1 == 1) = bitB (m.val : Int) k.val := by decide +kernel

/-- The two readings of a mask's bit are one. -/
theorem bit_two (m : Int) (k : Nat) (h0 : 0 ≤ m) (h1 : m ≤ 255) (hk : k < 8) : (bits BinOp.and IntKind.u8 (m / 2 ^ (7 - k)) 1 == 1) = bitB m k := by
  obtain ⟨n, rfl⟩ := Int.eq_ofNat_of_zero_le h0
  exact bit_fin ⟨n, by omega⟩ ⟨k, hk⟩

set_option maxHeartbeats 400000 in
theorem sel_out (ao : Option Addr) (lm cap p : Nat) (w : World) (hp : p < 1000) (hlm : lm ≤ 1024) (hout : lm ≤ p / 8) :
    Calls Yba.prog 10 #[.slice ao lm cap, .int .i64 p] w fun e w' => e = .returned (.bool true) ∧ w' = w := by
  go_enter Yba.func10, Yba.ntmps10
  go_wp2
  go_ret
  exact ⟨rfl, rfl⟩

set_option maxHeartbeats 400000 in
theorem sel_in (b o lm cap p : Nat) (m : Int) (w : World) (hp : p < 1000) (hlm : lm ≤ 1024) (hin : p / 8 < lm) (hm0 : 0 ≤ m) (hm1 : m ≤ 255) (h2 : w.cell? ⟨b, o + p / 8, none⟩ = some (.int .u8 m)) :
    Calls Yba.prog 10 #[.slice (some ⟨b, o, none⟩) lm cap, .int .i64 p] w fun e w' => e = .returned (.bool (bitB m (p % 8))) ∧ w' = w := by
  go_enter Yba.func10, Yba.ntmps10
  go_wp2
  go_ret
  exact ⟨congrArg (fun b => Ending.returned (.bool b)) (bit_two m (p % 8) hm0 hm1 (Nat.mod_lt _ (by decide))), rfl⟩

theorem sel_any (ao : Option Addr) (lm cap p : Nat) (M : Nat → Int) (w : World) (hp : p < 1000) (hlm : lm ≤ 1024) (hM : Src .u8 w ao lm M) (hM1 : ∀ i, i < lm → 0 ≤ M i ∧ M i ≤ 255) :
    Calls Yba.prog 10 #[.slice ao lm cap, .int .i64 p] w fun e w' => e = .returned (.bool (selB lm M p)) ∧ w' = w := by
  unfold selB
  by_cases h : lm ≤ p / 8
  · rw [if_pos h]
    exact sel_out ao lm cap p w hp hlm h
  · rw [if_neg h]
    obtain ⟨b, o, rfl, hc⟩ := hM (by omega)
    exact sel_in b o lm cap p _ w hp hlm (by omega) (hM1 _ (by omega)).1 (hM1 _ (by omega)).2 (hc _ (by omega))
end Go.Proofs.Ybulkactw
