/-
  (Reply).String (6), LawS1449AText (3): the walks.
-/
import Derived.Test.YbulkaczgDoorItoa
namespace Go.Proofs.YbulkaczgDoor
open Go.RowKit
set_option linter.unusedVariables false

def sp : ByteArray := ⟨#[32]⟩
/-- What String writes: s0, then for each of the first k lines that is not empty a space and the line. -/
def joinTo (L : Nat → ByteArray) (s0 : ByteArray) : Nat → ByteArray
  | 0 => s0
  | k + 1 => if (L k).size = 0 then joinTo L s0 k else joinTo L s0 k ++ (sp ++ L k)

/-- A slice of strings: its elements L 0, L 1, .. -/
def StrRow (w : World) (ao : Option Addr) (n : Nat) (L : Nat → ByteArray) : Prop :=
  0 < n → ∃ b o, ao = some ⟨b, o, none⟩ ∧ ∀ i, i < n → w.cell? ⟨b, o + i, none⟩ = some (.string (L i))

theorem lt_of_cell {w : World} {b o : Nat} {v : Value} (hc : w.cell? ⟨b, o, none⟩ = some v) : b < w.heap.size := by
  by_cases hl : b < w.heap.size
  · exact hl
  · simp [World.cell?, Array.getElem?_eq_none (Nat.le_of_not_lt hl)] at hc
theorem cell_below {w w' : World} (hb : Below w.heap.size w w') {b o : Nat} {v : Value} (h : w.cell? ⟨b, o, none⟩ = some v) : w'.cell? ⟨b, o, none⟩ = some v :=
  (hb.cell (p := ⟨b, o, none⟩) (lt_of_cell h)).trans h
theorem StrRow.below {w w' : World} {ao : Option Addr} {n : Nat} {L : Nat → ByteArray} (h : StrRow w ao n L) (hb : Below w.heap.size w w') : StrRow w' ao n L := fun hp => by
  obtain ⟨b, o, e, hc⟩ := h hp
  exact ⟨b, o, e, fun i hi => cell_below hb (hc i hi)⟩

theorem below_grow (w : World) (k : Nat) (os : Array Obj) : Below w.heap.size w (Sort.grow (w.drewN k) os) :=
  ⟨rfl, rfl, rfl, by simp [Sort.grow, World.drewN], fun i hi => by show (w.heap ++ os)[i]? = _; rw [Array.getElem?_append_left hi]⟩

theorem box_cell (w : World) (c0 c1 : Value) : (w.alloc (.cells #[c0, c1] 25)).cell? ⟨w.heap.size, 1, none⟩ = some c1 := by
  rw [cell_of_row _ w.heap.size 1 _ 25 (0, 0) (heap_alloc_new w _)]; rfl

theorem joinTo_empty {L : Nat → ByteArray} {s0 : ByteArray} {k : Nat} (h : (L k).size = 0) : joinTo L s0 (k + 1) = joinTo L s0 k := by rw [joinTo, if_pos h]
theorem joinTo_line {L : Nat → ByteArray} {s0 : ByteArray} {k : Nat} (h : ¬ (L k).size = 0) : joinTo L s0 (k + 1) = joinTo L s0 k ++ (sp ++ L k) := by rw [joinTo, if_neg h]

theorem not_empty {s : ByteArray} (h : ¬ s.size = 0) : s.toList.isEmpty = false := by
  rw [ByteArray.toList_eq]
  cases hs : s.data.toList with
  | nil =>
    exact absurd (show s.data.size = 0 by rw [← Array.length_toList, hs]; rfl) h
  | cons _ _ => rfl
theorem is_empty {s : ByteArray} (h : s.size = 0) : s.toList.isEmpty = true := by
  rw [ByteArray.toList_eq]
  have : s.data.toList = [] := List.eq_nil_of_length_eq_zero (by rw [Array.length_toList]; exact h)
  rw [this]; rfl

set_option maxHeartbeats 1000000 in
theorem string_walk (c : Int) (ao : Option Addr) (n cap : Nat) (L : Nat → ByteArray) (w : World) (h0 : -9223372036854775808 ≤ c) (h1 : c ≤ 9223372036854775807) (hn : n ≤ 1024) (hr : StrRow w ao n L) (hL : ∀ i, i < n → (L i).size ≤ 140737488355328)
    (htab : ∀ w', Below w.heap.size w w' → Lib.TabIs Ybad.prog w' Ybad.tabName .u64 Lib.pow10Tab) :
    Calls Ybad.prog 6 #[.agg #[.int .i64 c, .slice ao n cap]] w fun e w' => e = .returned (.string (joinTo L ⟨(Lib.itoa c).toArray⟩ n)) ∧ Below w.heap.size w w' := by
  go_enter Ybad.func6, Ybad.ntmps6
  go_wp2_with fail
  refine (Ybad.strconv_Itoa c h0 h1 _ (htab _ ((Below.refl _ _).alloc (Nat.le_refl _) _))).mono ?_
  rintro e w1 ⟨rfl, k1, os, hw1⟩
  have b1 := below_grow (w.alloc (.cells #[.int .i64 c, .slice ao n cap] 25)) k1 os
  have e1 := cell_below b1 (box_cell w (.int .i64 c) (.slice ao n cap))
  rw [← hw1] at b1 e1
  have bb : Below w.heap.size w w1 := ((Below.refl _ _).alloc (Nat.le_refl _) _).trans (b1.mono (by simp))
  have hr1 := hr.below bb
  have hs0 : (⟨(Lib.itoa c).toArray⟩ : ByteArray).size ≤ 21 := by show (Lib.itoa c).toArray.size ≤ 21; rw [List.size_toArray]; exact itoa_len c h0 h1
  obtain ⟨s0, hs⟩ : ∃ s0 : ByteArray, s0 = ⟨(Lib.itoa c).toArray⟩ := ⟨_, rfl⟩
  rw [← hs] at hs0 ⊢
  have HS0 : Hid (s0 = ⟨(Lib.itoa c).toArray⟩) := hs
  clear hw1 b1 htab hr hs
  go_wp2_with fail
  go_loopw [3, 12] (fun s i wr => ∃ (k : Nat) (A : ByteArray), k ≤ n ∧ i = .int .i64 k ∧ s = .string A ∧ A.size ≤ 21 + k * 140737488355329 ∧ Hid (A = joinTo L s0 k) ∧ wr = w1) (fun _ i _ => n - (intOf i).toNat)
  case atStart => exact ⟨0, s0, Nat.zero_le _, rfl, rfl, by rw [Nat.zero_mul]; exact hs0, show s0 = s0 from rfl, rfl⟩
  case round =>
    obtain ⟨k, A, hk, rfl, rfl, hA, HA, rfl⟩ := hrel
    by_cases hlt : k < n
    · obtain ⟨b, o, rfl, hc⟩ := hr1 (by omega)
      have c1 := hc k hlt
      have l1 := hL k hlt
      have b2 : (k : Int) < (n : Int) := by omega
      obtain ⟨S, hS⟩ : ∃ S, S = L k := ⟨_, rfl⟩
      rw [← hS] at c1 l1
      clear hc hr1
      by_cases hz : S.size = 0
      · have he := is_empty hz
        have HF : Hid (A = joinTo L s0 (k + 1)) := by show A = _; rw [joinTo_empty (by rw [← hS]; exact hz)]; exact HA.out
        have hsz : A.size ≤ 21 + (k + 1) * 140737488355329 := Nat.le_trans hA (Nat.add_le_add_left (Nat.mul_le_mul_right _ (Nat.le_succ k)) _)
        clear HA hz hS
        go_wp2_with fail
        go_roundw
        case rel => exact ⟨k + 1, A, by omega, by go_num, rfl, hsz, HF, by trivial⟩
        case measure => simp [intOf]; omega
      · have he := not_empty hz
        have HF : Hid (A ++ (sp ++ S) = joinTo L s0 (k + 1)) := by show A ++ (sp ++ S) = _; rw [joinTo_line (by rw [← hS]; exact hz), hS, HA.out]
        have hsz : (A ++ (sp ++ S)).size ≤ 21 + (k + 1) * 140737488355329 := by
          rw [ByteArray.size_append, ByteArray.size_append]
          have : sp.size = 1 := rfl
          omega
        clear HA hz hS
        go_wp2_with fail
        go_roundw
        case rel => exact ⟨k + 1, A ++ (sp ++ S), by omega, by go_num, rfl, hsz, HF, by trivial⟩
        case measure => simp [intOf]; omega
    · obtain rfl : k = n := by omega
      clear hr1
      go_wp2_with fail
      go_ret
      exact ⟨by rw [← HS0.out, ← HA.out]; rfl, bb⟩

theorem joinTo_line' {L : Nat → ByteArray} {s0 : ByteArray} {k : Nat} (h : ¬ (L k).size = 0) : joinTo L s0 (k + 1) = joinTo L s0 k ++ sp ++ L k := by
  rw [joinTo_line h, ByteArray.append_assoc]

set_option maxHeartbeats 400000 in
theorem law_big (c : Int) (ao : Option Addr) (n cap : Nat) (w : World) (hn : 1024 < n) :
    Calls Ybad.prog 3 #[.int .i64 c, .slice ao n cap] w fun e w' => e = .returned (.bool true) ∧ Below w.heap.size w w' := by
  go_enter Ybad.func3, Ybad.ntmps3
  go_wp2_with fail
  go_ret
  exact ⟨rfl, Below.refl _ _⟩

set_option maxHeartbeats 1000000 in
theorem law_walk (c : Int) (ao : Option Addr) (n cap : Nat) (L : Nat → ByteArray) (w : World) (h0 : -9223372036854775808 ≤ c) (h1 : c ≤ 9223372036854775807) (hn : n ≤ 1024) (hr : StrRow w ao n L) (hL : ∀ i, i < n → (L i).size ≤ 140737488355328)
    (htab : ∀ w', Below w.heap.size w w' → Lib.TabIs Ybad.prog w' Ybad.tabName .u64 Lib.pow10Tab) :
    Calls Ybad.prog 3 #[.int .i64 c, .slice ao n cap] w fun e w' => e = .returned (.bool true) ∧ Below w.heap.size w w' := by
  go_enter Ybad.func3, Ybad.ntmps3
  go_wp2_with fail
  refine (itoa_any c _ h0 h1).mono ?_
  rintro e w1 ⟨rfl, b1⟩
  have hr1 := hr.below b1
  have hs0 : (⟨(Lib.itoa c).toArray⟩ : ByteArray).size ≤ 21 := by show (Lib.itoa c).toArray.size ≤ 21; rw [List.size_toArray]; exact itoa_len c h0 h1
  obtain ⟨s0, hs⟩ : ∃ s0 : ByteArray, s0 = ⟨(Lib.itoa c).toArray⟩ := ⟨_, rfl⟩
  rw [← hs] at hs0 ⊢
  have HS0 : Hid (s0 = ⟨(Lib.itoa c).toArray⟩) := hs
  have hstr := fun wq (hq : Below w1.heap.size w1 wq) => string_walk c ao n cap L wq h0 h1 hn (hr1.below hq) hL (fun w' hb => htab w' (b1.trans ((hq.trans (hb.mono hq.size)).mono b1.size)))
  rw [← hs] at hstr
  have HSt : Hid _ := hstr
  clear hstr htab hr hs
  go_wp2_with fail
  go_loopw [5, 6] (fun s i wr => ∃ (k : Nat) (A : ByteArray), k ≤ n ∧ i = .int .i64 k ∧ s = .string A ∧ A.size ≤ 21 + k * 140737488355329 ∧ Hid (A = joinTo L s0 k) ∧ wr = w1) (fun _ i _ => n - (intOf i).toNat)
  case atStart => exact ⟨0, s0, Nat.zero_le _, rfl, rfl, by rw [Nat.zero_mul]; exact hs0, show s0 = s0 from rfl, rfl⟩
  case round =>
    obtain ⟨k, A, hk, rfl, rfl, hA, HA, hwr⟩ := hrel
    subst hwr
    by_cases hlt : k < n
    · obtain ⟨b, o, rfl, hc⟩ := hr1 (by omega)
      have c1 := hc k hlt
      have l1 := hL k hlt
      have b2 : (k : Int) < (n : Int) := by omega
      obtain ⟨S, hS⟩ : ∃ S, S = L k := ⟨_, rfl⟩
      rw [← hS] at c1 l1
      clear hc hr1
      by_cases hz : S.size = 0
      · have HF : Hid (A = joinTo L s0 (k + 1)) := by show A = _; rw [joinTo_empty (by rw [← hS]; exact hz)]; exact HA.out
        have hsz : A.size ≤ 21 + (k + 1) * 140737488355329 := Nat.le_trans hA (Nat.add_le_add_left (Nat.mul_le_mul_right _ (Nat.le_succ k)) _)
        clear HA hS
        go_wp2_with fail
        go_roundw
        case rel => exact ⟨k + 1, A, by omega, by go_num, rfl, hsz, HF, by trivial⟩
        case measure => simp [intOf]; omega
      · have HF : Hid (A ++ sp ++ S = joinTo L s0 (k + 1)) := by show A ++ sp ++ S = _; rw [joinTo_line' (by rw [← hS]; exact hz), hS, HA.out]
        have hsz : (A ++ sp ++ S).size ≤ 21 + (k + 1) * 140737488355329 := by
          rw [ByteArray.size_append, ByteArray.size_append]
          have : sp.size = 1 := rfl
          omega
        have hz' : (0 : Int) < (S.size : Int) := by omega
        clear HA hS
        go_wp2_with fail
        go_roundw
        case rel => exact ⟨k + 1, A ++ sp ++ S, by omega, by go_num, rfl, hsz, HF, by trivial⟩
        case measure => simp [intOf]; omega
    · obtain rfl : k = n := by omega
      clear hr1
      go_wp2_with fail
      have hal : Below wr.heap.size wr (wr.alloc (.cells #[.int .i64 c, .slice ao k cap] 25)) := (Below.refl _ _).alloc (Nat.le_refl _) _
      have hfin := HSt.out _ hal
      rw [← HA.out] at hfin
      refine hfin.mono ?_
      rintro e w3 ⟨rfl, b3⟩
      have hbb : Below w.heap.size w w3 := b1.trans ((hal.trans (b3.mono hal.size)).mono b1.size)
      have hrf : (A.toList == A.toList) = true := by simp
      clear hfin HSt HA b3 hal
      go_wp2_with fail
      go_ret
      exact ⟨rfl, hbb⟩
end Go.Proofs.YbulkaczgDoor
