/-
  zzs1449aitoa (5): the decimal numeral, by hand.
-/
import Derived.Test.YbulkaczgDoorRows
import Derived.Test.YbulkaczgDoorShelf
import Derived.WalkKit
import Derived.Below
import Derived.WalkSpells
import Derived.Lib.ItoaNum
import Derived.Laws.BytesArg
namespace Go.Proofs.YbulkaczgDoor
open Go.RowKit
set_option linter.unusedVariables false

theorem cell_set_other {w : World} {g q b o : Nat} {v u : Value} (hne : b ≠ g ∨ o ≠ q) (h : w.cell? ⟨b, o, none⟩ = some u) : (w.setCell ⟨g, q, none⟩ v).cell? ⟨b, o, none⟩ = some u := by
  rw [World.cell?_setCell_other (a := ⟨g, q, none⟩) (b := ⟨b, o, none⟩)]
  · exact h
  · intro e
    injection e with e1 e2 e3
    omega

/-- The array of 24 bytes in block g, written from place k on. -/
structure BufAt (w : World) (g k : Nat) (S : List UInt8) : Prop where
  cell : ∀ q, q < 24 → ∃ v, w.cell? ⟨g, q, none⟩ = some v
  free : ∀ q, q < 24 → w.frozen? ⟨g, q, none⟩ = false
  len : S.length + k = 24
  done : ∀ j, j < S.length → w.cell? ⟨g, k + j, none⟩ = some (.int .u8 ((S.getD j 0).toNat : Int))

theorem BufAt.push {w : World} {g k : Nat} {S : List UInt8} (h : BufAt w g (k + 1) S) (d : UInt8) : BufAt (w.setCell ⟨g, k, none⟩ (.int .u8 (d.toNat : Int))) g k (d :: S) where
  cell := fun q hq => by
    obtain ⟨v, hv⟩ := h.cell q hq
    by_cases e : q = k
    · subst e; exact ⟨_, World.cell?_setCell_same _ _ _ hv⟩
    · exact ⟨v, cell_set_other (by omega) hv⟩
  free := fun q hq => by rw [World.frozen?_setCell]; exact h.free q hq
  len := by have := h.len; simp; omega
  done := fun j hj => by
    have hl := h.len
    cases j with
    | zero =>
      obtain ⟨v, hv⟩ := h.cell k (by omega)
      simpa using World.cell?_setCell_same _ _ (Value.int .u8 (d.toNat : Int)) hv
    | succ j =>
      have := h.done j (by simpa using hj)
      rw [show k + 1 + j = k + (j + 1) by omega] at this
      simpa using cell_set_other (by omega) this

theorem nDigits_le : ∀ (f u : Nat), u < 10 ^ f → 1 ≤ f → Lib.nDigits u ≤ f
  | 0, _, _, h => by omega
  | f + 1, u, h, _ => by
    by_cases h10 : u < 10
    · rw [Lib.nDigits_small h10]; omega
    · rw [Lib.nDigits_big h10]
      have hf : 1 ≤ f := by
        cases f with
        | zero => simp at h; omega
        | succ f => omega
      have := nDigits_le f (u / 10) (by rw [Nat.pow_succ] at h; omega) hf
      omega

theorem dec_len (u : Nat) (h : u ≤ 18446744073709551615) : (Lib.decDigits u).length ≤ 20 := by
  rw [Lib.decDigits_length]
  exact nDigits_le 20 u (by have : (10 : Nat) ^ 20 = 100000000000000000000 := by decide
                            omega) (by omega)

theorem dec_pos (u : Nat) : 1 ≤ (Lib.decDigits u).length := by rw [Lib.decDigits_length]; exact Lib.nDigits_pos u

theorem dec_last {x : Nat} (h : x / 10 = 0) : Lib.decDigits x = [UInt8.ofNat (48 + x % 10)] := by
  rw [Lib.decDigits_one (by omega), show x % 10 = x by omega]
theorem dec_more {x : Nat} (h : ¬ x / 10 = 0) : Lib.decDigits x = Lib.decDigits (x / 10) ++ [UInt8.ofNat (48 + x % 10)] := by
  rw [Lib.decDigits, dif_neg (by omega)]

theorem digit_toNat (x : Nat) : ((UInt8.ofNat (48 + x % 10)).toNat : Int) = 48 + (x : Int) % 10 := by
  have h : (UInt8.ofNat (48 + x % 10)).toNat = 48 + x % 10 := by
    rw [UInt8.toNat_ofNat']
    omega
  rw [h]
  omega

/-- A new array of 24 zeros. -/
theorem buf_new (w : World) : BufAt (w.alloc (.cells #[.int .u8 0, .int .u8 0, .int .u8 0, .int .u8 0, .int .u8 0, .int .u8 0, .int .u8 0, .int .u8 0, .int .u8 0, .int .u8 0, .int .u8 0, .int .u8 0, .int .u8 0, .int .u8 0, .int .u8 0, .int .u8 0, .int .u8 0, .int .u8 0, .int .u8 0, .int .u8 0, .int .u8 0, .int .u8 0, .int .u8 0, .int .u8 0] 29)) w.heap.size 24 [] where
  cell := fun q hq => by
    rw [cell_of_row _ w.heap.size q _ 29 (0, 0) (heap_alloc_new w _), Array.getElem?_eq_getElem (by simpa using hq)]
    exact ⟨_, rfl⟩
  free := fun q _ => frozen_of_row _ w.heap.size q _ 29 (heap_alloc_new w _)
  len := rfl
  done := fun j hj => by simp at hj

/-- 'string(buf[k:])'. -/
theorem buf_string {w : World} {g k : Nat} {S : List UInt8} (h : BufAt w g k S) : (convert 30 9 (.slice (some ⟨g, k, none⟩) (24 - k) (24 - k))).run Ybad.prog w = .ok (.string ⟨S.toArray⟩) w := by
  have hl := h.len
  have hr := run_convert_bytes_arg (P := Ybad.prog) w 30 5 Ybad.underlying30 Ybad.underlying5 g k (24 - k) (24 - k) (S.map fun d => (d.toNat : Int)) (by simp; omega) (fun i hi => by
    have := h.done i (by omega)
    rw [this]
    simp [List.getD, show i < S.length by omega]) 9 Ybad.underlying9
  rw [hr]
  have e : strOfNums (S.map fun d => (d.toNat : Int)) = ⟨S.toArray⟩ := by
    have e1 := strOfNums_data (S.map fun d => (d.toNat : Int))
    have e2 : (S.map fun d => (d.toNat : Int)).map (fun n => UInt8.ofNat n.toNat) = S := by
      rw [List.map_map]
      conv => rhs; rw [← List.map_id S]
      refine List.map_congr_left fun d _ => ?_
      simp
    rw [e2] at e1
    cases hs : strOfNums (S.map fun d => (d.toNat : Int)) with
    | mk data => rw [hs] at e1; simp at e1; rw [← e1]
  rw [e]

/-- 'buf[k:]'. -/
theorem slice_at (g k : Nat) (hk : k < 24) (w : World) : (Instr.sliceAt 29 (.pointer (some ⟨g, 0, none⟩)) (some (.int .i64 (k : Int))) none none).run Ybad.prog w = .ok (.slice (some ⟨g, k, none⟩) (24 - k) (24 - k)) w := by
  have ha : Ybad.prog.arrayLen 29 = 24 := by kernel_rfl
  have he : Ybad.prog.elem 29 = 5 := by kernel_rfl
  have hs : (sizeOf 5).run Ybad.prog w = .ok 1 w := by kernel_rfl
  have h := run_sliceAt_array_l (P := Ybad.prog) w 29 ⟨g, 0, none⟩ (by rw [ha, he]; exact Ybad.underlying29) .i64 (k : Int) (by omega) (by rw [ha]; omega)
  rw [ha, he, hs] at h
  rw [h]
  simp only [Result.andThen_ok, slicedAt, Int.toNat_natCast, Nat.mul_one, Addr.add_lit, Nat.zero_add]
  rw [if_neg (by omega)]

set_option maxHeartbeats 1000000 in
theorem itoa_pos (n : Nat) (w : World) (h : n ≤ 9223372036854775807) :
    Calls Ybad.prog 5 #[.int .i64 (n : Int)] w fun e w' => e = .returned (.string ⟨(Lib.decDigits n).toArray⟩) ∧ Below w.heap.size w w' := by
  have hd : decide ((n : Int) < 0) = false := by simp
  have H20 := dec_len n (by omega)
  obtain ⟨T, hT⟩ : ∃ T, T = Lib.decDigits n := ⟨_, rfl⟩
  have HT : Hid (T = Lib.decDigits n) := hT
  rw [← hT] at H20 ⊢
  clear hT
  go_enter Ybad.func5, Ybad.ntmps5
  go_wp2
  go_loopw [4, 6] (fun u i wr => ∃ (x k : Nat) (S : List UInt8), x ≤ 18446744073709551615 ∧ u = .int .u64 x ∧ i = .int .i64 k ∧ BufAt wr w.heap.size k S ∧ Below w.heap.size w wr ∧ Hid (Lib.decDigits x ++ S = T)) (fun u _ _ => (intOf u).toNat)
  case atStart => exact ⟨n, 24, [], by omega, rfl, rfl, buf_new w, (Below.refl _ _).alloc (Nat.le_refl _) _, show _ = _ by rw [List.append_nil, HT.out]⟩
  case round =>
    obtain ⟨x, k, S, hx, rfl, rfl, hbuf, hbel, HD⟩ := hrel
    have hk5 : 5 ≤ k := by
      have h1 := congrArg List.length HD.out
      have h2 := dec_pos x
      have h3 := hbuf.len
      simp only [List.length_append] at h1
      omega
    obtain ⟨k, rfl⟩ : ∃ k', k = k' + 1 := ⟨k - 1, by omega⟩
    have hl := hbuf.len
    obtain ⟨v, c1⟩ := hbuf.cell k (by omega)
    have c2 := hbuf.free k (by omega)
    have hk24 : (k : Int) < 24 := by omega
    have B2 := hbuf.push (UInt8.ofNat (48 + x % 10))
    rw [digit_toNat] at B2
    by_cases hz : x / 10 = 0
    · have hz' : ((x : Int) / 10 == 0) = true := by simp; omega
      have HF : Hid (UInt8.ofNat (48 + x % 10) :: S = T) := by
        have := HD.out
        rw [dec_last hz] at this
        exact this
      have hcv := buf_string B2
      rw [HF.out] at hcv
      have hsl := slice_at w.heap.size k (by omega)
      have bb : Below w.heap.size w (wr.setCell ⟨w.heap.size, k, none⟩ (.int .u8 (48 + (x : Int) % 10))) := hbel.setCell (Nat.le_refl _) _
      clear HD HT
      go_wp2
      go_ret
      exact ⟨rfl, bb⟩
    · have hz' : ((x : Int) / 10 == 0) = false := by simp; omega
      have HF : Hid (Lib.decDigits (x / 10) ++ (UInt8.ofNat (48 + x % 10) :: S) = T) := by
        have := HD.out
        rw [dec_more hz, List.append_assoc] at this
        exact this
      have bb : Below w.heap.size w (wr.setCell ⟨w.heap.size, k, none⟩ (.int .u8 (48 + (x : Int) % 10))) := hbel.setCell (Nat.le_refl _) _
      clear HD HT
      go_wp2
      go_roundw
      case rel => exact ⟨x / 10, k, _, by omega, by go_num, rfl, B2, bb, HF⟩
      case measure => simp [intOf]; omega
set_option maxHeartbeats 1000000 in
theorem itoa_neg (n : Nat) (c : Int) (w : World) (h : n ≤ 9223372036854775808) (h1 : 1 ≤ n) (hc1 : c < 0) (hc2 : -9223372036854775808 ≤ c) (hcn : -(c + 1) + 1 = (n : Int)) :
    Calls Ybad.prog 5 #[.int .i64 c] w fun e w' => e = .returned (.string ⟨(45 :: Lib.decDigits n).toArray⟩) ∧ Below w.heap.size w w' := by
  have hd : decide (c < 0) = true := by simp; omega
  have H20 := dec_len n (by omega)
  obtain ⟨T, hT⟩ : ∃ T, T = Lib.decDigits n := ⟨_, rfl⟩
  have HT : Hid (T = Lib.decDigits n) := hT
  rw [← hT] at H20 ⊢
  clear hT
  go_enter Ybad.func5, Ybad.ntmps5
  go_wp2
  go_loopw [4, 6] (fun u i wr => ∃ (x k : Nat) (S : List UInt8), x ≤ 18446744073709551615 ∧ u = .int .u64 x ∧ i = .int .i64 k ∧ BufAt wr w.heap.size k S ∧ Below w.heap.size w wr ∧ Hid (Lib.decDigits x ++ S = T)) (fun u _ _ => (intOf u).toNat)
  case atStart => exact ⟨n, 24, [], by omega, rfl, rfl, buf_new w, (Below.refl _ _).alloc (Nat.le_refl _) _, show _ = _ by rw [List.append_nil, HT.out]⟩
  case round =>
    obtain ⟨x, k, S, hx, rfl, rfl, hbuf, hbel, HD⟩ := hrel
    have hk5 : 5 ≤ k := by
      have h1 := congrArg List.length HD.out
      have h2 := dec_pos x
      have h3 := hbuf.len
      simp only [List.length_append] at h1
      omega
    obtain ⟨k, rfl⟩ : ∃ k', k = k' + 1 := ⟨k - 1, by omega⟩
    have hl := hbuf.len
    obtain ⟨v, c1⟩ := hbuf.cell k (by omega)
    have c2 := hbuf.free k (by omega)
    have hk24 : (k : Int) < 24 := by omega
    have B2 := hbuf.push (UInt8.ofNat (48 + x % 10))
    rw [digit_toNat] at B2
    by_cases hz : x / 10 = 0
    · have hz' : ((x : Int) / 10 == 0) = true := by simp; omega
      have HF : Hid (UInt8.ofNat (48 + x % 10) :: S = T) := by
        have := HD.out
        rw [dec_last hz] at this
        exact this
      obtain ⟨k, rfl⟩ : ∃ k', k = k' + 1 := ⟨k - 1, by omega⟩
      obtain ⟨v3, c3⟩ := B2.cell k (by omega)
      have c4 := B2.free k (by omega)
      have hk23 : (k : Int) < 24 := by omega
      have B3 : BufAt ((wr.setCell ⟨w.heap.size, k + 1, none⟩ (.int .u8 (48 + (x : Int) % 10))).setCell ⟨w.heap.size, k, none⟩ (.int .u8 45)) w.heap.size k (45 :: UInt8.ofNat (48 + x % 10) :: S) := B2.push 45
      have hcv := buf_string B3
      rw [HF.out] at hcv
      have hsl := slice_at w.heap.size k (by omega)
      have bb : Below w.heap.size w ((wr.setCell ⟨w.heap.size, k + 1, none⟩ (.int .u8 (48 + (x : Int) % 10))).setCell ⟨w.heap.size, k, none⟩ (.int .u8 45)) := (hbel.setCell (Nat.le_refl _) _).setCell (Nat.le_refl _) _
      clear HD HT
      go_wp2
      go_ret
      exact ⟨rfl, bb⟩
    · have hz' : ((x : Int) / 10 == 0) = false := by simp; omega
      have HF : Hid (Lib.decDigits (x / 10) ++ (UInt8.ofNat (48 + x % 10) :: S) = T) := by
        have := HD.out
        rw [dec_more hz, List.append_assoc] at this
        exact this
      have bb : Below w.heap.size w (wr.setCell ⟨w.heap.size, k, none⟩ (.int .u8 (48 + (x : Int) % 10))) := hbel.setCell (Nat.le_refl _) _
      clear HD HT
      go_wp2
      go_roundw
      case rel => exact ⟨x / 10, k, _, by omega, by go_num, rfl, B2, bb, HF⟩
      case measure => simp [intOf]; omega

theorem itoa_any (c : Int) (w : World) (h0 : -9223372036854775808 ≤ c) (h1 : c ≤ 9223372036854775807) :
    Calls Ybad.prog 5 #[.int .i64 c] w fun e w' => e = .returned (.string ⟨(Lib.itoa c).toArray⟩) ∧ Below w.heap.size w w' := by
  unfold Lib.itoa
  by_cases hc : c < 0
  · rw [if_pos hc]
    exact itoa_neg c.natAbs c w (by omega) (by omega) hc h0 (by omega)
  · rw [if_neg hc]
    obtain ⟨n, rfl⟩ := Int.eq_ofNat_of_zero_le (show 0 ≤ c by omega)
    exact itoa_pos n w (by omega)

theorem itoa_len (c : Int) (h0 : -9223372036854775808 ≤ c) (h1 : c ≤ 9223372036854775807) : (Lib.itoa c).length ≤ 21 := by
  unfold Lib.itoa
  split
  · have := dec_len c.natAbs (by omega); simp; omega
  · have := dec_len c.toNat (by omega); omega
end Go.Proofs.YbulkaczgDoor
