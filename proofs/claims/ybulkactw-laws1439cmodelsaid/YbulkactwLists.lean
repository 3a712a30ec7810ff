/-
  Lists of sets in memory; zzs1439csame (17), zzs1439ctoobig (11).
-/
import Derived.Test.YbulkactwBits
import Derived.Test.YbulkactwMem
namespace Go.Proofs.Ybulkactw
open Go.RowKit Go.Mem
set_option linter.unusedVariables false

/-- The cells of one set at place o of block b. -/
structure SetAt (w : World) (b o : Nat) (t : E5) : Prop where
  c0 : w.cell? ⟨b, o, none⟩ = some (.int .u64 t.nh)
  c1 : w.cell? ⟨b, o + 1, none⟩ = some (.int .u64 t.nl)
  c2 : w.cell? ⟨b, o + 2, none⟩ = some (.int .u64 t.mh)
  c3 : w.cell? ⟨b, o + 3, none⟩ = some (.int .u64 t.ml)
  c4 : w.cell? ⟨b, o + 4, none⟩ = some (.int .i64 t.ix)

def zeroE : E5 := ⟨0, 0, 0, 0, 0⟩
/-- A slice of sets. -/
def RowOf (w : World) (ao : Option Addr) (l : List E5) : Prop := 0 < l.length → ∃ b o, ao = some ⟨b, o, none⟩ ∧ ∀ j, j < l.length → SetAt w b (o + j * 5) (l.getD j zeroE)

/-- A slice of slices of sets: its inner slices lie at A i, their capacities are C i. -/
structure Lists (w : World) (ao : Option Addr) (D : List (List E5)) (A : Nat → Option Addr) (C : Nat → Nat) : Prop where
  outer : 0 < D.length → ∃ b o, ao = some ⟨b, o, none⟩ ∧ ∀ i, i < D.length → w.cell? ⟨b, o + i, none⟩ = some (.slice (A i) (D.getD i []).length (C i))
  inner : ∀ i, i < D.length → RowOf w (A i) (D.getD i [])

theorem SetAt.of {w w' : World} {b o : Nat} {t : E5} (h : SetAt w b o t) (hc : ∀ o v, w.cell? ⟨b, o, none⟩ = some v → w'.cell? ⟨b, o, none⟩ = some v) : SetAt w' b o t :=
  ⟨hc _ _ h.c0, hc _ _ h.c1, hc _ _ h.c2, hc _ _ h.c3, hc _ _ h.c4⟩

theorem RowOf.of {w w' : World} {ao : Option Addr} {l : List E5} (h : RowOf w ao l) (hc : ∀ b o v, (∃ o', ao = some ⟨b, o', none⟩) → w.cell? ⟨b, o, none⟩ = some v → w'.cell? ⟨b, o, none⟩ = some v) : RowOf w' ao l := by
  intro hp
  obtain ⟨b, o, rfl, hs⟩ := h hp
  exact ⟨b, o, rfl, fun j hj => (hs j hj).of fun o' v => hc b o' v ⟨o, rfl⟩⟩

theorem cell_below {w w' : World} (hb : Below w.heap.size w w') {b o : Nat} {v : Value} (h : w.cell? ⟨b, o, none⟩ = some v) : w'.cell? ⟨b, o, none⟩ = some v :=
  (hb.cell (p := ⟨b, o, none⟩) (lt_of_cell h)).trans h

theorem RowOf.below {w w' : World} {ao : Option Addr} {l : List E5} (h : RowOf w ao l) (hb : Below w.heap.size w w') : RowOf w' ao l := h.of fun _ _ _ _ hc => cell_below hb hc

theorem Lists.below {w w' : World} {ao : Option Addr} {D : List (List E5)} {A : Nat → Option Addr} {C : Nat → Nat} (h : Lists w ao D A C) (hb : Below w.heap.size w w') : Lists w' ao D A C :=
  ⟨fun hp => by obtain ⟨b, o, e, hc⟩ := h.outer hp; exact ⟨b, o, e, fun i hi => cell_below hb (hc i hi)⟩, fun i hi => (h.inner i hi).below hb⟩

/-! ### zzs1439csame: two slices of the same sets -/
set_option maxHeartbeats 400000 in
theorem same_pos (b1 o1 c1 b2 o2 c2 n : Nat) (l : List E5) (hl : l.length = n) (hn : n ≤ 65536) (w : World) (h1 : ∀ j, j < l.length → SetAt w b1 (o1 + j * 5) (l.getD j zeroE)) (h2 : ∀ j, j < l.length → SetAt w b2 (o2 + j * 5) (l.getD j zeroE)) :
    Calls Yba.prog 17 #[.slice (some ⟨b1, o1, none⟩) n c1, .slice (some ⟨b2, o2, none⟩) n c2] w fun e w' => e = .returned (.bool true) ∧ Below w.heap.size w w' := by
  have hne : ((n : Int) != (n : Int)) = false := by simp
  go_enter Yba.func17, Yba.ntmps17
  go_wp2
  go_loopw [5, 13] (fun _ i wr => ∃ k m : Nat, k ≤ n ∧ i = .int .i64 k ∧ wr = w.drewN m) (fun _ i _ => n - (intOf i).toNat)
  case atStart => exact ⟨0, 0, by omega, rfl, rfl⟩
  case round =>
    obtain ⟨k, m, hk, rfl, hwr⟩ := hrel
    have HW : Hid (wr = w.drewN m) := hwr
    have hc : ∀ x, w.cell? x = wr.cell? x := by rw [hwr]; intro x; rfl
    by_cases hlt : k < n
    · obtain ⟨t, ht⟩ : ∃ t, t = l.getD k zeroE := ⟨_, rfl⟩
      obtain ⟨p0, p1, p2, p3, p4⟩ := h1 k (by omega)
      obtain ⟨q0, q1, q2, q3, q4⟩ := h2 k (by omega)
      rw [← ht] at p0 p1 p2 p3 p4 q0 q1 q2 q3 q4
      simp only [hc] at p0 p1 p2 p3 p4 q0 q1 q2 q3 q4
      have b1' : (k : Int) < (n : Int) := by omega
      have hq := ne59 t.nh t.nl t.mh t.ml t.ix t.nh t.nl t.mh t.ml t.ix
      simp only [beq_self_eq_true, Bool.and_true, Bool.not_true] at hq
      clear hwr hc ht h1 h2
      go_wp2
      go_quiet (fail)
      go_wp2
      go_roundw
      case rel => exact ⟨k + 1, _, by omega, by go_num, by rw [HW.out]; exact World.drewN_drewN _ _ _⟩
      case measure => simp [intOf]; omega
    · clear hwr hc h1 h2
      go_wp2
      go_ret
      exact ⟨rfl, by rw [HW.out]; exact Mem.Below.drewN (Below.refl _ _) _⟩

set_option maxHeartbeats 400000 in
theorem same_zero (a1 a2 : Option Addr) (c1 c2 : Nat) (w : World) :
    Calls Yba.prog 17 #[.slice a1 0 c1, .slice a2 0 c2] w fun e w' => e = .returned (.bool true) ∧ Below w.heap.size w w' := by
  go_enter Yba.func17, Yba.ntmps17
  go_wp2
  refine wp_loop_rounds 1 ?_
  rw [rounds_succ]
  go_wp2
  go_ret
  exact ⟨rfl, Below.refl _ _⟩

theorem same_any (a1 a2 : Option Addr) (c1 c2 : Nat) (l : List E5) (hn : l.length ≤ 65536) (w : World) (h1 : RowOf w a1 l) (h2 : RowOf w a2 l) :
    Calls Yba.prog 17 #[.slice a1 l.length c1, .slice a2 l.length c2] w fun e w' => e = .returned (.bool true) ∧ Below w.heap.size w w' := by
  by_cases hp : 0 < l.length
  · obtain ⟨b1, o1, rfl, k1⟩ := h1 hp
    obtain ⟨b2, o2, rfl, k2⟩ := h2 hp
    exact same_pos b1 o1 c1 b2 o2 c2 l.length l rfl hn w k1 k2
  · have : l.length = 0 := by omega
    rw [this]
    exact same_zero a1 a2 c1 c2 w

/-! ### zzs1439ctoobig -/
def big (D : List (List E5)) : Bool := decide (256 < D.length) || D.any fun l => decide (256 < l.length)
theorem big_no {D : List (List E5)} (h : big D = false) : D.length ≤ 256 ∧ ∀ i, i < D.length → (D.getD i []).length ≤ 256 := by
  simp only [big, Bool.or_eq_false_iff, decide_eq_false_iff_not] at h
  refine ⟨by omega, fun i hi => ?_⟩
  have := h.2
  rw [List.any_eq_false] at this
  have h2 := this (D[i]) (List.getElem_mem hi)
  rw [List.getD_eq_getElem?_getD, List.getElem?_eq_getElem hi]
  simp at h2 ⊢
  omega

set_option maxHeartbeats 400000 in
theorem toobig_long (ao : Option Addr) (N cap : Nat) (w : World) (h : 256 < N) :
    Calls Yba.prog 11 #[.slice ao N cap] w fun e w' => e = .returned (.bool true) ∧ w' = w := by
  go_enter Yba.func11, Yba.ntmps11
  go_wp2
  go_ret
  exact ⟨rfl, rfl⟩

set_option maxHeartbeats 400000 in
theorem toobig_walk (b o cap : Nat) (D : List (List E5)) (A : Nat → Option Addr) (C : Nat → Nat) (w : World) (hN : D.length ≤ 256) (N : Nat) (hD : D.length = N)
    (hc : ∀ i, i < N → w.cell? ⟨b, o + i, none⟩ = some (.slice (A i) (D.getD i []).length (C i))) :
    Calls Yba.prog 11 #[.slice (some ⟨b, o, none⟩) N cap] w fun e w' => e = .returned (.bool (big D)) ∧ w' = w := by
  have H0 : Hid (big D = (D.drop 0).any fun l => decide (256 < l.length)) := show big D = _ by simp [big]; omega
  go_enter Yba.func11, Yba.ntmps11
  go_wp2
  go_loop [4, 10] (fun _ i => ∃ k : Nat, k ≤ N ∧ i = .int .i64 k ∧ Hid (big D = (D.drop k).any fun l => decide (256 < l.length))) (fun _ i => N - (intOf i).toNat)
  case atStart => exact ⟨0, Nat.zero_le _, rfl, H0⟩
  case round =>
    obtain ⟨k, hk, rfl, HR⟩ := hrel
    by_cases hlt : k < N
    · have c := hc k hlt
      obtain ⟨L, hL⟩ : ∃ L, L = (D.getD k []).length := ⟨_, rfl⟩
      rw [← hL] at c
      have hdr : (D.drop k).any (fun l => decide (256 < l.length)) = (decide (256 < L) || (D.drop (k + 1)).any fun l => decide (256 < l.length)) := by
        rw [List.drop_eq_getElem_cons (by omega), List.any_cons, hL, List.getD_eq_getElem?_getD, List.getElem?_eq_getElem (by omega)]; rfl
      have HR2 := HR.out
      rw [hdr] at HR2
      clear hc hL hdr HR H0
      by_cases hb : 256 < L
      · have HF : Hid (big D = true) := by rw [HR2]; show (decide (256 < L) || _) = true; simp [hb]
        clear HR2
        go_wp2
        go_ret
        exact ⟨by rw [HF.out]; rfl, rfl⟩
      · have HF : Hid (big D = (D.drop (k + 1)).any fun l => decide (256 < l.length)) := by show big D = _; rw [HR2]; simp [hb]
        clear HR2
        go_wp2
        go_round
        case rel => exact ⟨k + 1, by omega, by go_num, HF⟩
        case measure => simp [intOf]; omega
    · have HF : Hid (big D = false) := by
        show big D = false
        rw [HR.out, List.drop_eq_nil_of_le (by omega)]; rfl
      clear HR H0 hc
      go_wp2
      go_ret
      exact ⟨by rw [HF.out]; rfl, rfl⟩

set_option maxHeartbeats 400000 in
theorem toobig_nil (ao : Option Addr) (cap : Nat) (w : World) :
    Calls Yba.prog 11 #[.slice ao 0 cap] w fun e w' => e = .returned (.bool false) ∧ w' = w := by
  go_enter Yba.func11, Yba.ntmps11
  go_wp2
  refine wp_loop_rounds 1 ?_
  rw [rounds_succ]
  go_wp2
  go_ret
  exact ⟨rfl, rfl⟩

theorem toobig_any (ao : Option Addr) (cap : Nat) (D : List (List E5)) (A : Nat → Option Addr) (C : Nat → Nat) (w : World) (h : Lists w ao D A C) :
    Calls Yba.prog 11 #[.slice ao D.length cap] w fun e w' => e = .returned (.bool (big D)) ∧ w' = w := by
  by_cases h1 : 256 < D.length
  · have : big D = true := by simp [big, h1]
    rw [this]
    exact toobig_long ao D.length cap w h1
  · by_cases h0 : 0 < D.length
    · obtain ⟨b, o, rfl, hc⟩ := h.outer h0
      exact toobig_walk b o cap D A C w (by omega) D.length rfl hc
    · have e : D = [] := List.eq_nil_of_length_eq_zero (by omega)
      subst e
      exact toobig_nil ao cap w
end Go.Proofs.Ybulkactw
