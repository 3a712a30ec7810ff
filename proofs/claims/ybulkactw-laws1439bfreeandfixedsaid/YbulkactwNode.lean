/-
  zzs1439bnode (8): the node that the laws 'LawS1439B..' build.
-/
import Derived.Test.YbulkactwAgrees
import Derived.Test.YbulkactwMem
namespace Go.Proofs.Ybulkactw
open Go.RowKit Go.Mem
set_option linter.unusedVariables false

theorem Yba.info34 : (Yba.prog.info? 34).map (fun i => (i.zero, i.size, i.bytes)) = some (some (.int .u32 0), 1, 4) := by kernel_rfl
theorem Yba.info5 : (Yba.prog.info? 5).map (fun i => (i.zero, i.size, i.bytes)) = some (some (.int .u8 0), 1, 1) := by kernel_rfl
theorem Yba.size34 : (Yba.prog.info? 34).map (·.size) = some 1 := by kernel_rfl
theorem Yba.size5 : (Yba.prog.info? 5).map (·.size) = some 1 := by kernel_rfl

/-- A slice of integers that came in, or was made: its elements Z 0, Z 1, .. -/
def Src (k : IntKind) (w : World) (ao : Option Addr) (len : Nat) (Z : Nat → Int) : Prop :=
  0 < len → ∃ b o, ao = some ⟨b, o, none⟩ ∧ ∀ i, i < len → w.cell? ⟨b, o + i, none⟩ = some (.int k (Z i))

theorem Src.step {k : IntKind} {w w' : World} {ao : Option Addr} {len : Nat} {Z : Nat → Int} (h : Src k w ao len Z) (hb : Below w.heap.size w w') : Src k w' ao len Z := by
  intro hl
  obtain ⟨b, o, rfl, hc⟩ := h hl
  exact ⟨b, o, rfl, fun i hi => (hb.cell (p := ⟨b, o + i, none⟩) (lt_of_cell (hc i hi))).trans (hc i hi)⟩

/-- The first m numbers of Z, as cells. -/
def cellsOf (k : IntKind) (Z : Nat → Int) (m : Nat) : List Value := ((List.range m).map Z).map (Value.int k)
theorem cellsOf_len (k : IntKind) (Z : Nat → Int) (m : Nat) : (cellsOf k Z m).length = m := by simp [cellsOf]
theorem cellsOf_get (k : IntKind) (Z : Nat → Int) (m j : Nat) (h : j < m) : (cellsOf k Z m)[j]? = some (.int k (Z j)) := by simp [cellsOf, h]
theorem cellsOf_one (k : IntKind) (Z : Nat → Int) (m : Nat) : ∀ v ∈ cellsOf k Z m, v.oneCell' = true := ints_one k _

theorem Src.pos {k : IntKind} {w : World} {ao : Option Addr} {len : Nat} {Z : Nat → Int} (h : Src k w ao len Z) (m : Nat) (hm : m ≤ len) :
    0 < (cellsOf k Z m).length → ∃ ad, ao = some ad ∧ ∀ j v, (cellsOf k Z m)[j]? = some v → w.cell? (ad.add j) = some v := by
  intro hp
  rw [cellsOf_len] at hp
  obtain ⟨b, o, rfl, hc⟩ := h (by omega)
  refine ⟨_, rfl, fun j v hj => ?_⟩
  have hjm : j < m := by
    have := (List.getElem?_eq_some_iff.1 hj).1
    rwa [cellsOf_len] at this
  rw [cellsOf_get _ _ _ _ hjm] at hj
  rw [Addr.add_lit, hc j (by omega)]
  exact hj

/-- What a new row of dl zeros holds behind a copy of Z's first sl. -/
def padded (Z : Nat → Int) (sl : Nat) (i : Nat) : Int := if i < sl then Z i else 0
theorem lay_cells (k : IntKind) (Z : Nat → Int) (sl dl m j : Nat) (hm : m = Nat.min sl dl) (hj : j < dl) : (lay (List.replicate dl (.int k 0)) (cellsOf k Z m))[j]? = some (.int k (padded Z sl j)) := by
  rw [lay_get, cellsOf_len, padded]
  by_cases h : j < sl
  · rw [if_pos (by rw [hm]; exact Nat.lt_min.2 ⟨h, hj⟩), if_pos h, cellsOf_get _ _ _ _ (by rw [hm]; exact Nat.lt_min.2 ⟨h, hj⟩)]
  · rw [if_neg (by have := Nat.min_le_left sl dl; rw [hm]; show ¬ j < min sl dl; omega), if_neg h]
    simp [hj]

theorem IsNode.below {w w' : World} {bn bf bs bm a n lm B : Nat} {S M : Nat → Int} (h : IsNode w bn bf bs bm a n lm S M) (hb : Below B w w') (h1 : bn < B) (h2 : bf < B) (h3 : bs < B) (h4 : bm < B) : IsNode w' bn bf bs bm a n lm S M :=
  ⟨(hb.cell (p := ⟨bn, 0, none⟩) h1).trans h.start, (hb.cell (p := ⟨bn, 1, none⟩) h1).trans h.fin, (hb.cell (p := ⟨bn, 2, none⟩) h1).trans h.via, (hb.cell (p := ⟨bf, 0, none⟩) h2).trans h.sub,
    (hb.cell (p := ⟨bf, 1, none⟩) h2).trans h.mask, fun i hi => (hb.cell (p := ⟨bs, i, none⟩) h3).trans (h.scell i hi), fun i hi => (hb.cell (p := ⟨bm, i, none⟩) h4).trans (h.mcell i hi)⟩

theorem node_is (w4 : World) (B a n len0 len1 : Nat) (Z0 Z1 : Nat → Int) (z4 : w4.heap.size = B + 2)
    (q4 : RowAt w4 B (lay (List.replicate (a + n) (.int .u32 0)) (cellsOf .u32 Z0 (len0.min (a + n)))) 34) (r4 : RowAt w4 (B + 1) (lay (List.replicate len1 (.int .u8 0)) (cellsOf .u8 Z1 len1)) 5) :
    IsNode ((w4.alloc (.cells [Value.slice (some ⟨B, 0, none⟩) (a + n) (a + n), .slice (some ⟨B + 1, 0, none⟩) len1 len1, .bool false].toArray 65)).alloc
      (.cells [Value.int .i64 ((a : Int) - 1), .int .i64 ((a : Int) + (n : Int)), .pointer (some ⟨B + 2, 0, none⟩), .pointer none, .map none, .pointer none].toArray 32)) (B + 3) (B + 2) B (B + 1) a n len1 (padded Z0 len0) Z1 := by
  have f := (RowAt.new w4 [Value.slice (some ⟨B, 0, none⟩) (a + n) (a + n), .slice (some ⟨B + 1, 0, none⟩) len1 len1, .bool false] 65 (B + 2) z4)
  have g := RowAt.new (w4.alloc (.cells [Value.slice (some ⟨B, 0, none⟩) (a + n) (a + n), .slice (some ⟨B + 1, 0, none⟩) len1 len1, .bool false].toArray 65))
    [Value.int .i64 ((a : Int) - 1), .int .i64 ((a : Int) + (n : Int)), .pointer (some ⟨B + 2, 0, none⟩), .pointer none, .map none, .pointer none] 32 (B + 3) (by simp [z4])
  have f' := f.alloc (.cells [Value.int .i64 ((a : Int) - 1), .int .i64 ((a : Int) + (n : Int)), .pointer (some ⟨B + 2, 0, none⟩), .pointer none, .map none, .pointer none].toArray 32)
  refine ⟨?_, ?_, ?_, ?_, ?_, ?_, ?_⟩
  · rw [g.cell]; rfl
  · rw [g.cell]; simp
  · rw [g.cell]; rfl
  · rw [f'.cell]; rfl
  · rw [f'.cell]; rfl
  · intro i hi
    rw [((q4.alloc _).alloc _).cell, lay_cells .u32 Z0 len0 (a + n) _ i rfl hi]
  · intro i hi
    rw [((r4.alloc _).alloc _).cell, lay_cells .u8 Z1 len1 len1 _ i (Nat.min_self _).symm hi, padded, if_pos hi]

set_option maxHeartbeats 1000000 in
theorem node_any (a0 a1 : Option Addr) (len0 cap0 len1 cap1 a n : Nat) (s e : Int) (Z0 Z1 : Nat → Int) (w : World) (h0 : Src .u32 w a0 len0 Z0) (h1 : Src .u8 w a1 len1 Z1)
    (hl0 : len0 ≤ 1024) (hl1 : len1 ≤ 1024) (hs0 : 0 ≤ s) (hs1 : s ≤ 255) (he0 : 0 ≤ e) (he1 : e ≤ 255) (ha : s % 20 = (a : Int)) (hn : e % 20 = (n : Int)) :
    Calls Yba.prog 8 #[.slice a0 len0 cap0, .slice a1 len1 cap1, .int .u8 s, .int .u8 e] w fun e w' => 
      e = .returned (.tuple #[.pointer (some ⟨w.heap.size + 3, 0, none⟩), .slice (some ⟨w.heap.size, 0, none⟩) (a + n) (a + n)]) ∧ 
      IsNode w' (w.heap.size + 3) (w.heap.size + 2) w.heap.size (w.heap.size + 1) a n len1 (padded Z0 len0) Z1 ∧ Below w.heap.size w w' ∧ w'.heap.size = w.heap.size + 4 := by
  have ba : a < 20 := by omega
  have bn : n < 20 := by omega
  go_enter Yba.func8, Yba.ntmps8
  go_wp2_with (at_make; refine wpList_make_at rfl (.tmp 25) (.tmp 25) 25 rfl 34 (.int .u32 0) 4 Yba.underlying25 Yba.info34 rfl .i64 .i64 _ _ (a + n) rfl rfl (by omega) (by omega) (by omega) (by omega) ?_; intro w1 r1 s1)
  have b1 : Below w.heap.size w w1 := s1.below (Below.refl _ _) (Nat.le_refl _) (Nat.le_refl _)
  obtain ⟨w2, hrun, r2, s2⟩ := run_copy_at w1 25 22 3 34 Yba.underlying25 Yba.size34 w.heap.size (a + n) (a + n) len0 cap0 a0 _ 34 r1 (cellsOf .u32 Z0 (Nat.min len0 (a + n))) (cellsOf_len _ _ _)
    (Src.pos (h0.step b1) _ (Nat.min_le_left _ _)) (by rw [cellsOf_len]; simp; exact Nat.min_le_right _ _) (cellsOf_one _ _ _)
  rw [hrun]
  clear hrun
  have b2 : Below w.heap.size w w2 := s2.below b1 (Nat.le_refl _) (by have := s1.size; omega)
  have z2 : w2.heap.size = w.heap.size + 1 := by rw [s2.size, s1.size]
  go_wp2_with (at_make; refine wpList_make_at rfl (.tmp 31) (.tmp 31) 23 rfl 5 (.int .u8 0) 1 Yba.underlying23 Yba.info5 rfl .i64 .i64 _ _ len1 rfl rfl rfl rfl (by omega) (by omega) ?_; intro w3 r3 s3)
  rw [z2] at r3 s3
  have b3 : Below w.heap.size w w3 := s3.below b2 (by omega) (by omega)
  have q3 := r2.step s3 (by omega)
  obtain ⟨w4, hrun, r4, s4⟩ := run_copy_at w3 23 23 3 5 Yba.underlying23 Yba.size5 (w.heap.size + 1) len1 len1 len1 cap1 a1 _ 5 r3 (cellsOf .u8 Z1 len1) (by rw [cellsOf_len]; exact (Nat.min_self _).symm)
    (Src.pos (h1.step b3) _ (Nat.le_refl _)) (by rw [cellsOf_len]; simp) (cellsOf_one _ _ _)
  rw [hrun]
  clear hrun
  have b4 : Below w.heap.size w w4 := s4.below b3 (by omega) (by have := s3.size; omega)
  have z4 : w4.heap.size = w.heap.size + 2 := by rw [s4.size, s3.size]
  have q4 := q3.step s4 (by omega)
  clear r1 s1 b1 r2 s2 b2 z2 r3 s3 b3 q3 s4
  go_wp2
  go_ret2
  exact ⟨rfl, node_is w4 w.heap.size a n len0 len1 Z0 Z1 z4 q4 r4, (b4.alloc (by omega) _).alloc (by simp; omega) _, by simp [z4]⟩
end Go.Proofs.Ybulkactw
