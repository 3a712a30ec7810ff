/-
  What (*bands).miss leaves of the memory that LawS1458CMiss has laid.
-/
import Derived.Test.YbulkadecMiss
namespace Go.Proofs.Ybulkadec
open Go.RowKit Go.Mem
set_option linter.unusedVariables false

/-- The law's seven blocks: l, q, s, m, xs, xm, x. -/
structure After (w wx : World) (B n : Nat) (L Q S M XS XM : Nat → Int) (x9 : Bool) : Prop where
  l : RowAt wx B (rowOf .i64 L n) 2
  q : RowAt wx (B + 1) (rowOf .i64 Q n) 2
  s : RowAt wx (B + 2) (rowOf .i64 S n) 3
  m : RowAt wx (B + 3) (rowOf .i64 M n) 2
  xs : RowAt wx (B + 4) (rowOf .i64 XS n) 3
  xm : RowAt wx (B + 5) (rowOf .i64 XM n) 2
  x : Bands wx (B + 6) (B + 4) (B + 5) n x9
  below : Below B w wx

theorem After.drewN {w wx : World} {B n : Nat} {L Q S M XS XM : Nat → Int} {x9 : Bool} (h : After w wx B n L Q S M XS XM x9) (j : Nat) : After w (wx.drewN j) B n L Q S M XS XM x9 :=
  ⟨h.l.drewN j, h.q.drewN j, h.s.drewN j, h.m.drewN j, h.xs.drewN j, h.xm.drewN j, ⟨h.x.short, h.x.most, h.x.missed, h.x.free⟩, Mem.Below.drewN h.below j⟩

theorem least_bad (P : Nat → Bool) : ∀ n, (∃ r, r < n ∧ P r = true) → ∃ r, r < n ∧ P r = true ∧ ∀ i, i < r → P i = false
  | 0, ⟨r, h, _⟩ => absurd h (Nat.not_lt_zero _)
  | n + 1, ⟨r, h, hp⟩ => by
    by_cases h' : ∃ r, r < n ∧ P r = true
    · obtain ⟨r', h1, h2, h3⟩ := least_bad P n h'
      exact ⟨r', by omega, h2, h3⟩
    · refine ⟨r, h, hp, fun i hi => ?_⟩
      cases hpi : P i with
      | false => rfl
      | true => exact absurd ⟨i, by omega, hpi⟩ h'

/-- What 'miss' has found. -/
def Verdict (n : Nat) (L Q S M XS XM : Nat → Int) (ms x9 : Bool) : Prop :=
  ((∀ i, i < n → badB (L i) (Q i) = false) ∧ XS = S ∧ XM = M ∧ x9 = ms) ∨
  ∃ r, r < n ∧ badB (L r) (Q r) = true ∧ (∀ i, i < r → badB (L i) (Q i) = false) ∧ XS = upd S r (wrap64 (S r + 1)) ∧ XM = upd M r (maxI (M r) (L r)) ∧ x9 = true

theorem miss_after (w W : World) (B n : Nat) (L Q S M : Nat → Int) (ms : Bool) (hn : n ≤ 1024) (h : After w W B n L Q S M S M ms) :
    Calls Yba.prog 4 #[.pointer (some ⟨B + 6, 0, none⟩), .slice (some ⟨B, 0, none⟩) n n, .slice (some ⟨B + 1, 0, none⟩) n n] W fun e w' => e = .returned (.tuple #[]) ∧
      ∃ XS XM x9, After w w' B n L Q S M XS XM x9 ∧ Verdict n L Q S M XS XM ms x9 := by
  by_cases hb : ∃ r, r < n ∧ badB (L r) (Q r) = true
  · obtain ⟨r, h1, h2, h3⟩ := least_bad (fun r => badB (L r) (Q r)) n hb
    refine (miss_some (B + 6) B (B + 1) (B + 4) (B + 5) n r ms L Q S M W hn h.l h.q h.xs h.xm h.x h1 h2 h3 (by omega) (by omega) (by omega) (by omega)).mono ?_
    rintro e w' ⟨rfl, j, rfl⟩
    refine ⟨rfl, _, _, true, ?_, Or.inr ⟨r, h1, h2, h3, rfl, rfl, rfl⟩⟩
    have a : After w (((W.setCell ⟨B + 4, r, none⟩ (.int .i64 (wrap64 (S r + 1)))).setCell ⟨B + 5, r, none⟩ (.int .i64 (maxI (M r) (L r)))).setCell ⟨B + 6, 9, none⟩ (.bool true)) B n L Q S M (upd S r (wrap64 (S r + 1))) (upd M r (maxI (M r) (L r))) true := by
      refine ⟨?_, ?_, ?_, ?_, ?_, ?_, ?_, ?_⟩
      · exact ((h.l.setOther (by simp) _).setOther (by simp) _).setOther (by simp) _
      · exact ((h.q.setOther (by simp) _).setOther (by simp) _).setOther (by simp) _
      · exact ((h.s.setOther (by simp) _).setOther (by simp) _).setOther (by simp) _
      · exact ((h.m.setOther (by simp) _).setOther (by simp) _).setOther (by simp) _
      · have := h.xs.set r (.int .i64 (wrap64 (S r + 1)))
        rw [rowOf_set] at this
        exact (this.setOther (by simp) _).setOther (by simp) _
      · have := (h.xm.setOther (a := ⟨B + 4, r, none⟩) (by simp) (.int .i64 (wrap64 (S r + 1)))).set r (.int .i64 (maxI (M r) (L r)))
        rw [rowOf_set] at this
        exact this.setOther (by simp) _
      · refine ⟨?_, ?_, ?_, fun i => ?_⟩
        · exact cell_set_other (by omega) (cell_set_other (by omega) (cell_set_other (by omega) h.x.short))
        · exact cell_set_other (by omega) (cell_set_other (by omega) (cell_set_other (by omega) h.x.most))
        · exact World.cell?_setCell_same _ _ _ (cell_set_other (by omega) (cell_set_other (by omega) h.x.missed))
        · rw [World.frozen?_setCell, World.frozen?_setCell, World.frozen?_setCell]; exact h.x.free i
      · exact ((h.below.setCell (by show B ≤ B + 4; omega) _).setCell (by show B ≤ B + 5; omega) _).setCell (by show B ≤ B + 6; omega) _
    exact a.drewN j
  · have hb' : ∀ i, i < n → badB (L i) (Q i) = false := fun i hi => by
      cases hp : badB (L i) (Q i) with
      | false => rfl
      | true => exact absurd ⟨i, hi, hp⟩ hb
    refine (miss_none (B + 6) B (B + 1) (B + 4) (B + 5) n ms L Q W hn h.l h.q h.x hb').mono ?_
    rintro e w' ⟨rfl, rfl⟩
    exact ⟨rfl, S, M, ms, h, Or.inl ⟨hb', rfl, rfl, rfl⟩⟩

/-- The world in which the law calls 'miss'. -/
theorem before_miss {w wc : World} {B n : Nat} {L Q S M : Nat → Int} (ms : Bool) (c0 c1 c2 c3 c4 c5 c6 : Value) (z : wc.heap.size = B + 6) (hl : RowAt wc B (rowOf .i64 L n) 2) (hq : RowAt wc (B + 1) (rowOf .i64 Q n) 2) (hs : RowAt wc (B + 2) (rowOf .i64 S n) 3) (hm : RowAt wc (B + 3) (rowOf .i64 M n) 2)
    (hxs : RowAt wc (B + 4) (rowOf .i64 S n) 3) (hxm : RowAt wc (B + 5) (rowOf .i64 M n) 2) (hb : Below B w wc) :
    After w (wc.alloc (.cells #[c0, c1, c2, c3, c4, c5, c6, .slice (some ⟨B + 4, 0, none⟩) n n, .slice (some ⟨B + 5, 0, none⟩) n n, .bool ms] 28)) B n L Q S M S M ms := by
  have q := RowAt.new wc [c0, c1, c2, c3, c4, c5, c6, .slice (some ⟨B + 4, 0, none⟩) n n, .slice (some ⟨B + 5, 0, none⟩) n n, .bool ms] 28 (B + 6) z
  exact ⟨hl.alloc _, hq.alloc _, hs.alloc _, hm.alloc _, hxs.alloc _, hxm.alloc _, ⟨q.cell 7, q.cell 8, q.cell 9, fun i => q.frozen i⟩, hb.alloc (by omega) _⟩
end Go.Proofs.Ybulkadec
