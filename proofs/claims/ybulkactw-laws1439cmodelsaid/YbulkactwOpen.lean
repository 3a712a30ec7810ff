/-
  A [][]ZzS1439CSet that can be read as data, opened: 'Lists'.
-/
import Derived.Test.YbulkactwCModel
import Derived.ProofKit
import Derived.Deep.Slices
namespace Go.Proofs.Ybulkactw
open Go.RowKit Go.Mem Go.Deep Go.WideShapes
set_option linter.unusedVariables false

theorem Yba.cells3 : Yba.prog.cellsOf 3 = 1 := by kernel_rfl
theorem Yba.cells38 : Yba.prog.cellsOf 38 = 1 := by kernel_rfl
theorem Yba.cells54 : Yba.prog.cellsOf 54 = 1 := by kernel_rfl
theorem Yba.cells56 : Yba.prog.cellsOf 56 = 5 := by kernel_rfl

section
variable {H : Type} {enc : TypeId × Value → H} {w : World} {base : Nat} {spare : Nat → Bool} {held : Bool}

theorem open_set {fuel : Nat} {cs : List Value} {x : DataW H × List MemPlace} (h : DataW.trod enc Yba.prog w base spare held fuel 56 cs = some x) : ∃ t : E5, cs = cell5 t := by
  obtain ⟨xs, n, _, rfl, hl, hlen, hf⟩ := DataW.trod_struct Yba.underlying56 h
  rw [Yba.cells56] at hl
  match cs, hl, xs, hlen, hf with
  | [c0, c1, c2, c3, c4], _, [y0, y1, y2, y3, y4], _, hf =>
    have f0 : DataW.trod enc Yba.prog w base spare held n 38 (([c0, c1, c2, c3, c4].drop 0).take (Yba.prog.cellsOf 38)) = some y0 := hf 0 _ rfl
    have f1 : DataW.trod enc Yba.prog w base spare held n 38 (([c0, c1, c2, c3, c4].drop 1).take (Yba.prog.cellsOf 38)) = some y1 := hf 1 _ rfl
    have f2 : DataW.trod enc Yba.prog w base spare held n 38 (([c0, c1, c2, c3, c4].drop 2).take (Yba.prog.cellsOf 38)) = some y2 := hf 2 _ rfl
    have f3 : DataW.trod enc Yba.prog w base spare held n 38 (([c0, c1, c2, c3, c4].drop 3).take (Yba.prog.cellsOf 38)) = some y3 := hf 3 _ rfl
    have f4 : DataW.trod enc Yba.prog w base spare held n 3 (([c0, c1, c2, c3, c4].drop 4).take (Yba.prog.cellsOf 3)) = some y4 := hf 4 _ rfl
    rw [Yba.cells38] at f0 f1 f2 f3
    rw [Yba.cells3] at f4
    obtain ⟨n0, e0, _, _⟩ := DataW.trod_int Yba.underlying38 f0
    obtain ⟨n1, e1, _, _⟩ := DataW.trod_int Yba.underlying38 f1
    obtain ⟨n2, e2, _, _⟩ := DataW.trod_int Yba.underlying38 f2
    obtain ⟨n3, e3, _, _⟩ := DataW.trod_int Yba.underlying38 f3
    obtain ⟨n4, e4, _, _⟩ := DataW.trod_int Yba.underlying3 f4
    simp at e0 e1 e2 e3 e4
    subst e0 e1 e2 e3 e4
    exact ⟨⟨n0, n1, n2, n3, n4⟩, rfl⟩

theorem open_row {fuel : Nat} {v : Value} {x : DataW H × List MemPlace} (h : DataW.trod enc Yba.prog w base spare held fuel 54 [v] = some x) : ∃ (a : Option Addr) (l : List E5) (c : Nat), v = .slice a l.length c ∧ RowOf w a l := by
  rcases open_slice Yba.underlying54 h with ⟨hcs, _⟩ | ⟨a, len, cap, m, n, D, Pl, hcs, hb, hl, hm, hmm, _, hx⟩
  · simp at hcs
    subst hcs
    exact ⟨none, [], 0, rfl, fun hp => by simp at hp⟩
  · simp at hcs
    subst hcs
    have hlm : len ≤ m := by rw [hmm]; split <;> omega
    rw [Yba.cells56] at hx
    have hd : ∀ j, ∃ t : E5, j < len → ∀ f, f < 5 → w.cell? ((a.add (j * 5)).add f) = (cell5 t)[f]? := fun j => by
      by_cases hj : j < len
      · obtain ⟨cs', h1, h2⟩ := hx j (by omega)
        obtain ⟨t, rfl⟩ := open_set h2
        exact ⟨t, fun _ f hf => (World.cells?_some h1).2.2 f hf⟩
      · exact ⟨zeroE, fun h => absurd h hj⟩
    obtain ⟨T, hT⟩ : ∃ T : Nat → E5, ∀ j, j < len → ∀ f, f < 5 → w.cell? ((a.add (j * 5)).add f) = (cell5 (T j))[f]? := ⟨fun j => Classical.choose (hd j), fun j => Classical.choose_spec (hd j)⟩
    clear hd
    refine ⟨some a, (List.range len).map T, cap, by simp, fun hp => ?_⟩
    simp only [List.length_map, List.length_range] at hp ⊢
    obtain ⟨b, o, spot⟩ := a
    have hspot : spot = none := by
      have h0 := hT 0 hp 0 (by omega)
      simp only [Nat.zero_mul] at h0
      have := World.cell?_spot (h0.trans (show _ = some _ from rfl))
      simpa [Addr.add] using this
    subst hspot
    refine ⟨b, o, rfl, fun j hj => ?_⟩
    have hg : ((List.range len).map T).getD j zeroE = T j := by simp [List.getD, hj]
    rw [hg]
    have hc := hT j hj
    simp only [Addr.add_lit] at hc
    exact ⟨by simpa [cell5] using hc 0 (by omega), by simpa [cell5] using hc 1 (by omega), by simpa [cell5] using hc 2 (by omega), by simpa [cell5] using hc 3 (by omega), by simpa [cell5] using hc 4 (by omega)⟩

theorem open_lists {fuel : Nat} {ao : Option Addr} {len cap : Nat} {x : DataW H × List MemPlace} (h : DataW.trod enc Yba.prog w base spare held fuel 39 [.slice ao len cap] = some x) :
    ∃ (D : List (List E5)) (A : Nat → Option Addr) (C : Nat → Nat), D.length = len ∧ Lists w ao D A C := by
  rcases open_slice1 Yba.underlying39 Yba.cells54 h with ⟨hcs, _⟩ | ⟨a, l, c, m, n, V, D, Pl, hcs, hb, hl, hm, hmm, _, hx⟩
  · simp at hcs
    obtain ⟨rfl, rfl, rfl⟩ := hcs
    exact ⟨[], fun _ => none, fun _ => 0, rfl, fun h => absurd h (by simp), fun i hi => absurd hi (by simp)⟩
  · simp at hcs
    obtain ⟨rfl, rfl, rfl⟩ := hcs
    have hlm : len ≤ m := by rw [hmm]; split <;> omega
    have hd : ∀ i, ∃ p : Option Addr × List E5 × Nat, i < len → V i = .slice p.1 p.2.1.length p.2.2 ∧ RowOf w p.1 p.2.1 := fun i => by
      by_cases hi : i < len
      · obtain ⟨a', l', c', e, hr⟩ := open_row (hx i (by omega)).2
        exact ⟨(a', l', c'), fun _ => ⟨e, hr⟩⟩
      · exact ⟨(none, [], 0), fun h => absurd h hi⟩
    have hT := fun i => Classical.choose_spec (hd i)
    have hg : ∀ i, i < len → ((List.range len).map fun i => (Classical.choose (hd i)).2.1).getD i [] = (Classical.choose (hd i)).2.1 := fun i hi => by simp [List.getD, hi]
    refine ⟨(List.range len).map fun i => (Classical.choose (hd i)).2.1, fun i => (Classical.choose (hd i)).1, fun i => (Classical.choose (hd i)).2.2, by simp, ?_, ?_⟩
    · intro hp
      simp only [List.length_map, List.length_range] at hp ⊢
      obtain ⟨b, o, spot⟩ := a
      have hspot : spot = none := by
        have := World.cell?_spot (hx 0 (by omega)).1
        simpa [Addr.add] using this
      subst hspot
      refine ⟨b, o, rfl, fun i hi => ?_⟩
      rw [hg i hi]
      have h1 := (hx i (by omega)).1
      rw [Addr.add_lit] at h1
      exact h1.trans (congrArg some (hT i hi).1)
    · intro i hi
      simp only [List.length_map, List.length_range] at hi
      rw [hg i hi]
      exact (hT i hi).2
end
end Go.Proofs.Ybulkactw
