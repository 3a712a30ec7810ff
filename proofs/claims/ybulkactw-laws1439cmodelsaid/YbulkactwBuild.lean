/-
  zzs1439cbuild (12): the lists laid anew.
-/
import Derived.Test.YbulkactwLists
namespace Go.Proofs.Ybulkactw
open Go.RowKit Go.Mem
set_option linter.unusedVariables false

theorem Yba.info50 : (Yba.prog.info? 50).map (fun i => (i.zero, i.size, i.bytes)) = some (some (.slice none 0 0), 1, 24) := by kernel_rfl
theorem Yba.info59 : (Yba.prog.info? 59).map (fun i => (i.zero, i.size, i.bytes)) = some (some (.agg #[.int .u64 0, .int .u64 0, .int .u64 0, .int .u64 0, .int .i64 0]), 5, 40) := by kernel_rfl

/-- n cells of block g may be read and written. -/
structure Own (w : World) (g n : Nat) : Prop where
  cell : ∀ q, q < n → ∃ v, w.cell? ⟨g, q, none⟩ = some v
  free : ∀ q, q < n → w.frozen? ⟨g, q, none⟩ = false

theorem cell_set_other {w : World} {g q b o : Nat} {v u : Value} (hne : b ≠ g ∨ o ≠ q) (h : w.cell? ⟨b, o, none⟩ = some u) : (w.setCell ⟨g, q, none⟩ v).cell? ⟨b, o, none⟩ = some u := by
  rw [World.cell?_setCell_other (a := ⟨g, q, none⟩) (b := ⟨b, o, none⟩)]
  · exact h
  · intro e
    injection e with e1 e2 e3
    omega

/-- 'make([]indexedSet, n)'. -/
theorem wpList_make5 {w : World} {ops : Array Oper} {rest : List Oper} {o : Oper} {a : Act} {Q : Exit → Act → World → Prop}
    (hg : o.guard = none) (l c : Operand) (hop : o.op = Op.makeSlice 50 l c)
    (L C : Int) (n : Nat) (hl : a.eval l = .int .i64 L) (hc : a.eval c = .int .i64 C) (hL : L = (n : Int)) (hC : C = (n : Int)) (hn : n ≤ 256)
    (hK : ∀ w', Own w' w.heap.size (n * 5) → Step w w' w.heap.size (w.heap.size + 1) → wpList Yba.prog ops Q rest (a.put o.dst (.slice (some ⟨w.heap.size, 0, none⟩) n n)) w') :
    wpList Yba.prog ops Q (o :: rest) a w := by
  refine wpList_plain hg fun K hK' => ?_
  obtain ⟨i, hi', hzz⟩ := Option.map_eq_some_iff.1 Yba.info59
  simp only [Prod.mk.injEq] at hzz
  obtain ⟨hz, hs, hb⟩ := hzz
  have hrun := run_make (P := Yba.prog) w 50 59 i _ Yba.underlying50 hi' hz .i64 .i64 n n (by omega) (by omega) (by rw [hb]; omega) (by omega)
  simp only [Int.toNat_natCast, hs] at hrun
  subst hL
  subst hC
  unfold Oper.wp
  simp [execOp, hop, hl, hc, hrun, Result.andThen]
  refine hK' _ _ (hK _ ?_ ?_)
  · refine ⟨fun q hq => ?_, fun q hq => ?_⟩
    · rw [cell_of_row _ w.heap.size q _ 59 (0, 0) (heap_alloc_new w _)]
      rw [Array.getElem?_eq_getElem (by rw [size_madeCells]; exact hq)]
      exact ⟨_, rfl⟩
    · exact frozen_of_row _ w.heap.size q _ 59 (heap_alloc_new w _)
  · exact ⟨rfl, rfl, rfl, by simp, by omega, fun k hk _ => Below.heap_alloc _ _ _ hk⟩

/-- What stands when k lists are laid: their rows lie in blocks below G. -/
structure BuildRel (w wr : World) (B : Nat) (D : List (List E5)) (k G : Nat) : Prop where
  below : Below B w wr
  lt : B < G
  size : G ≤ wr.heap.size
  free : ∀ i, i < D.length → wr.frozen? ⟨B, i, none⟩ = false
  done : ∀ i, i < k → ∃ a, wr.cell? ⟨B, i, none⟩ = some (.slice a (D.getD i []).length (D.getD i []).length) ∧ RowOf wr a (D.getD i []) ∧ ∀ x, a = some x → B < x.block ∧ x.block < G
  todo : ∀ i, k ≤ i → i < D.length → wr.cell? ⟨B, i, none⟩ = some (.slice none 0 0)

theorem BuildRel.grow {w wr w1 : World} {B k G : Nat} {D : List (List E5)} (h : BuildRel w wr B D k G) (hb : Below wr.heap.size wr w1) : BuildRel w w1 B D k G where
  below := h.below.trans (hb.mono (by have := h.lt; have := h.size; omega))
  lt := h.lt
  size := Nat.le_trans h.size hb.size
  free := fun i hi => (hb.frozen (p := ⟨B, i, none⟩) (by have := h.lt; have := h.size; show B < _; omega)).trans (h.free i hi)
  done := fun i hi => by
    obtain ⟨a, h1, h2, h3⟩ := h.done i hi
    exact ⟨a, cell_below hb h1, h2.below hb, h3⟩
  todo := fun i h1 h2 => cell_below hb (h.todo i h1 h2)

theorem BuildRel.store {w wr : World} {B k G g q : Nat} {D : List (List E5)} (h : BuildRel w wr B D k G) (hg : G ≤ g) (v : Value) : BuildRel w (wr.setCell ⟨g, q, none⟩ v) B D k G where
  below := h.below.setCell (by have := h.lt; show B ≤ g; omega) v
  lt := h.lt
  size := by have := h.size; simpa using this
  free := fun i hi => by rw [World.frozen?_setCell]; exact h.free i hi
  done := fun i hi => by
    obtain ⟨a, h1, h2, h3⟩ := h.done i hi
    refine ⟨a, ?_, h2.of fun b o u hb hc => ?_, h3⟩
    · exact cell_set_other (by have := h.lt; omega) h1
    · obtain ⟨o', e⟩ := hb
      have := (h3 _ e).2
      exact cell_set_other (by simp at this; omega) hc
  todo := fun i h1 h2 => cell_set_other (by have := h.lt; omega) (h.todo i h1 h2)

theorem BuildRel.mono {w wr : World} {B k G G' : Nat} {D : List (List E5)} (h : BuildRel w wr B D k G) (hG : G ≤ G') (hs : G' ≤ wr.heap.size) : BuildRel w wr B D k G' where
  below := h.below
  lt := by have := h.lt; omega
  size := hs
  free := h.free
  done := fun i hi => by
    obtain ⟨a, h1, h2, h3⟩ := h.done i hi
    exact ⟨a, h1, h2, fun x hx => ⟨(h3 x hx).1, by have := (h3 x hx).2; omega⟩⟩
  todo := h.todo

theorem BuildRel.skip {w wr : World} {B k G : Nat} {D : List (List E5)} (h : BuildRel w wr B D k G) (hk : k < D.length) (h0 : (D.getD k []).length = 0) : BuildRel w wr B D (k + 1) G where
  below := h.below
  lt := h.lt
  size := h.size
  free := h.free
  done := fun i hi => by
    by_cases e : i = k
    · subst e
      refine ⟨none, ?_, fun hp => by omega, fun x hx => by cases hx⟩
      rw [h0]
      exact h.todo i (Nat.le_refl _) hk
    · exact h.done i (by omega)
  todo := fun i h1 h2 => h.todo i (by omega) h2

theorem BuildRel.put {w wr : World} {B k G g : Nat} {D : List (List E5)} (h : BuildRel w wr B D k G) (hk : k < D.length) (hg1 : B < g) (hg2 : g < wr.heap.size) (hG : G ≤ wr.heap.size)
    (hr : RowOf wr (some ⟨g, 0, none⟩) (D.getD k [])) : BuildRel w (wr.setCell ⟨B, k, none⟩ (.slice (some ⟨g, 0, none⟩) (D.getD k []).length (D.getD k []).length)) B D (k + 1) wr.heap.size where
  below := h.below.setCell (Nat.le_refl _) _
  lt := by omega
  size := by simp
  free := fun i hi => by rw [World.frozen?_setCell]; exact h.free i hi
  done := fun i hi => by
    by_cases e : i = k
    · subst e
      refine ⟨some ⟨g, 0, none⟩, World.cell?_setCell_same _ _ _ (h.todo i (Nat.le_refl _) hk), hr.of fun b o u hb hc => ?_, fun x hx => ?_⟩
      · obtain ⟨o', e⟩ := hb
        simp at e
        exact cell_set_other (by omega) hc
      · cases hx; exact ⟨hg1, hg2⟩
    · obtain ⟨a, h1, h2, h3⟩ := h.done i (by omega)
      refine ⟨a, ?_, h2.of fun b o u hb hc => ?_, fun x hx => ⟨(h3 x hx).1, by have := (h3 x hx).2; omega⟩⟩
      · exact cell_set_other (by omega) h1
      · obtain ⟨o', e⟩ := hb
        have := (h3 _ e).1
        exact cell_set_other (by simp at this; omega) hc
  todo := fun i h1 h2 => cell_set_other (by omega) (h.todo i (by omega) h2)

theorem Own.grow {w w' : World} {g n : Nat} (h : Own w g n) (hg : g < w.heap.size) (hb : Below w.heap.size w w') : Own w' g n :=
  ⟨fun q hq => by obtain ⟨v, hv⟩ := h.cell q hq; exact ⟨v, cell_below hb hv⟩, fun q hq => (hb.frozen (p := ⟨g, q, none⟩) hg).trans (h.free q hq)⟩
theorem Own.store {w : World} {g n : Nat} (h : Own w g n) (a : Nat) (q : Nat) (v : Value) : Own (w.setCell ⟨a, q, none⟩ v) g n := by
  refine ⟨fun j hj => ?_, fun j hj => by rw [World.frozen?_setCell]; exact h.free j hj⟩
  obtain ⟨u, hu⟩ := h.cell j hj
  by_cases e : g = a ∧ j = q
  · obtain ⟨rfl, rfl⟩ := e
    exact ⟨v, World.cell?_setCell_same _ _ _ hu⟩
  · exact ⟨u, cell_set_other (by omega) hu⟩

/-- The five stores of one set. -/
def put5 (w : World) (g o : Nat) (t : E5) : World :=
  ((((w.setCell ⟨g, o, none⟩ (.int .u64 t.nh)).setCell ⟨g, o + 1, none⟩ (.int .u64 t.nl)).setCell ⟨g, o + 2, none⟩ (.int .u64 t.mh)).setCell ⟨g, o + 3, none⟩ (.int .u64 t.ml)).setCell ⟨g, o + 4, none⟩ (.int .i64 t.ix)
theorem put5_other {w : World} {g o : Nat} {t : E5} {b q : Nat} {u : Value} (hne : b ≠ g ∨ q < o ∨ o + 5 ≤ q) (h : w.cell? ⟨b, q, none⟩ = some u) : (put5 w g o t).cell? ⟨b, q, none⟩ = some u :=
  cell_set_other (by omega) (cell_set_other (by omega) (cell_set_other (by omega) (cell_set_other (by omega) (cell_set_other (by omega) h))))
theorem put5_at {w : World} {g o n : Nat} (t : E5) (h : Own w g n) (hn : o + 5 ≤ n) : SetAt (put5 w g o t) g o t := by
  obtain ⟨u0, h0⟩ := h.cell o (by omega)
  obtain ⟨u1, h1⟩ := (h.store g o (.int .u64 t.nh)).cell (o + 1) (by omega)
  obtain ⟨u2, h2⟩ := ((h.store g o (.int .u64 t.nh)).store g (o + 1) (.int .u64 t.nl)).cell (o + 2) (by omega)
  obtain ⟨u3, h3⟩ := (((h.store g o (.int .u64 t.nh)).store g (o + 1) (.int .u64 t.nl)).store g (o + 2) (.int .u64 t.mh)).cell (o + 3) (by omega)
  obtain ⟨u4, h4⟩ := ((((h.store g o (.int .u64 t.nh)).store g (o + 1) (.int .u64 t.nl)).store g (o + 2) (.int .u64 t.mh)).store g (o + 3) (.int .u64 t.ml)).cell (o + 4) (by omega)
  refine ⟨?_, ?_, ?_, ?_, ?_⟩
  · exact cell_set_other (by omega) (cell_set_other (by omega) (cell_set_other (by omega) (cell_set_other (by omega) (World.cell?_setCell_same _ _ _ h0))))
  · exact cell_set_other (by omega) (cell_set_other (by omega) (cell_set_other (by omega) (World.cell?_setCell_same _ _ _ h1)))
  · exact cell_set_other (by omega) (cell_set_other (by omega) (World.cell?_setCell_same _ _ _ h2))
  · exact cell_set_other (by omega) (World.cell?_setCell_same _ _ _ h3)
  · exact World.cell?_setCell_same _ _ _ h4
theorem put5_own {w : World} {g o n : Nat} (t : E5) (h : Own w g n) : Own (put5 w g o t) g n := ((((h.store _ _ _).store _ _ _).store _ _ _).store _ _ _).store _ _ _
theorem put5_size (w : World) (g o : Nat) (t : E5) : (put5 w g o t).heap.size = w.heap.size := by simp [put5]
theorem put5_rel {w wr : World} {B k G g o : Nat} {D : List (List E5)} (t : E5) (h : BuildRel w wr B D k G) (hg : G ≤ g) : BuildRel w (put5 wr g o t) B D k G :=
  ((((h.store hg _).store hg _).store hg _).store hg _).store hg _

/-- What stands when m sets of list k are laid in block g. -/
structure InnerRel (w wq : World) (B : Nat) (D : List (List E5)) (k g L m : Nat) : Prop where
  rel : BuildRel w wq B D k g
  own : Own wq g (L * 5)
  lt : g < wq.heap.size
  sets : ∀ j, j < m → SetAt wq g (j * 5) ((D.getD k []).getD j zeroE)

theorem InnerRel.next {w wq w3 : World} {B k g L m : Nat} {D : List (List E5)} (h : InnerRel w wq B D k g L m) (hb : Below wq.heap.size wq w3) (hm : m < L) : InnerRel w (put5 w3 g (m * 5) ((D.getD k []).getD m zeroE)) B D k g L (m + 1) where
  rel := put5_rel _ (h.rel.grow hb) (Nat.le_refl _)
  own := put5_own _ (h.own.grow h.lt hb)
  lt := by rw [put5_size]; exact Nat.lt_of_lt_of_le h.lt hb.size
  sets := fun j hj => by
    by_cases e : j = m
    · subst e
      exact put5_at _ (h.own.grow h.lt hb) (by omega)
    · have q := h.sets j (by omega)
      exact ⟨put5_other (by omega) (cell_below hb q.c0), put5_other (by omega) (cell_below hb q.c1), put5_other (by omega) (cell_below hb q.c2), put5_other (by omega) (cell_below hb q.c3), put5_other (by omega) (cell_below hb q.c4)⟩

theorem eqlNil54 (a : Option Addr) (n c : Nat) (w : World) : (binOp .eql 54 (.slice a n c) (.slice none 0 0)).run Yba.prog w = .ok (.bool a.isNone) w := by
  exact Lib.run_eql_slice_nil w 54 56 a n c 0 0 Yba.underlying54

set_option maxHeartbeats 1000000 in
theorem build_walk (b o cap N : Nat) (D : List (List E5)) (A : Nat → Option Addr) (C : Nat → Nat) (w : World) (hD : D.length = N) (h0 : 0 < N) (hN : N ≤ 256) (hL : ∀ i, i < D.length → (D.getD i []).length ≤ 256)
    (hV : Lists w (some ⟨b, o, none⟩) D A C) (hcell : ∀ i, i < D.length → w.cell? ⟨b, o + i, none⟩ = some (.slice (A i) (D.getD i []).length (C i))) :
    Calls Yba.prog 12 #[.slice (some ⟨b, o, none⟩) N cap] w fun e w' => e = .returned (.slice (some ⟨w.heap.size, 0, none⟩) N N) ∧ ∃ G, BuildRel w w' w.heap.size D D.length G := by
  have hnil := eqlNil54
  go_enter Yba.func12, Yba.ntmps12
  go_wp2_with (at_make; refine wpList_make_at rfl (.tmp 9) (.tmp 9) 41 rfl 50 (.slice none 0 0) 24 Yba.underlying41 Yba.info50 rfl .i64 .i64 _ _ N rfl rfl rfl rfl (by omega) (by omega) ?_; intro w1 r1 s1)
  have rel0 : BuildRel w w1 w.heap.size D 0 (w.heap.size + 1) := ⟨s1.below (Below.refl _ _) (Nat.le_refl _) (Nat.le_refl _), by omega, by rw [s1.size]; exact Nat.le_refl _, fun i _ => r1.frozen i, fun i hi => by omega,
    fun i _ hi => by rw [r1.cell, List.getElem?_replicate, if_pos (by omega)]⟩
  clear r1 s1
  go_loopw [13] (fun i wr => ∃ k G : Nat, k ≤ N ∧ i = .int .i64 k ∧ BuildRel w wr w.heap.size D k G) (fun i _ => N - (intOf i).toNat)
  case atStart => exact ⟨0, _, Nat.zero_le _, rfl, rel0⟩
  case round =>
    obtain ⟨k, G, hk, rfl, rel⟩ := hrel
    by_cases hlt : k < N
    · have c1 := cell_below rel.below (hcell k (by omega))
      obtain ⟨L, hLe⟩ : ∃ L, L = (D.getD k []).length := ⟨_, rfl⟩
      rw [← hLe] at c1
      have hLL : L ≤ 256 := by rw [hLe]; exact hL k (by omega)
      have HL : Hid (L = (D.getD k []).length) := hLe
      have b1 : (k : Int) < (N : Int) := by omega
      clear hLe
      cases hA : A k with
      | none =>
        rw [hA] at c1
        have hz : (D.getD k []).length = 0 := by
          by_cases hp : 0 < (D.getD k []).length
          · obtain ⟨_, _, e, _⟩ := hV.inner k (by omega) hp
            rw [hA] at e; cases e
          · omega
        have R := rel.skip (by omega) hz
        have hnone : (none : Option Addr).isNone = true := rfl
        clear hz rel hA HL
        go_wp2_with fail
        go_roundw
        case rel => exact ⟨k + 1, G, by omega, by go_num, R⟩
        case measure => simp [intOf]; omega
      | some x =>
        rw [hA] at c1
        have hsome : (some x).isNone = false := rfl
        go_wp2_with (at_make; refine wpList_make5 rfl (.tmp 21) (.tmp 21) rfl _ _ L rfl rfl rfl rfl hLL ?_; intro w2 own2 s2)
        have b2 : Below wr.heap.size wr w2 := s2.below (Below.refl _ _) (Nat.le_refl _) (Nat.le_refl _)
        have inn0 : InnerRel w w2 w.heap.size D k wr.heap.size L 0 := ⟨(rel.grow b2).mono rel.size b2.size, own2, by rw [s2.size]; omega, fun j hj => by omega⟩
        have hBg : w.heap.size < wr.heap.size := by have := rel.lt; have := rel.size; omega
        obtain ⟨g, hg⟩ : ∃ g, g = wr.heap.size := ⟨_, rfl⟩
        rw [← hg] at inn0 hBg ⊢
        have hrow := hV.inner k (by omega)
        rw [hA] at hrow
        have HLc := HL.out
        clear rel own2 s2 b2 hg c1 rel0
        go_loopw [25] (fun j wq => ∃ m : Nat, m ≤ L ∧ j = .int .i64 m ∧ InnerRel w wq w.heap.size D k g L m) (fun j _ => L - (intOf j).toNat)
        case atStart => exact ⟨0, Nat.zero_le _, rfl, inn0⟩
        case round =>
          obtain ⟨m, hm, rfl, inn⟩ := hrel
          by_cases hml : m < L
          · obtain ⟨b', o', e, hs⟩ := hrow (by omega)
            injection e with e
            subst e
            have q := hs m (by omega)
            obtain ⟨t, ht⟩ : ∃ t, t = (D.getD k []).getD m zeroE := ⟨_, rfl⟩
            rw [← ht] at q
            have HT : Hid (t = (D.getD k []).getD m zeroE) := ht
            have q0 := cell_below inn.rel.below q.c0
            have q1 := cell_below inn.rel.below q.c1
            have q2 := cell_below inn.rel.below q.c2
            have q3 := cell_below inn.rel.below q.c3
            have q4 := cell_below inn.rel.below q.c4
            have b3 : (m : Int) < (L : Int) := by omega
            clear ht q hs hrow HLc inn0 hcell hV
            go_wp2_with (go_at_call 16; refine (cset_any t _).mono ?_; rintro e w3 ⟨rfl, bel3⟩; obtain ⟨f0, k0⟩ := (inn.own.grow inn.lt bel3).cell (m * 5) (by omega); obtain ⟨f1, k1⟩ := (inn.own.grow inn.lt bel3).cell (m * 5 + 1) (by omega); obtain ⟨f2, k2⟩ := (inn.own.grow inn.lt bel3).cell (m * 5 + 2) (by omega); obtain ⟨f3, k3⟩ := (inn.own.grow inn.lt bel3).cell (m * 5 + 3) (by omega); obtain ⟨f4, k4⟩ := (inn.own.grow inn.lt bel3).cell (m * 5 + 4) (by omega); have z0 := (inn.own.grow inn.lt bel3).free (m * 5) (by omega); have z1 := (inn.own.grow inn.lt bel3).free (m * 5 + 1) (by omega); have z2 := (inn.own.grow inn.lt bel3).free (m * 5 + 2) (by omega); have z3 := (inn.own.grow inn.lt bel3).free (m * 5 + 3) (by omega); have z4 := (inn.own.grow inn.lt bel3).free (m * 5 + 4) (by omega))
            have R := inn.next bel3 hml
            rw [← HT.out] at R
            go_roundw
            case rel => exact ⟨m + 1, by omega, by go_num, R⟩
            case measure => simp [intOf]; omega
          · obtain rfl : m = L := by omega
            have hr : RowOf wr (some ⟨g, 0, none⟩) (D.getD k []) := fun _ => ⟨g, 0, rfl, fun j hj => by rw [Nat.zero_add]; exact inn.sets j (by omega)⟩
            have R := inn.rel.put (by omega) hBg inn.lt (Nat.le_of_lt inn.lt) hr
            rw [← HLc] at R
            have y1 := inn.rel.todo k (Nat.le_refl _) (by omega)
            have y2 := inn.rel.free k (by omega)
            clear hr hrow HLc inn0 hcell hV inn
            go_wp2_with fail
            go_roundw
            case rel => exact ⟨k + 1, _, by omega, by go_num, R⟩
            case measure => simp [intOf]; omega
    · obtain rfl : k = N := by omega
      clear rel0 hcell hV
      go_wp2_with fail
      go_ret
      exact ⟨rfl, G, by rw [hD]; exact rel⟩

/-- The built lists, as 'Lists' says it. -/
theorem BuildRel.lists {w wr : World} {B G : Nat} {D : List (List E5)} (h : BuildRel w wr B D D.length G) : ∃ A C, Lists wr (some ⟨B, 0, none⟩) D A C := by
  have hd : ∀ i, ∃ a, i < D.length → wr.cell? ⟨B, i, none⟩ = some (.slice a (D.getD i []).length (D.getD i []).length) ∧ RowOf wr a (D.getD i []) := fun i => by
    by_cases hi : i < D.length
    · obtain ⟨a, h1, h2, _⟩ := h.done i hi
      exact ⟨a, fun _ => ⟨h1, h2⟩⟩
    · exact ⟨none, fun h => absurd h hi⟩
  have hA := fun i => Classical.choose_spec (hd i)
  exact ⟨fun i => Classical.choose (hd i), fun i => (D.getD i []).length, fun _ => ⟨B, 0, rfl, fun i hi => by rw [Nat.zero_add]; exact (hA i hi).1⟩, fun i hi => (hA i hi).2⟩

set_option maxHeartbeats 400000 in
theorem build_nil (ao : Option Addr) (cap : Nat) (w : World) :
    Calls Yba.prog 12 #[.slice ao 0 cap] w fun e w' => e = .returned (.slice (some ⟨w.heap.size, 0, none⟩) 0 0) ∧ Below w.heap.size w w' := by
  go_enter Yba.func12, Yba.ntmps12
  go_wp2_with (at_make; refine wpList_make_at rfl (.tmp 9) (.tmp 9) 41 rfl 50 (.slice none 0 0) 24 Yba.underlying41 Yba.info50 rfl .i64 .i64 _ _ 0 rfl rfl rfl rfl (by omega) (by omega) ?_; intro w1 r1 s1)
  refine wp_loop_rounds 1 ?_
  rw [rounds_succ]
  go_wp2
  go_ret
  exact ⟨rfl, s1.below (Below.refl _ _) (Nat.le_refl _) (Nat.le_refl _)⟩

theorem build_any (ao : Option Addr) (cap : Nat) (D : List (List E5)) (A : Nat → Option Addr) (C : Nat → Nat) (w : World) (hV : Lists w ao D A C) (hb : big D = false) :
    Calls Yba.prog 12 #[.slice ao D.length cap] w fun e w' => e = .returned (.slice (some ⟨w.heap.size, 0, none⟩) D.length D.length) ∧ (∃ A' C', Lists w' (some ⟨w.heap.size, 0, none⟩) D A' C') ∧ Below w.heap.size w w' := by
  obtain ⟨h1, h2⟩ := big_no hb
  by_cases h0 : 0 < D.length
  · obtain ⟨b, o, rfl, hc⟩ := hV.outer h0
    refine (build_walk b o cap D.length D A C w rfl h0 h1 h2 hV hc).mono ?_
    rintro e w' ⟨rfl, G, rel⟩
    exact ⟨rfl, rel.lists, rel.below⟩
  · have e : D = [] := List.eq_nil_of_length_eq_zero (by omega)
    subst e
    refine (build_nil ao cap w).mono ?_
    rintro e w' ⟨rfl, hb⟩
    exact ⟨rfl, ⟨fun _ => none, fun _ => 0, fun h => absurd h (by simp), fun i hi => absurd hi (by simp)⟩, hb⟩
end Go.Proofs.Ybulkactw
