/-
  (*unionWalk).meeting (13): it answers as the plain walk 'run' over the lists.
-/
import Derived.Test.YbulkactwBuild
namespace Go.Proofs.Ybulkactw
open Go.RowKit Go.Mem
set_option linter.unusedVariables false

/-! ### The plain walk -/
/-- One list: none where a set holds every address of r; else what was gathered. -/
def scan (r : E5) : List E5 → List E5 → Option (List E5)
  | [], acc => some acc
  | t :: ts, acc => if wiB r t = true then none else scan r ts (if meB r t = true then acc ++ [t] else acc)

/-- All lists: the steps left, the coverage (0 uncovered, 1 covered, 2 unsettled), the sets that meet r. -/
def run (r : E5) : List (List E5) → Int → List E5 → Int × Int × List E5
  | [], s, acc => (s, 0, acc)
  | l :: ls, s, acc =>
    if wrap64 (s - (l.length : Int)) < 0 then (wrap64 (s - (l.length : Int)), 2, [])
    else match scan r l acc with
      | none => (wrap64 (s - (l.length : Int)), 1, [])
      | some acc' => run r ls (wrap64 (s - (l.length : Int))) acc'

theorem drop_getD {α : Type} (l : List α) (k : Nat) (z : α) (h : k < l.length) : l.drop k = l.getD k z :: l.drop (k + 1) := by
  rw [List.drop_eq_getElem_cons h, List.getD_eq_getElem?_getD, List.getElem?_eq_getElem h]; rfl

theorem scan_in {r : E5} {l acc : List E5} {k : Nat} (h : k < l.length) (hw : wiB r (l.getD k zeroE) = true) : scan r (l.drop k) acc = none := by
  rw [drop_getD l k zeroE h, scan, if_pos hw]
theorem scan_yes {r : E5} {l acc : List E5} {k : Nat} (h : k < l.length) (hw : wiB r (l.getD k zeroE) = false) (hm : meB r (l.getD k zeroE) = true) : scan r (l.drop k) acc = scan r (l.drop (k + 1)) (acc ++ [l.getD k zeroE]) := by
  rw [drop_getD l k zeroE h, scan, if_neg (by rw [hw]; simp), if_pos hm]
theorem scan_no {r : E5} {l acc : List E5} {k : Nat} (h : k < l.length) (hw : wiB r (l.getD k zeroE) = false) (hm : meB r (l.getD k zeroE) = false) : scan r (l.drop k) acc = scan r (l.drop (k + 1)) acc := by
  rw [drop_getD l k zeroE h, scan, if_neg (by rw [hw]; simp), if_neg (by rw [hm]; simp)]
theorem scan_end {r : E5} {l acc : List E5} : scan r (l.drop l.length) acc = some acc := by
  rw [List.drop_length]; rfl
theorem run_out {r : E5} {D : List (List E5)} {s : Int} {acc : List E5} {i : Nat} (h : i < D.length) (hs : wrap64 (s - ((D.getD i []).length : Int)) < 0) : run r (D.drop i) s acc = (wrap64 (s - ((D.getD i []).length : Int)), 2, []) := by
  rw [drop_getD D i [] h, run, if_pos hs]
theorem run_cov {r : E5} {D : List (List E5)} {s : Int} {acc : List E5} {i : Nat} (h : i < D.length) (hs : ¬ wrap64 (s - ((D.getD i []).length : Int)) < 0) (hc : scan r (D.getD i []) acc = none) : run r (D.drop i) s acc = (wrap64 (s - ((D.getD i []).length : Int)), 1, []) := by
  rw [drop_getD D i [] h, run, if_neg hs, hc]
theorem run_on {r : E5} {D : List (List E5)} {s : Int} {acc acc' : List E5} {i : Nat} (h : i < D.length) (hs : ¬ wrap64 (s - ((D.getD i []).length : Int)) < 0) (hc : scan r (D.getD i []) acc = some acc') : run r (D.drop i) s acc = run r (D.drop (i + 1)) (wrap64 (s - ((D.getD i []).length : Int))) acc' := by
  rw [drop_getD D i [] h, run, if_neg hs, hc]
theorem run_end {r : E5} {D : List (List E5)} {s : Int} {acc : List E5} : run r (D.drop D.length) s acc = (s, 0, acc) := by
  rw [List.drop_length]; rfl

/-! ### What is gathered, in memory -/
def cell5 (t : E5) : List Value := [.int .u64 t.nh, .int .u64 t.nl, .int .u64 t.mh, .int .u64 t.ml, .int .i64 t.ix]
def flat (l : List E5) : List Value := l.flatMap cell5
theorem flat_snoc (l : List E5) (t : E5) : flat (l ++ [t]) = flat l ++ cell5 t := by simp [flat]
theorem flat_len (l : List E5) : (flat l).length = l.length * 5 := by
  induction l with
  | nil => rfl
  | cons t ts ih => simp only [flat, List.flatMap_cons, List.length_append, List.length_cons] at ih ⊢; rw [ih]; simp [cell5]; omega
theorem flat_get (l : List E5) (j f : Nat) (hj : j < l.length) (hf : f < 5) : (flat l)[j * 5 + f]? = (cell5 (l.getD j zeroE))[f]? := by
  induction l generalizing j with
  | nil => simp at hj
  | cons t ts ih =>
    simp only [flat, List.flatMap_cons]
    cases j with
    | zero =>
      rw [List.getElem?_append_left (by simp [cell5]; omega)]
      simp
    | succ j =>
      rw [List.getElem?_append_right (by simp [cell5]; omega)]
      have := ih j (by simpa using hj)
      rw [show (j + 1) * 5 + f - (cell5 t).length = j * 5 + f by simp [cell5]; omega]
      simpa [flat] using this
theorem cell5_one (t : E5) : ∀ u ∈ cell5 t, u.oneCell' = true := by
  intro u hu
  simp only [cell5, List.mem_cons, List.not_mem_nil, or_false] at hu
  rcases hu with rfl | rfl | rfl | rfl | rfl <;> rfl

/-- What is owned is a slice of those sets. -/
theorem owns_row {w : World} {base : Nat} {v : Value} {l : List E5} (h : w.ownsRow base 59 5 v l.length (flat l)) : ∃ a c, v = .slice a l.length c ∧ RowOf w a l := by
  rcases h.2 with ⟨rfl, h0⟩ | ⟨g, cap, cur, rfl, hb, hg, hnc, hcm, hcs, htake⟩
  · exact ⟨none, 0, by rw [h0], fun hp => by omega⟩
  · refine ⟨_, cap, rfl, fun _ => ⟨g, 0, rfl, fun j hj => ?_⟩⟩
    have hc : ∀ f, f < 5 → w.cell? ⟨g, 0 + j * 5 + f, none⟩ = (cell5 (l.getD j zeroE))[f]? := fun f hf => by
      rw [Nat.zero_add, cell_of_row w g _ cur 59 (0, 0) hg, ← flat_get l j f hj hf, ← htake, List.getElem?_take, if_pos (by omega)]
      simp
    exact ⟨hc 0 (by omega), hc 1 (by omega), hc 2 (by omega), hc 3 (by omega), hc 4 (by omega)⟩

/-- Every cell that is there, but for those of block bw, stays. -/
def Keeps (bw : Nat) (w w' : World) : Prop := ∀ b o v, b ≠ bw → w.cell? ⟨b, o, none⟩ = some v → w'.cell? ⟨b, o, none⟩ = some v

/-- The walk of 'meeting' in mid-way: B blocks were there when it began; block B is r's box; the steps left lie in block bw; v owns what was gathered. -/
structure MRel (w wr : World) (bw B : Nat) (r : E5) (s : Int) (v : Value) (acc : List E5) : Prop where
  os : wr.os = w.os
  tape : wr.tape = w.tape
  output : wr.output = w.output
  size : B + 1 ≤ wr.heap.size
  frame : ∀ k, k < B → k ≠ bw → wr.heap[k]? = w.heap[k]?
  steps : wr.cell? ⟨bw, 0, none⟩ = some (.int .i64 s)
  free : wr.frozen? ⟨bw, 0, none⟩ = false
  r0 : wr.cell? ⟨B, 0, none⟩ = some (.int .u64 r.nh)
  r1 : wr.cell? ⟨B, 1, none⟩ = some (.int .u64 r.nl)
  r2 : wr.cell? ⟨B, 2, none⟩ = some (.int .u64 r.mh)
  r3 : wr.cell? ⟨B, 3, none⟩ = some (.int .u64 r.ml)
  own : wr.ownsRow (B + 1) 59 5 v acc.length (flat acc)

theorem MRel.keeps {w wr : World} {bw B : Nat} {r : E5} {s : Int} {v : Value} {acc : List E5} (h : MRel w wr bw B r s v acc) (hB : w.heap.size = B) : Keeps bw w wr := by
  intro b o u hb hc
  have hlt := lt_of_cell hc
  rw [World.cell?_of_block (w := w) (w' := wr) (a := ⟨b, o, none⟩) (h.frame b (by omega) hb)]
  exact hc

theorem ownsRow_below {w w' : World} {base n : Nat} {v : Value} {xs : List Value} (h : w.ownsRow base 59 5 v n xs) (hb : Below w.heap.size w w') : w'.ownsRow base 59 5 v n xs := by
  refine ⟨h.1, ?_⟩
  rcases h.2 with h2 | ⟨g, cap, cur, hv, hg, hh, r⟩
  · exact Or.inl h2
  · exact Or.inr ⟨g, cap, cur, hv, hg, by rw [hb.block g (Array.getElem?_eq_some_iff.1 hh).1]; exact hh, r⟩

theorem MRel.grow {w wr w1 : World} {bw B : Nat} {r : E5} {s : Int} {v : Value} {acc : List E5} (h : MRel w wr bw B r s v acc) (hb : Below wr.heap.size wr w1) (hbw : bw < B) : MRel w w1 bw B r s v acc where
  os := hb.os.trans h.os
  tape := hb.tape.trans h.tape
  output := hb.output.trans h.output
  size := Nat.le_trans h.size hb.size
  frame := fun k hk hk2 => (hb.block k (by have := h.size; omega)).trans (h.frame k hk hk2)
  steps := cell_below hb h.steps
  free := (hb.frozen (p := ⟨bw, 0, none⟩) (by have := h.size; show bw < _; omega)).trans h.free
  r0 := cell_below hb h.r0
  r1 := cell_below hb h.r1
  r2 := cell_below hb h.r2
  r3 := cell_below hb h.r3
  own := ownsRow_below h.own hb

theorem MRel.spend {w wr : World} {bw B : Nat} {r : E5} {s : Int} {v : Value} {acc : List E5} (h : MRel w wr bw B r s v acc) (hbw : bw < B) (s' : Int) : MRel w (wr.setCell ⟨bw, 0, none⟩ (.int .i64 s')) bw B r s' v acc where
  os := h.os
  tape := h.tape
  output := h.output
  size := by have := h.size; simpa using this
  frame := fun k hk hk2 => by rw [Below.heap_setCell _ _ _ _ hk2]; exact h.frame k hk hk2
  steps := World.cell?_setCell_same _ _ _ h.steps
  free := by rw [World.frozen?_setCell]; exact h.free
  r0 := cell_set_other (by omega) h.r0
  r1 := cell_set_other (by omega) h.r1
  r2 := cell_set_other (by omega) h.r2
  r3 := cell_set_other (by omega) h.r3
  own := ownsRow_setCell_below h.own (by show bw < _; omega) _

theorem MRel.append {w wr w1 : World} {bw B : Nat} {r : E5} {s : Int} {v v' : Value} {acc acc' : List E5} (h : MRel w wr bw B r s v acc) (hbw : bw < B) (o : Obj) (hg : (wr.alloc o).grownBy w1 v.ownBlock) (hown : w1.ownsRow (B + 1) 59 5 v' acc'.length (flat acc')) : MRel w w1 bw B r s v' acc' := by
  have h' := h.grow ((Below.refl _ _).alloc (Nat.le_refl _) o) hbw
  have hne : ∀ k, k < B + 1 → some k ≠ v.ownBlock := fun k hk e => by have := (h'.own.lt k e.symm).1; omega
  have hblk : ∀ k, k < B + 1 → w1.heap[k]? = (wr.alloc o).heap[k]? := fun k hk => hg.block k (by have := h'.size; omega) (hne k hk)
  have hc : ∀ b q, b < B + 1 → w1.cell? ⟨b, q, none⟩ = (wr.alloc o).cell? ⟨b, q, none⟩ := fun b q hb => World.cell?_of_block (w := wr.alloc o) (w' := w1) (a := ⟨b, q, none⟩) (hblk b hb)
  have hf : ∀ b q, b < B + 1 → w1.frozen? ⟨b, q, none⟩ = (wr.alloc o).frozen? ⟨b, q, none⟩ := fun b q hb => World.frozen?_of_block (w := wr.alloc o) (w' := w1) (a := ⟨b, q, none⟩) (hblk b hb)
  exact ⟨hg.os.trans h'.os, hg.tape.trans h'.tape, hg.output.trans h'.output, Nat.le_trans h'.size hg.size, fun k hk hk2 => (hblk k (by omega)).trans (h'.frame k hk hk2),
    (hc _ _ (by omega)).trans h'.steps, (hf _ _ (by omega)).trans h'.free, (hc _ _ (by omega)).trans h'.r0, (hc _ _ (by omega)).trans h'.r1, (hc _ _ (by omega)).trans h'.r2, (hc _ _ (by omega)).trans h'.r3, hown⟩

/-- What the contract leaves. -/
structure MOut (w w' : World) (bw : Nat) (got : Value) (R : Int × Int × List E5) : Prop where
  os : w'.os = w.os
  tape : w'.tape = w.tape
  output : w'.output = w.output
  size : w.heap.size ≤ w'.heap.size
  frame : ∀ k, k < w.heap.size → k ≠ bw → w'.heap[k]? = w.heap[k]?
  steps : w'.cell? ⟨bw, 0, none⟩ = some (.int .i64 R.1)
  own : w'.ownsRow (w.heap.size + 1) 59 5 got R.2.2.length (flat R.2.2)
  nil : R.2.1 ≠ 0 → got = .slice none 0 0

theorem MRel.out {w wr : World} {bw B : Nat} {r : E5} {s : Int} {v : Value} {acc : List E5} (h : MRel w wr bw B r s v acc) (hB : w.heap.size = B) (c : Int) (got : Value) (l : List E5) (hown : wr.ownsRow (B + 1) 59 5 got l.length (flat l)) (hnil : c ≠ 0 → got = .slice none 0 0) : MOut w wr bw got (s, c, l) := by
  subst hB
  exact ⟨h.os, h.tape, h.output, by have := h.size; omega, h.frame, h.steps, hown, hnil⟩

/-- Behind a call that only makes blocks: r's box and the set's own variable read as they did. -/
theorem after_call {wr w1 : World} {t : E5} (bel : Below (wr.alloc (.cells #[.int .u64 t.nh, .int .u64 t.nl, .int .u64 t.mh, .int .u64 t.ml, .int .i64 t.ix] 59)).heap.size (wr.alloc (.cells #[.int .u64 t.nh, .int .u64 t.nl, .int .u64 t.mh, .int .u64 t.ml, .int .i64 t.ix] 59)) w1) :
    SetAt w1 wr.heap.size 0 t ∧ Below wr.heap.size wr w1 := by
  have q := RowAt.new wr [Value.int .u64 t.nh, .int .u64 t.nl, .int .u64 t.mh, .int .u64 t.ml, .int .i64 t.ix] 59 wr.heap.size rfl
  refine ⟨⟨?_, ?_, ?_, ?_, ?_⟩, ((Below.refl _ _).alloc (Nat.le_refl _) _).trans (bel.mono (by simp))⟩
  · exact cell_below bel (q.cell 0)
  · exact cell_below bel (q.cell 1)
  · exact cell_below bel (q.cell 2)
  · exact cell_below bel (q.cell 3)
  · exact cell_below bel (q.cell 4)

theorem news_at (w : World) (t : E5) : ∀ j u, (cell5 t)[j]? = some u → (w.alloc (.cells #[.int .u64 t.nh, .int .u64 t.nl, .int .u64 t.mh, .int .u64 t.ml, .int .i64 t.ix] 59)).cell? ((⟨w.heap.size, 0, none⟩ : Addr).add j) = some u := by
  intro j u hj
  have q := RowAt.new w [Value.int .u64 t.nh, .int .u64 t.nl, .int .u64 t.mh, .int .u64 t.ml, .int .i64 t.ix] 59 w.heap.size rfl
  rw [Addr.add_lit, Nat.zero_add]
  exact (q.cell j).trans hj

set_option maxHeartbeats 2000000 in
theorem meeting_walk (bw cap N : Nat) (ao : Option Addr) (D : List (List E5)) (A : Nat → Option Addr) (C : Nat → Nat) (r : E5) (steps : Int) (w : World) (hD : D.length = N) (hN : N ≤ 256) (hL : ∀ i, i < D.length → (D.getD i []).length ≤ 256)
    (hbw : bw < w.heap.size) (hst : w.cell? ⟨bw, 0, none⟩ = some (.int .i64 steps)) (hfr : w.frozen? ⟨bw, 0, none⟩ = false) (hV : ∀ wr, Keeps bw w wr → Lists wr ao D A C) :
    Calls Yba.prog 13 #[.pointer (some ⟨bw, 0, none⟩), .agg #[.int .u64 r.nh, .int .u64 r.nl, .int .u64 r.mh, .int .u64 r.ml], .slice ao N cap] w fun e w' => ∃ got, e = .returned (.tuple #[got, .int .i64 (run r D steps []).2.1]) ∧ MOut w w' bw got (run r D steps []) := by
  obtain ⟨R, hR⟩ : ∃ R, R = run r D steps [] := ⟨_, rfl⟩
  rw [← hR]
  have HR0 : Hid (run r (D.drop 0) steps [] = R) := show _ = _ by rw [hR]; rfl
  clear hR
  obtain ⟨i0, hi, hz0, hz1, hz2⟩ := info_parts Yba.info59
  go_enter Yba.func13, Yba.ntmps13
  go_wp2_with fail
  have rel0 : MRel w (w.alloc (.cells #[.int .u64 r.nh, .int .u64 r.nl, .int .u64 r.mh, .int .u64 r.ml] 46)) bw w.heap.size r steps (.slice none 0 0) [] := by
    have q := RowAt.new w [Value.int .u64 r.nh, .int .u64 r.nl, .int .u64 r.mh, .int .u64 r.ml] 46 w.heap.size rfl
    have hb : Below w.heap.size w (w.alloc (.cells [Value.int .u64 r.nh, .int .u64 r.nl, .int .u64 r.mh, .int .u64 r.ml].toArray 46)) := (Below.refl _ _).alloc (Nat.le_refl _) _
    exact ⟨rfl, rfl, rfl, by simp, fun k hk _ => hb.block k hk, cell_below hb hst, (hb.frozen (p := ⟨bw, 0, none⟩) hbw).trans hfr, q.cell 0, q.cell 1, q.cell 2, q.cell 3, World.ownsRow_nil _ _ _ _⟩
  clear hst hfr
  go_loopw [8, 15] (fun v i wr => ∃ (k : Nat) (s : Int) (acc : List E5), k ≤ N ∧ i = .int .i64 k ∧ MRel w wr bw w.heap.size r s v acc ∧ acc.length ≤ 256 * k ∧ Hid (run r (D.drop k) s acc = R)) (fun _ i _ => N - (intOf i).toNat)
  case atStart => exact ⟨0, steps, [], Nat.zero_le _, rfl, rel0, by simp, HR0⟩
  case round =>
    obtain ⟨k, s, acc, hk, rfl, rel, hal, HR⟩ := hrel
    clear rel0 HR0
    by_cases hlt : k < N
    · have hLw := hV _ (rel.keeps rfl)
      obtain ⟨b, o, rfl, hc⟩ := hLw.outer (by omega)
      have c1 := hc k (by omega)
      have hrow := hLw.inner k (by omega)
      obtain ⟨l, hl⟩ : ∃ l, l = D.getD k [] := ⟨_, rfl⟩
      have hLL := hL k (by omega)
      rw [← hl] at c1 hrow hLL
      have HRo := run_out (r := r) (D := D) (s := s) (acc := acc) (i := k) (by omega)
      have HRc := run_cov (r := r) (D := D) (s := s) (acc := acc) (i := k) (by omega)
      have HRn := fun acc' => run_on (r := r) (D := D) (s := s) (acc := acc) (acc' := acc') (i := k) (by omega)
      rw [← hl] at HRo HRc
      simp only [← hl] at HRn
      rw [HR.out] at HRo HRc
      simp only [HR.out] at HRn
      obtain ⟨L, hLe⟩ : ∃ L, L = l.length := ⟨_, rfl⟩
      rw [← hLe] at c1 hLL HRo HRc
      simp only [← hLe] at HRn
      have b1 : (k : Int) < (N : Int) := by omega
      have HLe : Hid (L = l.length) := hLe
      have HDl : Hid (l = D.getD k []) := hl
      have q1 := rel.steps
      have q2 := rel.free
      clear hLw hc hl hLe
      by_cases hs : wrap64 (s - (L : Int)) < 0
      · have hd : decide (0 ≤ wrap64 (s - (L : Int))) = false := by simp; omega
        have HF : Hid (R = (wrap64 (s - (L : Int)), 2, [])) := HRo hs
        clear HRo HRc HRn HR
        go_wp2_with (go_at_call 19; refine (spend_any bw L s _ q1 q2).mono ?_; rintro e w1 ⟨rfl, rfl⟩)
        go_ret2
        refine ⟨_, by rw [HF.out]; rfl, ?_⟩
        rw [HF.out]
        exact (rel.spend hbw _).out rfl 2 _ [] (World.ownsRow_nil _ _ _ _) (fun _ => rfl)
      · have hd : decide (0 ≤ wrap64 (s - (L : Int))) = true := by simp; omega
        have HC : Hid (scan r l acc = none → R = (wrap64 (s - (L : Int)), 1, [])) := fun h => HRc hs h
        have HN : Hid (∀ acc', scan r l acc = some acc' → R = run r (D.drop (k + 1)) (wrap64 (s - (L : Int))) acc') := fun acc' h => HRn acc' hs h
        clear HRo HRc HRn HR
        go_wp2_with (go_at_call 19; refine (spend_any bw L s _ q1 q2).mono ?_; rintro e w1 ⟨rfl, hw1⟩; have rel1 := rel.spend hbw (wrap64 (s - (L : Int))); rw [← hw1] at rel1; clear hw1 rel q1 q2)
        have HS0 : Hid (scan r (l.drop 0) acc = scan r l acc) := show _ = _ by rw [List.drop_zero]
        go_loopw [8, 26] (fun v j wq => ∃ (m : Nat) (acc' : List E5), m ≤ L ∧ j = .int .i64 m ∧ MRel w wq bw w.heap.size r (wrap64 (s - (L : Int))) v acc' ∧ acc'.length ≤ 256 * k + m ∧ Hid (scan r (l.drop m) acc' = scan r l acc)) (fun _ j _ => L - (intOf j).toNat)
        case atStart => exact ⟨0, acc, Nat.zero_le _, rfl, rel1, by omega, HS0⟩
        case round =>
          obtain ⟨m, acc', hm, rfl, inn, hal', HS⟩ := hrel
          clear HS0 rel1 hrow
          by_cases hml : m < L
          · have hrow := (hV _ (inn.keeps rfl)).inner k (by omega)
            rw [← HDl.out] at hrow
            obtain ⟨b', o', eA, hse⟩ := hrow (by have := HLe.out; omega)
            have q := hse m (by have := HLe.out; omega)
            have hml' : m < l.length := by have := HLe.out; omega
            obtain ⟨t, ht⟩ : ∃ t, t = l.getD m zeroE := ⟨_, rfl⟩
            have S1 := scan_in (r := r) (l := l) (acc := acc') (k := m) hml'
            have S2 := scan_yes (r := r) (l := l) (acc := acc') (k := m) hml'
            have S3 := scan_no (r := r) (l := l) (acc := acc') (k := m) hml'
            rw [← ht] at q S1 S2 S3
            rw [HS.out] at S1 S2 S3
            obtain ⟨t0, t1, t2, t3, t4⟩ := q
            obtain ⟨i1, i2, i3, i4⟩ : _ ∧ _ ∧ _ ∧ _ := ⟨inn.r0, inn.r1, inn.r2, inn.r3⟩
            have b2 : (m : Int) < (L : Int) := by omega
            have hsz : w.heap.size < (wr.heap.size : Nat) := by have := inn.size; omega
            clear hrow hse ht HS
            rw [eA]
            cases hw : wiB r t
            · cases hme : meB r t
              · have HF : Hid (scan r (l.drop (m + 1)) acc' = scan r l acc) := show _ = _ from (S3 hw hme).symm
                clear S1 S2 S3 HN HC
                go_wp2_with (first
                  | (go_at_call 20; refine (within_any r t _).mono ?_; rintro e w2 ⟨rfl, bel2⟩; have ac := after_call bel2; clear bel2; have e0 : w2.cell? ⟨wr.heap.size, 0, none⟩ = some (.int .u64 t.nh) := ac.1.c0; have e1 : w2.cell? ⟨wr.heap.size, 1, none⟩ = some (.int .u64 t.nl) := ac.1.c1; have e2 : w2.cell? ⟨wr.heap.size, 2, none⟩ = some (.int .u64 t.mh) := ac.1.c2; have e3 : w2.cell? ⟨wr.heap.size, 3, none⟩ = some (.int .u64 t.ml) := ac.1.c3; have e4 : w2.cell? ⟨wr.heap.size, 4, none⟩ = some (.int .i64 t.ix) := ac.1.c4; have j0 := cell_below ac.2 i1; have j1 := cell_below ac.2 i2; have j2 := cell_below ac.2 i3; have j3 := cell_below ac.2 i4)
                  | (go_at_call 21; refine (meets_any r t _).mono ?_; rintro e w3 ⟨rfl, bel3⟩; have inn3 := (inn.grow ac.2 hbw).grow bel3 hbw; clear bel3 inn))
                go_roundw
                case rel => exact ⟨m + 1, acc', by omega, by go_num, inn3, by omega, HF⟩
                case measure => simp [intOf]; omega
              · have HF : Hid (scan r (l.drop (m + 1)) (acc' ++ [t]) = scan r l acc) := show _ = _ from (S2 hw hme).symm
                have hbd : (acc'.length + 1) * 40 ≤ 140737488355328 := by omega
                clear S1 S2 S3 HN HC
                go_wp2_with (first
                  | (go_at_call 20; refine (within_any r t _).mono ?_; rintro e w2 ⟨rfl, bel2⟩; have ac := after_call bel2; clear bel2; have e0 : w2.cell? ⟨wr.heap.size, 0, none⟩ = some (.int .u64 t.nh) := ac.1.c0; have e1 : w2.cell? ⟨wr.heap.size, 1, none⟩ = some (.int .u64 t.nl) := ac.1.c1; have e2 : w2.cell? ⟨wr.heap.size, 2, none⟩ = some (.int .u64 t.mh) := ac.1.c2; have e3 : w2.cell? ⟨wr.heap.size, 3, none⟩ = some (.int .u64 t.ml) := ac.1.c3; have e4 : w2.cell? ⟨wr.heap.size, 4, none⟩ = some (.int .i64 t.ix) := ac.1.c4; have j0 := cell_below ac.2 i1; have j1 := cell_below ac.2 i2; have j2 := cell_below ac.2 i3; have j3 := cell_below ac.2 i4)
                  | (go_at_call 21; refine (meets_any r t _).mono ?_; rintro e w3 ⟨rfl, bel3⟩; have inn3 := (inn.grow ac.2 hbw).grow bel3 hbw; have d0 := cell_below bel3 e0; have d1 := cell_below bel3 e1; have d2 := cell_below bel3 e2; have d3 := cell_below bel3 e3; have d4 := cell_below bel3 e4; clear bel3 inn)
                  | (at_builtin; refine wpList_append_own _ rfl (.tmp 38) (.tmp 40) 50 rfl (w.heap.size + 1) 59 i0 _ 5 40 Yba.underlying50 hi hz0 hz1 hz2 rfl (by decide) _ _ _ rfl (inn3.own.alloc _) ⟨w3.heap.size, 0, none⟩ 1 1 (cell5 t) rfl rfl (news_at _ _) (cell5_one _) (by unfold maxLen; omega) hbd (by have := inn3.size; simp; omega) ?_; intro v' w4 hown' hgrow _))
                have hown2 : w4.ownsRow (w.heap.size + 1) 59 5 v' (acc' ++ [t]).length (flat (acc' ++ [t])) := by
                  rw [flat_snoc, List.length_append]; exact hown'
                have inn4 := inn3.append hbw _ hgrow hown2
                go_roundw
                case rel => exact ⟨m + 1, acc' ++ [t], by omega, by go_num, inn4, by simp; omega, HF⟩
                case measure => simp [intOf]; omega
            · have HF : Hid (R = (wrap64 (s - (L : Int)), 1, [])) := HC.out (S1 hw)
              clear S1 S2 S3 HN HC
              go_wp2_with (go_at_call 20; refine (within_any r t _).mono ?_; rintro e w2 ⟨rfl, bel2⟩; have ac := after_call bel2; clear bel2)
              go_ret2
              refine ⟨_, by rw [HF.out]; rfl, ?_⟩
              rw [HF.out]
              exact (inn.grow ac.2 hbw).out rfl 1 _ [] (World.ownsRow_nil _ _ _ _) (fun _ => rfl)
          · obtain rfl : m = L := by omega
            have HF : Hid (run r (D.drop (k + 1)) (wrap64 (s - (m : Int))) acc' = R) := by
              have h := HS.out
              rw [HLe.out, scan_end] at h
              exact (HN.out acc' h.symm).symm
            clear HS HN HC
            go_wp2_with fail
            go_roundw
            case rel => exact ⟨k + 1, _, acc', by omega, by go_num, inn, by omega, HF⟩
            case measure => simp [intOf]; omega
    · obtain rfl : k = N := by omega
      have HF : Hid (R = (s, 0, acc)) := by
        have h := HR.out
        rw [← hD, run_end] at h
        exact h.symm
      clear HR
      go_wp2_with fail
      go_ret2
      refine ⟨_, by rw [HF.out]; rfl, ?_⟩
      rw [HF.out]
      exact rel.out rfl 0 _ acc rel.own (fun h => absurd rfl h)
end Go.Proofs.Ybulkactw
