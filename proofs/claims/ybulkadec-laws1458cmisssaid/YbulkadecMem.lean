/-
  Laws for the walk on memory that the call itself makes, the world behind each kept as a variable: 'make([]T, n)' and 'copy(dst, src)' into a row that is known whole, elements of one cell.
  'RowAt w g cs e': block g is the row cs of element type e, nothing of it frozen. 'Step w w' g n': w' is w but for block g, and has n blocks.
-/
import Derived.WalkKit
import Derived.Below
import Derived.Laws.CopyRow
import Derived.Laws.IdiomCopy
import Derived.Laws.MakeOwn
import Derived.Deep.Draws
namespace Go.Mem
open Go.RowKit

def RowAt (w : World) (g : Nat) (cs : List Value) (e : TypeId) : Prop := w.heap[g]? = some (.cells cs.toArray e (0, 0))

structure Step (w w' : World) (g n : Nat) : Prop where
  os : w'.os = w.os
  tape : w'.tape = w.tape
  output : w'.output = w.output
  size : w'.heap.size = n
  grow : w.heap.size ≤ n
  block : ∀ k, k < w.heap.size → k ≠ g → w'.heap[k]? = w.heap[k]?

theorem Step.cell {w w' : World} {g n : Nat} (h : Step w w' g n) {b o : Nat} {v : Value} (hb : b ≠ g) (hc : w.cell? ⟨b, o, none⟩ = some v) : w'.cell? ⟨b, o, none⟩ = some v := by
  have hlt : b < w.heap.size := by
    by_cases hl : b < w.heap.size
    · exact hl
    · simp [World.cell?, Array.getElem?_eq_none (Nat.le_of_not_lt hl)] at hc
  rw [World.cell?_of_block (w := w) (w' := w') (a := ⟨b, o, none⟩) (h.block b hlt hb), hc]

theorem lt_of_cell {w : World} {b o : Nat} {v : Value} (hc : w.cell? ⟨b, o, none⟩ = some v) : b < w.heap.size := by
  by_cases hl : b < w.heap.size
  · exact hl
  · simp [World.cell?, Array.getElem?_eq_none (Nat.le_of_not_lt hl)] at hc

theorem RowAt.lt {w : World} {g : Nat} {cs : List Value} {e : TypeId} (h : RowAt w g cs e) : g < w.heap.size := (Array.getElem?_eq_some_iff.1 h).1

theorem RowAt.step {w w' : World} {g n b : Nat} {cs : List Value} {e : TypeId} (h : RowAt w b cs e) (hs : Step w w' g n) (hb : b ≠ g) : RowAt w' b cs e :=
  (hs.block b h.lt hb).trans h

theorem RowAt.cell {w : World} {g : Nat} {cs : List Value} {e : TypeId} (h : RowAt w g cs e) (j : Nat) : w.cell? ⟨g, j, none⟩ = cs[j]? := by
  rw [cell_of_row w g j _ e (0, 0) h]; simp

theorem RowAt.frozen {w : World} {g : Nat} {cs : List Value} {e : TypeId} (h : RowAt w g cs e) (j : Nat) : w.frozen? ⟨g, j, none⟩ = false := frozen_of_row w g j _ e h

theorem RowAt.alloc {w : World} {g : Nat} {cs : List Value} {e : TypeId} (h : RowAt w g cs e) (o : Obj) : RowAt (w.alloc o) g cs e := by
  unfold RowAt; rw [Below.heap_alloc _ _ _ h.lt]; exact h

theorem RowAt.new (w : World) (cs : List Value) (e : TypeId) (g : Nat) (hg : w.heap.size = g) : RowAt (w.alloc (.cells cs.toArray e)) g cs e := by
  subst hg; exact heap_alloc_new w _

theorem RowAt.drewN {w : World} {g : Nat} {cs : List Value} {e : TypeId} (h : RowAt w g cs e) (n : Nat) : RowAt (w.drewN n) g cs e := h

theorem RowAt.below {B : Nat} {w w' : World} {g : Nat} {cs : List Value} {e : TypeId} (h : RowAt w g cs e) (hb : Below B w w') (hg : g < B) : RowAt w' g cs e := (hb.block g hg).trans h

theorem RowAt.set {w : World} {g : Nat} {cs : List Value} {e : TypeId} (h : RowAt w g cs e) (j : Nat) (u : Value) : RowAt (w.setCell ⟨g, j, none⟩ u) g (cs.set j u) e := by
  unfold RowAt
  rw [heap_setCell_same w g j _ e u h]
  simp

theorem RowAt.setOther {w : World} {g : Nat} {cs : List Value} {e : TypeId} (h : RowAt w g cs e) {a : Addr} (ha : g ≠ a.block) (u : Value) : RowAt (w.setCell a u) g cs e := by
  unfold RowAt
  rw [Below.heap_setCell _ _ _ _ ha]; exact h

theorem Step.below {w0 w w' : World} {g n B : Nat} (hb : Below B w0 w) (h : Step w w' g n) (hB : B ≤ g) (hB2 : B ≤ w.heap.size) : Below B w0 w' :=
  hb.trans ⟨h.os, h.tape, h.output, by rw [h.size]; exact h.grow, fun k hk => h.block k (by omega) (by omega)⟩

theorem Below.drewN {B : Nat} {a w : World} (h : Below B a w) (n : Nat) : Below B a (w.drewN n) := ⟨h.os, h.tape, h.output, h.size, h.block⟩

/-- 'make([]T, l, c)'. -/
theorem wpList_make_cap {P : Program} {w : World} {ops : Array Oper} {rest : List Oper} {o : Oper} {a : Act} {Q : Exit → Act → World → Prop}
    (hg : o.guard = none) (l c : Operand) (t : TypeId) (hop : o.op = Op.makeSlice t l c)
    (e : TypeId) (z : Value) (bytes : Nat) (ht : P.underlying t = some (.slice e)) (hi : (P.info? e).map (fun i => (i.zero, i.size, i.bytes)) = some (some z, 1, bytes)) (hz1 : z.cells = #[z])
    (kl kc : IntKind) (L C : Int) (m n : Nat) (hl : a.eval l = .int kl L) (hc : a.eval c = .int kc C) (hL : L = (m : Int)) (hC : C = (n : Int)) (hmn : m ≤ n) (hbytes : bytes * n ≤ 281474976710656) (h63 : n ≤ 9223372036854775807)
    (hK : ∀ w', RowAt w' w.heap.size (List.replicate n z) e → Step w w' w.heap.size (w.heap.size + 1) → wpList P ops Q rest (a.put o.dst (.slice (some ⟨w.heap.size, 0, none⟩) m n)) w') :
    wpList P ops Q (o :: rest) a w := by
  refine wpList_plain hg fun K hK' => ?_
  obtain ⟨i, hi', hzz⟩ := Option.map_eq_some_iff.1 hi
  simp only [Prod.mk.injEq] at hzz
  obtain ⟨hz, hs, hb⟩ := hzz
  have hb' : (i.bytes : Int) * (n : Int) ≤ 281474976710656 := by
    have h : ((i.bytes * n : Nat) : Int) ≤ 281474976710656 := by rw [hb]; omega
    rwa [Int.natCast_mul] at h
  have hrun := run_make (P := P) w t e i z ht hi' hz kl kc m n (by omega) (by omega) hb' (by omega)
  simp only [Int.toNat_natCast, hs, Nat.mul_one, hz1] at hrun
  subst hL
  subst hC
  unfold Oper.wp
  simp [execOp, hop, hl, hc, hrun, Result.andThen]
  refine hK' _ _ (hK _ ?_ ?_)
  · unfold RowAt
    rw [← toList_madeCells_one]
    simpa using heap_alloc_new w _
  · exact ⟨rfl, rfl, rfl, by simp, by omega, fun k hk _ => Below.heap_alloc _ _ _ hk⟩

/-- 'make([]T, n)'. -/
theorem wpList_make_at {P : Program} {w : World} {ops : Array Oper} {rest : List Oper} {o : Oper} {a : Act} {Q : Exit → Act → World → Prop}
    (hg : o.guard = none) (l c : Operand) (t : TypeId) (hop : o.op = Op.makeSlice t l c)
    (e : TypeId) (z : Value) (bytes : Nat) (ht : P.underlying t = some (.slice e)) (hi : (P.info? e).map (fun i => (i.zero, i.size, i.bytes)) = some (some z, 1, bytes)) (hz1 : z.cells = #[z])
    (kl kc : IntKind) (L C : Int) (n : Nat) (hl : a.eval l = .int kl L) (hc : a.eval c = .int kc C) (hL : L = (n : Int)) (hC : C = (n : Int)) (hbytes : bytes * n ≤ 281474976710656) (h63 : n ≤ 9223372036854775807)
    (hK : ∀ w', RowAt w' w.heap.size (List.replicate n z) e → Step w w' w.heap.size (w.heap.size + 1) → wpList P ops Q rest (a.put o.dst (.slice (some ⟨w.heap.size, 0, none⟩) n n)) w') :
    wpList P ops Q (o :: rest) a w :=
  wpList_make_cap hg l c t hop e z bytes ht hi hz1 kl kc L C n n hl hc hL hC (Nat.le_refl _) hbytes h63 hK

/-- The row cur with cs laid over its head. -/
def lay (cur cs : List Value) : List Value := cs ++ cur.drop cs.length

/-- 'copy(dst, src)', dst at the head of a row that is known whole: what it comes to. -/
theorem run_copy_at {P : Program} (w : World) (dT sT ty : TypeId) (elem : TypeId) (hu : P.underlying dT = some (.slice elem)) (hsz : (P.info? elem).map (·.size) = some 1)
    (g dLen dCap sLen sCap : Nat) (sp : Option Addr) (cur : List Value) (t : TypeId) (hg : RowAt w g cur t) (cs : List Value) (hn : cs.length = Nat.min sLen dLen)
    (hpos : 0 < cs.length → ∃ ad, sp = some ad ∧ ∀ j v, cs[j]? = some v → w.cell? (ad.add j) = some v)
    (hfit : cs.length ≤ cur.length) (h1 : ∀ v ∈ cs, v.oneCell' = true) :
    ∃ w', Sem.run P (Builtin.copy_ #[dT, sT] ty #[.slice (some ⟨g, 0, none⟩) dLen dCap, .slice sp sLen sCap]) w = .ok (goInt cs.length) w' ∧ RowAt w' g (lay cur cs) t ∧ Step w w' g w.heap.size := by
  by_cases h0 : cs.length = 0
  · obtain rfl : cs = [] := List.eq_nil_of_length_eq_zero h0
    have hrun := run_copy_none (P := P) w dT sT ty elem (some ⟨g, 0, none⟩) sp dLen dCap sLen sCap hu hsz (by simpa using hn.symm)
    exact ⟨w, hrun, by simpa [lay] using hg, ⟨rfl, rfl, rfl, rfl, Nat.le_refl _, fun _ _ _ => rfl⟩⟩
  · obtain ⟨ad, rfl, hsrc⟩ := hpos (by omega)
    have hrun := run_copy_row (P := P) w dT sT ty elem g 0 dLen dCap ad sLen sCap cur.toArray t cs hu hsz hg hn hsrc (by simpa using hfit) h1
    refine ⟨_, hrun, ?_, ?_⟩
    · unfold RowAt; simpa [lay] using setRow_heap w g _ _ t _ hg
    · exact ⟨rfl, rfl, rfl, by simp [World.setRow], Nat.le_refl _, fun k _ hk => setRow_other w g k _ (by omega)⟩

theorem lay_get (cur cs : List Value) (j : Nat) : (lay cur cs)[j]? = if j < cs.length then cs[j]? else cur[j]? := by
  unfold lay
  rw [List.getElem?_append]
  split
  · rfl
  · rw [List.getElem?_drop]; congr 1; omega

theorem lay_len (cur cs : List Value) (hfit : cs.length ≤ cur.length) : (lay cur cs).length = cur.length := by simp [lay]; omega

theorem ints_one (k : IntKind) (zs : List Int) : ∀ u ∈ zs.map (Value.int k), u.oneCell' = true := by
  intro u hu
  obtain ⟨z, _, rfl⟩ := List.mem_map.1 hu
  rfl


/-- A slice of integers that came in, or was made: its elements Z 0, Z 1, .. -/
def Src (k : IntKind) (w : World) (ao : Option Addr) (len : Nat) (Z : Nat → Int) : Prop :=
  0 < len → ∃ b o, ao = some ⟨b, o, none⟩ ∧ ∀ i, i < len → w.cell? ⟨b, o + i, none⟩ = some (.int k (Z i))

theorem Src.step {k : IntKind} {w w' : World} {ao : Option Addr} {len : Nat} {Z : Nat → Int} (h : Src k w ao len Z) (hb : Below w.heap.size w w') : Src k w' ao len Z := by
  intro hl
  obtain ⟨b, o, rfl, hc⟩ := h hl
  exact ⟨b, o, rfl, fun i hi => (hb.cell (p := ⟨b, o + i, none⟩) (lt_of_cell (hc i hi))).trans (hc i hi)⟩

/-- The first m numbers of Z, as cells. -/
def cellsOf (k : IntKind) (Z : Nat → Int) (m : Nat) : List Value := ((List.range m).map Z).map (Value.int k)
theorem cellsOf_len (k : IntKind) (Z : Nat → Int) (m : Nat) : (cellsOf k Z m).length = m := by simp [cellsOf]
theorem cellsOf_get (k : IntKind) (Z : Nat → Int) (m j : Nat) (h : j < m) : (cellsOf k Z m)[j]? = some (.int k (Z j)) := by simp [cellsOf, h]
theorem cellsOf_one (k : IntKind) (Z : Nat → Int) (m : Nat) : ∀ v ∈ cellsOf k Z m, v.oneCell' = true := ints_one k _

theorem Src.pos {k : IntKind} {w : World} {ao : Option Addr} {len : Nat} {Z : Nat → Int} (h : Src k w ao len Z) (m : Nat) (hm : m ≤ len) :
    0 < (cellsOf k Z m).length → ∃ ad, ao = some ad ∧ ∀ j v, (cellsOf k Z m)[j]? = some v → w.cell? (ad.add j) = some v := by
  intro hp
  rw [cellsOf_len] at hp
  obtain ⟨b, o, rfl, hc⟩ := h (by omega)
  refine ⟨_, rfl, fun j v hj => ?_⟩
  have hjm : j < m := by
    have := (List.getElem?_eq_some_iff.1 hj).1
    rwa [cellsOf_len] at this
  rw [cellsOf_get _ _ _ _ hjm] at hj
  rw [Addr.add_lit, hc j (by omega)]
  exact hj

/-- What a new row of dl zeros holds behind a copy of Z's first sl. -/
def padded (Z : Nat → Int) (sl : Nat) (i : Nat) : Int := if i < sl then Z i else 0
theorem lay_cells (k : IntKind) (Z : Nat → Int) (sl dl m j : Nat) (hm : m = Nat.min sl dl) (hj : j < dl) : (lay (List.replicate dl (.int k 0)) (cellsOf k Z m))[j]? = some (.int k (padded Z sl j)) := by
  rw [lay_get, cellsOf_len, padded]
  by_cases h : j < sl
  · rw [if_pos (by rw [hm]; exact Nat.lt_min.2 ⟨h, hj⟩), if_pos h, cellsOf_get _ _ _ _ (by rw [hm]; exact Nat.lt_min.2 ⟨h, hj⟩)]
  · rw [if_neg (by have := Nat.min_le_left sl dl; rw [hm]; show ¬ j < min sl dl; omega), if_neg h]
    simp [hj]


/-- The row of the first L numbers of F. -/
def rowOf (k : IntKind) (F : Nat → Int) (L : Nat) : List Value := (List.range L).map fun i => .int k (F i)
theorem rowOf_get (k : IntKind) (F : Nat → Int) (L i : Nat) (h : i < L) : (rowOf k F L)[i]? = some (.int k (F i)) := by simp [rowOf, h]
def upd (F : Nat → Int) (j : Nat) (v : Int) (i : Nat) : Int := if i = j then v else F i
theorem rowOf_set (k : IntKind) (F : Nat → Int) (L j : Nat) (v : Int) : (rowOf k F L).set j (.int k v) = rowOf k (upd F j v) L := by
  apply List.ext_getElem?
  intro i
  rw [List.getElem?_set]
  by_cases hi : i < L
  · rw [rowOf_get _ _ _ _ hi, rowOf_get _ _ _ _ hi]
    by_cases h : j = i
    · subst h; simp [rowOf, hi, upd]
    · rw [if_neg h, upd, if_neg (by omega)]
  · simp [rowOf, hi]; omega

theorem rowOf_ext (k : IntKind) (F : Nat → Int) (L : Nat) (cs : List Value) (hl : cs.length = L) (h : ∀ i, i < L → cs[i]? = some (.int k (F i))) : cs = rowOf k F L := by
  apply List.ext_getElem?
  intro i
  by_cases hi : i < L
  · rw [h i hi, rowOf_get _ _ _ _ hi]
  · rw [List.getElem?_eq_none (by omega), List.getElem?_eq_none (by simp [rowOf]; omega)]

/-- What a row F of n numbers holds behind a copy of Z's first sl numbers: F where Z has none. -/
def over (F Z : Nat → Int) (sl : Nat) (i : Nat) : Int := if i < sl then Z i else F i
theorem lay_rowOf (k : IntKind) (F Z : Nat → Int) (sl n : Nat) : lay (rowOf k F n) (cellsOf k Z (Nat.min sl n)) = rowOf k (over F Z sl) n := by
  refine rowOf_ext _ _ _ _ (by rw [lay_len _ _ (by rw [cellsOf_len]; simp [rowOf]; exact Nat.min_le_right _ _)]; simp [rowOf]) fun i hi => ?_
  rw [lay_get, cellsOf_len, over]
  by_cases h : i < sl
  · rw [if_pos (Nat.lt_min.2 ⟨h, hi⟩), if_pos h, cellsOf_get _ _ _ _ (Nat.lt_min.2 ⟨h, hi⟩)]
  · rw [if_neg (by have := Nat.min_le_left sl n; show ¬ i < min sl n; omega), if_neg h, rowOf_get _ _ _ _ hi]
theorem replicate_rowOf (k : IntKind) (n : Nat) (z : Int) : List.replicate n (.int k z) = rowOf k (fun _ => z) n :=
  rowOf_ext _ _ _ _ (by simp) fun i hi => by simp [hi]
theorem rowOf_congr (k : IntKind) (F G : Nat → Int) (n : Nat) (h : ∀ i, i < n → F i = G i) : rowOf k F n = rowOf k G n :=
  rowOf_ext _ _ _ _ (by simp [rowOf]) fun i hi => by rw [rowOf_get _ _ _ _ hi, h i hi]
theorem RowAt.src {k : IntKind} {w : World} {g n : Nat} {F : Nat → Int} {e : TypeId} (h : RowAt w g (rowOf k F n) e) : Src k w (some ⟨g, 0, none⟩) n F := fun _ =>
  ⟨g, 0, rfl, fun i hi => by rw [Nat.zero_add, h.cell, rowOf_get _ _ _ _ hi]⟩
theorem RowAt.int {k : IntKind} {w : World} {g n : Nat} {F : Nat → Int} {e : TypeId} (h : RowAt w g (rowOf k F n) e) (i : Nat) (hi : i < n) : w.cell? ⟨g, i, none⟩ = some (.int k (F i)) := by
  rw [h.cell, rowOf_get _ _ _ _ hi]

/-- 'copy(dst, src)' onto a row of numbers. -/
theorem run_copy_ints {P : Program} (w : World) (dT sT ty elem : TypeId) (hu : P.underlying dT = some (.slice elem)) (hsz : (P.info? elem).map (·.size) = some 1)
    (k : IntKind) (g n cap sLen sCap : Nat) (sp : Option Addr) (F Z : Nat → Int) (hg : RowAt w g (rowOf k F n) elem) (hs : Src k w sp sLen Z) :
    ∃ w', Sem.run P (Builtin.copy_ #[dT, sT] ty #[.slice (some ⟨g, 0, none⟩) n cap, .slice sp sLen sCap]) w = .ok (goInt (cellsOf k Z (Nat.min sLen n)).length) w' ∧ RowAt w' g (rowOf k (over F Z sLen) n) elem ∧ Step w w' g w.heap.size := by
  obtain ⟨w', h1, h2, h3⟩ := run_copy_at (P := P) w dT sT ty elem hu hsz g n cap sLen sCap sp _ elem hg (cellsOf k Z (Nat.min sLen n)) (cellsOf_len _ _ _) (hs.pos _ (Nat.min_le_left _ _)) (by rw [cellsOf_len]; simp [rowOf]; exact Nat.min_le_right _ _) (cellsOf_one _ _ _)
  rw [lay_rowOf] at h2
  exact ⟨w', h1, h2, h3⟩
end Go.Mem
