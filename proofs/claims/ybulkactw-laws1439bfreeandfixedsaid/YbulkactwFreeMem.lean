/-
  More laws on memory for LawS1439BFreeAndFixed: 'append' within the capacity, the appended slice of another slice type; a row of numbers given by a function; the plain facts on 'agr' and on 'x ^ 1'.
-/
import Derived.Test.YbulkactwModel
namespace Go.Mem
open Go.RowKit

/-- 'append(dst, src...)' with room for all of it, dst at the head of a row that is known whole. -/
theorem run_append_at {P : Program} (w : World) (t u ty e eu : TypeId) (ht : P.underlying t = some (.slice e)) (hu : P.underlying u = some (.slice eu)) (hsz : (P.info? e).map (·.size) = some 1)
    (g sLen sCap m c : Nat) (sp : Option Addr) (cur : List Value) (hg : RowAt w g cur e) (cs : List Value) (hn : cs.length = m)
    (hpos : 0 < cs.length → ∃ ad, sp = some ad ∧ ∀ j v, cs[j]? = some v → w.cell? (ad.add j) = some v)
    (hroom : sLen + m ≤ sCap) (hfit : sLen + m ≤ cur.length) (h1 : ∀ v ∈ cs, v.oneCell' = true) :
    ∃ w', Sem.run P (Builtin.append_ #[t, u] ty #[.slice (some ⟨g, 0, none⟩) sLen sCap, .slice sp m c]) w = .ok (.slice (some ⟨g, 0, none⟩) (sLen + m) sCap) w' ∧ RowAt w' g (cur.take sLen ++ (cs ++ cur.drop (sLen + cs.length))) e ∧ Step w w' g w.heap.size := by
  cases hq : P.info? e with
  | none => simp [hq] at hsz
  | some i =>
    have hi : i.size = 1 := by simpa [hq] using hsz
    have hf : (Builtin.firstCells 1 m (.slice sp m c)).run P w = .ok cs.toArray w := by
      by_cases h0 : cs.length = 0
      · obtain rfl : cs = [] := List.eq_nil_of_length_eq_zero h0
        simp at hn
        subst hn
        cases sp with
        | none => simp [Builtin.firstCells]
        | some x => simpa [Builtin.firstCells] using run_loadCells_list (P := P) w x [] (by simp)
      · obtain ⟨ad, rfl, hsrc⟩ := hpos (by omega)
        have := run_loadCells_list (P := P) w ad cs hsrc
        simpa [Builtin.firstCells, hn] using this
    have hst := run_storeCells_at P g sLen e cs 0 cur.toArray w hg (by simp; omega) h1
    simp only [Nat.add_zero] at hst
    refine ⟨w.setRow g (cur.take sLen ++ (cs ++ cur.drop (sLen + cs.length))).toArray, ?_, ?_, ?_⟩
    · simp [Builtin.append_, run_underlying ht, run_underlying hu, sizeOf, typeInfo, hq, hi, Builtin.lenOf, hroom, hf, Addr.add_lit, hst]
    · unfold RowAt; exact setRow_heap w g _ _ e _ hg
    · exact ⟨rfl, rfl, rfl, by simp [World.setRow], Nat.le_refl _, fun k _ hk => setRow_other w g k _ (by omega)⟩

theorem wpList_append_at {P : Program} {w : World} {ops : Array Oper} {rest : List Oper} {o : Oper} {a : Act} {Q : Exit → Act → World → Prop} (hgd : o.guard = none) (s x : Operand) (t u : TypeId)
    (hop : o.op = .call { callee := .builtin .append, args := #[s, x], argTypes := #[t, u] }) (e eu : TypeId) (ht : P.underlying t = some (.slice e)) (hu : P.underlying u = some (.slice eu)) (hsz : (P.info? e).map (·.size) = some 1)
    (g sLen sCap m c : Nat) (sp : Option Addr) (hs : a.eval s = .slice (some ⟨g, 0, none⟩) sLen sCap) (hx : a.eval x = .slice sp m c) (cur : List Value) (hg : RowAt w g cur e) (cs : List Value) (hn : cs.length = m)
    (hpos : 0 < cs.length → ∃ ad, sp = some ad ∧ ∀ j v, cs[j]? = some v → w.cell? (ad.add j) = some v)
    (hroom : sLen + m ≤ sCap) (hfit : sLen + m ≤ cur.length) (h1 : ∀ v ∈ cs, v.oneCell' = true)
    (hK : ∀ w', RowAt w' g (cur.take sLen ++ (cs ++ cur.drop (sLen + cs.length))) e → Step w w' g w.heap.size → wpList P ops Q rest (a.put o.dst (.slice (some ⟨g, 0, none⟩) (sLen + m) sCap)) w') :
    wpList P ops Q (o :: rest) a w := by
  refine wpList_plain hgd fun K hK' => ?_
  obtain ⟨w', hrun, r, st⟩ := run_append_at (P := P) w t u o.type e eu ht hu hsz g sLen sCap m c sp cur hg cs hn hpos hroom hfit h1
  unfold Oper.wp
  simp [execOp, hop, resolve, invoke, builtin, hs, hx, hrun, Result.andThen]
  exact hK' _ _ (hK w' r st)

/-- The row of the first L numbers of F. -/
def rowOf (k : IntKind) (F : Nat → Int) (L : Nat) : List Value := (List.range L).map fun i => .int k (F i)
theorem rowOf_get (k : IntKind) (F : Nat → Int) (L i : Nat) (h : i < L) : (rowOf k F L)[i]? = some (.int k (F i)) := by simp [rowOf, h]
def upd (F : Nat → Int) (j : Nat) (v : Int) (i : Nat) : Int := if i = j then v else F i
theorem rowOf_set (k : IntKind) (F : Nat → Int) (L j : Nat) (v : Int) : (rowOf k F L).set j (.int k v) = rowOf k (upd F j v) L := by
  apply List.ext_getElem?
  intro i
  rw [List.getElem?_set]
  by_cases hi : i < L
  · rw [rowOf_get _ _ _ _ hi, rowOf_get _ _ _ _ hi]
    by_cases h : j = i
    · subst h; simp [rowOf, hi, upd]
    · rw [if_neg h, upd, if_neg (by omega)]
  · simp [rowOf, hi]; omega

theorem rowOf_ext (k : IntKind) (F : Nat → Int) (L : Nat) (cs : List Value) (hl : cs.length = L) (h : ∀ i, i < L → cs[i]? = some (.int k (F i))) : cs = rowOf k F L := by
  apply List.ext_getElem?
  intro i
  by_cases hi : i < L
  · rw [h i hi, rowOf_get _ _ _ _ hi]
  · rw [List.getElem?_eq_none (by omega), List.getElem?_eq_none (by simp [rowOf]; omega)]
end Go.Mem

namespace Go.Proofs.Ybulkactw
open Go.RowKit Go.Mem

theorem agr_all (O S : Nat → Int) (sel : Nat → Bool) : ∀ n p, (∀ i, p ≤ i → i < p + n → sel i = true → O i = S i) → agr O S sel n p = true
  | 0, _, _ => rfl
  | n + 1, p, h => by
    rw [agr_miss]
    · exact agr_all O S sel n (p + 1) (fun i h1 h2 => h i (by omega) (by omega))
    · rintro ⟨h1, h2⟩
      have := h p (Nat.le_refl _) (by omega) h2
      rw [this] at h1
      simp at h1

theorem agr_bad (O S : Nat → Int) (sel : Nat → Bool) (q : Nat) (hq : (O q != S q) = true) (hs : sel q = true) : ∀ n p, p ≤ q → q < p + n → agr O S sel n p = false
  | 0, _, h1, h2 => by omega
  | n + 1, p, h1, h2 => by
    by_cases h : (O p != S p) = true ∧ sel p = true
    · exact agr_hit _ _ _ _ _ h.1 h.2
    · rw [agr_miss _ _ _ _ _ h]
      have : p ≠ q := by rintro rfl; exact h ⟨hq, hs⟩
      exact agr_bad O S sel q hq hs n (p + 1) (by omega) (by omega)

theorem xor_one (x : Int) (h0 : 0 ≤ x) (h1 : x ≤ 4294967295) : (bits BinOp.xor IntKind.u32 x 1 != x) = true := by
  obtain ⟨n, rfl⟩ := Int.eq_ofNat_of_zero_le h0
  have e := u32_xor (n : Int) 1 (by omega) (by omega) (by omega) (by omega)
  simp only [Int.toNat_natCast, Int.toNat_one] at e
  rw [e, bne_iff_ne]
  intro h
  have h' : n ^^^ 1 = n := by omega
  have h2 := congrArg (fun z => z.testBit 0) h'
  simp at h2
  omega
end Go.Proofs.Ybulkactw
