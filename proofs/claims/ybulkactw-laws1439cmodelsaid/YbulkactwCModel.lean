/-
  LawS1439CModel (6): the walk.
-/
import Derived.Test.YbulkactwMeeting
import Derived.WalkMore
namespace Go.Proofs.Ybulkactw
open Go.RowKit Go.Mem
set_option linter.unusedVariables false

theorem neqNil50 (a : Option Addr) (n c : Nat) (w : World) : (binOp .neq 50 (.slice a n c) (.slice none 0 0)).run Yba.prog w = .ok (.bool (!a.isNone)) w :=
  run_neq_slice_nil_any w 50 59 a n c 0 0 Yba.underlying50

set_option maxHeartbeats 400000 in
theorem cmodel_big (ao : Option Addr) (cap : Nat) (D : List (List E5)) (A : Nat → Option Addr) (C : Nat → Nat) (steps r0 r1 r2 r3 : Int) (w : World) (hV : Lists w ao D A C) (hb : big D = true) :
    Calls Yba.prog 6 #[.int .i64 steps, .int .u64 r0, .int .u64 r1, .int .u64 r2, .int .u64 r3, .slice ao D.length cap] w fun e w' => e = .returned (.bool true) ∧ Below w.heap.size w w' := by
  have h := toobig_any ao cap D A C w hV
  rw [hb] at h
  have H : Hid _ := h
  clear h
  go_enter Yba.func6, Yba.ntmps6
  go_wp2_with fail
  go_step3
  go_wp2_with fail
  refine Calls.mono H.out ?_
  rintro e w1 ⟨rfl, rfl⟩
  go_wp2_with fail
  first | go_ret | (rw [Exit.noGoto_ret]; go_ret)
  exact ⟨rfl, Below.refl _ _⟩

/-- The call of 'meeting' in the law. -/
theorem law_meeting (D : List (List E5)) (A' : Nat → Option Addr) (C' : Nat → Nat) (r : E5) (steps : Int) (B N : Nat) (w1 : World) (hD : D.length = N) (hN : D.length ≤ 256) (hL : ∀ i, i < D.length → (D.getD i []).length ≤ 256)
    (hV1 : Lists w1 (some ⟨B, 0, none⟩) D A' C') :
    Calls Yba.prog 13 #[.pointer (some ⟨w1.heap.size + 1, 0, none⟩), .agg #[.int .u64 r.nh, .int .u64 r.nl, .int .u64 r.mh, .int .u64 r.ml], .slice (some ⟨B, 0, none⟩) N N]
      ((w1.alloc (.cells #[.int .u64 r.nh, .int .u64 r.nl, .int .u64 r.mh, .int .u64 r.ml] 46)).alloc (.cells #[.int .i64 steps] 49))
      fun e w' => ∃ got, e = .returned (.tuple #[got, .int .i64 (run r D steps []).2.1]) ∧ MOut ((w1.alloc (.cells #[.int .u64 r.nh, .int .u64 r.nl, .int .u64 r.mh, .int .u64 r.ml] 46)).alloc (.cells #[.int .i64 steps] 49)) w' (w1.heap.size + 1) got (run r D steps []) := by
  have q := RowAt.new (w1.alloc (.cells #[.int .u64 r.nh, .int .u64 r.nl, .int .u64 r.mh, .int .u64 r.ml] 46)) [Value.int .i64 steps] 49 (w1.heap.size + 1) (by simp)
  have hb : Below w1.heap.size w1 ((w1.alloc (.cells #[.int .u64 r.nh, .int .u64 r.nl, .int .u64 r.mh, .int .u64 r.ml] 46)).alloc (.cells #[.int .i64 steps] 49)) := ((Below.refl _ _).alloc (Nat.le_refl _) _).alloc (by simp) _
  refine meeting_walk (w1.heap.size + 1) N N (some ⟨B, 0, none⟩) D A' C' r steps _ hD (by omega) hL (by simp) (q.cell 0) (q.frozen 0) ?_
  intro wr hk
  have hc : ∀ b o v, w1.cell? ⟨b, o, none⟩ = some v → wr.cell? ⟨b, o, none⟩ = some v := fun b o v h => hk b o v (by have := lt_of_cell h; omega) (cell_below hb h)
  exact ⟨fun hp => by obtain ⟨b, o, e, h⟩ := hV1.outer hp; exact ⟨b, o, e, fun i hi => hc _ _ _ (h i hi)⟩, fun i hi => (hV1.inner i hi).of fun b o v _ h => hc b o v h⟩

/-- What the law's own walk has: w3: the world behind 'meeting'; v owns what it wants. -/
structure LRel (w3 wr : World) (v : Value) (acc : List E5) : Prop where
  below : Below w3.heap.size w3 wr
  own : wr.ownsRow w3.heap.size 59 5 v acc.length (flat acc)
theorem LRel.grow {w3 wr w4 : World} {v : Value} {acc : List E5} (h : LRel w3 wr v acc) (hb : Below wr.heap.size wr w4) : LRel w3 w4 v acc :=
  ⟨h.below.trans (hb.mono h.below.size), ownsRow_below h.own hb⟩
theorem LRel.append {w3 wr w4 : World} {v v' : Value} {acc acc' : List E5} (h : LRel w3 wr v acc) (o : Obj) (hg : (wr.alloc o).grownBy w4 v.ownBlock) (hown : w4.ownsRow w3.heap.size 59 5 v' acc'.length (flat acc')) : LRel w3 w4 v' acc' :=
  ⟨(h.below.alloc h.below.size o).grown hg (by have := h.below.size; simp; omega) (fun k e => (h.own.lt k e).1), hown⟩

theorem after_call56 {wr w1 : World} {t : E5} (bel : Below (wr.alloc (.cells #[.int .u64 t.nh, .int .u64 t.nl, .int .u64 t.mh, .int .u64 t.ml, .int .i64 t.ix] 56)).heap.size (wr.alloc (.cells #[.int .u64 t.nh, .int .u64 t.nl, .int .u64 t.mh, .int .u64 t.ml, .int .i64 t.ix] 56)) w1) :
    SetAt w1 wr.heap.size 0 t ∧ Below wr.heap.size wr w1 := by
  have q := RowAt.new wr [Value.int .u64 t.nh, .int .u64 t.nl, .int .u64 t.mh, .int .u64 t.ml, .int .i64 t.ix] 56 wr.heap.size rfl
  refine ⟨⟨?_, ?_, ?_, ?_, ?_⟩, ((Below.refl _ _).alloc (Nat.le_refl _) _).trans (bel.mono (by simp))⟩
  · exact cell_below bel (q.cell 0)
  · exact cell_below bel (q.cell 1)
  · exact cell_below bel (q.cell 2)
  · exact cell_below bel (q.cell 3)
  · exact cell_below bel (q.cell 4)

set_option maxHeartbeats 2000000 in
theorem cmodel_walk (ao : Option Addr) (cap : Nat) (D : List (List E5)) (A : Nat → Option Addr) (C : Nat → Nat) (r : E5) (steps : Int) (w : World) (hV : Lists w ao D A C) (hb : big D = false) (N : Nat) (hD : D.length = N) :
    Calls Yba.prog 6 #[.int .i64 steps, .int .u64 r.nh, .int .u64 r.nl, .int .u64 r.mh, .int .u64 r.ml, .slice ao N cap] w fun e w' => e = .returned (.bool true) ∧ Below w.heap.size w w' := by
  have h1 := toobig_any ao cap D A C w hV
  rw [hb, hD] at h1
  have H1 : Hid _ := h1
  have h2 := build_any ao cap D A C w hV hb
  rw [hD] at h2
  have H2 : Hid _ := h2
  clear h1 h2
  obtain ⟨hN, hL⟩ := big_no hb
  go_enter Yba.func6, Yba.ntmps6
  go_wp2_with fail
  go_step3
  go_wp2_with fail
  refine Calls.mono H1.out ?_
  rintro e wz ⟨rfl, hwz⟩
  rw [hwz]
  clear hwz wz
  go_wp2_with fail
  refine Calls.mono H2.out ?_
  rintro e w1 ⟨rfl, ⟨A', C', hV1⟩, hb1⟩
  clear H1 H2
  go_wp2_with fail
  refine Calls.mono (law_meeting D A' C' r steps w.heap.size N w1 hD hN hL hV1) ?_
  rintro e w3 ⟨got, rfl, mo⟩
  obtain ⟨⟨Rs, Rc, Rl⟩, hR⟩ : ∃ R, R = run r D steps [] := ⟨_, rfl⟩
  rw [← hR] at mo ⊢
  have HR0 : Hid (run r (D.drop 0) steps [] = (Rs, Rc, Rl)) := show _ = _ by rw [hR]; rfl
  clear hR
  obtain ⟨ga, gc, rfl, hgr⟩ := owns_row mo.own
  have hb3 : Below w.heap.size w w3 := by
    have hW : Below w.heap.size w ((w1.alloc (.cells #[.int .u64 r.nh, .int .u64 r.nl, .int .u64 r.mh, .int .u64 r.ml] 46)).alloc (.cells #[.int .i64 steps] 49)) := (hb1.alloc hb1.size _).alloc (by have := hb1.size; simp; omega) _
    exact hW.trans ⟨mo.os, mo.tape, mo.output, mo.size, fun k hk => mo.frame k (by have := hb1.size; simp; omega) (by have := hb1.size; omega)⟩
  have hst : w3.cell? ⟨w1.heap.size + 1, 0, none⟩ = some (.int .i64 Rs) := mo.steps
  have hnil : Hid (Rc ≠ 0 → Value.slice ga Rl.length gc = .slice none 0 0) := mo.nil
  have hV3 := hV.below hb3
  have hneq := neqNil50
  obtain ⟨i0, hi, hz0, hz1, hz2⟩ := info_parts Yba.info59
  have rel0 : LRel w3 w3 (.slice none 0 0) [] := ⟨Below.refl _ _, World.ownsRow_nil _ _ _ _⟩
  clear mo hV1 hb1 hV hb
  go_wp2_with fail
  go_step3
  go_wp2_with fail
  go_loopw [18, 19, 20, 21] (fun lf wt wc i wr => ∃ (k : Nat) (s : Int) (acc : List E5), k ≤ N ∧ lf = .int .i64 s ∧ wc = .int .i64 0 ∧ i = .int .i64 k ∧ LRel w3 wr wt acc ∧ acc.length ≤ 256 * k ∧ Hid (run r (D.drop k) s acc = (Rs, Rc, Rl))) (fun _ _ _ i _ => N - (intOf i).toNat)
  case atStart => exact ⟨0, steps, [], Nat.zero_le _, rfl, rfl, rfl, rel0, by simp, HR0⟩
  case round =>
    obtain ⟨k, s, acc, hk, rfl, rfl, rfl, rel, hal, HR⟩ := hrel
    clear rel0 HR0
    by_cases hlt : k < N
    · have hLw := hV3.below rel.below
      obtain ⟨b, o, rfl, hc⟩ := hLw.outer (by omega)
      have c1 := hc k (by omega)
      obtain ⟨l, hl⟩ : ∃ l, l = D.getD k [] := ⟨_, rfl⟩
      have hLL := hL k (by omega)
      rw [← hl] at c1 hLL
      have HRo := run_out (r := r) (D := D) (s := s) (acc := acc) (i := k) (by omega)
      have HRc := run_cov (r := r) (D := D) (s := s) (acc := acc) (i := k) (by omega)
      have HRn := fun acc' => run_on (r := r) (D := D) (s := s) (acc := acc) (acc' := acc') (i := k) (by omega)
      rw [← hl] at HRo HRc
      simp only [← hl] at HRn
      rw [HR.out] at HRo HRc
      simp only [HR.out] at HRn
      obtain ⟨L, hLe⟩ : ∃ L, L = l.length := ⟨_, rfl⟩
      rw [← hLe] at c1 hLL HRo HRc
      simp only [← hLe] at HRn
      have b1 : (k : Int) < (N : Int) := by omega
      have HLe : Hid (L = l.length) := hLe
      have HDl : Hid (l = D.getD k []) := hl
      clear hLw hc hl hLe
      by_cases hs : wrap64 (s - (L : Int)) < 0
      · have HF := HRo hs
        simp only [Prod.mk.injEq] at HF
        obtain ⟨rfl, rfl, rfl⟩ := HF
        have hn := hnil.out (by decide)
        simp only [List.length_nil, Value.slice.injEq] at hn
        obtain ⟨rfl, _, rfl⟩ := hn
        have hst' := cell_below rel.below hst
        have hx : (wrap64 (s - (L : Int)) != wrap64 (s - (L : Int))) = false := by simp
        clear HRo HRc HRn HR hnil hst hgr
        go_wp2_with fail
        refine (same_zero none none 0 0 _).mono ?_
        rintro e w9 ⟨rfl, b9⟩
        go_wp2_with fail
        first | go_ret | (rw [Exit.noGoto_ret]; go_ret)
        exact ⟨rfl, (hb3.trans (rel.below.mono hb3.size)).trans (b9.mono (Nat.le_trans hb3.size rel.below.size))⟩
      · have HC : Hid (scan r l acc = none → Rs = wrap64 (s - (L : Int)) ∧ Rc = 1 ∧ Rl = []) := fun h => by have := HRc hs h; simpa only [Prod.mk.injEq] using this
        have HN : Hid (∀ acc', scan r l acc = some acc' → run r (D.drop (k + 1)) (wrap64 (s - (L : Int))) acc' = (Rs, Rc, Rl)) := fun acc' h => (HRn acc' hs h).symm
        have HS0 : Hid (scan r (l.drop 0) acc = scan r l acc) := show _ = _ by rw [List.drop_zero]
        clear HRo HRc HRn HR
        go_wp2_with fail
        go_loopw [19, 20, 22] (fun wt wc j wq => ∃ (m : Nat) (acc' : List E5), m ≤ L ∧ wc = .int .i64 0 ∧ j = .int .i64 m ∧ LRel w3 wq wt acc' ∧ acc'.length ≤ 256 * k + m ∧ Hid (scan r (l.drop m) acc' = scan r l acc)) (fun _ _ j _ => L - (intOf j).toNat)
        case atStart => exact ⟨0, acc, Nat.zero_le _, rfl, rfl, rel, by omega, HS0⟩
        case round =>
          obtain ⟨m, acc', hm, rfl, rfl, inn, hal', HS⟩ := hrel
          clear HS0 rel c1
          have hLw := hV3.below inn.below
          obtain ⟨b', o', eo, hc⟩ := hLw.outer (by omega)
          injection eo with eo
          injection eo with eo1 eo2 eo3
          subst eo1 eo2
          have c1 := hc k (by omega)
          have hrow := hLw.inner k (by omega)
          rw [← HDl.out] at c1 hrow
          rw [← HLe.out] at c1
          clear hLw hc eo3
          by_cases hml : m < L
          · obtain ⟨b2, o2, eA, hse⟩ := hrow (by have := HLe.out; omega)
            have q := hse m (by have := HLe.out; omega)
            have hml' : m < l.length := by have := HLe.out; omega
            obtain ⟨t, ht⟩ : ∃ t, t = l.getD m zeroE := ⟨_, rfl⟩
            have S1 := scan_in (r := r) (l := l) (acc := acc') (k := m) hml'
            have S2 := scan_yes (r := r) (l := l) (acc := acc') (k := m) hml'
            have S3 := scan_no (r := r) (l := l) (acc := acc') (k := m) hml'
            rw [← ht] at q S1 S2 S3
            rw [HS.out] at S1 S2 S3
            obtain ⟨t0, t1, t2, t3, t4⟩ := q
            have b2' : (m : Int) < (L : Int) := by omega
            clear hrow hse ht HS
            rw [eA] at c1
            clear eA
            cases hw : wiB r t
            · cases hme : meB r t
              · have HF : Hid (scan r (l.drop (m + 1)) acc' = scan r l acc) := show _ = _ from (S3 hw hme).symm
                clear S1 S2 S3 HN HC
                go_wp2_with (first
                  | (go_at_call 14; refine (cwithin_any r t _).mono ?_; rintro e w4 ⟨rfl, b4⟩; have ac := after_call56 b4; clear b4; have e0 : w4.cell? ⟨wr.heap.size, 0, none⟩ = some (.int .u64 t.nh) := ac.1.c0; have e1 : w4.cell? ⟨wr.heap.size, 1, none⟩ = some (.int .u64 t.nl) := ac.1.c1; have e2 : w4.cell? ⟨wr.heap.size, 2, none⟩ = some (.int .u64 t.mh) := ac.1.c2; have e3 : w4.cell? ⟨wr.heap.size, 3, none⟩ = some (.int .u64 t.ml) := ac.1.c3; have e4 : w4.cell? ⟨wr.heap.size, 4, none⟩ = some (.int .i64 t.ix) := ac.1.c4)
                  | (go_at_call 15; refine (cmeets_any r t _).mono ?_; rintro e w5 ⟨rfl, b5⟩; have inn5 := (inn.grow ac.2).grow b5; clear b5 inn))
                go_roundw
                case rel => exact ⟨m + 1, acc', by omega, rfl, by go_num, inn5, by omega, HF⟩
                case measure => simp [intOf]; omega
              · have HF : Hid (scan r (l.drop (m + 1)) (acc' ++ [t]) = scan r l acc) := show _ = _ from (S2 hw hme).symm
                have hbd : (acc'.length + 1) * 40 ≤ 140737488355328 := by omega
                clear S1 S2 S3 HN HC
                go_wp2_with (first
                  | (go_at_call 14; refine (cwithin_any r t _).mono ?_; rintro e w4 ⟨rfl, b4⟩; have ac := after_call56 b4; clear b4; have e0 : w4.cell? ⟨wr.heap.size, 0, none⟩ = some (.int .u64 t.nh) := ac.1.c0; have e1 : w4.cell? ⟨wr.heap.size, 1, none⟩ = some (.int .u64 t.nl) := ac.1.c1; have e2 : w4.cell? ⟨wr.heap.size, 2, none⟩ = some (.int .u64 t.mh) := ac.1.c2; have e3 : w4.cell? ⟨wr.heap.size, 3, none⟩ = some (.int .u64 t.ml) := ac.1.c3; have e4 : w4.cell? ⟨wr.heap.size, 4, none⟩ = some (.int .i64 t.ix) := ac.1.c4)
                  | (go_at_call 15; refine (cmeets_any r t _).mono ?_; rintro e w5 ⟨rfl, b5⟩; have inn5 := (inn.grow ac.2).grow b5; have d0 := cell_below b5 e0; have d1 := cell_below b5 e1; have d2 := cell_below b5 e2; have d3 := cell_below b5 e3; have d4 := cell_below b5 e4; clear b5 inn)
                  | (go_at_call 16; refine (cset_any t _).mono ?_; rintro e w6 ⟨rfl, b6⟩; have inn6 := inn5.grow b6; clear b6 inn5)
                  | (at_builtin; refine wpList_append_own _ rfl (.tmp 89) (.tmp 92) 50 rfl w3.heap.size 59 i0 _ 5 40 Yba.underlying50 hi hz0 hz1 hz2 rfl (by decide) _ _ _ rfl (inn6.own.alloc _) ⟨w6.heap.size, 0, none⟩ 1 1 (cell5 t) rfl rfl (news_at _ _) (cell5_one _) (by unfold maxLen; omega) hbd (by have := inn6.below.size; simp; omega) ?_; intro v' w7 hown' hgrow _))
                have hown2 : w7.ownsRow w3.heap.size 59 5 v' (acc' ++ [t]).length (flat (acc' ++ [t])) := by
                  rw [flat_snoc, List.length_append]; exact hown'
                have inn7 := inn6.append _ hgrow hown2
                go_roundw
                case rel => exact ⟨m + 1, acc' ++ [t], by omega, rfl, by go_num, inn7, by simp; omega, HF⟩
                case measure => simp [intOf]; omega
            · obtain ⟨rfl, rfl, rfl⟩ := HC.out (S1 hw)
              have hn := hnil.out (by decide)
              simp only [List.length_nil, Value.slice.injEq] at hn
              obtain ⟨rfl, _, rfl⟩ := hn
              have hx : (wrap64 (s - (L : Int)) != wrap64 (s - (L : Int))) = false := by simp
              clear S1 S2 S3 HN HC hnil hgr
              go_wp2_with (go_at_call 14; refine (cwithin_any r t _).mono ?_; rintro e w4 ⟨rfl, b4⟩; have hst' := cell_below ((inn.below.alloc inn.below.size _).trans (b4.mono (by have := inn.below.size; simp; omega))) hst)
              refine (same_zero none none 0 0 _).mono ?_
              rintro e w9 ⟨rfl, b9⟩
              go_wp2_with fail
              first | go_ret | (rw [Exit.noGoto_ret]; go_ret)
              have bb : Below w.heap.size w w4 := (hb3.trans (inn.below.mono hb3.size)).trans ((after_call56 b4).2.mono (Nat.le_trans hb3.size inn.below.size))
              exact ⟨rfl, bb.trans (b9.mono bb.size)⟩
          · obtain rfl : m = L := by omega
            have HF : Hid (run r (D.drop (k + 1)) (wrap64 (s - (m : Int))) acc' = (Rs, Rc, Rl)) := by
              have h := HS.out
              rw [HLe.out, scan_end] at h
              exact HN.out acc' h.symm
            clear HS HN HC hrow
            go_wp2_with fail
            go_roundw
            case rel => exact ⟨k + 1, _, acc', by omega, rfl, rfl, by go_num, inn, by omega, HF⟩
            case measure => simp [intOf]; omega
    · obtain rfl : k = N := by omega
      have HF := HR.out
      rw [← hD, run_end] at HF
      simp only [Prod.mk.injEq] at HF
      obtain ⟨rfl, rfl, rfl⟩ := HF
      have hst' := cell_below rel.below hst
      have hx : (s != s) = false := by simp
      obtain ⟨wa, wc, hwv, hwr⟩ := owns_row rel.own
      have hgr' := hgr.below rel.below
      have hbb := rel.below
      rw [hwv]
      clear HR hnil hst hgr hwv rel
      go_wp2_with fail
      refine (same_any ga wa gc wc acc (by omega) _ hgr' hwr).mono ?_
      rintro e w9 ⟨rfl, b9⟩
      go_wp2_with fail
      first | go_ret | (rw [Exit.noGoto_ret]; go_ret)
      exact ⟨rfl, (hb3.trans (hbb.mono hb3.size)).trans (b9.mono (Nat.le_trans hb3.size hbb.size))⟩
end Go.Proofs.Ybulkactw
