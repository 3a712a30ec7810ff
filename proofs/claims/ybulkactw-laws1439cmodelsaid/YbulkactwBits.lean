/-
  The leaves of LawS1439CModel: addressBits' andNot (22), xor (23), and (24); addressSet's within (20), meets (21); unionWalk.spend (19); the laws' own zzs1439cwithin (14), zzs1439cmeets (15), zzs1439cset (16).
-/
import Derived.Test.YbulkactwRows
import Derived.WalkKit
import Derived.ProofKit
import Derived.Below
import Derived.WalkSpells
import Derived.Deep.RegionHeld3
import Derived.Deep.QuietTactic
import Derived.BigQuiet
namespace Go.Proofs.Ybulkactw
open Go.RowKit
set_option linter.unusedVariables false

/-! ### '==' on addressBits, '!=' on indexedSet -/
set_option maxHeartbeats 1000000 in
theorem eq44 (x y a b : Int) (w : World) : (binOp .eql 44 (.agg #[.int .u64 x, .int .u64 y]) (.agg #[.int .u64 a, .int .u64 b])).run Yba.prog w = .ok (.bool ((x == a) && (y == b))) w := by
  cases h1 : (x == a)
  · simp [go_sem, h1]
  · cases h2 : (y == b)
    · simp [go_sem, h1, h2]
    · simp [go_sem, h1, h2]
set_option maxHeartbeats 2000000 in
theorem ne59 (x0 x1 x2 x3 x4 y0 y1 y2 y3 y4 : Int) (w : World) : (binOp .neq 59 (.agg #[.int .u64 x0, .int .u64 x1, .int .u64 x2, .int .u64 x3, .int .i64 x4]) (.agg #[.int .u64 y0, .int .u64 y1, .int .u64 y2, .int .u64 y3, .int .i64 y4])).run Yba.prog w = .ok (.bool (!((x0 == y0) && (x1 == y1) && (x2 == y2) && (x3 == y3) && (x4 == y4)))) w := by
  cases h0 : (x0 == y0)
  · simp [go_sem, h0]
  · cases h1 : (x1 == y1)
    · simp [go_sem, h0, h1]
    · cases h2 : (x2 == y2)
      · simp [go_sem, h0, h1, h2]
      · cases h3 : (x3 == y3)
        · simp [go_sem, h0, h1, h2, h3]
        · cases h4 : (x4 == y4)
          · simp [go_sem, h0, h1, h2, h3, h4]
          · simp [go_sem, h0, h1, h2, h3, h4]

set_option maxHeartbeats 400000 in
theorem andNot_any (a b c d : Int) (w : World) :
    Calls Yba.prog 22 #[.agg #[.int .u64 a, .int .u64 b], .agg #[.int .u64 c, .int .u64 d]] w fun e w' =>
      e = .returned (.agg #[.int .u64 (bits .andNot .u64 a c), .int .u64 (bits .andNot .u64 b d)]) ∧ ∃ c1 c2 c3 : Array Value, w' = ((w.alloc (.cells c1 44)).alloc (.cells c2 44)).alloc (.cells c3 44) := by
  go_enter Yba.func22, Yba.ntmps22
  go_wp2
  simp [bodyPost, results, Yba.results22, go_sem]
  exact ⟨_, _, _, rfl⟩
set_option maxHeartbeats 400000 in
theorem xor_any (a b c d : Int) (w : World) :
    Calls Yba.prog 23 #[.agg #[.int .u64 a, .int .u64 b], .agg #[.int .u64 c, .int .u64 d]] w fun e w' =>
      e = .returned (.agg #[.int .u64 (bits .xor .u64 a c), .int .u64 (bits .xor .u64 b d)]) ∧ ∃ c1 c2 c3 : Array Value, w' = ((w.alloc (.cells c1 44)).alloc (.cells c2 44)).alloc (.cells c3 44) := by
  go_enter Yba.func23, Yba.ntmps23
  go_wp2
  simp [bodyPost, results, Yba.results23, go_sem]
  exact ⟨_, _, _, rfl⟩
set_option maxHeartbeats 400000 in
theorem and_any (a b c d : Int) (w : World) :
    Calls Yba.prog 24 #[.agg #[.int .u64 a, .int .u64 b], .agg #[.int .u64 c, .int .u64 d]] w fun e w' =>
      e = .returned (.agg #[.int .u64 (bits .and .u64 a c), .int .u64 (bits .and .u64 b d)]) ∧ ∃ c1 c2 c3 : Array Value, w' = ((w.alloc (.cells c1 44)).alloc (.cells c2 44)).alloc (.cells c3 44) := by
  go_enter Yba.func24, Yba.ntmps24
  go_wp2
  simp [bodyPost, results, Yba.results24, go_sem]
  exact ⟨_, _, _, rfl⟩

/-- A set drawn as data: netHi, netLo, maskHi, maskLo, index. -/
structure E5 where
  nh : Int
  nl : Int
  mh : Int
  ml : Int
  ix : Int

/-- t holds every address of r. -/
def wiB (r t : E5) : Bool :=
  ((bits .andNot .u64 t.mh r.mh == 0) && (bits .andNot .u64 t.ml r.ml == 0)) && ((bits .and .u64 (bits .xor .u64 r.nh t.nh) t.mh == 0) && (bits .and .u64 (bits .xor .u64 r.nl t.nl) t.ml == 0))
/-- t and r share an address. -/
def meB (r t : E5) : Bool :=
  (bits .and .u64 (bits .and .u64 (bits .xor .u64 t.nh r.nh) t.mh) r.mh == 0) && (bits .and .u64 (bits .and .u64 (bits .xor .u64 t.nl r.nl) t.ml) r.ml == 0)

set_option maxHeartbeats 1000000 in
theorem meets_any (s t : E5) (w : World) :
    Calls Yba.prog 21 #[.agg #[.int .u64 t.nh, .int .u64 t.nl, .int .u64 t.mh, .int .u64 t.ml], .agg #[.int .u64 s.nh, .int .u64 s.nl, .int .u64 s.mh, .int .u64 s.ml]] w fun e w' =>
      e = .returned (.bool (meB s t)) ∧ Below w.heap.size w w' := by
  obtain ⟨snh, snl, smh, sml, six⟩ := s
  obtain ⟨tnh, tnl, tmh, tml, tix⟩ := t
  have heq := eq44
  go_enter Yba.func21, Yba.ntmps21
  go_wp2
  go_region_held3 (fun w' => w'.cell? ⟨w.heap.size, 0, none⟩ = some (.int .u64 tnh) ∧ w'.cell? ⟨w.heap.size, 1, none⟩ = some (.int .u64 tnl) ∧ w'.cell? ⟨w.heap.size, 2, none⟩ = some (.int .u64 tmh) ∧ w'.cell? ⟨w.heap.size, 3, none⟩ = some (.int .u64 tml) ∧
      w'.cell? ⟨w.heap.size + 1, 0, none⟩ = some (.int .u64 snh) ∧ w'.cell? ⟨w.heap.size + 1, 1, none⟩ = some (.int .u64 snl) ∧ w'.cell? ⟨w.heap.size + 1, 2, none⟩ = some (.int .u64 smh) ∧ w'.cell? ⟨w.heap.size + 1, 3, none⟩ = some (.int .u64 sml)) (simp [go_sem, World.cell?_alloc_past])
    (first
      | (go_at_call 23; refine (xor_any _ _ _ _ _).mono ?_; rintro e w' ⟨rfl, o1, o2, o3, rfl⟩)
      | (go_at_call 24; refine (and_any _ _ _ _ _).mono ?_; rintro e w' ⟨rfl, o1, o2, o3, rfl⟩))
  go_wp2
  go_ret
  refine ⟨rfl, ?_⟩
  repeat (first | exact Below.refl _ _ | refine Below.drew ?_ | refine Below.alloc ?_ (by simp <;> omega) _)

set_option maxHeartbeats 1000000 in
theorem within_yes (s t : E5) (w : World) (h : ((bits .andNot .u64 t.mh s.mh == 0) && (bits .andNot .u64 t.ml s.ml == 0)) = true) :
    Calls Yba.prog 20 #[.agg #[.int .u64 s.nh, .int .u64 s.nl, .int .u64 s.mh, .int .u64 s.ml], .agg #[.int .u64 t.nh, .int .u64 t.nl, .int .u64 t.mh, .int .u64 t.ml]] w fun e w' =>
      e = .returned (.bool (wiB s t)) ∧ Below w.heap.size w w' := by
  unfold wiB
  obtain ⟨snh, snl, smh, sml, six⟩ := s
  obtain ⟨tnh, tnl, tmh, tml, tix⟩ := t
  simp only at h
  rw [h]
  have heq := fun x y w => eq44 x y 0 0 w
  go_enter Yba.func20, Yba.ntmps20
  go_wp2
  go_region_held3 (fun w' => w'.cell? ⟨w.heap.size, 0, none⟩ = some (.int .u64 snh) ∧ w'.cell? ⟨w.heap.size, 1, none⟩ = some (.int .u64 snl) ∧ w'.cell? ⟨w.heap.size, 2, none⟩ = some (.int .u64 smh) ∧ w'.cell? ⟨w.heap.size, 3, none⟩ = some (.int .u64 sml) ∧
      w'.cell? ⟨w.heap.size + 1, 0, none⟩ = some (.int .u64 tnh) ∧ w'.cell? ⟨w.heap.size + 1, 1, none⟩ = some (.int .u64 tnl) ∧ w'.cell? ⟨w.heap.size + 1, 2, none⟩ = some (.int .u64 tmh) ∧ w'.cell? ⟨w.heap.size + 1, 3, none⟩ = some (.int .u64 tml)) (simp [go_sem, World.cell?_alloc_past])
    (first
      | (go_at_call 22; refine (andNot_any _ _ _ _ _).mono ?_; rintro e w' ⟨rfl, o1, o2, o3, rfl⟩)
      | (go_at_call 23; refine (xor_any _ _ _ _ _).mono ?_; rintro e w' ⟨rfl, o1, o2, o3, rfl⟩)
      | (go_at_call 24; refine (and_any _ _ _ _ _).mono ?_; rintro e w' ⟨rfl, o1, o2, o3, rfl⟩))
  go_wp2
  go_ret
  refine ⟨rfl, ?_⟩
  repeat (first | exact Below.refl _ _ | refine Below.drew ?_ | refine Below.alloc ?_ (by simp <;> omega) _)

/-! ### A region that draws its order, whose callees make new blocks and write nothing old: one walk in the order of the text (Derived/Deep/Quiet.lean's theorem at the class 'the world with blocks and draws more') -/
structure More where
  os : List Obj
  n : Nat
def more (W : World) (p : More) : World := { W with heap := W.heap ++ p.os.toArray, drawn := W.drawn + p.n }
theorem more_zero (W : World) (n : Nat) : { W with drawn := W.drawn + n } = more W ⟨[], n⟩ := by simp [more]
theorem more_cell (W : World) (p : More) (b o : Nat) (h : b < W.heap.size) : (more W p).cell? ⟨b, o, none⟩ = W.cell? ⟨b, o, none⟩ := by
  refine World.cell?_of_block (w := W) ?_
  show (W.heap ++ p.os.toArray)[b]? = _
  rw [Array.getElem?_append_left h]
theorem more_alloc (W : World) (p : More) (o : Obj) : (more W p).alloc o = more W ⟨p.os ++ [o], p.n⟩ := by
  rw [← World.alloc_eq]
  simp [more]
theorem more_below (W : World) (p : More) : Below W.heap.size W (more W p) :=
  ⟨rfl, rfl, rfl, by simp [more], fun k hk => by show (W.heap ++ p.os.toArray)[k]? = _; rw [Array.getElem?_append_left hk]⟩
theorem wp_region_more {P : Program} {id : Nat} {Q : Exit → Act → World → Prop} {a : Act} {w : World} {l : List Oper} (hm : P.follows .mixedOrders = true) (hB : Region.lexB .any l.toArray = true)
    (h : wpQuiet P l.toArray (fun w' => ∃ p, w' = more w p) (fun a' => ∀ w', (∃ p, w' = more w p) → Q .normal a' w') l a) : (Code.region id l.toArray true).wp P Q a w :=
  wp_region_quiet (C := fun w' => ∃ p, w' = more w p) hm hB ⟨⟨[], 1⟩, more_zero w 1⟩ (by simpa using h)
theorem andNot_more (a b c d : Int) (W : World) (p : More) :
    Calls Yba.prog 22 #[.agg #[.int .u64 a, .int .u64 b], .agg #[.int .u64 c, .int .u64 d]] (more W p) fun e w' =>
      e = .returned (.agg #[.int .u64 (bits .andNot .u64 a c), .int .u64 (bits .andNot .u64 b d)]) ∧ ∃ p, w' = more W p := by
  refine (andNot_any a b c d _).mono ?_
  rintro e w' ⟨rfl, c1, c2, c3, rfl⟩
  exact ⟨rfl, _, by rw [more_alloc, more_alloc, more_alloc]⟩

set_option maxHeartbeats 1000000 in
theorem within_no (s t : E5) (w : World) (h : ((bits .andNot .u64 t.mh s.mh == 0) && (bits .andNot .u64 t.ml s.ml == 0)) = false) :
    Calls Yba.prog 20 #[.agg #[.int .u64 s.nh, .int .u64 s.nl, .int .u64 s.mh, .int .u64 s.ml], .agg #[.int .u64 t.nh, .int .u64 t.nl, .int .u64 t.mh, .int .u64 t.ml]] w fun e w' =>
      e = .returned (.bool (wiB s t)) ∧ Below w.heap.size w w' := by
  unfold wiB
  obtain ⟨snh, snl, smh, sml, six⟩ := s
  obtain ⟨tnh, tnl, tmh, tml, tix⟩ := t
  simp only at h
  rw [h]
  have heq := fun w => eq44 (bits .andNot .u64 tmh smh) (bits .andNot .u64 tml sml) 0 0 w
  rw [h] at heq
  clear h
  go_enter Yba.func20, Yba.ntmps20
  go_wp2
  obtain ⟨W, hW⟩ : ∃ W, W = (w.alloc (.cells #[.int .u64 snh, .int .u64 snl, .int .u64 smh, .int .u64 sml] 46)).alloc (.cells #[.int .u64 tnh, .int .u64 tnl, .int .u64 tmh, .int .u64 tml] 46) := ⟨_, rfl⟩
  have hb : Below w.heap.size w W := by rw [hW]; exact ((Below.refl _ _).alloc (Nat.le_refl _) _).alloc (by simp) _
  have hz : W.heap.size = w.heap.size + 2 := by rw [hW]; simp
  have k0 : ∀ p, (more W p).cell? ⟨w.heap.size, 2, none⟩ = some (.int .u64 smh) := fun p => by rw [more_cell _ _ _ _ (by omega), hW]; simp [go_sem, World.cell?_alloc_past]
  have k1 : ∀ p, (more W p).cell? ⟨w.heap.size, 3, none⟩ = some (.int .u64 sml) := fun p => by rw [more_cell _ _ _ _ (by omega), hW]; simp [go_sem, World.cell?_alloc_past]
  have k2 : ∀ p, (more W p).cell? ⟨w.heap.size + 1, 2, none⟩ = some (.int .u64 tmh) := fun p => by rw [more_cell _ _ _ _ (by omega), hW]; simp [go_sem]
  have k3 : ∀ p, (more W p).cell? ⟨w.heap.size + 1, 3, none⟩ = some (.int .u64 tml) := fun p => by rw [more_cell _ _ _ _ (by omega), hW]; simp [go_sem]
  rw [← hW]
  clear hW hz
  have hne : Nonempty More := ⟨⟨[], 0⟩⟩
  refine wp_region_more (by kernel_rfl) (by kernel_rfl) ?_
  repeat (go_big_quiet_step (exact andNot_more tmh tml smh sml W _))
  refine wpQuiet_nil ?_
  rintro w' ⟨p, rfl⟩
  go_wp2
  go_ret
  exact ⟨rfl, hb.trans ((more_below W p).mono hb.size)⟩

theorem within_any (s t : E5) (w : World) :
    Calls Yba.prog 20 #[.agg #[.int .u64 s.nh, .int .u64 s.nl, .int .u64 s.mh, .int .u64 s.ml], .agg #[.int .u64 t.nh, .int .u64 t.nl, .int .u64 t.mh, .int .u64 t.ml]] w fun e w' =>
      e = .returned (.bool (wiB s t)) ∧ Below w.heap.size w w' := by
  cases h : ((bits .andNot .u64 t.mh s.mh == 0) && (bits .andNot .u64 t.ml s.ml == 0))
  · exact within_no s t w h
  · exact within_yes s t w h

set_option maxHeartbeats 400000 in
theorem spend_any (bw n : Nat) (s : Int) (w : World) (h : w.cell? ⟨bw, 0, none⟩ = some (.int .i64 s)) (hf : w.frozen? ⟨bw, 0, none⟩ = false) :
    Calls Yba.prog 19 #[.pointer (some ⟨bw, 0, none⟩), .int .i64 (n : Int)] w fun e w' => e = .returned (.bool (decide (0 ≤ wrap64 (s - (n : Int))))) ∧ w' = w.setCell ⟨bw, 0, none⟩ (.int .i64 (wrap64 (s - (n : Int)))) := by
  go_enter Yba.func19, Yba.ntmps19
  go_wp2
  go_ret
  exact ⟨rfl, rfl⟩

set_option maxHeartbeats 400000 in
theorem cset_any (t : E5) (w : World) :
    Calls Yba.prog 16 #[.agg #[.int .u64 t.nh, .int .u64 t.nl, .int .u64 t.mh, .int .u64 t.ml, .int .i64 t.ix]] w fun e w' =>
      e = .returned (.agg #[.int .u64 t.nh, .int .u64 t.nl, .int .u64 t.mh, .int .u64 t.ml, .int .i64 t.ix]) ∧ Below w.heap.size w w' := by
  go_enter Yba.func16, Yba.ntmps16
  go_wp2
  simp [bodyPost, results, Yba.results16, go_sem]
  repeat (first | exact Below.refl _ _ | refine Below.drew ?_ | refine Below.alloc ?_ (by simp <;> omega) _)

theorem bits_xor_comm (x y : Int) : bits .xor .u64 x y = bits .xor .u64 y x := by
  unfold bits
  simp only [BitVec.xor_comm]

set_option maxHeartbeats 400000 in
theorem cmeets_any (r t : E5) (w : World) :
    Calls Yba.prog 15 #[.int .u64 r.nh, .int .u64 r.nl, .int .u64 r.mh, .int .u64 r.ml, .agg #[.int .u64 t.nh, .int .u64 t.nl, .int .u64 t.mh, .int .u64 t.ml, .int .i64 t.ix]] w fun e w' =>
      e = .returned (.bool (meB r t)) ∧ Below w.heap.size w w' := by
  unfold meB
  rw [bits_xor_comm t.nh, bits_xor_comm t.nl]
  cases h1 : (bits .and .u64 (bits .and .u64 (bits .xor .u64 r.nh t.nh) t.mh) r.mh == 0)
  · go_enter Yba.func15, Yba.ntmps15
    go_wp2
    go_ret
    exact ⟨rfl, (Below.refl _ _).alloc (Nat.le_refl _) _⟩
  · go_enter Yba.func15, Yba.ntmps15
    go_wp2
    go_ret
    exact ⟨rfl, (Below.refl _ _).alloc (Nat.le_refl _) _⟩

set_option maxHeartbeats 400000 in
theorem cwithin_any (r t : E5) (w : World) :
    Calls Yba.prog 14 #[.int .u64 r.nh, .int .u64 r.nl, .int .u64 r.mh, .int .u64 r.ml, .agg #[.int .u64 t.nh, .int .u64 t.nl, .int .u64 t.mh, .int .u64 t.ml, .int .i64 t.ix]] w fun e w' =>
      e = .returned (.bool (wiB r t)) ∧ Below w.heap.size w w' := by
  unfold wiB
  cases h1 : (bits .andNot .u64 t.mh r.mh == 0)
  · have g1 : (bits .andNot .u64 t.mh r.mh != 0) = true := by rw [bne, h1]; rfl
    go_enter Yba.func14, Yba.ntmps14
    go_wp2
    go_ret
    exact ⟨rfl, (Below.refl _ _).alloc (Nat.le_refl _) _⟩
  · have g1 : (bits .andNot .u64 t.mh r.mh != 0) = false := by rw [bne, h1]; rfl
    cases h2 : (bits .andNot .u64 t.ml r.ml == 0)
    · have g2 : (bits .andNot .u64 t.ml r.ml != 0) = true := by rw [bne, h2]; rfl
      go_enter Yba.func14, Yba.ntmps14
      go_wp2
      go_ret
      exact ⟨rfl, (Below.refl _ _).alloc (Nat.le_refl _) _⟩
    · have g2 : (bits .andNot .u64 t.ml r.ml != 0) = false := by rw [bne, h2]; rfl
      cases h3 : (bits .and .u64 (bits .xor .u64 r.nh t.nh) t.mh == 0)
      · go_enter Yba.func14, Yba.ntmps14
        go_wp2
        go_ret
        exact ⟨rfl, (Below.refl _ _).alloc (Nat.le_refl _) _⟩
      · go_enter Yba.func14, Yba.ntmps14
        go_wp2
        go_ret
        exact ⟨rfl, (Below.refl _ _).alloc (Nat.le_refl _) _⟩
end Go.Proofs.Ybulkactw
