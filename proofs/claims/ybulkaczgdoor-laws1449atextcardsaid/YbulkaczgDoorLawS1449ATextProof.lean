/-
  'Rows.LawS1449ATextSaid' proved, and out of it the tied card 'Rows.LawS1449ATextCardSaid': the walks: YbulkaczgDoorText.lean; the ties are the given ones (YbulkaczgDoorTie.lean).
-/
import Derived.Test.YbulkaczgDoorRows
import Derived.Test.YbulkaczgDoorTie
import Derived.Test.YbulkaczgDoorCards
import Derived.Test.YbulkaczgDoorText
import Derived.ProofKit
import Derived.LaidMore
import Derived.OpenShut
import Derived.Stop.Joined
import Derived.SliceStrings
import Derived.SizedLaws
import Derived.Lib.LaidTab
import Derived.WalkSmall
import Derived.SevenTiedAt
namespace Go.Proofs.YbulkaczgDoor.lawS1449AText
open Go.ChangeShapes Go.WideShapes Go.ChangeAt Go.WideMaps Go.WideElems Go.RowKit
set_option linter.unusedVariables false

theorem own : ownKnob Ybad.prog.godebug = none := by kernel_rfl
theorem laidOut : laidOutB Ybad.prog = true := by kernel_rfl
theorem cells9 : Ybad.prog.cellsOf 9 = 1 := by kernel_rfl

/-- What the row lists. -/
def laid3 : List (String × DataW Unit) := Rows.lawS1449ATextRow.laid

theorem gTab : Ybad.prog.globalNamed Ybad.tabName = some 0 := by kernel_rfl
theorem tTab : (Ybad.prog.globals[0]?).map (·.type) = some 38 := by kernel_rfl
theorem cells28 : Ybad.prog.cellsOf 28 = 1 := by kernel_rfl
theorem cells38 : Ybad.prog.cellsOf 38 = 20 := by kernel_rfl
theorem tabEq : (Rows.laid_internal_strconv_uint64pow10 : DataW Unit) = Lib.tabData .u64 Lib.pow10Tab := by kernel_rfl

/-- The door's own heap meets the condition. -/
theorem door_met (os : Os) (args : Array Value) : laidMetH Ybad.prog laid3 ((World.doorLaid Ybad.prog 400 os).forCall (fun _ _ => 0) ⟨#[], args, []⟩).memory :=
  laidMetH_of_parts3 (fuel := 8) (laidMet_of_run' 8 (by kernel_rfl) (by kernel_rfl)) (by kernel_rfl) (by kernel_rfl)

/-- What the condition gives the walk: the table of the powers of ten. -/
theorem of_laid {W : World} (h : laidMetH Ybad.prog laid3 W) : Lib.TabIs Ybad.prog W Ybad.tabName .u64 Lib.pow10Tab := by
  rw [MakeChecks.laidMetH_plain _ _ _ (by kernel_rfl)] at h
  obtain ⟨ps, ⟨g0, t0, cs0, f0, p0, q0, hg0, ht0, hv0, hd0, ⟨g1, t1, cs1, f1, p1, q1, hg1, ht1, hv1, hd1, ⟨g2, t2, cs2, f2, p2, q2, hg2, ht2, hv2, hd2, _, _⟩, _⟩, _⟩, _, _⟩ := h
  obtain rfl := Option.some.inj (gTab.symm.trans hg2)
  obtain rfl := Option.some.inj (tTab.symm.trans ht2)
  rw [tabEq] at hd2
  have hc := Lib.cells_of_tab Ybad.underlying38 Ybad.underlying28 cells28 cells38 hd2
  unfold Lib.TabIs
  exact hv2.trans (by rw [← hc])

theorem tab_below {W W' : World} (h : Lib.TabIs Ybad.prog W Ybad.tabName .u64 Lib.pow10Tab) (hb : Below W.heap.size W W') : Lib.TabIs Ybad.prog W' Ybad.tabName .u64 Lib.pow10Tab := by
  have hc := h.cell gTab 0 (by rw [Lib.pow10Tab_length]; omega)
  exact var?_below hb gTab (lt_of_cell hc) h

theorem weightsAll_mem {H : Type} {P : Program} {e : TypeId} : ∀ {l : List (DataW H)} {d : DataW H}, d ∈ l → ∀ n ∈ d.weights P e, n ∈ DataW.weightsAll P e l
  | d' :: r, d, hd, n, hn => by
    simp only [DataW.weightsAll, List.mem_append]
    rcases List.mem_cons.1 hd with rfl | h
    · exact Or.inl hn
    · exact Or.inr (weightsAll_mem h n hn)

/-- The form's own reach, of a string inside a slice. -/
theorem sized_inner_string {H : Type} {P : Program} {ts : List TypeId} {ds : List (DataW H)} (h : (DataW.weightsEach P ts ds).all (· ≤ reachBytes) = true) {j : Nat} {t e : TypeId} {elems spare : List (DataW H)} {bytes : List UInt8}
    (ht : ts[j]? = some t) (hd : ds[j]? = some (.slice elems spare)) (hu : P.underlying t = some (.slice e)) (hx : DataW.lit (.string bytes) ∈ elems) : bytes.length ≤ reachBytes := by
  refine of_decide_eq_true (List.all_eq_true.1 h _ (DataW.weights_mem_each ht hd _ ?_))
  simp only [DataW.weights, hu, List.mem_cons, List.mem_append]
  exact Or.inr (Or.inl (weightsAll_mem hx _ (by simp [DataW.weights])))

theorem walk (c : Int) (ao : Option Addr) (n cap : Nat) (L : Nat → ByteArray) (w : World) (h0 : -9223372036854775808 ≤ c) (h1 : c ≤ 9223372036854775807) (hr : StrRow w ao n L) (hL : ∀ i, i < n → (L i).size ≤ 140737488355328)
    (htab : Lib.TabIs Ybad.prog w Ybad.tabName .u64 Lib.pow10Tab) :
    Calls Ybad.prog 3 #[.int .i64 c, .slice ao n cap] w fun e w' => e = .returned (.bool true) ∧ Below w.heap.size w w' := by
  by_cases hn : 1024 < n
  · exact law_big c ao n cap w hn
  · exact law_walk c ao n cap L w h0 h1 (by omega) hr hL (fun w' hb => tab_below htab hb)

set_option maxRecDepth 100000 in
theorem lifted (os : Os) (started : os.Started) (H : Type) (enc : TypeId × Value → H) :
    ReturnsInHanded {} Ybad.checked os 3 .any (fun w args => (Rows.lawS1449ATextSpec.pre enc Ybad.prog Ybad.f3 [] false w args ∧ laidMetH Ybad.prog laid3 w) ∧ sizedMet enc Ybad.prog Ybad.f3 (OpenSpec.ofChange Rows.lawS1449ATextSpec) false w args)
      (Rows.lawS1449ATextSpec.post enc Ybad.prog Ybad.f3 false true false false) := by
  refine returnsInHanded_of_change_and (C := Ybad.checked) (X := fun w _ => laidMetH Ybad.prog laid3 w) (fun _ _ _ hh h => h.of_heap hh) own started (by kernel_rfl) Ybad.func3
    (ChangeSpec.witness_shaped (enc := enc) (C := Ybad.checked) (os := os) (X := fun w _ => laidMetH Ybad.prog laid3 w) false (World.doorLaid Ybad.prog 400 os) #[.int .i64 0, .slice none 0 0] 8 rfl (World.shaped_of_RefB (by kernel_rfl) (by kernel_rfl)) (by kernel_rfl) (by kernel_rfl) (by kernel_rfl) (door_met os _)) ?_
  intro W base args ds gs before hval0 hW _ hsz0 hLd _
  have hsz : (DataW.weightsEach Ybad.prog (Ybad.f3.params.toList ++ Rows.lawS1449ATextSpec.plain.varTypes Ybad.prog) (ds ++ gs)).all (· ≤ reachBytes) = true := hsz0
  clear hsz0
  have hval : ∀ (j : Nat) t v, Ybad.f3.params[j]? = some t → args[j]? = some v → Value.okWide Ybad.prog W .any base t v := hval0
  have hW' := hW
  obtain ⟨p, q, hA0, hV, rfl, hfz, hnd⟩ := hW
  have hA : DataW.TrodAll enc Ybad.prog W 0 (fun _ => true) true Ybad.f3.params.toList args.toList ds p := hA0
  rw [Ybad.params3] at hA hval hsz
  obtain ⟨v0, v1, d0, d1, p0, p1, rfl, rfl, rfl, h0, h1⟩ := trodAll_two hA
  obtain ⟨rfl, rfl⟩ := trodVars_none hV
  obtain ⟨c, rfl, rfl, rfl, wc⟩ := open_int Ybad.underlying3 (hval 0 3 v0 rfl rfl) h0
  have bc := bounds_i64 wc
  obtain ⟨ao, len, cap, rfl⟩ := okWide_slice Ybad.underlying22 (hval 1 22 v1 rfl rfl)
  have k1 := h1
  have lt1 : ∀ x ∈ p1, x.block < W.heap.size := by obtain ⟨m, hm⟩ := k1; exact DataW.trod_lt m _ _ _ hm
  obtain ⟨L, hrow, hlim⟩ : ∃ L : Nat → ByteArray, StrRow W ao len L ∧ ∀ i, i < len → (L i).size ≤ 140737488355328 := by
    obtain ⟨fuel, hf⟩ := h1
    rcases open_strings Ybad.underlying22 Ybad.underlying9 cells9 hf with ⟨hcs, _⟩ | ⟨x, l, cc, ss, hcs, _, hl, hm, hz, hx, hcell, hws⟩
    · simp [Value.cells] at hcs
      obtain ⟨rfl, rfl, rfl⟩ := hcs
      exact ⟨fun _ => ByteArray.empty, fun hp => by omega, fun i hi => by omega⟩
    · simp [Value.cells] at hcs
      obtain ⟨rfl, rfl, rfl⟩ := hcs
      have hlen : len ≤ ss.length := by rw [hz]; split <;> omega
      refine ⟨fun i => ss.getD i ByteArray.empty, fun hp => ?_, fun i hi => ?_⟩
      · obtain ⟨b, o, spot⟩ := x
        have hspot : spot = none := by
          have := World.cell?_spot (hcell 0 (by omega))
          simpa [Addr.add] using this
        subst hspot
        exact ⟨b, o, rfl, fun i hi => by have := hcell i (by omega); rwa [Addr.add_lit] at this⟩
      · simp only [Prod.mk.injEq] at hx
        obtain ⟨hd, _⟩ := hx
        have hmem : (DataW.lit (.string (ss.getD i ByteArray.empty).data.toList) : DataW H) ∈ strs (ss.take len) := by
          unfold strs
          refine List.mem_map.2 ⟨ss.getD i ByteArray.empty, ?_, rfl⟩
          rw [List.getD_eq_getElem?_getD, List.getElem?_eq_getElem (by omega)]
          exact List.mem_take_iff_getElem.2 ⟨i, by omega, rfl⟩
        have := sized_inner_string hsz (j := 1) (t := 22) (e := 9) rfl (by rw [hd]; rfl) Ybad.underlying22 hmem
        have e : (ss.getD i ByteArray.empty).size = (ss.getD i ByteArray.empty).data.toList.length := (Array.length_toList).symm
        rw [e]
        exact Nat.le_trans this (by decide)
  clear hA0 hval0
  refine (walk c ao len cap L W bc.1 bc.2 hrow hlim (of_laid hLd)).mono fun e W' ⟨he, bel⟩ => ?_
  subst he
  exact ⟨_, rfl, _, _, _, [], _, [], hW', trodAll_mk1 (shut_bool Ybad.underlying4 _), trodAll_mk2 (shut_int Ybad.underlying3 wc) (Below.trod laidOut (by kernel_rfl) (of_decide_eq_true (by kernel_rfl)) k1 bel lt1), rfl, bel.frame _, fun h => by cases h⟩

theorem row_holds : Rows.LawS1449ATextSaid :=
  OpenClaim.holds_of_wide 3 Ybad.f3 rfl rfl rfl rfl rfl rfl rfl ⟨rfl, rfl, rfl, rfl, rfl⟩ rfl rfl rfl rfl rfl (by kernel_rfl) Ybad.func3 (by kernel_rfl)
    (of_decide_eq_true (by kernel_rfl)) (by unfold Func.isWrapper; first | (rw [if_pos (by decide +kernel)]; kernel_rfl) | (rw [if_neg (by decide +kernel)]; exact ⟨rfl, rfl⟩))
    (fun os started H enc _ => lifted os started H enc)

/-- THE TIED CARD -/
theorem proved : Rows.LawS1449ATextCardSaid :=
  Claim7.holds_tied_plain_at .later [] [.data, .data, .data] true (true, "a56a0de2a8b05d62a7b4297cedeaff14ffe75ee84e06cf9e600632efc6b1996f") false
    row_holds (fun _ h => by cases h) (by kernel_rfl) (fun _ h => by cases h) lawS1449AText_row_tie rfl ⟨rfl, rfl⟩ (by kernel_rfl) rfl
    (fun f fn hf hfn => by
      obtain rfl : f = 3 := Option.some.inj ((show Ybad.prog.funcNamed Rows.lawS1449ATextRow.func = some 3 by kernel_rfl).symm.trans hf) |>.symm
      obtain rfl : fn = Ybad.f3 := (Option.some.inj (Ybad.func3.symm.trans hfn)).symm
      exact ⟨by kernel_rfl, fun j t ht => by
        rw [Ybad.params3] at ht
        have hm : t ∈ [3, 22] := by simpa using Array.mem_of_getElem? ht
        have hall : ([3, 22].all fun u => !Ybad.prog.wantsStandIn u) = true := by kernel_rfl
        exact (show Ybad.prog.wantsStandIn t = false by simpa using List.all_eq_true.1 hall t hm)⟩)
    (by kernel_rfl)
#print axioms proved
end Go.Proofs.YbulkaczgDoor.lawS1449AText
