/-
  THE TWO ROWS OF THE SEAT, PROVED: the listed table and map are opened; the walks of YbulkdfzsDoorLaws; the witness starts in the heap that the door's own run leaves.
-/
import Derived.Test.YbulkdfzsDoorRows
import Derived.Test.YbulkdfzsDoorLaws
import Derived.ProofKit
import Derived.LaidMore
import Derived.OpenShut
import Derived.OpenVars
import Derived.ShutString
import Derived.Stop.Joined
namespace Go.Proofs.YbulkdfzsDoor
open Go.ChangeShapes Go.WideShapes Go.ChangeAt Go.WideMaps Go.WideElems Go.RowKit
open Go.ChangeMaps (open_string shut_string)
set_option linter.unusedVariables false
set_option linter.unusedSimpArgs false

theorem own : ownKnob Ybad.prog.godebug = none := by kernel_rfl
theorem laidOut : laidOutB Ybad.prog = true := by kernel_rfl
theorem gMap : Ybad.prog.globalNamed (Rows.lawS5361CTableSpec.vars.getD 0 "") = some 0 := by kernel_rfl
theorem gTab : Ybad.prog.globalNamed (Rows.lawS5361CTableSpec.vars.getD 1 "") = some 1 := by kernel_rfl
theorem tMap : (Ybad.prog.globals[0]?).map (·.type) = some 30 := by kernel_rfl
theorem tTab : (Ybad.prog.globals[1]?).map (·.type) = some 31 := by kernel_rfl
theorem law : KeyLaw Ybad.prog 9 := string_law Ybad.underlying9
theorem cells9 : Ybad.prog.cellsOf 9 = 1 := by kernel_rfl

/-- The door's own heap meets the condition: three closed facts. -/
theorem door_met (os : Os) (args : Array Value) : laidMetH Ybad.prog Rows.lawS5361CTableRow.laid ((World.doorLaid Ybad.prog 400 os).forCall (fun _ _ => 0) ⟨#[], args, []⟩).memory :=
  laidMetH_of_parts3 (fuel := 8) (laidMet_of_run' 8 (by kernel_rfl) (by kernel_rfl)) (by kernel_rfl) (by kernel_rfl)

theorem var_lt {n : String} {g : Nat} {W : World} {cs : Array Value} (hg : Ybad.prog.globalNamed n = some g) (hv : W.var? Ybad.prog n = some cs) : g < W.heap.size := by
  simp only [World.var?, hg, Option.bind_some] at hv
  rcases Nat.lt_or_ge g W.heap.size with h | h
  · exact h
  · simp [Array.getElem?_eq_none h] at hv

/-- The map of aliases as it is listed. -/
def aliD : DataW Unit := (Rows.lawS5361CTableRow.laid.getD 1 ("", .nil)).2
theorem atKey_ali (l : List UInt8) : aliD.atKey (.string l) .nil = if (T.ali l).2 = true then .lit (.int .u32 (T.ali l).1) else .nil := by
  have e : aliD = .map [(.string [98, 121, 116, 101], .lit (.int .u32 7)), (.string [102, 108, 111, 97, 116], .lit (.int .u32 12)), (.string [105, 110, 116], .lit (.int .u32 6)), (.string [115, 116, 114, 105, 110, 103], .lit (.int .u32 13)), (.string [117, 105, 110, 116], .lit (.int .u32 10))] := rfl
  rw [e]
  by_cases h0 : l = [98, 121, 116, 101]
  · subst h0; rfl
  by_cases h1 : l = [102, 108, 111, 97, 116]
  · subst h1; rfl
  by_cases h2 : l = [105, 110, 116]
  · subst h2; rfl
  by_cases h3 : l = [115, 116, 114, 105, 110, 103]
  · subst h3; rfl
  by_cases h4 : l = [117, 105, 110, 116]
  · subst h4; rfl
  have ea : T.ali l = (0, false) := by unfold T.ali; simp only [h0, h1, h2, h3, h4, if_false]
  rw [ea]
  simp [DataW.atKey, Lit.sameKey, Ne.symm h0, Ne.symm h1, Ne.symm h2, Ne.symm h3, Ne.symm h4]
theorem ali_no {l : List UInt8} (h : (DataW.nil : DataW Unit) = if (T.ali l).2 = true then .lit (.int .u32 (T.ali l).1) else .nil) : (T.ali l).1 = 0 ∧ (T.ali l).2 = false := by
  unfold T.ali at h ⊢
  repeat' split
  all_goals first | exact ⟨rfl, rfl⟩ | (simp_all)
theorem ali_yes {l : List UInt8} {r : Int} (h : (DataW.lit (.int .u32 r) : DataW Unit) = if (T.ali l).2 = true then .lit (.int .u32 (T.ali l).1) else .nil) : (T.ali l).1 = r ∧ (T.ali l).2 = true := by
  by_cases hb : (T.ali l).2 = true
  · rw [if_pos hb] at h
    injection h with h
    injection h with _ h
    exact ⟨h.symm, hb⟩
  · rw [if_neg hb] at h
    cases h

/-- WHAT THE CONDITION GIVES THE WALKS, in every world in which nothing that was there has turned. -/
theorem of_laid {W : World} (h : laidMetH Ybad.prog Rows.lawS5361CTableRow.laid W) (w' : World) (hb : Below W.heap.size W w') : T.Tabs w' := by
  rw [MakeChecks.laidMetH_plain _ _ _ (by kernel_rfl)] at h
  obtain ⟨ps, ⟨g1, t1, cs1, f1, p1, q1, hg1, ht1, hv1, hd1, ⟨g0, t0, cs0, f0, p0, q0, hg0, ht0, hv0, hd0, _, _⟩, _⟩, _, _⟩ := h
  obtain rfl := Option.some.inj (gMap.symm.trans hg0)
  obtain rfl := Option.some.inj (gTab.symm.trans hg1)
  obtain rfl := Option.some.inj (tMap.symm.trans ht0)
  obtain rfl := Option.some.inj (tTab.symm.trans ht1)
  have hl0 : 0 < W.heap.size := var_lt hg0 hv0
  have hl1 : 1 < W.heap.size := var_lt hg1 hv1
  refine ⟨fun k hk => ?_, ?_⟩
  · obtain ⟨xs, m1, rfl, hx1, hlen, hn, hel⟩ := DataW.trod_array Ybad.underlying31 hd1
    have hD : (Rows.laid_example_com_kindred_kindred_scalarNames : DataW Unit) = .agg ((List.range 16).map fun k => .lit (.string (T.nm k))) := rfl
    have hx2 := congrArg Prod.fst hx1
    rw [hD] at hx2
    simp only [DataW.agg.injEq] at hx2
    have h := hel k hk
    rw [cells9, Nat.mul_one] at h
    have hkx : k < xs.length := by omega
    rw [List.getElem?_eq_getElem hkx] at h
    obtain ⟨s, e1, e2, _⟩ := DataW.trod_string Ybad.underlying9 h
    refine ⟨s, ?_, ?_⟩
    · have e3 := congrArg (fun l => l[k]?) hx2
      simp only [List.getElem?_map, List.getElem?_eq_getElem hkx, List.getElem?_range hk, Option.map_some, e2] at e3
      simp only [Option.some.injEq, DataW.lit.injEq, Lit.string.injEq] at e3
      rw [ByteArray.toList_eq]
      exact e3.symm
    · rw [hb.cell (p := ⟨1, k, none⟩) hl1, World.var?_cell hg1 hv1 k]
      have e4 := congrArg (fun l => l[0]?) e1
      simp only [List.getElem?_take, List.getElem?_drop, List.getElem?_cons_zero, Nat.add_zero, Nat.zero_lt_one, if_true] at e4
      simpa using e4
  · have zero : (zeroValue 24).run Ybad.prog w' = .ok (.int .u32 0) w' := by kernel_rfl
    rcases open_map Ybad.underlying30 hd0 with ⟨_, hx⟩ | ⟨bm, es, clock, m, rfl, hcs, hblk, _, F, hx⟩
    · exact absurd (congrArg Prod.fst hx) (by intro e; cases e)
    have hx2 := congrArg Prod.fst hx
    have hcell : w'.cell? ⟨0, 0, none⟩ = some (.map (some bm)) := by
      rw [hb.cell (p := ⟨0, 0, none⟩) hl0]
      have := World.var?_cell hg0 hv0 0
      rw [Array.eq_one_of_toList hcs] at this
      simpa using this
    have hblk' : w'.heap[bm]? = some (.map es clock) := (hb.block bm (Array.getElem?_eq_some_iff.1 hblk).1).trans hblk
    refine ⟨bm, hcell, fun s hs => ?_⟩
    rw [ByteArray.toList_eq]
    have hA := atKey_ali s.data.toList
    rcases fit_lookup_ok (w := w') law Ybad.underlying30 zero hblk' F (keyOf_string_mk (s := s) Ybad.underlying9 hs) with ⟨hrun, hat⟩ | ⟨v, y, hrun, hRv, hat, _⟩
    · have h3 := hat .nil
      have h4 : aliD.atKey (.string s.data.toList) .nil = .nil := by
        show DataW.atKey (_ : DataW Unit) _ _ = _
        rw [show aliD = _ from hx2]
        exact h3
      rw [h4] at hA
      obtain ⟨h5, h6⟩ := ali_no hA
      rw [h5, h6]
      exact hrun
    · obtain ⟨r, rfl, rfl, _⟩ := elemAt_int Ybad.underlying24 hRv
      have h3 := hat .nil
      have h4 : aliD.atKey (.string s.data.toList) .nil = .lit (.int .u32 r) := by
        rw [show aliD = _ from hx2]
        exact h3
      rw [h4] at hA
      obtain ⟨h5, h6⟩ := ali_yes hA
      rw [h5, h6]
      exact hrun

set_option maxRecDepth 100000 in
theorem table_lifted (os : Os) (started : os.Started) (H : Type) (enc : TypeId × Value → H) :
    ReturnsInHanded {} Ybad.checked os 3 .any (fun w args => (Rows.lawS5361CTableSpec.pre enc Ybad.prog Ybad.f3 [] false w args ∧ laidMetH Ybad.prog Rows.lawS5361CTableRow.laid w) ∧ sizedMet enc Ybad.prog Ybad.f3 (OpenSpec.ofChange Rows.lawS5361CTableSpec) false w args)
      (Rows.lawS5361CTableSpec.post enc Ybad.prog Ybad.f3 false true false false) := by
  refine returnsInHanded_of_change_and (C := Ybad.checked) (X := fun w _ => laidMetH Ybad.prog Rows.lawS5361CTableRow.laid w) (fun _ _ _ hh h => h.of_heap hh) own started (by kernel_rfl) Ybad.func3
    (ChangeSpec.witness_shaped (enc := enc) (C := Ybad.checked) (os := os) (X := fun w _ => laidMetH Ybad.prog Rows.lawS5361CTableRow.laid w) false (World.doorLaid Ybad.prog 400 os) #[.int .u8 0, .string ⟨#[]⟩, .bool false] 8 rfl (World.shaped_of_RefB (by kernel_rfl) (by kernel_rfl)) (by kernel_rfl) (by kernel_rfl) (by kernel_rfl) (door_met os _)) ?_
  intro W base args ds gs before hval0 hW _ _ hL _
  have hval : ∀ (j : Nat) t v, Ybad.f3.params[j]? = some t → args[j]? = some v → Value.okWide Ybad.prog W .any base t v := hval0
  have hW' := hW
  obtain ⟨p, q, hA0, hV, rfl, hfz, hnd⟩ := hW
  have hA : DataW.TrodAll enc Ybad.prog W 0 (fun _ => true) true Ybad.f3.params.toList args.toList ds p := hA0
  rw [Ybad.params3] at hA hval
  obtain ⟨v0, v1, v2, d0, d1, d2, p0, p1, p2, rfl, rfl, rfl, h0, h1, h2⟩ := trodAll_three hA
  obtain ⟨x, rfl, rfl, rfl, wx⟩ := open_int Ybad.underlying5 (hval 0 5 v0 rfl rfl) h0
  obtain ⟨s, rfl, rfl, rfl, hs⟩ := open_string Ybad.underlying9 (hval 1 9 v1 rfl rfl) h1
  obtain ⟨b, rfl, rfl, rfl⟩ := open_bool Ybad.underlying4 (hval 2 4 v2 rfl rfl) h2
  have hx : 0 ≤ x ∧ x ≤ 255 := by simpa [Lit.wf, IntKind.min, IntKind.max, IntKind.signed, IntKind.bits] using wx
  clear hA0 hval0
  obtain ⟨_, _, _, _, ga, _, _, _, _, _, gb, _, eg, _⟩ := trodVars_two hV
  subst eg
  refine (T.table_law x hx.1 hx.2 s hs b W (fun w' hb => of_laid hL w' hb)).mono fun e W' ⟨he, hb⟩ => ?_
  subst he
  exact ⟨_, rfl, _, _, _, [], [], q, hW', trodAll_mk1 (shut_bool Ybad.underlying4 _), trodAll_mk3 (shut_int Ybad.underlying5 wx) (shut_string Ybad.underlying9 hs) (shut_bool Ybad.underlying4 _), hb.trodVars laidOut (by kernel_rfl) hV, hb.frame _, fun h => by cases h⟩

theorem table_row : Rows.LawS5361CTableSaid :=
  OpenClaim.holds_of_wide 3 Ybad.f3 rfl rfl rfl rfl rfl rfl rfl ⟨rfl, rfl, rfl, rfl, rfl⟩ rfl rfl rfl rfl rfl (by kernel_rfl) Ybad.func3 (by kernel_rfl)
    (of_decide_eq_true (by kernel_rfl)) (by unfold Func.isWrapper; first | (rw [if_pos (by decide +kernel)]; kernel_rfl) | (rw [if_neg (by decide +kernel)]; exact ⟨rfl, rfl⟩))
    (fun os started H enc _ => table_lifted os started H enc)

set_option maxRecDepth 100000 in
theorem reserved_lifted (os : Os) (started : os.Started) (H : Type) (enc : TypeId × Value → H) :
    ReturnsInHanded {} Ybad.checked os 4 .any (fun w args => (Rows.lawS5361CReservedSpec.pre enc Ybad.prog Ybad.f4 [] false w args ∧ laidMetH Ybad.prog Rows.lawS5361CReservedRow.laid w) ∧ sizedMet enc Ybad.prog Ybad.f4 (OpenSpec.ofChange Rows.lawS5361CReservedSpec) false w args)
      (Rows.lawS5361CReservedSpec.post enc Ybad.prog Ybad.f4 false true false false) := by
  refine returnsInHanded_of_change_and (C := Ybad.checked) (X := fun w _ => laidMetH Ybad.prog Rows.lawS5361CReservedRow.laid w) (fun _ _ _ hh h => h.of_heap hh) own started (by kernel_rfl) Ybad.func4
    (ChangeSpec.witness_shaped (enc := enc) (C := Ybad.checked) (os := os) (X := fun w _ => laidMetH Ybad.prog Rows.lawS5361CReservedRow.laid w) false (World.doorLaid Ybad.prog 400 os) #[.int .u8 0, .string ⟨#[]⟩, .bool false] 8 rfl (World.shaped_of_RefB (by kernel_rfl) (by kernel_rfl)) (by kernel_rfl) (by kernel_rfl) (by kernel_rfl) (door_met os _)) ?_
  intro W base args ds gs before hval0 hW _ _ hL _
  have hval : ∀ (j : Nat) t v, Ybad.f4.params[j]? = some t → args[j]? = some v → Value.okWide Ybad.prog W .any base t v := hval0
  have hW' := hW
  obtain ⟨p, q, hA0, hV, rfl, hfz, hnd⟩ := hW
  have hA : DataW.TrodAll enc Ybad.prog W 0 (fun _ => true) true Ybad.f4.params.toList args.toList ds p := hA0
  rw [Ybad.params4] at hA hval
  obtain ⟨v0, v1, v2, d0, d1, d2, p0, p1, p2, rfl, rfl, rfl, h0, h1, h2⟩ := trodAll_three hA
  obtain ⟨x, rfl, rfl, rfl, wx⟩ := open_int Ybad.underlying5 (hval 0 5 v0 rfl rfl) h0
  obtain ⟨s, rfl, rfl, rfl, hs⟩ := open_string Ybad.underlying9 (hval 1 9 v1 rfl rfl) h1
  obtain ⟨b, rfl, rfl, rfl⟩ := open_bool Ybad.underlying4 (hval 2 4 v2 rfl rfl) h2
  have hx : 0 ≤ x ∧ x ≤ 255 := by simpa [Lit.wf, IntKind.min, IntKind.max, IntKind.signed, IntKind.bits] using wx
  clear hA0 hval0
  obtain ⟨_, _, _, _, ga, _, _, _, _, _, gb, _, eg, _⟩ := trodVars_two hV
  subst eg
  refine (T.reserved_law x hx.1 hx.2 s hs b W (fun w' hb => of_laid hL w' hb)).mono fun e W' ⟨he, hb⟩ => ?_
  subst he
  exact ⟨_, rfl, _, _, _, [], [], q, hW', trodAll_mk1 (shut_bool Ybad.underlying4 _), trodAll_mk3 (shut_int Ybad.underlying5 wx) (shut_string Ybad.underlying9 hs) (shut_bool Ybad.underlying4 _), hb.trodVars laidOut (by kernel_rfl) hV, hb.frame _, fun h => by cases h⟩

theorem reserved_row : Rows.LawS5361CReservedSaid :=
  OpenClaim.holds_of_wide 4 Ybad.f4 rfl rfl rfl rfl rfl rfl rfl ⟨rfl, rfl, rfl, rfl, rfl⟩ rfl rfl rfl rfl rfl (by kernel_rfl) Ybad.func4 (by kernel_rfl)
    (of_decide_eq_true (by kernel_rfl)) (by unfold Func.isWrapper; first | (rw [if_pos (by decide +kernel)]; kernel_rfl) | (rw [if_neg (by decide +kernel)]; exact ⟨rfl, rfl⟩))
    (fun os started H enc _ => reserved_lifted os started H enc)

#print axioms table_row
end Go.Proofs.YbulkdfzsDoor
