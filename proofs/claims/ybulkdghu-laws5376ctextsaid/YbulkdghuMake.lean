import Derived.Test.YbulkdghuBuild
namespace Go.Proofs.Ybulkdghu.T
open Go.RowKit
set_option linter.unusedVariables false
set_option linter.unusedSimpArgs false
set_option maxRecDepth 100000

/-- The two boxes of zzs5376cmake: the argument's and the result's. -/
structure Inv (w : World) (B : Nat) (c0 c1 c2 : Value) : Prop where
  a0 : w.cell? ⟨B, 0, none⟩ = some c0
  a1 : w.cell? ⟨B, 1, none⟩ = some c1
  a2 : w.cell? ⟨B, 2, none⟩ = some c2
  b0 : ∃ v, w.cell? ⟨B + 1, 0, none⟩ = some v
  b1 : ∃ v, w.cell? ⟨B + 1, 1, none⟩ = some v
  b2 : ∃ v, w.cell? ⟨B + 1, 2, none⟩ = some v
  fz : ∀ i, w.frozen? ⟨B + 1, i, none⟩ = false
  lt : B + 1 < w.heap.size

theorem Inv.later {w w' : World} {B : Nat} {c0 c1 c2 : Value} (h : Inv w B c0 c1 c2) (hb : Below w.heap.size w w') : Inv w' B c0 c1 c2 := by
  have hl := h.lt
  have e1 : ∀ i, w'.cell? ⟨B, i, none⟩ = w.cell? ⟨B, i, none⟩ := fun i => hb.cell (p := ⟨B, i, none⟩) (by show B < _; omega)
  have e2 : ∀ i, w'.cell? ⟨B + 1, i, none⟩ = w.cell? ⟨B + 1, i, none⟩ := fun i => hb.cell (p := ⟨B + 1, i, none⟩) hl
  have e3 : ∀ i, w'.frozen? ⟨B + 1, i, none⟩ = w.frozen? ⟨B + 1, i, none⟩ := fun i => hb.frozen (p := ⟨B + 1, i, none⟩) hl
  exact ⟨(e1 0).trans h.a0, (e1 1).trans h.a1, (e1 2).trans h.a2, by rw [e2]; exact h.b0, by rw [e2]; exact h.b1, by rw [e2]; exact h.b2, fun i => (e3 i).trans (h.fz i), by have := hb.size; omega⟩

theorem inv_new (w : World) (c0 c1 c2 d0 d1 d2 : Value) : Inv ((w.alloc (.cells #[c0, c1, c2] 24)).alloc (.cells #[d0, d1, d2] 28)) w.heap.size c0 c1 c2 := by
  have hs : (w.alloc (.cells #[c0, c1, c2] 24)).heap.size = w.heap.size + 1 := by show (w.heap.push _).size = _; simp
  have h1 : ((w.alloc (.cells #[c0, c1, c2] 24)).alloc (.cells #[d0, d1, d2] 28)).heap[w.heap.size]? = some (.cells #[c0, c1, c2] 24) :=
    (Below.heap_alloc (w.alloc (.cells #[c0, c1, c2] 24)) _ w.heap.size (by omega)).trans (Go.Deep.blk_alloc_new _ _)
  have h2 : ((w.alloc (.cells #[c0, c1, c2] 24)).alloc (.cells #[d0, d1, d2] 28)).heap[w.heap.size + 1]? = some (.cells #[d0, d1, d2] 28) := by
    rw [← hs]; exact Go.Deep.blk_alloc_new _ _
  refine ⟨?_, ?_, ?_, ⟨d0, ?_⟩, ⟨d1, ?_⟩, ⟨d2, ?_⟩, fun i => ?_, ?_⟩
  all_goals first | (simp only [World.cell?, h1]; rfl) | (simp only [World.cell?, h2]; rfl) | skip
  · simp only [World.frozen?, h2]
    simp
  · show w.heap.size + 1 < ((w.heap.push _).push _).size
    simp

theorem belowTwo (w : World) (x y : Obj) : Below w.heap.size w ((w.alloc x).alloc y) :=
  ((Below.refl w.heap.size w).alloc (Nat.le_refl _) x).alloc (by simp) y

theorem app_data (a b : ByteArray) : (a ++ b).data.toList = a.data.toList ++ b.data.toList := by simp

/-- A slice argument: where it lies, how long it is, its numbers. -/
structure Sl where
  a : Option Addr
  len : Nat
  cap : Nat
  z : List Int
def Sl.v (s : Sl) : Value := .slice s.a s.len s.cap
/-- It is as it came in. -/
structure Sl.Ok (s : Sl) (w : World) : Prop where
  arg : Arg .u8 w s.a s.len s.z
  wf : ∀ i, 0 ≤ s.z.getD i 0 ∧ s.z.getD i 0 ≤ 255
  le : s.len ≤ 300
theorem Sl.Ok.later {s : Sl} {w w' : World} (h : s.Ok w) (hb : Below w.heap.size w w') : s.Ok w' := ⟨arg_later h.arg hb, h.wf, h.le⟩

def tT : ByteArray := ⟨#[48, 57, 97, 122, 95, 98]⟩
def tI : ByteArray := ⟨#[65, 90, 97, 122, 48, 57, 43, 45, 46, 47, 61, 95]⟩
def tR : ByteArray := ⟨#[97, 122, 48, 57, 95]⟩

theorem bytes_len (tab : ByteArray) (z : List Int) (len : Nat) : (bytes tab z len).length = len := by simp [bytes]

theorem build_ok (s : Sl) (w : World) (h : s.Ok w) (tab : ByteArray) (ht0 : 0 < tab.size) (ht : tab.size ≤ 100) :
    Calls Yba.prog 8 #[.slice s.a s.len s.cap, .string tab] w fun e w' => ∃ x : ByteArray, (x.data.toList = bytes tab s.z s.len ∧ x.size ≤ 300) ∧ e = .returned (.string x) ∧ Below w.heap.size w w' := by
  refine (build_any s.a s.len s.cap s.z h.le w h.arg h.wf tab ht0 ht).mono ?_
  rintro e w' ⟨x, hx, rfl, hb⟩
  refine ⟨x, ⟨hx, ?_⟩, rfl, hb⟩
  have := congrArg List.length hx
  rw [bytes_len, Array.length_toList] at this
  have hl := h.le
  show x.data.size ≤ 300
  omega

set_option maxHeartbeats 1000000 in
theorem make_any (s0 s1 s2 : Sl) (w : World) (k0 : s0.Ok w) (k1 : s1.Ok w) (k2 : s2.Ok w) :
    Calls Yba.prog 5 #[.agg #[.slice s0.a s0.len s0.cap, .slice s1.a s1.len s1.cap, .slice s2.a s2.len s2.cap]] w fun e w' => ∃ t i r x : ByteArray,
      (t.data.toList = bytes tT s0.z s0.len ∧ i.data.toList = bytes tI s1.z s1.len ∧ r.data.toList = bytes tR s2.z s2.len ∧ t.size ≤ 300 ∧
        x.data.toList = t.data.toList ++ 58 :: (i.data.toList ++ if r.data.toList = [] then [] else 35 :: r.data.toList)) ∧
      e = .returned (.tuple #[.agg #[.string t, .string i, .string r], .string x]) ∧ Below w.heap.size w w' := by
  have hb0 := hide (belowTwo w (.cells #[.slice s0.a s0.len s0.cap, .slice s1.a s1.len s1.cap, .slice s2.a s2.len s2.cap] 24) (.cells #[.string ⟨#[]⟩, .string ⟨#[]⟩, .string ⟨#[]⟩] 28))
  have I0 := hide (inv_new w (.slice s0.a s0.len s0.cap) (.slice s1.a s1.len s1.cap) (.slice s2.a s2.len s2.cap) (.string ⟨#[]⟩) (.string ⟨#[]⟩) (.string ⟨#[]⟩))
  have K := hide (And.intro (k0.later hb0.out) (And.intro (k1.later hb0.out) (k2.later hb0.out)))
  clear k0 k1 k2
  go_enter Yba.func5, Yba.ntmps5
  go_wp2_with fail
  generalize ((w.alloc (.cells #[.slice s0.a s0.len s0.cap, .slice s1.a s1.len s1.cap, .slice s2.a s2.len s2.cap] 24)).alloc (.cells #[.string ⟨#[]⟩, .string ⟨#[]⟩, .string ⟨#[]⟩] 28)) = w2 at hb0 I0 K ⊢
  generalize hBd : w.heap.size = B at hb0 I0 ⊢
  have hBd' := hide hBd
  clear hBd
  refine (build_ok s0 w2 K.out.1 tT (by decide) (by decide)).mono ?_
  rintro e w3 ⟨t, ⟨ht, hts⟩, rfl, hb3⟩
  have I3 := I0.out.later hb3
  have K3 := hide (And.intro (K.out.2.1.later hb3) (K.out.2.2.later hb3))
  have hB3 := hide (hb0.out.trans (hb3.mono (by have := I0.out.lt; omega)))
  have T1 := hide ht
  have a1 := I3.a1
  have a2 := I3.a2
  have I3' := hide I3
  clear I3 hb3 ht I0 K hb0
  go_wp2_with fail
  refine (build_ok s1 w3 K3.out.1 tI (by decide) (by decide)).mono ?_
  rintro e w4 ⟨i, ⟨hi, his⟩, rfl, hb4⟩
  have I4 := I3'.out.later hb4
  have K4 := hide (K3.out.2.later hb4)
  have hB4 := hide (hB3.out.trans (hb4.mono (by have := I3'.out.lt; omega)))
  have T2 := hide hi
  have a2' := I4.a2
  have I4' := hide I4
  clear I4 hb4 hi I3' K3 hB3 a1 a2
  go_wp2_with fail
  refine (build_ok s2 w4 K4.out tR (by decide) (by decide)).mono ?_
  rintro e w5 ⟨r, ⟨hr, hrs⟩, rfl, hb5⟩
  have I5 := I4'.out.later hb5
  have hB5 := hide (hB4.out.trans (hb5.mono (by have := I4'.out.lt; omega)))
  have T3 := hide hr
  obtain ⟨v0, b0⟩ := I5.b0
  obtain ⟨v1, b1⟩ := I5.b1
  obtain ⟨v2, b2⟩ := I5.b2
  have fz := I5.fz
  clear I5 hb5 hr I4' K4 hB4 a2'
  by_cases hem : r.toList.isEmpty = true
  · have hr0 := hide (show r.data.toList = [] from by rw [← ByteArray.toList_eq]; simpa using hem)
    go_wp2
    refine bodyPost_ret (v := .tuple #[.agg #[.string t, .string i, .string r], .string (t ++ { data := #[58] } ++ i)]) (by simp [results, Yba.results5, go_sem, b0, b1, b2]) rfl ⟨t, i, r, _, ⟨T1.out, T2.out, T3.out, hts, ?_⟩, rfl, ?_⟩
    · rw [if_pos hr0.out]
      simp [app_data]
    · rw [hBd'.out]
      exact ((hB5.out.setCell (Nat.le_succ _) _).setCell (Nat.le_succ _) _).setCell (Nat.le_succ _) _
  · have hem' : r.toList.isEmpty = false := by simpa using hem
    have hr0 := hide (show r.data.toList ≠ [] from by rw [← ByteArray.toList_eq]; intro e; rw [e] at hem'; cases hem')
    clear hem
    go_wp2
    refine bodyPost_ret (v := .tuple #[.agg #[.string t, .string i, .string r], .string (t ++ { data := #[58] } ++ i ++ { data := #[35] } ++ r)]) (by simp [results, Yba.results5, go_sem, b0, b1, b2]) rfl ⟨t, i, r, _, ⟨T1.out, T2.out, T3.out, hts, ?_⟩, rfl, ?_⟩
    · rw [if_neg hr0.out]
      simp [app_data]
    · rw [hBd'.out]
      exact ((hB5.out.setCell (Nat.le_succ _) _).setCell (Nat.le_succ _) _).setCell (Nat.le_succ _) _
end Go.Proofs.Ybulkdghu.T
