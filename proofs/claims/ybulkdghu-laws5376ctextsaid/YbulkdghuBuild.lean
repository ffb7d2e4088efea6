import Derived.Test.YbulkdghuBase
namespace Go.Proofs.Ybulkdghu.T
open Go.RowKit
set_option linter.unusedVariables false
set_option linter.unusedSimpArgs false
set_option maxRecDepth 100000

/-- The byte that index x draws from the table. -/
def pick (tab : ByteArray) (x : Int) : Int := ((tab.data.toList.getD (x.toNat % tab.size) 0).toNat : Int)
theorem pick_bd (tab : ByteArray) (x : Int) : 0 ≤ pick tab x ∧ pick tab x ≤ 255 := by
  unfold pick
  have := (tab.data.toList.getD (x.toNat % tab.size) 0).toNat_lt
  omega
/-- The row behind k rounds. -/
def rw_ (tab : ByteArray) (z : List Int) (k j : Nat) : Value := .int .u8 (if j < k then pick tab (z.getD j 0) else 0)
theorem pick_at (tab : ByteArray) (x : Int) (hx : 0 ≤ x) (h : (x % (tab.size : Int)).toNat < tab.size) : ((tab[(x % (tab.size : Int)).toNat]'h).toNat : Int) = pick tab x := by
  unfold pick
  have e : (x % (tab.size : Int)).toNat = x.toNat % tab.size := by
    obtain ⟨n, rfl⟩ := Int.eq_ofNat_of_zero_le hx
    have e2 : ((n : Int) % (tab.size : Int)) = ((n % tab.size : Nat) : Int) := by norm_cast
    rw [e2, Int.toNat_natCast, Int.toNat_natCast]
  have h2 : x.toNat % tab.size < tab.size := by omega
  have e3 : tab[(x % (tab.size : Int)).toNat]'h = tab[x.toNat % tab.size]'h2 := by simp only [e]
  rw [e3]
  have e4 : tab.data.toList.getD (x.toNat % tab.size) 0 = tab[x.toNat % tab.size]'h2 := by
    have h3 : x.toNat % tab.size < tab.data.toList.length := by simpa using h2
    rw [List.getD_eq_getElem?_getD, List.getElem?_eq_getElem h3]
    rfl
  rw [e4]
theorem rw_step {w : World} {H n : Nat} {tab : ByteArray} {z : List Int} {k : Nat} {v : Int} (h : w.rowIs H 5 n (rw_ tab z k)) (hv : v = pick tab (z.getD k 0)) : (w.setCell ⟨H, k, none⟩ (.int .u8 v)).rowIs H 5 n (rw_ tab z (k + 1)) := by
  refine (h.set k _).congr fun j _ => ?_
  unfold rw_
  by_cases e : j = k
  · subst e; simp [hv]
  · have : (j < k + 1) = (j < k) := by apply propext; omega
    simp only [e, if_false, this]

set_option maxHeartbeats 1000000 in
theorem build_loop (H : Nat) (a0 : Option Addr) (len cap : Nat) (z : List Int) (hlen : len ≤ 300) (w : World) (hH : w.heap.size ≤ H) (harg : Arg .u8 w a0 len z) (hwf : ∀ i, 0 ≤ z.getD i 0 ∧ z.getD i 0 ≤ 255)
    (tab : ByteArray) (ht0 : 0 < tab.size) (ht : tab.size ≤ 100) (a : Act) (w1 : World) (Q : Exit → Act → World → Prop) (hF : Fr 30 a) (h0 : slot a 0 = .slice a0 len cap) (h1 : slot a 1 = .string tab) (h5 : slot a 5 = .slice (some ⟨H, 0, none⟩) 0 len)
    (hown : w1.rowIs H 5 len (rw_ tab z 0)) (hb : Below w.heap.size w w1)
    (hnext : Hid (∀ a' w', Fr 30 a' → slot a' 5 = .slice (some ⟨H, 0, none⟩) len len → w'.rowIs H 5 len (rw_ tab z len) → Below w.heap.size w w' → Q .normal a' w')) :
    Code.wp Yba.prog (seqPart 2 (bodyOf Yba.f8)) Q a w1 := by
  obtain ⟨u, rfl, hu⟩ := to_lit30 hF
  have e0 := (hu 0 (by omega)).symm.trans h0
  have e1 := (hu 1 (by omega)).symm.trans h1
  have e5 := (hu 5 (by omega)).symm.trans h5
  clear hu hF h0 h1 h5
  conv => arg 2; whnf
  rw [e0, e1, e5]
  clear e0 e1 e5
  go_wp2
  refine loop_rule (fun n a w' => ∃ k, n + k = len ∧ Fr 30 a ∧ slot a 1 = .string tab ∧ slot a 5 = .slice (some ⟨H, 0, none⟩) k len ∧ slot a 11 = .slice a0 len cap ∧ slot a 12 = .int .i64 len ∧ slot a 13 = .int .i64 (k : Nat) ∧
      w'.rowIs H 5 len (rw_ tab z k) ∧ Below w.heap.size w w') len ?_ ?_
  · exact ⟨0, rfl, ⟨rfl, rfl⟩, rfl, rfl, rfl, rfl, rfl, hown, hb⟩
  · clear hown hb u
    rintro n a wr ⟨k, hk, hF, h1, h5, h11, h12, h13, hown, hbr⟩ R hR hexit
    obtain ⟨u, rfl, hu⟩ := to_lit30 hF
    have e1 := (hu 1 (by omega)).symm.trans h1
    have e5 := (hu 5 (by omega)).symm.trans h5
    have e11 := (hu 11 (by omega)).symm.trans h11
    have e12 := (hu 12 (by omega)).symm.trans h12
    have e13 := (hu 13 (by omega)).symm.trans h13
    clear hu hF h1 h5 h11 h12 h13
    rw [e1, e5, e11, e12, e13]
    clear e1 e5 e11 e12 e13
    have hk' := hide hk
    have hkle : k ≤ len := by omega
    clear hk
    have hown' := hide hown
    clear hown
    by_cases hlt : k < len
    · obtain ⟨b, off, rfl, hcell, hbs⟩ := harg k hlt
      have hc := (hbr.cell (p := ⟨b, off + k, none⟩) (by exact hbs)).trans hcell
      have hx := hwf k
      have hzk := hide (show z.getD k 0 = z.getD k 0 from rfl)
      clear harg hcell
      obtain ⟨x, hxz⟩ : ∃ x, x = z.getD k 0 := ⟨_, rfl⟩
      rw [← hxz] at hc hx
      have hxz' := hide hxz
      clear hxz
      obtain ⟨hx0, hx255⟩ := hx
      have ht0' : (0 : Int) < (tab.size : Int) := by omega
      obtain ⟨y, hy⟩ : ∃ y, wr.cell? ⟨H, k, none⟩ = some y := ⟨_, hown'.out.cell hlt⟩
      have hfz := hown'.out.frozen k
      have hHs : H < wr.heap.size := hown'.out.lt
      have hlt2 : k + 1 ≤ len := hlt
      have hm0 : 0 ≤ x % (tab.size : Int) := Int.emod_nonneg _ (by omega)
      have hm1 : x % (tab.size : Int) < (tab.size : Int) := Int.emod_lt_of_pos _ ht0'
      go_wp2
      refine hR.out (n - 1) _ _ (by have := hk'.out; omega) ⟨k + 1, by have := hk'.out; omega, ⟨rfl, rfl⟩, rfl, rfl, rfl, rfl, congrArg (Value.int .i64) (by omega), (rw_step hown'.out ?_).alloc _, (hbr.setCell hH _).alloc (by rw [size_setCell]; have := hbr.size; omega) _⟩
      rw [← hxz'.out]
      exact pick_at tab x hx0 _
    · obtain rfl : k = len := by omega
      go_wp2
      exact hexit.out _ _ _ (by simp) (hnext.out _ _ ⟨rfl, rfl⟩ rfl hown'.out hbr)

theorem make_0 (len : Nat) (h : len ≤ 300) (w : World) : (Instr.makeSlice 22 (.int .i64 0) (.int .i64 (len : Int))).run Yba.prog w = .ok (.slice (some ⟨w.heap.size, 0, none⟩) 0 len) (w.alloc (.cells (madeCells #[.int .u8 0] len) 5)) := by
  obtain ⟨i, hi, hz, hs, hby⟩ := info_parts info5
  have h := run_make (P := Yba.prog) w 22 5 i _ Yba.underlying22 hi hz .i64 .i64 0 len (by omega) (by omega) (by rw [hby]; omega) (by omega)
  simpa [hs, Value.cells] using h

set_option maxHeartbeats 1000000 in
theorem build_01 (a0 : Option Addr) (len cap : Nat) (hlen : len ≤ 300) (tab : ByteArray) (c : Code) (a : Act) (w : World) (Q : Exit → Act → World → Prop) (hF : Fr 30 a) (h0 : slot a 0 = .slice a0 len cap) (h1 : slot a 1 = .string tab)
    (hnext : Hid (∀ a', Fr 30 a' → slot a' 0 = .slice a0 len cap → slot a' 1 = .string tab → slot a' 5 = .slice (some ⟨w.heap.size, 0, none⟩) 0 len → c.wp Yba.prog Q a' (w.alloc (.cells (madeCells #[.int .u8 0] len) 5)))) :
    Code.wp Yba.prog (Code.seq (seqPart 0 (bodyOf Yba.f8)) (Code.seq (seqPart 1 (bodyOf Yba.f8)) c)) Q a w := by
  have mk := make_0 len hlen
  obtain ⟨u, rfl, hu⟩ := to_lit30 hF
  have e0 := (hu 0 (by omega)).symm.trans h0
  have e1 := (hu 1 (by omega)).symm.trans h1
  clear hu hF h0 h1
  rw [e0, e1]
  clear e0 e1
  conv => arg 2; arg 1; whnf
  conv => arg 2; arg 2; arg 1; whnf
  go_wp2
  exact hnext.out _ ⟨rfl, rfl⟩ rfl rfl rfl

set_option maxHeartbeats 1000000 in
theorem build_3 (H len : Nat) (tab : ByteArray) (z : List Int) (a : Act) (w : World) (R : Ending → World → Prop) (hF : Fr 30 a) (h5 : slot a 5 = .slice (some ⟨H, 0, none⟩) len len) (hrow : w.rowIs H 5 len (rw_ tab z len))
    (hR : Hid (R (.returned (.string (strOfNums ((List.range len).map fun i => pick tab (z.getD i 0))))) w)) :
    Code.wp Yba.prog (seqRest 3 (bodyOf Yba.f8)) (bodyPost Yba.prog Yba.f8 R) a w := by
  have hcv := run_convert_bytes_arg (P := Yba.prog) w 22 5 Yba.underlying22 Yba.underlying5 H 0 len len ((List.range len).map fun i => pick tab (z.getD i 0)) (by simp) (fun i hi => by
    rw [Nat.zero_add, hrow.cell hi]
    simp [rw_, hi]) 9 Yba.underlying9
  generalize strOfNums ((List.range len).map fun i => pick tab (z.getD i 0)) = s at hcv hR
  clear hrow
  obtain ⟨u, rfl, hu⟩ := to_lit30 hF
  have e5 := (hu 5 (by omega)).symm.trans h5
  clear hu hF h5
  conv => arg 2; whnf
  rw [e5]
  clear e5
  go_wp2
  exact hR.out

theorem R8 : bodyOf Yba.f8 = Code.seq (seqPart 0 (bodyOf Yba.f8)) (Code.seq (seqPart 1 (bodyOf Yba.f8)) (Code.seq (seqPart 2 (bodyOf Yba.f8)) (seqRest 3 (bodyOf Yba.f8)))) := by kernel_rfl

/-- The bytes that the indices draw from the table. -/
def bytes (tab : ByteArray) (z : List Int) (len : Nat) : List UInt8 := (List.range len).map fun i => tab.data.toList.getD ((z.getD i 0).toNat % tab.size) 0

theorem bytes_of (tab : ByteArray) (z : List Int) (len : Nat) : (strOfNums ((List.range len).map fun i => pick tab (z.getD i 0))).data.toList = bytes tab z len := by
  rw [strOfNums_data]
  simp only [bytes, List.map_map]
  apply List.map_congr_left
  intro i _
  simp [pick]

set_option maxHeartbeats 1000000 in
/-- zzs5376cbuild. -/
theorem build_any (a0 : Option Addr) (len cap : Nat) (z : List Int) (hlen : len ≤ 300) (w : World) (harg : Arg .u8 w a0 len z) (hwf : ∀ i, 0 ≤ z.getD i 0 ∧ z.getD i 0 ≤ 255) (tab : ByteArray) (ht0 : 0 < tab.size) (ht : tab.size ≤ 100) :
    Calls Yba.prog 8 #[.slice a0 len cap, .string tab] w fun e w' => ∃ s : ByteArray, s.data.toList = bytes tab z len ∧ e = .returned (.string s) ∧ Below w.heap.size w w' := by
  refine calls_of_wp Yba.func8 rfl ?_
  show Code.wp Yba.prog (bodyOf Yba.f8) _ _ _
  rw [R8]
  refine build_01 a0 len cap hlen tab _ _ w _ ⟨by kernel_rfl, rfl⟩ (by kernel_rfl) (by kernel_rfl) (hide ?_)
  intro a1 hF1 k0 k1 k5
  have hrow : (w.alloc (.cells (madeCells #[.int .u8 0] len) 5)).rowIs w.heap.size 5 len (rw_ tab z 0) := (World.rowIs_made w (.int .u8 0) len 5).congr (fun i _ => by simp [rw_])
  refine wp_seq (build_loop w.heap.size a0 len cap z hlen w (Nat.le_refl _) harg hwf tab ht0 ht a1 _ _ hF1 k0 k1 k5 hrow ((Below.refl _ _).alloc (Nat.le_refl _) _) (hide ?_))
  intro a2 w2 hF2 s5 hrow2 hb2
  exact build_3 w.heap.size len tab z a2 w2 _ hF2 s5 hrow2 (hide ⟨_, bytes_of tab z len, rfl, hb2⟩)
end Go.Proofs.Ybulkdghu.T
