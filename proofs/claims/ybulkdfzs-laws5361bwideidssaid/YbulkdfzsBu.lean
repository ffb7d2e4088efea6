/-
  zzs5361bbuild, walked: the parts of its body up to the two calls. Own text.
-/
import Derived.Test.YbulkdfzsPl
import Derived.Test.YbulkdfzsSk
import Derived.Deep.RegionLawGrows
import Derived.Laws.BitsAllLaws
namespace Go.Proofs.Ybulkdfzs.S
open Go.RowKit Go.Proofs.Ybulkdfzs.AR Go.Proofs.Ybulkdfzs.Pl
set_option linter.unusedVariables false
set_option linter.unusedSimpArgs false
set_option maxRecDepth 100000

theorem ofInt32 (a : Nat) (ha : a < 4294967296) : (BitVec.ofInt 32 (a : Int)).toNat = a := by
  rw [BitVec.ofInt_natCast, BitVec.toNat_ofNat]; exact Nat.mod_eq_of_lt (by omega)
theorem xor32 (a b : Nat) (ha : a < 4294967296) (hb : b < 4294967296) : bits .xor .u32 (a : Int) (b : Int) = ((a ^^^ b : Nat) : Int) := by
  have hx : a ^^^ b < 2 ^ 32 := Nat.xor_lt_two_pow (by omega) (by omega)
  show IntKind.u32.wrap ((BitVec.ofInt 32 (a : Int) ^^^ BitVec.ofInt 32 (b : Int)).toNat : Int) = _
  rw [BitVec.toNat_xor, ofInt32 a ha, ofInt32 b hb, IntKind.wrap_u32]
  omega
theorem and32 (a b : Nat) (ha : a < 4294967296) (hb : b < 4294967296) : bits .and .u32 (a : Int) (b : Int) = ((a &&& b : Nat) : Int) := by
  have hx : a &&& b < 2 ^ 32 := Nat.and_lt_two_pow _ (by omega)
  show IntKind.u32.wrap ((BitVec.ofInt 32 (a : Int) &&& BitVec.ofInt 32 (b : Int)).toNat : Int) = _
  rw [BitVec.toNat_and, ofInt32 a ha, ofInt32 b hb, IntKind.wrap_u32]
  omega
theorem or32 (a b : Nat) (ha : a < 4294967296) (hb : b < 4294967296) : bits .or .u32 (a : Int) (b : Int) = ((a ||| b : Nat) : Int) := by
  have hx : a ||| b < 2 ^ 32 := Nat.or_lt_two_pow (by omega) (by omega)
  show IntKind.u32.wrap ((BitVec.ofInt 32 (a : Int) ||| BitVec.ofInt 32 (b : Int)).toNat : Int) = _
  rw [BitVec.toNat_or, ofInt32 a ha, ofInt32 b hb, IntKind.wrap_u32]
  omega

set_option maxRecDepth 100000 in
theorem to_lit85 {a : Act} (h : Fr 85 a) : ∃ u : Nat → Value, a = ⟨List.toArray (u 0 :: u 1 :: u 2 :: u 3 :: u 4 :: u 5 :: u 6 :: u 7 :: u 8 :: u 9 :: u 10 :: u 11 :: u 12 :: u 13 :: u 14 :: u 15 :: u 16 :: u 17 :: u 18 :: u 19 :: u 20 :: u 21 :: u 22 :: u 23 :: u 24 :: u 25 :: u 26 :: u 27 :: u 28 :: u 29 :: u 30 :: u 31 :: u 32 :: u 33 :: u 34 :: u 35 :: u 36 :: u 37 :: u 38 :: u 39 :: u 40 :: u 41 :: u 42 :: u 43 :: u 44 :: u 45 :: u 46 :: u 47 :: u 48 :: u 49 :: u 50 :: u 51 :: u 52 :: u 53 :: u 54 :: u 55 :: u 56 :: u 57 :: u 58 :: u 59 :: u 60 :: u 61 :: u 62 :: u 63 :: u 64 :: u 65 :: u 66 :: u 67 :: u 68 :: u 69 :: u 70 :: u 71 :: u 72 :: u 73 :: u 74 :: u 75 :: u 76 :: u 77 :: u 78 :: u 79 :: u 80 :: u 81 :: u 82 :: u 83 :: u 84 :: []), []⟩ ∧ ∀ i, i < 85 → slot a i = u i := by
  obtain ⟨t, d⟩ := a
  obtain ⟨l⟩ := t
  obtain ⟨h1, h2⟩ := h
  have hl : l.length = 85 := h1
  have hd : d = [] := h2
  subst hd
  have e := toList_range l
  rw [hl] at e
  refine ⟨fun i => l.getD i undef, ?_, fun i hi => by simp [slot]⟩
  generalize hu : (fun i => l.getD i undef) = u at e ⊢
  have e2 : (List.range 85).map u = (u 0 :: u 1 :: u 2 :: u 3 :: u 4 :: u 5 :: u 6 :: u 7 :: u 8 :: u 9 :: u 10 :: u 11 :: u 12 :: u 13 :: u 14 :: u 15 :: u 16 :: u 17 :: u 18 :: u 19 :: u 20 :: u 21 :: u 22 :: u 23 :: u 24 :: u 25 :: u 26 :: u 27 :: u 28 :: u 29 :: u 30 :: u 31 :: u 32 :: u 33 :: u 34 :: u 35 :: u 36 :: u 37 :: u 38 :: u 39 :: u 40 :: u 41 :: u 42 :: u 43 :: u 44 :: u 45 :: u 46 :: u 47 :: u 48 :: u 49 :: u 50 :: u 51 :: u 52 :: u 53 :: u 54 :: u 55 :: u 56 :: u 57 :: u 58 :: u 59 :: u 60 :: u 61 :: u 62 :: u 63 :: u 64 :: u 65 :: u 66 :: u 67 :: u 68 :: u 69 :: u 70 :: u 71 :: u 72 :: u 73 :: u 74 :: u 75 :: u 76 :: u 77 :: u 78 :: u 79 :: u 80 :: u 81 :: u 82 :: u 83 :: u 84 :: []) := by kernel_rfl
  rw [e2] at e
  rw [e]

theorem build1 (U b a cap : Nat) (v : Nat) (w : World) (hc : w.cell? ⟨b, a, none⟩ = some (.int .u32 (v : Int))) :
    Calls Yba.prog 11 #[.pointer (some ⟨U, 0, none⟩), .slice (some ⟨b, a, none⟩) 1 cap] w fun r w' => r = .returned (.int .u32 (v : Int)) ∧ w' = w := by
  go_enter Yba.func11, Yba.ntmps11
  go_wp2
  go_ret
  exact ⟨rfl, rfl⟩

/-- The frame: the pointer, the slice, what else is told. -/
def Bf (U b a len cap : Nat) (A : Act) : Prop := Fr 85 A ∧ slot A 0 = .pointer (some ⟨U, 0, none⟩) ∧ slot A 1 = .slice (some ⟨b, a, none⟩) len cap

theorem bu0 (U b a len cap : Nat) (x y : Nat) (w : World) (A : Act) (hB : Bf U b a len cap A) (h2 : 2 ≤ len) (hlen : len ≤ 1024) (hc0 : w.cell? ⟨b, a, none⟩ = some (.int .u32 (x : Int))) (hcl : w.cell? ⟨b, a + (len - 1), none⟩ = some (.int .u32 (y : Int)))
    (hx : x < 2147483648) (hy : y < 2147483648) (c : Code) (Q : Exit → Act → World → Prop)
    (hnext : Hid (∀ A' nq, Bf U b a len cap A' → slot A' 5 = .int .u32 ((x ^^^ y : Nat) : Int) → slot A' 6 = .int .u32 1073741824 → c.wp Yba.prog Q A' (w.drewN nq))) :
    Code.wp Yba.prog (Code.seq (seqPart 0 (bodyOf Yba.f11)) (Code.seq (seqPart 1 (bodyOf Yba.f11)) (Code.seq (seqPart 2 (bodyOf Yba.f11)) (Code.seq (seqPart 3 (bodyOf Yba.f11)) c)))) Q A w := by
  obtain ⟨hF, h0, h1⟩ := hB
  obtain ⟨u, rfl, hu⟩ := to_lit85 hF
  have e0 := (hu 0 (by omega)).symm.trans h0
  have e1 := (hu 1 (by omega)).symm.trans h1
  clear hu h0 h1 hF
  conv => arg 2; arg 1; whnf
  conv => arg 2; arg 2; arg 1; whnf
  conv => arg 2; arg 2; arg 2; arg 1; whnf
  conv => arg 2; arg 2; arg 2; arg 2; arg 1; whnf
  rw [e0, e1]
  clear e0 e1
  have hl1 : ((len : Int) == 1) = false := by simp; omega
  have hxor := xor32 x y (by omega) (by omega)
  generalize x ^^^ y = q at hxor hnext
  go_wp2
  go_quiet (fail)
  go_wp2
  exact hnext.out _ _ ⟨⟨rfl, rfl⟩, rfl, rfl⟩ rfl rfl

set_option maxHeartbeats 1000000 in
/-- The loop that looks for the highest bit. -/
theorem bu4 (U b a len cap : Nat) (x : Nat) (w : World) (A : Act) (hB : Bf U b a len cap A) (h5 : slot A 5 = .int .u32 (x : Int)) (h6 : slot A 6 = .int .u32 1073741824) (hx0 : 0 < x) (hx : x < 2147483648) (Q : Exit → Act → World → Prop)
    (hnext : Hid (∀ A' p j, Bf U b a len cap A' → slot A' 6 = .int .u32 ((p : Nat) : Int) → p = 2 ^ j → j ≤ 30 → x < 2 ^ (j + 1) → x &&& 2 ^ j ≠ 0 → Q .normal A' w)) :
    Code.wp Yba.prog (seqPart 4 (bodyOf Yba.f11)) Q A w := by
  obtain ⟨hF, h0, h1⟩ := hB
  conv => arg 2; whnf
  refine wp_block ?_
  refine loop_rule (fun m A' w' => ∃ p j, m = j ∧ Bf U b a len cap A' ∧ slot A' 5 = .int .u32 (x : Int) ∧ slot A' 6 = .int .u32 ((p : Nat) : Int) ∧ p = 2 ^ j ∧ j ≤ 30 ∧ x < 2 ^ (j + 1) ∧ w' = w)
    30 ⟨1073741824, 30, rfl, ⟨hF, h0, h1⟩, h5, h6, rfl, Nat.le_refl _, hx, rfl⟩ ?_
  clear hF h0 h1 h5 h6 A
  rintro m A w' ⟨p, j, rfl, ⟨hF, h0, h1⟩, h5, h6, hp, hj, hxj, rfl⟩ R hR hexit
  obtain ⟨u, rfl, hu⟩ := to_lit85 hF
  have e0 := (hu 0 (by omega)).symm.trans h0
  have e1 := (hu 1 (by omega)).symm.trans h1
  have e5 := (hu 5 (by omega)).symm.trans h5
  have e6 := (hu 6 (by omega)).symm.trans h6
  clear hu h0 h1 h5 h6 hF
  rw [e0, e1, e5, e6]
  clear e0 e1 e5 e6
  have hpow : 2 ^ m ≤ 2 ^ 30 := Nat.pow_le_pow_right (by omega) hj
  have hpp : 0 < 2 ^ m := Nat.two_pow_pos m
  have hpl : p ≤ 1073741824 := by omega
  have hand := and32 p x (by omega) (by omega)
  have hcom : p &&& x = x &&& 2 ^ m := by rw [hp, Nat.and_comm]
  obtain ⟨q, hq⟩ : ∃ q, p &&& x = q := ⟨_, rfl⟩
  rw [hq] at hand hcom
  replace hp := hide hp
  replace hxj := hide hxj
  replace hcom := hide hcom
  clear hq hpow hpp
  by_cases hq0 : q = 0
  · have hqb : ((q : Int) == 0) = true := by simp; omega
    have hm0 : 0 < m := by
      rcases Nat.eq_zero_or_pos m with h | h
      · exfalso
        subst h
        have h1 := hxj.out
        have h2 := (and_pow x 0).1 (by rw [← hcom.out]; exact hq0)
        simp at h1 h2
        omega
      · exact h
    clear hq0
    go_wp2
    obtain ⟨k, rfl⟩ : ∃ k, m = k + 1 := ⟨m - 1, by omega⟩
    have hp2 : p = 2 ^ k * 2 := hp.out.trans (Nat.pow_succ ..)
    have hk0 := Nat.two_pow_pos k
    have hnot : x / 2 ^ (k + 1) % 2 = 0 := (and_pow x (k + 1)).1 (by rw [← hcom.out]; simpa using hqb)
    refine hR.out k _ _ (by omega) ⟨2 ^ k, k, rfl, ⟨⟨rfl, rfl⟩, rfl, rfl⟩, rfl, ?_, rfl, by omega, ?_, rfl⟩
    · show Value.int .u32 _ = _
      congr 1
      omega
    · have h1 := hxj.out
      have h3 : x / 2 ^ (k + 1) < 2 := by rw [Nat.div_lt_iff_lt_mul (Nat.two_pow_pos _), Nat.mul_comm, ← Nat.pow_succ]; exact h1
      have h4 : x / 2 ^ (k + 1) = 0 := by
        clear h1
        generalize x / 2 ^ (k + 1) = z at h3 hnot ⊢
        omega
      exact (Nat.div_eq_zero_iff_lt (Nat.two_pow_pos _)).1 h4
  · have hqb : ((q : Int) == 0) = false := by simp; omega
    go_wp2
    refine hexit.out (.exit 0) _ _ (by intro h; cases h) ?_
    show Q .normal _ _
    exact hnext.out _ p m ⟨⟨rfl, rfl⟩, rfl, rfl⟩ rfl hp.out hj hxj.out (by rw [← hcom.out]; exact hq0)

set_option maxHeartbeats 1000000 in
/-- The loop that looks for the first id with the bit. -/
theorem bu6 (U b a len cap : Nat) (e : Nat → Nat) (p j : Nat) (w : World) (A : Act) (hB : Bf U b a len cap A) (h6 : slot A 6 = .int .u32 ((p : Nat) : Int)) (hp : p = 2 ^ j) (hj : j ≤ 30) (hlen : len ≤ 1024)
    (hc : ∀ t, t < len → w.cell? ⟨b, a + t, none⟩ = some (.int .u32 (e (a + t) : Int))) (hlt : ∀ t, t < len → e (a + t) < 2147483648) (hlast : e (a + (len - 1)) / 2 ^ j % 2 = 1) (h1len : 1 ≤ len) (c : Code) (Q : Exit → Act → World → Prop)
    (hnext : Hid (∀ A' k, Bf U b a len cap A' → slot A' 6 = .int .u32 ((p : Nat) : Int) → slot A' 7 = .int .i64 ((k : Nat) : Int) → k < len → (∀ t, t < k → e (a + t) / 2 ^ j % 2 = 0) → e (a + k) / 2 ^ j % 2 = 1 → c.wp Yba.prog Q A' w)) :
    Code.wp Yba.prog (Code.seq (seqPart 5 (bodyOf Yba.f11)) (Code.seq (seqPart 6 (bodyOf Yba.f11)) c)) Q A w := by
  obtain ⟨hF, h0, h1⟩ := hB
  have hpow : 2 ^ j ≤ 2 ^ 30 := Nat.pow_le_pow_right (by omega) hj
  have hpl : p ≤ 1073741824 := by omega
  clear hpow
  obtain ⟨u, rfl, hu⟩ := to_lit85 hF
  have e0 := (hu 0 (by omega)).symm.trans h0
  have e1 := (hu 1 (by omega)).symm.trans h1
  have e6 := (hu 6 (by omega)).symm.trans h6
  clear hu h0 h1 h6 hF
  conv => arg 2; arg 1; whnf
  conv => arg 2; arg 2; arg 1; whnf
  rw [e0, e1, e6]
  clear e0 e1 e6
  replace hp := hide hp
  replace hc := hide hc
  replace hlt := hide hlt
  replace hlast := hide hlast
  go_wp2
  rename_i K1 hK1
  refine loop_rule (fun m A' w' => ∃ k, m + k = len ∧ Bf U b a len cap A' ∧ slot A' 6 = .int .u32 ((p : Nat) : Int) ∧ slot A' 7 = .int .i64 ((k : Nat) : Int) ∧ (∀ t, t < k → e (a + t) / 2 ^ j % 2 = 0) ∧ w' = w)
    len ⟨0, rfl, ⟨⟨rfl, rfl⟩, rfl, rfl⟩, rfl, rfl, fun t ht => by omega, rfl⟩ ?_
  clear u
  rintro m A w' ⟨k, hk, ⟨hF, h0, h1⟩, h6, h7, hz, rfl⟩ R hR hexit
  obtain ⟨u, rfl, hu⟩ := to_lit85 hF
  have e0 := (hu 0 (by omega)).symm.trans h0
  have e1 := (hu 1 (by omega)).symm.trans h1
  have e6 := (hu 6 (by omega)).symm.trans h6
  have e7 := (hu 7 (by omega)).symm.trans h7
  clear hu h0 h1 h6 h7 hF
  rw [e0, e1, e6, e7]
  clear e0 e1 e6 e7
  have hkl : k < len := by
    rcases Nat.lt_or_ge k len with h | h
    · exact h
    · exfalso
      have g1 := hz (len - 1) (by omega)
      have g2 := hlast.out
      omega
  have hck := hc.out k hkl
  have hvk := hlt.out k hkl
  have hand := and32 (e (a + k)) p (by omega) (by omega)
  have hiff : Hid (e (a + k) &&& p = 0 ↔ e (a + k) / 2 ^ j % 2 = 0) := by rw [hp.out]; exact and_pow _ _
  obtain ⟨q, hq⟩ : ∃ q, e (a + k) &&& p = q := ⟨_, rfl⟩
  rw [hq] at hand hiff
  clear hq
  replace hz := hide hz
  by_cases hq0 : q = 0
  · have hqb : ((q : Int) == 0) = true := by simp; omega
    clear hq0
    go_wp2
    refine hR.out (m - 1) _ _ (by omega) ⟨k + 1, by omega, ⟨⟨rfl, rfl⟩, rfl, rfl⟩, rfl, ?_, ?_, rfl⟩
    · show Value.int .i64 _ = _
      congr 1
    · intro t ht
      by_cases e : t = k
      · rw [e]; exact hiff.out.1 (by simpa using hqb)
      · exact hz.out t (by omega)
  · have hqb : ((q : Int) == 0) = false := by simp; omega
    go_wp2
    refine hexit.out (.exit 2) _ _ (by intro h; cases h) ?_
    show K1 _ _
    refine hK1 _ _ ?_
    refine hnext.out _ k ⟨⟨rfl, rfl⟩, rfl, rfl⟩ rfl rfl hkl hz.out ?_
    have hne : ¬ e (a + k) / 2 ^ j % 2 = 0 := fun h => hq0 (hiff.out.2 h)
    revert hne
    generalize e (a + k) / 2 ^ j = z
    intro hne
    omega

set_option maxHeartbeats 1000000 in
/-- The call with the zero side. -/
theorem bu7 (U b a len cap k p : Nat) (w : World) (A : Act) (hB : Bf U b a len cap A) (h6 : slot A 6 = .int .u32 ((p : Nat) : Int)) (h7 : slot A 7 = .int .i64 ((k : Nat) : Int)) (hk : k < len) (hlen : len ≤ 1024) (hcap : len ≤ cap) (c : Code) (Q : Exit → Act → World → Prop)
    (R : Nat → World → Prop) (hcall : Hid (Calls Yba.prog 11 #[.pointer (some ⟨U, 0, none⟩), .slice (some ⟨b, a, none⟩) k cap] w fun r w' => ∃ s : Nat, r = .returned (.int .u32 (s : Int)) ∧ R s w'))
    (hnext : Hid (∀ A' s w', Bf U b a len cap A' → slot A' 6 = .int .u32 ((p : Nat) : Int) → slot A' 7 = .int .i64 ((k : Nat) : Int) → slot A' 8 = .int .u32 ((s : Nat) : Int) → R s w' → c.wp Yba.prog Q A' w')) :
    Code.wp Yba.prog (Code.seq (seqPart 7 (bodyOf Yba.f11)) c) Q A w := by
  obtain ⟨hF, h0, h1⟩ := hB
  obtain ⟨u, rfl, hu⟩ := to_lit85 hF
  have e0 := (hu 0 (by omega)).symm.trans h0
  have e1 := (hu 1 (by omega)).symm.trans h1
  have e6 := (hu 6 (by omega)).symm.trans h6
  have e7 := (hu 7 (by omega)).symm.trans h7
  clear hu h0 h1 h6 h7 hF
  conv => arg 2; arg 1; whnf
  rw [e0, e1, e6, e7]
  clear e0 e1 e6 e7
  have hkc : k ≤ cap := by omega
  go_wp2_with fail
  refine hcall.out.mono ?_
  rintro r w' ⟨s, rfl, hR⟩
  go_wp2
  exact hnext.out _ s w' ⟨⟨rfl, rfl⟩, rfl, rfl⟩ rfl rfl rfl hR

set_option maxHeartbeats 1000000 in
/-- The call with the one side. -/
theorem bu8 (U b a len cap k p z : Nat) (w : World) (A : Act) (hB : Bf U b a len cap A) (h6 : slot A 6 = .int .u32 ((p : Nat) : Int)) (h7 : slot A 7 = .int .i64 ((k : Nat) : Int)) (h8 : slot A 8 = .int .u32 ((z : Nat) : Int)) (hk : k < len) (hlen : len ≤ 1024) (hcap : len ≤ cap) (c : Code) (Q : Exit → Act → World → Prop)
    (R : Nat → World → Prop) (hcall : Hid (Calls Yba.prog 11 #[.pointer (some ⟨U, 0, none⟩), .slice (some ⟨b, a + k, none⟩) (len - k) (cap - k)] w fun r w' => ∃ s : Nat, r = .returned (.int .u32 (s : Int)) ∧ R s w'))
    (hnext : Hid (∀ A' s w', Bf U b a len cap A' → slot A' 6 = .int .u32 ((p : Nat) : Int) → slot A' 8 = .int .u32 ((z : Nat) : Int) → slot A' 9 = .int .u32 ((s : Nat) : Int) → R s w' → c.wp Yba.prog Q A' w')) :
    Code.wp Yba.prog (Code.seq (seqPart 8 (bodyOf Yba.f11)) c) Q A w := by
  obtain ⟨hF, h0, h1⟩ := hB
  obtain ⟨u, rfl, hu⟩ := to_lit85 hF
  have e0 := (hu 0 (by omega)).symm.trans h0
  have e1 := (hu 1 (by omega)).symm.trans h1
  have e6 := (hu 6 (by omega)).symm.trans h6
  have e7 := (hu 7 (by omega)).symm.trans h7
  have e8 := (hu 8 (by omega)).symm.trans h8
  clear hu h0 h1 h6 h7 h8 hF
  conv => arg 2; arg 1; whnf
  rw [e0, e1, e6, e7, e8]
  clear e0 e1 e6 e7 e8
  have hkc : k ≤ cap := by omega
  have hkl : k ≤ len := by omega
  go_wp2_with fail
  refine hcall.out.mono ?_
  rintro r w' ⟨s, rfl, hR⟩
  go_wp2
  exact hnext.out _ s w' ⟨⟨rfl, rfl⟩, rfl, rfl⟩ rfl rfl rfl hR
end Go.Proofs.Ybulkdfzs.S
