/-
  zzs5361bbuild, walked: the new node; the whole. Own text.
-/
import Derived.Test.YbulkdfzsBu
namespace Go.Proofs.Ybulkdfzs.S
open Go.RowKit Go.Proofs.Ybulkdfzs.AR Go.Proofs.Ybulkdfzs.Pl
set_option linter.unusedVariables false
set_option linter.unusedSimpArgs false
set_option maxRecDepth 100000

theorem info96 : (Yba.prog.info? 96).map (fun i => (i.zero, i.size, i.bytes)) = some (some (.agg #[.int .u32 0, .int .u32 0, .int .u32 0, .int .u32 0]), 4, 16) := by kernel_rfl

/-- append to a row of the call's own, as one step of a region that draws: room or none. -/
theorem step_append_own {P : Program} {ops : Array Oper} {o : Oper} {a : Act} {w : World} {K : Act → World → Prop} {Q : Exit → Act → World → Prop} {E : Prop}
    (hg : o.guard = none) (s x : Operand) (t : TypeId) (hop : o.op = Op.call { callee := Callee.builtin Builtin.append, args := #[s, x], argTypes := #[t, t] })
    (base : Nat) (e : TypeId) (i : TypeInfo) (z : Value) (size bytes : Nat) (h1 : P.underlying t = some (.slice e)) (h2 : P.info? e = some i) (h3 : i.zero = some z) (h4 : i.size = size) (h5 : i.bytes = bytes) (h6 : z.cells.size = size) (h7 : 0 < size)
    (v : Value) (n : Nat) (xs : List Value) (hs : a.eval s = v) (hown : w.ownsRow base e size v n xs)
    (ad : Addr) (m c : Nat) (news : List Value) (hx : a.eval x = .slice (some ad) m c) (hn : news.length = m * size) (hc : ∀ j u, news[j]? = some u → w.cell? (ad.add j) = some u) (h1c : ∀ u ∈ news, u.oneCell' = true)
    (b1 : n + m ≤ maxLen) (b2 : (n + m) * bytes ≤ 140737488355328) (hbase : base ≤ w.heap.size)
    (hK : ∀ v' w', w'.ownsRow base e size v' (n + m) (xs ++ news) → w.grownBy w' v.ownBlock → K (a.put o.dst v') w') :
    if Region.wanted o (yielded ops a.tmps) = true then Oper.wp P o a w K Q else E := by
  have hw : Region.wanted o (yielded ops a.tmps) = true := by simp [Region.wanted, hg]
  rw [if_pos hw]
  obtain ⟨v', w', hrun, r1, r2, _⟩ := run_append_own (P := P) w base t o.type e i z size bytes h1 h2 h3 h4 h5 h6 h7 v n xs hown ad m c news hn hc h1c b1 b2 hbase
  unfold Oper.wp
  simp [execOp, hop, resolve, invoke, builtin, hs, hx, hrun, Result.andThen]
  exact hK v' w' r1 r2

/-- The nodes that the Universe at U holds: their two sides. -/
def NS (U : Nat) (w : World) (N : List (Nat × Nat)) : Prop :=
  ∃ v xs, w.cell? ⟨U, 11, none⟩ = some v ∧ w.frozen? ⟨U, 11, none⟩ = false ∧ U < w.heap.size ∧ w.ownsRow (U + 1) 96 4 v N.length xs ∧
    ∀ i z o, N[i]? = some (z, o) → xs[i * 4]? = some (.int .u32 (z : Int)) ∧ xs[i * 4 + 1]? = some (.int .u32 (o : Int))

theorem own_ne {U : Nat} {w : World} {e : TypeId} {size n : Nat} {v : Value} {xs : List Value} (h : w.ownsRow (U + 1) e size v n xs) : some U ≠ v.ownBlock := by
  intro hh
  have := (h.lt U hh.symm).1
  omega

theorem cells4 (w : World) (t : TypeId) (a b c d : Value) : ∀ j u, [a, b, c, d][j]? = some u → (w.alloc (.cells #[a, b, c, d] t)).drew.cell? ((⟨w.heap.size, 0, none⟩ : Addr).add j) = some u := by
  intro j u hu
  have hj : j < 4 := by
    have := (List.getElem?_eq_some_iff.1 hu).1
    simpa using this
  rw [add_zero_addr]
  have hr := World.rowIs_alloc w #[a, b, c, d] t (fun i => ([a, b, c, d][i]?).getD undef) (by
    intro i hi
    have hi' : i < 4 := hi
    have c : i = 0 ∨ i = 1 ∨ i = 2 ∨ i = 3 := by omega
    rcases c with rfl | rfl | rfl | rfl <;> rfl)
  have := hr.cell (i := j) hj
  show (w.alloc (.cells #[a, b, c, d] t)).cell? _ = _
  rw [this, hu]
  rfl

/-- Behind the append: the universe's cell is as it was; the slice is one. -/
theorem after_node {U n : Nat} {w w' : World} {o : Obj} {v v' : Value} {xs : List Value} (hU : U < w.heap.size) (hc : w.cell? ⟨U, 11, none⟩ = some v) (hf : w.frozen? ⟨U, 11, none⟩ = false) (hown0 : w.ownsRow (U + 1) 96 4 v n xs)
    {ys : List Value} (hown : w'.ownsRow (U + 1) 96 4 v' (n + 1) ys) (hgrow : (w.alloc o).drew.grownBy w' v.ownBlock) :
    ∃ G cap, v' = .slice (some ⟨G, 0, none⟩) (n + 1) cap ∧ w'.cell? ⟨U, 11, none⟩ = some v ∧ w'.frozen? ⟨U, 11, none⟩ = false ∧ Hid (w'.ownsRow (U + 1) 96 4 (.slice (some ⟨G, 0, none⟩) (n + 1) cap) (n + 1) ys ∧ Below U w w' ∧ U < w'.heap.size) := by
  have hs : (w.alloc o).drew.heap.size = w.heap.size + 1 := by show (w.heap.push o).size = _; simp
  obtain ⟨G, cap, hv⟩ : ∃ G cap, v' = .slice (some ⟨G, 0, none⟩) (n + 1) cap := by
    rcases hown.2 with ⟨_, h⟩ | ⟨g, cap, cur, h, _⟩
    · omega
    · exact ⟨g, cap, h⟩
  have hblk : ∀ k, k ≤ U → w'.heap[k]? = w.heap[k]? := fun k hk => (hgrow.block k (by rw [hs]; omega) (fun hh => by
    have := (hown0.lt k hh.symm).1
    omega)).trans (Below.heap_alloc w o k (by omega))
  have hsz := hgrow.size
  refine ⟨G, cap, hv, (World.cell?_of_block (a := ⟨U, 11, none⟩) (hblk U (Nat.le_refl _))).trans hc, (World.frozen?_of_block (a := ⟨U, 11, none⟩) (hblk U (Nat.le_refl _))).trans hf, hv ▸ hown, ⟨hgrow.os, hgrow.tape, hgrow.output, by omega, fun k hk => hblk k (by omega)⟩, by omega⟩

set_option maxHeartbeats 4000000 in
theorem bu9 (U b a len cap : Nat) (v z o p x : Nat) (V : Value) (xs : List Value) (n : Nat) (w : World) (A : Act) (hB : Bf U b a len cap A) (h6 : slot A 6 = .int .u32 ((p : Nat) : Int)) (h8 : slot A 8 = .int .u32 ((z : Nat) : Int)) (h9 : slot A 9 = .int .u32 ((o : Nat) : Int))
    (hp : p ≤ 1073741824) (hlen : 0 < len) (hn : n ≤ 2000) (hc0 : w.cell? ⟨b, a, none⟩ = some (.int .u32 (x : Int))) (hcU : w.cell? ⟨U, 11, none⟩ = some V) (hfU : w.frozen? ⟨U, 11, none⟩ = false) (hUs : U < w.heap.size) (hown : w.ownsRow (U + 1) 96 4 V n xs) (hbs : b < w.heap.size) (Q : Exit → Act → World → Prop)
    (hnext : Hid (∀ A' w' G gc pr, Bf U b a len cap A' → w'.cell? ⟨U, 11, none⟩ = some (.slice (some ⟨G, 0, none⟩) (n + 1) gc) → w'.frozen? ⟨U, 11, none⟩ = false → w'.ownsRow (U + 1) 96 4 (.slice (some ⟨G, 0, none⟩) (n + 1) gc) (n + 1) (xs ++ [.int .u32 (z : Int), .int .u32 (o : Int), pr, .int .u32 (p : Int)]) → Below U w w' → U < w'.heap.size → Q .normal A' w')) :
    Code.wp Yba.prog (seqPart 9 (bodyOf Yba.f11)) Q A w := by
  obtain ⟨hF, h0, h1⟩ := hB
  obtain ⟨u, rfl, hu⟩ := to_lit85 hF
  have e0 := (hu 0 (by omega)).symm.trans h0
  have e1 := (hu 1 (by omega)).symm.trans h1
  have e6 := (hu 6 (by omega)).symm.trans h6
  have e8 := (hu 8 (by omega)).symm.trans h8
  have e9 := (hu 9 (by omega)).symm.trans h9
  clear hu h0 h1 h6 h8 h9 hF
  conv => arg 2; whnf
  rw [e0, e1, e6, e8, e9]
  clear e0 e1 e6 e8 e9
  obtain ⟨i0, hi, hz0, hz1, hz2⟩ := info_parts info96
  have hO := hide hown
  clear hown
  refine wp_plainly ?_
  have hOd := hide (fun o : Obj => (show (w.alloc o).drew.ownsRow (U + 1) 96 4 V n xs from hO.out.alloc o))
  have hszd := hide (fun o : Obj => (show U + 1 ≤ (w.alloc o).drew.heap.size from by show _ ≤ (w.heap.push o).size; simp; omega))
  go_region_law ((refine step_append_own (by rfl) (.tmp 61) (.tmp 73) 54 (by rfl) (U + 1) 96 i0 _ 4 16 Yba.underlying54 hi hz0 hz1 hz2 (by rfl) (by decide) V n xs (by rfl) (hOd.out _) ⟨w.heap.size, 0, none⟩ 1 1 [_, _, _, _] (by rfl) (by rfl) (cells4 w 96 _ _ _ _) (by intro u hu; simp only [List.mem_cons, List.not_mem_nil, or_false] at hu; rcases hu with rfl | rfl | rfl | rfl <;> rfl) (by unfold maxLen; omega) (by omega) (hszd.out _) ?_; intro v' w' hown hgrow; obtain ⟨G, gc, hv, y1, y2, HO⟩ := after_node hUs hcU hfU hO.out hown hgrow; rw [hv]; clear hown hgrow hv))
  all_goals
    obtain ⟨k1, k2, k3⟩ := HO.out
    have hg : w'.grownBy (w'.setCell ⟨U, 11, none⟩ (.slice (some ⟨G, 0, none⟩) (n + 1) gc)) (some U) := ⟨rfl, rfl, rfl, by rw [size_setCell]; exact Nat.le_refl _, fun k _ hne => Below.heap_setCell _ ⟨U, 11, none⟩ _ k (fun e => hne (by rw [e]))⟩
    refine hnext.out _ _ G gc _ ⟨⟨rfl, rfl⟩, rfl, rfl⟩ (World.cell?_setCell_same _ _ _ y1) ?_ (k1.kept hg (Or.inr (own_ne k1).symm)) (k2.setCell (Nat.le_refl _) _) (by rw [size_setCell]; exact k3)
    simpa using y2

set_option maxHeartbeats 1000000 in
theorem bu10 (U b a len cap n G gc : Nat) (w : World) (A : Act) (hB : Bf U b a len cap A) (hn : n ≤ 2000) (hcU : w.cell? ⟨U, 11, none⟩ = some (.slice (some ⟨G, 0, none⟩) (n + 1) gc)) (Q : Exit → Act → World → Prop)
    (hnext : Hid (∀ A', Fr 85 A' → slot A' 4 = .int .u32 ((2147483648 + n : Nat) : Int) → Q .normal A' w)) :
    Code.wp Yba.prog (seqPart 10 (bodyOf Yba.f11)) Q A w := by
  obtain ⟨hF, h0, h1⟩ := hB
  obtain ⟨u, rfl, hu⟩ := to_lit85 hF
  have e0 := (hu 0 (by omega)).symm.trans h0
  have e1 := (hu 1 (by omega)).symm.trans h1
  clear hu h0 h1 hF
  conv => arg 2; whnf
  rw [e0, e1]
  clear e0 e1
  have hor := or32 2147483648 n (by omega) (by omega)
  have he : 2147483648 ||| n = 2147483648 + n := by
    have := Nat.two_pow_add_eq_or_of_lt (i := 31) (b := n) (by omega) 1
    simpa using this.symm
  rw [he] at hor
  clear he
  have hor' : bits .or .u32 2147483648 (n : Int) = ((2147483648 + n : Nat) : Int) := hor
  clear hor
  go_wp2
  exact hnext.out _ ⟨rfl, rfl⟩ rfl

theorem body11 : bodyOf Yba.f11 = Code.seq (seqPart 0 (bodyOf Yba.f11)) (Code.seq (seqPart 1 (bodyOf Yba.f11)) (Code.seq (seqPart 2 (bodyOf Yba.f11)) (Code.seq (seqPart 3 (bodyOf Yba.f11)) (Code.seq (seqPart 4 (bodyOf Yba.f11)) (Code.seq (seqPart 5 (bodyOf Yba.f11)) (Code.seq (seqPart 6 (bodyOf Yba.f11)) (Code.seq (seqPart 7 (bodyOf Yba.f11)) (Code.seq (seqPart 8 (bodyOf Yba.f11)) (Code.seq (seqPart 9 (bodyOf Yba.f11)) (Code.seq (seqPart 10 (bodyOf Yba.f11)) Code.ret)))))))))) := by kernel_rfl

/-- What a call of build leaves. -/
def Built (U B : Nat) (w : World) (N : List (Nat × Nat)) (l : List Nat) (s : Nat) (w' : World) : Prop :=
  ∃ N', NS U w' (N ++ N') ∧ N'.length + 1 = l.length ∧ Enc (N ++ N') B s l ∧ Below U w w'

theorem NS.push {U n z o : Nat} {w : World} {N : List (Nat × Nat)} {V pr pb : Value} {xs : List Value} (hN : N.length = n) (hxs : xs.length = n * 4) (hx : ∀ i z o, N[i]? = some (z, o) → xs[i * 4]? = some (.int .u32 (z : Int)) ∧ xs[i * 4 + 1]? = some (.int .u32 (o : Int)))
    (hc : w.cell? ⟨U, 11, none⟩ = some V) (hf : w.frozen? ⟨U, 11, none⟩ = false) (hU : U < w.heap.size) (hown : w.ownsRow (U + 1) 96 4 V (n + 1) (xs ++ [.int .u32 (z : Int), .int .u32 (o : Int), pr, pb])) : NS U w (N ++ [(z, o)]) := by
  refine ⟨V, xs ++ [.int .u32 (z : Int), .int .u32 (o : Int), pr, pb], hc, hf, hU, ?_, ?_⟩
  · rw [List.length_append, hN]; exact hown
  · intro i z' o' hi
    by_cases h : i < N.length
    · rw [List.getElem?_append_left h] at hi
      obtain ⟨g1, g2⟩ := hx i z' o' hi
      exact ⟨by rw [List.getElem?_append_left (by omega)]; exact g1, by rw [List.getElem?_append_left (by omega)]; exact g2⟩
    · rw [List.getElem?_append_right (by omega)] at hi
      have hi0 : i = n := by
        have := (List.getElem?_eq_some_iff.1 hi).1
        simp at this
        omega
      subst hi0
      rw [hN, Nat.sub_self] at hi
      obtain ⟨rfl, rfl⟩ : z = z' ∧ o = o' := by simpa using hi
      constructor
      · rw [List.getElem?_append_right (by omega), hxs, Nat.sub_self]; rfl
      · rw [List.getElem?_append_right (by omega), hxs, show i * 4 + 1 - i * 4 = 1 by omega]; rfl

theorem build (U b : Nat) (e : Nat → Nat) (hbU : b < U) : ∀ len a cap B (w : World) (N : List (Nat × Nat)), 1 ≤ len → len ≤ 1024 → len ≤ cap → (∀ t, t < len → w.cell? ⟨b, a + t, none⟩ = some (.int .u32 (e (a + t) : Int))) →
    (∀ t, t < len → 0 < e (a + t) ∧ e (a + t) < 2147483648) → (∀ p q, p < q → q < len → e (a + p) < e (a + q)) → (∀ t, t < len → e (a + t) / 2 ^ B = e a / 2 ^ B) → N.length + len ≤ 2000 → NS U w N →
    Calls Yba.prog 11 #[.pointer (some ⟨U, 0, none⟩), .slice (some ⟨b, a, none⟩) len cap] w fun r w' => ∃ s : Nat, r = .returned (.int .u32 (s : Int)) ∧ Built U B w N (seg e a len) s w' := by
  intro len
  induction len using Nat.strongRecOn with
  | _ len ih =>
  intro a cap B w N h1 hlen hcap hc hlt hasc hagree hN hNS
  by_cases hl1 : len = 1
  · subst hl1
    have g := hlt 0 (by omega)
    refine (build1 U b a cap (e a) w (hc 0 (by omega))).mono ?_
    rintro r w' ⟨rfl, rfl⟩
    refine ⟨e a, rfl, [], by simpa using hNS, by simp [seg], ?_, Below.refl _ _⟩
    have : seg e a 1 = [e a] := by simp [seg]
    rw [this, List.append_nil]
    exact .leaf B _ g.1 g.2
  · have h2 : 2 ≤ len := by omega
    have hab : e a < e (a + (len - 1)) := hasc 0 (len - 1) (by omega) (by omega)
    have hx1 := hlt 0 (by omega)
    have hy1 := hlt (len - 1) (by omega)
    refine calls_of_wp Yba.func11 rfl ?_
    show Code.wp Yba.prog (bodyOf Yba.f11) _ _ _
    have hF0 : Fr 85 { tmps := #[.pointer (some ⟨U, 0, none⟩), .slice (some ⟨b, a, none⟩) len cap] ++ Array.replicate (Yba.f11.ntmps - (#[.pointer (some ⟨U, 0, none⟩), .slice (some ⟨b, a, none⟩) len cap] : Array Value).size) undef, defers := [] } := ⟨by kernel_rfl, rfl⟩
    generalize hA : ({ tmps := #[.pointer (some ⟨U, 0, none⟩), .slice (some ⟨b, a, none⟩) len cap] ++ Array.replicate (Yba.f11.ntmps - (#[.pointer (some ⟨U, 0, none⟩), .slice (some ⟨b, a, none⟩) len cap] : Array Value).size) undef, defers := [] } : Act) = A at hF0 ⊢
    have t0 : slot A 0 = .pointer (some ⟨U, 0, none⟩) := by rw [← hA]; kernel_rfl
    have t1 : slot A 1 = .slice (some ⟨b, a, none⟩) len cap := by rw [← hA]; kernel_rfl
    clear hA
    rw [body11]
    refine bu0 U b a len cap (e a) (e (a + (len - 1))) w A ⟨hF0, t0, t1⟩ h2 hlen (hc 0 (by omega)) (hc (len - 1) (by omega)) hx1.2 hy1.2 _ _ (hide ?_)
    intro A1 nq hB1 h5 h6
    have hx0 : 0 < e a ^^^ e (a + (len - 1)) := by
      rcases Nat.eq_zero_or_pos (e a ^^^ e (a + (len - 1))) with h | h
      · have := xor0 h; omega
      · exact h
    have hxlt : e a ^^^ e (a + (len - 1)) < 2147483648 := Nat.xor_lt_two_pow (n := 31) hx1.2 hy1.2
    refine wp_seq (bu4 U b a len cap _ (w.drewN nq) A1 hB1 h5 h6 hx0 hxlt _ (hide ?_))
    intro A2 p j hB2 h6 hp hj hxj hxand
    obtain ⟨hhead, hbit0, hbit1⟩ := xor_top hab hxj hxand
    have hc' : ∀ t, t < len → (w.drewN nq).cell? ⟨b, a + t, none⟩ = some (.int .u32 (e (a + t) : Int)) := hc
    refine bu6 U b a len cap e p j (w.drewN nq) A2 hB2 h6 hp hj hlen hc' (fun t ht => (hlt t ht).2) hbit1 h1 _ _ (hide ?_)
    intro A3 k hB3 h6 h7 hk hzero hone
    have hk0 : 0 < k := by
      rcases Nat.eq_zero_or_pos k with h | h
      · subst h
        rw [Nat.add_zero] at hone
        omega
      · exact h
    have hheads : ∀ t, t < len → e (a + t) / 2 ^ (j + 1) = e a / 2 ^ (j + 1) := by
      intro t ht
      have g1 : e a ≤ e (a + t) := by
        by_cases h : t = 0
        · subst h; exact Nat.le_refl _
        · exact Nat.le_of_lt (hasc 0 t (by omega) ht)
      have g2 : e (a + t) ≤ e (a + (len - 1)) := by
        by_cases h : t = len - 1
        · subst h; exact Nat.le_refl _
        · exact Nat.le_of_lt (hasc t (len - 1) (by omega) (by omega))
      have d1 := Nat.div_le_div_right (c := 2 ^ (j + 1)) g1
      have d2 := Nat.div_le_div_right (c := 2 ^ (j + 1)) g2
      omega
    have hones : ∀ t, k ≤ t → t < len → e (a + t) / 2 ^ j % 2 = 1 := by
      intro t h1 h2
      have g1 : e (a + k) ≤ e (a + t) := by
        by_cases h : t = k
        · subst h; exact Nat.le_refl _
        · exact Nat.le_of_lt (hasc k t (by omega) h2)
      have := bit_mono (j := j) g1 ((hheads k hk).trans (hheads t h2).symm)
      have := Nat.mod_lt (e (a + t) / 2 ^ j) (show 0 < 2 by omega)
      omega
    refine bu7 U b a len cap k p (w.drewN nq) A3 hB3 h6 h7 hk hlen hcap _ _ (fun s w' => Built U j (w.drewN nq) N (seg e a k) s w')
      (hide (ih k hk a cap j (w.drewN nq) N hk0 (by omega) (by omega) (fun t ht => hc' t (by omega)) (fun t ht => hlt t (by omega)) (fun p q hpq hq => hasc p q hpq (by omega))
        (fun t ht => head_of (hheads t (by omega)) ((hzero t ht).trans hbit0.symm)) (by omega) hNS)) (hide ?_)
    rintro A4 z w2 hB4 h6 h7 h8 ⟨N1, hNS2, hN1, hE1, hb2⟩
    have hN1' : N1.length + 1 = k := by simpa [seg] using hN1
    refine bu8 U b a len cap k p z w2 A4 hB4 h6 h7 h8 hk hlen hcap _ _ (fun s w' => Built U j w2 (N ++ N1) (seg e (a + k) (len - k)) s w')
      (hide (ih (len - k) (by omega) (a + k) (cap - k) j w2 (N ++ N1) (by omega) (by omega) (by omega)
        (fun t ht => by rw [Nat.add_assoc, hb2.cell (p := ⟨b, a + (k + t), none⟩) hbU]; exact hc' (k + t) (by omega))
        (fun t ht => by rw [Nat.add_assoc]; exact hlt (k + t) (by omega)) (fun p q hpq hq => by rw [Nat.add_assoc, Nat.add_assoc]; exact hasc (k + p) (k + q) (by omega) (by omega))
        (fun t ht => by rw [Nat.add_assoc]; exact head_of ((hheads (k + t) (by omega)).trans (hheads k hk).symm) ((hones (k + t) (by omega) (by omega)).trans hone.symm)) (by rw [List.length_append]; omega) hNS2)) (hide ?_)
    rintro A5 o w3 hB5 h6 h8 h9 ⟨N2, hNS3, hN2, hE2, hb3⟩
    have hN2' : N2.length + 1 = len - k := by simpa [seg] using hN2
    obtain ⟨V, xs, hcU, hfU, hUs, hown, hxs⟩ := hNS3
    have hb13 : Below U (w.drewN nq) w3 := hb2.trans hb3
    have hpow : 2 ^ j ≤ 2 ^ 30 := Nat.pow_le_pow_right (by omega) hj
    refine wp_seq (bu9 U b a len cap 0 z o p (e a) V xs (N ++ N1 ++ N2).length w3 A5 hB5 h6 h8 h9 (by omega) (by omega) (by simp only [List.length_append]; omega) ?_ hcU hfU hUs hown (by omega) _ (hide ?_))
    · have := hb13.cell (p := ⟨b, a, none⟩) hbU
      rw [this]
      exact hc 0 (by omega)
    intro A6 w4 G gc pr hB6 hcU6 hfU6 hown6 hb4 hU6
    refine wp_seq (bu10 U b a len cap (N ++ N1 ++ N2).length G gc w4 A6 hB6 (by simp only [List.length_append]; omega) hcU6 _ (hide ?_))
    intro A7 hF7 h4
    refine wp_ret ?_
    refine bodyPost_ret (results_tmp (t := 4) (by kernel_rfl) _ _ _) hF7.2 ?_
    refine ⟨2147483648 + (N ++ N1 ++ N2).length, ?_, N1 ++ N2 ++ [(z, o)], ?_, ?_, ?_, ?_⟩
    · show Ending.returned (slot A7 4) = _
      rw [h4]
    · have h := NS.push (n := (N ++ N1 ++ N2).length) rfl hown.1 hxs hcU6 hfU6 hU6 hown6
      simpa [List.append_assoc] using h
    · simp only [List.length_append, List.length_singleton, seg, List.length_map, List.length_range]
      omega
    · have hjB : j < B := top_lt (hagree (len - 1) (by omega)).symm (fun h => by rw [h] at hbit0; omega)
      have hn := Enc.node (N := N ++ (N1 ++ N2 ++ [(z, o)])) j (N ++ N1 ++ N2).length z o (seg e a k) (seg e (a + k) (len - k)) (by simp [← List.append_assoc]) (by simp only [List.length_append]; omega)
        (by have := hE1.grow (N2 ++ [(z, o)]); simpa [List.append_assoc] using this) (by have := hE2.grow [(z, o)]; simpa [List.append_assoc] using this)
      rw [seg_append e a k len (by omega)] at hn
      exact hn.deep hjB
    · have B0 : Below U w (w.drewN nq) := Below_drewN (Below.refl _ _) nq
      exact (B0.trans hb13).trans hb4
end Go.Proofs.Ybulkdfzs.S
