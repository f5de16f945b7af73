/- Nodes in memory: the neighbours of all nodes, in a row. -/
import Derived.Test.YtkcccajiplchpaaR4
import Derived.Test.YtkcccajiplchpaaR0
import Derived.Deep.RegionHeld3
import Derived.Deep.RegionLaw
import Derived.Deep.Light
import Derived.Maps.RangeWalk
namespace Go.Proofs.Ytkcccajiplchpaa
open Go.RowKit
set_option linter.unusedVariables false

theorem Try.infoL : (Try.prog.info? 42).map (fun i => (i.zero, i.size, i.bytes)) = some (some (.agg #[.int .i64 0, .int .i64 0, .int .i64 0, .int .i64 0, .int .i64 0]), 5, 40) := by kernel_rfl
theorem Try.infoLs : (Try.prog.info? 39).map (fun i => (i.zero, i.size, i.bytes)) = some (some (.slice none 0 0), 1, 24) := by kernel_rfl

/-- The neighbours of node i, in five cells. -/
def five (L : Lk) (i : Nat) : List Value := [.int .i64 (idx (L 1 i)), .int .i64 (idx (L 2 i)), .int .i64 (idx (L 3 i)), .int .i64 (idx (L 4 i)), .int .i64 (idx (L 5 i))]
def flat (L : Lk) (n : Nat) : List Value := (List.range n).flatMap (five L)
theorem flat_succ (L : Lk) (n : Nat) : flat L (n + 1) = flat L n ++ five L n := by
  unfold flat; rw [List.range_succ, List.flatMap_append]; simp

/-- 'append(row, x)' of one element of several cells, whatever order is drawn. -/
theorem step_appK {P : Program} {ops : Array Oper} {o : Oper} {a : Act} {K : Act → World → Prop} {Q : Exit → Act → World → Prop} {E : Prop}
    (hg : o.guard = none) (s x : Operand) (t : TypeId) (hop : o.op = Op.call { callee := Callee.builtin Builtin.append, args := #[s, x], argTypes := #[t, t] })
    (base : Nat) (e : TypeId) (i : TypeInfo) (z : Value) (size bytes : Nat) (ht : P.underlying t = some (.slice e)) (hi : P.info? e = some i) (hz : i.zero = some z) (hsize : i.size = size) (hby : i.bytes = bytes) (hzs : z.cells.size = size) (h0 : 0 < size)
    (w : World) (A : Option Addr) (n c : Nat) (xs us : List Value) (hown : w.ownsRow base e size (.slice A n c) n xs) (hus : us.length = size) (h1 : ∀ u ∈ us, u.oneCell' = true)
    (hs : a.eval s = .slice A n c) (hx : a.eval x = .slice (some ⟨w.heap.size, 0, none⟩) 1 1)
    (hn : n ≤ 1000000000) (hb : bytes ≤ 64) (hbase : base ≤ w.heap.size)
    (h : ∀ A' c' w', w'.ownsRow base e size (.slice A' (n + 1) c') (n + 1) (xs ++ us) → w.grownBy w' (A.map (·.block)) → K (a.put o.dst (.slice A' (n + 1) c')) w') :
    if Region.wanted o (yielded ops a.tmps) = true then Oper.wp P o a (w.alloc (.cells us.toArray e)) K Q else E := by
  have hw : Region.wanted o (yielded ops a.tmps) = true := by simp [Region.wanted, hg]
  rw [if_pos hw]
  have hc : ∀ j u', us[j]? = some u' → (w.alloc (.cells us.toArray e)).cell? ((⟨w.heap.size, 0, none⟩ : Addr).add j) = some u' := by
    intro j u' hj
    rw [add_lit, Nat.zero_add]
    rw [cell_of_row _ _ j us.toArray e _ (heap_alloc_new w _)]
    simpa using hj
  have hm : (n + 1) * bytes ≤ 140737488355328 := Nat.le_trans (Nat.mul_le_mul_left _ hb) (by omega)
  obtain ⟨v', w', hr, h2, h3, h4⟩ := run_append_own (P := P) (w.alloc (.cells us.toArray e)) base t o.type e i z size bytes ht hi hz hsize hby hzs h0 _ n xs (hown.alloc _)
    ⟨w.heap.size, 0, none⟩ 1 1 us (by simpa using hus) hc h1 (by unfold maxLen; omega) hm (by simp; omega)
  unfold Oper.wp
  simp only [execOp, hop, resolve, invoke, builtin, Sem.run_bind, Sem.run_pure, Result.andThen_ok, List.map_toArray, List.map_cons, List.map_nil, hs, hx, hr]
  have hob : (Value.slice A n c).ownBlock = A.map (·.block) := by cases A <;> rfl
  rw [hob] at h3
  have hgrow : w.grownBy w' (A.map (·.block)) := ⟨h3.os, h3.tape, h3.output, by have := h3.size; simp at this; omega, fun k hk hne => by
    rw [h3.block k (by simp; omega) hne]; exact Below.heap_alloc _ _ _ hk⟩
  obtain ⟨A', c', rfl⟩ := own_form h2
  exact h A' c' w' h2 hgrow

/-- The same, in the walk of a list. -/
theorem wpList_appK {P : Program} {ops : Array Oper} {rest : List Oper} {o : Oper} {a : Act} {Q : Exit → Act → World → Prop} (s x : Operand) (t : TypeId)
    (base : Nat) (e : TypeId) (i : TypeInfo) (z : Value) (size bytes : Nat) (w : World) (A : Option Addr) (n c : Nat) (xs us : List Value) (hown : w.ownsRow base e size (.slice A n c) n xs) (hus : us.length = size) (h1 : ∀ u ∈ us, u.oneCell' = true)
    (hg : o.guard = none) (hop : o.op = Op.call { callee := Callee.builtin Builtin.append, args := #[s, x], argTypes := #[t, t] })
    (ht : P.underlying t = some (.slice e)) (hi : P.info? e = some i) (hz : i.zero = some z) (hsize : i.size = size) (hby : i.bytes = bytes) (hzs : z.cells.size = size) (h0 : 0 < size)
    (hs : a.eval s = .slice A n c) (hx : a.eval x = .slice (some ⟨w.heap.size, 0, none⟩) 1 1)
    (hn : n ≤ 1000000000) (hb : bytes ≤ 64) (hbase : base ≤ w.heap.size)
    (h : ∀ A' c' w', w'.ownsRow base e size (.slice A' (n + 1) c') (n + 1) (xs ++ us) → w.grownBy w' (A.map (·.block)) → wpList P ops Q rest (a.put o.dst (.slice A' (n + 1) c')) w') :
    wpList P ops Q (o :: rest) a (w.alloc (.cells us.toArray e)) := by
  refine wpList_plain hg fun K hK => ?_
  have hw : Region.wanted o (yielded ops a.tmps) = true := by simp [Region.wanted, hg]
  have := step_appK (P := P) (ops := ops) (o := o) (a := a) (K := K) (Q := Q) (E := False) hg s x t hop base e i z size bytes ht hi hz hsize hby hzs h0 w A n c xs us hown hus h1 hs hx hn hb hbase (fun A' c' w' p1 p2 => hK _ _ (h A' c' w' p1 p2))
  rw [if_pos hw] at this
  exact this


theorem step_build5 {a : Act} {W : World} {i1 i2 i3 i4 i5 : Int} {K : Act → World → Prop} {Q : Exit → Act → World → Prop} {o : Oper} (ho : o.op = Op.build 42 #[(0, .tmp 31), (1, .tmp 37), (2, .tmp 43), (3, .tmp 49), (4, .tmp 55)])
    (h1 : a.tmps[31]?.getD undef = .int .i64 i1) (h2 : a.tmps[37]?.getD undef = .int .i64 i2) (h3 : a.tmps[43]?.getD undef = .int .i64 i3) (h4 : a.tmps[49]?.getD undef = .int .i64 i4) (h5 : a.tmps[55]?.getD undef = .int .i64 i5)
    (h : K (a.put o.dst (.agg #[.int .i64 i1, .int .i64 i2, .int .i64 i3, .int .i64 i4, .int .i64 i5])) W) : Oper.wp Try.prog o a W K Q := by
  unfold Oper.wp
  simp only [execOp, ho]
  simp [go_sem, h1, h2, h3, h4, h5]
  exact h
theorem step_slice5 {a : Act} {W : World} {K : Act → World → Prop} {Q : Exit → Act → World → Prop} {o : Oper} (ho : o.op = Op.buildSlice 39 1 #[(0, .tmp 56)]) {i1 i2 i3 i4 i5 : Int}
    (h1 : a.tmps[56]?.getD undef = .agg #[.int .i64 i1, .int .i64 i2, .int .i64 i3, .int .i64 i4, .int .i64 i5])
    (h : K (a.put o.dst (.slice (some ⟨W.heap.size, 0, none⟩) 1 1)) (W.alloc (.cells #[.int .i64 i1, .int .i64 i2, .int .i64 i3, .int .i64 i4, .int .i64 i5] 42))) : Oper.wp Try.prog o a W K Q := by
  unfold Oper.wp
  simp only [execOp, ho]
  simp [go_sem, h1]
  exact h
theorem step_assign {P : Program} {a : Act} {W : World} {K : Act → World → Prop} {Q : Exit → Act → World → Prop} {o : Oper} {x : Nat} {v : Value} (ho : o.op = Op.assign (.tmp x))
    (h1 : a.tmps[x]?.getD undef = v) (h : K (a.put o.dst v) W) : Oper.wp P o a W K Q := by
  unfold Oper.wp
  simp only [execOp, ho]
  simp [go_sem, h1]
  exact h
theorem wp_tail5 {ops : Array Oper} {Q : Exit → Act → World → Prop} {o1 o2 o3 o4 : Oper} (a : Act) (W : World) (i1 i2 i3 i4 i5 : Int) (B : Nat) (A5 : Option Addr) (j c5 : Nat) (xs : List Value) (hown : W.ownsRow B 42 5 (.slice A5 j c5) j xs)
    (g1 : o1.guard = none) (g2 : o2.guard = none) (g3 : o3.guard = none) (g4 : o4.guard = none) (d1 : o1.dst = some 56) (d2 : o2.dst = some 57) (d3 : o3.dst = some 58) (d4 : o4.dst = some 7)
    (p1 : o1.op = Op.build 42 #[(0, .tmp 31), (1, .tmp 37), (2, .tmp 43), (3, .tmp 49), (4, .tmp 55)]) (p2 : o2.op = Op.buildSlice 39 1 #[(0, .tmp 56)]) (p3 : o3.op = Op.call { callee := Callee.builtin Builtin.append, args := #[.tmp 25, .tmp 57], argTypes := #[39, 39] }) (p4 : o4.op = Op.assign (.tmp 58))
    (hs : 66 ≤ a.tmps.size) (h1 : a.tmps[31]?.getD undef = .int .i64 i1) (h2 : a.tmps[37]?.getD undef = .int .i64 i2) (h3 : a.tmps[43]?.getD undef = .int .i64 i3) (h4 : a.tmps[49]?.getD undef = .int .i64 i4) (h5 : a.tmps[55]?.getD undef = .int .i64 i5)
    (h25 : a.tmps[25]?.getD undef = .slice A5 j c5) (hj : j ≤ 1000000000) (hB : B ≤ W.heap.size)
    (h : ∀ A6 c6 w6, w6.ownsRow B 42 5 (.slice A6 (j + 1) c6) (j + 1) (xs ++ [.int .i64 i1, .int .i64 i2, .int .i64 i3, .int .i64 i4, .int .i64 i5]) → W.grownBy w6 (A5.map (·.block)) →
      Q .normal ((((a.put (some 56) (.agg #[.int .i64 i1, .int .i64 i2, .int .i64 i3, .int .i64 i4, .int .i64 i5])).put (some 57) (.slice (some ⟨W.heap.size, 0, none⟩) 1 1)).put (some 58) (.slice A6 (j + 1) c6)).put (some 7) (.slice A6 (j + 1) c6)) w6) :
    wpList Try.prog ops Q [o1, o2, o3, o4] a W := by
  obtain ⟨i0, hi0, hz0, hz1, hz2⟩ := info_parts Try.infoL
  have s56 : 56 < a.tmps.size := by omega
  have s57 : 57 < a.tmps.size := by omega
  have s58 : 58 < a.tmps.size := by omega
  refine wpList_plain g1 fun K hK => step_build5 p1 h1 h2 h3 h4 h5 (hK _ _ ?_)
  refine wpList_plain g2 fun K hK => step_slice5 p2 (i1 := i1) (i2 := i2) (i3 := i3) (i4 := i4) (i5 := i5) (by rw [d1]; simp [Act.put, s56]) (hK _ _ ?_)
  refine wpList_appK (us := [.int .i64 i1, .int .i64 i2, .int .i64 i3, .int .i64 i4, .int .i64 i5]) (.tmp 25) (.tmp 57) 39 B 42 i0 _ 5 40 W A5 j c5 xs hown rfl ?_ g3 p3 Try.underlying39 hi0 hz0 hz1 hz2 rfl (by decide) ?_ ?_ hj (by omega) hB ?_
  · simp [Value.oneCell']
  · rw [d1, d2]
    have : a.tmps.getD 25 undef = a.tmps[25]?.getD undef := by simp
    simp [Act.eval, Act.put, h25]
  · rw [d1, d2]
    simp [Act.eval, Act.put, s57]
  · intro A6 c6 w6 ho hg
    rw [d1, d2, d3]
    refine wpList_plain g4 fun K hK => step_assign p4 (v := .slice A6 (j + 1) c6) (by simp [Act.put, s58]) (hK _ _ (wpList_nil ?_))
    rw [d4]
    exact h A6 c6 w6 ho hg

/-! The states behind the steps. -/
def stepS (s : Nat × Lk) (o a b : Int) : Nat × Lk :=
  if o = 0 then (s.1 + 1, newL s.2 s.1) else (s.1, if o = 1 then appendL s.2 a.toNat b.toNat else if o = 2 then insertL s.2 a.toNat b.toNat else unlinkL s.2 a.toNat)
def st (o a b : Nat → Int) : Nat → Nat × Lk
  | 0 => (0, fun _ _ => none)
  | i + 1 => stepS (st o a b i) (o i) (a i) (b i)
def okS (s : Nat × Lk) (o a b : Int) : Prop :=
  o = 0 ∨ (o = 1 ∧ ∃ x y : Nat, a = x ∧ b = y ∧ x < s.1 ∧ y < s.1) ∨ (o = 2 ∧ ∃ x y p : Nat, a = x ∧ b = y ∧ x < s.1 ∧ y < s.1 ∧ x ≠ y ∧ unlinkL s.2 y 1 x = some p) ∨ (o = 3 ∧ ∃ x : Nat, a = x ∧ x < s.1)
theorem st_le (o a b : Nat → Int) : ∀ i, (st o a b i).1 ≤ i
  | 0 => Nat.le_refl _
  | i + 1 => by
    have := st_le o a b i
    unfold st stepS
    split <;> simp <;> omega
theorem step_any (w : World) (B : Nat) (nb : Nat → Nat) (s : Nat × Lk) (A : Option Addr) (c : Nat) (h : TS w B nb s.1 s.2 A c) (hn : s.1 ≤ 100000) (hB : B ≤ w.heap.size) (o a b : Int) (hok : okS s o a b) :
    Calls Try.prog 12 #[.slice A s.1 c, .agg #[.int .i64 o, .int .i64 a, .int .i64 b]] w fun e w' => ∃ A' c' nb', e = .returned (.slice A' (stepS s o a b).1 c') ∧ TS w' B nb' (stepS s o a b).1 (stepS s o a b).2 A' c' ∧ But kindN B w w' := by
  rcases hok with rfl | ⟨rfl, x, y, rfl, rfl, hx, hy⟩ | ⟨rfl, x, y, p, rfl, rfl, hx, hy, hxy, hp⟩ | ⟨rfl, x, rfl, hx⟩
  · exact step0_any w B nb s.1 s.2 A c h hn hB a b
  · refine (step1_any w B nb s.1 s.2 A c h hn x y hx hy).mono ?_
    rintro e w' ⟨rfl, h1, h2⟩
    exact ⟨A, c, nb, rfl, h1, h2⟩
  · refine (step2_any w B nb s.1 s.2 A c h hn x y hx hy hxy p hp).mono ?_
    rintro e w' ⟨rfl, h1, h2⟩
    exact ⟨A, c, nb, rfl, h1, h2⟩
  · refine (step3_any w B nb s.1 s.2 A c h hn x b hx).mono ?_
    rintro e w' ⟨rfl, h1, h2⟩
    exact ⟨A, c, nb, rfl, h1, h2⟩

/-- The steps in memory. -/
def SS (w : World) (B : Nat) (A : Option Addr) (n c : Nat) (o a b : Nat → Int) : Prop :=
  n ≤ c ∧ (0 < n → ∃ blk off, A = some ⟨blk, off, none⟩ ∧ blk < B ∧ ∀ j, j < n → w.cell? ⟨blk, off + j * 3, none⟩ = some (.int .i64 (o j)) ∧ w.cell? ⟨blk, off + j * 3 + 1, none⟩ = some (.int .i64 (a j)) ∧ w.cell? ⟨blk, off + j * 3 + 2, none⟩ = some (.int .i64 (b j)))
/-- A row of neighbours. -/
def LRow (w : World) (B : Nat) (v : Value) (n : Nat) (L : Lk) : Prop := ∃ A c, v = .slice A n c ∧ w.ownsRow B 42 5 (.slice A n c) n (flat L n)
def kindA (e : TypeId) : Prop := e = 66 ∨ e = 49 ∨ e = 39 ∨ e = 42
theorem row_kept {T : TypeId → Prop} {w w' : World} {B C : Nat} {e : TypeId} {size n c : Nat} {A : Option Addr} {xs : List Value} (h : w.ownsRow B e size (.slice A n c) n xs) (hb : But T C w w') (hT : ¬ T e) : w'.ownsRow B e size (.slice A n c) n xs := by
  refine ⟨h.1, ?_⟩
  rcases h.2 with h0 | ⟨g, cap, cur, hv, hb', hg, rest⟩
  · exact .inl h0
  · exact .inr ⟨g, cap, cur, hv, hb', hb.cell hg hT, rest⟩
/-- A row that stands below C. -/
theorem row_keptB {T : TypeId → Prop} {w w' : World} {B C : Nat} {e : TypeId} {size n c : Nat} {A : Option Addr} {xs : List Value} (h : w.ownsRow B e size (.slice A n c) n xs) (hb : But T C w w') (hC : w.heap.size ≤ C) : w'.ownsRow B e size (.slice A n c) n xs := by
  refine ⟨h.1, ?_⟩
  rcases h.2 with h0 | ⟨g, cap, cur, hv, hb', hg, rest⟩
  · exact .inl h0
  · exact .inr ⟨g, cap, cur, hv, hb', hb.block g _ hg (.inl (Nat.lt_of_lt_of_le (Array.getElem?_eq_some_iff.1 hg).1 hC)), rest⟩

theorem wp_later {P : Program} {c : Code} {a : Act} {w : World} {Q : Exit → Act → World → Prop} (h : ∀ Q0 : Exit → Act → World → Prop, (∀ a' w', Q .normal a' w' → Q0 .normal a' w') → c.wp P Q0 a w) : c.wp P Q a w := h Q (fun _ _ h => h)
set_option maxHeartbeats 40000000 in
theorem treeRun_any (w : World) (SA : Option Addr) (n c : Nat) (o a b : Nat → Int) (h : SS w w.heap.size SA n c o a b) (hn : n ≤ 1000) (hok : ∀ i, i < n → okS (st o a b i) (o i) (a i) (b i)) :
    Calls Try.prog 8 #[.slice SA n c] w fun e w' => ∃ OA Oc vs, e = .returned (.slice OA n Oc) ∧ w'.ownsRow w.heap.size 39 1 (.slice OA n Oc) n vs ∧ (∀ r, r < n → ∃ v, vs[r]? = some v ∧ LRow w' w.heap.size v (st o a b (r + 1)).1 (st o a b (r + 1)).2) ∧ But kindA w.heap.size w w' := by
  have HS := Lib.hid h
  have HOK := Lib.hid hok
  clear h hok
  go_enter Try.func8, Try.ntmps8
  go_wp2_with fail
  go_loopw [12, 3, 4] (fun iv av ov wr => ∃ (i : Nat) (nb : Nat → Nat) (A : Option Addr) (cA : Nat) (OA : Option Addr) (Oc : Nat) (vs : List Value), i ≤ n ∧ iv = .int .i64 i ∧ av = .slice A (st o a b i).1 cA ∧ ov = .slice OA i Oc ∧
      Hid (TS wr w.heap.size nb (st o a b i).1 (st o a b i).2 A cA) ∧ Hid (wr.ownsRow w.heap.size 39 1 (.slice OA i Oc) i vs) ∧
      Hid (∀ r, r < i → ∃ v, vs[r]? = some v ∧ LRow wr w.heap.size v (st o a b (r + 1)).1 (st o a b (r + 1)).2) ∧ Hid (But kindA w.heap.size w wr))
    (fun iv _ _ _ => n - (intOf iv).toNat)
  case atStart =>
    refine ⟨0, fun _ => 0, none, 0, none, 0, [], by omega, rfl, rfl, rfl, ?_, World.ownsRow_nil _ _ _ _, fun r hr => by omega, But.refl _ _ _⟩
    exact ⟨⟨fun i hi => absurd hi (Nat.not_lt_zero _), fun i j hi => absurd hi (Nat.not_lt_zero _), fun k i j _ _ hi => absurd hi (Nat.not_lt_zero _), fun i hi => absurd hi (Nat.not_lt_zero _)⟩, World.ownsRow_nil _ _ _ _⟩
  case round =>
    obtain ⟨i, nb, A, cA, OA, Oc, vs, hi, rfl, rfl, rfl, HT, HO, HR, HB⟩ := hrel
    by_cases hin : i < n
    · obtain ⟨blk, off, rfl, hblk, hcell⟩ := HS.out.2 (by omega)
      obtain ⟨q0, q1, q2⟩ := hcell i hin
      have hbel := HB.out.below (Nat.le_refl _)
      have r0 := (hbel.cell (p := ⟨blk, off + i * 3, none⟩) hblk).trans q0
      have r1 := (hbel.cell (p := ⟨blk, off + i * 3 + 1, none⟩) hblk).trans q1
      have r2 := (hbel.cell (p := ⟨blk, off + i * 3 + 2, none⟩) hblk).trans q2
      have hsz : w.heap.size ≤ wr.heap.size := hbel.size
      clear hcell q0 q1 q2 hbel
      have hle := st_le o a b i
      have hok := Lib.hid (HOK.out i hin)
      go_wp2_with fail
      have hB0 := But.alloc kindA w.heap.size wr (.cells #[.int .i64 (o i), .int .i64 (a i), .int .i64 (b i)] 31)
      have hT0 : TS (wr.alloc (.cells #[.int .i64 (o i), .int .i64 (a i), .int .i64 (b i)] 31)) w.heap.size nb (st o a b i).1 (st o a b i).2 A cA := HT.out.but0 (But.alloc (fun _ => False) 0 wr _) (fun _ h => h.elim)
      refine (step_any _ w.heap.size nb (st o a b i) A cA hT0 (by omega) (by simp; omega) (o i) (a i) (b i) hok.out).mono ?_
      rintro e w1 ⟨A1, c1, nb1, rfl, hT1, hB1⟩
      have HB1 := Lib.hid (hB0.trans (hB1.mono (U := kindA) (fun e h => h.elim .inl (fun h => .inr (.inl h))) (Nat.le_refl _)))
      have hs1 : (stepS (st o a b i) (o i) (a i) (b i)).1 ≤ 1000 := by have := st_le o a b (i + 1); unfold st at this; omega
      have hex : ∃ s2, s2 = stepS (st o a b i) (o i) (a i) (b i) := ⟨_, rfl⟩
      obtain ⟨s2, hs2⟩ := hex
      rw [← hs2] at hT1 hs1 ⊢
      have HT1 := Lib.hid hT1
      have HS2 := Lib.hid hs2
      have HO1 := Lib.hid (row_kept (T := kindN) (row_kept (T := fun _ => False) HO.out (But.alloc _ 0 wr _) (fun h => h)) hB1 (by unfold kindN; decide))
      have hR1 : ∀ r, r < i → ∃ v, vs[r]? = some v ∧ LRow w1 w.heap.size v (st o a b (r + 1)).1 (st o a b (r + 1)).2 := fun r hr => by
        obtain ⟨v, h1, A, c, h2, h3⟩ := HR.out r hr
        exact ⟨v, h1, A, c, h2, row_kept (T := kindN) (row_kept (T := fun _ => False) h3 (But.alloc _ 0 wr _) (fun h => h)) hB1 (by unfold kindN; decide)⟩
      have HR1 := Lib.hid hR1
      clear hT1 hs2 hB0 hB1 hT0 hR1 r0 r1 r2 hle hok
      go_upto_block 2 with fail
      go_cut [7] (fun lv wx => ∃ A5 c5, lv = .slice A5 s2.1 c5 ∧ Hid (wx.ownsRow w1.heap.size 42 5 (.slice A5 s2.1 c5) s2.1 (flat s2.2 s2.1)) ∧ Hid (But (· = 42) w1.heap.size w1 wx))
      case first =>
        as_aux_lemma =>
          clear HB HT HO HR HB1 HO1 HR1 HS2 HOK
          obtain ⟨i0, hi0, hz0, hz1, hz2⟩ := info_parts Try.infoL
          go_wp2_with fail
          go_loopw [21, 7] (fun jv lv wx => ∃ (j : Nat) (A5 : Option Addr) (c5 : Nat), j ≤ s2.1 ∧ jv = .int .i64 j ∧ lv = .slice A5 j c5 ∧ Hid (wx.ownsRow w1.heap.size 42 5 (.slice A5 j c5) j (flat s2.2 j)) ∧ Hid (But (· = 42) w1.heap.size w1 wx))
            (fun jv _ _ => s2.1 - (intOf jv).toNat)
          case atStart => exact ⟨0, none, 0, by omega, rfl, rfl, World.ownsRow_nil _ _ _ _, But.refl _ _ _⟩
          case round =>
            obtain ⟨j, A5, c5, hj, rfl, rfl, HL, HBL⟩ := hrel
            have HTX := Lib.hid (HT1.out.but0 HBL.out (by intro e he; subst he; unfold kindN; decide))
            by_cases hjn : j < s2.1
            · obtain ⟨g, rfl, HC⟩ := HTX.out.row.facts (by omega)
              have cj := HC.out j hjn
              have hjn' : (j : Int) < s2.1 := by omega
              obtain ⟨n1, -⟩ := HTX.out.nodes.cell hjn (k := 1) (by omega) (by omega)
              obtain ⟨n2, -⟩ := HTX.out.nodes.cell hjn (k := 2) (by omega) (by omega)
              obtain ⟨n3, -⟩ := HTX.out.nodes.cell hjn (k := 3) (by omega) (by omega)
              obtain ⟨n4, -⟩ := HTX.out.nodes.cell hjn (k := 4) (by omega) (by omega)
              obtain ⟨n5, -⟩ := HTX.out.nodes.cell hjn (k := 5) (by omega) (by omega)
              have HX : Hid (∀ k, 1 ≤ k ∧ k ≤ 5 → Calls Try.prog 13 #[.slice (some ⟨g, 0, none⟩) s2.1 c1, ptr nb1 (s2.2 k j)] wr.drew fun e w' => e = .returned (.int .i64 (idx (s2.2 k j))) ∧ w' = wr.drew) := Lib.hid fun k h =>
                indexOf_any wr.drew w.heap.size nb1 s2.1 (some ⟨g, 0, none⟩) c1 (s2.2 k j) HTX.out.row s2.2 HTX.out.nodes.drew (by omega) (fun i hi => HTX.out.nodes.rng k j i h.1 h.2 hjn hi)
              have hLd : wr.drew.ownsRow w1.heap.size 42 5 (.slice A5 j c5) j (flat s2.2 j) := HL.out
              have HLD := Lib.hid hLd
              have HK : Hid (∀ w', wr.drew.grownBy w' (A5.map (·.block)) → (∀ k, w'.cell? ⟨nb1 j, k, none⟩ = wr.cell? ⟨nb1 j, k, none⟩) ∧ But (· = 42) w1.heap.size wr w') := Lib.hid (fun w' hg => by
                have hb := row_but (T := (· = 42)) (B := w1.heap.size) hLd hg rfl (Nat.le_refl _)
                obtain ⟨cs, h1, _⟩ := HTX.out.nodes.blk j hjn
                refine ⟨fun k => World.cell?_of_block ?_, (But.refl _ _ wr).drew.trans hb⟩
                show w'.heap[nb1 j]? = wr.heap[nb1 j]?
                rw [h1]
                exact hb.cell (a := wr.drew) h1 (by decide))
              have hsz2 : w1.heap.size ≤ wr.heap.size := HBL.out.size
              have hsz2' : w1.heap.size ≤ wr.drew.heap.size := hsz2
              clear hLd
              have hcs : ∀ w' : World, (∀ k, w'.cell? ⟨nb1 j, k, none⟩ = wr.cell? ⟨nb1 j, k, none⟩) → w'.cell? ⟨nb1 j, 1, none⟩ = some (ptr nb1 (s2.2 1 j)) ∧ w'.cell? ⟨nb1 j, 2, none⟩ = some (ptr nb1 (s2.2 2 j)) ∧ w'.cell? ⟨nb1 j, 3, none⟩ = some (ptr nb1 (s2.2 3 j)) ∧ w'.cell? ⟨nb1 j, 4, none⟩ = some (ptr nb1 (s2.2 4 j)) ∧ w'.cell? ⟨nb1 j, 5, none⟩ = some (ptr nb1 (s2.2 5 j)) := fun w' h => by
                simp only [h, n1, n2, n3, n4, n5, and_self]
              have HS0 := Lib.hid (hcs wr.drew (fun k => rfl))
              have HS1 : Hid (∀ o, (wr.drew.alloc o).cell? ⟨nb1 j, 1, none⟩ = some (ptr nb1 (s2.2 1 j)) ∧ (wr.drew.alloc o).cell? ⟨nb1 j, 2, none⟩ = some (ptr nb1 (s2.2 2 j)) ∧ (wr.drew.alloc o).cell? ⟨nb1 j, 3, none⟩ = some (ptr nb1 (s2.2 3 j)) ∧ (wr.drew.alloc o).cell? ⟨nb1 j, 4, none⟩ = some (ptr nb1 (s2.2 4 j)) ∧ (wr.drew.alloc o).cell? ⟨nb1 j, 5, none⟩ = some (ptr nb1 (s2.2 5 j))) := Lib.hid fun o => hcs _ (fun k => World.cell?_alloc_lt _ _ _ (World.block_lt_of_cell? wr ⟨nb1 j, 1, none⟩ n1))
              have HCS := Lib.hid hcs
              clear hcs
              go_wp2_with fail
              have m1 : ∀ t d o u, World.cell? { heap := wr.heap, tape := t, drawn := d, os := o, output := u } ⟨nb1 j, 1, none⟩ = some (ptr nb1 (s2.2 1 j)) := fun _ _ _ _ => n1
              have m2 : ∀ t d o u, World.cell? { heap := wr.heap, tape := t, drawn := d, os := o, output := u } ⟨nb1 j, 2, none⟩ = some (ptr nb1 (s2.2 2 j)) := fun _ _ _ _ => n2
              have m3 : ∀ t d o u, World.cell? { heap := wr.heap, tape := t, drawn := d, os := o, output := u } ⟨nb1 j, 3, none⟩ = some (ptr nb1 (s2.2 3 j)) := fun _ _ _ _ => n3
              have m4 : ∀ t d o u, World.cell? { heap := wr.heap, tape := t, drawn := d, os := o, output := u } ⟨nb1 j, 4, none⟩ = some (ptr nb1 (s2.2 4 j)) := fun _ _ _ _ => n4
              have m5 : ∀ t d o u, World.cell? { heap := wr.heap, tape := t, drawn := d, os := o, output := u } ⟨nb1 j, 5, none⟩ = some (ptr nb1 (s2.2 5 j)) := fun _ _ _ _ => n5
              refine wp_region_tail0 31 _ (.slice A5 j c5) (by kernel_rfl) rfl rfl (by omega) (by kernel_rfl) (by kernel_rfl) (fun _ _ _ h => h) (.inl ⟨rfl, fun _ => rfl⟩) ?_
              dsimp only [waitL, List.modify, List.modifyTailIdx, List.modifyTailIdx.go, List.modifyHead, List.take, List.drop]
              go_frame
              repeat still_step
              still_call (HX.out 1 ⟨by decide, by decide⟩)
              repeat still_step
              still_call (HX.out 2 ⟨by decide, by decide⟩)
              repeat still_step
              still_call (HX.out 3 ⟨by decide, by decide⟩)
              repeat still_step
              still_call (HX.out 4 ⟨by decide, by decide⟩)
              repeat still_step
              still_call (HX.out 5 ⟨by decide, by decide⟩)
              try refine wpStill_nil ?_
              have hone : ∀ u ∈ five s2.2 j, u.oneCell' = true := by unfold five; simp [Value.oneCell']
              change wpList _ _ _ _ _ wr.drew
              clear HX HS0 HS1 HCS m1 m2 m3 m4 m5 n1 n2 n3 n4 n5 HTX HC cj
              generalize wr.drew = W at HLD HK hsz2' ⊢
              refine wp_tail5 (ops := _) _ W (idx (s2.2 1 j)) (idx (s2.2 2 j)) (idx (s2.2 3 j)) (idx (s2.2 4 j)) (idx (s2.2 5 j)) w1.heap.size A5 j c5 _ HLD.out rfl rfl rfl rfl rfl rfl rfl rfl rfl rfl rfl rfl (by simp) rfl rfl rfl rfl rfl rfl (by omega) hsz2' ?_
              intro A6 c6 w6 hown6 hg6
              obtain ⟨hkc, hb6⟩ := HK.out _ hg6
              have HF := Lib.hid hown6
              have HBF := Lib.hid (HBL.out.trans hb6)
              clear hown6 hg6 hkc hb6
              go_frame
              go_wp2
              go_roundw
              case rel => exact ⟨j + 1, A6, c6, by omega, by go_num, rfl, Lib.hid (by rw [flat_succ]; exact HF.out), HBF⟩
              case measure => simp [intOf]; omega
            · obtain rfl : j = s2.1 := by omega
              go_wp2
              go_meet
              exact ⟨_, _, rfl, HL, HBL⟩
      case rest =>
        obtain ⟨A5, c5, rfl, HL5, HB5⟩ := hcut
        obtain ⟨i1, hi1, hy0, hy1, hy2⟩ := info_parts Try.infoLs
        have hsw : w.heap.size ≤ w1.heap.size := Nat.le_trans hsz HB1.out.size
        have hsc : w.heap.size ≤ wc.heap.size := Nat.le_trans hsw HB5.out.size
        have HO5 := Lib.hid (row_kept (T := (· = 42)) HO1.out HB5.out (by decide))
        go_wp2_with (at_builtin; refine wpList_app1 (.tmp 60) (.tmp 62) _ w.heap.size 39 i1 (.slice none 0 0) _ 24 wc _ _ _ _ HO5.out rfl rfl Try.underlying36 hi1 hy0 hy1 hy2 rfl rfl rfl rfl (by omega) (by omega) hsc ?_; intro A7 c7 w7 hown7 hg7)
        have HO7 := Lib.hid hown7
        have hb7 := row_but (T := (· = 39)) (B := w.heap.size) HO5.out hg7 rfl (Nat.le_refl _)
        have HB57 := Lib.hid (And.intro HB5.out hb7)
        clear hown7 hg7 hb7
        go_wp2
        go_roundw
        case rel =>
          obtain ⟨hb5, hb7⟩ := HB57.out
          have hT7 := (HT1.out.but0 hb5 (by intro e he; subst he; unfold kindN; decide)).but0 hb7 (by intro e he; subst he; unfold kindN; decide)
          have e2 : s2 = st o a b (i + 1) := HS2.out
          refine ⟨i + 1, nb1, A1, c1, A7, c7, vs ++ [Value.slice A5 s2.1 c5], by omega, by go_num, by rw [← e2], rfl, ?_, HO7.out, fun r hr => ?_, ?_⟩
          · rw [← e2]; exact hT7
          · by_cases hri : r < i
            · obtain ⟨v, h1, A, c, h2, h3⟩ := HR1.out r hri
              refine ⟨v, by rw [List.getElem?_append_left (by have := (List.getElem?_eq_some_iff.1 h1).1; exact this)]; exact h1, A, c, h2, ?_⟩
              exact row_kept (row_keptB h3 hb5 (Nat.le_refl _)) hb7 (by decide)
            · obtain rfl : r = i := by omega
              rw [← e2]
              refine ⟨Value.slice A5 s2.1 c5, ?_, A5, c5, rfl, ?_⟩
              · have hlen := HO5.out.1
                rw [List.getElem?_append_right (by omega), hlen]
                simp
              have hl := HL5.out
              refine row_kept (T := (· = 39)) (C := w.heap.size) ⟨hl.1, hl.2.imp id ?_⟩ hb7 (by decide)
              rintro ⟨g, cap, cur, hv, hbg, rest⟩
              exact ⟨g, cap, cur, hv, by omega, rest⟩
          · exact (HB.out.trans HB1.out).trans ((hb5.mono (fun e h => .inr (.inr (.inr h))) hsw).trans (hb7.mono (fun e h => .inr (.inr (.inl h))) (Nat.le_refl _)))
        case measure => simp [intOf]; omega
    · obtain rfl : i = n := by omega
      go_wp2
      go_ret
      exact ⟨OA, Oc, vs, rfl, HO.out, HR.out, HB.out⟩
end Go.Proofs.Ytkcccajiplchpaa
