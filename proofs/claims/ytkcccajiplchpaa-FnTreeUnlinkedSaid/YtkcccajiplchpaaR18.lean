/- Forests: the law of a node appended and unlinked. -/
import Derived.Test.YtkcccajiplchpaaR17
namespace Go.Proofs.Ytkcccajiplchpaa
open Go.RowKit
set_option linter.unusedVariables false

theorem Try.infoTS : (Try.prog.info? 31).map (fun i => (i.zero, i.size, i.bytes)) = some (some (.agg #[.int .i64 0, .int .i64 0, .int .i64 0]), 3, 24) := by kernel_rfl
def stepL (o a b : Nat → Int) (n : Nat) : List Value := (List.range n).flatMap fun i => [.int .i64 (o i), .int .i64 (a i), .int .i64 (b i)]
section
variable (o a b : Nat → Int)
theorem stepL_succ (n : Nat) : stepL o a b (n + 1) = stepL o a b n ++ [.int .i64 (o n), .int .i64 (a n), .int .i64 (b n)] := by
  unfold stepL; rw [List.range_succ, List.flatMap_append]; simp
theorem stepL_len : ∀ n, (stepL o a b n).length = n * 3
  | 0 => rfl
  | n + 1 => by rw [stepL_succ, List.length_append, stepL_len n]; simp; omega
theorem stepL_at : ∀ (n i : Nat), i < n → (stepL o a b n)[i * 3]? = some (.int .i64 (o i)) ∧ (stepL o a b n)[i * 3 + 1]? = some (.int .i64 (a i)) ∧ (stepL o a b n)[i * 3 + 2]? = some (.int .i64 (b i))
  | 0, i, hi => by omega
  | n + 1, i, hi => by
    rw [stepL_succ]
    have hl := stepL_len o a b n
    by_cases e : i = n
    · subst e
      rw [List.getElem?_append_right (by omega), List.getElem?_append_right (by omega), List.getElem?_append_right (by omega), hl, show i * 3 - i * 3 = 0 by omega, show i * 3 + 1 - i * 3 = 1 by omega, show i * 3 + 2 - i * 3 = 2 by omega]
      exact ⟨rfl, rfl, rfl⟩
    · rw [List.getElem?_append_left (by omega), List.getElem?_append_left (by omega), List.getElem?_append_left (by omega)]
      exact stepL_at n i (by omega)
end
theorem stepL_congr {o a b o' a' b' : Nat → Int} : ∀ n, (∀ i, i < n → o i = o' i ∧ a i = a' i ∧ b i = b' i) → stepL o a b n = stepL o' a' b' n
  | 0, _ => rfl
  | n + 1, h => by
    rw [stepL_succ, stepL_succ, stepL_congr n (fun i hi => h i (by omega))]
    obtain ⟨h1, h2, h3⟩ := h n (by omega)
    rw [h1, h2, h3]
theorem stepL_more (o a b : Nat → Int) (n : Nat) (t q k : Int) : stepL o a b n ++ [.int .i64 0, .int .i64 t, .int .i64 0, .int .i64 1, .int .i64 q, .int .i64 k, .int .i64 3, .int .i64 k, .int .i64 0] = stepL (moreO o n) (moreA a n t q k) (moreB b n k) (n + 3) := by
  have e : stepL (moreO o n) (moreA a n t q k) (moreB b n k) n = stepL o a b n := stepL_congr n (fun i hi => by simp [moreO, moreA, moreB, hi])
  rw [show n + 3 = n + 2 + 1 by omega, stepL_succ, show n + 2 = n + 1 + 1 by omega, stepL_succ, stepL_succ, e]
  have h1 : ¬ n + 1 < n := by omega
  have h2 : ¬ n + 1 + 1 < n := by omega
  have h3 : n + 1 + 1 ≠ n := by omega
  simp [moreO, moreA, moreB, h1, h2, h3]
theorem SS.news {w : World} {B blk off n c : Nat} {o a b : Nat → Int} (h : SS w B (some ⟨blk, off, none⟩) n c o a b) : ∀ j u, (stepL o a b n)[j]? = some u → w.cell? ((⟨blk, off, none⟩ : Addr).add j) = some u := fun j u hj => by
  have hl := stepL_len o a b n
  have hjl : j < n * 3 := by have := (List.getElem?_eq_some_iff.1 hj).1; omega
  obtain ⟨blk', off', e, _, hc⟩ := h.2 (by omega)
  injection e with e; injection e with e1 e2; subst e1 e2
  obtain ⟨h0, h1, h2⟩ := hc (j / 3) (by omega)
  obtain ⟨k0, k1, k2⟩ := stepL_at o a b n (j / 3) (by omega)
  rw [add_lit]
  have hr : j % 3 = 0 ∨ j % 3 = 1 ∨ j % 3 = 2 := by omega
  rcases hr with hr | hr | hr
  · have e : j = j / 3 * 3 := by omega
    rw [e] at hj ⊢
    rw [k0] at hj; rw [← hj]; exact h0
  · have e : j = j / 3 * 3 + 1 := by omega
    rw [e] at hj ⊢
    rw [k1] at hj; rw [← hj]; exact h1
  · have e : j = j / 3 * 3 + 2 := by omega
    rw [e] at hj ⊢
    rw [k2] at hj; rw [← hj]; exact h2
theorem SS.of_row {w : World} {B n c : Nat} {A : Option Addr} {o a b : Nat → Int} (h : w.ownsRow B 31 3 (.slice A n c) n (stepL o a b n)) : SS w w.heap.size A n c o a b := by
  rcases h.2 with ⟨hv, h0⟩ | ⟨g, cap, cur, hv, hb, hg, hnc, hcm, hcs, htake⟩
  · injection hv with h1 h2 h3; subst h0 h3; exact ⟨Nat.le_refl _, fun h => by omega⟩
  · injection hv with h1 h2 h3
    subst h1 h3
    refine ⟨hnc, fun _ => ⟨g, 0, rfl, (Array.getElem?_eq_some_iff.1 hg).1, fun j hj => ?_⟩⟩
    obtain ⟨k0, k1, k2⟩ := stepL_at o a b n j hj
    rw [Nat.zero_add]
    exact ⟨(h.cellAt (j * 3) (by omega)).trans k0, (h.cellAt (j * 3 + 1) (by omega)).trans k1, (h.cellAt (j * 3 + 2) (by omega)).trans k2⟩
theorem one_cells (o a b : Nat → Int) (n : Nat) : ∀ u ∈ stepL o a b n, u.oneCell' = true := by
  intro u hu
  unfold stepL at hu
  rw [List.mem_flatMap] at hu
  obtain ⟨i, _, hi⟩ := hu
  simp only [List.mem_cons, List.not_mem_nil, or_false] at hi
  rcases hi with rfl | rfl | rfl <;> rfl
/-- 'append(row, x...)' of m elements that lie at a place. -/
theorem wp_appM {P : Program} {o : Oper} {a : Act} {K : Act → World → Prop} {Q : Exit → Act → World → Prop}
    (s x : Operand) (t : TypeId) (hop : o.op = Op.call { callee := Callee.builtin Builtin.append, args := #[s, x], argTypes := #[t, t] })
    (base : Nat) (e : TypeId) (i : TypeInfo) (z : Value) (size bytes : Nat) (ht : P.underlying t = some (.slice e)) (hi : P.info? e = some i) (hz : i.zero = some z) (hsize : i.size = size) (hby : i.bytes = bytes) (hzs : z.cells.size = size) (h0 : 0 < size)
    (w : World) (A : Option Addr) (n c : Nat) (xs news : List Value) (ad : Addr) (m cx : Nat) (hown : w.ownsRow base e size (.slice A n c) n xs) (hl : news.length = m * size) (h1 : ∀ u ∈ news, u.oneCell' = true) (hu : ∀ j u, news[j]? = some u → w.cell? (ad.add j) = some u)
    (hs : a.eval s = .slice A n c) (hx : a.eval x = .slice (some ad) m cx)
    (hn : n + m ≤ 1000000000) (hb : bytes ≤ 64) (hbase : base ≤ w.heap.size)
    (h : ∀ A' c' w', w'.ownsRow base e size (.slice A' (n + m) c') (n + m) (xs ++ news) → w.grownBy w' (A.map (·.block)) → K (a.put o.dst (.slice A' (n + m) c')) w') :
    Oper.wp P o a w K Q := by
  have hm : (n + m) * bytes ≤ 140737488355328 := Nat.le_trans (Nat.mul_le_mul_left _ hb) (by omega)
  obtain ⟨v', w', hr, h2, h3, h4, h5⟩ := run_append_own_at (P := P) w base t o.type e i z size bytes ht hi hz hsize hby hzs h0 _ n xs hown ad m cx news hl hu h1 (by unfold maxLen; omega) hm hbase
  unfold Oper.wp
  simp only [execOp, hop, resolve, invoke, builtin, Sem.run_bind, Sem.run_pure, Result.andThen_ok, List.map_toArray, List.map_cons, List.map_nil, hs, hx, hr]
  have hob : (Value.slice A n c).ownBlock = A.map (·.block) := by cases A <;> rfl
  rw [hob] at h3
  obtain ⟨A', c', rfl⟩ := own_form h2
  exact h A' c' w' h2 h3
theorem made3 (W : World) (base m : Nat) (h : W.heap.size = m) (hb : base ≤ m) : (W.alloc (.cells #[] 31)).ownsRow base 31 3 (.slice (some ⟨m, 0, none⟩) 0 0) 0 [] := by
  subst h; exact World.ownsRow_made W #[] 0 hb (by unfold maxLen; omega) (by simp)
theorem lies_at (W : World) (m : Nat) (o : Obj) (h : W.heap.size = m) : (W.alloc o).heap[m]? = some o := by
  subst h; exact heap_alloc_new W o
theorem stays_at (W : World) (m : Nat) (o o' : Obj) (h : W.heap.size = m) : ((W.alloc o).alloc o').heap[m]? = some o := by
  subst h; rw [Below.heap_alloc _ _ _ (by simp)]; exact heap_alloc_new W o
theorem eql_links' (a b c d e : Int) (w : World) : (binOp .eql 42 (.agg #[.int .i64 a, .int .i64 b, .int .i64 c, .int .i64 d, .int .i64 e]) (.agg #[.int .i64 a, .int .i64 b, .int .i64 c, .int .i64 d, .int .i64 e])).run Try.prog w = .ok (.bool true) w := by
  simp [go_sem]
set_option maxRecDepth 100000 in
set_option maxHeartbeats 8000000 in
theorem lawUnlinked (w : World) (SA : Option Addr) (n c : Nat) (o a b : Nat → Int) (h : SS w w.heap.size SA n c o a b) (hn : n ≤ 9223372036854775807) (ty pl : Int) (ht0 : 0 ≤ ty) (ht1 : ty ≤ 255) (hp0 : 0 ≤ pl) (hp1 : pl ≤ 255) :
    Calls Try.prog 4 #[.slice SA n c, .int .u8 ty, .int .u8 pl] w fun e w' => e = .returned (.bool true) ∧ Below w.heap.size w w' := by
  have HS := Lib.hid h
  clear h
  by_cases k1 : 2147483647 < n
  · go_enter Try.func4, Try.ntmps4
    go_wp2
    go_ret
    exact ⟨rfl, Below.refl _ _⟩
  obtain ⟨i0, hi0, hz0, hz1, hz2⟩ := info_parts Try.infoTS
  go_enter Try.func4, Try.ntmps4
  go_wp2_with fail
  have hFI0 : FI (w.alloc (.cells #[.slice none 0 0, .slice none 0 0] 28)) w.heap.size w.heap.size 0 o a b :=
    ⟨_, _, Inv.start, none, 0, none, 0, fun _ => none, fun _ => 0, ⟨heap_alloc_new w _, World.ownsRow_nil _ _ _ _, World.ownsRow_nil _ _ _ _, fun i hi => absurd hi (Nat.not_lt_zero _), fun i _ hi => absurd hi (Nat.not_lt_zero _), fun i _ _ hi => absurd hi (Nat.not_lt_zero _), Nat.le_refl _⟩⟩
  have HFI0 := Lib.hid hFI0
  have HB0 := Lib.hid ((Below.refl w.heap.size w).alloc (Nat.le_refl _) (.cells #[.slice none 0 0, .slice none 0 0] 28))
  clear hFI0
  generalize w.alloc (.cells #[.slice none 0 0, .slice none 0 0] 28) = w0 at *
  go_loopw [21, 6] (fun iv rv wr => ∃ (i : Nat), i ≤ n ∧ (0 < i → n ≤ 100) ∧ iv = .int .i64 i ∧ rv = .bool false ∧ Hid (FI wr w.heap.size w.heap.size i o a b) ∧ Hid (∀ r, r < i → okS (st o a b r) (o r) (a r) (b r)) ∧ Hid (Below w.heap.size w wr)) (fun iv _ _ => n - (intOf iv).toNat)
  case atStart => exact ⟨0, by omega, by omega, rfl, rfl, HFI0, Lib.hid (fun r hr => by omega), HB0⟩
  case round =>
    obtain ⟨i, hi, hi100, rfl, rfl, HFI, HOK, HB⟩ := hrel
    by_cases hin : i < n
    · obtain ⟨blk, off, rfl, hblk, hcell⟩ := HS.out.2 (by omega)
      obtain ⟨q0, q1, q2⟩ := hcell i hin
      have r0 := (HB.out.cell (p := ⟨blk, off + i * 3, none⟩) hblk).trans q0
      have r1 := (HB.out.cell (p := ⟨blk, off + i * 3 + 1, none⟩) hblk).trans q1
      have r2 := (HB.out.cell (p := ⟨blk, off + i * 3 + 2, none⟩) hblk).trans q2
      have hsz : w.heap.size ≤ wr.heap.size := HB.out.size
      clear hcell q0 q1 q2
      by_cases k2 : 100 < n
      · have HB1 := Lib.hid (HB.out.alloc hsz (.cells #[.int .i64 (o i), .int .i64 (a i), .int .i64 (b i)] 31))
        have hsA : w.heap.size ≤ (wr.alloc (.cells #[.int .i64 (o i), .int .i64 (a i), .int .i64 (b i)] 31)).heap.size := by simp; omega
        go_wp2_with fail
        refine (awake_any _).mono ?_
        rintro e w3 ⟨rfl, hb3⟩
        have HB3 := Lib.hid (HB1.out.trans (hb3.mono hsA))
        clear hb3
        go_wp2
        go_ret
        exact ⟨rfl, HB3.out⟩
      go_wp2_with fail
      have hA0 := But.alloc (fun _ => False) 0 wr (.cells #[.int .i64 (o i), .int .i64 (a i), .int .i64 (b i)] 31)
      have hA1 := HB.out.alloc hsz (.cells #[.int .i64 (o i), .int .i64 (a i), .int .i64 (b i)] 31)
      have hsA : wr.heap.size ≤ (wr.alloc (.cells #[.int .i64 (o i), .int .i64 (a i), .int .i64 (b i)] 31)).heap.size := by simp
      have HFI1 := Lib.hid (HFI.out.but hA0 (fun _ h => h.elim))
      have HB1 := Lib.hid hA1
      clear hA0 hA1 r0 r1 r2
      generalize wr.alloc (.cells #[.int .i64 (o i), .int .i64 (a i), .int .i64 (b i)] 31) = w1 at *
      refine (fstep_fi w1 w.heap.size w.heap.size i o a b HFI1.out (Nat.le_trans hsz hsA) (by omega)).mono ?_
      rintro e w2 ⟨⟨ok, rfl, hk⟩, hb2⟩
      have hsz2 : w.heap.size ≤ w2.heap.size := Nat.le_trans (Nat.le_trans hsz hsA) hb2.size
      have HB2 := Lib.hid (HB1.out.trans (hb2.below (Nat.le_trans hsz hsA)))
      cases ok with
      | false =>
        clear hk hb2
        go_wp2_with fail
        refine (awake_any w2).mono ?_
        rintro e w3 ⟨rfl, hb3⟩
        have HB3 := Lib.hid (HB2.out.trans (hb3.mono hsz2))
        clear hb3
        go_wp2
        go_ret
        exact ⟨rfl, HB3.out⟩
      | true =>
        obtain ⟨k1', k2'⟩ := hk rfl
        have HK := Lib.hid k1'
        have HFI2 := Lib.hid k2'
        clear hk hb2 k1' k2'
        have HOK4 : Hid (∀ r, r < i + 1 → okS (st o a b r) (o r) (a r) (b r)) := Lib.hid fun r hr => by
          by_cases e : r < i
          · exact HOK.out r e
          · obtain rfl : r = i := by omega
            exact HK.out
        go_wp2
        go_roundw
        case rel => exact ⟨i + 1, by omega, by omega, by go_num, rfl, HFI2, HOK4, HB2⟩
        case measure => simp [intOf]; omega
    · obtain rfl : n = i := by omega
      have HSS := Lib.hid ((HS.out.below HB.out).more HB.out.size)
      have hle := st_le o a b n
      obtain ⟨U, D, hI, AU, cU, AD, cD, DA, Dc, hF⟩ := HFI.out
      obtain ⟨c0, c1, _, _⟩ := hF.cells
      have HF := Lib.hid hF
      have HI := Lib.hid hI
      have hsz0 : w.heap.size ≤ wr.heap.size := HB.out.size
      clear hF hI
      generalize hN : (st o a b n).1 = N at *
      have HN := Lib.hid hN
      clear hN
      rcases Nat.eq_zero_or_pos N with rfl | hN0
      · skip
        go_wp2_with fail
        refine (awake_any wr).mono ?_
        rintro e w3 ⟨rfl, hb3⟩
        have HB3 := Lib.hid (HB.out.trans (hb3.mono hsz0))
        clear hb3
        go_wp2
        go_ret
        exact ⟨rfl, HB3.out⟩
      · skip
        have hn0 : 0 < n := by omega
        have hwp : IntKind.i64.wrap pl = pl := by rw [IntKind.wrap_i64]; omega
        have hwt : IntKind.i64.wrap ty = ty := by rw [IntKind.wrap_i64]; omega
        obtain ⟨q, hq⟩ : ∃ q : Nat, pl.tmod (N : Int) = (q : Int) := ⟨(pl.tmod (N : Int)).toNat, by have := Int.tmod_nonneg (N : Int) hp0; omega⟩
        have hqN : q < N := by have := Int.tmod_lt_of_pos pl (show (0 : Int) < N by omega); omega
        obtain ⟨T, hT⟩ : ∃ T : Int, ty.tmod 24 = T := ⟨_, rfl⟩
        obtain ⟨sb, so, rfl, hsb, -⟩ := HSS.out.2 hn0
        have hNz : ¬ (N : Int) = 0 := by omega
        have hNz' : ¬ N = 0 := by omega
        have e0 : ((N : Int) == 0) = false := by simp; omega
        go_upto_region 13 with fail
        generalize wr = w0 at *
        go_cut [11] (fun mv wx => ∃ A c, mv = .slice A (n + 3) c ∧ Hid (SS wx wx.heap.size A (n + 3) c (moreO o n) (moreA a n T q N) (moreB b n N)) ∧ Hid (Below w0.heap.size w0 wx))
        case first =>
          refine wp_region_heads (a' := ?Af) (S := fun _ => True) (late := fun j => decide (17 ≤ j) && decide (j < 18)) [(1, false), (3, false), (4, false), (5, false), (6, false), (7, false), (8, false), (9, false), (10, false), (11, false), (12, false), (13, false), (14, false)] 5 (by kernel_rfl) (fun _ _ _ _ h => h) (by kernel_rfl) trivial ?hh ?tl
          case hh =>
            refine Heads.cons _ _ _ _ ?_ _ _ (at_succ at_zero) (Or.inl ⟨by rfl, ?_⟩) ?_
            rotate_left 1
            · intro w _
              go_simp
              try with_reducible rfl
            simp only [Act.put, List.setIfInBounds_toArray, List.set_cons_zero, List.set_cons_succ]
            refine Heads.cons _ _ _ _ ?_ _ _ (at_succ (at_succ (at_succ at_zero))) (Or.inl ⟨by rfl, ?_⟩) ?_
            rotate_left 1
            · intro w _
              go_simp
              try with_reducible rfl
            simp only [Act.put, List.setIfInBounds_toArray, List.set_cons_zero, List.set_cons_succ]
            refine Heads.cons _ _ _ _ ?_ _ _ (at_succ (at_succ (at_succ (at_succ at_zero)))) (Or.inl ⟨by rfl, ?_⟩) ?_
            rotate_left 1
            · intro w _
              go_simp
              try with_reducible rfl
            simp only [Act.put, List.setIfInBounds_toArray, List.set_cons_zero, List.set_cons_succ]
            refine Heads.cons _ _ _ _ ?_ _ _ (at_succ (at_succ (at_succ (at_succ (at_succ at_zero))))) (Or.inl ⟨by rfl, ?_⟩) ?_
            rotate_left 1
            · intro w _
              go_simp
              try with_reducible rfl
            simp only [Act.put, List.setIfInBounds_toArray, List.set_cons_zero, List.set_cons_succ]
            refine Heads.cons _ _ _ _ ?_ _ _ (at_succ (at_succ (at_succ (at_succ (at_succ (at_succ at_zero)))))) (Or.inl ⟨by rfl, ?_⟩) ?_
            rotate_left 1
            · intro w _
              go_simp
              try with_reducible rfl
            simp only [Act.put, List.setIfInBounds_toArray, List.set_cons_zero, List.set_cons_succ]
            refine Heads.cons _ _ _ _ ?_ _ _ (at_succ (at_succ (at_succ (at_succ (at_succ (at_succ (at_succ at_zero))))))) (Or.inl ⟨by rfl, ?_⟩) ?_
            rotate_left 1
            · intro w _
              go_simp
              try with_reducible rfl
            simp only [Act.put, List.setIfInBounds_toArray, List.set_cons_zero, List.set_cons_succ]
            refine Heads.cons _ _ _ _ ?_ _ _ (at_succ (at_succ (at_succ (at_succ (at_succ (at_succ (at_succ (at_succ at_zero)))))))) (Or.inl ⟨by rfl, ?_⟩) ?_
            rotate_left 1
            · intro w _
              go_simp
              try with_reducible rfl
            simp only [Act.put, List.setIfInBounds_toArray, List.set_cons_zero, List.set_cons_succ]
            refine Heads.cons _ _ _ _ ?_ _ _ (at_succ (at_succ (at_succ (at_succ (at_succ (at_succ (at_succ (at_succ (at_succ at_zero))))))))) (Or.inl ⟨by rfl, ?_⟩) ?_
            rotate_left 1
            · intro w _
              go_simp
              try with_reducible rfl
            simp only [Act.put, List.setIfInBounds_toArray, List.set_cons_zero, List.set_cons_succ]
            refine Heads.cons _ _ _ _ ?_ _ _ (at_succ (at_succ (at_succ (at_succ (at_succ (at_succ (at_succ (at_succ (at_succ (at_succ at_zero)))))))))) (Or.inl ⟨by rfl, ?_⟩) ?_
            rotate_left 1
            · intro w _
              go_simp
              try with_reducible rfl
            simp only [Act.put, List.setIfInBounds_toArray, List.set_cons_zero, List.set_cons_succ]
            refine Heads.cons _ _ _ _ ?_ _ _ (at_succ (at_succ (at_succ (at_succ (at_succ (at_succ (at_succ (at_succ (at_succ (at_succ (at_succ at_zero))))))))))) (Or.inl ⟨by rfl, ?_⟩) ?_
            rotate_left 1
            · intro w _
              go_simp
              try with_reducible rfl
            simp only [Act.put, List.setIfInBounds_toArray, List.set_cons_zero, List.set_cons_succ]
            refine Heads.cons _ _ _ _ ?_ _ _ (at_succ (at_succ (at_succ (at_succ (at_succ (at_succ (at_succ (at_succ (at_succ (at_succ (at_succ (at_succ at_zero)))))))))))) (Or.inl ⟨by rfl, ?_⟩) ?_
            rotate_left 1
            · intro w _
              go_simp
              try with_reducible rfl
            simp only [Act.put, List.setIfInBounds_toArray, List.set_cons_zero, List.set_cons_succ]
            refine Heads.cons _ _ _ _ ?_ _ _ (at_succ (at_succ (at_succ (at_succ (at_succ (at_succ (at_succ (at_succ (at_succ (at_succ (at_succ (at_succ (at_succ at_zero))))))))))))) (Or.inl ⟨by rfl, ?_⟩) ?_
            rotate_left 1
            · intro w _
              go_simp
              try with_reducible rfl
            simp only [Act.put, List.setIfInBounds_toArray, List.set_cons_zero, List.set_cons_succ]
            refine Heads.cons _ _ _ _ ?_ _ _ (at_succ (at_succ (at_succ (at_succ (at_succ (at_succ (at_succ (at_succ (at_succ (at_succ (at_succ (at_succ (at_succ (at_succ at_zero)))))))))))))) (Or.inl ⟨by rfl, ?_⟩) ?_
            rotate_left 1
            · intro w _
              go_simp
              try with_reducible rfl
            simp only [Act.put, List.setIfInBounds_toArray, List.set_cons_zero, List.set_cons_succ]
            exact Heads.nil _
          case tl =>
            refine wpE_two (i := 0) (j := 15) (by kernel_rfl) (at_zero) (by rfl) (at_succ (at_succ (at_succ (at_succ (at_succ (at_succ (at_succ (at_succ (at_succ (at_succ (at_succ (at_succ (at_succ (at_succ (at_succ at_zero))))))))))))))) (by rfl) (fun K hK => ?_) (fun K hK => ?_)
            · go_simp
              refine hK _ _ trivial ?_
              clear hK K
              refine wpE_two (i := 2) (j := 15) (by kernel_rfl) (at_succ (at_succ at_zero)) (by rfl) (at_succ (at_succ (at_succ (at_succ (at_succ (at_succ (at_succ (at_succ (at_succ (at_succ (at_succ (at_succ (at_succ (at_succ (at_succ at_zero))))))))))))))) (by rfl) (fun K hK => ?_) (fun K hK => ?_)
              · refine wp_appM (.tmp 44) (.tmp 45) 22 rfl w0.heap.size 31 i0 _ 3 24 Try.underlying22 hi0 hz0 hz1 hz2 rfl (by omega) _ (some ⟨w0.heap.size, 0, none⟩) 0 0 [] (stepL o a b n) ⟨sb, so, none⟩ n c (made3 w0.drew _ _ rfl (Nat.le_refl _)) (stepL_len o a b n) (one_cells o a b n) ((HSS.out.below ((Below.refl w0.heap.size w0).drew.alloc (Nat.le_refl _) (.cells #[] 31))).news) rfl rfl (by omega) (by omega) (by simp <;> omega) ?_
                intro A2 c2 w2 hown2 hg2
                rw [Nat.zero_add, List.nil_append] at hown2
                rw [Nat.zero_add]
                have HO2 := Lib.hid hown2
                have HG2 := Lib.hid hg2
                have hbl2 := ((Below.refl w0.heap.size w0).drew.alloc (Nat.le_refl _) (.cells #[] 31)).grown hg2 (by simp <;> omega) (fun k hk => by simp at hk; omega)
                have HBL2 := Lib.hid hbl2
                have hsz2 : w0.heap.size ≤ w2.heap.size := hbl2.size
                clear hown2 hg2 hbl2
                refine hK _ _ trivial ?_
                clear hK K
                refine wpE_one (i := 15) (by kernel_rfl) (at_succ (at_succ (at_succ (at_succ (at_succ (at_succ (at_succ (at_succ (at_succ (at_succ (at_succ (at_succ (at_succ (at_succ (at_succ at_zero))))))))))))))) (by rfl) (fun K hK => ?_)
                go_simp
                refine hK _ _ trivial ?_
                clear hK K
                refine wpE_one (i := 16) (by kernel_rfl) (at_succ (at_succ (at_succ (at_succ (at_succ (at_succ (at_succ (at_succ (at_succ (at_succ (at_succ (at_succ (at_succ (at_succ (at_succ (at_succ at_zero)))))))))))))))) (by rfl) (fun K hK => ?_)
                refine wp_appM (.tmp 46) (.tmp 59) 22 rfl w0.heap.size 31 i0 _ 3 24 Try.underlying22 hi0 hz0 hz1 hz2 rfl (by omega) _ A2 n c2 _ [.int .i64 0, .int .i64 T, .int .i64 0, .int .i64 1, .int .i64 (q : Int), .int .i64 (N : Int), .int .i64 3, .int .i64 (N : Int), .int .i64 0] ⟨w2.heap.size, 0, none⟩ 3 3 (HO2.out.alloc _) rfl (by simp [Value.oneCell']) (fun j u hj => by rw [add_lit, Nat.zero_add]; rw [cell_of_row _ _ j _ _ _ (heap_alloc_new w2 _)]; simpa using hj) (by rfl) rfl (by omega) (by omega) (by first | exact hsz2 | (simp; omega)) ?_
                intro A4 c4 w4 hown4 hg4
                have hbl4 := (HBL2.out.alloc hsz2 _).grown hg4 (by first | exact hsz2 | (simp; omega)) (fun k hk => by have := (own_ge HO2.out k hk).1; omega)
                have H4 : Hid (SS w4 w4.heap.size A4 (n + 3) c4 (moreO o n) (moreA a n T q N) (moreB b n N)) := Lib.hid (by
                  have hr := hown4
                  rw [stepL_more o a b n T q N] at hr
                  exact SS.of_row hr)
                have HBL4 := Lib.hid hbl4
                clear hown4 hg4 hbl4
                refine hK _ _ trivial ?_
                clear hK K
                refine wpE_drop (k := 17) rfl (by kernel_rfl) ?_
                simp only [List.drop_succ_cons, List.drop_zero]
                go_frame
                go_wp2_with fail
                go_meet
                exact ⟨A4, c4, by simp, H4, HBL4⟩
              · go_simp
                refine hK _ _ trivial ?_
                clear hK K
                refine wpE_one (i := 2) (by kernel_rfl) (at_succ (at_succ at_zero)) (by rfl) (fun K hK => ?_)
                refine wp_appM (.tmp 44) (.tmp 45) 22 rfl w0.heap.size 31 i0 _ 3 24 Try.underlying22 hi0 hz0 hz1 hz2 rfl (by omega) _ (some ⟨w0.heap.size, 0, none⟩) 0 0 [] (stepL o a b n) ⟨sb, so, none⟩ n c ((made3 w0.drew _ _ rfl (Nat.le_refl _)).alloc _) (stepL_len o a b n) (one_cells o a b n) ((HSS.out.below (((Below.refl w0.heap.size w0).drew.alloc (Nat.le_refl _) (.cells #[] 31)).alloc (by simp) (.cells #[.int .i64 0, .int .i64 T, .int .i64 0, .int .i64 1, .int .i64 (q : Int), .int .i64 (N : Int), .int .i64 3, .int .i64 (N : Int), .int .i64 0] 31))).news) rfl rfl (by omega) (by omega) (by simp <;> omega) ?_
                intro A2 c2 w2 hown2 hg2
                rw [Nat.zero_add, List.nil_append] at hown2
                rw [Nat.zero_add]
                have HO2 := Lib.hid hown2
                have HG2 := Lib.hid hg2
                have hbl2 := (((Below.refl w0.heap.size w0).drew.alloc (Nat.le_refl _) (.cells #[] 31)).alloc (by simp) (.cells #[.int .i64 0, .int .i64 T, .int .i64 0, .int .i64 1, .int .i64 (q : Int), .int .i64 (N : Int), .int .i64 3, .int .i64 (N : Int), .int .i64 0] 31)).grown hg2 (by simp <;> omega) (fun k hk => by simp at hk; omega)
                have HBL2 := Lib.hid hbl2
                have hsz2 : w0.heap.size ≤ w2.heap.size := hbl2.size
                clear hown2 hg2 hbl2
                refine hK _ _ trivial ?_
                clear hK K
                refine wpE_one (i := 16) (by kernel_rfl) (at_succ (at_succ (at_succ (at_succ (at_succ (at_succ (at_succ (at_succ (at_succ (at_succ (at_succ (at_succ (at_succ (at_succ (at_succ (at_succ at_zero)))))))))))))))) (by rfl) (fun K hK => ?_)
                refine wp_appM (.tmp 46) (.tmp 59) 22 rfl w0.heap.size 31 i0 _ 3 24 Try.underlying22 hi0 hz0 hz1 hz2 rfl (by omega) _ A2 n c2 _ [.int .i64 0, .int .i64 T, .int .i64 0, .int .i64 1, .int .i64 (q : Int), .int .i64 (N : Int), .int .i64 3, .int .i64 (N : Int), .int .i64 0] ⟨w0.heap.size + 1, 0, none⟩ 3 3 (HO2.out) rfl (by simp [Value.oneCell']) (fun j u hj => by rw [add_lit, Nat.zero_add]; refine HG2.out.cell (a := ⟨_, j, none⟩) ?_ (by simp); exact (cell_of_row ((w0.alloc (.cells #[] 31)).alloc (.cells #[.int .i64 0, .int .i64 T, .int .i64 0, .int .i64 1, .int .i64 (q : Int), .int .i64 (N : Int), .int .i64 3, .int .i64 (N : Int), .int .i64 0] 31)) (w0.heap.size + 1) j _ _ _ (lies_at (w0.alloc (.cells #[] 31)) _ _ (by simp))).trans (by simpa using hj)) (by rfl) rfl (by omega) (by omega) (by first | exact hsz2 | (simp; omega)) ?_
                intro A4 c4 w4 hown4 hg4
                have hbl4 := (HBL2.out).grown hg4 (by first | exact hsz2 | (simp; omega)) (fun k hk => by have := (own_ge HO2.out k hk).1; omega)
                have H4 : Hid (SS w4 w4.heap.size A4 (n + 3) c4 (moreO o n) (moreA a n T q N) (moreB b n N)) := Lib.hid (by
                  have hr := hown4
                  rw [stepL_more o a b n T q N] at hr
                  exact SS.of_row hr)
                have HBL4 := Lib.hid hbl4
                clear hown4 hg4 hbl4
                refine hK _ _ trivial ?_
                clear hK K
                refine wpE_drop (k := 17) rfl (by kernel_rfl) ?_
                simp only [List.drop_succ_cons, List.drop_zero]
                go_frame
                go_wp2_with fail
                go_meet
                exact ⟨A4, c4, by simp, H4, HBL4⟩
            · go_simp
              refine hK _ _ trivial ?_
              clear hK K
              refine wpE_one (i := 0) (by kernel_rfl) (at_zero) (by rfl) (fun K hK => ?_)
              go_simp
              refine hK _ _ trivial ?_
              clear hK K
              refine wpE_one (i := 2) (by kernel_rfl) (at_succ (at_succ at_zero)) (by rfl) (fun K hK => ?_)
              refine wp_appM (.tmp 44) (.tmp 45) 22 rfl w0.heap.size 31 i0 _ 3 24 Try.underlying22 hi0 hz0 hz1 hz2 rfl (by omega) _ (some ⟨w0.heap.size + 1, 0, none⟩) 0 0 [] (stepL o a b n) ⟨sb, so, none⟩ n c (made3 (w0.drew.alloc (.cells #[.int .i64 0, .int .i64 T, .int .i64 0, .int .i64 1, .int .i64 (q : Int), .int .i64 (N : Int), .int .i64 3, .int .i64 (N : Int), .int .i64 0] 31)) _ _ (by simp) (by omega)) (stepL_len o a b n) (one_cells o a b n) ((HSS.out.below (((Below.refl w0.heap.size w0).drew.alloc (Nat.le_refl _) (.cells #[.int .i64 0, .int .i64 T, .int .i64 0, .int .i64 1, .int .i64 (q : Int), .int .i64 (N : Int), .int .i64 3, .int .i64 (N : Int), .int .i64 0] 31)).alloc (by simp) (.cells #[] 31))).news) rfl rfl (by omega) (by omega) (by simp <;> omega) ?_
              intro A2 c2 w2 hown2 hg2
              rw [Nat.zero_add, List.nil_append] at hown2
              rw [Nat.zero_add]
              have HO2 := Lib.hid hown2
              have HG2 := Lib.hid hg2
              have hbl2 := (((Below.refl w0.heap.size w0).drew.alloc (Nat.le_refl _) (.cells #[.int .i64 0, .int .i64 T, .int .i64 0, .int .i64 1, .int .i64 (q : Int), .int .i64 (N : Int), .int .i64 3, .int .i64 (N : Int), .int .i64 0] 31)).alloc (by simp) (.cells #[] 31)).grown hg2 (by simp <;> omega) (fun k hk => by simp at hk; omega)
              have HBL2 := Lib.hid hbl2
              have hsz2 : w0.heap.size ≤ w2.heap.size := hbl2.size
              clear hown2 hg2 hbl2
              refine hK _ _ trivial ?_
              clear hK K
              refine wpE_one (i := 16) (by kernel_rfl) (at_succ (at_succ (at_succ (at_succ (at_succ (at_succ (at_succ (at_succ (at_succ (at_succ (at_succ (at_succ (at_succ (at_succ (at_succ (at_succ at_zero)))))))))))))))) (by rfl) (fun K hK => ?_)
              refine wp_appM (.tmp 46) (.tmp 59) 22 rfl w0.heap.size 31 i0 _ 3 24 Try.underlying22 hi0 hz0 hz1 hz2 rfl (by omega) _ A2 n c2 _ [.int .i64 0, .int .i64 T, .int .i64 0, .int .i64 1, .int .i64 (q : Int), .int .i64 (N : Int), .int .i64 3, .int .i64 (N : Int), .int .i64 0] ⟨w0.heap.size, 0, none⟩ 3 3 (HO2.out) rfl (by simp [Value.oneCell']) (fun j u hj => by rw [add_lit, Nat.zero_add]; refine HG2.out.cell (a := ⟨_, j, none⟩) ?_ (by simp); exact (cell_of_row ((w0.alloc (.cells #[.int .i64 0, .int .i64 T, .int .i64 0, .int .i64 1, .int .i64 (q : Int), .int .i64 (N : Int), .int .i64 3, .int .i64 (N : Int), .int .i64 0] 31)).alloc (.cells #[] 31)) w0.heap.size j _ _ _ (stays_at w0 _ _ _ rfl)).trans (by simpa using hj)) (by rfl) rfl (by omega) (by omega) (by first | exact hsz2 | (simp; omega)) ?_
              intro A4 c4 w4 hown4 hg4
              have hbl4 := (HBL2.out).grown hg4 (by first | exact hsz2 | (simp; omega)) (fun k hk => by have := (own_ge HO2.out k hk).1; omega)
              have H4 : Hid (SS w4 w4.heap.size A4 (n + 3) c4 (moreO o n) (moreA a n T q N) (moreB b n N)) := Lib.hid (by
                have hr := hown4
                rw [stepL_more o a b n T q N] at hr
                exact SS.of_row hr)
              have HBL4 := Lib.hid hbl4
              clear hown4 hg4 hbl4
              refine hK _ _ trivial ?_
              clear hK K
              refine wpE_drop (k := 17) rfl (by kernel_rfl) ?_
              simp only [List.drop_succ_cons, List.drop_zero]
              go_frame
              go_wp2_with fail
              go_meet
              exact ⟨A4, c4, by simp, H4, HBL4⟩
        case rest =>
          obtain ⟨A, cM, rfl, HM, HBM⟩ := hcut
          have hfi : FI w0 w.heap.size w.heap.size n o a b := ⟨U, D, by rw [HN.out]; exact HI.out, AU, cU, AD, cD, DA, Dc, by rw [HN.out]; exact HF.out⟩
          have HFM := Lib.hid (hfi.below HBM.out)
          have okm : ∀ r, r < n + 3 → okS (st (moreO o n) (moreA a n T q N) (moreB b n N) r) (moreO o n r) (moreA a n T q N r) (moreB b n N r) := fun r hr => by
            have := ok_more o a b n T q HOK.out (by rw [HN.out]; exact hqN) r hr
            rw [HN.out] at this
            exact this
          have HOKM := Lib.hid okm
          have h3 : st (moreO o n) (moreA a n T q N) (moreB b n N) (n + 3) = (N + 1, thereBack (st o a b n).2 N q) := by
            have := st_more3 o a b n T q
            rw [HN.out] at this
            exact this
          have H3 := Lib.hid h3
          have HBW := Lib.hid (HB.out.trans (HBM.out.mono hsz0))
          have hszM : w.heap.size ≤ wc.heap.size := HBW.out.size
          clear hfi okm h3 c0 c1
          go_wp2_with fail
          refine (treeRun_any wc A (n + 3) cM (moreO o n) (moreA a n T q N) (moreB b n N) HM.out (by omega) HOKM.out).mono ?_
          rintro e w2 ⟨OA, Oc, vs, rfl, hown, hrow, hb⟩
          have hbl := hb.below (Nat.le_refl _)
          obtain ⟨g, rfl, -, -, hOc, hcell, -⟩ := row_at hown (show n + 2 < n + 3 by omega)
          obtain ⟨v, hv, A2, c2, rfl, hl⟩ := hrow (n + 2) (by omega)
          rw [show n + 2 + 1 = n + 3 by omega, H3.out] at hv hl
          have k2 : w2.cell? ⟨g, n + 2, none⟩ = some (.slice A2 (N + 1) c2) := by rw [hcell (n + 2) (by omega)]; exact hv
          have hlr : LR w2 A2 (N + 1) c2 (newL (st o a b n).2 N) := by
            have hs := flat_same (n := N + 1) (fun k x h1 h5 hx => there_back HI.out hqN k x h1 h5 hx)
            simp only at hl
            rw [hs] at hl
            exact LR.of hl
          obtain ⟨g2, rfl, p0, p1, p2, p3, p4⟩ := hlr.get (show N < N + 1 by omega)
          simp only [newL, if_true, idx] at p0 p1 p2 p3 p4
          have hc2 := hlr.1
          have HLR : Hid (LR w2 (some ⟨g2, 0, none⟩) N c2 (st o a b n).2) := Lib.hid (by
            refine ⟨by omega, fun h0 => ⟨g2, rfl, fun i j hi hj => ?_⟩⟩
            obtain ⟨g3, e3, hc⟩ := hlr.2 (by omega)
            injection e3 with e3; injection e3 with e3; subst e3
            rw [hc i j (by omega) hj, five_at _ _ _ hj, five_at _ _ _ hj]
            simp [newL, show i ≠ N by omega])
          have HFM2 := Lib.hid (HFM.out.below hbl)
          have HBW2 := Lib.hid (HBW.out.trans (hbl.mono hszM))
          have hsz2 : w.heap.size ≤ w2.heap.size := HBW2.out.size
          have heq := eql_links'
          have hnn : ((n : Int) + 3 - 1) = ((n + 2 : Nat) : Int) := by omega
          have hNc : (N : Int) ≤ (c2 : Int) := by omega
          have hw1 : IntKind.i64.wrap ((N : Int) + 1) = (N : Int) + 1 := by rw [IntKind.wrap_i64]; omega
          have hN2 : (N : Int) < (N : Int) + 1 := by omega
          have hN00 : (0 : Int) ≤ (N : Int) := by omega
          have hN1 : (N : Int) < ((N + 1 : Nat) : Int) := by omega
          have hg2 : ∀ w' : World, Below w2.heap.size w2 w' → w'.cell? ⟨g2, N * 5, none⟩ = some (.int .i64 (-1)) ∧ w'.cell? ⟨g2, N * 5 + 1, none⟩ = some (.int .i64 (-1)) ∧ w'.cell? ⟨g2, N * 5 + 2, none⟩ = some (.int .i64 (-1)) ∧ w'.cell? ⟨g2, N * 5 + 3, none⟩ = some (.int .i64 (-1)) ∧ w'.cell? ⟨g2, N * 5 + 4, none⟩ = some (.int .i64 (-1)) := fun w' hb' =>
            ⟨(hb'.cell (p := ⟨g2, N * 5, none⟩) (World.block_lt_of_cell? w2 ⟨g2, N * 5, none⟩ p0)).trans p0, (hb'.cell (p := ⟨g2, N * 5 + 1, none⟩) (World.block_lt_of_cell? w2 ⟨g2, N * 5 + 1, none⟩ p1)).trans p1, (hb'.cell (p := ⟨g2, N * 5 + 2, none⟩) (World.block_lt_of_cell? w2 ⟨g2, N * 5 + 2, none⟩ p2)).trans p2, (hb'.cell (p := ⟨g2, N * 5 + 3, none⟩) (World.block_lt_of_cell? w2 ⟨g2, N * 5 + 3, none⟩ p3)).trans p3, (hb'.cell (p := ⟨g2, N * 5 + 4, none⟩) (World.block_lt_of_cell? w2 ⟨g2, N * 5 + 4, none⟩ p4)).trans p4⟩
          have HG2 := Lib.hid hg2
          clear hown hrow hb hbl hcell hv hl hlr hg2 p0 p1 p2 p3 p4
          go_wp2_with fail
          refine wp_region_heads (a' := _) (S := fun _ => True) (late := fun j => decide (22 ≤ j) && decide (j < 25)) [] 25 (by kernel_rfl) (fun _ _ _ _ h => h) (by kernel_rfl) trivial (Heads.nil _) ?_
          refine wpE_one (i := 0) (by kernel_rfl) at_zero (by rfl) (fun K hK => ?_)
          go_simp
          refine (awake_any _).mono ?_
          rintro e w3 ⟨rfl, hb3⟩
          have HB3 : Hid (Below w2.heap.size w2 w3) := Lib.hid ⟨hb3.os, hb3.tape, hb3.output, hb3.size, hb3.block⟩
          clear hb3
          dsimp only
          refine hK _ _ trivial ?_
          clear hK K
          refine wpE_heads (a' := ?Ag1) (by kernel_rfl) (fun _ _ _ _ h => h) [(1, false), (2, false), (3, false), (4, false), (5, false), (6, false), (7, false), (8, false), (9, false), (10, false), (11, false), (12, false)] 12 _ _ _ (by kernel_rfl) ?hg1 trivial ?tg1
          case hg1 =>
            refine Heads.cons _ _ _ _ ?_ _ _ (at_succ at_zero) (Or.inl ⟨by rfl, ?_⟩) ?_
            rotate_left 1
            · intro w _
              go_simp
              try with_reducible rfl
            simp only [Act.put, List.setIfInBounds_toArray, List.set_cons_zero, List.set_cons_succ]
            refine Heads.cons _ _ _ _ ?_ _ _ (at_succ (at_succ at_zero)) (Or.inl ⟨by rfl, ?_⟩) ?_
            rotate_left 1
            · intro w _
              go_simp
              try with_reducible rfl
            simp only [Act.put, List.setIfInBounds_toArray, List.set_cons_zero, List.set_cons_succ]
            refine Heads.cons _ _ _ _ ?_ _ _ (at_succ (at_succ (at_succ at_zero))) (Or.inl ⟨by rfl, ?_⟩) ?_
            rotate_left 1
            · intro w _
              go_simp
              try with_reducible rfl
            simp only [Act.put, List.setIfInBounds_toArray, List.set_cons_zero, List.set_cons_succ]
            refine Heads.cons _ _ _ _ ?_ _ _ (at_succ (at_succ (at_succ (at_succ at_zero)))) (Or.inl ⟨by rfl, ?_⟩) ?_
            rotate_left 1
            · intro w _
              go_simp
              try with_reducible rfl
            simp only [Act.put, List.setIfInBounds_toArray, List.set_cons_zero, List.set_cons_succ]
            refine Heads.cons _ _ _ _ ?_ _ _ (at_succ (at_succ (at_succ (at_succ (at_succ at_zero))))) (Or.inl ⟨by rfl, ?_⟩) ?_
            rotate_left 1
            · intro w _
              go_simp
              try with_reducible rfl
            simp only [Act.put, List.setIfInBounds_toArray, List.set_cons_zero, List.set_cons_succ]
            refine Heads.cons _ _ _ _ ?_ _ _ (at_succ (at_succ (at_succ (at_succ (at_succ (at_succ at_zero)))))) (Or.inl ⟨by rfl, ?_⟩) ?_
            rotate_left 1
            · intro w _
              go_simp
              try with_reducible rfl
            simp only [Act.put, List.setIfInBounds_toArray, List.set_cons_zero, List.set_cons_succ]
            refine Heads.cons _ _ _ _ ?_ _ _ (at_succ (at_succ (at_succ (at_succ (at_succ (at_succ (at_succ at_zero))))))) (Or.inl ⟨by rfl, ?_⟩) ?_
            rotate_left 1
            · intro w _
              go_simp
              try with_reducible rfl
            simp only [Act.put, List.setIfInBounds_toArray, List.set_cons_zero, List.set_cons_succ]
            refine Heads.cons _ _ _ _ ?_ _ _ (at_succ (at_succ (at_succ (at_succ (at_succ (at_succ (at_succ (at_succ at_zero)))))))) (Or.inl ⟨by rfl, ?_⟩) ?_
            rotate_left 1
            · intro w _
              go_simp
              try with_reducible rfl
            simp only [Act.put, List.setIfInBounds_toArray, List.set_cons_zero, List.set_cons_succ]
            refine Heads.cons _ _ _ _ ?_ _ _ (at_succ (at_succ (at_succ (at_succ (at_succ (at_succ (at_succ (at_succ (at_succ at_zero))))))))) (Or.inl ⟨by rfl, ?_⟩) ?_
            rotate_left 1
            · intro w _
              go_simp
              try with_reducible rfl
            simp only [Act.put, List.setIfInBounds_toArray, List.set_cons_zero, List.set_cons_succ]
            refine Heads.cons _ _ _ _ ?_ _ _ (at_succ (at_succ (at_succ (at_succ (at_succ (at_succ (at_succ (at_succ (at_succ (at_succ at_zero)))))))))) (Or.inl ⟨by rfl, ?_⟩) ?_
            rotate_left 1
            · intro w _
              go_simp
              try with_reducible rfl
            simp only [Act.put, List.setIfInBounds_toArray, List.set_cons_zero, List.set_cons_succ]
            refine Heads.cons _ _ _ _ ?_ _ _ (at_succ (at_succ (at_succ (at_succ (at_succ (at_succ (at_succ (at_succ (at_succ (at_succ (at_succ at_zero))))))))))) (Or.inl ⟨by rfl, ?_⟩) ?_
            rotate_left 1
            · intro w _
              go_simp
              try with_reducible rfl
            simp only [Act.put, List.setIfInBounds_toArray, List.set_cons_zero, List.set_cons_succ]
            refine Heads.cons _ _ _ _ ?_ _ _ (at_succ (at_succ (at_succ (at_succ (at_succ (at_succ (at_succ (at_succ (at_succ (at_succ (at_succ (at_succ at_zero)))))))))))) (Or.inl ⟨by rfl, ?_⟩) ?_
            rotate_left 1
            · intro w _
              go_simp
              try with_reducible rfl
            simp only [Act.put, List.setIfInBounds_toArray, List.set_cons_zero, List.set_cons_succ]
            exact Heads.nil _
          case tg1 =>
            refine wpE_wanted (i := 13) (by kernel_rfl) (at_succ (at_succ (at_succ (at_succ (at_succ (at_succ (at_succ (at_succ (at_succ (at_succ (at_succ (at_succ (at_succ at_zero))))))))))))) (by rfl) (fun K hK => ?_)
            go_simp
            refine (links_fi w3 w.heap.size w.heap.size n o a b (HFM2.out.below HB3.out) (by omega)).mono ?_
            rintro e w4 ⟨⟨AL, cL, rfl, hL⟩, hb4⟩
            have HB4 := Lib.hid (HB3.out.trans (hb4.mono HB3.out.size))
            rw [HN.out] at hL
            rw [HN.out]
            have HL4 := Lib.hid (LR.of hL)
            obtain ⟨r0, r1, r2, r3, r4⟩ := HG2.out w4 HB4.out
            clear hL hb4
            dsimp only
            refine hK _ _ trivial ?_
            clear hK K
            refine wpE_wanted (i := 14) (by kernel_rfl) (at_succ (at_succ (at_succ (at_succ (at_succ (at_succ (at_succ (at_succ (at_succ (at_succ (at_succ (at_succ (at_succ (at_succ at_zero)))))))))))))) (by rfl) (fun K hK => ?_)
            go_simp
            refine (same_any w4 (some ⟨g2, 0, none⟩) N c2 AL cL _ (HLR.out.but HB4.out) HL4.out (by omega)).mono ?_
            rintro e w5 ⟨rfl, m5, rfl⟩
            dsimp only
            refine hK _ _ trivial ?_
            clear hK K
            refine wpE_heads (a' := ?Ag2) (by kernel_rfl) (fun _ _ _ _ h => h) [(15, false), (16, false), (17, false), (18, false), (19, false), (21, false)] 4 _ _ _ (by kernel_rfl) ?hg2 trivial ?tg2
            case hg2 =>
              refine Heads.cons _ _ _ _ ?_ _ _ (at_succ (at_succ (at_succ (at_succ (at_succ (at_succ (at_succ (at_succ (at_succ (at_succ (at_succ (at_succ (at_succ (at_succ (at_succ at_zero))))))))))))))) (Or.inl ⟨by rfl, ?_⟩) ?_
              rotate_left 1
              · intro w _
                go_simp
                try with_reducible rfl
              simp only [Act.put, List.setIfInBounds_toArray, List.set_cons_zero, List.set_cons_succ]
              refine Heads.cons _ _ _ _ ?_ _ _ (at_succ (at_succ (at_succ (at_succ (at_succ (at_succ (at_succ (at_succ (at_succ (at_succ (at_succ (at_succ (at_succ (at_succ (at_succ (at_succ at_zero)))))))))))))))) (Or.inl ⟨by rfl, ?_⟩) ?_
              rotate_left 1
              · intro w _
                go_simp
                try with_reducible rfl
              simp only [Act.put, List.setIfInBounds_toArray, List.set_cons_zero, List.set_cons_succ]
              refine Heads.cons _ _ _ _ ?_ _ _ (at_succ (at_succ (at_succ (at_succ (at_succ (at_succ (at_succ (at_succ (at_succ (at_succ (at_succ (at_succ (at_succ (at_succ (at_succ (at_succ (at_succ at_zero))))))))))))))))) (Or.inl ⟨by rfl, ?_⟩) ?_
              rotate_left 1
              · intro w _
                go_simp
                try with_reducible rfl
              simp only [Act.put, List.setIfInBounds_toArray, List.set_cons_zero, List.set_cons_succ]
              refine Heads.cons _ _ _ _ ?_ _ _ (at_succ (at_succ (at_succ (at_succ (at_succ (at_succ (at_succ (at_succ (at_succ (at_succ (at_succ (at_succ (at_succ (at_succ (at_succ (at_succ (at_succ (at_succ at_zero)))))))))))))))))) (Or.inl ⟨by rfl, ?_⟩) ?_
              rotate_left 1
              · intro w _
                go_simp
                try with_reducible rfl
              simp only [Act.put, List.setIfInBounds_toArray, List.set_cons_zero, List.set_cons_succ]
              refine Heads.cons _ _ _ _ ?_ _ _ (at_succ (at_succ (at_succ (at_succ (at_succ (at_succ (at_succ (at_succ (at_succ (at_succ (at_succ (at_succ (at_succ (at_succ (at_succ (at_succ (at_succ (at_succ (at_succ at_zero))))))))))))))))))) (Or.inl ⟨by rfl, ?_⟩) ?_
              rotate_left 1
              · intro w _
                go_simp
                try with_reducible rfl
              simp only [Act.put, List.setIfInBounds_toArray, List.set_cons_zero, List.set_cons_succ]
              refine Heads.cons _ _ _ _ ?_ _ _ (at_succ (at_succ (at_succ (at_succ (at_succ (at_succ (at_succ (at_succ (at_succ (at_succ (at_succ (at_succ (at_succ (at_succ (at_succ (at_succ (at_succ (at_succ (at_succ (at_succ (at_succ at_zero))))))))))))))))))))) (Or.inl ⟨by rfl, ?_⟩) ?_
              rotate_left 1
              · intro w _
                go_simp
                try with_reducible rfl
              simp only [Act.put, List.setIfInBounds_toArray, List.set_cons_zero, List.set_cons_succ]
              exact Heads.nil _
            case tg2 =>
              refine wpE_wanted (i := 20) (by kernel_rfl) (at_succ (at_succ (at_succ (at_succ (at_succ (at_succ (at_succ (at_succ (at_succ (at_succ (at_succ (at_succ (at_succ (at_succ (at_succ (at_succ (at_succ (at_succ (at_succ (at_succ at_zero)))))))))))))))))))) (by rfl) (fun K hK => ?_)
              go_simp
              refine hK _ _ trivial ?_
              clear hK K
              refine wpE_drop (k := 22) rfl (by kernel_rfl) ?_
              simp only [List.drop_succ_cons, List.drop_zero]
              try go_frame
              go_wp2
              go_ret
              exact ⟨rfl, HBW2.out.trans ((⟨HB4.out.os, HB4.out.tape, HB4.out.output, HB4.out.size, HB4.out.block⟩ : Below w2.heap.size w2 (w4.drewN m5)).mono hsz2)⟩
end Go.Proofs.Ytkcccajiplchpaa
