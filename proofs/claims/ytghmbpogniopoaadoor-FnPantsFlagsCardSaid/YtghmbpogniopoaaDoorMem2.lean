/- A slice of bytes that reads as a function of the place; its copies, cuts and comparisons, in plain words. -/
import Derived.Test.YtghmbpogniopoaaDoorMem
import Derived.Lib.SlBytesConst
import Derived.Lib.Strings
import Derived.OpenShut
namespace Go.Proofs.YtghmbpogniopoaaDoor
open Go.RowKit

/-- The slice value '.slice A n c' reads as the bytes f 0, .., f (n-1); its cells lie below block B. -/
def RB (w : World) (B : Nat) (A : Option Addr) (n c : Nat) (f : Nat → Int) : Prop :=
  n ≤ c ∧ c ≤ maxLen ∧ (∀ j, 0 ≤ f j ∧ f j ≤ 255) ∧ (0 < n → ∃ b off, A = some ⟨b, off, none⟩ ∧ b < B ∧ ∀ j, j < n → w.cell? ⟨b, off + j, none⟩ = some (.int .u8 (f j)))

section
variable {w w' : World} {B B' n c : Nat} {A : Option Addr} {f : Nat → Int}
theorem RB.rng (h : RB w B A n c f) : ∀ j, 0 ≤ f j ∧ f j ≤ 255 := h.2.2.1
theorem RB.cap (h : RB w B A n c f) : n ≤ c := h.1
theorem RB.nil_ (w : World) (B : Nat) : RB w B none 0 0 (fun _ => 0) := ⟨Nat.le_refl _, by unfold maxLen; omega, fun _ => by simp, fun h => absurd h (by omega)⟩
theorem RB.below (h : RB w B A n c f) (hb : Below B w w') : RB w' B A n c f :=
  ⟨h.1, h.2.1, h.2.2.1, fun hn => by
    obtain ⟨b, off, e, hB, hc⟩ := h.2.2.2 hn
    exact ⟨b, off, e, hB, fun j hj => (hb.cell (p := ⟨b, off + j, none⟩) hB).trans (hc j hj)⟩⟩
theorem RB.more (h : RB w B A n c f) (hB : B ≤ B') : RB w B' A n c f :=
  ⟨h.1, h.2.1, h.2.2.1, fun hn => by
    obtain ⟨b, off, e, hB', hc⟩ := h.2.2.2 hn
    exact ⟨b, off, e, by omega, hc⟩⟩
theorem RB.same {g : Nat → Int} (h : RB w B A n c f) (hg : ∀ j, j < n → g j = f j) (hr : ∀ j, 0 ≤ g j ∧ g j ≤ 255) : RB w B A n c g :=
  ⟨h.1, h.2.1, hr, fun hn => by
    obtain ⟨b, off, e, hB', hc⟩ := h.2.2.2 hn
    exact ⟨b, off, e, hB', fun j hj => by rw [hg j hj]; exact hc j hj⟩⟩
theorem add_lit (b off j : Nat) : (⟨b, off, none⟩ : Addr).add j = ⟨b, off + j, none⟩ := by unfold Addr.add; split <;> simp_all
theorem RB.cut (h : RB w B A n c f) {lo hi : Nat} (h1 : lo ≤ hi) (h2 : hi ≤ n) :
    RB w B (if c = lo then A else A.map (·.add lo)) (hi - lo) (c - lo) (fun j => f (lo + j)) := by
  refine ⟨by have := h.1; omega, by have := h.2.1; omega, fun j => h.2.2.1 _, fun hn => ?_⟩
  obtain ⟨b, off, rfl, hB, hc⟩ := h.2.2.2 (by omega)
  rw [if_neg (by have := h.1; omega)]
  refine ⟨b, off + lo, by rw [Option.map_some, add_lit], hB, fun j hj => ?_⟩
  rw [Nat.add_assoc]
  exact hc (lo + j) (by omega)

theorem RB.upto (h : RB w B A n c f) {hi : Nat} (h2 : hi ≤ n) : RB w B A hi c f :=
  ⟨by have := h.1; omega, h.2.1, h.2.2.1, fun hn => by
    obtain ⟨b, off, e, hB, hc⟩ := h.2.2.2 (by omega)
    exact ⟨b, off, e, hB, fun j hj => hc j (by omega)⟩⟩

/-- What the reading of an argument gives. -/
theorem RB.of_ints (w : World) (x : Addr) (l c : Nat) (zs : List Int) (hl : l ≤ c) (hm : c ≤ maxLen) (hz : zs.length = c) (hcell : ∀ i, i < zs.length → w.cell? (x.add i) = some (.int .u8 (zs.getD i 0)))
    (hwz : ∀ z ∈ zs, (Lit.int .u8 z).wf = true) : RB w w.heap.size (some x) l c (fun j => zs.getD j 0) := by
  refine ⟨hl, hm, fun j => ?_, fun hn => ?_⟩
  · rcases Nat.lt_or_ge j zs.length with hj | hj
    · have := hwz (zs.getD j 0) (by rw [List.getD_eq_getElem?_getD, List.getElem?_eq_getElem hj]; exact List.getElem_mem hj)
      exact bounds_u8 this
    · show 0 ≤ zs.getD j 0 ∧ zs.getD j 0 ≤ 255
      rw [List.getD_eq_getElem?_getD, List.getElem?_eq_none hj]; simp
  · have h0 := hcell 0 (by omega)
    obtain ⟨b, off, sp⟩ := x
    have hsp : sp = none := by simpa [Addr.add] using World.cell?_spot h0
    subst hsp
    refine ⟨b, off, rfl, ?_, fun j hj => ?_⟩
    · have := World.block_lt_of_cell? w _ h0
      simpa [add_lit] using this
    · have := hcell j (by omega)
      rwa [add_lit] at this

/-- An owned row of bytes. -/
theorem RB.of_own {base : Nat} {e : TypeId} {xs : List Int} (h : w.ownsRow base e 1 (.slice A xs.length c) xs.length (xs.map (Value.int .u8))) (hx : ∀ x ∈ xs, 0 ≤ x ∧ x ≤ 255) : RB w w.heap.size A xs.length c (fun j => xs.getD j 0) := by
  have hr : ∀ j, 0 ≤ xs.getD j 0 ∧ xs.getD j 0 ≤ 255 := fun j => by
    rcases Nat.lt_or_ge j xs.length with hj | hj
    · have := hx (xs.getD j 0) (by rw [List.getD_eq_getElem?_getD, List.getElem?_eq_getElem hj]; exact List.getElem_mem hj)
      exact this
    · rw [List.getD_eq_getElem?_getD, List.getElem?_eq_none hj]; simp
  rcases h.2 with ⟨hv, h0⟩ | ⟨g, cap, cur, hv, hb, hg, hnc, hcm, hcs, htake⟩
  · injection hv with h1 h2 h3
    subst h1
    exact ⟨by omega, by rw [h3]; unfold maxLen; omega, hr, fun hn => by omega⟩
  · injection hv with h1 h2 h3
    subst h1 h3
    refine ⟨hnc, hcm, hr, fun hn => ⟨g, 0, rfl, (Array.getElem?_eq_some_iff.1 hg).1, fun j hj => ?_⟩⟩
    have := h.cells (g := g) rfl j (.int .u8 (xs.getD j 0)) (by
      rw [List.getElem?_map, List.getElem?_eq_getElem hj, List.getD_eq_getElem?_getD, List.getElem?_eq_getElem hj]; rfl)
    rwa [add_lit] at this

/-- 'string(b)'. -/
theorem RB.conv {P : Program} (h : RB w B A n c f) (src dst e : TypeId) (hs : P.underlying src = some (.slice e)) (he : P.underlying e = some (.int .u8)) (hd : P.underlying dst = some .string) :
    (convert src dst (.slice A n c)).run P w = .ok (.string (strOf ((List.range n).map f))) w := by
  rcases Nat.eq_zero_or_pos n with rfl | hn
  · rw [run_convert_bytes_string w src dst e A 0 c hs he hd]
    cases A with
    | none => rfl
    | some a =>
      rw [run_bytesToString w a 0 c [] (by simp [loadCells, loadCellsFrom])]
      rfl
  · obtain ⟨b, off, rfl, hB, hc⟩ := h.2.2.2 hn
    have hr := run_convert_bytes_back (P := P) w src dst e ⟨b, off, none⟩ c (bytesOf ((List.range n).map f)) hs he hd (fun j hj => by
      have hj' : j < n := by simpa [bytesOf] using hj
      rw [add_lit, hc j hj']
      obtain ⟨h0, h1⟩ := h.2.2.1 j
      simp only [bytesOf, List.getElem_map, List.getElem_range, toNat_of _ h0 h1])
    have hl : (bytesOf ((List.range n).map f)).length = n := by simp [bytesOf]
    rwa [hl] at hr
end

theorem strOf_at (n : Nat) (f : Nat → Int) (hf : ∀ j, 0 ≤ f j ∧ f j ≤ 255) : (strOf ((List.range n).map f)).size = n ∧ ∀ j (h : j < (strOf ((List.range n).map f)).size), (((strOf ((List.range n).map f))[j]'h).toNat : Int) = f j := by
  refine ⟨by rw [strOf_size]; simp, fun j h => ?_⟩
  have hj : j < n := by rw [strOf_size] at h; simpa using h
  rw [bt_str, strOf_list, bt_bytesOf _ (by intro x hx; simp only [List.mem_map, List.mem_range] at hx; obtain ⟨j, _, rfl⟩ := hx; exact hf j)]
  simp [hj]
theorem strOf_ext {n m : Nat} {f g : Nat → Int} (hnm : n = m) (h : ∀ j, j < n → f j = g j) : strOf ((List.range n).map f) = strOf ((List.range m).map g) := by
  subst hnm
  congr 1
  apply List.map_congr_left
  intro j hj
  exact h j (by simpa using hj)
theorem strOf_inj {n m : Nat} {f g : Nat → Int} (hf : ∀ j, 0 ≤ f j ∧ f j ≤ 255) (hg : ∀ j, 0 ≤ g j ∧ g j ≤ 255) (h : strOf ((List.range n).map f) = strOf ((List.range m).map g)) : n = m ∧ ∀ j, j < n → f j = g j := by
  obtain ⟨h1, h2⟩ := strOf_at n f hf
  obtain ⟨h3, h4⟩ := strOf_at m g hg
  have e : n = m := by rw [← h1, ← h3, h]
  refine ⟨e, fun j hj => ?_⟩
  have a := h2 j (by omega)
  have b := h4 j (by omega)
  rw [← a, ← b]
  simp only [h]

/-- 'append(row, b...)': a slice that reads as bytes, put behind an owned row. -/
theorem wpList_appB {P : Program} {ops : Array Oper} {rest : List Oper} {o : Oper} {a : Act} {Q : Exit → Act → World → Prop} (s x : Operand) (t : TypeId)
    (base : Nat) (e : TypeId) (i : TypeInfo) (z : Value) (w : World) (A : Option Addr) (n c : Nat) (xs : List Int) (hown : w.ownsRow base e 1 (.slice A n c) n (xs.map (Value.int .u8)))
    (B : Nat) (A2 : Option Addr) (m c2 : Nat) (f : Nat → Int) (hrb : RB w B A2 m c2 f) (hsome : A2.isSome = true)
    (hgd : o.guard = none) (ho : o.op = .call { callee := .builtin .append, args := #[s, x], argTypes := #[t, t] })
    (ht : P.underlying t = some (.slice e)) (hi : P.info? e = some i) (hz : i.zero = some z)
    (hsize : i.size = 1) (hby : i.bytes = 1) (hzs : z.cells.size = 1)
    (hs : a.eval s = .slice A n c) (hx : a.eval x = .slice A2 m c2)
    (hn : n + m ≤ 140737488351232) (hbase : base ≤ w.heap.size)
    (h : ∀ A' c' w', w'.ownsRow base e 1 (.slice A' (n + m) c') (n + m) ((xs ++ (List.range m).map f).map (Value.int .u8)) → w.grownBy w' (A.map (·.block)) → (A.isSome = true → A'.isSome = true) → wpList P ops Q rest (a.put o.dst (.slice A' (n + m) c')) w') :
    wpList P ops Q (o :: rest) a w := by
  cases A2 with
  | none => simp at hsome
  | some ad =>
    have hc : ∀ j u', ((List.range m).map fun j => Value.int .u8 (f j))[j]? = some u' → w.cell? (ad.add j) = some u' := by
      intro j u' hj
      have hjm : j < m := by
        have := (List.getElem?_eq_some_iff.1 hj).1
        simpa using this
      obtain ⟨b, off, e1, _, hc⟩ := hrb.2.2.2 (by omega)
      injection e1 with e1
      subst e1
      rw [add_lit, hc j hjm]
      simp [hjm] at hj
      rw [hj]
    refine wpList_plain hgd fun K hK => ?_
    obtain ⟨v', w', hr, h2, h3, h4⟩ := run_append_own (P := P) w base t o.type e i z 1 1 ht hi hz hsize hby hzs (by omega) _ n (xs.map (Value.int .u8)) hown
      ad m c2 ((List.range m).map fun j => Value.int .u8 (f j)) (by simp) hc (by intro u' hu; simp at hu; obtain ⟨j, _, rfl⟩ := hu; rfl) (by unfold maxLen; omega) (by omega) hbase
    unfold Oper.wp execOp
    simp only [ho, resolve, invoke, builtin, Sem.run_bind, Sem.run_pure, Result.andThen_ok, List.map_toArray, List.map_cons, List.map_nil, hs, hx, hr]
    have hob : (Value.slice A n c).ownBlock = A.map (·.block) := by cases A <;> rfl
    rw [hob] at h3
    obtain ⟨A', c', rfl⟩ := own_form h2
    refine hK _ _ (h A' c' w' ?_ h3 (fun hA => ?_))
    · rw [List.map_append, List.map_map]
      exact h2
    · cases A' with
      | some _ => rfl
      | none =>
        exfalso
        rcases h2.2 with ⟨hv, _⟩ | ⟨g, cap, cur, hv, _⟩
        · have := (h4.1 hv).1
          injection this with h1
          subst h1
          simp at hA
        · simp at hv
end Go.Proofs.YtghmbpogniopoaaDoor
