/- Ids made unique: what came in, and two ids put ahead of it. -/
import Derived.Test.YtfhpjcgflejgnaaDoorU8
import Derived.Laws.AppendOwnNone
import Derived.Deep.QuietTactic
import Derived.BigQuiet
namespace Go.Proofs.YtfhpjcgflejgnaaDoor
open Go.RowKit Go.Maps Go.WideShapes Go.WideMaps Go.ChangeMaps
set_option linter.unusedVariables false

/-- Whether nothing is longer than the greatest size. -/
def fitsS (n : Nat) (g : Nat → ByteArray) : Bool := decide (n ≤ 2147483647 ∧ ∀ j, j < n → (g j).size ≤ 2147483647)
set_option maxHeartbeats 1000000 in
theorem fits_any (A : Option Addr) (n c : Nat) (g : Nat → ByteArray) (w : World) (B : Nat) (h : RS w B A n c g) (hc : c ≤ 9223372036854775807) (hs : ∀ j, j < n → (g j).size ≤ 9223372036854775807) :
    Calls Tryd.prog 4 #[.slice A n c] w fun e w' => e = .returned (.bool (fitsS n g)) ∧ w = w' := by
  have HH := Lib.hid h; have HS := Lib.hid hs
  have hnc := h.1
  clear h hs
  by_cases h1 : n ≤ 2147483647
  case neg =>
    have HO : Hid (fitsS n g = false) := Lib.hid (by unfold fitsS; simp; omega)
    go_enter Tryd.func4, Tryd.ntmps4
    go_wp2
    go_ret
    exact ⟨ret_bool (by rw [HO.out]), rfl⟩
  go_enter Tryd.func4, Tryd.ntmps4
  go_wp2
  go_loop [2, 10] (fun rv jv => ∃ j : Nat, Hid (∀ i, i < j → (g i).size ≤ 2147483647) ∧ j ≤ n ∧ rv = .bool false ∧ jv = .int .i64 j) (fun _ jv => n - (intOf jv).toNat)
  case atStart => exact ⟨0, Lib.hid (fun i hi => by omega), by omega, rfl, rfl⟩
  case round =>
    obtain ⟨j, HJ, hj, rfl, rfl⟩ := hrel
    by_cases hjn : j < n
    · obtain ⟨b, off, rfl, hB, hcell⟩ := HH.out.2 (by omega)
      have kj := hcell j hjn
      have hsj := HS.out j hjn
      clear hcell
      by_cases hz : (g j).size ≤ 2147483647
      · go_wp2
        go_round
        case rel => exact ⟨j + 1, Lib.hid (fun i hi => by
          by_cases e : i = j
          · rw [e]; exact hz
          · exact HJ.out i (by omega)), by omega, rfl, by go_num⟩
        case measure => simp [intOf]; omega
      · have HO : Hid (fitsS n g = false) := Lib.hid (by unfold fitsS; simp; exact fun _ => ⟨j, hjn, by omega⟩)
        go_wp2
        go_ret
        exact ⟨ret_bool (by rw [HO.out]), rfl⟩
    · have HO : Hid (fitsS n g = true) := Lib.hid (by unfold fitsS; simp; exact ⟨h1, fun i hi => HJ.out i (by omega)⟩)
      go_wp2
      go_ret
      exact ⟨ret_bool (by rw [HO.out]), rfl⟩

def aB : ByteArray := ⟨#[97]⟩
/-- Two ids ahead. -/
def ahead (n : Nat) (g : Nat → ByteArray) (j : Nat) : ByteArray := if j < 2 then aB else if j - 2 < n then g (j - 2) else ByteArray.empty
theorem ahead_size {n : Nat} {g : Nat → ByteArray} (h : ∀ j, j < n → (g j).size ≤ 40) (j : Nat) : (ahead n g j).size ≤ 40 := by
  unfold ahead
  split
  · decide
  · split
    · exact h _ (by assumption)
    · decide
/-- 'append([]string{..}, ids...)'. -/
theorem wpList_appS {P : Program} {ops : Array Oper} {rest : List Oper} {o : Oper} {a : Act} {Q : Exit → Act → World → Prop} (s x : Operand) (t : TypeId)
    (base : Nat) (e : TypeId) (i : TypeInfo) (z : Value) (w : World) (A : Option Addr) (n c : Nat) (xs : List Value) (hown : w.ownsRow base e 1 (.slice A n c) n xs)
    (B : Nat) (A2 : Option Addr) (m c2 : Nat) (g : Nat → ByteArray) (hrs : RS w B A2 m c2 g) (hcc : A2 = none → c2 = 0)
    (hgd : o.guard = none) (ho : o.op = .call { callee := .builtin .append, args := #[s, x], argTypes := #[t, t] })
    (ht : P.underlying t = some (.slice e)) (hi : P.info? e = some i) (hz : i.zero = some z)
    (hsize : i.size = 1) (hby : i.bytes = 16) (hzs : z.cells.size = 1)
    (hs : a.eval s = .slice A n c) (hx : a.eval x = .slice A2 m c2)
    (hn : n + m ≤ 1000000) (hbase : base ≤ w.heap.size)
    (h : ∀ A' c' w', w'.ownsRow base e 1 (.slice A' (n + m) c') (n + m) (xs ++ (List.range m).map fun j => Value.string (g j)) → w.grownBy w' (A.map (·.block)) → wpList P ops Q rest (a.put o.dst (.slice A' (n + m) c')) w') :
    wpList P ops Q (o :: rest) a w := by
  cases A2 with
  | none =>
    obtain rfl : m = 0 := by
      rcases Nat.eq_zero_or_pos m with h0 | h0
      · exact h0
      · obtain ⟨b, off, e1, _⟩ := hrs.2 h0; cases e1
    obtain rfl := hcc rfl
    refine wpList_append_own_none hgd s x t ho base e i 1 ht hi _ n xs hs hown hx ?_
    have := h A c w (by simpa using hown) (World.grownBy.refl w _)
    simpa using this
  | some ad =>
    have hc : ∀ j u', ((List.range m).map fun j => Value.string (g j))[j]? = some u' → w.cell? (ad.add j) = some u' := by
      intro j u' hj
      have hjm : j < m := by
        have := (List.getElem?_eq_some_iff.1 hj).1
        simpa using this
      obtain ⟨b, off, e1, _, hc⟩ := hrs.2 (by omega)
      injection e1 with e1
      subst e1
      rw [add_lit, hc j hjm]
      simp [hjm] at hj
      rw [hj]
    refine wpList_plain hgd fun K hK => ?_
    obtain ⟨v', w', hr, h2, h3, h4⟩ := run_append_own (P := P) w base t o.type e i z 1 16 ht hi hz hsize hby hzs (by omega) _ n xs hown
      ad m c2 ((List.range m).map fun j => Value.string (g j)) (by simp) hc (by intro u' hu; simp at hu; obtain ⟨j, _, rfl⟩ := hu; rfl) (by unfold maxLen; omega) (by omega) hbase
    unfold Oper.wp execOp
    simp only [ho, resolve, invoke, builtin, Sem.run_bind, Sem.run_pure, Result.andThen_ok, List.map_toArray, List.map_cons, List.map_nil, hs, hx, hr]
    rw [ownB] at h3
    obtain ⟨A', c', rfl⟩ := own_form h2
    exact hK _ _ (h A' c' w' h2 h3)
theorem made2 (w : World) (e : TypeId) (u v : Value) : (w.alloc (.cells #[u, v] e)).ownsRow w.heap.size e 1 (.slice (some ⟨w.heap.size, 0, none⟩) 2 2) 2 [u, v] :=
  ⟨rfl, .inr ⟨w.heap.size, 2, #[u, v], rfl, Nat.le_refl _, heap_alloc_new w _, by omega, by unfold maxLen; omega, rfl, rfl⟩⟩
theorem RS.of_own {w : World} {base : Nat} {e : TypeId} {A : Option Addr} {n c : Nat} {L : List ByteArray} {g : Nat → ByteArray} (h : w.ownsRow base e 1 (.slice A n c) n (L.map .string)) (hg : ∀ j, j < n → L[j]? = some (g j)) : RS w w.heap.size A n c g := by
  rcases h.2 with ⟨hv, h0⟩ | ⟨q, cap, cur, hv, _, _, hle, _⟩
  · subst h0
    injection hv with h1 _ h3
    subst h1 h3
    exact ⟨Nat.le_refl _, fun hn => absurd hn (by omega)⟩
  · injection hv with h1 h2 h3
    subst h1 h3
    refine ⟨hle, fun hn => ⟨q, 0, rfl, (h.lt q rfl).2, fun j hj => ?_⟩⟩
    have := h.cellAt j (by omega)
    rw [Nat.zero_add, this, List.getElem?_map, hg j hj]
    rfl
end Go.Proofs.YtfhpjcgflejgnaaDoor
