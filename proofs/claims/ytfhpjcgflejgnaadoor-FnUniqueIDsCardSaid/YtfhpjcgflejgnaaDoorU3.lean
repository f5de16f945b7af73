/- Ids made unique (the reference): the list of ids in memory, and the place of one. -/
import Derived.Test.YtfhpjcgflejgnaaDoorU2
import Derived.Lib.OwnKind
namespace Go.Proofs.YtfhpjcgflejgnaaDoor
open Go.RowKit Go.Maps
set_option linter.unusedVariables false

theorem str_eq {a b : ByteArray} (h : a = b) : (a.toList == b.toList) = true := by rw [h]; simp
theorem str_ne {a b : ByteArray} (h : a ≠ b) : (a.toList == b.toList) = false := by
  have : a.toList ≠ b.toList := fun e => h (by
    rw [Lib.toList_data, Lib.toList_data] at e
    exact ByteArray.ext (Array.ext' e))
  simpa using this
/-- A slice of pairs of a string and a number. -/
def KR (w : World) (A : Option Addr) (n c : Nat) (K : Ids) : Prop :=
  n = K.length ∧ (0 < n → ∃ b, A = some ⟨b, 0, none⟩ ∧ ∀ i, i < n → w.cell? ⟨b, i * 2, none⟩ = some (.string (kd K i).1) ∧ w.cell? ⟨b, i * 2 + 1, none⟩ = some (.int .i64 (kd K i).2))
set_option maxHeartbeats 1000000 in
theorem placeOf_at (A : Option Addr) (n c : Nat) (K : Ids) (s : ByteArray) (i : Nat) (w : World) (h : KR w A n c K) (hn : n ≤ 1000) (ha : At K s i) :
    Calls Tryd.prog 9 #[.slice A n c, .string s] w fun e w' => e = .returned (.int .i64 i) ∧ w = w' := by
  obtain ⟨hl, hc0⟩ := h
  have hin : i < n := by have := ha.1; omega
  obtain ⟨b, rfl, hc⟩ := hc0 (by omega)
  have HC := Lib.hid hc; have HA := Lib.hid ha; have HL := Lib.hid hl
  clear hc0 hc ha hl
  go_enter Tryd.func9, Tryd.ntmps9
  go_wp2
  go_loop [4, 8] (fun rv jv => ∃ j : Nat, j ≤ i ∧ rv = .int .i64 0 ∧ jv = .int .i64 j) (fun _ jv => n - (intOf jv).toNat)
  case atStart => exact ⟨0, by omega, rfl, rfl⟩
  case round =>
    obtain ⟨j, hj, rfl, rfl⟩ := hrel
    have kj := (HC.out j (by omega)).1
    by_cases e : j = i
    · have he := str_eq (e ▸ HA.out.2.1)
      subst e
      go_wp2
      go_ret
      exact ⟨rfl, rfl⟩
    · have he := str_ne (HA.out.2.2 j (by omega))
      go_wp2
      go_round
      case rel => exact ⟨j + 1, by omega, rfl, by go_num⟩
      case measure => simp [intOf]; omega
set_option maxHeartbeats 1000000 in
theorem placeOf_not (A : Option Addr) (n c : Nat) (K : Ids) (s : ByteArray) (w : World) (h : KR w A n c K) (hn : n ≤ 1000) (ha : NotIn K s) :
    Calls Tryd.prog 9 #[.slice A n c, .string s] w fun e w' => e = .returned (.int .i64 (-1)) ∧ w = w' := by
  have HH := Lib.hid h; have HA := Lib.hid ha
  clear h ha
  go_enter Tryd.func9, Tryd.ntmps9
  go_wp2
  go_loop [4, 8] (fun rv jv => ∃ j : Nat, j ≤ n ∧ rv = .int .i64 0 ∧ jv = .int .i64 j) (fun _ jv => n - (intOf jv).toNat)
  case atStart => exact ⟨0, by omega, rfl, rfl⟩
  case round =>
    obtain ⟨j, hj, rfl, rfl⟩ := hrel
    by_cases hjn : j < n
    · obtain ⟨b, rfl, hc⟩ := HH.out.2 (by omega)
      have kj := (hc j hjn).1
      clear hc
      have he := str_ne (HA.out j (by have := HH.out.1; omega))
      go_wp2
      go_round
      case rel => exact ⟨j + 1, by omega, rfl, by go_num⟩
      case measure => simp [intOf]; omega
    · go_wp2
      go_ret
      exact ⟨rfl, rfl⟩

/-- The cells of the pairs. -/
def flat2 (K : Ids) : List Value := K.flatMap fun p => [.string p.1, .int .i64 p.2]
theorem flat2_length : ∀ K : Ids, (flat2 K).length = K.length * 2
  | [] => rfl
  | p :: K => by
    have := flat2_length K
    unfold flat2 at this ⊢
    simp only [List.flatMap_cons, List.length_append, List.length_cons, List.length_nil, this]
    omega
theorem flat2_snoc (K : Ids) (p : ByteArray × Nat) : flat2 (K ++ [p]) = flat2 K ++ [.string p.1, .int .i64 p.2] := by simp [flat2]
theorem kd_zero (p : ByteArray × Nat) (K : Ids) : kd (p :: K) 0 = p := rfl
theorem kd_succ (p : ByteArray × Nat) (K : Ids) (i : Nat) : kd (p :: K) (i + 1) = kd K i := by simp [kd]
theorem flat2_get : ∀ (K : Ids) (i : Nat), i < K.length → (flat2 K)[i * 2]? = some (.string (kd K i).1) ∧ (flat2 K)[i * 2 + 1]? = some (.int .i64 (kd K i).2)
  | p :: K, 0, _ => ⟨rfl, rfl⟩
  | p :: K, i + 1, h => by
    have := flat2_get K i (by simpa using h)
    have e : flat2 (p :: K) = .string p.1 :: .int .i64 p.2 :: flat2 K := rfl
    rw [e, kd_succ, show (i + 1) * 2 = i * 2 + 1 + 1 from by omega]
    simpa using this
theorem flat2_set : ∀ (K : Ids) (i m : Nat), i < K.length → (flat2 K).set (i * 2 + 1) (.int .i64 m) = flat2 (K.set i ((kd K i).1, m))
  | p :: K, 0, m, _ => rfl
  | p :: K, i + 1, m, h => by
    have := flat2_set K i m (by simpa using h)
    have e : flat2 (p :: K) = .string p.1 :: .int .i64 p.2 :: flat2 K := rfl
    rw [e, kd_succ, show (i + 1) * 2 + 1 = i * 2 + 1 + 1 + 1 from by omega]
    simp only [List.set_cons_succ, this]
    rfl
theorem KR.of_own {w : World} {base : Nat} {e : TypeId} {A : Option Addr} {n c : Nat} {K : Ids} (h : w.ownsRow base e 2 (.slice A n c) n (flat2 K)) : KR w A n c K := by
  have hl := h.1
  rw [flat2_length] at hl
  refine ⟨by omega, fun hn => ?_⟩
  rcases h.2 with ⟨_, h0⟩ | ⟨g, cap, cur, hv, _⟩
  · omega
  · injection hv with h1 h2 h3
    subst h1 h3
    refine ⟨g, rfl, fun i hi => ?_⟩
    have hk := flat2_get K i (by omega)
    have a := h.cellAt (i * 2) (by omega)
    have b := h.cellAt (i * 2 + 1) (by omega)
    rw [hk.1] at a
    rw [hk.2] at b
    exact ⟨a, b⟩

/-- 'append(out, u)': one element of some cells onto an owned row; the element's own block is w's newest one. -/
theorem wpList_appU {P : Program} {ops : Array Oper} {rest : List Oper} {o : Oper} {a : Act} {Q : Exit → Act → World → Prop} (s x : Operand) (t : TypeId)
    (base : Nat) (e : TypeId) (i : TypeInfo) (z : Value) (us : List Value) (size bytes : Nat) (w : World) (A : Option Addr) (n c : Nat) (xs : List Value) (hown : w.ownsRow base e size (.slice A n c) n xs)
    (hgd : o.guard = none) (ho : o.op = .call { callee := .builtin .append, args := #[s, x], argTypes := #[t, t] })
    (ht : P.underlying t = some (.slice e)) (hi : P.info? e = some i) (hz : i.zero = some z)
    (hsize : i.size = size) (hby : i.bytes = bytes) (hzs : z.cells.size = size) (hsz : 0 < size) (hus : us.length = size)
    (hs : a.eval s = .slice A n c) (hx : a.eval x = .slice (some ⟨w.heap.size, 0, none⟩) 1 1) (h1 : ∀ u ∈ us, u.oneCell' = true)
    (hn : n ≤ 1000000) (hb : bytes ≤ 1000) (hbase : base ≤ w.heap.size)
    (h : ∀ A' c' w', w'.ownsRow base e size (.slice A' (n + 1) c') (n + 1) (xs ++ us) → w.grownBy w' (A.map (·.block)) → wpList P ops Q rest (a.put o.dst (.slice A' (n + 1) c')) w') :
    wpList P ops Q (o :: rest) a (w.alloc (.cells us.toArray e)) := by
  have hc : ∀ j u', us[j]? = some u' → (w.alloc (.cells us.toArray e)).cell? ((⟨w.heap.size, 0, none⟩ : Addr).add j) = some u' := by
    intro j u' hj
    rw [add_lit, World.cell?_alloc_mark]
    simpa using hj
  have hm : (n + 1) * bytes ≤ 140737488355328 := Nat.le_trans (Nat.mul_le_mul_left _ hb) (by omega)
  refine wpList_plain hgd fun K hK => ?_
  obtain ⟨v', w', hr, h2, h3, h4⟩ := run_append_own (P := P) (w.alloc (.cells us.toArray e)) base t o.type e i z size bytes ht hi hz hsize hby hzs hsz _ n xs (hown.alloc _)
    ⟨w.heap.size, 0, none⟩ 1 1 us (by omega) hc h1 (by unfold maxLen; omega) hm (by simp; omega)
  unfold Oper.wp execOp
  simp only [ho, resolve, invoke, builtin, Sem.run_bind, Sem.run_pure, Result.andThen_ok, List.map_toArray, List.map_cons, List.map_nil, hs, hx, hr]
  have hob : (Value.slice A n c).ownBlock = A.map (·.block) := by cases A <;> rfl
  rw [hob] at h3
  have hgrow : w.grownBy w' (A.map (·.block)) := ⟨h3.os, h3.tape, h3.output, by have := h3.size; simp at this; omega, fun k hk hne => by
    rw [h3.block k (by simp; omega) hne]; exact Below.heap_alloc _ _ _ hk⟩
  obtain ⟨A', c', rfl⟩ := own_form h2
  exact hK _ _ (h A' c' w' h2 hgrow)
/-- Rows of elements of two types do not lie in one block. -/
theorem apart {w : World} {B1 B2 : Nat} {e1 e2 : TypeId} {s1 s2 : Nat} {v1 v2 : Value} {n1 n2 : Nat} {xs1 xs2 : List Value} (h1 : w.ownsRow B1 e1 s1 v1 n1 xs1) (h2 : w.ownsRow B2 e2 s2 v2 n2 xs2) (he : e1 ≠ e2) :
    v1.ownBlock = none ∨ v1.ownBlock ≠ v2.ownBlock := by
  rcases hv : v1.ownBlock with _ | g
  · exact .inl rfl
  · right
    intro e
    obtain ⟨c1, f1, k1⟩ := Lib.ownsRow_kind h1 g hv
    obtain ⟨c2, f2, k2⟩ := Lib.ownsRow_kind h2 g e.symm
    rw [k1] at k2
    injection k2 with k2
    injection k2 with _ k2
    exact he k2
theorem ownB (A : Option Addr) (n c : Nat) : (Value.slice A n c).ownBlock = A.map (·.block) := by cases A <;> rfl
end Go.Proofs.YtfhpjcgflejgnaaDoor
