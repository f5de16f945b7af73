/- Nodes in memory: a step of the package. -/
import Derived.Test.YtkcccajiplchpaaR3
import Derived.StillTailTactics
namespace Go.Proofs.Ytkcccajiplchpaa
open Go.RowKit
set_option linter.unusedVariables false

structure TS (w : World) (B : Nat) (nb : Nat → Nat) (n : Nat) (L : Lk) (A : Option Addr) (c : Nat) : Prop where
  nodes : Nodes w B nb n L
  row : PRow w B nb A n c
def kindN (e : TypeId) : Prop := e = 66 ∨ e = 49
def newL (L : Lk) (n : Nat) : Lk := fun k i => if i = n then none else L k i

theorem TS.but {T : TypeId → Prop} {w w' : World} {B C : Nat} {nb : Nat → Nat} {n : Nat} {L : Lk} {A : Option Addr} {c : Nat} (h : TS w B nb n L A c) (hb : But T C w w') (hT : ∀ e, T e → e = 66) {L' : Lk} (hN : Nodes w' B nb n L') : TS w' B nb n L' A c := by
  refine ⟨hN, h.row.1, ?_⟩
  rcases h.row.2 with h0 | ⟨g, cap, cur, hv, hb', hg, rest⟩
  · exact .inl h0
  · exact .inr ⟨g, cap, cur, hv, hb', hb.cell hg (fun e => by have := hT _ e; revert this; decide), rest⟩
theorem TS.but0 {T : TypeId → Prop} {w w' : World} {B C : Nat} {nb : Nat → Nat} {n : Nat} {L : Lk} {A : Option Addr} {c : Nat} (h : TS w B nb n L A c) (hb : But T C w w') (hT : ∀ e, T e → ¬ kindN e) : TS w' B nb n L A c := by
  refine ⟨h.nodes.but hb (fun e => hT _ e (.inl rfl)), h.row.1, ?_⟩
  rcases h.row.2 with h0 | ⟨g, cap, cur, hv, hb', hg, rest⟩
  · exact .inl h0
  · exact .inr ⟨g, cap, cur, hv, hb', hb.cell hg (fun e => hT _ e (.inr rfl)), rest⟩
theorem row_but {w w1 : World} {base : Nat} {e : TypeId} {size n c : Nat} {A : Option Addr} {xs : List Value} {T : TypeId → Prop} {B : Nat} (h : w.ownsRow base e size (.slice A n c) n xs) (hg : w.grownBy w1 (A.map (·.block))) (hT : T e) (hB : B ≤ base) : But T B w w1 := by
  refine But.grown hg (fun k hk => ?_)
  rcases h.2 with ⟨hv, h0⟩ | ⟨g, cap, cur, hv, hb, hg', _⟩
  · injection hv with h1; subst h1; simp at hk
  · injection hv with h1; subst h1
    simp at hk; subst hk
    exact ⟨by omega, fun _ => ⟨cur, e, (0, 0), hg', hT⟩⟩
/-- The state behind a new node. -/
theorem TS.new {w w1 w2 : World} {B : Nat} {nb : Nat → Nat} {n : Nat} {L : Lk} {A A2 : Option Addr} {c c2 b : Nat} {cs : Array Value} (h : TS w B nb n L A c) (hb : b = w.heap.size) (hB : B ≤ b) (hw1 : w1 = w.alloc (.cells cs 66)) (hcs : ∀ k, 1 ≤ k → k ≤ 5 → cs[k]? = some (.pointer none))
    {T : TypeId → Prop} {C : Nat} (hbut : But T C w1 w2) (hT : ¬ T 66)
    (hown : w2.ownsRow B 49 1 (.slice A2 (n + 1) c2) (n + 1) ((List.range n).map (fun i => ptr nb (some i)) ++ [.pointer (some ⟨b, 0, none⟩)])) :
    TS w2 B (fun i => if i = n then b else nb i) (n + 1) (newL L n) A2 c2 := by
  have hlt : ∀ i, i < n → nb i < b := fun i hi => by
    obtain ⟨cs', h1, _⟩ := h.nodes.blk i hi
    rw [hb]; exact (Array.getElem?_eq_some_iff.1 h1).1
  refine ⟨⟨fun i hi => ?_, fun i j hi hj e => ?_, fun k i j h1 h5 hi e => ?_, fun i hi => ?_⟩, ?_⟩
  · by_cases e : i = n
    · subst e
      refine ⟨cs, ?_, fun k h1 h5 => ?_⟩
      · simp only [if_true]
        refine hbut.cell ?_ hT
        rw [hw1, hb]; exact heap_alloc_new w _
      · rw [hcs k h1 h5]; simp [newL]
    · obtain ⟨cs', h1, h2⟩ := h.nodes.blk i (by omega)
      simp only [e, if_false]
      refine ⟨cs', ?_, fun k hk1 hk5 => ?_⟩
      · refine hbut.cell ?_ hT
        rw [hw1, Below.heap_alloc _ _ _ (Array.getElem?_eq_some_iff.1 h1).1]; exact h1
      · rw [h2 k hk1 hk5]
        cases hL : L k i with
        | none => simp [newL, e, hL]
        | some j =>
          have hj := h.nodes.rng k i j hk1 hk5 (by omega) hL
          have : j ≠ n := by omega
          simp [newL, e, hL, this]
  · by_cases e1 : i = n <;> by_cases e2 : j = n <;> simp only [e1, e2, if_true, if_false] at e
    · omega
    · have := hlt j (by omega); omega
    · have := hlt i (by omega); omega
    · exact h.nodes.inj i j (by omega) (by omega) e
  · unfold newL at e
    split at e
    · cases e
    · have := h.nodes.rng k i j h1 h5 (by omega) e; omega
  · by_cases e : i = n
    · simp only [e, if_true]; exact hB
    · simp only [e, if_false]; exact h.nodes.low i (by omega)
  · unfold PRow
    have e : (List.range (n + 1)).map (fun i => ptr (fun i => if i = n then b else nb i) (some i)) = (List.range n).map (fun i => ptr nb (some i)) ++ [.pointer (some ⟨b, 0, none⟩)] := by
      rw [List.range_succ, List.map_append]
      congr 1
      · apply List.map_congr_left
        intro i hi
        have : i ≠ n := by have := List.mem_range.1 hi; omega
        simp [this]
      · simp
    rw [e]; exact hown
set_option maxHeartbeats 4000000 in
theorem step0_any (w : World) (B : Nat) (nb : Nat → Nat) (n : Nat) (L : Lk) (A : Option Addr) (c : Nat) (h : TS w B nb n L A c) (hn : n ≤ 100000) (hB : B ≤ w.heap.size) (a b : Int) :
    Calls Try.prog 12 #[.slice A n c, .agg #[.int .i64 0, .int .i64 a, .int .i64 b]] w fun e w' => ∃ A' c' nb', e = .returned (.slice A' (n + 1) c') ∧ TS w' B nb' (n + 1) (newL L n) A' c' ∧ But kindN B w w' := by
  obtain ⟨i0, hi, hz0, hz1, hz2⟩ := info_parts Try.infoP
  have HT := Lib.hid h
  clear h
  go_enter Try.func12, Try.ntmps12
  go_wp2_with fail
  refine (newNode_any _ _).mono ?_
  rintro e w1 ⟨rfl, cs, hw1, hcs⟩
  have H1 := Lib.hid hw1
  have H2 := Lib.hid hcs
  have hrow : w1.ownsRow B 49 1 (.slice A n c) n ((List.range n).map fun i => ptr nb (some i)) := by rw [hw1]; exact (HT.out.row.alloc _).alloc _
  have hs1 : B ≤ w1.heap.size := by rw [hw1]; simp; omega
  have HO := Lib.hid hrow
  clear hrow hw1 hcs
  go_wp2_with (at_builtin; refine wpList_app1 (.tmp 9) (.tmp 13) _ B 49 i0 (.pointer none) _ 8 w1 _ _ _ _ HO.out rfl rfl Try.underlying47 hi hz0 hz1 hz2 rfl rfl rfl rfl (by omega) (by omega) hs1 ?_; intro A2 c2 w2 hown2 hg2)
  have HO2 := Lib.hid hown2
  have HG2 := Lib.hid hg2
  clear hown2 hg2
  go_ret
  have hA0 : TS (w.alloc (.cells #[.int .i64 0, .int .i64 a, .int .i64 b] 31)) B nb n L A c := HT.out.but0 (But.alloc (fun _ => False) 0 w _) (fun _ h => h.elim)
  have hb2 := row_but (T := (· = 49)) HO.out HG2.out rfl (Nat.le_refl _)
  refine ⟨A2, c2, _, rfl, TS.new hA0 (by simp) (by omega) H1.out H2.out hb2 (by decide) HO2.out, ?_⟩
  have e1 : But kindN B w w1 := by rw [H1.out]; exact (But.alloc _ _ _ _).trans (But.alloc _ _ _ _)
  exact e1.trans (hb2.mono (fun e h => .inr h) (Nat.le_refl _))
theorem PRow.facts {w : World} {B : Nat} {nb : Nat → Nat} {A : Option Addr} {n c : Nat} (h : PRow w B nb A n c) (hn : 0 < n) : ∃ g, A = some ⟨g, 0, none⟩ ∧ Hid (∀ j, j < n → w.cell? ⟨g, j, none⟩ = some (.pointer (some ⟨nb j, 0, none⟩))) := by
  obtain ⟨g, e, _, _, _, hc⟩ := h.at hn
  exact ⟨g, e, hc⟩
theorem TS.step {w w1 w' : World} {B : Nat} {nb : Nat → Nat} {n : Nat} {L L' : Lk} {A : Option Addr} {c : Nat} (h : TS w B nb n L A c) (hw : But kindN B w w1) (hN : Nodes w' B nb n L') (hb : But (· = 66) B w1 w') (hT1 : TS w1 B nb n L A c) : TS w' B nb n L' A c ∧ But kindN B w w' :=
  ⟨hT1.but hb (fun _ h => h) hN, hw.trans (hb.mono (fun _ h => .inl h) (Nat.le_refl _))⟩
theorem Nodes.drewTS {w : World} {B : Nat} {nb : Nat → Nat} {n : Nat} {L : Lk} {A : Option Addr} {c : Nat} (h : TS w B nb n L A c) : TS w.drew B nb n L A c := ⟨h.nodes.drew, h.row⟩
set_option maxHeartbeats 4000000 in
theorem step1_any (w : World) (B : Nat) (nb : Nat → Nat) (n : Nat) (L : Lk) (A : Option Addr) (c : Nat) (h : TS w B nb n L A c) (hn : n ≤ 100000) (a : Nat) (b : Nat) (ha : a < n) (hb : b < n) :
    Calls Try.prog 12 #[.slice A n c, .agg #[.int .i64 1, .int .i64 a, .int .i64 b]] w fun e w' => e = .returned (.slice A n c) ∧ TS w' B nb n (appendL L a b) A c ∧ But kindN B w w' := by
  have hA0 : TS (w.alloc (.cells #[.int .i64 1, .int .i64 a, .int .i64 b] 31)) B nb n L A c := h.but0 (But.alloc (fun _ => False) 0 w _) (fun _ h => h.elim)
  obtain ⟨g, rfl, HC⟩ := hA0.row.facts (by omega)
  have HT := Lib.hid h
  have HA := Lib.hid hA0
  clear h hA0
  have ca := HC.out a ha
  have ha' : (a : Int) < n := by omega
  have cb := HC.out b hb
  have hb' : (b : Int) < n := by omega
  go_enter Try.func12, Try.ntmps12
  go_wp2_with fail
  have k1 : (w.alloc (.cells #[.int .i64 1, .int .i64 a, .int .i64 b] 31)).cell? ⟨w.heap.size, 1, none⟩ = some (.int .i64 a) := by simp [go_sem]
  have k2 : (w.alloc (.cells #[.int .i64 1, .int .i64 a, .int .i64 b] 31)).cell? ⟨w.heap.size, 2, none⟩ = some (.int .i64 b) := by simp [go_sem]
  have HB0 := Lib.hid (But.alloc kindN B w (.cells #[.int .i64 1, .int .i64 a, .int .i64 b] 31))
  generalize w.alloc (.cells #[.int .i64 1, .int .i64 a, .int .i64 b] 31) = W at *
  have ca' : ∀ t d o u, World.cell? { heap := W.heap, tape := t, drawn := d, os := o, output := u } ⟨g, a, none⟩ = some (.pointer (some ⟨nb a, 0, none⟩)) := fun _ _ _ _ => ca
  have cb' : ∀ t d o u, World.cell? { heap := W.heap, tape := t, drawn := d, os := o, output := u } ⟨g, b, none⟩ = some (.pointer (some ⟨nb b, 0, none⟩)) := fun _ _ _ _ => cb
  have k1' : ∀ t d o u, World.cell? { heap := W.heap, tape := t, drawn := d, os := o, output := u } ⟨w.heap.size, 1, none⟩ = some (.int .i64 a) := fun _ _ _ _ => k1
  have k2' : ∀ t d o u, World.cell? { heap := W.heap, tape := t, drawn := d, os := o, output := u } ⟨w.heap.size, 2, none⟩ = some (.int .i64 b) := fun _ _ _ _ => k2
  go_still_tail 10, (by kernel_rfl)
  change wpList _ _ _ _ _ W.drew
  have HD := Lib.hid (Nodes.drewTS HA.out)
  have HBD := Lib.hid (HB0.out.drew)
  generalize W.drew = W1 at *
  go_wp2_with fail
  refine (append_any _ B nb n L a b HD.out.nodes ha hb).mono ?_
  rintro e w' ⟨rfl, hN, hB⟩
  have HR := Lib.hid (TS.step HT.out HBD.out hN hB HD.out)
  clear hN hB
  go_wp2
  go_ret
  exact ⟨rfl, HR.out.1, HR.out.2⟩
set_option maxHeartbeats 4000000 in
theorem step2_any (w : World) (B : Nat) (nb : Nat → Nat) (n : Nat) (L : Lk) (A : Option Addr) (c : Nat) (h : TS w B nb n L A c) (hn : n ≤ 100000) (a : Nat) (b : Nat) (ha : a < n) (hb : b < n) (hab : a ≠ b) (p : Nat) (hp : unlinkL L b 1 a = some p) :
    Calls Try.prog 12 #[.slice A n c, .agg #[.int .i64 2, .int .i64 a, .int .i64 b]] w fun e w' => e = .returned (.slice A n c) ∧ TS w' B nb n (insertL L a b) A c ∧ But kindN B w w' := by
  have hA0 : TS (w.alloc (.cells #[.int .i64 2, .int .i64 a, .int .i64 b] 31)) B nb n L A c := h.but0 (But.alloc (fun _ => False) 0 w _) (fun _ h => h.elim)
  obtain ⟨g, rfl, HC⟩ := hA0.row.facts (by omega)
  have HT := Lib.hid h
  have HA := Lib.hid hA0
  clear h hA0
  have ca := HC.out a ha
  have ha' : (a : Int) < n := by omega
  have cb := HC.out b hb
  have hb' : (b : Int) < n := by omega
  go_enter Try.func12, Try.ntmps12
  go_wp2_with fail
  have k1 : (w.alloc (.cells #[.int .i64 2, .int .i64 a, .int .i64 b] 31)).cell? ⟨w.heap.size, 1, none⟩ = some (.int .i64 a) := by simp [go_sem]
  have k2 : (w.alloc (.cells #[.int .i64 2, .int .i64 a, .int .i64 b] 31)).cell? ⟨w.heap.size, 2, none⟩ = some (.int .i64 b) := by simp [go_sem]
  have HB0 := Lib.hid (But.alloc kindN B w (.cells #[.int .i64 2, .int .i64 a, .int .i64 b] 31))
  generalize w.alloc (.cells #[.int .i64 2, .int .i64 a, .int .i64 b] 31) = W at *
  have ca' : ∀ t d o u, World.cell? { heap := W.heap, tape := t, drawn := d, os := o, output := u } ⟨g, a, none⟩ = some (.pointer (some ⟨nb a, 0, none⟩)) := fun _ _ _ _ => ca
  have cb' : ∀ t d o u, World.cell? { heap := W.heap, tape := t, drawn := d, os := o, output := u } ⟨g, b, none⟩ = some (.pointer (some ⟨nb b, 0, none⟩)) := fun _ _ _ _ => cb
  have k1' : ∀ t d o u, World.cell? { heap := W.heap, tape := t, drawn := d, os := o, output := u } ⟨w.heap.size, 1, none⟩ = some (.int .i64 a) := fun _ _ _ _ => k1
  have k2' : ∀ t d o u, World.cell? { heap := W.heap, tape := t, drawn := d, os := o, output := u } ⟨w.heap.size, 2, none⟩ = some (.int .i64 b) := fun _ _ _ _ => k2
  go_still_tail 10, (by kernel_rfl)
  change wpList _ _ _ _ _ W.drew
  have HD := Lib.hid (Nodes.drewTS HA.out)
  have HBD := Lib.hid (HB0.out.drew)
  generalize W.drew = W1 at *
  go_wp2_with fail
  refine (insert_any _ B nb n L a b p HD.out.nodes ha hb hab hp).mono ?_
  rintro e w' ⟨rfl, hN, hB⟩
  have HR := Lib.hid (TS.step HT.out HBD.out hN hB HD.out)
  clear hN hB
  go_wp2
  go_ret
  exact ⟨rfl, HR.out.1, HR.out.2⟩
set_option maxHeartbeats 4000000 in
theorem step3_any (w : World) (B : Nat) (nb : Nat → Nat) (n : Nat) (L : Lk) (A : Option Addr) (c : Nat) (h : TS w B nb n L A c) (hn : n ≤ 100000) (a : Nat) (b : Int) (ha : a < n) :
    Calls Try.prog 12 #[.slice A n c, .agg #[.int .i64 3, .int .i64 a, .int .i64 b]] w fun e w' => e = .returned (.slice A n c) ∧ TS w' B nb n (unlinkL L a) A c ∧ But kindN B w w' := by
  have hA0 : TS (w.alloc (.cells #[.int .i64 3, .int .i64 a, .int .i64 b] 31)) B nb n L A c := h.but0 (But.alloc (fun _ => False) 0 w _) (fun _ h => h.elim)
  obtain ⟨g, rfl, HC⟩ := hA0.row.facts (by omega)
  have HT := Lib.hid h
  have HA := Lib.hid hA0
  clear h hA0
  have ca := HC.out a ha
  have ha' : (a : Int) < n := by omega
  go_enter Try.func12, Try.ntmps12
  go_wp2_with fail
  have k1 : (w.alloc (.cells #[.int .i64 3, .int .i64 a, .int .i64 b] 31)).cell? ⟨w.heap.size, 1, none⟩ = some (.int .i64 a) := by simp [go_sem]
  have k2 : (w.alloc (.cells #[.int .i64 3, .int .i64 a, .int .i64 b] 31)).cell? ⟨w.heap.size, 2, none⟩ = some (.int .i64 b) := by simp [go_sem]
  have HB0 := Lib.hid (But.alloc kindN B w (.cells #[.int .i64 3, .int .i64 a, .int .i64 b] 31))
  generalize w.alloc (.cells #[.int .i64 3, .int .i64 a, .int .i64 b] 31) = W at *
  have HD := Lib.hid HA.out
  have HBD := Lib.hid HB0.out
  refine (unlink_any _ B nb n L a HD.out.nodes ha).mono ?_
  rintro e w' ⟨rfl, hN, hB⟩
  have HR := Lib.hid (TS.step HT.out HBD.out hN hB HD.out)
  clear hN hB
  go_wp2
  go_ret
  exact ⟨rfl, HR.out.1, HR.out.2⟩
end Go.Proofs.Ytkcccajiplchpaa
