/- Tables: addBlock. -/
import Derived.Test.YtaljhebalgipjaaGreatDoorH2
namespace Go.Proofs.YtaljhebalgipjaaGreatDoor
open Go.RowKit
set_option linter.unusedVariables false

def newL (L : Lk) (n : Nat) : Lk := fun k i => if i = n then none else L k i
theorem append_up (L : Lk) (a b : Nat) : appendL L a b 1 b = some a := by
  unfold appendL upd
  cases h : unlinkL L b 3 a <;> simp
section
variable {w w1 : World} {B pb : Nat} {nb : Nat → Nat} {n : Nat} {L : Lk} {ty : Nat → Int} {k b : Nat} {cs : Array Value} {t : Int}
theorem Nodes.new (h : Nodes w B nb n L ty) (hb : b = w.heap.size) (hB : B ≤ b) (hw1 : w1 = w.alloc (.cells cs 101)) (hs : cs.size = 29) (h0 : cs[0]? = some (.int .i64 t)) (hcs : ∀ k, 1 ≤ k → k ≤ 5 → cs[k]? = some (.pointer none)) :
    Nodes w1 B (fun i => if i = n then b else nb i) (n + 1) (newL L n) (fun i => if i = n then t else ty i) := by
  have hlt : ∀ i, i < n → nb i < b := fun i hi => by
    obtain ⟨cs', h1, _⟩ := h.blk i hi
    rw [hb]; exact (Array.getElem?_eq_some_iff.1 h1).1
  refine ⟨fun i hi => ?_, fun i j hi hj e => ?_, fun k i j h1 h5 hi e => ?_, fun i hi => ?_⟩
  · by_cases e : i = n
    · subst e
      refine ⟨cs, ?_, hs, by simpa using h0, fun k h1 h5 => ?_⟩
      · simp only [if_true]
        rw [hw1, hb]; exact heap_alloc_new w _
      · rw [hcs k h1 h5]; simp [newL]
    · obtain ⟨cs', h1, h2, h3, h4⟩ := h.blk i (by omega)
      simp only [e, if_false]
      refine ⟨cs', ?_, h2, h3, fun k hk1 hk5 => ?_⟩
      · rw [hw1, Below.heap_alloc _ _ _ (Array.getElem?_eq_some_iff.1 h1).1]; exact h1
      · rw [h4 k hk1 hk5]
        cases hL : L k i with
        | none => simp [newL, e, hL]
        | some j =>
          have hj := h.rng k i j hk1 hk5 (by omega) hL
          have : j ≠ n := by omega
          simp [newL, e, hL, this]
  · by_cases e1 : i = n <;> by_cases e2 : j = n <;> simp only [e1, e2, if_true, if_false] at e
    · omega
    · have := hlt j (by omega); omega
    · have := hlt i (by omega); omega
    · exact h.inj i j (by omega) (by omega) e
  · unfold newL at e
    split at e
    · cases e
    · have := h.rng k i j h1 h5 (by omega) e; omega
  · by_cases e : i = n
    · simp only [e, if_true]; exact hB
    · simp only [e, if_false]; exact h.low i (by omega)
theorem SP.new (h : SP w B pb nb n L ty k) (hb : b = w.heap.size) (hB : B ≤ b) (hw1 : w1 = w.alloc (.cells cs 101)) (hs : cs.size = 29) (h0 : cs[0]? = some (.int .i64 t)) (hcs : ∀ k, 1 ≤ k → k ≤ 5 → cs[k]? = some (.pointer none)) :
    SP w1 B pb (fun i => if i = n then b else nb i) (n + 1) (newL L n) (fun i => if i = n then t else ty i) k := by
  obtain ⟨cp, h1, h2, h3⟩ := h.par
  have hk := h.tip
  refine ⟨h.nodes.new hb hB hw1 hs h0 hcs, ⟨cp, ?_, ?_, h3⟩, by omega, h.low⟩
  · rw [hw1, Below.heap_alloc _ _ _ (Array.getElem?_eq_some_iff.1 h1).1]; exact h1
  · simp only [show k ≠ n by omega, if_false]; exact h2
end
theorem close_any (w : World) (B pb : Nat) (nb : Nat → Nat) (n : Nat) (L : Lk) (ty : Nat → Int) (k : Nat) (h : SP w B pb nb n L ty k) :
    Calls Tryz.prog 50 #[.pointer (some ⟨pb, 0, none⟩)] w fun e w' => e = .returned (.tuple #[]) ∧ w' = w := by
  obtain ⟨c0, c1, f0⟩ := h.cells
  clear h
  go_enter Tryz.func50, Tryz.ntmps50
  go_wp2
  go_end0
  exact ⟨rfl, rfl⟩
/-- Who becomes the new block's parent. -/
def Goes (nb : Nat → Nat) (L : Lk) (ty : Nat → Int) (k q : Nat) (t : Int) : Prop := (q = k ∧ under (ty k) t) ∨ (L 1 k = some q ∧ ty k = 20 ∧ t = 20 ∧ ty q = 23)
/-- What a new block leaves. -/
def NewB (w w' : World) (B pb n : Nat) (ty : Nat → Int) (q : Nat) (t : Int) (e : Ending) : Prop :=
  ∃ (b : Nat) (nb' : Nat → Nat) (L' : Lk) (ty' : Nat → Int), e = .returned (.pointer (some ⟨b, 0, none⟩)) ∧ b = nb' n ∧ SP w' B pb nb' (n + 1) L' ty' n ∧ ty' n = t ∧ (∀ i, i < n → ty' i = ty i) ∧ L' 1 n = some q ∧ q < n ∧ But kindM B w w'
set_option maxHeartbeats 2000000 in
theorem addChild_any (w : World) (B pb : Nat) (nb : Nat → Nat) (n : Nat) (L : Lk) (ty : Nat → Int) (k q : Nat) (t x : Int) (h : SP w B pb nb n L ty k) (hB : B ≤ w.heap.size) (hg : Goes nb L ty k q t) :
    Calls Tryz.prog 51 #[.pointer (some ⟨pb, 0, none⟩), .int .i64 t, .int .u32 x] w fun e w' => NewB w w' B pb n ty q t e := by
  have hk := h.tip
  have HS := Lib.hid h
  have HG := Lib.hid hg
  clear h hg
  go_enter Tryz.func51, Tryz.ntmps51
  go_wp2_with fail
  refine (newNode_any t w).mono ?_
  rintro e w1 ⟨rfl, cs, hw1, hs, h0, hcs⟩
  have hS1 := HS.out.new rfl hB hw1 hs h0 hcs
  have HB1 : Hid (But kindM B w w1) := Lib.hid (by rw [hw1]; exact But.alloc _ _ _ _)
  obtain ⟨nb', hnb⟩ : ∃ nb' : Nat → Nat, nb' = fun i => if i = n then w.heap.size else nb i := ⟨_, rfl⟩
  obtain ⟨ty', hty⟩ : ∃ ty' : Nat → Int, ty' = fun i => if i = n then t else ty i := ⟨_, rfl⟩
  rw [← hnb, ← hty] at hS1
  have hbn : w.heap.size = nb' n := by rw [hnb]; simp
  have htn : ty' n = t := by rw [hty]; simp
  have hti : ∀ i, i < n → ty' i = ty i := fun i hi => by rw [hty]; simp [show i ≠ n by omega]
  rw [hbn]
  have HS1 := Lib.hid hS1
  have HT := Lib.hid hti
  clear hS1 hw1 hs h0 hcs hnb hty hti hbn
  go_wp2_with fail
  rcases HG.out with ⟨rfl, hu⟩ | ⟨hL, h20, rfl, h23⟩
  · refine (addExist_1 w1 B pb nb' (n + 1) (newL L n) ty' q n x HS1.out (by omega) (by rw [HT.out q hk, htn]; exact hu)).mono ?_
    rintro e w2 ⟨rfl, hs2, hb2⟩
    have HS2 := Lib.hid (And.intro hs2 (HB1.out.trans hb2))
    clear hs2 hb2 hu
    go_wp2
    go_ret
    exact ⟨_, nb', _, ty', rfl, rfl, HS2.out.1, htn, HT.out, append_up _ _ _, hk, HS2.out.2⟩
  · have hq := HS.out.nodes.rng 1 k q (by omega) (by omega) hk hL
    refine (addExist_2 w1 B pb nb' (n + 1) (newL L n) ty' k n q x HS1.out (by omega) (by unfold newL; rw [if_neg (by omega)]; exact hL) (by rw [HT.out k hk]; exact h20) htn (by rw [HT.out q hq]; exact h23)).mono ?_
    rintro e w2 ⟨rfl, hs2, hb2⟩
    have HS2 := Lib.hid (And.intro hs2 (HB1.out.trans hb2))
    clear hs2 hb2 hL h20 h23
    go_wp2
    go_ret
    exact ⟨_, nb', _, ty', rfl, rfl, HS2.out.1, htn, HT.out, append_up _ _ _, hq, HS2.out.2⟩
set_option maxHeartbeats 2000000 in
theorem addBlock_any (w : World) (B pb : Nat) (nb : Nat → Nat) (n : Nat) (L : Lk) (ty : Nat → Int) (k q : Nat) (t : Int) (A : Option Addr) (len cap : Nat) (h : SP w B pb nb n L ty k) (hB : B ≤ w.heap.size) (hg : Goes nb L ty k q t) :
    Calls Tryz.prog 32 #[.pointer (some ⟨pb, 0, none⟩), .int .i64 t, .slice A len cap] w fun e w' => NewB w w' B pb n ty q t e := by
  have HS := Lib.hid h
  have HG := Lib.hid hg
  clear h hg
  go_enter Tryz.func32, Tryz.ntmps32
  go_wp2_with fail
  refine (close_any w B pb nb n L ty k HS.out).mono ?_
  rintro e w1 ⟨rfl, rfl⟩
  go_wp2_with fail
  refine (addChild_any w1 B pb nb n L ty k q t 0 HS.out hB HG.out).mono ?_
  rintro e w2 ⟨b, nb', L', ty', rfl, hbn, hs2, h1, h2, h3, h4, h5⟩
  obtain ⟨⟨v, c27⟩, f27⟩ := hs2.nodes.there (Nat.lt_succ_self n) (k := 27) (by omega)
  have hf := hs2.nodes.far (Nat.lt_succ_self n) (k := 27) (by omega) (.slice A len cap)
  have hs3 := hs2.nodesBut hf.1 hf.2
  rw [← hbn] at c27 f27 hs3 hf
  have H := Lib.hid (show NewB w1 (w2.setCell ⟨b, 27, none⟩ (.slice A len cap)) B pb n ty q t (.returned (.pointer (some ⟨b, 0, none⟩))) from ⟨b, nb', L', ty', rfl, hbn, hs3, h1, h2, h3, h4, h5.trans (hf.2.mono (fun e he => .inl he) (Nat.le_refl _))⟩)
  clear hs2 hf hs3 h1 h2 h3 h4 h5 hbn
  go_wp2
  go_ret
  exact H.out
end Go.Proofs.YtaljhebalgipjaaGreatDoor
