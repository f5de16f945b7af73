/- A region whose first operation is a copy that nobody waits for till late: the copy first, then the operations that only read, then the rest in the order of the text. -/
import Derived.StillTailTactics
namespace Go.Proofs.Ytkcccajiplchpaa
open Go
set_option linter.unusedVariables false

/-- The same operations, but for what they wait for: once number 0 has come up, as many may come up. -/
structure Like (md : Region.Mode) (ops ops' : Array Oper) : Prop where
  size : ops'.size = ops.size
  at_ : ∀ (i : Nat) (o : Oper), ops[i]? = some o → ∃ o' : Oper, ops'[i]? = some o' ∧ o'.dst = o.dst ∧ o'.op = o.op ∧ o'.type = o.type ∧ o'.guard = o.guard ∧
    ∀ listed : Array Bool, listed.getD 0 false = true → (o'.after.all fun e => !Region.binds md e || listed.getD e.on false) = (o.after.all fun e => !Region.binds md e || listed.getD e.on false)
section
variable {P : Program} {md : Region.Mode} {ops ops' : Array Oper} {Q : Exit → Act → World → Prop}

theorem Like.none (h : Like md ops ops') {i : Nat} (hi : ops[i]? = none) : ops'[i]? = none := by
  rw [Array.getElem?_eq_none_iff] at hi ⊢
  rw [h.size]; exact hi
theorem Like.ready (h : Like md ops ops') {listed : Array Bool} (h0 : listed.getD 0 false = true) : Region.ready md ops' listed = Region.ready md ops listed := by
  unfold Region.ready
  rw [h.size]
  apply List.filter_congr
  intro i hi
  congr 1
  cases ho : ops[i]? with
  | none => rw [h.none ho]
  | some o =>
    obtain ⟨o', h1, _, _, _, _, h2⟩ := h.at_ i o ho
    rw [h1]
    simp only [Option.map_some, Option.getD_some]
    exact h2 listed h0
theorem Like.yielded (h : Like md ops ops') (tmps : Array Value) (j : Nat) : yielded ops' tmps j = yielded ops tmps j := by
  unfold Go.yielded
  cases ho : ops[j]? with
  | none => rw [h.none ho]
  | some o =>
    obtain ⟨o', h1, h2, _⟩ := h.at_ j o ho
    rw [h1]
    simp only [Option.bind_some, h2]
theorem Like.op (h : Like md ops ops') {i : Nat} {K : Act → World → Prop} {a : Act} {w : World} (hw : wpOp P ops' Q i K a w) : wpOp P ops Q i K a w := by
  unfold wpOp at *
  cases ho : ops[i]? with
  | none => rw [h.none ho] at hw; exact hw
  | some o =>
    obtain ⟨o', h1, h2, h3, h4, h5, _⟩ := h.at_ i o ho
    rw [h1] at hw
    have hy : Go.yielded ops' a.tmps = Go.yielded ops a.tmps := funext (h.yielded a.tmps)
    obtain ⟨d, op, ty, ps, af, gd⟩ := o
    obtain ⟨d', op', ty', ps', af', gd'⟩ := o'
    simp only at h2 h3 h4 h5
    subst h2 h3 h4 h5
    rw [hy] at hw
    exact hw
theorem Like.any (h : Like md ops ops') : ∀ (f : Nat) (listed : Array Bool) (a : Act) (w : World), listed.getD 0 false = true → wpAny P md ops' Q f listed a w → wpAny P md ops Q f listed a w
  | 0, listed, a, w, h0, hw => by
    unfold wpAny at *
    rw [h.ready h0] at hw; exact hw
  | f + 1, listed, a, w, h0, hw => by
    unfold wpAny at *
    rw [h.ready h0] at hw
    refine ⟨hw.1, fun i hi => wpOp_mono (fun a' w' h' => Like.any h f _ a' w' ?_ h') (h.op (hw.2 i hi))⟩
    by_cases e : i = 0
    · subst e
      have hs : 0 < listed.size := by
        rcases Nat.eq_zero_or_pos listed.size with hz | hz
        · have : listed = #[] := Array.eq_empty_of_size_eq_zero hz
          subst this; simp at h0
        · exact hz
      simp [hs]
    · rw [getD_set_ne false e]; exact h0

/-- Number n waits for number 0 too. -/
def waitL (n : Nat) (l : List Oper) : List Oper := l.modify n fun o => { o with after := o.after.push { on := 0, ground := .data } }
theorem like_wait (n : Nat) (l : List Oper) : Like md l.toArray (waitL n l).toArray := by
  refine ⟨by simp [waitL], fun i o ho => ?_⟩
  have ho' : l[i]? = some o := by simpa using ho
  by_cases e : n = i
  · refine ⟨{ o with after := o.after.push { on := 0, ground := .data } }, by simp [waitL, ho', e], rfl, rfl, rfl, rfl, fun listed h0 => ?_⟩
    simp only [Array.all_push, h0, Bool.or_true, Bool.and_true]
  · exact ⟨o, by simp [waitL, ho', e], rfl, rfl, rfl, rfl, fun _ _ => rfl⟩

/-- The copy first; then n - 1 operations that only read; then the rest, one behind the other. -/
theorem wp_region_tail0 {id : Nat} {a : Act} {w : World} {l : List Oper} (n : Nat) (o0 : Oper) (v : Value) (hm : P.follows .mixedOrders = true) (h0 : l[0]? = some o0) (ha0 : o0.after = #[]) (hn0 : 0 < n)
    (hB0 : (Region.noSelect l.toArray && Region.free .any l.toArray (Array.replicate l.toArray.size false) 0 && (Region.ready .any l.toArray (Array.replicate l.toArray.size false)).contains 0) = true)
    (hB : (Region.noSelect (waitL n l).toArray && decide (n < (waitL n l).toArray.size) && Region.sinkB .any (waitL n l).toArray n && Region.chainB .any (waitL n l).toArray n &&
      Region.lexHead .any (waitL n l).toArray ((waitL n l).toArray.size - n) (n - 1) 1 ((Array.replicate (waitL n l).toArray.size false).setIfInBounds 0 true)) = true)
    (hQ : ∀ c a w, Q (.panic c) (a.put o0.dst v) w → Q (.panic c) a w) (hy : Yields P l.toArray o0 v a)
    (h : wpStill P (waitL n l).toArray { w with drawn := w.drawn + 1 } (fun a' => wpList P (waitL n l).toArray Q ((waitL n l).drop n) a' { w with drawn := w.drawn + 1 }) (((waitL n l).take n).drop 1) (a.put o0.dst v)) :
    (Code.region id l.toArray true).wp P Q a w := by
  simp only [Bool.and_eq_true, decide_eq_true_eq] at hB0 hB
  obtain ⟨⟨hs0, hf0⟩, hr0⟩ := hB0
  obtain ⟨⟨⟨⟨hsel, hn⟩, hs⟩, hc⟩, hlex⟩ := hB
  have hL : Like .any l.toArray (waitL n l).toArray := like_wait n l
  generalize hl' : waitL n l = l' at *
  have hlen : l'.length = l.length := by have := hL.size; simpa using this
  have hn' : n < l'.length := by simpa using hn
  refine wp_region_any hm ?_
  have hsz : l.toArray.size = (l.toArray.size - 1) + 1 := by simp; omega
  rw [hsz]
  refine wpAny_take (i := 0) (by simpa using h0) hs0 (by rw [← hsz]; exact hf0) (by rw [← hsz]; exact hr0) hQ hy ?_
  rw [← hsz]
  have h1d : ((Array.replicate l.toArray.size false).setIfInBounds 0 true).getD 0 false = true := by
    have : 0 < l.toArray.size := by omega
    simp at this
    simp [this]
  refine hL.any _ _ _ _ h1d ?_
  have htl : ((l'.take n).drop 1).length = n - 1 := by simp; omega
  have hdl : (l'.drop n).length = l'.toArray.size - n := by simp
  have h00 : l'.toArray[0]? = some o0 ∨ ∃ o', l'.toArray[0]? = some o' ∧ o'.after = #[] := by
    right
    rw [← hl']
    refine ⟨o0, ?_, ha0⟩
    have : n ≠ 0 := by omega
    simp [waitL, h0, this]
  have inv0 : HeadInv .any l'.toArray n ((Array.replicate l'.toArray.size false).setIfInBounds 0 true) := by
    refine ⟨by simp, fun j oj hj hl => ?_, fun t ht hts => ?_⟩
    · by_cases e : j = 0
      · subst e
        rcases h00 with h | ⟨o', h, hae⟩
        · rw [h] at hj; cases hj
          rw [ha0]; simp
        · rw [h] at hj; cases hj
          rw [hae]; simp
      · rw [getD_set_ne false (by omega)] at hl
        rw [getD_replicate_false] at hl; cases hl
    · rw [getD_set_ne true (by omega)]
      exact getD_in (by simpa using hts) (getD_replicate_false _ _)
  have H := wpAnyL_lex (md := .any) (g := l'.toArray.size - n) hsel hs hc hn ((l'.take n).drop 1) 1 _ _ (fun j hj => by
    have hj' : j < n - 1 := by rw [htl] at hj; exact hj
    rw [List.getElem?_drop, List.getElem?_take_of_lt (by omega)]
    simp) (by rw [htl]; omega) inv0 (by rw [htl]; exact hlex) h
  have := wpAny_of_head (Q' := Q) (g := l'.toArray.size - n) (fun listed a' hL => by
    have := wpAny_of_seq (md := .any) (Q' := Q) (l'.drop n) n listed a' { w with drawn := w.drawn + 1 } (fun j => by simp [List.getElem?_drop]) (by rw [hdl]; exact hL.1) hL.2
    rwa [hdl] at this) _ _ _ H
  rw [htl, show n - 1 + (l'.toArray.size - n) = l.toArray.size - 1 by simp; omega] at this
  have hss : l'.toArray.size = l.toArray.size := hL.size
  rw [hss] at this
  exact this
end
end Go.Proofs.Ytkcccajiplchpaa
