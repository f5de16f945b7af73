/- A region that draws its order: the operations that only read may be taken first, where what may come up ahead of them keeps what they read. -/
import Derived.OrdersHeld
import Derived.StillTailTactics
namespace Go.Proofs.YtghmbpogniopoaaDoor
open Go
set_option linter.unusedVariables false

/-- No late one has come up. -/
def Opn (late : Nat → Bool) (listed : Array Bool) : Prop := ∀ j, late j = true → listed.getD j false = false
section
variable {P : Program} {ops : Array Oper} {Q : Exit → Act → World → Prop} {md : Region.Mode} {S : World → Prop} {late : Nat → Bool}

/-- Whatever order is drawn; S behind each operation till a late one has come up. -/
def wpE (P : Program) (md : Region.Mode) (ops : Array Oper) (Q : Exit → Act → World → Prop) (S : World → Prop) (late : Nat → Bool) : Nat → Array Bool → Act → World → Prop
  | 0, listed, a, w => Region.ready md ops listed = [] ∧ Q .normal a w
  | f + 1, listed, a, w => (Region.ready md ops listed = [] → Q .normal a w) ∧
    ∀ i ∈ Region.ready md ops listed, wpOp P ops Q i (fun a' w' => (Opn late (listed.setIfInBounds i true) → S w') ∧ wpE P md ops Q S late f (listed.setIfInBounds i true) a' w') a w
theorem wpE.any : ∀ (f : Nat) (listed : Array Bool) (a : Act) (w : World), wpE P md ops Q S late f listed a w → wpAny P md ops Q f listed a w
  | 0, _, _, _, h => h
  | f + 1, _, _, _, h => ⟨h.1, fun i hi => wpOp_mono (fun a' w' h' => wpE.any f _ a' w' h'.2) (h.2 i hi)⟩
/-- What waits for number i, or for one that does. -/
def waitsB (md : Region.Mode) (ops : Array Oper) (late : Nat → Bool) (i : Nat) : Bool :=
  (List.range ops.size).all fun j => !late j || (match ops[j]? with | some o => o.after.any fun e => Region.binds md e && (e.on == i || late e.on) | none => false)
def openB (late : Nat → Bool) (listed : Array Bool) : Bool := (List.range listed.size).all fun j => !late j || !listed.getD j false
theorem openB_spec {listed : Array Bool} (h : openB late listed = true) : Opn late listed := fun j hj => by
  by_cases hs : j < listed.size
  · have := List.all_eq_true.1 h j (by simpa using hs)
    simpa [hj] using this
  · simp [show ¬ j < listed.size from hs]
theorem Opn.set {listed : Array Bool} {i : Nat} (hi : late i = false) : Opn late (listed.setIfInBounds i true) ↔ Opn late listed := by
  constructor
  · intro h j hj
    have := h j hj
    have hij : i ≠ j := fun e => by subst e; rw [hi] at hj; cases hj
    rwa [getD_set_ne false hij] at this
  · intro h j hj
    have hij : i ≠ j := fun e => by subst e; rw [hi] at hj; cases hj
    rw [getD_set_ne false hij]
    exact h j hj
theorem waits_ready {i j : Nat} {listed : Array Bool} (hw : waitsB md ops late i = true) (hl : Opn late listed) (hi : listed.getD i false = false) (hj : j ∈ Region.ready md ops listed) : late j = false := by
  cases hlj : late j with
  | false => rfl
  | true =>
    exfalso
    obtain ⟨_, oj, hoj, hall⟩ := mem_ready.1 hj
    unfold waitsB at hw
    have := List.all_eq_true.1 hw j (by have := (Array.getElem?_eq_some_iff.1 hoj).1; simpa using this)
    rw [hlj, hoj] at this
    simp only [Bool.not_true, Bool.false_or, Array.any_eq_true'] at this
    obtain ⟨e, he, hb⟩ := this
    simp only [Bool.and_eq_true, Bool.or_eq_true, beq_iff_eq] at hb
    have h1 := hall e he hb.1
    rcases hb.2 with h2 | h2
    · rw [h2] at h1; rw [hi] at h1; cases h1
    · rw [hl _ h2] at h1; cases h1
theorem ready_un {i : Nat} {listed : Array Bool} (hr : i ∈ Region.ready md ops listed) : listed.getD i false = false := by
  have h0 := (mem_ready.1 hr).1
  rcases Nat.lt_or_ge i listed.size with h' | h'
  · simp [h'] at h0 ⊢; exact h0
  · simp [Array.getElem?_eq_none h']
theorem wpE_first {i : Nat} {b : Bool} {oi : Oper} {v : Value} (hi : ops[i]? = some oi) (hsel : ∀ (j : Nat) (o : Oper) cs b, ops[j]? = some o → o.op ≠ .select cs b)
    (hQ : ∀ c a w, Q (.panic c) (a.put oi.dst v) w → Q (.panic c) a w) (hli : late i = false) (hw : b = true → waitsB md ops late i = true) :
    ∀ (f : Nat) (listed : Array Bool) (a : Act) (w : World),
      (∀ j oj, ops[j]? = some oj → j ≠ i → listed.getD j true = false → (∀ e ∈ oj.after, Region.binds md e = true → e.on ≠ i) → oi.apart ops oj = true) →
      i ∈ Region.ready md ops listed → (b = true → Opn late listed) → YieldsIf P ops (fun w => b = true → S w) oi v a → (Opn late listed → S w) →
      wpE P md ops Q S late f (listed.setIfInBounds i true) (a.put oi.dst v) w → wpE P md ops Q S late (f + 1) listed a w := by
  intro f
  induction f with
  | zero =>
    intro listed a w _ hr ho hy hS H
    refine ⟨fun h => (by rw [h] at hr; cases hr), fun j hj => ?_⟩
    by_cases hji : j = i
    · subst hji; exact hy.wpOp hi (fun hb => hS (ho hb)) ⟨fun h => hS ((Opn.set hli).1 h), H⟩
    · have := ready_mono hj hji
      rw [H.1] at this
      cases this
  | succ f ih =>
    intro listed a w hfree hr ho hy hS H
    refine ⟨fun h => (by rw [h] at hr; cases hr), fun j hj => ?_⟩
    by_cases hji : j = i
    · subst hji; exact hy.wpOp hi (fun hb => hS (ho hb)) ⟨fun h => hS ((Opn.set hli).1 h), H⟩
    · have h1 := H.2 j (ready_mono hj hji)
      obtain ⟨hjun, oj, hoj, hall⟩ := mem_ready.1 hj
      have hnot : ∀ e ∈ oj.after, Region.binds md e = true → e.on ≠ i := fun e he hb heq => by
        have h1 := hall e he hb
        rw [heq, ready_un hr] at h1; cases h1
      have h2 := wpOp_putIf hoj (hfree j oj hoj hji hjun hnot) (fun cs b => hsel i oi cs b hi) (fun cs b => hsel j oj cs b hoj) hQ hy h1
      refine wpOp_mono (fun a' w' h3 => ?_) h2
      have hS' : Opn late (listed.setIfInBounds j true) → S w' := fun hop => h3.2.1 (by rw [← Array.setIfInBounds_comm _ _ hji]; exact (Opn.set hli).2 hop)
      refine ⟨hS', ih (listed.setIfInBounds j true) a' w' (fun k ok hk hki hun hno => ?_) (ready_mono hr (Ne.symm hji)) (fun hb => ?_) h3.1 hS' ?_⟩
      · refine hfree k ok hk hki ?_ hno
        by_cases hjk : j = k
        · subst hjk; exact hjun
        · rw [getD_set_ne true hjk] at hun; exact hun
      · exact (Opn.set (waits_ready (hw hb) (ho hb) (ready_un hr) hj)).2 (ho hb)
      · rw [Array.setIfInBounds_comm _ _ hji]
        exact h3.2.2
/-- The heads, one behind the other (true: it reads what S says; false: it yields whatever the world). -/
inductive Heads (P : Program) (ops : Array Oper) (S : World → Prop) : List (Nat × Bool) → Act → Act → Prop
  | nil (a : Act) : Heads P ops S [] a a
  | cons (i : Nat) (b : Bool) (rest : List (Nat × Bool)) (o : Oper) (v : Value) (a a' : Act) : ops[i]? = some o → YieldsIf P ops (fun w => b = true → S w) o v a → Heads P ops S rest (a.put o.dst v) a' → Heads P ops S ((i, b) :: rest) a a'
def headsB (md : Region.Mode) (ops : Array Oper) (late : Nat → Bool) : List (Nat × Bool) → Array Bool → Bool
  | [], _ => true
  | (i, b) :: rest, listed => !late i && (!b || (waitsB md ops late i && openB late listed)) && Region.free md ops listed i && (Region.ready md ops listed).contains i && headsB md ops late rest (listed.setIfInBounds i true)
def setAll (l : List (Nat × Bool)) (listed : Array Bool) : Array Bool := l.foldl (fun s i => s.setIfInBounds i.1 true) listed
theorem wpE_heads (hs : Region.noSelect ops = true) (hQ : ∀ c (a : Act) (t : Array Value) w, Q (.panic c) ⟨t, a.defers⟩ w → Q (.panic c) a w) : ∀ (l : List (Nat × Bool)) (f : Nat) (listed : Array Bool) (a a' : Act) (w : World), headsB md ops late l listed = true → Heads P ops S l a a' → S w →
    wpE P md ops Q S late f (setAll l listed) a' w → wpE P md ops Q S late (f + l.length) listed a w := by
  intro l
  induction l with
  | nil =>
    intro f listed a a' w _ hh _ H
    cases hh
    exact H
  | cons ib rest ih =>
    intro f listed a a' w hB hh hS H
    obtain ⟨i, b⟩ := ib
    simp only [headsB, Bool.and_eq_true, Bool.or_eq_true, Bool.not_eq_true'] at hB
    obtain ⟨⟨⟨⟨b0, b1⟩, b3⟩, b4⟩, b5⟩ := hB
    cases hh with
    | cons _ _ _ o v _ _ ho hy hr =>
      refine wpE_first (b := b) ho (Region.noSelect_spec hs) (fun c a w h => ?_) b0 (fun hb => ?_) (f + rest.length) listed a w (Region.free_spec ho b3) (by simpa using b4) (fun hb => ?_) hy (fun _ => hS) (ih f _ _ a' w b5 hr hS H)
      · cases hd : o.dst with
        | none => rw [hd] at h; exact h
        | some d => rw [hd] at h; exact hQ c a _ w h
      · rcases b1 with b1 | b1
        · rw [b1] at hb; cases hb
        · exact b1.1
      · rcases b1 with b1 | b1
        · rw [b1] at hb; cases hb
        · exact openB_spec b1.2
/-- One operation alone may come up. -/
theorem wpE_one {i f : Nat} {o : Oper} {listed : Array Bool} {a : Act} {w : World} (hr : Region.ready md ops listed = [i]) (ho : ops[i]? = some o) (hg : o.guard = none)
    (h : ∀ K : Act → World → Prop, (∀ a' w', S w' → wpE P md ops Q S late f (listed.setIfInBounds i true) a' w' → K a' w') → Oper.wp P o a w K Q) : wpE P md ops Q S late (f + 1) listed a w := by
  refine ⟨fun h0 => (by rw [hr] at h0; cases h0), fun j hj => ?_⟩
  rw [hr] at hj
  obtain rfl : j = i := by simpa using hj
  unfold wpOp
  rw [ho]
  simp only [Region.wanted, hg, if_true]
  exact .inl (h _ (fun a' w' hS hE => ⟨fun _ => hS, hE⟩))
/-- The same of a guarded one, whose guard is decided. -/
theorem wpE_wanted {i f : Nat} {o : Oper} {listed : Array Bool} {a : Act} {w : World} (hr : Region.ready md ops listed = [i]) (ho : ops[i]? = some o) (hg : Region.wanted o (yielded ops a.tmps) = true)
    (h : ∀ K : Act → World → Prop, (∀ a' w', S w' → wpE P md ops Q S late f (listed.setIfInBounds i true) a' w' → K a' w') → Oper.wp P o a w K Q) : wpE P md ops Q S late (f + 1) listed a w := by
  refine ⟨fun h0 => (by rw [hr] at h0; cases h0), fun j hj => ?_⟩
  rw [hr] at hj
  obtain rfl : j = i := by simpa using hj
  unfold wpOp
  rw [ho]
  simp only [hg, if_true]
  exact .inl (h _ (fun a' w' hS hE => ⟨fun _ => hS, hE⟩))
/-- One of two. -/
theorem wpE_two {i j f : Nat} {o p : Oper} {listed : Array Bool} {a : Act} {w : World} (hr : Region.ready md ops listed = [i, j]) (ho : ops[i]? = some o) (hg : o.guard = none) (hp : ops[j]? = some p) (hpg : p.guard = none)
    (h : ∀ K : Act → World → Prop, (∀ a' w', S w' → wpE P md ops Q S late f (listed.setIfInBounds i true) a' w' → K a' w') → Oper.wp P o a w K Q)
    (h2 : ∀ K : Act → World → Prop, (∀ a' w', S w' → wpE P md ops Q S late f (listed.setIfInBounds j true) a' w' → K a' w') → Oper.wp P p a w K Q) : wpE P md ops Q S late (f + 1) listed a w := by
  refine ⟨fun h0 => (by rw [hr] at h0; cases h0), fun k hk => ?_⟩
  rw [hr] at hk
  simp only [List.mem_cons, List.not_mem_nil, or_false] at hk
  unfold wpOp
  rcases hk with rfl | rfl
  · rw [ho]
    simp only [Region.wanted, hg, if_true]
    exact .inl (h _ (fun a' w' hS hE => ⟨fun _ => hS, hE⟩))
  · rw [hp]
    simp only [Region.wanted, hpg, if_true]
    exact .inl (h2 _ (fun a' w' hS hE => ⟨fun _ => hS, hE⟩))
/-- A late one has come up: what is left is walked as ever. -/
theorem wpE_shut : ∀ (f : Nat) (listed : Array Bool) (a : Act) (w : World), ¬ Opn late listed → wpAny P md ops Q f listed a w → wpE P md ops Q S late f listed a w
  | 0, _, _, _, _, h => h
  | f + 1, listed, a, w, hl, h => ⟨h.1, fun i hi => by
      have hl' : ¬ Opn late (listed.setIfInBounds i true) := fun ho => hl fun j hj => by
        have := ho j hj
        by_cases e : i = j
        · subst e; exact ready_un hi
        · rwa [getD_set_ne false e] at this
      exact wpOp_mono (fun a' w' h' => ⟨fun ho => absurd ho hl', wpE_shut f _ a' w' hl' h'⟩) (h.2 i hi)⟩
/-- Late ones alone are left. -/
theorem wpE_any : ∀ (f : Nat) (listed : Array Bool) (a : Act) (w : World), (∀ j, j < listed.size → listed.getD j true = false → late j = true) → wpAny P md ops Q f listed a w → wpE P md ops Q S late f listed a w
  | 0, _, _, _, _, h => h
  | f + 1, listed, a, w, hl, h => ⟨h.1, fun i hi => by
      have hlt : i < listed.size := by
        have := (mem_ready.1 hi).1
        rcases Nat.lt_or_ge i listed.size with h' | h'
        · exact h'
        · simp [Array.getElem?_eq_none h'] at this
      have hli := hl i hlt (mem_ready.1 hi).1
      have hl' : ¬ Opn late (listed.setIfInBounds i true) := fun ho => by
        have := ho i hli
        simp [hlt] at this
      exact wpOp_mono (fun a' w' h' => ⟨fun ho => absurd ho hl', wpE_shut f _ a' w' hl' h'⟩) (h.2 i hi)⟩
def restB (late : Nat → Bool) (listed : Array Bool) : Bool := (List.range listed.size).all fun j => listed.getD j true || late j
/-- The rest in the order of the text. -/
theorem wpE_seq {l : List Oper} {k : Nat} {listed : Array Bool} {a : Act} {w : World} (hl : ∀ j, l[j]? = ops[k + j]?) (hB : (restB late listed && Region.seqB md ops l.length k listed) = true) (h : wpList P ops Q l a w) : wpE P md ops Q S late l.length listed a w := by
  rw [Bool.and_eq_true] at hB
  refine wpE_any _ _ _ _ (fun j hj hun => ?_) (wpAny_of_seq l k listed a w hl hB.2 h)
  have := List.all_eq_true.1 hB.1 j (by simpa using hj)
  rw [hun] at this
  simpa using this
theorem wpE_drop {l0 : List Oper} {k f : Nat} {listed : Array Bool} {a : Act} {w : World} (hf : (l0.drop k).length = f) (hB : (restB late listed && Region.seqB md l0.toArray (l0.drop k).length k listed) = true) (h : wpList P l0.toArray Q (l0.drop k) a w) : wpE P md l0.toArray Q S late f listed a w := by
  subst hf
  exact wpE_seq (fun j => by simp [List.getElem?_drop]) hB h
/-- The heads first. -/
theorem wp_region_heads {id : Nat} {a a' : Act} {w : World} (heads : List (Nat × Bool)) (f : Nat) (hm : P.follows .mixedOrders = true) (hQ : ∀ c (a : Act) (t : Array Value) w, Q (.panic c) ⟨t, a.defers⟩ w → Q (.panic c) a w)
    (hB : (Region.noSelect ops && headsB .any ops late heads (Array.replicate ops.size false) && decide (f + heads.length = ops.size)) = true) (hS : S w.drew) (hh : Heads P ops S heads a a')
    (h : wpE P .any ops Q S late f (setAll heads (Array.replicate ops.size false)) a' w.drew) : (Code.region id ops true).wp P Q a w := by
  simp only [Bool.and_eq_true, decide_eq_true_eq] at hB
  refine wp_region_any hm (wpE.any (S := S) (late := late) _ _ _ _ ?_)
  have := wpE_heads hB.1.1 hQ heads f _ a a' w.drew hB.1.2 hh hS h
  rw [hB.2] at this
  exact this
theorem at_zero {o : Oper} {l : List Oper} : (o :: l).toArray[0]? = some o := by simp
theorem at_succ {o x : Oper} {l : List Oper} {n : Nat} (h : l.toArray[n]? = some o) : (x :: l).toArray[n + 1]? = some o := by simpa using h
end
end Go.Proofs.YtghmbpogniopoaaDoor
