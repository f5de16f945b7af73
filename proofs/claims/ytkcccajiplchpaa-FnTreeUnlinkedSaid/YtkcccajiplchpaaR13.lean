/- Forests in memory: any step of the reference. -/
import Derived.Test.YtkcccajiplchpaaR9
import Derived.Test.YtkcccajiplchpaaR10
import Derived.Test.YtkcccajiplchpaaR12
namespace Go.Proofs.Ytkcccajiplchpaa
open Go.RowKit
set_option linter.unusedVariables false

structure Inv (n m : Nat) (U : Nat → Option Nat) (D : Nat → List Nat) (L : Lk) : Prop where
  fo : Forest n U D
  ag : Agree n U D L
  rk : ∃ r, Rank n U r
  ln : ∀ i, i < n → (D i).length ≤ m
theorem Inv.congr {n m : Nat} {U U' : Nat → Option Nat} {D D' : Nat → List Nat} {L : Lk} (h : Inv n m U D L) (hU : ∀ i, i < n → U i = U' i) (hD : ∀ i, i < n → D i = D' i) : Inv n m U' D' L := by
  obtain ⟨r, hr⟩ := h.rk
  refine ⟨⟨fun i j j' k hi h1 h2 => ?_, fun i j k hi h1 => ?_, fun i k hk h1 => ?_⟩, ⟨fun k hk => ?_, fun i hi => ?_, fun i hi => ?_, fun i j k hi hj => ?_, fun i j k hi hj => ?_, fun k hk hu => ?_⟩, ⟨r, fun k p hk hp => ?_⟩, fun i hi => ?_⟩
  · rw [← hD i hi] at h1 h2; exact h.fo.uniq i j j' k hi h1 h2
  · rw [← hD i hi] at h1
    obtain ⟨a, b⟩ := h.fo.up i j k hi h1
    exact ⟨a, by rw [← hU k a]; exact b⟩
  · rw [← hU k hk] at h1
    obtain ⟨a, j, hj⟩ := h.fo.down i k hk h1
    exact ⟨a, j, by rw [← hD i a]; exact hj⟩
  · rw [← hU k hk]; exact h.ag.l1 k hk
  · rw [← hD i hi]; exact h.ag.l2 i hi
  · rw [← hD i hi]; exact h.ag.l3 i hi
  · rw [← hD i hi] at hj ⊢; exact h.ag.l4 i j k hi hj
  · rw [← hD i hi] at hj ⊢; exact h.ag.l5 i j k hi hj
  · rw [← hU k hk] at hu; exact h.ag.l0 k hk hu
  · rw [← hU k hk] at hp; exact hr k p hk hp
  · rw [← hD i hi]; exact h.ln i hi
theorem Inv.mono {n m m' : Nat} {U : Nat → Option Nat} {D : Nat → List Nat} {L : Lk} (h : Inv n m U D L) (hm : m ≤ m') : Inv n m' U D L := ⟨h.fo, h.ag, h.rk, fun i hi => Nat.le_trans (h.ln i hi) hm⟩
theorem Inv.start : Inv 0 0 (fun _ => none) (fun _ => []) (fun _ _ => none) := by
  refine ⟨⟨fun i _ _ _ hi => absurd hi (Nat.not_lt_zero _), fun i _ _ hi => absurd hi (Nat.not_lt_zero _), fun _ k hk => absurd hk (Nat.not_lt_zero _)⟩, ⟨fun k hk => absurd hk (Nat.not_lt_zero _), fun k hk => absurd hk (Nat.not_lt_zero _), fun k hk => absurd hk (Nat.not_lt_zero _), fun k _ _ hk => absurd hk (Nat.not_lt_zero _), fun k _ _ hk => absurd hk (Nat.not_lt_zero _), fun k hk => absurd hk (Nat.not_lt_zero _)⟩, ⟨fun _ => 0, fun k _ hk => absurd hk (Nat.not_lt_zero _)⟩, fun i hi => absurd hi (Nat.not_lt_zero _)⟩
section
variable {n m : Nat} {U : Nat → Option Nat} {D : Nat → List Nat} {L : Lk} (h : Inv n m U D L)
include h
theorem Inv.new : Inv (n + 1) (m + 1) (fun i => if i = n then none else U i) (fun i => if i = n then [] else D i) (newL L n) := by
  have h' := h.congr (U' := fun i => if i = n then none else U i) (D' := fun i => if i = n then [] else D i) (fun i hi => by rw [if_neg (by omega)]) (fun i hi => by rw [if_neg (by omega)])
  obtain ⟨r, hr⟩ := h'.rk
  refine ⟨h'.fo.new (by simp) (by simp), h'.ag.new h'.fo (by simp) (by simp), ⟨r, fun k p hk hp => ?_⟩, fun i hi => ?_⟩
  · by_cases e : k = n
    · subst e; simp at hp
    · exact hr k p (by omega) hp
  · by_cases e : i = n
    · subst e; simp
    · have := h'.ln i (by omega); omega
theorem Inv.cut {a : Nat} (ha : a < n) : Inv n m (cutU U a) (cutD U D a) (unlinkL L a) := by
  obtain ⟨r, hr⟩ := h.rk
  refine ⟨h.fo.cut ha, h.ag.cut h.fo ha, ⟨r, hr.cut a⟩, fun i hi => ?_⟩
  have := h.ln i hi
  unfold cutD
  split
  · exact Nat.le_trans (List.length_filter_le _ _) this
  · exact this
theorem Inv.push {a b : Nat} (ha : a < n) (hb : b < n) (hu : ¬ Und U a b) : Inv n (m + 1) (addU (cutU U b) a b) (pushD (cutD U D b) a b) (appendL L a b) := by
  have hc := h.cut hb
  have hn : cutU U b b = none := by simp [cutU]
  obtain ⟨r, hr⟩ := hc.rk
  refine ⟨hc.fo.push ha hb hn, by rw [appendL_eq]; exact hc.ag.push hc.fo ha hb hn, hr.add hn (fun hh => hu hh.cut), fun i hi => ?_⟩
  have h1 := hc.ln i hi
  unfold pushD
  by_cases e : i = a
  · subst e; rw [if_pos rfl, List.length_append]; simpa using h1
  · rw [if_neg e]; omega
theorem Inv.ins {a b p : Nat} (ha : a < n) (hb : b < n) (hu : ¬ Und U a b) (hp : U a = some p) : Inv n (m + 1) (addU (cutU U b) p b) (insD (cutU U b) (cutD U D b) a b) (insertL L a b) := by
  have hc := h.cut hb
  have hn : cutU U b b = none := by simp [cutU]
  have hab : a ≠ b := fun e => by subst e; exact hu (.refl a)
  have hp' : cutU U b a = some p := by unfold cutU; rw [if_neg hab]; exact hp
  obtain ⟨r, hr⟩ := hc.rk
  refine ⟨hc.fo.ins ha hb hn hp', by rw [insertL_eq]; exact hc.ag.ins hc.fo ha hb hab hn hp', hr.add hn (fun hh => hu (.step a p b hp hh.cut)), fun i hi => ?_⟩
  have h1 := hc.ln i hi
  obtain ⟨hpn, t, ht⟩ := hc.fo.down p a ha hp'
  unfold insD
  rw [hp']
  by_cases e : p = i
  · subst e
    rw [if_pos rfl, flat_ins _ t a b ht (fun j hj => hc.fo.uniq p j t a hpn hj ht), List.length_insertIdx_of_le_length (by have := (List.getElem?_eq_some_iff.1 ht).1; omega)]
    omega
  · rw [if_neg (fun hh => e (by injection hh))]; omega
theorem Inv.upLt : ∀ i p, i < n → U i = some p → p < n := fun i p hi hp => (h.fo.down p i hi hp).1
end

set_option maxRecDepth 100000 in
set_option maxHeartbeats 8000000 in
theorem fstep_bad (w : World) (B fb n : Nat) (U : Nat → Option Nat) (D : Nat → List Nat) (AU : Option Addr) (cU : Nat) (AD : Option Addr) (cD : Nat) (DA : Nat → Option Addr) (Dc : Nat → Nat) (h : FR w B fb n U D AU cU AD cD DA Dc) (hn : n ≤ 1000) (o a b : Int)
    (hbad : (o = 0 ∧ (a < 0 ∨ 24 ≤ a)) ∨ (o ≠ 0 ∧ (o < 0 ∨ 3 < o ∨ a < 0 ∨ (n : Int) ≤ a ∨ (o < 3 ∧ (b < 0 ∨ (n : Int) ≤ b))))) :
    Calls Try.prog 6 #[.pointer (some ⟨fb, 0, none⟩), .agg #[.int .i64 o, .int .i64 a, .int .i64 b]] w fun e w' => e = .returned (.bool false) ∧ But kindF B w w' := by
  have HBT := Lib.hid (But.alloc kindF B w (.cells #[.int .i64 o, .int .i64 a, .int .i64 b] 33))
  have h' : FR (w.alloc (.cells #[.int .i64 o, .int .i64 a, .int .i64 b] 33)) B fb n U D AU cU AD cD DA Dc := h.but (But.alloc (fun _ => False) 0 w _) (fun _ h => h.elim)
  obtain ⟨c0, c1, _, _⟩ := h'.cells
  clear h h'
  have run : ∀ (p : Prop), p → True := fun _ _ => trivial
  rcases hbad with ⟨rfl, h1⟩ | ⟨h0, h1⟩
  · rcases h1 with h1 | h1
    · go_enter Try.func6, Try.ntmps6
      go_wp2
      go_ret
      exact ⟨rfl, HBT.out⟩
    · have h2 : ¬ a < 0 := by omega
      go_enter Try.func6, Try.ntmps6
      go_wp2
      go_ret
      exact ⟨rfl, HBT.out⟩
  · have e0 : (o == 0) = false := by simpa using h0
    by_cases k1 : o < 0
    · go_enter Try.func6, Try.ntmps6
      go_wp2
      go_ret
      exact ⟨rfl, HBT.out⟩
    by_cases k2 : 3 < o
    · go_enter Try.func6, Try.ntmps6
      go_wp2
      go_ret
      exact ⟨rfl, HBT.out⟩
    by_cases k3 : a < 0
    · go_enter Try.func6, Try.ntmps6
      go_wp2
      go_ret
      exact ⟨rfl, HBT.out⟩
    by_cases k4 : (n : Int) ≤ a
    · go_enter Try.func6, Try.ntmps6
      go_wp2
      go_ret
      exact ⟨rfl, HBT.out⟩
    have k5 : o < 3 := by omega
    by_cases k6 : b < 0
    · go_enter Try.func6, Try.ntmps6
      go_wp2
      go_ret
      exact ⟨rfl, HBT.out⟩
    · have k7 : (n : Int) ≤ b := by omega
      go_enter Try.func6, Try.ntmps6
      go_wp2
      go_ret
      exact ⟨rfl, HBT.out⟩

/-- The forest behind a step, where it is told of. -/
def StepF (w w' : World) (B fb n m : Nat) (L : Lk) (o a b : Int) (e : Ending) : Prop :=
  BoolT (okS (n, L) o a b ∧ ∃ U' D', Inv (stepS (n, L) o a b).1 (m + 1) U' D' (stepS (n, L) o a b).2 ∧ ∃ AU cU AD cD DA Dc, FR w' B fb (stepS (n, L) o a b).1 U' D' AU cU AD cD DA Dc) e ∧ But kindF B w w'
set_option maxHeartbeats 1600000 in
theorem fstep_any (w : World) (B fb n m : Nat) (U : Nat → Option Nat) (D : Nat → List Nat) (L : Lk) (AU : Option Addr) (cU : Nat) (AD : Option Addr) (cD : Nat) (DA : Nat → Option Addr) (Dc : Nat → Nat) (h : FR w B fb n U D AU cU AD cD DA Dc)
    (hI : Inv n m U D L) (hB : B ≤ w.heap.size) (hn : n ≤ 1000) (hm : m ≤ 1000) (o a b : Int) :
    Calls Try.prog 6 #[.pointer (some ⟨fb, 0, none⟩), .agg #[.int .i64 o, .int .i64 a, .int .i64 b]] w fun e w' => StepF w w' B fb n m L o a b e := by
  have hln : ∀ i, i < n → (D i).length ≤ 1000 := fun i hi => Nat.le_trans (hI.ln i hi) hm
  obtain ⟨r, hr⟩ := hI.rk
  by_cases hbad : (o = 0 ∧ (a < 0 ∨ 24 ≤ a)) ∨ (o ≠ 0 ∧ (o < 0 ∨ 3 < o ∨ a < 0 ∨ (n : Int) ≤ a ∨ (o < 3 ∧ (b < 0 ∨ (n : Int) ≤ b))))
  · refine (fstep_bad w B fb n U D AU cU AD cD DA Dc h hn o a b hbad).mono ?_
    rintro e w' ⟨rfl, hb⟩
    exact ⟨⟨false, rfl, fun h => by cases h⟩, hb⟩
  · by_cases h0 : o = 0
    · subst h0
      refine (fstep0 w B fb n U D AU cU AD cD DA Dc h hB hn a b (by omega) (by omega)).mono ?_
      rintro e w' ⟨rfl, hf, hb⟩
      exact ⟨⟨true, rfl, fun _ => ⟨.inl rfl, _, _, hI.new, hf⟩⟩, hb⟩
    · obtain ⟨x, rfl⟩ : ∃ x : Nat, a = x := ⟨a.toNat, by omega⟩
      have hx : x < n := by omega
      have ho : o = 1 ∨ o = 2 ∨ o = 3 := by omega
      rcases ho with rfl | rfl | rfl
      · obtain ⟨y, rfl⟩ : ∃ y : Nat, b = y := ⟨b.toNat, by omega⟩
        have hy : y < n := by omega
        refine (fstep1 w B fb n U D AU cU AD cD DA Dc h hI.upLt r hr hln hB hn x y hx hy).mono ?_
        rintro e w' ⟨⟨ok, rfl, hk⟩, hb⟩
        refine ⟨⟨ok, rfl, fun e => ?_⟩, hb⟩
        obtain ⟨hu, hf⟩ := hk e
        exact ⟨.inr (.inl ⟨rfl, x, y, rfl, rfl, hx, hy⟩), _, _, hI.push hx hy hu, hf⟩
      · obtain ⟨y, rfl⟩ : ∃ y : Nat, b = y := ⟨b.toNat, by omega⟩
        have hy : y < n := by omega
        refine (fstep2 w B fb n U D AU cU AD cD DA Dc h hI.upLt r hr hln hB hn x y hx hy).mono ?_
        rintro e w' ⟨⟨ok, rfl, hk⟩, hb⟩
        refine ⟨⟨ok, rfl, fun e => ?_⟩, hb⟩
        obtain ⟨hu, p, hp, hf⟩ := hk e
        have hxy : x ≠ y := fun e => by subst e; exact hu (.refl x)
        refine ⟨.inr (.inr (.inl ⟨rfl, x, y, p, rfl, rfl, hx, hy, hxy, ?_⟩)), _, _, hI.ins hx hy hu hp, hf⟩
        have := (hI.cut hy).ag.l1 x hx
        rw [this]; unfold cutU; rw [if_neg hxy]; exact hp
      · refine (fstep3 w B fb n U D AU cU AD cD DA Dc h hI.upLt hln hB hn x b hx).mono ?_
        rintro e w' ⟨rfl, hf, hb⟩
        exact ⟨⟨true, rfl, fun _ => ⟨.inr (.inr (.inr ⟨rfl, x, rfl, hx⟩)), _, _, (hI.cut hx).mono (by omega), hf⟩⟩, hb⟩
end Go.Proofs.Ytkcccajiplchpaa
