/- Ids made unique (the package): a map that holds the ids with their counts. -/
import Derived.Test.YtfhpjcgflejgnaaDoorU5
namespace Go.Proofs.YtfhpjcgflejgnaaDoor
open Go.RowKit Go.Maps
set_option linter.unusedVariables false

def kl (s : ByteArray) : Lit := .string s.data.toList
theorem kl_ne {s t : ByteArray} (h : s ≠ t) : kl s ≠ kl t := fun e => h (by
  unfold kl at e
  injection e with e
  exact ByteArray.ext (Array.ext' e))
theorem kl_key (s : ByteArray) : WideAt.IsKeyLit (kl s) := by unfold kl; simp [WideAt.IsKeyLit]
def n0 : DataW Unit := .lit (.int .i64 0)
def nn (m : Nat) : DataW Unit := .lit (.int .i64 m)
/-- The map reads as the list of ids. -/
def MapIs (D : DataW Unit) (K : Ids) : Prop := IsMap D ∧ ∀ s : ByteArray, (∀ i, At K s i → has D (kl s) = true ∧ D.atKey (kl s) n0 = nn (kd K i).2) ∧ (NotIn K s → has D (kl s) = false)
theorem MapIs.empty : MapIs (.map []) [] := ⟨isMap_empty, fun s => ⟨fun i h => by have := h.1; simp at this, fun _ => rfl⟩⟩
theorem MapIs.bump {D : DataW Unit} {K : Ids} (h : MapIs D K) {s : ByteArray} {i : Nat} (a : At K s i) (m : Nat) : MapIs (D.put (kl s) (nn m)) (K.set i (s, m)) := by
  refine ⟨h.1.put _ _, fun t => ?_⟩
  by_cases e : t = s
  · subst e
    refine ⟨fun j b => ?_, fun b => ?_⟩
    · have hj : j = i := by
        have b1 := b.2.1
        have b2 := b.2.2
        rcases Nat.lt_trichotomy j i with g | g | g
        · rw [kd_set a.1, if_neg (by omega)] at b1
          exact absurd b1 (a.2.2 j g)
        · exact g
        · have := b2 i g
          rw [kd_set a.1, if_pos rfl] at this
          exact absurd rfl this
      subst hj
      rw [kd_set a.1, if_pos rfl]
      exact ⟨has_put_same h.1 (kl_key _) _, atKey_put_same h.1 (kl_key _) _ _⟩
    · have := b i (by simpa using a.1)
      rw [kd_set a.1, if_pos rfl] at this
      exact absurd rfl this
  · have hne := kl_ne e
    rw [has_put_other hne, atKey_put_other hne]
    refine ⟨fun j b => ?_, fun b => ?_⟩
    · have hji : j ≠ i := fun g => by
        have := b.2.1
        rw [kd_set a.1, if_pos g] at this
        exact e this.symm
      have hb : At K t j := by
        refine ⟨by simpa using b.1, ?_, fun q hq => ?_⟩
        · have := b.2.1
          rwa [kd_set a.1, if_neg hji] at this
        · have := b.2.2 q hq
          rw [kd_set a.1] at this
          by_cases g : q = i
          · subst g; rw [a.2.1]; exact fun x => e x.symm
          · rwa [if_neg g] at this
      rw [kd_set a.1, if_neg hji]
      exact (h.2 t).1 j hb
    · refine (h.2 t).2 fun q hq => ?_
      have := b q (by simpa using hq)
      rw [kd_set a.1] at this
      by_cases g : q = i
      · subst g; rw [a.2.1]; exact fun x => e x.symm
      · rwa [if_neg g] at this
theorem MapIs.new {D : DataW Unit} {K : Ids} (h : MapIs D K) {s : ByteArray} (a : NotIn K s) : MapIs (D.put (kl s) n0) (K ++ [(s, 0)]) := by
  refine ⟨h.1.put _ _, fun t => ?_⟩
  by_cases e : t = s
  · subst e
    refine ⟨fun j b => ?_, fun b => ?_⟩
    · have hj : j = K.length := by
        rcases Nat.lt_or_ge j K.length with g | g
        · have := b.2.1
          rw [kd_append_lt g] at this
          exact absurd this (a j g)
        · have := b.1
          simp at this
          omega
      subst hj
      rw [kd_append_eq]
      exact ⟨has_put_same h.1 (kl_key _) _, atKey_put_same h.1 (kl_key _) _ _⟩
    · have := b K.length (by simp)
      rw [kd_append_eq] at this
      exact absurd rfl this
  · have hne := kl_ne e
    rw [has_put_other hne, atKey_put_other hne]
    refine ⟨fun j b => ?_, fun b => ?_⟩
    · have hj : j < K.length := by
        rcases Nat.lt_or_ge j K.length with g | g
        · exact g
        · have h1 := b.1
          simp at h1
          have h2 := b.2.1
          rw [show j = K.length from by omega, kd_append_eq] at h2
          exact absurd h2.symm e
      have hb : At K t j := ⟨hj, by have := b.2.1; rwa [kd_append_lt hj] at this, fun q hq => by have := b.2.2 q hq; rwa [kd_append_lt (by omega)] at this⟩
      rw [kd_append_lt hj]
      exact (h.2 t).1 j hb
    · exact (h.2 t).2 fun q hq => by have := b q (by simp; omega); rwa [kd_append_lt hq] at this
end Go.Proofs.YtfhpjcgflejgnaaDoor
