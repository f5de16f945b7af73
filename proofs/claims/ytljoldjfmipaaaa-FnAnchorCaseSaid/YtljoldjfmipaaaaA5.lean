/- Letters that change their case, in plain words. -/
import Derived.Test.YtljoldjfmipaaaaA3
namespace Go.Proofs.Ytljoldjfmipaaaa
open Go.RowKit

/-- A letter in the other case. -/
def swp (c : Int) : Int := if 97 ≤ c ∧ c ≤ 122 then c - 32 else if 65 ≤ c ∧ c ≤ 90 then c + 32 else c
theorem isw_swp (c : Int) : isw (swp c) = isw c := by
  unfold swp; split
  · rw [Bool.eq_iff_iff]; simp [isw]; omega
  · split
    · rw [Bool.eq_iff_iff]; simp [isw]; omega
    · rfl
theorem low_swp (c : Int) : low (swp c) = low c := by
  unfold swp low
  repeat' split
  all_goals omega
theorem aT_swp (f g : Nat → Int) : ∀ k, (∀ j, j < k → g j = swp (f j)) → aT g k = aT f k
  | 0, _ => rfl
  | k + 1, h => by
    have ih := aT_swp f g k (fun j hj => h j (by omega))
    show astep (aT g k) (g k) = astep (aT f k) (f k)
    rw [ih, h k (by omega)]
    unfold astep
    rw [isw_swp, low_swp]
/-- A row in which the first k bytes have changed their case. -/
def swT (f : Nat → Int) (k j : Nat) : Int := if j < k then swp (f j) else f j
theorem swT_at (f : Nat → Int) (k : Nat) : swT f k k = f k := by unfold swT; rw [if_neg (by omega)]
theorem swT_succ (f : Nat → Int) (k j : Nat) (h : j ≠ k) : swT f (k + 1) j = swT f k j := by
  unfold swT
  by_cases hj : j < k
  · rw [if_pos (by omega), if_pos hj]
  · rw [if_neg (by omega), if_neg hj]
theorem swT_new (f : Nat → Int) (k : Nat) : swT f (k + 1) k = swp (f k) := by unfold swT; rw [if_pos (by omega)]
theorem row_step {wr w1 : World} {B : Nat} {f : Nat → Int} {k n : Nat} (hc : ∀ j, j < n → wr.cell? ⟨B, j, none⟩ = some (.int .u8 (swT f k j))) (hk : k < n)
    (h1 : w1 = wr.setCell ⟨B, k, none⟩ (.int .u8 (swp (f k)))) : ∀ j, j < n → w1.cell? ⟨B, j, none⟩ = some (.int .u8 (swT f (k + 1) j)) := by
  intro j hj
  subst h1
  by_cases e : j = k
  · subst e
    rw [World.cell?_setCell_same _ _ _ (hc j hj), swT_new]
  · rw [World.cell?_setCell_other _ _ _ _ (fun h => e (by injection h with _ h2; exact h2.symm)), hc j hj, swT_succ _ _ _ e]
theorem row_keep {wr : World} {B : Nat} {f : Nat → Int} {k n : Nat} (hc : ∀ j, j < n → wr.cell? ⟨B, j, none⟩ = some (.int .u8 (swT f k j))) (h : swp (f k) = f k) :
    ∀ j, j < n → wr.cell? ⟨B, j, none⟩ = some (.int .u8 (swT f (k + 1) j)) := by
  intro j hj
  by_cases e : j = k
  · subst e; rw [hc j hj, swT_new, swT_at, h]
  · rw [hc j hj, swT_succ _ _ _ e]
/-- 'string(b)' of the row. -/
theorem conv_row {P : Program} (w : World) (src dst e : TypeId) (B n cap : Nat) (g : Nat → Int) (hs : P.underlying src = some (.slice e)) (he : P.underlying e = some (.int .u8)) (hd : P.underlying dst = some .string)
    (hg : ∀ j, j < n → 0 ≤ g j ∧ g j ≤ 255) (hc : ∀ j, j < n → w.cell? ⟨B, j, none⟩ = some (.int .u8 (g j))) :
    ∃ t : ByteArray, (convert src dst (.slice (some ⟨B, 0, none⟩) n cap)).run P w = .ok (.string t) w ∧ t.size = n ∧ ∀ j (h : j < t.size), ((t[j]'h).toNat : Int) = g j := by
  have hrng : ∀ x ∈ (List.range n).map g, 0 ≤ x ∧ x ≤ 255 := by
    intro x hx; simp only [List.mem_map, List.mem_range] at hx; obtain ⟨j, hj, rfl⟩ := hx; exact hg j hj
  have hr := run_convert_bytes_back (P := P) w src dst e ⟨B, 0, none⟩ cap (bytesOf ((List.range n).map g)) hs he hd (fun j hj => by
    have hj' : j < n := by simpa [bytesOf] using hj
    have hadd : (⟨B, 0, none⟩ : Addr).add j = ⟨B, j, none⟩ := by unfold Addr.add; split <;> simp_all
    rw [hadd, hc j hj']
    obtain ⟨h0, h1⟩ := hg j hj'
    simp only [bytesOf, List.getElem_map, List.getElem_range, toNat_of _ h0 h1])
  have hl : (bytesOf ((List.range n).map g)).length = n := by simp [bytesOf]
  rw [hl] at hr
  refine ⟨strOf ((List.range n).map g), hr, by rw [strOf_size]; simp, fun j h => ?_⟩
  have hj : j < n := by rw [strOf_size] at h; simpa using h
  rw [bt_str, strOf_list, bt_bytesOf _ hrng]
  simp [hj]
end Go.Proofs.Ytljoldjfmipaaaa
