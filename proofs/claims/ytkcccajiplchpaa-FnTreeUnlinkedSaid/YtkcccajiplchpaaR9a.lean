/- Forests in memory: an append in whatever order. -/
import Derived.Test.YtkcccajiplchpaaR8
namespace Go.Proofs.Ytkcccajiplchpaa
open Go.RowKit
set_option linter.unusedVariables false

/-- 'append(row, u)' of one element that lies at a place. -/
theorem wp_appG {P : Program} {o : Oper} {a : Act} {K : Act → World → Prop} {Q : Exit → Act → World → Prop}
    (s x : Operand) (t : TypeId) (hop : o.op = Op.call { callee := Callee.builtin Builtin.append, args := #[s, x], argTypes := #[t, t] })
    (base : Nat) (e : TypeId) (i : TypeInfo) (z : Value) (bytes : Nat) (ht : P.underlying t = some (.slice e)) (hi : P.info? e = some i) (hz : i.zero = some z) (hsize : i.size = 1) (hby : i.bytes = bytes) (hzs : z.cells.size = 1)
    (w : World) (A : Option Addr) (n c : Nat) (xs : List Value) (u : Value) (ad : Addr) (hown : w.ownsRow base e 1 (.slice A n c) n xs) (h1 : u.oneCell' = true) (hu : w.cell? ad = some u)
    (hs : a.eval s = .slice A n c) (hx : a.eval x = .slice (some ad) 1 1)
    (hn : n ≤ 1000000000) (hb : bytes ≤ 64) (hbase : base ≤ w.heap.size)
    (h : ∀ A' c' w', w'.ownsRow base e 1 (.slice A' (n + 1) c') (n + 1) (xs ++ [u]) → w.grownBy w' (A.map (·.block)) → (∀ g, A'.map (·.block) = some g → A.map (·.block) = some g ∨ w.heap.size ≤ g) → K (a.put o.dst (.slice A' (n + 1) c')) w') :
    Oper.wp P o a w K Q := by
  have hc : ∀ j u', [u][j]? = some u' → w.cell? (ad.add j) = some u' := by
    intro j u' hj
    match j, hj with
    | 0, hj =>
      simp at hj; subst hj
      simpa [Addr.add] using hu
  have hm : (n + 1) * bytes ≤ 140737488355328 := Nat.le_trans (Nat.mul_le_mul_left _ hb) (by omega)
  obtain ⟨v', w', hr, h2, h3, h4, h5⟩ := run_append_own_at (P := P) w base t o.type e i z 1 bytes ht hi hz hsize hby hzs (by omega) _ n xs hown
    ad 1 1 [u] rfl hc (by intro u' hu; simp at hu; subst hu; exact h1) (by unfold maxLen; omega) hm hbase
  unfold Oper.wp
  simp only [execOp, hop, resolve, invoke, builtin, Sem.run_bind, Sem.run_pure, Result.andThen_ok, List.map_toArray, List.map_cons, List.map_nil, hs, hx, hr]
  have hob : (Value.slice A n c).ownBlock = A.map (·.block) := by cases A <;> rfl
  rw [hob] at h3 h5
  obtain ⟨A', c', rfl⟩ := own_form h2
  have hob' : (Value.slice A' (n + 1) c').ownBlock = A'.map (·.block) := by cases A' <;> rfl
  rw [hob'] at h5
  refine h A' c' w' h2 h3 (fun g hg' => ?_)
  rcases h5 with h5 | h5
  · left; rw [← h5]; exact hg'
  · right; rw [h5] at hg'; injection hg' with hg'; omega
/-- A Bool that is true at p alone. -/
def BoolT (p : Prop) (e : Ending) : Prop := ∃ b : Bool, e = .returned (.bool b) ∧ (b = true → p)
end Go.Proofs.Ytkcccajiplchpaa
