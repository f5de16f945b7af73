/- The door's parser with its map; lower case. -/
import Derived.Test.YtaljhebalgipjaaGreatDoorB1
import Derived.Maps.Own
import Derived.LoopN
import Derived.Handy
import Derived.ProofKit
import Derived.Deep.DeepCutAuto
import Derived.Deep.CutBlock
namespace Go.Proofs.YtaljhebalgipjaaGreatDoor
open Go.RowKit
set_option linter.unusedVariables false

/-- A capital letter made small. -/
def low (c : Int) : Int := if 65 ≤ c ∧ c ≤ 90 then c + 32 else c
theorem low_rng2 {c : Int} (h : 0 ≤ c ∧ c ≤ 255) : 0 ≤ low c ∧ low c ≤ 255 := by unfold low; split <;> omega
theorem tolower_any (c : Int) (w : World) (hc : 0 ≤ c ∧ c ≤ 255) :
    Calls Tryz.prog 81 #[.int .u8 c] w fun e w' => e = .returned (.int .u8 (low c)) ∧ w = w' := by
  go_enter Tryz.func81, Tryz.ntmps81
  go_wp2
  all_goals go_ret
  all_goals exact ⟨ret_int (by unfold low; split <;> omega), rfl⟩

/-- A row of n bytes of which the first k are written. -/
def lowT (f : Nat → Int) (k j : Nat) : Int := if j < k then low (f j) else 0
theorem low_step {wr : World} {base e n g : Nat} {f : Nat → Int} {k : Nat} (h : wr.ownsRow base e 1 (.slice (some ⟨g, 0, none⟩) n n) n (((List.range n).map (lowT f k)).map (Value.int .u8))) (hk : k < n) :
    (wr.setCell ⟨g, k, none⟩ (.int .u8 (low (f k)))).ownsRow base e 1 (.slice (some ⟨g, 0, none⟩) n n) n (((List.range n).map (lowT f (k + 1))).map (Value.int .u8)) := by
  have hs := h.stored k (.int .u8 (low (f k)))
  have e1 : (((List.range n).map (lowT f k)).map (Value.int .u8)).set k (.int .u8 (low (f k))) = ((List.range n).map (lowT f (k + 1))).map (Value.int .u8) := by
    apply List.ext_getElem
    · simp
    · intro i h1 h2
      simp only [List.getElem_set, List.getElem_map, List.getElem_range]
      split
      · rename_i e; subst e; simp [lowT]
      · unfold lowT
        by_cases hi : i < k
        · rw [if_pos hi, if_pos (by omega)]
        · rw [if_neg hi, if_neg (by omega)]
  rw [← e1]
  exact hs.1
set_option maxHeartbeats 800000 in
theorem zzLower_any (A : Option Addr) (n c : Nat) (f : Nat → Int) (w : World) (h : RB w w.heap.size A n c f) (hn : n ≤ 100000) :
    Calls Tryz.prog 49 #[.slice A n c] w fun e w' => ∃ A' c', e = .returned (.slice A' n c') ∧ Hid (RB w' w'.heap.size A' n c' (fun j => low (f j))) ∧ Below w.heap.size w w' := by
  obtain ⟨i0, hi, hz0, hz1, hz2⟩ := info_parts Tryz.infoB
  have HR := Lib.hid h
  clear h
  go_enter Tryz.func49, Tryz.ntmps49
  go_wp2_with (at_make; refine wpList_make_full _ rfl _ _ 23 rfl w.heap.size 5 i0 (.int .u8 0) 1 Tryz.underlying23 hi hz0 hz1 _ _ _ _ n rfl rfl rfl rfl (by rw [hz2]; omega) (by unfold maxLen; omega) (Nat.le_refl _) ?_; intro w0 hown0 hg0)
  have hb0 := (Below.refl w.heap.size w).grown hg0 (Nat.le_refl _) (fun k hk => by cases hk)
  have hown1 : w0.ownsRow w.heap.size 5 1 (.slice (some ⟨w.heap.size, 0, none⟩) n n) n (((List.range n).map (lowT f 0)).map (Value.int .u8)) := by
    have e : ((List.range n).map (lowT f 0)).map (Value.int .u8) = (madeCells (Value.cells (.int .u8 0)) (n * 1)).toList := by
      have : Value.cells (.int .u8 0) = #[.int .u8 0] := rfl
      rw [this, toList_madeCells_one, Nat.mul_one]
      apply List.ext_getElem
      · simp
      · intro i h1 h2; simp [lowT]
    rw [e]; exact hown0
  clear hg0 hown0
  go_loopw [11] (fun i wr => ∃ (k : Nat), k ≤ n ∧ i = .int .i64 k ∧ Hid (wr.ownsRow w.heap.size 5 1 (.slice (some ⟨w.heap.size, 0, none⟩) n n) n (((List.range n).map (lowT f k)).map (Value.int .u8))) ∧ Below w.heap.size w wr)
    (fun i _ => n - (intOf i).toNat)
  case atStart => exact ⟨0, Nat.zero_le _, rfl, hown1, hb0⟩
  case round =>
    obtain ⟨k, hk, rfl, HO, hbl⟩ := hrel
    by_cases hlt : k < n
    · obtain ⟨b, off, rfl, hB, hc⟩ := (HR.out.below hbl).2.2.2 (by omega)
      have hck := hc k hlt
      have hrk := HR.out.rng k
      have hold : wr.cell? ⟨w.heap.size, k, none⟩ = some (.int .u8 0) := by
        rw [HO.out.cellAt k (by omega)]
        simp [hlt, lowT]
      have hfz := HO.out.frozenAt k
      clear hc
      go_wp2_with (go_at_call 81; refine (tolower_any _ _ hrk).mono ?_; rintro e w' ⟨rfl, rfl⟩)
      go_roundw
      case rel => exact ⟨k + 1, by omega, by go_num, Lib.hid (low_step HO.out hlt), hbl.setCell (Nat.le_refl _) _⟩
      case measure => simp [intOf]; omega
    · obtain rfl : k = n := by omega
      have hrb : RB wr wr.heap.size (some ⟨w.heap.size, 0, none⟩) k k (fun j => low (f j)) := by
        have hl : ((List.range k).map (lowT f k)).length = k := by simp
        have ho := HO.out
        have := RB.of_own (xs := (List.range k).map (lowT f k)) (by rw [hl]; exact ho) (by intro x hx; simp only [List.mem_map, List.mem_range] at hx; obtain ⟨j, hj, rfl⟩ := hx; unfold lowT; rw [if_pos hj]; exact low_rng2 (HR.out.rng j))
        rw [hl] at this
        exact this.same (fun j hj => by simp [hj, lowT]) (fun j => low_rng2 (HR.out.rng j))
      have HB := Lib.hid hrb
      clear hrb
      go_wp2
      go_ret
      exact ⟨_, _, rfl, HB, hbl⟩

/-- How a pointer to a whole block reads. -/
def ptrElem (v : Value) : Option (DataW Unit × List MemPlace) :=
  match v with
  | .pointer (some ⟨r, 0, none⟩) => some (.lit (.int .i64 r), [])
  | _ => none
/-- A parser: its extensions, its empty map of references. -/
def ParserX (w w' : World) (x : Int) (e : Ending) : Prop := ∃ (b mb : Nat), e = .returned (.pointer (some ⟨b, 0, none⟩)) ∧ w'.cell? ⟨b, 259, none⟩ = some (.int .i64 x) ∧ w'.cell? ⟨b, 2, none⟩ = some (.map (some mb)) ∧
  Hid (w'.ownsMap Tryz.prog 9 ptrElem mb 0 (.map [] : DataW Unit)) ∧ w.heap.size ≤ b ∧ w.heap.size ≤ mb
theorem made_at (W : World) (m : Nat) (h : W.heap.size = m) : (W.alloc (.map #[] 0)).ownsMap Tryz.prog 9 ptrElem m 0 (.map [] : DataW Unit) := h ▸ World.ownsMap_made W _ _ _
set_option maxHeartbeats 8000000 in
set_option maxRecDepth 1000000 in
theorem parser_x (x : Int) (w : World) (h0 : 0 ≤ x) (h1 : x ≤ 131070) :
    Calls Tryz.prog 22 #[.int .i64 x] w fun e w' => ParserX w w' x e ∧ Below w.heap.size w w' := by
  have hmf : ∀ (fn : Fn) (first cap : Array Value) (w : World), (Instr.makeFunc fn first cap).run Tryz.prog w = .ok (.func fn first cap) w := fun _ _ _ _ => rfl
  have hmk : ∀ (w : World), (Instr.makeSlice 69 (.int .i64 0) (.int .i64 0)).run Tryz.prog w = .ok (.slice (some ⟨w.heap.size, 0, none⟩) 0 0) (w.alloc (.cells #[] 73)) := fun _ => by kernel_rfl
  go_enter Tryz.func22, Tryz.ntmps22
  have hmm := @run_makeMap Tryz.prog
  have hsf := fun (a : Addr) (fn : Fn) (f c : Array Value) (m : Mode) (w : World) => run_store Tryz.prog w a (.func fn f c) m rfl
  go_wp2
  refine wp_loop_rounds 2 ?_
  rw [rounds_succ]; go_wp2
  rw [rounds_succ]; go_wp2
  all_goals
    go_ret
    refine ⟨⟨w.heap.size + 1 + 1, w.heap.size + 1 + 1 + 1, rfl, ?c1, ?c2, Lib.hid ?m, by omega, by omega⟩, ?b⟩
    case m => first
        | exact (made_at _ _ (by simp)).alloc _
        | exact ((made_at _ _ (by simp)).alloc _).alloc _
    case c1 =>
      simp [go_sem]
      done
    case c2 =>
      simp [go_sem]
      done
    case b => first
        | exact ((((((Below.refl _ _).alloc (by simp) _).alloc (by simp <;> omega) _).alloc (by simp <;> omega) _).alloc (by simp <;> omega) _).alloc (by simp <;> omega) _).alloc (by simp <;> omega) _
        | exact (((((Below.refl _ _).alloc (by simp) _).alloc (by simp <;> omega) _).alloc (by simp <;> omega) _).alloc (by simp <;> omega) _).alloc (by simp <;> omega) _
end Go.Proofs.YtaljhebalgipjaaGreatDoor
