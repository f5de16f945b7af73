/- Punctuation: a buffer's growth, with where its new row lies. -/
import Derived.Test.YtghmbpogniopoaaDoorQ3
import Derived.Test.YtghmbpogniopoaaDoorRH
import Derived.Shelf.Bytes.TryGrow
import Derived.Shelf.Bytes.GrowSlice
import Derived.Shelf.Bytes.Len
import Derived.Lib.ByteType
import Derived.Lib.BufferOwn
import Derived.Lib.BufferWrite
import Derived.Lib.BufferMore
import Derived.Lib.BufferGrow
import Derived.Lib.Walk
import Derived.Laws.MakeOwn
import Derived.Laws.IdiomCopy
import Derived.RegionTactic
import Derived.Deep.RegionWith
import Derived.Deep.Draws
import Derived.BigCall
import Derived.BigGuard
namespace Go.Proofs.YtghmbpogniopoaaDoor
open Go.RowKit Go.Shelf
set_option linter.unusedVariables false

/-- A grown buffer: its row is new. -/
def Grown (b : Nat) (w w' : World) (lr : Int) (l n : Nat) (old : List Value) : Prop := ∃ (g cap : Nat) (cur : Array Value), w'.heap[b]? = some (.cells #[.slice (some ⟨g, 0, none⟩) (l + n) cap, .int .i64 0, .int .i8 lr] 33 (0, 0)) ∧ w.heap.size ≤ g ∧ w'.heap[g]? = some (.cells cur 5 (0, 0)) ∧ l + n ≤ cap ∧ cap ≤ maxLen ∧ cur.size = cap ∧ cur.toList.take l = old ∧ w.grownBy w' (some b)
theorem grown_end {b N l n cap2 : Nat} {lr : Int} {w w2 : World} {v0 : Value} {cells : Array Value} {bs : List Value}
    (hbk2 : w2.heap[b]? = some (.cells #[v0, .int .i64 0, .int .i8 lr] 33 (0, 0))) (hN : w2.heap[N]? = some (.cells cells 5 (0, 0))) (hBN : w.heap.size ≤ N) (hNb : N ≠ b)
    (hcsz : cells.size = cap2) (htk : cells.toList.take l = bs) (hcap2 : l + n ≤ cap2) (hcm2 : cap2 ≤ maxLen) (hg : w.grownBy w2 (some b)) (v1 : Value) :
    Grown b w (((w2.setCell ⟨b, 0, none⟩ v1).setCell ⟨b, 1, none⟩ (.int .i64 0)).setCell ⟨b, 0, none⟩ (.slice (some ⟨N, 0, none⟩) (l + n) cap2)) lr l n bs := by
  have h1 := Lib.heap_setCell_same (i := 0) hbk2 v1
  have h2 := Lib.heap_setCell_same (i := 1) h1 (.int .i64 0)
  have h3 := Lib.heap_setCell_same (i := 0) h2 (.slice (some ⟨N, 0, none⟩) (l + n) cap2)
  refine ⟨N, cap2, cells, h3, hBN, ?_, hcap2, hcm2, hcsz, htk, Lib.grownBy_setB (Lib.grownBy_setB (Lib.grownBy_setB hg 0 _) 1 _) 0 _⟩
  rw [Below.heap_setCell _ _ _ _ hNb, Below.heap_setCell _ _ _ _ hNb, Below.heap_setCell _ _ _ _ hNb]
  exact hN
set_option maxHeartbeats 6400000 in
set_option maxRecDepth 100000 in
theorem growS (b n : Nat) (lr : Int) (w : World) (hbk : w.heap[b]? = some (.cells #[.slice none 0 0, .int .i64 0, .int .i8 lr] 33 (0, 0))) (hn : 1 ≤ n) (h64 : n ≤ 64) :
    Calls Tryd.prog 41 #[.pointer (some ⟨b, 0, none⟩), .int .i64 n] w fun e w' => e = .returned (.int .i64 0) ∧ Grown b w w' lr 0 n [] := by
  have L := Tryd.laysM180
  obtain ⟨i0, hi, hz0, hz1, hz2⟩ := info_parts L.i5
  obtain ⟨M, hM⟩ : ∃ M, M = madeCells (Value.int .u8 0).cells ((64 : Int).toNat * i0.size) := ⟨_, rfl⟩
  have hMs : M.size = 64 := by rw [hM, size_madeCells, hz1]; rfl
  have hmk : ∀ W : World, (Instr.makeSlice 22 (.int .i64 (n : Int)) (.int .i64 64)).run Tryd.prog W = .ok (.slice (some ⟨W.heap.size, 0, none⟩) n 64) (W.alloc (.cells M 5)) := fun W => by
    have h := run_makeSlice (P := Tryd.prog) W 22 5 i0 (.int .u8 0) L.t37 hi hz0 .i64 .i64 (n : Int) 64 (by omega) (by omega) (by rw [hz1]; decide) (by rw [hz2]; decide) (by decide)
    rw [← hM] at h
    simpa using h
  clear hM
  have hIs : Lib.IsBuffer 33 5 b b [] w := ⟨Nat.le_refl _, _, _, hbk, World.ownsRow_nil _ _ _ _, by simp [Value.ownBlock]⟩
  have hnil : ∀ W, (binOp .eql 22 (.slice none 0 0) (.slice none 0 0)).run Tryd.prog W = .ok (.bool true) W := fun W => Lib.run_eql_slice_nil_nil W _ _ L.t37
  go_enter Tryd.func41, Tryd.ntmps41
  go_wp2_with fail
  refine (Any.Buffer_Len { L with } b b [] _ hIs).mono ?_
  rintro e W0 ⟨rfl, k, hW0⟩
  have hbk0 : W0.heap[b]? = some (.cells #[.slice none 0 0, .int .i64 0, .int .i8 lr] 33 (0, 0)) := by rw [hW0]; exact hbk
  have c0 : W0.cell? ⟨b, 0, none⟩ = some (.slice none 0 0) := by rw [Lib.cell_of_heap hbk0]; rfl
  have c1 : W0.cell? ⟨b, 1, none⟩ = some (.int .i64 0) := by rw [Lib.cell_of_heap hbk0]; rfl
  have f0 : W0.frozen? ⟨b, 0, none⟩ = false := Lib.frozen_of_heap hbk0 0
  have f1 : W0.frozen? ⟨b, 1, none⟩ = false := Lib.frozen_of_heap hbk0 1
  have hbW0 := Lib.lt_of_heap hbk0
  have c0a : ∀ o, (W0.alloc o).cell? ⟨b, 0, none⟩ = some (.slice none 0 0) := fun o => (World.cell?_of_block (a := ⟨b, 0, none⟩) (Below.heap_alloc W0 o b hbW0)).trans c0
  have f0a : ∀ o, (W0.alloc o).frozen? ⟨b, 0, none⟩ = false := fun o => (World.frozen?_of_block (a := ⟨b, 0, none⟩) (Below.heap_alloc W0 o b hbW0)).trans f0
  have HW0 := Lib.hid hW0
  clear hW0 hIs
  go_wp2_with fail
  refine (Any.Buffer_tryGrow_none { L with } b _ 0 0 n _ c0 (Nat.le_refl _) (Nat.zero_le _) (by omega)).mono ?_
  rintro e w' ⟨rfl, rfl⟩
  go_wp2_with fail
  go_ret
  have hg0 : w.grownBy w' (some b) := by rw [HW0.out]; exact ⟨rfl, rfl, rfl, Nat.le_refl _, fun _ _ _ => rfl⟩
  have hb2 : (w'.setCell ⟨b, 0, none⟩ (.slice (some ⟨w'.heap.size, 0, none⟩) n 64)).heap[b]? = some (.cells #[.slice (some ⟨w'.heap.size, 0, none⟩) n 64, .int .i64 0, .int .i8 lr] 33 (0, 0)) := Lib.heap_setCell_same (i := 0) hbk0 _
  have hsz : (w'.setCell ⟨b, 0, none⟩ (.slice (some ⟨w'.heap.size, 0, none⟩) n 64)).heap.size = w'.heap.size := by simp [World.setCell]
  refine ⟨rfl, w'.heap.size, 64, M, ?_, hg0.size, ?_, by omega, by unfold maxLen; omega, hMs, by simp, Lib.grownBy_allocR (Lib.grownBy_setB hg0 0 _) _⟩
  · rw [Below.heap_alloc _ _ b (by omega), Nat.zero_add]; exact hb2
  · have h := heap_alloc_new (w'.setCell ⟨b, 0, none⟩ (.slice (some ⟨w'.heap.size, 0, none⟩) n 64)) (.cells M 5)
    rw [hsz] at h; exact h
set_option maxHeartbeats 12800000 in
set_option maxRecDepth 100000 in
theorem growB (b n : Nat) (lr : Int) (w : World) (hbk : w.heap[b]? = some (.cells #[.slice none 0 0, .int .i64 0, .int .i8 lr] 33 (0, 0))) (h64 : 64 < n) (hlim : n ≤ 140737488355328) :
    Calls Tryd.prog 41 #[.pointer (some ⟨b, 0, none⟩), .int .i64 n] w fun e w' => e = .returned (.int .i64 0) ∧ Grown b w w' lr 0 n [] := by
  have L := Tryd.laysM180
  have hn : 1 ≤ n := by omega
  have hIs : Lib.IsBuffer 33 5 b b [] w := ⟨Nat.le_refl _, _, _, hbk, World.ownsRow_nil _ _ _ _, by simp [Value.ownBlock]⟩
  have hnil : ∀ W, (binOp .eql 22 (.slice none 0 0) (.slice none 0 0)).run Tryd.prog W = .ok (.bool true) W := fun W => Lib.run_eql_slice_nil_nil W _ _ L.t37
  go_enter Tryd.func41, Tryd.ntmps41
  go_wp2_with fail
  refine (Any.Buffer_Len { L with } b b [] _ hIs).mono ?_
  rintro e W0 ⟨rfl, k, hW0⟩
  have hbk0 : W0.heap[b]? = some (.cells #[.slice none 0 0, .int .i64 0, .int .i8 lr] 33 (0, 0)) := by rw [hW0]; exact hbk
  have c0 : W0.cell? ⟨b, 0, none⟩ = some (.slice none 0 0) := by rw [Lib.cell_of_heap hbk0]; rfl
  have c1 : W0.cell? ⟨b, 1, none⟩ = some (.int .i64 0) := by rw [Lib.cell_of_heap hbk0]; rfl
  have f0 : W0.frozen? ⟨b, 0, none⟩ = false := Lib.frozen_of_heap hbk0 0
  have f1 : W0.frozen? ⟨b, 1, none⟩ = false := Lib.frozen_of_heap hbk0 1
  have HW0 := Lib.hid hW0
  clear hW0 hIs
  go_wp2_with fail
  refine (Any.Buffer_tryGrow_none { L with } b _ 0 0 n _ c0 (Nat.le_refl _) (Nat.zero_le _) (by omega)).mono ?_
  rintro e w' ⟨rfl, rfl⟩
  have hbW := Lib.lt_of_heap hbk0
  have mixed := L.mixed
  have hwn : IntKind.i64.wrap (n : Int) = n := by rw [IntKind.wrap_i64]; omega
  go_wp2_with fail
  refine wp_region_heads (a' := ?Af) (S := fun W => W.cell? ⟨b, 0, none⟩ = some (.slice none 0 0) ∧ W.cell? ⟨b, 1, none⟩ = some (.int .i64 0)) (late := fun j => decide (19 ≤ j)) [(0, false), (1, false), (2, false), (3, false), (4, true), (5, false), (6, false), (7, false), (8, true), (9, false), (10, false), (11, false), (12, false), (13, true), (14, false), (15, false)] 4 mixed (fun _ _ _ _ h => h) (by kernel_rfl) ⟨c0, c1⟩ ?hh ?tl
  case hh =>
    refine Heads.cons _ _ _ _ ?_ _ _ (at_zero) (Or.inl ⟨by rfl, ?_⟩) ?_
    rotate_left 1
    · intro w _
      go_simp
      try with_reducible rfl
    simp only [Act.put, List.setIfInBounds_toArray, List.set_cons_zero, List.set_cons_succ]
    refine Heads.cons _ _ _ _ ?_ _ _ (at_succ at_zero) (Or.inl ⟨by rfl, ?_⟩) ?_
    rotate_left 1
    · intro w _
      go_simp
      try with_reducible rfl
    simp only [Act.put, List.setIfInBounds_toArray, List.set_cons_zero, List.set_cons_succ]
    refine Heads.cons _ _ _ _ ?_ _ _ (at_succ (at_succ at_zero)) (Or.inl ⟨by rfl, ?_⟩) ?_
    rotate_left 1
    · intro w _
      go_simp
      try with_reducible rfl
    simp only [Act.put, List.setIfInBounds_toArray, List.set_cons_zero, List.set_cons_succ]
    refine Heads.cons _ _ _ _ ?_ _ _ (at_succ (at_succ (at_succ at_zero))) (Or.inl ⟨by rfl, ?_⟩) ?_
    rotate_left 1
    · intro w _
      go_simp
      try with_reducible rfl
    simp only [Act.put, List.setIfInBounds_toArray, List.set_cons_zero, List.set_cons_succ]
    refine Heads.cons _ _ _ _ ?_ _ _ (at_succ (at_succ (at_succ (at_succ at_zero)))) (Or.inl ⟨by rfl, ?_⟩) ?_
    rotate_left 1
    · intro w hS; obtain ⟨hS0, hS1⟩ := hS rfl
      go_simp
      try with_reducible rfl
    simp only [Act.put, List.setIfInBounds_toArray, List.set_cons_zero, List.set_cons_succ]
    refine Heads.cons _ _ _ _ ?_ _ _ (at_succ (at_succ (at_succ (at_succ (at_succ at_zero))))) (Or.inl ⟨by rfl, ?_⟩) ?_
    rotate_left 1
    · intro w _
      go_simp
      try with_reducible rfl
    simp only [Act.put, List.setIfInBounds_toArray, List.set_cons_zero, List.set_cons_succ]
    refine Heads.cons _ _ _ _ ?_ _ _ (at_succ (at_succ (at_succ (at_succ (at_succ (at_succ at_zero)))))) (Or.inl ⟨by rfl, ?_⟩) ?_
    rotate_left 1
    · intro w _
      go_simp
      try with_reducible rfl
    simp only [Act.put, List.setIfInBounds_toArray, List.set_cons_zero, List.set_cons_succ]
    refine Heads.cons _ _ _ _ ?_ _ _ (at_succ (at_succ (at_succ (at_succ (at_succ (at_succ (at_succ at_zero))))))) (Or.inl ⟨by rfl, ?_⟩) ?_
    rotate_left 1
    · intro w _
      go_simp
      try with_reducible rfl
    simp only [Act.put, List.setIfInBounds_toArray, List.set_cons_zero, List.set_cons_succ]
    refine Heads.cons _ _ _ _ ?_ _ _ (at_succ (at_succ (at_succ (at_succ (at_succ (at_succ (at_succ (at_succ at_zero)))))))) (Or.inl ⟨by rfl, ?_⟩) ?_
    rotate_left 1
    · intro w hS; obtain ⟨hS0, hS1⟩ := hS rfl
      go_simp
      try with_reducible rfl
    simp only [Act.put, List.setIfInBounds_toArray, List.set_cons_zero, List.set_cons_succ]
    refine Heads.cons _ _ _ _ ?_ _ _ (at_succ (at_succ (at_succ (at_succ (at_succ (at_succ (at_succ (at_succ (at_succ at_zero))))))))) (Or.inl ⟨by rfl, ?_⟩) ?_
    rotate_left 1
    · intro w _
      go_simp
      try with_reducible rfl
    simp only [Act.put, List.setIfInBounds_toArray, List.set_cons_zero, List.set_cons_succ]
    refine Heads.cons _ _ _ _ ?_ _ _ (at_succ (at_succ (at_succ (at_succ (at_succ (at_succ (at_succ (at_succ (at_succ (at_succ at_zero)))))))))) (Or.inl ⟨by rfl, ?_⟩) ?_
    rotate_left 1
    · intro w _
      go_simp
      try with_reducible rfl
    simp only [Act.put, List.setIfInBounds_toArray, List.set_cons_zero, List.set_cons_succ]
    refine Heads.cons _ _ _ _ ?_ _ _ (at_succ (at_succ (at_succ (at_succ (at_succ (at_succ (at_succ (at_succ (at_succ (at_succ (at_succ at_zero))))))))))) (Or.inl ⟨by rfl, ?_⟩) ?_
    rotate_left 1
    · intro w _
      go_simp
      try with_reducible rfl
    simp only [Act.put, List.setIfInBounds_toArray, List.set_cons_zero, List.set_cons_succ]
    refine Heads.cons _ _ _ _ ?_ _ _ (at_succ (at_succ (at_succ (at_succ (at_succ (at_succ (at_succ (at_succ (at_succ (at_succ (at_succ (at_succ at_zero)))))))))))) (Or.inl ⟨by rfl, ?_⟩) ?_
    rotate_left 1
    · intro w _
      go_simp
      try with_reducible rfl
    simp only [Act.put, List.setIfInBounds_toArray, List.set_cons_zero, List.set_cons_succ]
    refine Heads.cons _ _ _ _ ?_ _ _ (at_succ (at_succ (at_succ (at_succ (at_succ (at_succ (at_succ (at_succ (at_succ (at_succ (at_succ (at_succ (at_succ at_zero))))))))))))) (Or.inl ⟨by rfl, ?_⟩) ?_
    rotate_left 1
    · intro w hS; obtain ⟨hS0, hS1⟩ := hS rfl
      go_simp
      try with_reducible rfl
    simp only [Act.put, List.setIfInBounds_toArray, List.set_cons_zero, List.set_cons_succ]
    refine Heads.cons _ _ _ _ ?_ _ _ (at_succ (at_succ (at_succ (at_succ (at_succ (at_succ (at_succ (at_succ (at_succ (at_succ (at_succ (at_succ (at_succ (at_succ at_zero)))))))))))))) (Or.inl ⟨by rfl, ?_⟩) ?_
    rotate_left 1
    · intro w _
      go_simp
      try with_reducible rfl
    simp only [Act.put, List.setIfInBounds_toArray, List.set_cons_zero, List.set_cons_succ]
    refine Heads.cons _ _ _ _ ?_ _ _ (at_succ (at_succ (at_succ (at_succ (at_succ (at_succ (at_succ (at_succ (at_succ (at_succ (at_succ (at_succ (at_succ (at_succ (at_succ at_zero))))))))))))))) (Or.inl ⟨by rfl, ?_⟩) ?_
    rotate_left 1
    · intro w _
      go_simp
      try with_reducible rfl
    simp only [Act.put, List.setIfInBounds_toArray, List.set_cons_zero, List.set_cons_succ]
    exact Heads.nil _
  case tl =>
    refine wpE_one (i := 16) (by kernel_rfl) (at_succ (at_succ (at_succ (at_succ (at_succ (at_succ (at_succ (at_succ (at_succ (at_succ (at_succ (at_succ (at_succ (at_succ (at_succ (at_succ at_zero)))))))))))))))) (by rfl) (fun K hK => ?_)
    go_simp
    refine (Any.bytes_growSlice_nil { L with } n _ hn hlim).mono ?_
    rintro e w2 ⟨cap2, cells, rfl, hN, hcsz, hcap2, hcm2, hbel⟩
    have hbk2 : w2.heap[b]? = some (.cells #[.slice none 0 0, .int .i64 0, .int .i8 lr] 33 (0, 0)) := (hbel.block b hbW).trans hbk0
    have d0 : w2.cell? ⟨b, 0, none⟩ = some (.slice none 0 0) := by rw [Lib.cell_of_heap hbk2]; rfl
    have d1 : w2.cell? ⟨b, 1, none⟩ = some (.int .i64 0) := by rw [Lib.cell_of_heap hbk2]; rfl
    have e0 : w2.frozen? ⟨b, 0, none⟩ = false := Lib.frozen_of_heap hbk2 0
    have e1 : w2.frozen? ⟨b, 1, none⟩ = false := Lib.frozen_of_heap hbk2 1
    refine hK _ _ ⟨d0, d1⟩ ?_
    clear hK K
    refine wpE_one (i := 17) (by kernel_rfl) (at_succ (at_succ (at_succ (at_succ (at_succ (at_succ (at_succ (at_succ (at_succ (at_succ (at_succ (at_succ (at_succ (at_succ (at_succ (at_succ (at_succ at_zero))))))))))))))))) (by rfl) (fun K hK => ?_)
    go_simp
    refine hK _ _ ⟨d0, d1⟩ ?_
    clear hK K
    refine wpE_one (i := 18) (by kernel_rfl) (at_succ (at_succ (at_succ (at_succ (at_succ (at_succ (at_succ (at_succ (at_succ (at_succ (at_succ (at_succ (at_succ (at_succ (at_succ (at_succ (at_succ (at_succ at_zero)))))))))))))))))) (by rfl) (fun K hK => ?_)
    go_simp
    refine hK _ _ ⟨d0, d1⟩ ?_
    clear hK K
    refine wpE_drop (k := 19) rfl (by kernel_rfl) ?_
    simp only [List.drop_succ_cons, List.drop_zero]
    go_wp2
    go_ret
    have hg0 : w.grownBy w'.drew (some b) := by rw [HW0.out]; exact ⟨rfl, rfl, rfl, Nat.le_refl _, fun _ _ _ => rfl⟩
    have hg2 : w.grownBy w2 (some b) := Lib.grownBy_below hg0 hbel
    have hend := grown_end (l := 0) (n := n) (bs := []) hbk2 hN (show w.heap.size ≤ w'.heap.size from hg0.size) (by have : b < w'.heap.size := hbW; show w'.heap.size ≠ b; omega) hcsz (by simp) (by rw [Nat.zero_add]; exact hcap2) hcm2 hg2 (.slice (some ⟨w'.heap.size, 0, none⟩) 0 cap2)
    rw [Nat.zero_add] at hend
    exact ⟨rfl, hend⟩
set_option maxHeartbeats 12800000 in
set_option maxRecDepth 100000 in
theorem growR (b g l cap n : Nat) (lr : Int) (cur : Array Value) (bs : List Value) (w : World) (hbk : w.heap[b]? = some (.cells #[.slice (some ⟨g, 0, none⟩) l cap, .int .i64 0, .int .i8 lr] 33 (0, 0)))
    (hl : bs.length = l) (hl0 : 1 ≤ l) (hg : w.heap[g]? = some (.cells cur 5 (0, 0))) (hlc : l ≤ cap) (hcm : cap ≤ maxLen) (hcs : cur.size = cap) (htake : cur.toList.take l = bs) (hgb : b ≤ g) (hne : g ≠ b)
    (h1 : ∀ v ∈ bs, v.oneCell' = true) (hn : 1 ≤ n) (hroom : cap - l < n) (hlim : l + n ≤ 140737488355328) :
    Calls Tryd.prog 41 #[.pointer (some ⟨b, 0, none⟩), .int .i64 n] w fun e w' => e = .returned (.int .i64 l) ∧ Grown b w w' lr l n bs := by
  have L := Tryd.laysM180
  have hIs : Lib.IsBuffer 33 5 b b bs w := ⟨Nat.le_refl _, _, _, hbk, ⟨by rw [hl, Nat.mul_one], .inr ⟨g, cap, cur, by rw [hl], hgb, hg, by omega, hcm, by omega, by rw [hl, Nat.mul_one]; exact htake⟩⟩, by simp [Value.ownBlock]; exact hne⟩
  have hnil : ∀ W, (binOp .eql 22 (.slice (some ⟨g, 0, none⟩) l cap) (.slice none 0 0)).run Tryd.prog W = .ok (.bool false) W := fun W => Lib.run_eql_slice_some_nil W _ _ _ L.t37
  go_enter Tryd.func41, Tryd.ntmps41
  go_wp2_with fail
  refine (Any.Buffer_Len { L with } b b bs _ hIs).mono ?_
  rintro e W0 ⟨rfl, k, hW0⟩
  rw [hl]
  have hbk0 : W0.heap[b]? = some (.cells #[.slice (some ⟨g, 0, none⟩) l cap, .int .i64 0, .int .i8 lr] 33 (0, 0)) := by rw [hW0]; exact hbk
  have hg0 : W0.heap[g]? = some (.cells cur 5 (0, 0)) := by rw [hW0]; exact hg
  have c0 : W0.cell? ⟨b, 0, none⟩ = some (.slice (some ⟨g, 0, none⟩) l cap) := by rw [Lib.cell_of_heap hbk0]; rfl
  have c1 : W0.cell? ⟨b, 1, none⟩ = some (.int .i64 0) := by rw [Lib.cell_of_heap hbk0]; rfl
  have f0 : W0.frozen? ⟨b, 0, none⟩ = false := Lib.frozen_of_heap hbk0 0
  have f1 : W0.frozen? ⟨b, 1, none⟩ = false := Lib.frozen_of_heap hbk0 1
  have HW0 := Lib.hid hW0
  clear hW0 hIs
  have hcm' := hcm
  unfold maxLen at hcm'
  go_wp2_with fail
  refine (Any.Buffer_tryGrow_none { L with } b _ l cap n _ c0 hlc hcm hroom).mono ?_
  rintro e w' ⟨rfl, rfl⟩
  have hc2 : cap ≤ 140737488355328 := by omega
  have h1' : ∀ v ∈ cur.toList.take l, v.oneCell' = true := by rw [htake]; exact h1
  have hbW := Lib.lt_of_heap hbk0
  have mixed := L.mixed
  have hwn : IntKind.i64.wrap (n : Int) = n := by rw [IntKind.wrap_i64]; omega
  go_wp2_with fail
  refine wp_region_heads (a' := ?Af) (S := fun W => W.cell? ⟨b, 0, none⟩ = some (.slice (some ⟨g, 0, none⟩) l cap) ∧ W.cell? ⟨b, 1, none⟩ = some (.int .i64 0)) (late := fun j => decide (19 ≤ j)) [(0, false), (1, false), (2, false), (3, false), (4, true), (5, false), (6, false), (7, false), (8, true), (9, false), (10, false), (11, false), (12, false), (13, true), (14, false), (15, false)] 4 mixed (fun _ _ _ _ h => h) (by kernel_rfl) ⟨c0, c1⟩ ?hh ?tl
  case hh =>
    refine Heads.cons _ _ _ _ ?_ _ _ (at_zero) (Or.inl ⟨by rfl, ?_⟩) ?_
    rotate_left 1
    · intro w _
      go_simp
      try with_reducible rfl
    simp only [Act.put, List.setIfInBounds_toArray, List.set_cons_zero, List.set_cons_succ]
    refine Heads.cons _ _ _ _ ?_ _ _ (at_succ at_zero) (Or.inl ⟨by rfl, ?_⟩) ?_
    rotate_left 1
    · intro w _
      go_simp
      try with_reducible rfl
    simp only [Act.put, List.setIfInBounds_toArray, List.set_cons_zero, List.set_cons_succ]
    refine Heads.cons _ _ _ _ ?_ _ _ (at_succ (at_succ at_zero)) (Or.inl ⟨by rfl, ?_⟩) ?_
    rotate_left 1
    · intro w _
      go_simp
      try with_reducible rfl
    simp only [Act.put, List.setIfInBounds_toArray, List.set_cons_zero, List.set_cons_succ]
    refine Heads.cons _ _ _ _ ?_ _ _ (at_succ (at_succ (at_succ at_zero))) (Or.inl ⟨by rfl, ?_⟩) ?_
    rotate_left 1
    · intro w _
      go_simp
      try with_reducible rfl
    simp only [Act.put, List.setIfInBounds_toArray, List.set_cons_zero, List.set_cons_succ]
    refine Heads.cons _ _ _ _ ?_ _ _ (at_succ (at_succ (at_succ (at_succ at_zero)))) (Or.inl ⟨by rfl, ?_⟩) ?_
    rotate_left 1
    · intro w hS; obtain ⟨hS0, hS1⟩ := hS rfl
      go_simp
      try with_reducible rfl
    simp only [Act.put, List.setIfInBounds_toArray, List.set_cons_zero, List.set_cons_succ]
    refine Heads.cons _ _ _ _ ?_ _ _ (at_succ (at_succ (at_succ (at_succ (at_succ at_zero))))) (Or.inl ⟨by rfl, ?_⟩) ?_
    rotate_left 1
    · intro w _
      go_simp
      try with_reducible rfl
    simp only [Act.put, List.setIfInBounds_toArray, List.set_cons_zero, List.set_cons_succ]
    refine Heads.cons _ _ _ _ ?_ _ _ (at_succ (at_succ (at_succ (at_succ (at_succ (at_succ at_zero)))))) (Or.inl ⟨by rfl, ?_⟩) ?_
    rotate_left 1
    · intro w _
      go_simp
      try with_reducible rfl
    simp only [Act.put, List.setIfInBounds_toArray, List.set_cons_zero, List.set_cons_succ]
    refine Heads.cons _ _ _ _ ?_ _ _ (at_succ (at_succ (at_succ (at_succ (at_succ (at_succ (at_succ at_zero))))))) (Or.inl ⟨by rfl, ?_⟩) ?_
    rotate_left 1
    · intro w _
      go_simp
      try with_reducible rfl
    simp only [Act.put, List.setIfInBounds_toArray, List.set_cons_zero, List.set_cons_succ]
    refine Heads.cons _ _ _ _ ?_ _ _ (at_succ (at_succ (at_succ (at_succ (at_succ (at_succ (at_succ (at_succ at_zero)))))))) (Or.inl ⟨by rfl, ?_⟩) ?_
    rotate_left 1
    · intro w hS; obtain ⟨hS0, hS1⟩ := hS rfl
      go_simp
      try with_reducible rfl
    simp only [Act.put, List.setIfInBounds_toArray, List.set_cons_zero, List.set_cons_succ]
    refine Heads.cons _ _ _ _ ?_ _ _ (at_succ (at_succ (at_succ (at_succ (at_succ (at_succ (at_succ (at_succ (at_succ at_zero))))))))) (Or.inl ⟨by rfl, ?_⟩) ?_
    rotate_left 1
    · intro w _
      go_simp
      try with_reducible rfl
    simp only [Act.put, List.setIfInBounds_toArray, List.set_cons_zero, List.set_cons_succ]
    refine Heads.cons _ _ _ _ ?_ _ _ (at_succ (at_succ (at_succ (at_succ (at_succ (at_succ (at_succ (at_succ (at_succ (at_succ at_zero)))))))))) (Or.inl ⟨by rfl, ?_⟩) ?_
    rotate_left 1
    · intro w _
      go_simp
      try with_reducible rfl
    simp only [Act.put, List.setIfInBounds_toArray, List.set_cons_zero, List.set_cons_succ]
    refine Heads.cons _ _ _ _ ?_ _ _ (at_succ (at_succ (at_succ (at_succ (at_succ (at_succ (at_succ (at_succ (at_succ (at_succ (at_succ at_zero))))))))))) (Or.inl ⟨by rfl, ?_⟩) ?_
    rotate_left 1
    · intro w _
      go_simp
      try with_reducible rfl
    simp only [Act.put, List.setIfInBounds_toArray, List.set_cons_zero, List.set_cons_succ]
    refine Heads.cons _ _ _ _ ?_ _ _ (at_succ (at_succ (at_succ (at_succ (at_succ (at_succ (at_succ (at_succ (at_succ (at_succ (at_succ (at_succ at_zero)))))))))))) (Or.inl ⟨by rfl, ?_⟩) ?_
    rotate_left 1
    · intro w _
      go_simp
      try with_reducible rfl
    simp only [Act.put, List.setIfInBounds_toArray, List.set_cons_zero, List.set_cons_succ]
    refine Heads.cons _ _ _ _ ?_ _ _ (at_succ (at_succ (at_succ (at_succ (at_succ (at_succ (at_succ (at_succ (at_succ (at_succ (at_succ (at_succ (at_succ at_zero))))))))))))) (Or.inl ⟨by rfl, ?_⟩) ?_
    rotate_left 1
    · intro w hS; obtain ⟨hS0, hS1⟩ := hS rfl
      go_simp
      try with_reducible rfl
    simp only [Act.put, List.setIfInBounds_toArray, List.set_cons_zero, List.set_cons_succ]
    refine Heads.cons _ _ _ _ ?_ _ _ (at_succ (at_succ (at_succ (at_succ (at_succ (at_succ (at_succ (at_succ (at_succ (at_succ (at_succ (at_succ (at_succ (at_succ at_zero)))))))))))))) (Or.inl ⟨by rfl, ?_⟩) ?_
    rotate_left 1
    · intro w _
      go_simp
      try with_reducible rfl
    simp only [Act.put, List.setIfInBounds_toArray, List.set_cons_zero, List.set_cons_succ]
    refine Heads.cons _ _ _ _ ?_ _ _ (at_succ (at_succ (at_succ (at_succ (at_succ (at_succ (at_succ (at_succ (at_succ (at_succ (at_succ (at_succ (at_succ (at_succ (at_succ at_zero))))))))))))))) (Or.inl ⟨by rfl, ?_⟩) ?_
    rotate_left 1
    · intro w _
      go_simp
      try with_reducible rfl
    simp only [Act.put, List.setIfInBounds_toArray, List.set_cons_zero, List.set_cons_succ]
    exact Heads.nil _
  case tl =>
    refine wpE_one (i := 16) (by kernel_rfl) (at_succ (at_succ (at_succ (at_succ (at_succ (at_succ (at_succ (at_succ (at_succ (at_succ (at_succ (at_succ (at_succ (at_succ (at_succ (at_succ at_zero)))))))))))))))) (by rfl) (fun K hK => ?_)
    go_simp
    refine (Any.bytes_growSlice_row { L with } g l cap n cur _ (show w'.drew.heap[g]? = _ from hg0) hcs hlc hn hlim hc2 h1').mono ?_
    rintro e w2 ⟨cap2, cells, rfl, hN, hcsz, htk, hcap2, hcm2, hbel⟩
    have hbk2 : w2.heap[b]? = some (.cells #[.slice (some ⟨g, 0, none⟩) l cap, .int .i64 0, .int .i8 lr] 33 (0, 0)) := (hbel.block b hbW).trans hbk0
    have d0 : w2.cell? ⟨b, 0, none⟩ = some (.slice (some ⟨g, 0, none⟩) l cap) := by rw [Lib.cell_of_heap hbk2]; rfl
    have d1 : w2.cell? ⟨b, 1, none⟩ = some (.int .i64 0) := by rw [Lib.cell_of_heap hbk2]; rfl
    have e0 : w2.frozen? ⟨b, 0, none⟩ = false := Lib.frozen_of_heap hbk2 0
    have e1 : w2.frozen? ⟨b, 1, none⟩ = false := Lib.frozen_of_heap hbk2 1
    refine hK _ _ ⟨d0, d1⟩ ?_
    clear hK K
    refine wpE_one (i := 17) (by kernel_rfl) (at_succ (at_succ (at_succ (at_succ (at_succ (at_succ (at_succ (at_succ (at_succ (at_succ (at_succ (at_succ (at_succ (at_succ (at_succ (at_succ (at_succ at_zero))))))))))))))))) (by rfl) (fun K hK => ?_)
    go_simp
    refine hK _ _ ⟨d0, d1⟩ ?_
    clear hK K
    refine wpE_one (i := 18) (by kernel_rfl) (at_succ (at_succ (at_succ (at_succ (at_succ (at_succ (at_succ (at_succ (at_succ (at_succ (at_succ (at_succ (at_succ (at_succ (at_succ (at_succ (at_succ (at_succ at_zero)))))))))))))))))) (by rfl) (fun K hK => ?_)
    go_simp
    refine hK _ _ ⟨d0, d1⟩ ?_
    clear hK K
    refine wpE_drop (k := 19) rfl (by kernel_rfl) ?_
    simp only [List.drop_succ_cons, List.drop_zero]
    go_wp2
    go_ret
    have hg1 : w.grownBy w'.drew (some b) := by rw [HW0.out]; exact ⟨rfl, rfl, rfl, Nat.le_refl _, fun _ _ _ => rfl⟩
    have hg2 : w.grownBy w2 (some b) := Lib.grownBy_below hg1 hbel
    exact ⟨rfl, grown_end hbk2 hN (show w.heap.size ≤ w'.heap.size from hg1.size) (by have : b < w'.heap.size := hbW; show w'.heap.size ≠ b; omega) hcsz (htk.trans htake) hcap2 hcm2 hg2 _⟩
end Go.Proofs.YtghmbpogniopoaaDoor
