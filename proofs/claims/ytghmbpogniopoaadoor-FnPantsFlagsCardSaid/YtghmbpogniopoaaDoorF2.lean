/- Punctuation: Write, to a buffer whose row lies behind a place. -/
import Derived.Test.YtghmbpogniopoaaDoorF1
namespace Go.Proofs.YtghmbpogniopoaaDoor
open Go.RowKit Go.Shelf
set_option linter.unusedVariables false

/-- The buffer at b: its row, if it has one, lies from K on, ahead of M. -/
def OutB (K M b : Nat) (bs : List Value) (w : World) : Prop :=
  ∃ lr : Int, (bs = [] ∧ w.heap[b]? = some (.cells #[.slice none 0 0, .int .i64 0, .int .i8 lr] 33 (0, 0))) ∨
    ∃ (g cap : Nat) (cur : Array Value), bs ≠ [] ∧ w.heap[b]? = some (.cells #[.slice (some ⟨g, 0, none⟩) bs.length cap, .int .i64 0, .int .i8 lr] 33 (0, 0)) ∧ K ≤ g ∧ g < M ∧ w.heap[g]? = some (.cells cur 5 (0, 0)) ∧ bs.length ≤ cap ∧ cap ≤ maxLen ∧ cur.size = cap ∧ cur.toList.take bs.length = bs
/-- The blocks ahead of K stay, but for b. -/
structure KeptB (K b : Nat) (w w' : World) : Prop where
  os : w'.os = w.os
  tape : w'.tape = w.tape
  output : w'.output = w.output
  size : w.heap.size ≤ w'.heap.size
  block : ∀ k, k < K → k ≠ b → w'.heap[k]? = w.heap[k]?
theorem KeptB.refl (K b : Nat) (w : World) : KeptB K b w w := ⟨rfl, rfl, rfl, Nat.le_refl _, fun _ _ _ => rfl⟩
theorem KeptB.trans {K b : Nat} {u v w : World} (h : KeptB K b u v) (g : KeptB K b v w) : KeptB K b u w :=
  ⟨g.os.trans h.os, g.tape.trans h.tape, g.output.trans h.output, Nat.le_trans h.size g.size, fun k hk hb => (g.block k hk hb).trans (h.block k hk hb)⟩
theorem KeptB.grown {K b : Nat} {w w' : World} (h : w.grownBy w' (some b)) (hK : K ≤ w.heap.size) : KeptB K b w w' :=
  ⟨h.os, h.tape, h.output, h.size, fun k hk hb => h.block k (by omega) (fun e => hb (Option.some.inj e))⟩
theorem KeptB.setRow {K b g : Nat} {w w' : World} (h : KeptB K b w w') (hg : K ≤ g) (cs : Array Value) : KeptB K b w (w'.setRow g cs) :=
  h.trans ⟨rfl, rfl, rfl, by simp [World.setRow], fun k hk _ => setRow_other _ _ _ _ (by omega)⟩
/-- What a write leaves: the row, and the copy into it. -/
theorem out_written {K M b g l n cap : Nat} {lr : Int} {cur : Array Value} {bs cs : List Value} {w w1 : World} (hk : KeptB K b w w1) (hbk : w1.heap[b]? = some (.cells #[.slice (some ⟨g, 0, none⟩) (l + n) cap, .int .i64 0, .int .i8 lr] 33 (0, 0)))
    (hl : bs.length = l) (hn : cs.length = n) (h0 : 1 ≤ n) (hKg : K ≤ g) (hbK : b < K) (hg : w1.heap[g]? = some (.cells cur 5 (0, 0))) (hc : l + n ≤ cap) (hcm : cap ≤ maxLen) (hcs : cur.size = cap) (htk : cur.toList.take l = bs) :
    OutB K (w1.setRow g (cur.toList.take l ++ cs ++ cur.toList.drop (l + n)).toArray).heap.size b (bs ++ cs) (w1.setRow g (cur.toList.take l ++ cs ++ cur.toList.drop (l + n)).toArray) ∧ KeptB K b w (w1.setRow g (cur.toList.take l ++ cs ++ cur.toList.drop (l + n)).toArray) := by
  have hgl : g < w1.heap.size := Lib.lt_of_heap hg
  refine ⟨⟨lr, .inr ⟨g, cap, (cur.toList.take l ++ cs ++ cur.toList.drop (l + n)).toArray, ?_, ?_, hKg, by simpa [World.setRow] using hgl, setRow_heap w1 g cur _ _ _ hg, ?_, hcm, ?_, ?_⟩⟩, hk.setRow hKg _⟩
  · intro e
    have := congrArg List.length e
    rw [List.length_append, hn, List.length_nil] at this
    omega
  · rw [setRow_other _ _ _ _ (by omega), List.length_append, hl, hn]; exact hbk
  · rw [List.length_append, hl, hn]; exact hc
  · simp only [List.size_toArray, List.length_append, List.length_drop, Array.length_toList, htk, hl, hn]; omega
  · rw [List.length_append, hl, hn, htk, List.toList_toArray, List.take_append_of_le_length (by rw [List.length_append, hl, hn]; exact Nat.le_refl _), List.take_of_length_le (by rw [List.length_append, hl, hn]; exact Nat.le_refl _)]
theorem tmp_info : (Tryd.prog.info? 5).map (·.size) = some 1 := by
  obtain ⟨i0, hi, -, hz1, -⟩ := info_parts Tryd.laysM180.i5
  rw [show Tryd.prog.info? 5 = some i0 from hi]; simp [hz1]
set_option maxHeartbeats 6400000 in
set_option maxRecDepth 100000 in
theorem write_row (K M b g cap n : Nat) (bs cs : List Value) (lr : Int) (cur : Array Value) (a : Addr) (c : Nat) (w : World) (hbk : w.heap[b]? = some (.cells #[.slice (some ⟨g, 0, none⟩) bs.length cap, .int .i64 0, .int .i8 lr] 33 (0, 0)))
    (hb1 : bs ≠ []) (hKg : K ≤ g) (hgM : g < M) (hg : w.heap[g]? = some (.cells cur 5 (0, 0))) (hlc : bs.length ≤ cap) (hcm : cap ≤ maxLen) (hcs : cur.size = cap) (htk : cur.toList.take bs.length = bs)
    (hbK : b < K) (hKM : K ≤ M) (hM : M ≤ w.heap.size) (hn : cs.length = n) (h0 : 1 ≤ n) (hab : a.block ≠ b) (hag : a.block < K ∨ M ≤ a.block) (hsrc : ∀ j v, cs[j]? = some v → w.cell? (a.add j) = some v)
    (h1 : ∀ v ∈ bs, v.oneCell' = true) (h1c : ∀ v ∈ cs, v.oneCell' = true) (hlim : bs.length + n ≤ 140737488355328) :
    Calls Tryd.prog 36 #[.pointer (some ⟨b, 0, none⟩), .slice (some a) n c] w fun e w' => e = .returned (.tuple #[.int .i64 n, .nilIface]) ∧ OutB K w'.heap.size b (bs ++ cs) w' ∧ KeptB K b w w' := by
  have L := Tryd.laysM180
  have c2 : w.cell? ⟨b, 2, none⟩ = some (.int .i8 lr) := by rw [Lib.cell_of_heap hbk]; rfl
  have f2 : w.frozen? ⟨b, 2, none⟩ = false := Lib.frozen_of_heap hbk 2
  have hbk0 : (w.setCell ⟨b, 2, none⟩ (.int .i8 0)).heap[b]? = some (.cells #[.slice (some ⟨g, 0, none⟩) bs.length cap, .int .i64 0, .int .i8 0] 33 (0, 0)) := Lib.heap_setCell_same (i := 2) hbk _
  have hgb : g ≠ b := by omega
  have hg0 : (w.setCell ⟨b, 2, none⟩ (.int .i8 0)).heap[g]? = some (.cells cur 5 (0, 0)) := by rw [Below.heap_setCell _ _ _ _ hgb]; exact hg
  have hgr0 : w.grownBy (w.setCell ⟨b, 2, none⟩ (.int .i8 0)) (some b) := Lib.grownBy_setCell w b 2 _
  have d0 : (w.setCell ⟨b, 2, none⟩ (.int .i8 0)).cell? ⟨b, 0, none⟩ = some (.slice (some ⟨g, 0, none⟩) bs.length cap) := by rw [Lib.cell_of_heap hbk0]; rfl
  have e0 : (w.setCell ⟨b, 2, none⟩ (.int .i8 0)).frozen? ⟨b, 0, none⟩ = false := Lib.frozen_of_heap hbk0 0
  have hlt : g < w.heap.size := Lib.lt_of_heap hg
  have hl1 : 1 ≤ bs.length := by
    rcases Nat.eq_zero_or_pos bs.length with h | h
    · exact absurd (List.eq_nil_of_length_eq_zero h) hb1
    · exact h
  by_cases hr : n ≤ cap - bs.length
  · go_enter Tryd.func36, Tryd.ntmps36
    go_wp2_with fail
    refine (Any.Buffer_tryGrow_room { L with } b _ bs.length cap n _ d0 e0 hlc hcm hr).mono ?_
    rintro e W1 ⟨rfl, hW1⟩
    have hbk1 : W1.heap[b]? = some (.cells #[.slice (some ⟨g, 0, none⟩) (bs.length + n) cap, .int .i64 0, .int .i8 0] 33 (0, 0)) := by rw [hW1]; exact Lib.heap_setCell_same (i := 0) hbk0 _
    have hg1 : W1.heap[g]? = some (.cells cur 5 (0, 0)) := by rw [hW1, Below.heap_setCell _ _ _ _ hgb]; exact hg0
    have hgr1 : w.grownBy W1 (some b) := by rw [hW1]; exact Lib.grownBy_setB hgr0 0 _
    clear hW1 d0 e0 c2 f2 hbk0 hg0
    have d0 : W1.cell? ⟨b, 0, none⟩ = some (.slice (some ⟨g, 0, none⟩) (bs.length + n) cap) := by rw [Lib.cell_of_heap hbk1]; rfl
    have hne : ¬ cap = bs.length := by omega
    have hsrc1 : ∀ j v, cs[j]? = some v → W1.cell? (a.add j) = some v := fun j v hj => hgr1.cell (hsrc j v hj) (by rw [Lib.block_add]; exact fun e => hab (Option.some.inj e))
    have hcp := run_copy_row (P := Tryd.prog) W1 22 22 3 5 g bs.length n (cap - bs.length) a n c cur 5 cs L.t37 tmp_info hg1 (by rw [hn]; exact (Nat.min_self n).symm) hsrc1 (by rw [hn]; omega) h1c
    rw [hn] at hcp
    have hcm' := hcm
    unfold maxLen at hcm'
    go_wp2
    go_ret2
    have ho := out_written (M := M) (KeptB.grown hgr1 (by omega)) hbk1 rfl hn h0 hKg hbK hg1 (by omega) hcm hcs htk
    rw [htk, List.append_assoc] at ho
    exact ⟨rfl, ho.1, ho.2⟩
  · go_enter Tryd.func36, Tryd.ntmps36
    go_wp2_with fail
    refine (Any.Buffer_tryGrow_none { L with } b _ bs.length cap n _ d0 hlc hcm (by omega)).mono ?_
    rintro e W0 ⟨rfl, hW0⟩
    subst hW0
    go_wp2_with fail
    refine (growR b g bs.length cap n 0 cur bs _ hbk0 rfl hl1 hg0 hlc hcm hcs htk (by omega) hgb h1 h0 (by omega) hlim).mono ?_
    rintro e W1 ⟨rfl, g1, cap1, cur1, hbk1, hgn1, hg1, hc1, hcm1, hcs1, htk1, hgr⟩
    have hgr1 : w.grownBy W1 (some b) := Lib.grownBy_trans hgr0 hgr
    have hKg1 : K ≤ g1 := by simp [World.setCell] at hgn1; omega
    clear d0 e0 c2 f2 hbk0 hg0 hgr hgn1
    have d0 : W1.cell? ⟨b, 0, none⟩ = some (.slice (some ⟨g1, 0, none⟩) (bs.length + n) cap1) := by rw [Lib.cell_of_heap hbk1]; rfl
    have hne : ¬ cap1 = bs.length := by omega
    have hsrc1 : ∀ j v, cs[j]? = some v → W1.cell? (a.add j) = some v := fun j v hj => hgr1.cell (hsrc j v hj) (by rw [Lib.block_add]; exact fun e => hab (Option.some.inj e))
    have hcp := run_copy_row (P := Tryd.prog) W1 22 22 3 5 g1 bs.length n (cap1 - bs.length) a n c cur1 5 cs L.t37 tmp_info hg1 (by rw [hn]; exact (Nat.min_self n).symm) hsrc1 (by rw [hn]; omega) h1c
    rw [hn] at hcp
    have hcm' := hcm1
    unfold maxLen at hcm'
    go_wp2
    go_ret2
    have ho := out_written (M := M) (KeptB.grown hgr1 (by omega)) hbk1 rfl hn h0 hKg1 hbK hg1 hc1 hcm1 hcs1 htk1
    rw [htk1, List.append_assoc] at ho
    exact ⟨rfl, ho.1, ho.2⟩
theorem grow_nil (b n : Nat) (lr : Int) (w : World) (hbk : w.heap[b]? = some (.cells #[.slice none 0 0, .int .i64 0, .int .i8 lr] 33 (0, 0))) (h0 : 1 ≤ n) (hlim : n ≤ 140737488355328) :
    Calls Tryd.prog 41 #[.pointer (some ⟨b, 0, none⟩), .int .i64 n] w fun e w' => e = .returned (.int .i64 0) ∧ Grown b w w' lr 0 n [] := by
  by_cases h : n ≤ 64
  · exact growS b n lr w hbk h0 h
  · exact growB b n lr w hbk (by omega) hlim
set_option maxHeartbeats 6400000 in
set_option maxRecDepth 100000 in
theorem write_nil (K M b n : Nat) (cs : List Value) (lr : Int) (a : Addr) (c : Nat) (w : World) (hbk : w.heap[b]? = some (.cells #[.slice none 0 0, .int .i64 0, .int .i8 lr] 33 (0, 0)))
    (hbK : b < K) (hKM : K ≤ M) (hM : M ≤ w.heap.size) (hn : cs.length = n) (h0 : 1 ≤ n) (hab : a.block ≠ b) (hsrc : ∀ j v, cs[j]? = some v → w.cell? (a.add j) = some v)
    (h1c : ∀ v ∈ cs, v.oneCell' = true) (hlim : n ≤ 140737488355328) :
    Calls Tryd.prog 36 #[.pointer (some ⟨b, 0, none⟩), .slice (some a) n c] w fun e w' => e = .returned (.tuple #[.int .i64 n, .nilIface]) ∧ OutB K w'.heap.size b cs w' ∧ KeptB K b w w' := by
  have L := Tryd.laysM180
  have c2 : w.cell? ⟨b, 2, none⟩ = some (.int .i8 lr) := by rw [Lib.cell_of_heap hbk]; rfl
  have f2 : w.frozen? ⟨b, 2, none⟩ = false := Lib.frozen_of_heap hbk 2
  have hbk0 : (w.setCell ⟨b, 2, none⟩ (.int .i8 0)).heap[b]? = some (.cells #[.slice none 0 0, .int .i64 0, .int .i8 0] 33 (0, 0)) := Lib.heap_setCell_same (i := 2) hbk _
  have hgr0 : w.grownBy (w.setCell ⟨b, 2, none⟩ (.int .i8 0)) (some b) := Lib.grownBy_setCell w b 2 _
  have d0 : (w.setCell ⟨b, 2, none⟩ (.int .i8 0)).cell? ⟨b, 0, none⟩ = some (.slice none 0 0) := by rw [Lib.cell_of_heap hbk0]; rfl
  go_enter Tryd.func36, Tryd.ntmps36
  go_wp2_with fail
  refine (Any.Buffer_tryGrow_none { L with } b _ 0 0 n _ d0 (Nat.le_refl _) (Nat.zero_le _) (by omega)).mono ?_
  rintro e W0 ⟨rfl, hW0⟩
  subst hW0
  go_wp2_with fail
  refine (grow_nil b n 0 _ hbk0 h0 hlim).mono ?_
  rintro e W1 ⟨rfl, g1, cap1, cur1, hbk1, hgn1, hg1, hc1, hcm1, hcs1, htk1, hgr⟩
  have hgr1 : w.grownBy W1 (some b) := Lib.grownBy_trans hgr0 hgr
  have hKg1 : K ≤ g1 := by simp [World.setCell] at hgn1; omega
  rw [Nat.zero_add] at hbk1 hc1
  clear d0 c2 f2 hbk0 hgr hgn1
  have d0 : W1.cell? ⟨b, 0, none⟩ = some (.slice (some ⟨g1, 0, none⟩) n cap1) := by rw [Lib.cell_of_heap hbk1]; rfl
  have hsrc1 : ∀ j v, cs[j]? = some v → W1.cell? (a.add j) = some v := fun j v hj => hgr1.cell (hsrc j v hj) (by rw [Lib.block_add]; exact fun e => hab (Option.some.inj e))
  have hcp := run_copy_row (P := Tryd.prog) W1 22 22 3 5 g1 0 n cap1 a n c cur1 5 cs L.t37 tmp_info hg1 (by rw [hn]; exact (Nat.min_self n).symm) hsrc1 (by rw [hn]; omega) h1c
  rw [hn] at hcp
  have hcm' := hcm1
  unfold maxLen at hcm'
  have ho := out_written (M := M) (l := 0) (n := n) (bs := []) (cs := cs) (KeptB.grown hgr1 (by omega)) (by rw [Nat.zero_add]; exact hbk1) rfl hn h0 hKg1 hbK hg1 (by omega) hcm1 hcs1 htk1
  rw [htk1, List.nil_append, Nat.zero_add] at ho
  have HO := Lib.hid ho
  clear ho
  go_wp2
  go_ret2
  exact ⟨rfl, HO.out.1, HO.out.2⟩
set_option maxHeartbeats 6400000 in
set_option maxRecDepth 100000 in
theorem write_none (K M b : Nat) (bs : List Value) (w : World) (h : OutB K M b bs w) (hbK : b < K) (hM : M ≤ w.heap.size) :
    Calls Tryd.prog 36 #[.pointer (some ⟨b, 0, none⟩), .slice none 0 0] w fun e w' => e = .returned (.tuple #[.int .i64 0, .nilIface]) ∧ OutB K w'.heap.size b bs w' ∧ KeptB K b w w' := by
  have L := Tryd.laysM180
  have hce : ∀ d dLen dCap W, (Builtin.copy_ #[22, 22] 3 #[.slice d dLen dCap, .slice none 0 0]).run Tryd.prog W = .ok (goInt 0) W := fun d dLen dCap W => run_copy_none W 22 22 3 5 d none dLen dCap 0 0 L.t37 tmp_info (by simp)
  obtain ⟨lr, ⟨rfl, hbk⟩ | ⟨g, cap, cur, hb1, hbk, hKg, hgM, hg, hlc, hcm, hcs, htk⟩⟩ := h
  · have c2 : w.cell? ⟨b, 2, none⟩ = some (.int .i8 lr) := by rw [Lib.cell_of_heap hbk]; rfl
    have f2 : w.frozen? ⟨b, 2, none⟩ = false := Lib.frozen_of_heap hbk 2
    have hbk0 : (w.setCell ⟨b, 2, none⟩ (.int .i8 0)).heap[b]? = some (.cells #[.slice none 0 0, .int .i64 0, .int .i8 0] 33 (0, 0)) := Lib.heap_setCell_same (i := 2) hbk _
    have hgr0 : w.grownBy (w.setCell ⟨b, 2, none⟩ (.int .i8 0)) (some b) := Lib.grownBy_setCell w b 2 _
    have d0 : (w.setCell ⟨b, 2, none⟩ (.int .i8 0)).cell? ⟨b, 0, none⟩ = some (.slice none 0 0) := by rw [Lib.cell_of_heap hbk0]; rfl
    have e0 : (w.setCell ⟨b, 2, none⟩ (.int .i8 0)).frozen? ⟨b, 0, none⟩ = false := Lib.frozen_of_heap hbk0 0
    go_enter Tryd.func36, Tryd.ntmps36
    go_wp2_with fail
    refine (Any.Buffer_tryGrow_room { L with } b none 0 0 0 _ d0 e0 (Nat.le_refl _) (Nat.zero_le _) (Nat.le_refl _)).mono ?_
    rintro e W1 ⟨rfl, hW1⟩
    have hbk1 : W1.heap[b]? = some (.cells #[.slice none 0 0, .int .i64 0, .int .i8 0] 33 (0, 0)) := by rw [hW1]; exact Lib.heap_setCell_same (i := 0) hbk0 _
    have hgr1 : w.grownBy W1 (some b) := by rw [hW1]; exact Lib.grownBy_setB hgr0 0 _
    have hk : Hid (KeptB K b w W1) := Lib.hid ⟨hgr1.os, hgr1.tape, hgr1.output, hgr1.size, fun k hk hb => by rw [hW1, Below.heap_setCell _ _ _ _ hb, Below.heap_setCell _ _ _ _ hb]⟩
    clear hW1 d0 e0 c2 f2 hbk0
    have d0 : W1.cell? ⟨b, 0, none⟩ = some (.slice none 0 0) := by rw [Lib.cell_of_heap hbk1]; rfl
    have HO : Hid (OutB K W1.heap.size b [] W1) := Lib.hid ⟨0, .inl ⟨rfl, hbk1⟩⟩
    go_wp2
    go_ret2
    exact ⟨rfl, HO.out, hk.out⟩
  · have c2 : w.cell? ⟨b, 2, none⟩ = some (.int .i8 lr) := by rw [Lib.cell_of_heap hbk]; rfl
    have f2 : w.frozen? ⟨b, 2, none⟩ = false := Lib.frozen_of_heap hbk 2
    have hbk0 : (w.setCell ⟨b, 2, none⟩ (.int .i8 0)).heap[b]? = some (.cells #[.slice (some ⟨g, 0, none⟩) bs.length cap, .int .i64 0, .int .i8 0] 33 (0, 0)) := Lib.heap_setCell_same (i := 2) hbk _
    have hgb : g ≠ b := by omega
    have hg0 : (w.setCell ⟨b, 2, none⟩ (.int .i8 0)).heap[g]? = some (.cells cur 5 (0, 0)) := by rw [Below.heap_setCell _ _ _ _ hgb]; exact hg
    have hgr0 : w.grownBy (w.setCell ⟨b, 2, none⟩ (.int .i8 0)) (some b) := Lib.grownBy_setCell w b 2 _
    have d0 : (w.setCell ⟨b, 2, none⟩ (.int .i8 0)).cell? ⟨b, 0, none⟩ = some (.slice (some ⟨g, 0, none⟩) bs.length cap) := by rw [Lib.cell_of_heap hbk0]; rfl
    have e0 : (w.setCell ⟨b, 2, none⟩ (.int .i8 0)).frozen? ⟨b, 0, none⟩ = false := Lib.frozen_of_heap hbk0 0
    have hlt : g < w.heap.size := Lib.lt_of_heap hg
    go_enter Tryd.func36, Tryd.ntmps36
    go_wp2_with fail
    refine (Any.Buffer_tryGrow_room { L with } b _ bs.length cap 0 _ d0 e0 hlc hcm (Nat.zero_le _)).mono ?_
    rintro e W1 ⟨rfl, hW1⟩
    rw [Nat.add_zero] at hW1
    have hbk1 : W1.heap[b]? = some (.cells #[.slice (some ⟨g, 0, none⟩) bs.length cap, .int .i64 0, .int .i8 0] 33 (0, 0)) := by rw [hW1]; exact Lib.heap_setCell_same (i := 0) hbk0 _
    have hg1 : W1.heap[g]? = some (.cells cur 5 (0, 0)) := by rw [hW1, Below.heap_setCell _ _ _ _ hgb]; exact hg0
    have hgr1 : w.grownBy W1 (some b) := by rw [hW1]; exact Lib.grownBy_setB hgr0 0 _
    have hk : Hid (KeptB K b w W1) := Lib.hid ⟨hgr1.os, hgr1.tape, hgr1.output, hgr1.size, fun k hk hb => by rw [hW1, Below.heap_setCell _ _ _ _ hb, Below.heap_setCell _ _ _ _ hb]⟩
    have hsz := hgr1.size
    clear hW1 d0 e0 c2 f2 hbk0 hg0
    have d0 : W1.cell? ⟨b, 0, none⟩ = some (.slice (some ⟨g, 0, none⟩) bs.length cap) := by rw [Lib.cell_of_heap hbk1]; rfl
    have HO : Hid (OutB K W1.heap.size b bs W1) := Lib.hid ⟨0, .inr ⟨g, cap, cur, hb1, hbk1, hKg, by omega, hg1, hlc, hcm, hcs, htk⟩⟩
    have hcm' := hcm
    unfold maxLen at hcm'
    clear htk
    go_wp2
    all_goals
      go_ret2
      exact ⟨rfl, HO.out, hk.out⟩
/-- Write, of whatever slice. -/
theorem write_out (K M b : Nat) (bs cs : List Value) (A : Option Addr) (n c : Nat) (w : World) (h : OutB K M b bs w) (hbK : b < K) (hKM : K ≤ M) (hM : M ≤ w.heap.size) (hn : cs.length = n)
    (hA : n = 0 ∧ A = none ∧ c = 0 ∨ 1 ≤ n ∧ ∃ a, A = some a ∧ a.block ≠ b ∧ (a.block < K ∨ M ≤ a.block) ∧ (∀ j v, cs[j]? = some v → w.cell? (a.add j) = some v))
    (h1 : ∀ v ∈ bs, v.oneCell' = true) (h1c : ∀ v ∈ cs, v.oneCell' = true) (hlim : bs.length + n ≤ 140737488355328) :
    Calls Tryd.prog 36 #[.pointer (some ⟨b, 0, none⟩), .slice A n c] w fun e w' => e = .returned (.tuple #[.int .i64 n, .nilIface]) ∧ OutB K w'.heap.size b (bs ++ cs) w' ∧ KeptB K b w w' := by
  rcases hA with ⟨rfl, rfl, rfl⟩ | ⟨h0, a, rfl, hab, hag, hsrc⟩
  · have : cs = [] := List.eq_nil_of_length_eq_zero hn
    subst this
    rw [List.append_nil]
    exact write_none K M b bs w h hbK hM
  · obtain ⟨lr, ⟨rfl, hbk⟩ | ⟨g, cap, cur, hb1, hbk, hKg, hgM, hg, hlc, hcm, hcs, htk⟩⟩ := h
    · exact write_nil K M b n cs lr a c w hbk hbK hKM hM hn h0 hab hsrc h1c (by simpa using hlim)
    · exact write_row K M b g cap n bs cs lr cur a c w hbk hb1 hKg hgM hg hlc hcm hcs htk hbK hKM hM hn h0 hab hag hsrc h1 h1c hlim
theorem OutB.isBuffer {K M b : Nat} {bs : List Value} {w : World} (h : OutB K M b bs w) (hbK : b < K) : Lib.IsBuffer 33 5 b b bs w := by
  obtain ⟨lr, ⟨rfl, hbk⟩ | ⟨g, cap, cur, hb1, hbk, hKg, hgM, hg, hlc, hcm, hcs, htk⟩⟩ := h
  · exact ⟨Nat.le_refl _, _, _, hbk, World.ownsRow_nil _ _ _ _, by simp [Value.ownBlock]⟩
  · exact ⟨Nat.le_refl _, _, _, hbk, ⟨by rw [Nat.mul_one], .inr ⟨g, cap, cur, rfl, by omega, hg, hlc, hcm, by omega, by rw [Nat.mul_one]; exact htk⟩⟩, by simp [Value.ownBlock]; omega⟩
theorem OutB.keep {K M b : Nat} {bs : List Value} {w w' : World} (h : OutB K M b bs w) (hb : w'.heap[b]? = w.heap[b]?) (hk : ∀ k, K ≤ k → k < M → w'.heap[k]? = w.heap[k]?) {M' : Nat} (hM : M ≤ M') : OutB K M' b bs w' := by
  obtain ⟨lr, ⟨rfl, hbk⟩ | ⟨g, cap, cur, hb1, hbk, hKg, hgM, hg, hlc, hcm, hcs, htk⟩⟩ := h
  · exact ⟨lr, .inl ⟨rfl, hb.trans hbk⟩⟩
  · exact ⟨lr, .inr ⟨g, cap, cur, hb1, hb.trans hbk, hKg, by omega, (hk g hKg hgM).trans hg, hlc, hcm, hcs, htk⟩⟩
theorem OutB.of_nil {K M b : Nat} {w : World} (h : Lib.IsBuffer 33 5 b b [] w) (hz : w.cell? ⟨b, 0, none⟩ = some (.slice none 0 0)) : OutB K M b [] w := by
  obtain ⟨-, v, lr, hbk, -⟩ := h
  rw [Lib.cell_of_heap hbk] at hz
  obtain rfl : v = .slice none 0 0 := Option.some.inj hz
  exact ⟨lr, .inl ⟨rfl, hbk⟩⟩
end Go.Proofs.YtghmbpogniopoaaDoor
