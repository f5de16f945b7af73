/- Lines: what is spoken of (isLine), and the answers at three small texts. -/
import Derived.Test.YtcelfpgkknfnhaaGreatDoorL16
namespace Go.Proofs.YtcelfpgkknfnhaaGreatDoor
open Go.RowKit
set_option linter.unusedVariables false

def extB (x : Int) : Bool := decide (0 ≤ x ∧ x ≤ 131070 ∧ x % 2 = 0)
theorem isExt_any (x : Int) (w : World) : Calls Tryz.prog 16 #[.int .i64 x] w fun e w' => e = .returned (.bool (extB x)) ∧ w = w' := by
  by_cases h0 : 0 ≤ x
  case neg =>
    have HO : Hid (extB x = false) := Lib.hid (by unfold extB; simp; omega)
    go_enter Tryz.func16, Tryz.ntmps16
    go_wp2
    go_ret
    exact ⟨ret_bool (by rw [HO.out]), rfl⟩
  by_cases h1 : x ≤ 131070
  case neg =>
    have HO : Hid (extB x = false) := Lib.hid (by unfold extB; simp; omega)
    go_enter Tryz.func16, Tryz.ntmps16
    go_wp2
    go_ret
    exact ⟨ret_bool (by rw [HO.out]), rfl⟩
  go_enter Tryz.func16, Tryz.ntmps16
  go_wp2
  go_ret
  exact ⟨ret_bool (by unfold extB; rw [Bool.eq_iff_iff]; simp; omega), rfl⟩

def IsL (x : Int) (n : Nat) (f : Nat → Int) : Prop := extB x = true ∧ 0 < n ∧ n ≤ 1000 ∧ f (n - 1) = 10
def islB (x : Int) (n : Nat) (f : Nat → Int) : Bool := extB x && decide (0 < n ∧ n ≤ 1000 ∧ f (n - 1) = 10)
theorem isl_of {x : Int} {n : Nat} {f : Nat → Int} (h : islB x n f = true) : (0 ≤ x ∧ x ≤ 131070) ∧ 0 < n ∧ n ≤ 1000 ∧ f (n - 1) = 10 := by
  unfold islB extB at h
  simp at h
  exact ⟨⟨h.1.1, h.1.2.1⟩, h.2⟩
set_option maxHeartbeats 1000000 in
theorem isLine_any (x : Int) (A : Option Addr) (n cap : Nat) (f : Nat → Int) (w : World) (B : Nat) (h : RB w B A n cap f) (hn : n ≤ 2147483647) :
    Calls Tryz.prog 8 #[.int .i64 x, .slice A n cap] w fun e w' => e = .returned (.bool (islB x n f)) ∧ w = w' := by
  have HH := Lib.hid h
  clear h
  cases hx : extB x
  · have HO : Hid (islB x n f = false) := Lib.hid (by unfold islB; rw [hx]; rfl)
    have HX := Lib.hid hx
    clear hx
    go_enter Tryz.func8, Tryz.ntmps8
    go_wp2_with fail
    refine (isExt_any x w).mono ?_
    rintro e w' ⟨rfl, rfl⟩
    rw [HX.out]
    go_wp2_with fail
    go_ret
    exact ⟨ret_bool (by rw [HO.out]), rfl⟩
  have HX := Lib.hid hx
  clear hx
  by_cases h0 : 0 < n
  case neg =>
    have HO : Hid (islB x n f = false) := Lib.hid (by unfold islB; simp; omega)
    go_enter Tryz.func8, Tryz.ntmps8
    go_wp2_with fail
    refine (isExt_any x w).mono ?_
    rintro e w' ⟨rfl, rfl⟩
    rw [HX.out]
    go_wp2_with fail
    go_ret
    exact ⟨ret_bool (by rw [HO.out]), rfl⟩
  by_cases h1 : n ≤ 1000
  case neg =>
    have HO : Hid (islB x n f = false) := Lib.hid (by unfold islB; simp; omega)
    go_enter Tryz.func8, Tryz.ntmps8
    go_wp2_with fail
    refine (isExt_any x w).mono ?_
    rintro e w' ⟨rfl, rfl⟩
    rw [HX.out]
    go_wp2_with fail
    go_ret
    exact ⟨ret_bool (by rw [HO.out]), rfl⟩
  have HO : Hid (islB x n f = (f (n - 1) == 10)) := Lib.hid (by unfold islB; rw [HX.out, Bool.eq_iff_iff]; simp; omega)
  obtain ⟨b, off, rfl, hB, hcell⟩ := HH.out.2.2.2 h0
  have k0 := hcell (n - 1) (by omega)
  clear hcell
  go_enter Tryz.func8, Tryz.ntmps8
  go_wp2_with fail
  refine (isExt_any x w).mono ?_
  rintro e w' ⟨rfl, rfl⟩
  rw [HX.out]
  go_wp2_with fail
  go_ret
  exact ⟨ret_bool (by rw [HO.out]), rfl⟩

theorem rbc_marked (w : World) (l : List Int) (hl : ∀ x ∈ l, 0 ≤ x ∧ x ≤ 255) (h8 : l.length ≤ 100) (C : Array Value) (hC : C = (l.map (Value.int .u8)).toArray) (e : TypeId) (fz : Nat × Nat) :
    RB (w.alloc (.cells C e fz)) (w.heap.size + 1) (some ⟨w.heap.size, 0, none⟩) l.length l.length (fun j => l.getD j 0) := by
  subst hC
  refine ⟨Nat.le_refl _, by unfold maxLen; omega, fun j => ?_, fun _ => ⟨_, _, rfl, by omega, fun j hj => ?_⟩⟩
  · show 0 ≤ l.getD j 0 ∧ l.getD j 0 ≤ 255
    rcases Nat.lt_or_ge j l.length with hj | hj
    · exact hl _ (by rw [List.getD_eq_getElem?_getD, List.getElem?_eq_getElem hj]; exact List.getElem_mem hj)
    · rw [List.getD_eq_getElem?_getD, List.getElem?_eq_none hj]; simp
  rw [Nat.zero_add, World.cell?_alloc_mark]
  simp [hj]
/-- LineOf at a small text. -/
theorem lineOf_at (w : World) (l : List Int) (n le : Nat) (hn : l.length = n) (hl : ∀ x ∈ l, 0 ≤ x ∧ x ≤ 255) (h8 : l.length ≤ 100) (C : Array Value) (hC : C = (l.map (Value.int .u8)).toArray) (fz : Nat × Nat)
    (he : LEnd n (fun j => l.getD j 0) le) (h10 : l.getD (n - 1) 0 = 10) (h0 : 0 < n) :
    Calls Tryz.prog 9 #[.int .i64 0, .slice (some ⟨w.heap.size, 0, none⟩) n n] (w.alloc (.cells C 5 fz)) fun e w' => e = .returned (LineV n le (fun j => l.getD j 0) (decide (l.getD 0 0 = 35))) ∧ Below w.heap.size w w' := by
  have hb0 := (Below.refl w.heap.size w).alloc (Nat.le_refl _) (.cells C 5 fz)
  have h := rbc_marked w l hl h8 C hC 5 fz
  rw [hn] at h
  refine (lineOf_any 0 _ n n _ le _ (RB.more h (by simp)) he h10 (by decide) (by decide) h0 (by omega)).mono ?_
  rintro e w' ⟨⟨hb, rfl, ho, _⟩, hbb⟩
  rw [ho rfl]
  exact ⟨rfl, hb0.trans (hbb.mono (by simp))⟩
def hashF : List Int := [35, 32, 97, 10]
def starF : List Int := [42, 32, 97, 10]
def feedF : List Int := [10]
theorem star_2 : uliF 4 (fun j => starF.getD j 0) = 2 := by decide +kernel
theorem feed_1 : emptyF 1 (fun j => feedF.getD j 0) = 1 := by decide +kernel
theorem lend_hash : LEnd 4 (fun j => hashF.getD j 0) 3 := ⟨by decide, by decide, by decide⟩
theorem lend_star : LEnd 4 (fun j => starF.getD j 0) 3 := ⟨by decide, by decide, by decide⟩
theorem lend_feed : LEnd 1 (fun j => feedF.getD j 0) 0 := ⟨by decide, by decide, by decide⟩
theorem awake_hash (w : World) : Calls Tryz.prog 9 #[.int .i64 0, .slice (some ⟨w.heap.size, 0, none⟩) 4 4] (w.alloc (.cells #[.int .u8 35, .int .u8 32, .int .u8 97, .int .u8 10] 5 (4, 5))) fun e w' =>
    (∃ (a0 : Int) (a1 : Bool) (a3 : Int) (a4 : Int) (a5 : Int) (a6 : Int) (a7 : Int) (a8 : Int), e = .returned (.agg #[.int .i64 a0, .bool a1, .bool true, .int .i64 a3, .int .i64 a4, .int .i64 a5, .int .i64 a6, .int .i64 a7, .int .i64 a8])) ∧ Below w.heap.size w w' := by
  refine (lineOf_at w hashF 4 3 rfl (by decide) (by decide) #[.int .u8 35, .int .u8 32, .int .u8 97, .int .u8 10] rfl (4, 5) lend_hash rfl (by decide)).mono ?_
  rintro e w1 ⟨he, hb1⟩
  refine ⟨?_, hb1⟩
  have h := he
  unfold LineV at h
  rw [show decide (hashF.getD 0 0 = 35) = true from rfl] at h
  exact ⟨_, _, _, _, _, _, _, _, h⟩
theorem awake_star (w : World) : Calls Tryz.prog 9 #[.int .i64 0, .slice (some ⟨w.heap.size, 0, none⟩) 4 4] (w.alloc (.cells #[.int .u8 42, .int .u8 32, .int .u8 97, .int .u8 10] 5 (4, 5))) fun e w' =>
    (∃ (a0 : Int) (a1 : Bool) (a2 : Bool) (a3 : Int) (a4 : Int) (a5 : Int) (a7 : Int) (a8 : Int), e = .returned (.agg #[.int .i64 a0, .bool a1, .bool a2, .int .i64 a3, .int .i64 a4, .int .i64 a5, .int .i64 2, .int .i64 a7, .int .i64 a8])) ∧ Below w.heap.size w w' := by
  refine (lineOf_at w starF 4 3 rfl (by decide) (by decide) #[.int .u8 42, .int .u8 32, .int .u8 97, .int .u8 10] rfl (4, 5) lend_star rfl (by decide)).mono ?_
  rintro e w1 ⟨he, hb1⟩
  refine ⟨?_, hb1⟩
  have h := he
  unfold LineV at h
  rw [star_2] at h
  exact ⟨_, _, _, _, _, _, _, _, h⟩
theorem awake_feed (w : World) : Calls Tryz.prog 9 #[.int .i64 0, .slice (some ⟨w.heap.size, 0, none⟩) 1 1] (w.alloc (.cells #[.int .u8 10] 5 (1, 2))) fun e w' =>
    (∃ (a1 : Bool) (a2 : Bool) (a3 : Int) (a4 : Int) (a5 : Int) (a6 : Int) (a7 : Int) (a8 : Int), e = .returned (.agg #[.int .i64 1, .bool a1, .bool a2, .int .i64 a3, .int .i64 a4, .int .i64 a5, .int .i64 a6, .int .i64 a7, .int .i64 a8])) ∧ Below w.heap.size w w' := by
  refine (lineOf_at w feedF 1 0 rfl (by decide) (by decide) #[.int .u8 10] rfl (1, 2) lend_feed rfl (by decide)).mono ?_
  rintro e w1 ⟨he, hb1⟩
  refine ⟨?_, hb1⟩
  have h := he
  unfold LineV at h
  rw [feed_1] at h
  exact ⟨_, _, _, _, _, _, _, _, h⟩
theorem fld0 (w : World) (a0 : Int) (a1 a2 : Bool) (a3 a4 a5 a6 a7 a8 : Int) : (Instr.field 25 (.agg #[.int .i64 a0, .bool a1, .bool a2, .int .i64 a3, .int .i64 a4, .int .i64 a5, .int .i64 a6, .int .i64 a7, .int .i64 a8]) 0).run Tryz.prog w = .ok (.int .i64 a0) w := by kernel_rfl
theorem fld1 (w : World) (a0 : Int) (a1 a2 : Bool) (a3 a4 a5 a6 a7 a8 : Int) : (Instr.field 25 (.agg #[.int .i64 a0, .bool a1, .bool a2, .int .i64 a3, .int .i64 a4, .int .i64 a5, .int .i64 a6, .int .i64 a7, .int .i64 a8]) 1).run Tryz.prog w = .ok (.bool a1) w := by kernel_rfl
theorem fld2 (w : World) (a0 : Int) (a1 a2 : Bool) (a3 a4 a5 a6 a7 a8 : Int) : (Instr.field 25 (.agg #[.int .i64 a0, .bool a1, .bool a2, .int .i64 a3, .int .i64 a4, .int .i64 a5, .int .i64 a6, .int .i64 a7, .int .i64 a8]) 2).run Tryz.prog w = .ok (.bool a2) w := by kernel_rfl
theorem fld3 (w : World) (a0 : Int) (a1 a2 : Bool) (a3 a4 a5 a6 a7 a8 : Int) : (Instr.field 25 (.agg #[.int .i64 a0, .bool a1, .bool a2, .int .i64 a3, .int .i64 a4, .int .i64 a5, .int .i64 a6, .int .i64 a7, .int .i64 a8]) 3).run Tryz.prog w = .ok (.int .i64 a3) w := by kernel_rfl
theorem fld4 (w : World) (a0 : Int) (a1 a2 : Bool) (a3 a4 a5 a6 a7 a8 : Int) : (Instr.field 25 (.agg #[.int .i64 a0, .bool a1, .bool a2, .int .i64 a3, .int .i64 a4, .int .i64 a5, .int .i64 a6, .int .i64 a7, .int .i64 a8]) 4).run Tryz.prog w = .ok (.int .i64 a4) w := by kernel_rfl
theorem fld5 (w : World) (a0 : Int) (a1 a2 : Bool) (a3 a4 a5 a6 a7 a8 : Int) : (Instr.field 25 (.agg #[.int .i64 a0, .bool a1, .bool a2, .int .i64 a3, .int .i64 a4, .int .i64 a5, .int .i64 a6, .int .i64 a7, .int .i64 a8]) 5).run Tryz.prog w = .ok (.int .i64 a5) w := by kernel_rfl
theorem fld6 (w : World) (a0 : Int) (a1 a2 : Bool) (a3 a4 a5 a6 a7 a8 : Int) : (Instr.field 25 (.agg #[.int .i64 a0, .bool a1, .bool a2, .int .i64 a3, .int .i64 a4, .int .i64 a5, .int .i64 a6, .int .i64 a7, .int .i64 a8]) 6).run Tryz.prog w = .ok (.int .i64 a6) w := by kernel_rfl
theorem fld7 (w : World) (a0 : Int) (a1 a2 : Bool) (a3 a4 a5 a6 a7 a8 : Int) : (Instr.field 25 (.agg #[.int .i64 a0, .bool a1, .bool a2, .int .i64 a3, .int .i64 a4, .int .i64 a5, .int .i64 a6, .int .i64 a7, .int .i64 a8]) 7).run Tryz.prog w = .ok (.int .i64 a7) w := by kernel_rfl
theorem fld8 (w : World) (a0 : Int) (a1 a2 : Bool) (a3 a4 a5 a6 a7 a8 : Int) : (Instr.field 25 (.agg #[.int .i64 a0, .bool a1, .bool a2, .int .i64 a3, .int .i64 a4, .int .i64 a5, .int .i64 a6, .int .i64 a7, .int .i64 a8]) 8).run Tryz.prog w = .ok (.int .i64 a8) w := by kernel_rfl
set_option maxHeartbeats 2000000 in
set_option maxRecDepth 100000 in
theorem awake_any (w : World) : Calls Tryz.prog 12 #[] w fun e w' => e = .returned (.bool true) ∧ Below w.heap.size w w' := by
  have kc := fun (w : World) (C : Array Value) (n c : Nat) => Lib.run_convert_bytes_const (P := Tryz.prog) w 22 5 C n c Tryz.underlying22 Tryz.underlying5
  have h2 := fld2; have h6 := fld6; have h0 := fld0
  go_enter Tryz.func12, Tryz.ntmps12
  go_wp2_with fail
  refine (awake_hash w).mono ?_
  rintro e w1 ⟨⟨_, _, _, _, _, _, _, _, rfl⟩, hb1⟩
  go_wp2_with fail
  refine (awake_star w1).mono ?_
  rintro e w2 ⟨⟨_, _, _, _, _, _, _, _, rfl⟩, hb2⟩
  go_wp2_with fail
  refine (awake_feed w2).mono ?_
  rintro e w3 ⟨⟨_, _, _, _, _, _, _, _, rfl⟩, hb3⟩
  go_wp2_with fail
  go_ret
  exact ⟨rfl, (hb1.trans (hb2.mono hb1.size)).trans (hb3.mono (Nat.le_trans hb1.size hb2.size))⟩
end Go.Proofs.YtcelfpgkknfnhaaGreatDoor
