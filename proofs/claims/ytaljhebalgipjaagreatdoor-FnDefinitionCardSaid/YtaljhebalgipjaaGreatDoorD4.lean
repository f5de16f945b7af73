/- Reference definitions: the reference's text. -/
import Derived.Test.YtaljhebalgipjaaGreatDoorD6
import Derived.BigQuiet
import Derived.BigRegion
import Derived.Deep.RegionHeld3
namespace Go.Proofs.YtaljhebalgipjaaGreatDoor
open Go.RowKit
set_option linter.unusedVariables false

/-- A string of these bytes. -/
def strL (l : List UInt8) : ByteArray := ⟨l.toArray⟩
theorem strL_app (a b : List UInt8) : strL a ++ strL b = strL (a ++ b) := by
  apply ByteArray.ext
  simp [strL]
theorem strL_size (l : List UInt8) : (strL l).size = l.length := by simp [strL, ByteArray.size]
theorem strL_list (s : ByteArray) : strL s.data.toList = s := by
  apply ByteArray.ext; simp [strL]
theorem list_strL (l : List UInt8) : (strL l).data.toList = l := by simp [strL]

set_option maxHeartbeats 800000 in
theorem repeated_bl (k : Nat) (w : World) (hk : k ≤ 3) :
    Calls Tryz.prog 20 #[.string (strL [32]), .int .i64 k, .string (strL [])] w fun e w' => e = .returned (.string (strL (List.replicate k 32))) ∧ w' = w := by
  go_enter Tryz.func20, Tryz.ntmps20
  go_wp2_with fail
  go_loop [10, 7] (fun iv sv => ∃ i : Nat, i ≤ k ∧ iv = .int .i64 i ∧ sv = .string (strL (List.replicate i 32))) (fun iv _ => k - (intOf iv).toNat)
  case atStart => exact ⟨0, by omega, rfl, rfl⟩
  case round =>
    obtain ⟨i, hi, rfl, rfl⟩ := hrel
    by_cases hik : i < k
    · have z0 : ¬ 9223372036854775807 < (strL (List.replicate i 32)).size + (strL [32]).size := by rw [strL_size, strL_size]; simp; omega
      have z1 : ¬ 9223372036854775807 < (strL (List.replicate i 32)).size + (strL []).size := by rw [strL_size, strL_size]; simp; omega
      have z2 : ¬ 9223372036854775807 < (strL (List.replicate i 32) ++ strL []).size + (strL [32]).size := by rw [strL_app, strL_size, strL_size]; simp; omega
      have e1 : strL (List.replicate i 32) ++ strL [32] = strL (List.replicate (i + 1) 32) := by rw [strL_app, List.replicate_succ']
      have e2 : strL (List.replicate i 32) ++ strL [] ++ strL [32] = strL (List.replicate (i + 1) 32) := by rw [strL_app, strL_app, List.append_nil, List.replicate_succ']
      have E1 := Lib.hid e1; have E2 := Lib.hid e2
      clear e1 e2
      go_wp2
      all_goals
        go_round
        case rel => exact ⟨i + 1, by omega, by go_num, by first | rw [E1.out] | rw [E2.out]⟩
        case measure => simp [intOf]; omega
    · obtain rfl : i = k := by omega
      go_wp2
      go_ret
      exact ⟨rfl, rfl⟩

def openQ (q : Nat) : UInt8 := if q = 0 then 34 else if q = 1 then 39 else 40
def shutQ (q : Nat) : UInt8 := if q = 0 then 34 else if q = 1 then 39 else 41
theorem below_dn2 {B : Nat} {a w : World} (h : Below B a w) (n : Nat) : Below B a (w.drewN n) := ⟨h.os, h.tape, h.output, h.size, h.block⟩
theorem strL_cons (x : UInt8) (l : List UInt8) : (strL (x :: l)).toList.isEmpty = false := by
  rw [← decide_eq_emptyBytes]
  apply decide_eq_false
  intro e
  have := congrArg ByteArray.size e
  rw [strL_size] at this
  simp at this
/-- 'string' to bytes: a new row that reads as the string. -/
theorem bytes_RB {P : Program} (w : World) (src dst e : TypeId) (l : List UInt8) (s : ByteArray) (hsl : s = strL l) (hl : l.length ≤ 1000) (hs : P.underlying src = some .string) (hd : P.underlying dst = some (.slice e)) (he : P.underlying e = some (.int .u8)) :
    ∃ cap W1, (convert src dst (.string s)).run P w = .ok (.slice (some ⟨w.heap.size, 0, none⟩) l.length cap) W1 ∧ RB W1 W1.heap.size (some ⟨w.heap.size, 0, none⟩) l.length cap (bt l) ∧ Below w.heap.size w W1 ∧ W1.heap.size = w.heap.size + 1 := by
  subst hsl
  have hcap := grownCap_ge w (strL l).size 0 e
  have hml := grownCap_le_maxLen w (strL l).size 0 e (by rw [strL_size]; unfold maxLen; omega)
  have hr := run_bytes_of_string (P := P) w src dst e (strL l) hs hd he
  rw [strL_size] at hr hcap hml
  refine ⟨_, _, hr, ⟨hcap, hml, fun j => ⟨bt_lo _ _, bt_hi _ _⟩, fun hn => ⟨w.heap.size, 0, rfl, by simp, fun j hj => ?_⟩⟩, (Below.refl _ _).drew.alloc (Nat.le_refl _) _, by simp⟩
  have := World.cell?_alloc_mark w.drew (bytesRow (strL l) (grownCap w l.length 0 e)) e ((bytesRow (strL l) (grownCap w l.length 0 e)).size, (bytesRow (strL l) (grownCap w l.length 0 e)).size + 1) j
  rw [Nat.zero_add]
  show (w.drew.alloc _).cell? ⟨w.drew.heap.size, j, none⟩ = _
  rw [this, bytesRow_at (strL l) _ j (by simpa [strL] using hj)]
  have e1 := bt_str (strL l) j (by rw [strL_size]; exact hj)
  rw [list_strL] at e1
  rw [← e1]; rfl
theorem eq_strL {s : ByteArray} {l : List UInt8} (h : s.data.toList = l) : s = strL l := by rw [← strL_list s, h]
/-- What the reference's text is. -/
def DefT (w w' : World) (l : List UInt8) (e : Ending) : Prop := ∃ A c, e = .returned (.slice A l.length c) ∧ RB w' w'.heap.size A l.length c (bt l) ∧ Below w.heap.size w w'
set_option maxHeartbeats 8000000 in
set_option maxRecDepth 100000 in
theorem defText_nil (w : World) (bl : Nat) (q : Nat) (id path : List UInt8) (nx : Bool) (hbl : bl ≤ 3) (h1 : id.length ≤ 20) (h2 : path.length ≤ 20) :
    Calls Tryz.prog 15 #[.agg #[.int .u8 bl, .string (strL id), .string (strL path), .string (strL ([] : List UInt8)), .int .u8 q, .bool nx]] w fun e w' => DefT w w' (defL bl id path [] (openQ q) (shutQ q) nx) e := by
  have z1 : ¬ 9223372036854775807 < (strL (List.replicate bl 32)).size + (ByteArray.mk #[91]).size := by rw [strL_size]; simp [ByteArray.size]; omega
  have z2 : ¬ 9223372036854775807 < (strL (List.replicate bl 32) ++ ByteArray.mk #[91]).size + (strL id).size := by rw [ByteArray.size_append, strL_size, strL_size]; simp [ByteArray.size]; omega
  have z3 : ¬ 9223372036854775807 < (strL (List.replicate bl 32) ++ ByteArray.mk #[91] ++ strL id).size + (ByteArray.mk #[93, 58, 32, 47]).size := by simp only [ByteArray.size_append, strL_size]; simp [ByteArray.size]; omega
  have z4 : ¬ 9223372036854775807 < (strL (List.replicate bl 32) ++ ByteArray.mk #[91] ++ strL id ++ ByteArray.mk #[93, 58, 32, 47]).size + (strL path).size := by simp only [ByteArray.size_append, strL_size]; simp [ByteArray.size]; omega
  have t1 : (strL ([] : List UInt8)).toList.isEmpty = true := by rw [← decide_eq_emptyBytes]; exact decide_eq_true rfl
  have z5 : ¬ 9223372036854775807 < (strL (List.replicate bl 32) ++ ByteArray.mk #[91] ++ strL id ++ ByteArray.mk #[93, 58, 32, 47] ++ strL path).size + (ByteArray.mk #[10]).size := by simp only [ByteArray.size_append, strL_size]; simp [ByteArray.size]; omega
  go_enter Tryz.func15, Tryz.ntmps15
  go_wp2_with fail
  go_quiet (first | (go_at_call 20; exact Calls.quiet_of_same (repeated_bl bl _ hbl)))
  go_wp2_with fail
  have hbw := below_dn2 ((Below.refl w.heap.size w).alloc (Nat.le_refl _) (.cells #[.int .u8 bl, .string (strL id), .string (strL path), .string (strL []), .int .u8 q, .bool nx] 34)) nq
  generalize World.drewN _ nq = W at *
  have HW := Lib.hid hbw
  clear hbw
  obtain ⟨cap, W1, hr, hrb, hbl1, hsz⟩ := bytes_RB (P := Tryz.prog) W 9 23 5 (defL bl id path [] (openQ q) (shutQ q) nx) (strL (List.replicate bl 32) ++ ByteArray.mk #[91] ++ strL id ++ ByteArray.mk #[93, 58, 32, 47] ++ strL path ++ ByteArray.mk #[10]) (eq_strL (by simp [defL, tailL, strL])) (by simp [defL, tailL]; omega) Tryz.underlying9 Tryz.underlying23 Tryz.underlying5
  have HRB := Lib.hid hrb
  have HBL := Lib.hid hbl1
  clear hrb hbl1
  rw [hr]
  go_wp2
  go_ret
  exact ⟨_, _, rfl, HRB.out, HW.out.trans (HBL.out.mono HW.out.size)⟩

end Go.Proofs.YtaljhebalgipjaaGreatDoor
