/- Reference definitions: the text with a title in the quotes 1. -/
import Derived.Test.YtaljhebalgipjaaGreatDoorD4
namespace Go.Proofs.YtaljhebalgipjaaGreatDoor
open Go.RowKit
set_option linter.unusedVariables false

set_option maxHeartbeats 8000000 in
set_option maxRecDepth 100000 in
theorem defText_1false (w : World) (bl : Nat) (id path : List UInt8) (th : UInt8) (ts : List UInt8) (hbl : bl ≤ 3) (h1 : id.length ≤ 20) (h2 : path.length ≤ 20) (h3 : ts.length ≤ 60) :
    Calls Tryz.prog 15 #[.agg #[.int .u8 bl, .string (strL id), .string (strL path), .string (strL (th :: ts)), .int .u8 1, .bool false]] w fun e w' => DefT w w' (defL bl id path (th :: ts) 39 39 false) e := by
  have z1 : ¬ 9223372036854775807 < (strL (List.replicate bl 32)).size + (ByteArray.mk #[91]).size := by rw [strL_size]; simp [ByteArray.size]; omega
  have z2 : ¬ 9223372036854775807 < (strL (List.replicate bl 32) ++ ByteArray.mk #[91]).size + (strL id).size := by rw [ByteArray.size_append, strL_size, strL_size]; simp [ByteArray.size]; omega
  have z3 : ¬ 9223372036854775807 < (strL (List.replicate bl 32) ++ ByteArray.mk #[91] ++ strL id).size + (ByteArray.mk #[93, 58, 32, 47]).size := by simp only [ByteArray.size_append, strL_size]; simp [ByteArray.size]; omega
  have z4 : ¬ 9223372036854775807 < (strL (List.replicate bl 32) ++ ByteArray.mk #[91] ++ strL id ++ ByteArray.mk #[93, 58, 32, 47]).size + (strL path).size := by simp only [ByteArray.size_append, strL_size]; simp [ByteArray.size]; omega
  have t1 : (strL (th :: ts)).toList.isEmpty = false := strL_cons th ts
  have z5 : ¬ 9223372036854775807 < (ByteArray.mk #[32]).size + (ByteArray.mk #[39]).size := by simp [ByteArray.size]
  have z6 : ¬ 9223372036854775807 < (ByteArray.mk #[32] ++ ByteArray.mk #[39]).size + (strL (th :: ts)).size := by simp only [ByteArray.size_append, strL_size]; simp [ByteArray.size]; omega
  have z7 : ¬ 9223372036854775807 < (ByteArray.mk #[32] ++ ByteArray.mk #[39] ++ strL (th :: ts)).size + (ByteArray.mk #[39]).size := by simp only [ByteArray.size_append, strL_size]; simp [ByteArray.size]; omega
  have z8 : ¬ 9223372036854775807 < (strL (List.replicate bl 32) ++ ByteArray.mk #[91] ++ strL id ++ ByteArray.mk #[93, 58, 32, 47] ++ strL path).size + (ByteArray.mk #[32] ++ ByteArray.mk #[39] ++ strL (th :: ts) ++ ByteArray.mk #[39]).size := by simp only [ByteArray.size_append, strL_size]; simp [ByteArray.size]; omega
  have z9 : ¬ 9223372036854775807 < (strL (List.replicate bl 32) ++ ByteArray.mk #[91] ++ strL id ++ ByteArray.mk #[93, 58, 32, 47] ++ strL path ++ (ByteArray.mk #[32] ++ ByteArray.mk #[39] ++ strL (th :: ts) ++ ByteArray.mk #[39])).size + (ByteArray.mk #[10]).size := by simp only [ByteArray.size_append, strL_size]; simp [ByteArray.size]; omega
  go_enter Tryz.func15, Tryz.ntmps15
  go_wp2_with fail
  go_quiet (first | (go_at_call 20; exact Calls.quiet_of_same (repeated_bl bl _ hbl)))
  go_wp2_with fail
  have k3 : ((w.alloc (.cells #[.int .u8 bl, .string (strL id), .string (strL path), .string (strL (th :: ts)), .int .u8 1, .bool false] 34)).drewN nq).cell? ⟨w.heap.size, 3, none⟩ = some (.string (strL (th :: ts))) := by simp [go_sem]
  have k4 : ((w.alloc (.cells #[.int .u8 bl, .string (strL id), .string (strL path), .string (strL (th :: ts)), .int .u8 1, .bool false] 34)).drewN nq).cell? ⟨w.heap.size, 4, none⟩ = some (.int .u8 1) := by simp [go_sem]
  have hbw := below_dn2 ((Below.refl w.heap.size w).alloc (Nat.le_refl _) (.cells #[.int .u8 bl, .string (strL id), .string (strL path), .string (strL (th :: ts)), .int .u8 1, .bool false] 34)) nq
  have hsz0 : ((w.alloc (.cells #[.int .u8 bl, .string (strL id), .string (strL path), .string (strL (th :: ts)), .int .u8 1, .bool false] 34)).drewN nq).heap.size = w.heap.size + 1 := by simp
  generalize World.drewN _ nq = W0 at *
  have HW0 := Lib.hid hbw
  have hlt : w.heap.size < W0.heap.size := by omega
  clear hbw hsz0
  go_region
  all_goals
    clear k3 k4
    generalize hWW : World.drew _ = W
    have hbw : Below w.heap.size w W := by rw [← hWW]; exact Below.drew (Below.alloc (Below.alloc HW0.out (by omega) _) (by simp; omega) _)
    have HW := Lib.hid hbw
    clear hbw hWW
    obtain ⟨cap, W1, hr, hrb, hbl1, hsz⟩ := bytes_RB (P := Tryz.prog) W 9 23 5 (defL bl id path (th :: ts) 39 39 false) (strL (List.replicate bl 32) ++ ByteArray.mk #[91] ++ strL id ++ ByteArray.mk #[93, 58, 32, 47] ++ strL path ++ (ByteArray.mk #[32] ++ ByteArray.mk #[39] ++ strL (th :: ts) ++ ByteArray.mk #[39]) ++ ByteArray.mk #[10]) (eq_strL (by simp [defL, tailL, strL])) (by simp [defL, tailL]; omega) Tryz.underlying9 Tryz.underlying23 Tryz.underlying5
    have HRB := Lib.hid hrb
    have HBL := Lib.hid hbl1
    clear hrb hbl1
    go_wp2
    go_ret
    exact ⟨_, _, rfl, HRB.out, HW.out.trans (HBL.out.mono HW.out.size)⟩
set_option maxHeartbeats 8000000 in
set_option maxRecDepth 100000 in
theorem defText_1true (w : World) (bl : Nat) (id path : List UInt8) (th : UInt8) (ts : List UInt8) (hbl : bl ≤ 3) (h1 : id.length ≤ 20) (h2 : path.length ≤ 20) (h3 : ts.length ≤ 60) :
    Calls Tryz.prog 15 #[.agg #[.int .u8 bl, .string (strL id), .string (strL path), .string (strL (th :: ts)), .int .u8 1, .bool true]] w fun e w' => DefT w w' (defL bl id path (th :: ts) 39 39 true) e := by
  have z1 : ¬ 9223372036854775807 < (strL (List.replicate bl 32)).size + (ByteArray.mk #[91]).size := by rw [strL_size]; simp [ByteArray.size]; omega
  have z2 : ¬ 9223372036854775807 < (strL (List.replicate bl 32) ++ ByteArray.mk #[91]).size + (strL id).size := by rw [ByteArray.size_append, strL_size, strL_size]; simp [ByteArray.size]; omega
  have z3 : ¬ 9223372036854775807 < (strL (List.replicate bl 32) ++ ByteArray.mk #[91] ++ strL id).size + (ByteArray.mk #[93, 58, 32, 47]).size := by simp only [ByteArray.size_append, strL_size]; simp [ByteArray.size]; omega
  have z4 : ¬ 9223372036854775807 < (strL (List.replicate bl 32) ++ ByteArray.mk #[91] ++ strL id ++ ByteArray.mk #[93, 58, 32, 47]).size + (strL path).size := by simp only [ByteArray.size_append, strL_size]; simp [ByteArray.size]; omega
  have t1 : (strL (th :: ts)).toList.isEmpty = false := strL_cons th ts
  have z5 : ¬ 9223372036854775807 < (ByteArray.mk #[10, 32, 32]).size + (ByteArray.mk #[39]).size := by simp [ByteArray.size]
  have z6 : ¬ 9223372036854775807 < (ByteArray.mk #[10, 32, 32] ++ ByteArray.mk #[39]).size + (strL (th :: ts)).size := by simp only [ByteArray.size_append, strL_size]; simp [ByteArray.size]; omega
  have z7 : ¬ 9223372036854775807 < (ByteArray.mk #[10, 32, 32] ++ ByteArray.mk #[39] ++ strL (th :: ts)).size + (ByteArray.mk #[39]).size := by simp only [ByteArray.size_append, strL_size]; simp [ByteArray.size]; omega
  have z8 : ¬ 9223372036854775807 < (strL (List.replicate bl 32) ++ ByteArray.mk #[91] ++ strL id ++ ByteArray.mk #[93, 58, 32, 47] ++ strL path).size + (ByteArray.mk #[10, 32, 32] ++ ByteArray.mk #[39] ++ strL (th :: ts) ++ ByteArray.mk #[39]).size := by simp only [ByteArray.size_append, strL_size]; simp [ByteArray.size]; omega
  have z9 : ¬ 9223372036854775807 < (strL (List.replicate bl 32) ++ ByteArray.mk #[91] ++ strL id ++ ByteArray.mk #[93, 58, 32, 47] ++ strL path ++ (ByteArray.mk #[10, 32, 32] ++ ByteArray.mk #[39] ++ strL (th :: ts) ++ ByteArray.mk #[39])).size + (ByteArray.mk #[10]).size := by simp only [ByteArray.size_append, strL_size]; simp [ByteArray.size]; omega
  go_enter Tryz.func15, Tryz.ntmps15
  go_wp2_with fail
  go_quiet (first | (go_at_call 20; exact Calls.quiet_of_same (repeated_bl bl _ hbl)))
  go_wp2_with fail
  have k3 : ((w.alloc (.cells #[.int .u8 bl, .string (strL id), .string (strL path), .string (strL (th :: ts)), .int .u8 1, .bool true] 34)).drewN nq).cell? ⟨w.heap.size, 3, none⟩ = some (.string (strL (th :: ts))) := by simp [go_sem]
  have k4 : ((w.alloc (.cells #[.int .u8 bl, .string (strL id), .string (strL path), .string (strL (th :: ts)), .int .u8 1, .bool true] 34)).drewN nq).cell? ⟨w.heap.size, 4, none⟩ = some (.int .u8 1) := by simp [go_sem]
  have hbw := below_dn2 ((Below.refl w.heap.size w).alloc (Nat.le_refl _) (.cells #[.int .u8 bl, .string (strL id), .string (strL path), .string (strL (th :: ts)), .int .u8 1, .bool true] 34)) nq
  have hsz0 : ((w.alloc (.cells #[.int .u8 bl, .string (strL id), .string (strL path), .string (strL (th :: ts)), .int .u8 1, .bool true] 34)).drewN nq).heap.size = w.heap.size + 1 := by simp
  generalize World.drewN _ nq = W0 at *
  have HW0 := Lib.hid hbw
  have hlt : w.heap.size < W0.heap.size := by omega
  clear hbw hsz0
  go_region
  all_goals
    clear k3 k4
    generalize hWW : World.drew _ = W
    have hbw : Below w.heap.size w W := by rw [← hWW]; exact Below.drew (Below.alloc (Below.alloc HW0.out (by omega) _) (by simp; omega) _)
    have HW := Lib.hid hbw
    clear hbw hWW
    obtain ⟨cap, W1, hr, hrb, hbl1, hsz⟩ := bytes_RB (P := Tryz.prog) W 9 23 5 (defL bl id path (th :: ts) 39 39 true) (strL (List.replicate bl 32) ++ ByteArray.mk #[91] ++ strL id ++ ByteArray.mk #[93, 58, 32, 47] ++ strL path ++ (ByteArray.mk #[10, 32, 32] ++ ByteArray.mk #[39] ++ strL (th :: ts) ++ ByteArray.mk #[39]) ++ ByteArray.mk #[10]) (eq_strL (by simp [defL, tailL, strL])) (by simp [defL, tailL]; omega) Tryz.underlying9 Tryz.underlying23 Tryz.underlying5
    have HRB := Lib.hid hrb
    have HBL := Lib.hid hbl1
    clear hrb hbl1
    go_wp2
    go_ret
    exact ⟨_, _, rfl, HRB.out, HW.out.trans (HBL.out.mono HW.out.size)⟩
end Go.Proofs.YtaljhebalgipjaaGreatDoor
