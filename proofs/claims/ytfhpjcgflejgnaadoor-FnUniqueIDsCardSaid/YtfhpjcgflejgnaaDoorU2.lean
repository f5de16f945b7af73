/- Ids made unique: numbers below 100 in decimal digits. -/
import Derived.Test.YtfhpjcgflejgnaaDoorU1
import Derived.Test.YtfhpjcgflejgnaaDoorProg
import Derived.Lib.ItoaWalk
import Derived.Lib.ItoaNum
import Derived.Lib.Strings
import Derived.RegionTactic
import Derived.Deep.RegionWith
namespace Go.Proofs.YtfhpjcgflejgnaaDoor
open Go.RowKit Go.Maps
set_option linter.unusedVariables false

theorem ba_of (x : ByteArray) (l : List UInt8) (h : x.data.toList = l) : x = ⟨l.toArray⟩ := by
  subst h
  cases x
  simp
theorem dec_lo (n : Nat) (h : n < 10) : Lib.decDigits n = [UInt8.ofNat (48 + n)] := by unfold Lib.decDigits; rw [dif_pos h]
theorem dec_hi (n : Nat) (h : ¬ n < 10) (h2 : n < 100) : Lib.decDigits n = [UInt8.ofNat (48 + n / 10), UInt8.ofNat (48 + n % 10)] := by
  rw [Lib.decDigits, dif_neg h, dec_lo _ (by omega)]; rfl
theorem dec_of (n : Nat) (h : n < 100) : decB n = ⟨(Lib.decDigits n).toArray⟩ := by
  unfold decB
  by_cases e : n < 10
  · rw [if_pos e, dec_lo n e]
  · rw [if_neg e, dec_hi n e h]
set_option maxHeartbeats 2000000 in
set_option maxRecDepth 100000 in
theorem small_any (n : Nat) (w : World) (hn : n < 100) :
    Calls Tryd.prog 49 #[.int .i64 n] w fun e w' => e = .returned (.string (decB n)) ∧ w = w' := by
  go_enter Tryd.func49, Tryd.ntmps49
  go_name_bytes_deep 45 SM hSM
  have eSM : SM = Lib.smalls := by rw [← hSM]; decide +kernel
  subst eSM
  clear hSM
  go_name_bytes_deep 30 DG hDG
  have eDG : DG = Lib.digits36 := by rw [← hDG]; decide +kernel
  subst eDG
  clear hDG
  by_cases h10 : n < 10
  · have hsl : ∀ w, (Instr.slice 9 (.string Lib.digits36) (some (.int .i64 (n : Int))) (some (.int .i64 ((n : Int) + 1))) none).run Tryd.prog w = .ok (.string (Lib.digits36.extract n (n + 1))) w := fun w => by
      rw [run_slice_string w 9 Lib.digits36 .i64 .i64 _ _ Tryd.underlying9 (by omega) (by omega) (by rw [Lib.digits36_size]; omega), show ((n : Int)).toNat = n by omega, show ((n : Int) + 1).toNat = n + 1 by omega]
    go_wp2
    go_ret
    refine ⟨?_, rfl⟩
    show Ending.returned (Value.string (Lib.digits36.extract n (n + 1))) = _
    rw [ba_of (Lib.digits36.extract n (n + 1)) (Lib.decDigits n) (by rw [Lib.extract_data]; exact Lib.digits36_piece h10), dec_of n hn]
  · have hsl : ∀ w, (Instr.slice 9 (.string Lib.smalls) (some (.int .i64 ((n : Int) * 2))) (some (.int .i64 ((n : Int) * 2 + 2))) none).run Tryd.prog w = .ok (.string (Lib.smalls.extract (n * 2) (n * 2 + 2))) w := fun w => by
      rw [run_slice_string w 9 Lib.smalls .i64 .i64 _ _ Tryd.underlying9 (by omega) (by omega) (by rw [Lib.smalls_size]; omega), show ((n : Int) * 2).toNat = n * 2 by omega, show ((n : Int) * 2 + 2).toNat = n * 2 + 2 by omega]
    go_wp2
    go_ret
    refine ⟨?_, rfl⟩
    show Ending.returned (Value.string (Lib.smalls.extract (n * 2) (n * 2 + 2))) = _
    rw [ba_of (Lib.smalls.extract (n * 2) (n * 2 + 2)) (Lib.decDigits n) (by rw [Lib.extract_data]; exact Lib.smalls_piece h10 hn), dec_of n hn]
theorem formatInt_any (n : Nat) (w : World) (hn : n < 100) :
    Calls Tryd.prog 42 #[.int .i64 n, .int .i64 10] w fun e w' => e = .returned (.string (decB n)) ∧ w = w' := by
  go_enter Tryd.func42, Tryd.ntmps42
  go_wp2_with fail
  refine (small_any n w hn).mono ?_
  rintro e w' ⟨rfl, rfl⟩
  go_wp2_with fail
  go_ret
  exact ⟨rfl, rfl⟩
theorem itoaIn_any (n : Nat) (w : World) (hn : n < 100) :
    Calls Tryd.prog 36 #[.int .i64 n] w fun e w' => e = .returned (.string (decB n)) ∧ w = w' := by
  go_enter Tryd.func36, Tryd.ntmps36
  go_wp2_with fail
  refine (formatInt_any n w hn).mono ?_
  rintro e w' ⟨rfl, rfl⟩
  go_wp2_with fail
  go_ret
  exact ⟨rfl, rfl⟩
theorem itoa_any (n : Nat) (w : World) (hn : n < 100) :
    Calls Tryd.prog 25 #[.int .i64 n] w fun e w' => e = .returned (.string (decB n)) ∧ w = w' := by
  go_enter Tryd.func25, Tryd.ntmps25
  go_wp2_with fail
  refine (itoaIn_any n w hn).mono ?_
  rintro e w' ⟨rfl, rfl⟩
  go_wp2_with fail
  go_ret
  exact ⟨rfl, rfl⟩
/-- A string of one byte. -/
theorem conv1 (w : World) (b : Nat) (x : Int) (h : w.cell? ⟨b, 0, none⟩ = some (.int .u8 x)) (h0 : 0 ≤ x) (h1 : x ≤ 255) :
    (convert 42 9 (.slice (some ⟨b, 0, none⟩) 1 1)).run Tryd.prog w = .ok (.string ⟨#[UInt8.ofNat x.toNat]⟩) w := by
  have hr := run_convert_bytes_back (P := Tryd.prog) w 42 9 5 ⟨b, 0, none⟩ 1 [UInt8.ofNat x.toNat] Tryd.underlying42 Tryd.underlying5 Tryd.underlying9 (fun j hj => by
    have e : j = 0 := by simpa using hj
    subst e
    rw [show (⟨b, 0, none⟩ : Addr).add 0 = ⟨b, 0, none⟩ from add_lit b 0 0, h]
    simp only [List.getElem_cons_zero, toNat_of x h0 h1])
  exact hr
set_option maxHeartbeats 1000000 in
theorem decimal_1 (x : Int) (w : World) (h0 : 0 ≤ x) (hn : x < 10) :
    Calls Tryd.prog 10 #[.int .i64 x] w fun e w' => e = .returned (.string (decB x.toNat)) ∧ Below w.heap.size w w' := by
  have hcv := conv1 (w.alloc (.cells #[.int .u8 (48 + x)] 5)) w.heap.size (48 + x) (by simp [go_sem]) (by omega) (by omega)
  have e : Hid ((⟨#[UInt8.ofNat (48 + x).toNat]⟩ : ByteArray) = decB x.toNat) := Lib.hid (by unfold decB; rw [if_pos (by omega), show (48 + x).toNat = 48 + x.toNat from by omega])
  rw [e.out] at hcv
  go_enter Tryd.func10, Tryd.ntmps10
  go_wp2
  go_ret
  exact ⟨rfl, (Below.refl _ _).alloc (Nat.le_refl _) _⟩
set_option maxHeartbeats 4000000 in
theorem decimal_2 (x : Int) (w : World) (h0 : 10 ≤ x) (hn : x < 100) :
    Calls Tryd.prog 10 #[.int .i64 x] w fun e w' => e = .returned (.string (decB x.toNat)) ∧ Below w.heap.size w w' := by
  have hcv := fun (w : World) (b : Nat) (h : w.cell? ⟨b, 0, none⟩ = some (.int .u8 (48 + x % 10))) => conv1 w b (48 + x % 10) h (by omega) (by omega)
  go_enter Tryd.func10, Tryd.ntmps10
  go_wp2_with fail
  have hsz := decB_size (x / 10).toNat
  have hsz2 : (⟨#[UInt8.ofNat (48 + x % 10).toNat]⟩ : ByteArray).size = 1 := rfl
  have ea : (decB (x / 10).toNat) ++ (⟨#[UInt8.ofNat (48 + x % 10).toNat]⟩ : ByteArray) = decB x.toNat := by
    unfold decB
    rw [if_pos (by omega), if_neg (by omega), show 48 + (x / 10).toNat = 48 + x.toNat / 10 from by omega, show (48 + x % 10).toNat = 48 + x.toNat % 10 from by omega]
    rfl
  have hadd : ∀ w, (Op.stringOp .add (decB (x / 10).toNat) ⟨#[UInt8.ofNat (48 + x % 10).toNat]⟩).run Tryd.prog w = .ok (.string (decB x.toNat)) w := fun w => by
    rw [← ea]
    exact run_string_add w _ _ (by omega) (by rw [hsz2]; decide)
  clear ea hsz hsz2
  have HD1 := fun w => Lib.hid (decimal_1 (x / 10) w (by omega) (by omega))
  have d1 : x.tdiv 10 = x / 10 := Int.tdiv_eq_ediv_of_nonneg (by omega)
  have d2 : x.tmod 10 = x % 10 := Int.tmod_eq_emod_of_nonneg (by omega)
  have d3 : IntKind.i64.wrap (x / 10) = x / 10 := IntWalk.i64_in _ (by omega)
  have d4 : IntKind.i64.wrap (48 + x % 10) = 48 + x % 10 := IntWalk.i64_in _ (by omega)
  have d5 : IntKind.u8.wrap (48 + x % 10) = 48 + x % 10 := IntWalk.u8_in _ (by omega)
  go_region_with (go_at_call 10; refine ((HD1 _).out).mono ?_; rintro e w1 ⟨rfl, hb1⟩; have hcw := fun b o h => hb1.cell (p := ⟨b, o, none⟩) h)
  all_goals
    go_wp2
    go_ret
    refine ⟨rfl, ?_⟩
    first
      | exact ((Below.refl _ w).drew.trans hb1).alloc (by have := hb1.size; simpa using this) _
      | exact ((Below.refl _ w).drew.alloc (Nat.le_refl _) _).trans (hb1.mono (by simp))
theorem decimal_any (x : Int) (w : World) (h0 : 0 ≤ x) (hn : x < 100) :
    Calls Tryd.prog 10 #[.int .i64 x] w fun e w' => e = .returned (.string (decB x.toNat)) ∧ Below w.heap.size w w' := by
  by_cases h : x < 10
  · exact decimal_1 x w h0 h
  · exact decimal_2 x w (by omega) hn
end Go.Proofs.YtfhpjcgflejgnaaDoor
