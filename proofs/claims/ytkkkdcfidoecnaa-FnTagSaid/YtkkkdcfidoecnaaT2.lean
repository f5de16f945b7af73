/- Contracts of the small functions that tags need. -/
import Derived.Test.YtkkkdcfidoecnaaRows
import Derived.Test.YtkkkdcfidoecnaaT1
import Derived.Lib.BytesEntry
import Derived.Lib.Bytealg
import Derived.Lib.IndexLaws
namespace Go.Proofs.Ytkkkdcfidoecnaa
open Go.RowKit
set_option linter.unusedVariables false

theorem wb_any (c : Int) (w : World) :
    Calls Try.prog 14 #[.int .u8 c] w fun e w' => e = .returned (.bool (wch c)) ∧ w = w' := by
  go_enter Try.func14, Try.ntmps14
  go_wp2
  all_goals go_ret
  all_goals exact ⟨ret_bool (by first | rfl | (rw [Bool.eq_iff_iff]; simp [wch] <;> omega)), rfl⟩
theorem an_any (c : Int) (w : World) :
    Calls Try.prog 22 #[.int .u8 c] w fun e w' => e = .returned (.bool (wch c)) ∧ w = w' := by
  go_enter Try.func22, Try.ntmps22
  go_wp2
  all_goals go_ret
  all_goals exact ⟨ret_bool (by first | rfl | (rw [Bool.eq_iff_iff]; simp [wch] <;> omega)), rfl⟩
theorem isspace_any (c : Int) (w : World) :
    Calls Try.prog 24 #[.int .u8 c] w fun e w' => e = .returned (.bool (spc c)) ∧ w = w' := by
  go_enter Try.func24, Try.ntmps24
  go_wp2
  all_goals go_ret
  all_goals refine ⟨ret_bool ?_, rfl⟩
  all_goals first | rfl | (simp_all [spc]; done) | (rw [Bool.eq_iff_iff]; simp_all [spc] <;> omega)
def sp5 (c : Int) : Bool := decide (c = 32) || decide (c = 9) || decide (c = 10) || decide (c = 12) || decide (c = 13)
theorem inSpace_any (c : Int) (w : World) :
    Calls Try.prog 19 #[.int .u8 c] w fun e w' => e = .returned (.bool (sp5 c)) ∧ w = w' := by
  go_enter Try.func19, Try.ntmps19
  go_wp2
  all_goals go_ret
  all_goals refine ⟨ret_bool ?_, rfl⟩
  all_goals first | rfl | (simp_all [sp5]; done) | (rw [Bool.eq_iff_iff]; simp_all [sp5] <;> omega)
theorem tch_any (c : Int) (w : World) :
    Calls Try.prog 16 #[.int .u8 c] w fun e w' => e = .returned (.bool (tch c)) ∧ w = w' := by
  go_enter Try.func16, Try.ntmps16
  go_wp2_with (go_at_call 14; refine (wb_any _ _).mono ?_; rintro e w' ⟨rfl, rfl⟩)
  all_goals go_ret
  all_goals refine ⟨ret_bool ?_, rfl⟩
  all_goals first | rfl | (simp_all [tch]; done) | (rw [Bool.eq_iff_iff]; simp_all [tch] <;> omega)
theorem mch_any (c : Int) (w : World) :
    Calls Try.prog 18 #[.int .u8 c] w fun e w' => e = .returned (.bool (mch c)) ∧ w = w' := by
  go_enter Try.func18, Try.ntmps18
  go_wp2_with (go_at_call 14; refine (wb_any _ _).mono ?_; rintro e w' ⟨rfl, rfl⟩)
  all_goals go_ret
  all_goals refine ⟨ret_bool ?_, rfl⟩
  all_goals first | rfl | (simp_all [mch]; done) | (rw [Bool.eq_iff_iff]; simp_all [mch] <;> omega)

/-- inAt: whether c stands at i. -/
theorem inAt_any (A : Option Addr) (n cap : Nat) (f : Nat → Int) (i : Nat) (c : Int) (w : World) (B : Nat) (h : RB w B A n cap f) (hi : i ≤ n) (hn : n ≤ 100000) :
    Calls Try.prog 17 #[.slice A n cap, .int .i64 i, .int .u8 c] w fun e w' => e = .returned (.bool (decide (i < n ∧ f i = c))) ∧ w = w' := by
  by_cases hlt : i < n
  · obtain ⟨b, off, rfl, hB, hc⟩ := h.2.2.2 (by omega)
    have hci := hc i hlt
    clear h hc
    by_cases he : f i = c
    · have HO : Hid (decide (i < n ∧ f i = c) = true) := Lib.hid (by simp [hlt, he])
      have e1 : (f i == c) = true := by simpa using he
      clear he
      go_enter Try.func17, Try.ntmps17
      go_wp2
      go_ret
      exact ⟨ret_bool (by rw [HO.out]), rfl⟩
    · have HO : Hid (decide (i < n ∧ f i = c) = false) := Lib.hid (by simp [hlt, he])
      have e1 : (f i == c) = false := by simpa using he
      clear he
      go_enter Try.func17, Try.ntmps17
      go_wp2
      go_ret
      exact ⟨ret_bool (by rw [HO.out]), rfl⟩
  · have HO : Hid (decide (i < n ∧ f i = c) = false) := Lib.hid (by simp [hlt])
    clear h
    go_enter Try.func17, Try.ntmps17
    go_wp2
    go_ret
    exact ⟨ret_bool (by rw [HO.out]), rfl⟩

/-- inRun with the characters of a scheme. -/
theorem inRunT_any (A : Option Addr) (n cap : Nat) (f : Nat → Int) (i : Nat) (w : World) (B : Nat) (h : RB w B A n cap f) (hi : i ≤ n) (hn : n ≤ 100000) :
    Calls Try.prog 15 #[.slice A n cap, .int .i64 i, .func (.func 16) #[] #[]] w fun e w' => e = .returned (.int .i64 (scan notT n f i)) ∧ w = w' := by
  have HH := Lib.hid h
  clear h
  go_enter Try.func15, Try.ntmps15
  go_wp2
  go_loop [1] (fun jv => ∃ j : Nat, Hid (scan notT n f i = scan notT n f j) ∧ j ≤ n ∧ jv = .int .i64 j) (fun jv => n - (intOf jv).toNat)
  case atStart => exact ⟨i, Lib.hid rfl, hi, rfl⟩
  case round =>
    obtain ⟨j, HS, hj, rfl⟩ := hrel
    by_cases hjl : j < n
    · obtain ⟨b, off, rfl, hB, hc⟩ := HH.out.2.2.2 (by omega)
      have hcj := hc j hjl
      clear hc
      by_cases ht : tch (f j) = true
      · have HN := Lib.hid (HS.out.trans (scan_go hjl (by unfold notT; rw [ht]; rfl)))
        go_wp2_with (go_at_call 16; refine (tch_any _ _).mono ?_; rintro e w' ⟨rfl, rfl⟩)
        go_round
        case rel => exact ⟨j + 1, HN, by omega, by go_num⟩
        case measure => simp [intOf]; omega
      · have ht' : tch (f j) = false := by simpa using ht
        have HO := Lib.hid (HS.out.trans (scan_hit (by unfold notT; rw [ht']; rfl)))
        clear ht
        go_wp2_with (go_at_call 16; refine (tch_any _ _).mono ?_; rintro e w' ⟨rfl, rfl⟩)
        go_ret
        exact ⟨ret_int (by rw [HO.out]), rfl⟩
    · have HO := Lib.hid (HS.out.trans (scan_end (by omega)))
      go_wp2
      go_ret
      exact ⟨ret_int (by rw [HO.out]), rfl⟩
theorem inRunM_any (A : Option Addr) (n cap : Nat) (f : Nat → Int) (i : Nat) (w : World) (B : Nat) (h : RB w B A n cap f) (hi : i ≤ n) (hn : n ≤ 100000) :
    Calls Try.prog 15 #[.slice A n cap, .int .i64 i, .func (.func 18) #[] #[]] w fun e w' => e = .returned (.int .i64 (scan notM n f i)) ∧ w = w' := by
  have HH := Lib.hid h
  clear h
  go_enter Try.func15, Try.ntmps15
  go_wp2
  go_loop [1] (fun jv => ∃ j : Nat, Hid (scan notM n f i = scan notM n f j) ∧ j ≤ n ∧ jv = .int .i64 j) (fun jv => n - (intOf jv).toNat)
  case atStart => exact ⟨i, Lib.hid rfl, hi, rfl⟩
  case round =>
    obtain ⟨j, HS, hj, rfl⟩ := hrel
    by_cases hjl : j < n
    · obtain ⟨b, off, rfl, hB, hc⟩ := HH.out.2.2.2 (by omega)
      have hcj := hc j hjl
      clear hc
      by_cases ht : mch (f j) = true
      · have HN := Lib.hid (HS.out.trans (scan_go hjl (by unfold notM; rw [ht]; rfl)))
        go_wp2_with (go_at_call 18; refine (mch_any _ _).mono ?_; rintro e w' ⟨rfl, rfl⟩)
        go_round
        case rel => exact ⟨j + 1, HN, by omega, by go_num⟩
        case measure => simp [intOf]; omega
      · have ht' : mch (f j) = false := by simpa using ht
        have HO := Lib.hid (HS.out.trans (scan_hit (by unfold notM; rw [ht']; rfl)))
        clear ht
        go_wp2_with (go_at_call 18; refine (mch_any _ _).mono ?_; rintro e w' ⟨rfl, rfl⟩)
        go_ret
        exact ⟨ret_int (by rw [HO.out]), rfl⟩
    · have HO := Lib.hid (HS.out.trans (scan_end (by omega)))
      go_wp2
      go_ret
      exact ⟨ret_int (by rw [HO.out]), rfl⟩

/-- The first place of a byte, or -1. -/
theorem indexByte_scan (n : Nat) (f : Nat → Int) (c : Int) (hf : ∀ j, 0 ≤ f j ∧ f j ≤ 255) (hc : 0 ≤ c ∧ c ≤ 255) :
    Lib.indexByte (Lib.bytesOf ((List.range n).map f)) c.toNat.toUInt8 = if scan (isB c) n f 0 < n then (scan (isB c) n f 0 : Int) else -1 := by
  have hget : ∀ k, k < n → (Lib.bytesOf ((List.range n).map f))[k]? = some (UInt8.ofNat (f k).toNat) := fun k hk => by simp [Lib.bytesOf, hk]
  have hsame : ∀ k, UInt8.ofNat (f k).toNat = c.toNat.toUInt8 ↔ f k = c := fun k => by
    constructor
    · intro h
      have := congrArg UInt8.toNat h
      simp only [UInt8.toNat_ofNat', Nat.toUInt8] at this
      have := hf k; omega
    · intro h; rw [h]
  obtain ⟨a, b, c1, d⟩ := scan_spec (isB c) n f (Nat.zero_le n)
  by_cases h : Lib.indexByte (Lib.bytesOf ((List.range n).map f)) c.toNat.toUInt8 = -1
  · have hn := Lib.indexByte_none h
    have : ¬ scan (isB c) n f 0 < n := fun hlt => by
      have h1 := d hlt
      have h2 := hn (scan (isB c) n f 0)
      rw [hget _ hlt] at h2
      apply h2
      rw [(hsame _).2 (by simpa [isB] using h1)]
    rw [if_neg this, h]
  · obtain ⟨o, ho⟩ : ∃ o : Nat, Lib.indexByte (Lib.bytesOf ((List.range n).map f)) c.toNat.toUInt8 = o := by
      have := Lib.indexByte_ge (Lib.bytesOf ((List.range n).map f)) c.toNat.toUInt8
      exact ⟨(Lib.indexByte (Lib.bytesOf ((List.range n).map f)) c.toNat.toUInt8).toNat, by omega⟩
    obtain ⟨h1, h2⟩ := Lib.indexByte_some ho
    have hon : o < n := by
      have := (List.getElem?_eq_some_iff.1 h1).1
      simpa [Lib.bytesOf] using this
    rw [hget o hon] at h1
    have hoc : f o = c := (hsame o).1 (by injection h1)
    have hs : scan (isB c) n f 0 = o := scan_eq o 0 o (by omega) (by omega) (fun j _ hj => by
      have := h2 j hj
      rw [hget j (by omega)] at this
      simp only [isB, decide_eq_false_iff_not]
      intro he
      exact this (by rw [(hsame j).2 he])) (.inr (by simp [isB, hoc]))
    rw [hs, if_pos hon, ho]

theorem indexByte_any (A : Option Addr) (n cap : Nat) (f : Nat → Int) (c : Int) (w : World) (B : Nat) (h : RB w B A n cap f) (hc : 0 ≤ c ∧ c ≤ 255) :
    Calls Try.prog 25 #[.slice A n cap, .int .u8 c] w fun e w' => e = .returned (.int .i64 (if scan (isB c) n f 0 < n then (scan (isB c) n f 0 : Int) else -1)) ∧ w = w' := by
  have HI := Lib.hid (indexByte_scan n f c h.rng hc)
  have hrun : (Extern.BytealgIndexByte.indexByte #[.slice A n cap, .int .u8 c]).run Try.prog w = .ok (.int .i64 (Lib.indexByte (Lib.bytesOf ((List.range n).map f)) c.toNat.toUInt8)) w := by
    cases A with
    | none =>
      obtain rfl : n = 0 := by
        rcases Nat.eq_zero_or_pos n with h0 | h0
        · exact h0
        · obtain ⟨b, off, e, _⟩ := h.2.2.2 h0; cases e
      rw [Lib.run_indexByteNil]; rfl
    | some a =>
      rcases Nat.eq_zero_or_pos n with rfl | hn0
      · have hs := Lib.run_indexByteNil (P := Try.prog) w 0 0 c
        exact hs
      · obtain ⟨b, off, e, _, hcell⟩ := h.2.2.2 hn0
        injection e with e
        subst e
        refine Lib.run_indexByteSlice w b off n cap ((List.range n).map f) (by simp) (fun i hi => ?_) c
        rw [hcell i hi]
        simp [hi]
  rw [HI.out] at hrun
  have hcall := fun args w => run_callFunc_extern (P := Try.prog) Try.func29 (by kernel_rfl) (by kernel_rfl) (by kernel_rfl) (e := Extern.BytealgIndexByte.indexByte) (by kernel_rfl) args w
  generalize (if scan (isB c) n f 0 < n then (scan (isB c) n f 0 : Int) else -1) = v at hrun
  clear h HI hc
  go_enter Try.func25, Try.ntmps25
  go_wp2
  go_ret
  exact ⟨rfl, rfl⟩
end Go.Proofs.Ytkkkdcfidoecnaa
