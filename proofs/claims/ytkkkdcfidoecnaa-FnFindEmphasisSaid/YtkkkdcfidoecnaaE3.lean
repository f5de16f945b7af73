/- The reference's search for the end of an emphasis: the function that goes on to a byte. -/
import Derived.Test.YtkkkdcfidoecnaaRows
import Derived.Test.YtkkkdcfidoecnaaE1
import Derived.Deep.QuietTactic
import Derived.BigQuiet
import Derived.Deep.Draws
namespace Go.Proofs.Ytkkkdcfidoecnaa
open Go.RowKit
set_option linter.unusedVariables false

theorem snb {a b : Int} (h : a ≠ b) : (a != b) = true ∧ (a == b) = false := ⟨by simpa using h, by simpa using h⟩
theorem seb {a b : Int} (h : a = b) : (a != b) = false ∧ (a == b) = true := ⟨by simpa using h, by simpa using h⟩
theorem sB_no {x y : Int} (h : y ≠ x) : isB x y = false := by simpa [isB] using h
theorem sB_yes {x y : Int} (h : y = x) : isB x y = true := by simpa [isB] using h

/-- The four boxes of the search: the slice, the character, the length, the place. -/
structure Bx (w : World) (B : Nat) (A : Option Addr) (n cap : Nat) (c : Int) (i : Nat) : Prop where
  cb : w.cell? ⟨B, 0, none⟩ = some (.slice A n cap)
  cc : w.cell? ⟨B + 1, 0, none⟩ = some (.int .u8 c)
  cn : w.cell? ⟨B + 1 + 1, 0, none⟩ = some (.int .i64 n)
  ci : w.cell? ⟨B + 1 + 1 + 1, 0, none⟩ = some (.int .i64 i)
  fi : w.frozen? ⟨B + 1 + 1 + 1, 0, none⟩ = false

theorem Bx.drewN {w : World} {B : Nat} {A : Option Addr} {n cap i : Nat} {c : Int} (h : Bx w B A n cap c i) (k : Nat) : Bx (w.drewN k) B A n cap c i := ⟨h.cb, h.cc, h.cn, h.ci, h.fi⟩
theorem Bx.set {w : World} {B : Nat} {A : Option Addr} {n cap i : Nat} {c : Int} (h : Bx w B A n cap c i) (j : Nat) (v : Value) (hv : v = .int .i64 j) : Bx (w.setCell ⟨B + 1 + 1 + 1, 0, none⟩ v) B A n cap c j := by
  subst hv
  exact ⟨(World.cell?_setCell_other _ _ _ _ (by simp <;> omega)).trans h.cb, (World.cell?_setCell_other _ _ _ _ (by simp <;> omega)).trans h.cc, (World.cell?_setCell_other _ _ _ _ (by simp)).trans h.cn,
    World.cell?_setCell_same _ _ _ h.ci, (World.frozen?_setCell _ _ _ _).trans h.fi⟩
theorem only_set {w w' : World} {g : Nat} (h : w.grownBy w' (some g)) (v : Value) : w.grownBy (w'.setCell ⟨g, 0, none⟩ v) (some g) :=
  ⟨h.os, h.tape, h.output, by simpa [World.setCell] using h.size, fun k hk hne => (Below.heap_setCell _ _ _ _ (fun e => hne (by rw [e]))).trans (h.block k hk hne)⟩
theorem only_draw {w w' : World} {g : Option Nat} (h : w.grownBy w' g) (n : Nat) : w.grownBy (w'.drewN n) g := ⟨h.os, h.tape, h.output, h.size, h.block⟩
theorem only_cell {w w' : World} {g : Nat} (h : w.grownBy w' (some g)) {b off : Nat} {v : Value} (hc : w.cell? ⟨b, off, none⟩ = some v) (hb : b ≠ g) : w'.cell? ⟨b, off, none⟩ = some v :=
  h.cell hc (by simpa using hb)

theorem meas_set {w : World} {a : Addr} {v u : Value} {q : Nat} (h : w.cell? a = some u) : (((w.drewN q).setCell a v).cell? a) = some v := World.cell?_setCell_same (w.drewN q) a v (u := u) h

set_option maxHeartbeats 1600000 in
set_option maxRecDepth 100000 in
theorem next_any (B b off n cap : Nat) (f : Nat → Int) (c e : Int) (i : Nat) (w : World) (hi : i ≤ n) (hn : n ≤ 100000) (hbB : b < B) (hr : ∀ j, 0 ≤ f j ∧ f j ≤ 255)
    (hcell : ∀ j, j < n → w.cell? ⟨b, off + j, none⟩ = some (.int .u8 (f j))) (hx : Bx w B (some ⟨b, off, none⟩) n cap c i) :
    Calls Try.prog 12 #[.int .u8 e, .pointer (some ⟨B + 1 + 1 + 1, 0, none⟩), .pointer (some ⟨B + 1 + 1, 0, none⟩), .pointer (some ⟨B, 0, none⟩), .pointer (some ⟨B + 1, 0, none⟩)] w fun en w' =>
      ∃ k t : Nat, en = .returned (.int .i64 t) ∧ Hid (scan (isB e) n f i = k ∧ noted (isB e) c n f i 0 = t) ∧ k ≤ n ∧ i ≤ k ∧ t ≤ n ∧ Hid (Bx w' B (some ⟨b, off, none⟩) n cap c k) ∧ w.grownBy w' (some (B + 1 + 1 + 1)) := by
  have HC := Lib.hid hcell; have HR := Lib.hid hr; have HX := Lib.hid hx
  clear hcell hr hx
  have hw0 : w.grownBy w (some (B + 1 + 1 + 1)) := World.grownBy.refl _ _
  go_enter Try.func12, Try.ntmps12
  go_wp2
  go_loopw [6] (fun tv wr => ∃ k t : Nat, Hid (scan (isB e) n f i = scan (isB e) n f k) ∧ Hid (noted (isB e) c n f i 0 = noted (isB e) c n f k t) ∧ i ≤ k ∧ k ≤ n ∧ t ≤ n ∧ tv = .int .i64 t ∧ Hid (Bx wr B (some ⟨b, off, none⟩) n cap c k) ∧ w.grownBy wr (some (B + 1 + 1 + 1)))
    (fun _ wr => n - (intOf ((wr.cell? ⟨B + 1 + 1 + 1, 0, none⟩).getD undef)).toNat)
  case atStart => exact ⟨i, 0, Lib.hid rfl, Lib.hid rfl, by omega, by omega, by omega, rfl, HX, hw0⟩
  case round =>
    obtain ⟨k, t, HK, HTT, hk1, hk2, ht, rfl, HX2, hg⟩ := hrel
    obtain ⟨x1, x2, x3, x4, x5⟩ := HX2.out
    by_cases hkl : k < n
    · have hck := only_cell hg (HC.out k hkl) (by omega)
      have hrk := HR.out k
      by_cases hp : f k = e
      · have HO : Hid (scan (isB e) n f i = k ∧ noted (isB e) c n f i 0 = t) := Lib.hid ⟨HK.out.trans (scan_hit (sB_yes hp)), HTT.out.trans (noted_hit (sB_yes hp))⟩
        have e6 := (seb hp).1
        clear hp
        go_wp2
        go_ret
        exact ⟨k, t, rfl, HO, hk2, hk1, ht, HX2, hg⟩
      · have e6 := (snb hp).1
        have HK' := Lib.hid (HK.out.trans (scan_go hkl (sB_no hp)))
        by_cases ht0 : t = 0
        · by_cases hfc : f k = c
          · have HT' : Hid (noted (isB e) c n f i 0 = noted (isB e) c n f (k + 1) k) := Lib.hid (HTT.out.trans (by rw [ht0]; exact noted_new hkl (sB_no hp) hfc))
            have e7 : ((t : Int) == 0) = true := by simp [ht0]
            have e8 := (seb hfc).2
            clear hp ht0 hfc
            go_wp2
            go_quiet (fail)
            go_wp2
            go_roundw
            case rel => exact ⟨k + 1, k, HK', HT', by omega, by omega, by omega, rfl, Lib.hid (by first | exact (HX2.out.drewN _).set (k + 1) _ (by go_num) | exact (HX2.out.set (k + 1) _ (by go_num)).drewN _ | exact HX2.out.set (k + 1) _ (by go_num)), by first | exact only_set (only_draw hg _) _ | exact only_draw (only_set hg _) _ | exact only_set hg _⟩
            case measure => rw [meas_set x4]; simp only [x4, Option.getD_some, intOf]; omega
          · have HT' : Hid (noted (isB e) c n f i 0 = noted (isB e) c n f (k + 1) t) := Lib.hid (HTT.out.trans (noted_go hkl (sB_no hp) (.inr hfc)))
            have e7 : ((t : Int) == 0) = true := by simp [ht0]
            have e8 := (snb hfc).2
            clear hp ht0 hfc
            go_wp2
            go_quiet (fail)
            go_wp2
            go_roundw
            case rel => exact ⟨k + 1, t, HK', HT', by omega, by omega, by omega, rfl, Lib.hid (by first | exact (HX2.out.drewN _).set (k + 1) _ (by go_num) | exact (HX2.out.set (k + 1) _ (by go_num)).drewN _ | exact HX2.out.set (k + 1) _ (by go_num)), by first | exact only_set (only_draw hg _) _ | exact only_draw (only_set hg _) _ | exact only_set hg _⟩
            case measure => rw [meas_set x4]; simp only [x4, Option.getD_some, intOf]; omega
        · have HT' : Hid (noted (isB e) c n f i 0 = noted (isB e) c n f (k + 1) t) := Lib.hid (HTT.out.trans (noted_go hkl (sB_no hp) (.inl ht0)))
          have e7 : ((t : Int) == 0) = false := by simp; omega
          clear hp ht0
          go_wp2
          go_quiet (fail)
          go_wp2
          go_roundw
          case rel => exact ⟨k + 1, t, HK', HT', by omega, by omega, by omega, rfl, Lib.hid (by first | exact (HX2.out.drewN _).set (k + 1) _ (by go_num) | exact (HX2.out.set (k + 1) _ (by go_num)).drewN _ | exact HX2.out.set (k + 1) _ (by go_num)), by first | exact only_set (only_draw hg _) _ | exact only_draw (only_set hg _) _ | exact only_set hg _⟩
          case measure => rw [meas_set x4]; simp only [x4, Option.getD_some, intOf]; omega
    · have HO : Hid (scan (isB e) n f i = k ∧ noted (isB e) c n f i 0 = t) := Lib.hid ⟨HK.out.trans (scan_end (by omega)), HTT.out.trans (noted_end (by omega))⟩
      go_wp2
      go_ret
      exact ⟨k, t, rfl, HO, hk2, hk1, ht, HX2, hg⟩
end Go.Proofs.Ytkkkdcfidoecnaa
