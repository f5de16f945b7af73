/- Reference definitions: the door; the reference's tests. -/
import Derived.Test.YtaljhebalgipjaaGreatDoorD8
namespace Go.Proofs.YtaljhebalgipjaaGreatDoor
open Go.RowKit
set_option linter.unusedVariables false

theorem below_grown {B : Nat} {a b c : World} {m : Nat} (h : Below B a b) (g : b.grownBy c (some m)) (hB : B ≤ b.heap.size) (hm : B ≤ m) : Below B a c :=
  ⟨g.os.trans h.os, g.tape.trans h.tape, g.output.trans h.output, Nat.le_trans h.size g.size, fun k hk => (g.block k (by omega) (fun e => by injection e with e; omega)).trans (h.block k hk)⟩
theorem below_none {w w' : World} (h : Below w.heap.size w w') : w.grownBy w' none := ⟨h.os, h.tape, h.output, h.size, fun k hk _ => h.block k hk⟩

set_option maxHeartbeats 4000000 in
set_option maxRecDepth 100000 in
theorem definition_any (x : Int) (A : Option Addr) (n cap : Nat) (f : Nat → Int) (bl K J I2 i0 L T R Z : Nat) (w : World) (h : RB w w.heap.size A n cap f) (hn : n ≤ 100000) (hx0 : 0 ≤ x) (hx1 : x ≤ 131070)
    (hH : Head f bl K J I2 i0) (hink : inkB (f i0)) (hi : i0 ≤ L) (hLn : L ≤ n) (hTR : T ≤ R) (hRn : R ≤ n) (hZ0 : 0 < Z) (hin : i0 < n) (hTn : T < n)
    (hS : ∀ (p A' : Option Addr) (c' : Nat) (w' : World) (B : Nat), RB w' B A' n c' f → Calls Tryz.prog 48 #[.pointer p, .slice A' n c', .int .i64 i0] w' fun e w'' => e = .returned (.tuple #[.int .i64 i0, .int .i64 L, .int .i64 T, .int .i64 R, .int .i64 Z]) ∧ w' = w'') :
    Calls Tryz.prog 16 #[.int .i64 x, .slice A n cap] w fun e w' =>
      e = .returned (.tuple #[.int .i64 Z, .string (lowStr f K J), .string (subStr f i0 L), .string (subStr f T R), .bool false]) ∧ Below w.heap.size w w' := by
  have HR := Lib.hid h; have HS := Lib.hid hS; have HH := Lib.hid hH
  clear h hS hH
  go_enter Tryz.func16, Tryz.ntmps16
  go_wp2_with fail
  refine (parser_x x w hx0 hx1).mono ?_
  rintro e w1 ⟨⟨pb, mb, rfl, c259, c2, HM, hpb, hmb⟩, hb1⟩
  go_wp2_with fail
  refine (own_any A n cap f w1 ((HR.out.below hb1).more hb1.size) (by omega)).mono ?_
  rintro e w2 ⟨A2, c2', rfl, HC, hb2⟩
  have hpl : pb < w1.heap.size := World.block_lt_of_cell? w1 ⟨pb, 2, none⟩ c2
  have d259 := (hb2.cell (p := ⟨pb, 259, none⟩) hpl).trans c259
  have d2 := (hb2.cell (p := ⟨pb, 2, none⟩) hpl).trans c2
  have hrb := HC.out.2.1
  have HD := Lib.hid (readRef_any pb mb x A2 n c2' f bl K J I2 i0 L T R Z w2 hrb hn d259 d2 (HM.out.kept (below_none hb2) (by simp)) HH.out hink hi hLn hTR hRn hZ0 hin hTn (HS.out _ A2 c2' w2 _ hrb))
  have HB2 := Lib.hid (hb1.trans (hb2.mono hb1.size))
  clear hrb hb1 hb2 c259 c2 d259 d2
  go_wp2_with fail
  refine HD.out.mono ?_
  rintro e w3 ⟨rfl, hg3⟩
  have HB3 := Lib.hid (below_grown HB2.out hg3 HB2.out.size hmb)
  clear hg3
  go_wp2_with fail
  (try simp only [Exit.inBlock, Exit.then])
  refine bodyPost_ret (results5 rfl _ _ _) rfl ?_
  exact ⟨rfl, HB3.out⟩

set_option maxHeartbeats 1600000 in
theorem fits32_of (w : World) (bl q : Int) (id path title : ByteArray) (nx : Bool) (h1 : id.size ≤ 9223372036854775807) (h2 : path.size ≤ 9223372036854775807) (h3 : title.size ≤ 9223372036854775807) :
    Calls Tryz.prog 10 #[.agg #[.int .u8 bl, .string id, .string path, .string title, .int .u8 q, .bool nx]] w fun e w' => BoolP (id.size ≤ 2147483647 ∧ path.size ≤ 2147483647 ∧ title.size ≤ 2147483647) e ∧ Below w.heap.size w w' := by
  have HB := Lib.hid ((Below.refl w.heap.size w).alloc (Nat.le_refl _) (.cells #[.int .u8 bl, .string id, .string path, .string title, .int .u8 q, .bool nx] 34))
  by_cases k1 : 2147483647 < id.size
  · go_enter Tryz.func10, Tryz.ntmps10
    go_wp2
    go_ret
    exact ⟨⟨false, rfl, fun h => by cases h⟩, HB.out⟩
  by_cases k2 : 2147483647 < path.size
  · go_enter Tryz.func10, Tryz.ntmps10
    go_wp2
    go_ret
    exact ⟨⟨false, rfl, fun h => by cases h⟩, HB.out⟩
  by_cases k3 : 2147483647 < title.size
  · go_enter Tryz.func10, Tryz.ntmps10
    go_wp2
    go_ret
    exact ⟨⟨false, rfl, fun h => by cases h⟩, HB.out⟩
  have HP := Lib.hid (show id.size ≤ 2147483647 ∧ path.size ≤ 2147483647 ∧ title.size ≤ 2147483647 by omega)
  go_enter Tryz.func10, Tryz.ntmps10
  go_wp2
  go_ret
  exact ⟨⟨true, rfl, fun _ => HP.out⟩, HB.out⟩

set_option maxHeartbeats 1600000 in
theorem fits5_of (w : World) (B : Nat) (A : Option Addr) (n c : Nat) (g : Nat → ByteArray) (h : RS w B A n c g) (hn : n ≤ 9223372036854775807) (hs : ∀ j, j < n → (g j).size ≤ 9223372036854775807) :
    Calls Tryz.prog 11 #[.slice A n c] w fun e w' => BoolP (n ≤ 2147483647 ∧ ∀ j, j < n → (g j).size ≤ 2147483647) e ∧ w' = w := by
  have HR := Lib.hid h
  have HS := Lib.hid hs
  clear h hs
  by_cases h0 : 2147483647 < n
  · go_enter Tryz.func11, Tryz.ntmps11
    go_wp2
    go_ret
    exact ⟨⟨false, rfl, fun h => by cases h⟩, rfl⟩
  go_enter Tryz.func11, Tryz.ntmps11
  go_wp2_with fail
  go_loop [10, 2] (fun iv rv => ∃ i : Nat, i ≤ n ∧ iv = .int .i64 i ∧ rv = .bool false ∧ Hid (∀ j, j < i → (g j).size ≤ 2147483647)) (fun iv _ => n - (intOf iv).toNat)
  case atStart => exact ⟨0, by omega, rfl, rfl, Lib.hid (fun j hj => by omega)⟩
  case round =>
    obtain ⟨i, hi, rfl, rfl, HJ⟩ := hrel
    by_cases hin : i < n
    · obtain ⟨b, off, rfl, hB, hc⟩ := HR.out.2 (by omega)
      have ci := hc i hin
      have hin' : (i : Int) < n := by omega
      have hsi := HS.out i hin
      clear hc
      by_cases hbig : 2147483647 < (g i).size
      · go_wp2
        go_ret
        exact ⟨⟨false, rfl, fun h => by cases h⟩, rfl⟩
      · have HJ2 : Hid (∀ j, j < i + 1 → (g j).size ≤ 2147483647) := Lib.hid fun j hj => by
          by_cases e : j = i
          · subst e; omega
          · exact HJ.out j (by omega)
        go_wp2
        go_round
        case rel => exact ⟨i + 1, by omega, by go_num, rfl, HJ2⟩
        case measure => simp [intOf]; omega
    · obtain rfl : i = n := by omega
      have HP := Lib.hid (And.intro (show i ≤ 2147483647 by omega) HJ.out)
      go_wp2
      go_ret
      exact ⟨⟨true, rfl, fun _ => by first | exact HP.out | exact ⟨by omega, HP.out⟩⟩, rfl⟩
end Go.Proofs.YtaljhebalgipjaaGreatDoor
