/- Reference definitions: the whole of it. -/
import Derived.Test.YtaljhebalgipjaaGreatDoorD1
import Derived.Test.YtaljhebalgipjaaGreatDoorD2
import Derived.StringKeys
namespace Go.Proofs.YtaljhebalgipjaaGreatDoor
open Go.RowKit
open Go.WideMaps (string_law keyOf_string_mk)
set_option linter.unusedVariables false

/-- A definition's beginning: bl blanks, a bracket, the id in [K, J), a bracket, a colon, a blank; the address begins at i0. -/
structure Head (f : Nat → Int) (bl K J I2 i0 : Nat) : Prop where
  bl3 : bl ≤ 3
  blanks : ∀ j, j < bl → f j = 32
  open_ : f bl = 91
  hK : K = bl + 1
  hKJ : K < J
  id : ∀ j, K ≤ j → j < J → 97 ≤ f j ∧ f j ≤ 122
  close : f J = 93
  colon : f (J + 1) = 58
  hI2 : I2 = J + 2
  blank : f I2 = 32
  hi0 : i0 = J + 3
def idStr (f : Nat → Int) (K J : Nat) : ByteArray := strOf ((List.range (J - K)).map (fun j => f (K + j)))
/-- A cut of a slice. -/
def cutV (A : Option Addr) (cap lo hi : Nat) : Value := .slice (A.map fun a => ⟨a.block, a.off + lo, none⟩) (hi - lo) (cap - lo)
def lowStr (f : Nat → Int) (K J : Nat) : ByteArray := strOf ((List.range (J - K)).map (fun j => low (f (K + j))))
/-- The map holds one reference. -/
def RefIn (w w' : World) (f : Nat → Int) (mb : Nat) (A : Option Addr) (cap K J i0 L T R : Nat) : Prop :=
  ∃ r : Nat, w'.ownsMap Tryz.prog 9 ptrElem mb 1 ((.map [] : DataW Unit).put (.string (lowStr f K J).data.toList) (.lit (.int .i64 r))) ∧
    w'.cell? ⟨r, 0, none⟩ = some (cutV A cap i0 L) ∧ w'.cell? ⟨r, 1, none⟩ = some (cutV A cap T R) ∧ w'.cell? ⟨r, 2, none⟩ = some (.int .i64 0) ∧ w.grownBy w' (some mb)
set_option maxHeartbeats 8000000 in
set_option maxRecDepth 100000 in
theorem isRef_any (pb mb : Nat) (x : Int) (tab : Int) (A : Option Addr) (n cap : Nat) (f : Nat → Int) (bl K J I2 i0 L T R Z : Nat) (w : World) (h : RB w w.heap.size A n cap f) (hn : n ≤ 100000)
    (hpx : w.cell? ⟨pb, 259, none⟩ = some (.int .i64 x)) (hpm : w.cell? ⟨pb, 2, none⟩ = some (.map (some mb))) (hM : w.ownsMap Tryz.prog 9 ptrElem mb 0 (.map [] : DataW Unit))
    (hH : Head f bl K J I2 i0) (hink : inkB (f i0)) (hi : i0 ≤ L) (hLn : L ≤ n) (hTR : T ≤ R) (hRn : R ≤ n) (hZ0 : 0 < Z) (hin : i0 < n) (hTn : T < n)
    (hS : Calls Tryz.prog 48 #[.pointer (some ⟨pb, 0, none⟩), .slice A n cap, .int .i64 i0] w fun e w' => e = .returned (.tuple #[.int .i64 i0, .int .i64 L, .int .i64 T, .int .i64 R, .int .i64 Z]) ∧ w = w') :
    Calls Tryz.prog 29 #[.pointer (some ⟨pb, 0, none⟩), .slice A n cap, .int .i64 tab] w fun e w' => e = .returned (.int .i64 Z) ∧ RefIn w w' f mb A cap K J i0 L T R := by
  obtain ⟨b, off, rfl, hB, hcell⟩ := h.2.2.2 (by omega)
  have hcap := h.cap
  have hbl3 := hH.bl3; have hKJ := hH.hKJ
  have HK := Lib.hid hH.hK; have HI2 := Lib.hid hH.hI2; have HI0 := Lib.hid hH.hi0
  have hJ3 : J + 3 = i0 := HI0.out.symm
  have hblK : bl < K := by have := HK.out; omega
  have hI2J : I2 < i0 := by have := HI2.out; omega
  have hJI : J < I2 := by have := HI2.out; omega
  have HC := Lib.hid hcell; have HH := Lib.hid hH; have HS := Lib.hid hS; have HR := Lib.hid h; have HM := Lib.hid hM
  have hio : f bl = 91 := hH.open_
  have hcl : f J = 93 := hH.close
  have hco : f (J + 1) = 58 := hH.colon
  have kbl := hcell bl (by omega)
  have kK := hcell K (by omega)
  have kJ := hcell J (by omega)
  have kJ1 := hcell (J + 1) (by omega)
  have kI2 := hcell I2 (by omega)
  have k0 := hcell i0 (by omega)
  have hK94 : f K ≠ 94 := by have := hH.id K (Nat.le_refl _) hKJ; omega
  have hn4 : ¬ (n : Int) < 4 := by omega
  have i1 : (bl : Int) < n := by omega
  have i2 : (K : Int) < n := by omega
  have i3 : (J : Int) < n := by omega
  have i4 : (J : Int) + 1 < n := by omega
  have i5 : (i0 : Int) < n := by omega
  have hKJi : (K : Int) < J := by omega
  have n1 : J < n := by omega
  have n2 : ¬ n ≤ J := by omega
  have n3 : J + 1 < n := by omega
  have n4 : ¬ n ≤ J + 1 := by omega
  have n5 : i0 < n := by omega
  have n6 : ¬ n ≤ i0 := by omega
  have n7 : ¬ K = J := by omega
  have n8 : ¬ cap = T := by omega
  clear h hcell hH hS hM hJ3
  go_enter Tryz.func29, Tryz.ntmps29
  go_upto_block 0 with fail
  go_cut [7] (fun iv wx => iv = .int .i64 bl ∧ w = wx)
  case first =>
    as_aux_lemma =>
      go_wp2_with fail
      go_loop [7] (fun iv => ∃ i : Nat, i ≤ bl ∧ iv = .int .i64 i) (fun iv => n - (intOf iv).toNat)
      case atStart => exact ⟨0, by omega, rfl⟩
      case round =>
        obtain ⟨i, h1, rfl⟩ := hrel
        have ki := HC.out i (by omega)
        have hin : (i : Int) < n := by omega
        by_cases hil : i < bl
        · have hk := HH.out.blanks i hil
          have h3 : (i : Int) < 3 := by omega
          go_wp2
          go_round
          case rel => exact ⟨i + 1, by omega, by go_num⟩
          case measure => simp [intOf]; omega
        · obtain rfl : i = bl := by omega
          by_cases h3 : (i : Int) < 3
          · go_wp2
            go_meet
            exact ⟨rfl, rfl⟩
          · go_wp2
            go_meet
            exact ⟨rfl, rfl⟩
  case rest =>
    obtain ⟨rfl, rfl⟩ := hcut
    go_upto_if 46 with fail
    go_cut [7, 8] (fun iv nv wx => iv = .int .i64 K ∧ nv = .int .i64 0 ∧ w = wx)
    case first =>
      as_aux_lemma =>
        have q94 := (lnb hK94).2
        have HK' : (bl : Int) + 1 = K := by have := HK.out; omega
        cases hbit : (bits BinOp.and IntKind.i64 x 1024 != 0)
        · go_wp2
          go_meet
          exact ⟨by first | rfl | rw [HK'], rfl, rfl⟩
        · rw [HK']
          go_wp2
          go_meet
          exact ⟨by first | rfl | rw [HK'], rfl, rfl⟩
    case rest =>
      obtain ⟨rfl, rfl, rfl⟩ := hcut
      go_upto_block 2 with fail
      go_cut [7] (fun iv wx => iv = .int .i64 J ∧ w = wx)
      case first =>
        as_aux_lemma =>
          go_wp2_with fail
          go_loop [7] (fun iv => ∃ i : Nat, K ≤ i ∧ i ≤ J ∧ iv = .int .i64 i) (fun iv => n - (intOf iv).toNat)
          case atStart => exact ⟨K, by omega, by omega, rfl⟩
          case round =>
            obtain ⟨i, h1, h2, rfl⟩ := hrel
            have ki := HC.out i (by omega)
            have hin : (i : Int) < n := by omega
            by_cases hil : i < J
            · have hk := HH.out.id i h1 hil
              have b1 := (lnb (show f i ≠ 10 by omega)).1
              have b2 := (lnb (show f i ≠ 13 by omega)).1
              have b3 := (lnb (show f i ≠ 93 by omega)).1
              clear hk
              go_wp2
              go_round
              case rel => exact ⟨i + 1, by omega, by omega, by go_num⟩
              case measure => simp [intOf]; omega
            · obtain rfl : i = J := by omega
              go_wp2
              go_meet
              exact ⟨rfl, rfl⟩
      case rest =>
        obtain ⟨rfl, rfl⟩ := hcut
        have e1 : ((K : Int) == (J : Int)) = false := by simp; omega
        go_upto_block 4 with fail
        go_cut [7] (fun iv wx => iv = .int .i64 i0 ∧ w = wx)
        case first =>
          as_aux_lemma =>
            go_wp2_with fail
            go_loop [7] (fun iv => ∃ i : Nat, (i = I2 ∨ i = i0) ∧ iv = .int .i64 i) (fun iv => n - (intOf iv).toNat)
            case atStart => exact ⟨I2, .inl rfl, by rw [HI2.out]; go_num⟩
            case round =>
              obtain ⟨i, hi', rfl⟩ := hrel
              rcases hi' with rfl | rfl
              · have hb := HH.out.blank
                have hin : (i : Int) < n := by omega
                go_wp2
                go_round
                case rel => exact ⟨i0, .inr rfl, by rw [HI0.out, HI2.out]; go_num⟩
                case measure => simp [intOf]; omega
              · have hk := hink
                have b1 := (lnb hk.1).2; have b2 := (lnb hk.2.1).2
                clear hk
                go_wp2
                go_meet
                exact ⟨rfl, rfl⟩
        case rest =>
          obtain ⟨rfl, rfl⟩ := hcut
          have hk := hink
          have b1 := (lnb hk.1).2; have b2 := (lnb hk.2.1).2; have b3 := (lnb hk.2.2.1).2; have b4 := (lnb hk.2.2.2).2
          clear hk
          go_upto_block 6 with fail
          go_cut [7] (fun iv wx => iv = .int .i64 i0 ∧ w = wx)
          case first =>
            as_aux_lemma =>
              go_wp2_with fail
              go_loop [7] (fun iv => iv = .int .i64 i0) (fun iv => n - (intOf iv).toNat)
              case atStart => rfl
              case round =>
                obtain rfl := hrel
                go_wp2
                go_meet
                exact ⟨rfl, rfl⟩
          case rest =>
            obtain ⟨rfl, rfl⟩ := hcut
            go_upto_region 41 with fail
            go_cut [216] (fun tv wx => tv = .bool false ∧ w = wx)
            case first =>
              as_aux_lemma =>
                cases hbit : (bits BinOp.and IntKind.i64 x 1024 != 0)
                all_goals
                  go_wp2
                  go_meet
                  exact ⟨rfl, rfl⟩
            case rest =>
              obtain ⟨rfl, rfl⟩ := hcut
              go_wp2_with fail
              refine HS.out.mono ?_
              rintro e w' ⟨rfl, rfl⟩
              have z0 : ((Z : Int) == 0) = false := by simp; omega
              go_wp2_with fail
              have hrb : RB w w.heap.size (some ⟨b, off + K, none⟩) (J - K) (cap - K) (fun j => f (K + j)) := by
                have := HR.out.cut (lo := K) (hi := J) (by omega) (by omega)
                rw [if_neg (by omega), Option.map_some, add_lit] at this
                exact this
              have hb0 := (Below.refl w.heap.size w).alloc (Nat.le_refl _) (.cells #[.slice (some ⟨b, off + i0, none⟩) (L - i0) (cap - i0), .slice (some ⟨b, off + T, none⟩) (R - T) (cap - T), .int .i64 0, .bool false, .pointer none, .slice none 0 0] 75)
              refine (zzLower_any _ _ _ _ _ ((hrb.below hb0).more hb0.size) (by omega)).mono ?_
              rintro e w2 ⟨A2, c2, rfl, HR2, hb2⟩
              have hcv0 := RB.conv (P := Tryz.prog) HR2.out 23 9 5 Tryz.underlying23 Tryz.underlying5 Tryz.underlying9
              obtain ⟨kS, hkS⟩ : ∃ s, s = lowStr f K J := ⟨_, rfl⟩
              have hcv : (convert 23 9 (.slice A2 (J - K) c2)).run Tryz.prog w2 = .ok (.string kS) w2 := by rw [hkS]; exact hcv0
              clear hcv0
              have hpb : pb < w.heap.size := World.block_lt_of_cell? w ⟨pb, 2, none⟩ hpm
              have hpm2 : w2.cell? ⟨pb, 2, none⟩ = some (.map (some mb)) := (hb2.cell (p := ⟨pb, 2, none⟩) (by simp; omega)).trans ((hb0.cell (p := ⟨pb, 2, none⟩) hpb).trans hpm)
              have hg2 : w.grownBy w2 none := ⟨hb2.os.trans hb0.os, hb2.tape.trans hb0.tape, hb2.output.trans hb0.output, Nat.le_trans hb0.size hb2.size, fun k hk _ => (hb2.block k (Nat.lt_of_lt_of_le hk hb0.size)).trans (hb0.block k hk)⟩
              have hM2 := Lib.hid (HM.out.kept hg2 (by simp))
              have hrlt : w.heap.size < (w.alloc (.cells #[.slice (some ⟨b, off + i0, none⟩) (L - i0) (cap - i0), .slice (some ⟨b, off + T, none⟩) (R - T) (cap - T), .int .i64 0, .bool false, .pointer none, .slice none 0 0] 75)).heap.size := by simp
              have hc0 : w2.cell? ⟨w.heap.size, 0, none⟩ = some (.slice (some ⟨b, off + i0, none⟩) (L - i0) (cap - i0)) := (hb2.cell (p := ⟨w.heap.size, 0, none⟩) hrlt).trans (by simp [go_sem])
              have hc1 : w2.cell? ⟨w.heap.size, 1, none⟩ = some (.slice (some ⟨b, off + T, none⟩) (R - T) (cap - T)) := (hb2.cell (p := ⟨w.heap.size, 1, none⟩) hrlt).trans (by simp [go_sem])
              have hc2 : w2.cell? ⟨w.heap.size, 2, none⟩ = some (.int .i64 0) := (hb2.cell (p := ⟨w.heap.size, 2, none⟩) hrlt).trans (by simp [go_sem])
              have HC0 := Lib.hid hc0; have HC1 := Lib.hid hc1; have HC2 := Lib.hid hc2
              have hmlt := HM.out.lt
              have HG2 := Lib.hid hg2
              have hkey : keyOf Tryz.prog 9 (.string kS) = some (.string kS.data.toList) := by
                refine keyOf_string_mk Tryz.underlying9 ?_
                have := (strOf_at (J - K) (fun j => low (f (K + j))) (fun j => low_rng2 (HR.out.rng _))).1
                rw [hkS]
                unfold lowStr maxLen
                rw [this]; omega
              have HKEY := Lib.hid hkey
              have HKS := Lib.hid hkS
              clear hc0 hc1 hc2 hg2 hb2 hkey hkS
              go_wp2_with (at_mapUpdate; refine wpList_mapUpdate_own _ rfl _ _ _ 65 rfl 9 73 (Maps.Keyed.of_law (string_law Tryz.underlying9)) Tryz.underlying65 ptrElem mb 0 (.map [] : DataW Unit) rfl hM2.out (by unfold maxLen; omega) _ _ _ rfl rfl HKEY.out (.lit (.int .i64 w.heap.size)) [] rfl ?_; intro w3 hown3 hg3)
              have H3 := Lib.hid hown3
              have HG3 := Lib.hid hg3
              clear hown3 hg3
              have hk3 : ∀ (o : Nat) (v : Value), w2.cell? ⟨w.heap.size, o, none⟩ = some v → w3.cell? ⟨w.heap.size, o, none⟩ = some v := fun o v hv =>
                (World.cell?_of_block (HG3.out.block _ (World.block_lt_of_cell? _ ⟨w.heap.size, o, none⟩ hv) (by simp; omega))).trans hv
              have hh0 : w3.cell? ⟨w.heap.size, 0, none⟩ = some (cutV (some ⟨b, off, none⟩) cap i0 L) := hk3 _ _ HC0.out
              have hh1 : w3.cell? ⟨w.heap.size, 1, none⟩ = some (cutV (some ⟨b, off, none⟩) cap T R) := hk3 _ _ HC1.out
              have hh2 : w3.cell? ⟨w.heap.size, 2, none⟩ = some (.int .i64 0) := hk3 _ _ HC2.out
              clear hk3
              go_wp2
              go_ret
              unfold RefIn
              rw [← HKS.out]
              refine ⟨rfl, w.heap.size, H3.out, ?_, ?_, ?_, ?_⟩
              · exact hh0
              · exact hh1
              · exact hh2
              · exact ⟨HG3.out.os.trans HG2.out.os, HG3.out.tape.trans HG2.out.tape, HG3.out.output.trans HG2.out.output, Nat.le_trans HG2.out.size HG3.out.size, fun k hk hne => (HG3.out.block k (Nat.lt_of_lt_of_le hk HG2.out.size) hne).trans (HG2.out.block k hk (by simp))⟩
end Go.Proofs.YtaljhebalgipjaaGreatDoor
