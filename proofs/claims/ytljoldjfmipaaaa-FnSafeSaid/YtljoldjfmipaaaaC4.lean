/- The contract of isSafeLink, and of the doors to it. -/
import Derived.Test.YtljoldjfmipaaaaC3
namespace Go.Proofs.Ytljoldjfmipaaaa
open Go.RowKit
set_option linter.unusedVariables false

theorem same_beg {n m : Nat} {f g : Nat → Int} (h : m ≤ n) : sameB m m f g = begB n f m g := by
  rw [Bool.eq_iff_iff]; simp [sameB, begB, h]
theorem same_low {n m : Nat} {f g : Nat → Int} (h : m ≤ n) : sameB m m (fun j => low (f j)) g = begF n f m g := by
  rw [Bool.eq_iff_iff]; simp [sameB, begF, h]

theorem RowsB.below {w w' : World} {g m : Nat} {len : Nat → Nat} {f : Nat → Nat → Int} (h : RowsB w g m len f) (hb : Below w.heap.size w w') : RowsB w' g m len f := by
  intro k hk
  obtain ⟨q, h1, h2⟩ := h k hk
  exact ⟨q, (hb.cell (p := ⟨g, k, none⟩) (World.block_lt_of_cell? _ _ h1)).trans h1, (h2.below hb).more hb.size⟩

set_option maxHeartbeats 1600000 in
set_option maxRecDepth 100000 in
theorem isSafeLink_any (A : Option Addr) (n c : Nat) (f : Nat → Int) (w : World) (h : RB w w.heap.size A n c f) (hn : n ≤ 100000) :
    Calls Try.prog 29 #[.slice A n c] w fun e w' => e = .returned (.bool (safeB n f)) ∧ Below w.heap.size w w' := by
  have HR := Lib.hid h
  have hcap := h.cap
  clear h
  go_enter Try.func29, Try.ntmps29
  go_wp2_with fail
  refine (validPaths_any _).mono ?_
  rintro e w0 ⟨g, rfl, HG, hb0⟩
  go_wp2_with fail
  go_loop [9] (fun i => ∃ (k : Nat), k ≤ 3 ∧ i = .int .i64 k ∧ Hid (∀ j, j < k → pathOk n f j = false)) (fun i => 3 - (intOf i).toNat)
  case atStart => exact ⟨0, by omega, rfl, fun j hj => absurd hj (by omega)⟩
  case round =>
    obtain ⟨k, hk, rfl, HP⟩ := hrel
    by_cases hlt : k < 3
    · obtain ⟨q, hck, hrk⟩ := HG.out k hlt
      have hpl := pathLen_rng k
      have HK := Lib.hid hrk
      clear hrk
      by_cases hle : pathLen k ≤ n
      · obtain ⟨b, off, rfl, hB, hcell⟩ := (HR.out.below hb0).2.2.2 (by omega)
        have C := Lib.hid (equal_any _ (some ⟨q, 0, none⟩) (pathLen k) c (pathLen k) (pathLen k) f (pathF k) w0 w0.heap.size (((HR.out.below hb0).upto hle).more hb0.size) HK.out)
        by_cases hb : begB n f (pathLen k) (pathF k) = true
        · have HB : Hid (sameB (pathLen k) (pathLen k) f (pathF k) = true) := Lib.hid (by rw [same_beg hle]; exact hb)
          have hbg := Lib.hid hb
          clear hb
          by_cases he : n = pathLen k
          · have HOK : Hid (safeB n f = true) := Lib.hid (safe_path hlt (pathOk_len hbg.out he))
            have e1 : ((n : Int) == (pathLen k : Int)) = true := by simp [he]
            clear he hcell
            go_wp2_with (go_at_call 13; refine C.out.mono ?_; rintro e w' ⟨rfl, rfl⟩; rw [HB.out])
            go_ret
            exact ⟨ret_bool (by rw [HOK.out]), hb0⟩
          · have e1 : ((n : Int) == (pathLen k : Int)) = false := by simp; omega
            have hlt2 : pathLen k < n := by omega
            have hcs := hcell (pathLen k) hlt2
            clear hcell
            by_cases hw : isw (f (pathLen k)) = true
            · have HOK : Hid (safeB n f = true) := Lib.hid (safe_path hlt (pathOk_word hbg.out hw))
              go_wp2_with (first
                | (go_at_call 13; refine C.out.mono ?_; rintro e w' ⟨rfl, rfl⟩; rw [HB.out])
                | (go_at_call 30; refine (isalnum_any _ _).mono ?_; rintro e w' ⟨rfl, rfl⟩))
              go_ret
              exact ⟨ret_bool (by rw [HOK.out]), hb0⟩
            · have hw' : isw (f (pathLen k)) = false := by simpa using hw
              have HN : Hid (∀ j, j < k + 1 → pathOk n f j = false) := Lib.hid (fun j hj => by
                rcases Nat.lt_or_ge j k with h | h
                · exact HP.out j h
                · obtain rfl : j = k := by omega
                  simp [pathOk, he, hw'])
              clear hw he
              go_wp2_with (first
                | (go_at_call 13; refine C.out.mono ?_; rintro e w' ⟨rfl, rfl⟩; rw [HB.out])
                | (go_at_call 30; refine (isalnum_any _ _).mono ?_; rintro e w' ⟨rfl, rfl⟩))
              go_round
              case rel => exact ⟨k + 1, by omega, by go_num, HN⟩
              case measure => simp [intOf]; omega
        · have hb' : begB n f (pathLen k) (pathF k) = false := by simpa using hb
          have HB : Hid (sameB (pathLen k) (pathLen k) f (pathF k) = false) := Lib.hid (by rw [same_beg hle]; exact hb')
          have HN : Hid (∀ j, j < k + 1 → pathOk n f j = false) := Lib.hid (fun j hj => by
            rcases Nat.lt_or_ge j k with h | h
            · exact HP.out j h
            · obtain rfl : j = k := by omega
              simp [pathOk, hb'])
          clear hb hb' hcell
          go_wp2_with (go_at_call 13; refine C.out.mono ?_; rintro e w' ⟨rfl, rfl⟩; rw [HB.out])
          go_round
          case rel => exact ⟨k + 1, by omega, by go_num, HN⟩
          case measure => simp [intOf]; omega
      · have HN : Hid (∀ j, j < k + 1 → pathOk n f j = false) := Lib.hid (fun j hj => by
          rcases Nat.lt_or_ge j k with h | h
          · exact HP.out j h
          · obtain rfl : j = k := by omega
            have : begB n f (pathLen j) (pathF j) = false := by simp only [begB, decide_eq_false_iff_not]; exact fun h => hle h.1
            simp [pathOk, this])
        have hle' : n < pathLen k := by omega
        clear hle
        go_wp2_with fail
        go_round
        case rel => exact ⟨k + 1, by omega, by go_num, HN⟩
        case measure => simp [intOf]; omega
    · obtain rfl : k = 3 := by omega
      clear HG hlt hk
      have hbs := hb0.size
      go_wp2_with fail
      refine (validUris_any _).mono ?_
      rintro e w1 ⟨g2, rfl, HG2, hb1'⟩
      have hb1 := hb0.trans (hb1'.mono hbs)
      clear hb1'
      go_wp2_with fail
      go_loopw [40] (fun i wr => ∃ (k : Nat), k ≤ 4 ∧ i = .int .i64 k ∧ Hid (∀ j, j < k → uriOk n f j = false) ∧ Hid (RowsB wr g2 4 uriLen uriF) ∧ Below w.heap.size w wr) (fun i _ => 4 - (intOf i).toNat)
      case atStart => exact ⟨0, by omega, rfl, fun j hj => absurd hj (by omega), HG2, hb1⟩
      case round =>
        obtain ⟨k, hk, rfl, HQ, HC, hbl⟩ := hrel
        by_cases hlt : k < 4
        · obtain ⟨q, hck, hrk⟩ := HC.out k hlt
          have hg2 := World.block_lt_of_cell? _ _ hck
          have hpl := uriLen_rng k
          have HK := Lib.hid hrk
          clear hrk
          by_cases hle : uriLen k < n
          · obtain ⟨b, off, rfl, hB, hcell⟩ := (HR.out.below hbl).2.2.2 (by omega)
            have hcs := hcell (uriLen k) hle
            clear hcell
            have C1 := Lib.hid (zzLower_any _ (uriLen k) c f wr (((HR.out.below hbl).upto (Nat.le_of_lt hle)).more hbl.size) (by omega))
            by_cases hb : begF n f (uriLen k) (uriF k) = true
            · have HB : Hid (sameB (uriLen k) (uriLen k) (fun j => low (f j)) (uriF k) = true) := Lib.hid (by rw [same_low (Nat.le_of_lt hle)]; exact hb)
              have hbg := Lib.hid hb
              clear hb
              by_cases hw : isw (f (uriLen k)) = true
              · have HOK : Hid (safeB n f = true) := Lib.hid (safe_uri hlt (uriOk_word hbg.out hle hw))
                go_wp2_with fail
                refine C1.out.mono ?_
                rintro e w2 ⟨A2, c2, rfl, HR2, hb2⟩
                have hb3 := hbl.trans (hb2.mono hbl.size)
                have hcs3 : w2.cell? ⟨b, off + uriLen k, none⟩ = some (.int .u8 (f (uriLen k))) := (hb2.cell (p := ⟨b, off + uriLen k, none⟩) (by show b < wr.heap.size; have := hbl.size; omega)).trans hcs
                clear hcs hck
                go_wp2_with fail
                refine (equal_any _ _ _ _ _ _ _ _ _ w2.heap.size HR2.out ((HK.out.below hb2).more hb2.size)).mono ?_
                rintro e w3 ⟨rfl, rfl⟩
                rw [HB.out]
                go_wp2_with (go_at_call 30; refine (isalnum_any _ _).mono ?_; rintro e w' ⟨rfl, rfl⟩)
                go_ret
                exact ⟨ret_bool (by rw [HOK.out]), hb3⟩
              · have hw' : isw (f (uriLen k)) = false := by simpa using hw
                have HN : Hid (∀ j, j < k + 1 → uriOk n f j = false) := Lib.hid (fun j hj => by
                  rcases Nat.lt_or_ge j k with h | h
                  · exact HQ.out j h
                  · obtain rfl : j = k := by omega
                    simp [uriOk, hw'])
                clear hw
                go_wp2_with fail
                refine C1.out.mono ?_
                rintro e w2 ⟨A2, c2, rfl, HR2, hb2⟩
                have hb3 := hbl.trans (hb2.mono hbl.size)
                have HC2 := Lib.hid (RowsB.below HC.out hb2)
                have hcs3 : w2.cell? ⟨b, off + uriLen k, none⟩ = some (.int .u8 (f (uriLen k))) := (hb2.cell (p := ⟨b, off + uriLen k, none⟩) (by show b < wr.heap.size; have := hbl.size; omega)).trans hcs
                clear hcs hck
                go_wp2_with fail
                refine (equal_any _ _ _ _ _ _ _ _ _ w2.heap.size HR2.out ((HK.out.below hb2).more hb2.size)).mono ?_
                rintro e w3 ⟨rfl, rfl⟩
                rw [HB.out]
                go_wp2_with (go_at_call 30; refine (isalnum_any _ _).mono ?_; rintro e w' ⟨rfl, rfl⟩)
                go_roundw
                case rel => first | exact ⟨k + 1, by omega, by go_num, HN, HC2, hb3⟩ | ((repeat apply Exists.intro); exact ⟨⟨k + 1, by omega, by go_num, HN, HC2, hb3⟩, rfl⟩)
                case measure => simp [intOf]; omega
            · have hb' : begF n f (uriLen k) (uriF k) = false := by simpa using hb
              have HB : Hid (sameB (uriLen k) (uriLen k) (fun j => low (f j)) (uriF k) = false) := Lib.hid (by rw [same_low (Nat.le_of_lt hle)]; exact hb')
              have HN : Hid (∀ j, j < k + 1 → uriOk n f j = false) := Lib.hid (fun j hj => by
                rcases Nat.lt_or_ge j k with h | h
                · exact HQ.out j h
                · obtain rfl : j = k := by omega
                  simp [uriOk, hb'])
              clear hb hb'
              go_wp2_with fail
              refine C1.out.mono ?_
              rintro e w2 ⟨A2, c2, rfl, HR2, hb2⟩
              have hb3 := hbl.trans (hb2.mono hbl.size)
              have HC2 := Lib.hid (RowsB.below HC.out hb2)
              clear hcs hck
              go_wp2_with fail
              refine (equal_any _ _ _ _ _ _ _ _ _ w2.heap.size HR2.out ((HK.out.below hb2).more hb2.size)).mono ?_
              rintro e w3 ⟨rfl, rfl⟩
              rw [HB.out]
              go_wp2_with fail
              go_roundw
              case rel => first | exact ⟨k + 1, by omega, by go_num, HN, HC2, hb3⟩ | ((repeat apply Exists.intro); exact ⟨⟨k + 1, by omega, by go_num, HN, HC2, hb3⟩, rfl⟩)
              case measure => simp [intOf]; omega
          · have HN : Hid (∀ j, j < k + 1 → uriOk n f j = false) := Lib.hid (fun j hj => by
              rcases Nat.lt_or_ge j k with h | h
              · exact HQ.out j h
              · obtain rfl : j = k := by omega
                simp [uriOk, hle])
            have hle' : n ≤ uriLen k := by omega
            clear hle
            go_wp2_with fail
            go_roundw
            case rel => first | exact ⟨k + 1, by omega, by go_num, HN, HC, hbl⟩ | ((repeat apply Exists.intro); exact ⟨⟨k + 1, by omega, by go_num, HN, HC, hbl⟩, rfl⟩)
            case measure => simp [intOf]; omega
        · obtain rfl : k = 4 := by omega
          have HOK : Hid (safeB n f = false) := Lib.hid (safe_none HP.out HQ.out)
          clear HC hlt hk
          go_wp2_with fail
          go_ret
          exact ⟨ret_bool (by rw [HOK.out]), hbl⟩

theorem safeDoor_any (A : Option Addr) (n c : Nat) (f : Nat → Int) (w : World) (h : RB w w.heap.size A n c f) (hn : n ≤ 100000) :
    Calls Try.prog 23 #[.slice A n c] w fun e w' => e = .returned (.bool (safeB n f)) ∧ Below w.heap.size w w' := by
  have C := Lib.hid (isSafeLink_any A n c f w h hn)
  clear h
  go_enter Try.func23, Try.ntmps23
  go_wp2_with fail
  refine C.out.mono ?_
  rintro e w' ⟨rfl, hb⟩
  go_wp2_with fail
  go_ret
  exact ⟨rfl, hb⟩
theorem implSafe_any (A : Option Addr) (n c : Nat) (f : Nat → Int) (w : World) (h : RB w w.heap.size A n c f) (hn : n ≤ 100000) :
    Calls Try.prog 17 #[.slice A n c] w fun e w' => e = .returned (.bool (safeB n f)) ∧ Below w.heap.size w w' := by
  have C := Lib.hid (own_any A n c f w h (by omega))
  clear h
  go_enter Try.func17, Try.ntmps17
  go_wp2_with fail
  refine C.out.mono ?_
  rintro e w1 ⟨A1, c1, rfl, hc1, hb1⟩
  go_wp2_with fail
  refine (safeDoor_any A1 n c1 f w1 hc1.out.2.1 hn).mono ?_
  rintro e w2 ⟨rfl, hb2⟩
  go_wp2_with fail
  go_ret
  exact ⟨rfl, hb1.trans (hb2.mono hb1.size)⟩
theorem safe_http : safeB 8 (fun j => [72, 84, 84, 80, 58, 47, 47, 97].getD j 0) = true := by decide +kernel
theorem implSafe_http (w : World) :
    Calls Try.prog 17 #[.slice (some ⟨w.heap.size, 0, none⟩) 8 8] (w.alloc (.cells #[.int .u8 72, .int .u8 84, .int .u8 84, .int .u8 80, .int .u8 58, .int .u8 47, .int .u8 47, .int .u8 97] 5 (8, 9))) fun e w' =>
      e = .returned (.bool true) ∧ Below w.heap.size w w' := by
  have hb0 := (Below.refl w.heap.size w).alloc (Nat.le_refl _) (.cells #[.int .u8 72, .int .u8 84, .int .u8 84, .int .u8 80, .int .u8 58, .int .u8 47, .int .u8 47, .int .u8 97] 5 (8, 9))
  have h := rb_marked w [72, 84, 84, 80, 58, 47, 47, 97] (by simp) (by simp) _ rfl 5 (8, 9)
  refine (implSafe_any _ 8 8 _ _ (RB.more h (by simp)) (by omega)).mono ?_
  rintro e w' ⟨rfl, hb⟩
  exact ⟨ret_bool safe_http, hb0.trans (hb.mono (by simp))⟩
end Go.Proofs.Ytljoldjfmipaaaa
