/- Lines: the prefixes of a bullet and of a quote (the package). -/
import Derived.Test.YtcelfpgkknfnhaaGreatDoorL2
namespace Go.Proofs.YtcelfpgkknfnhaaGreatDoor
open Go.RowKit
set_option linter.unusedVariables false

def uliF (n : Nat) (f : Nat → Int) : Nat := if n ≤ blA n f 3 + 1 then 0 else if (f (blA n f 3) = 42 ∨ f (blA n f 3) = 43 ∨ f (blA n f 3) = 45) ∧ (f (blA n f 3 + 1) = 32 ∨ f (blA n f 3 + 1) = 9) then blA n f 3 + 2 else 0
def quoF (n : Nat) (f : Nat → Int) : Nat := if blA n f 3 < n ∧ f (blA n f 3) = 62 then (if blA n f 3 + 1 < n ∧ f (blA n f 3 + 1) = 32 then blA n f 3 + 2 else blA n f 3 + 1) else 0

set_option maxHeartbeats 4000000 in
theorem uliPrefix_any (q : Option Addr) (A : Option Addr) (n cap : Nat) (f : Nat → Int) (w : World) (B : Nat) (h : RB w B A n cap f) (hn0 : 0 < n) (hn : n ≤ 100000) :
    Calls Tryz.prog 38 #[.pointer q, .slice A n cap] w fun e w' => e = .returned (.int .i64 (uliF n f)) ∧ w = w' := by
  have HH := Lib.hid h
  clear h
  go_enter Tryz.func38, Tryz.ntmps38
  go_wp2
  go_loop [5] (fun iv => ∃ i : Nat, Hid (blA n f 3 = scan noBl (min n 3) f i) ∧ i ≤ n ∧ i ≤ 3 ∧ iv = .int .i64 i) (fun iv => n - (intOf iv).toNat)
  case atStart => exact ⟨0, Lib.hid rfl, by omega, by omega, rfl⟩
  case round =>
    obtain ⟨i, HS, hi1, hi2, rfl⟩ := hrel
    by_cases hil : i < n
    · obtain ⟨b, off, rfl, hB, hcell⟩ := HH.out.2.2.2 (by omega)
      have k0 := hcell i hil
      have hrg := HH.out.rng i
      have HC := Lib.hid hcell
      clear hcell
      by_cases hi3 : i < 3
      · by_cases hb : f i = 32
        · have HS' := Lib.hid (HS.out.trans (scan_go (by omega) (by unfold noBl; simpa using hb)))
          have a1 := (leb hb).2
          clear hb
          go_wp2
          go_round
          case rel => exact ⟨i + 1, HS', by omega, by omega, by go_num⟩
          case measure => simp [intOf]; omega
        · have HE := Lib.hid (HS.out.trans (scan_hit (by unfold noBl; simpa using hb)))
          have a32 := (lnb hb).2
          clear hb
          by_cases hr : n ≤ i + 1
          · have HO : Hid (uliF n f = 0) := Lib.hid (by unfold uliF; rw [HE.out, if_pos hr])
            go_wp2
            go_ret
            exact ⟨retl (by rw [HO.out]; rfl), rfl⟩
          · have k1 := HC.out (i + 1) (by omega)
            have w1 : (f i = 42) ∨ (f i ≠ 42 ∧ f i = 43) ∨ (f i ≠ 42 ∧ f i ≠ 43 ∧ f i = 45) ∨ (f i ≠ 42 ∧ f i ≠ 43 ∧ f i ≠ 45) := by omega
            rcases w1 with h | h | h | h
            · have x0 := (leb h).1; have xe0 := (leb h).2
              have w2 : (f (i + 1) = 32) ∨ (f (i + 1) ≠ 32 ∧ f (i + 1) = 9) ∨ (f (i + 1) ≠ 32 ∧ f (i + 1) ≠ 9) := by omega
              rcases w2 with g | g | g
              · have HO : Hid (uliF n f = i + 2) := Lib.hid (by unfold uliF; rw [HE.out, if_neg hr, if_pos (by omega)])
                have y0 := (leb g).1; have ye0 := (leb g).2
                clear h g
                go_wp2
                go_ret
                exact ⟨retl (by rw [HO.out]; omega), rfl⟩
              · have HO : Hid (uliF n f = i + 2) := Lib.hid (by unfold uliF; rw [HE.out, if_neg hr, if_pos (by omega)])
                have y0 := (lnb g.1).1; have ye0 := (lnb g.1).2; have y1 := (leb g.2).1; have ye1 := (leb g.2).2
                clear h g
                go_wp2
                go_ret
                exact ⟨retl (by rw [HO.out]; omega), rfl⟩
              · have HO : Hid (uliF n f = 0) := Lib.hid (by unfold uliF; rw [HE.out, if_neg hr, if_neg (fun h => by omega)])
                have y0 := (lnb g.1).1; have ye0 := (lnb g.1).2; have y1 := (lnb g.2).1; have ye1 := (lnb g.2).2
                clear h g
                go_wp2
                go_ret
                exact ⟨retl (by rw [HO.out]; rfl), rfl⟩
            · have x0 := (lnb h.1).1; have xe0 := (lnb h.1).2; have x1 := (leb h.2).1; have xe1 := (leb h.2).2
              have w2 : (f (i + 1) = 32) ∨ (f (i + 1) ≠ 32 ∧ f (i + 1) = 9) ∨ (f (i + 1) ≠ 32 ∧ f (i + 1) ≠ 9) := by omega
              rcases w2 with g | g | g
              · have HO : Hid (uliF n f = i + 2) := Lib.hid (by unfold uliF; rw [HE.out, if_neg hr, if_pos (by omega)])
                have y0 := (leb g).1; have ye0 := (leb g).2
                clear h g
                go_wp2
                go_ret
                exact ⟨retl (by rw [HO.out]; omega), rfl⟩
              · have HO : Hid (uliF n f = i + 2) := Lib.hid (by unfold uliF; rw [HE.out, if_neg hr, if_pos (by omega)])
                have y0 := (lnb g.1).1; have ye0 := (lnb g.1).2; have y1 := (leb g.2).1; have ye1 := (leb g.2).2
                clear h g
                go_wp2
                go_ret
                exact ⟨retl (by rw [HO.out]; omega), rfl⟩
              · have HO : Hid (uliF n f = 0) := Lib.hid (by unfold uliF; rw [HE.out, if_neg hr, if_neg (fun h => by omega)])
                have y0 := (lnb g.1).1; have ye0 := (lnb g.1).2; have y1 := (lnb g.2).1; have ye1 := (lnb g.2).2
                clear h g
                go_wp2
                go_ret
                exact ⟨retl (by rw [HO.out]; rfl), rfl⟩
            · have x0 := (lnb h.1).1; have xe0 := (lnb h.1).2; have x1 := (lnb h.2.1).1; have xe1 := (lnb h.2.1).2; have x2 := (leb h.2.2).1; have xe2 := (leb h.2.2).2
              have w2 : (f (i + 1) = 32) ∨ (f (i + 1) ≠ 32 ∧ f (i + 1) = 9) ∨ (f (i + 1) ≠ 32 ∧ f (i + 1) ≠ 9) := by omega
              rcases w2 with g | g | g
              · have HO : Hid (uliF n f = i + 2) := Lib.hid (by unfold uliF; rw [HE.out, if_neg hr, if_pos (by omega)])
                have y0 := (leb g).1; have ye0 := (leb g).2
                clear h g
                go_wp2
                go_ret
                exact ⟨retl (by rw [HO.out]; omega), rfl⟩
              · have HO : Hid (uliF n f = i + 2) := Lib.hid (by unfold uliF; rw [HE.out, if_neg hr, if_pos (by omega)])
                have y0 := (lnb g.1).1; have ye0 := (lnb g.1).2; have y1 := (leb g.2).1; have ye1 := (leb g.2).2
                clear h g
                go_wp2
                go_ret
                exact ⟨retl (by rw [HO.out]; omega), rfl⟩
              · have HO : Hid (uliF n f = 0) := Lib.hid (by unfold uliF; rw [HE.out, if_neg hr, if_neg (fun h => by omega)])
                have y0 := (lnb g.1).1; have ye0 := (lnb g.1).2; have y1 := (lnb g.2).1; have ye1 := (lnb g.2).2
                clear h g
                go_wp2
                go_ret
                exact ⟨retl (by rw [HO.out]; rfl), rfl⟩
            · have HO : Hid (uliF n f = 0) := Lib.hid (by unfold uliF; rw [HE.out, if_neg hr, if_neg (fun h => by omega)])
              have x0 := (lnb h.1).1; have xe0 := (lnb h.1).2; have x1 := (lnb h.2.1).1; have xe1 := (lnb h.2.1).2; have x2 := (lnb h.2.2).1; have xe2 := (lnb h.2.2).2
              clear h
              go_wp2
              go_ret
              exact ⟨retl (by rw [HO.out]; rfl), rfl⟩
      · have HE := Lib.hid (HS.out.trans (scan_end (by omega)))
        by_cases hr : n ≤ i + 1
        · have HO : Hid (uliF n f = 0) := Lib.hid (by unfold uliF; rw [HE.out, if_pos hr])
          go_wp2
          go_ret
          exact ⟨retl (by rw [HO.out]; rfl), rfl⟩
        · have k1 := HC.out (i + 1) (by omega)
          have w1 : (f i = 42) ∨ (f i ≠ 42 ∧ f i = 43) ∨ (f i ≠ 42 ∧ f i ≠ 43 ∧ f i = 45) ∨ (f i ≠ 42 ∧ f i ≠ 43 ∧ f i ≠ 45) := by omega
          rcases w1 with h | h | h | h
          · have x0 := (leb h).1; have xe0 := (leb h).2
            have w2 : (f (i + 1) = 32) ∨ (f (i + 1) ≠ 32 ∧ f (i + 1) = 9) ∨ (f (i + 1) ≠ 32 ∧ f (i + 1) ≠ 9) := by omega
            rcases w2 with g | g | g
            · have HO : Hid (uliF n f = i + 2) := Lib.hid (by unfold uliF; rw [HE.out, if_neg hr, if_pos (by omega)])
              have y0 := (leb g).1; have ye0 := (leb g).2
              clear h g
              go_wp2
              go_ret
              exact ⟨retl (by rw [HO.out]; omega), rfl⟩
            · have HO : Hid (uliF n f = i + 2) := Lib.hid (by unfold uliF; rw [HE.out, if_neg hr, if_pos (by omega)])
              have y0 := (lnb g.1).1; have ye0 := (lnb g.1).2; have y1 := (leb g.2).1; have ye1 := (leb g.2).2
              clear h g
              go_wp2
              go_ret
              exact ⟨retl (by rw [HO.out]; omega), rfl⟩
            · have HO : Hid (uliF n f = 0) := Lib.hid (by unfold uliF; rw [HE.out, if_neg hr, if_neg (fun h => by omega)])
              have y0 := (lnb g.1).1; have ye0 := (lnb g.1).2; have y1 := (lnb g.2).1; have ye1 := (lnb g.2).2
              clear h g
              go_wp2
              go_ret
              exact ⟨retl (by rw [HO.out]; rfl), rfl⟩
          · have x0 := (lnb h.1).1; have xe0 := (lnb h.1).2; have x1 := (leb h.2).1; have xe1 := (leb h.2).2
            have w2 : (f (i + 1) = 32) ∨ (f (i + 1) ≠ 32 ∧ f (i + 1) = 9) ∨ (f (i + 1) ≠ 32 ∧ f (i + 1) ≠ 9) := by omega
            rcases w2 with g | g | g
            · have HO : Hid (uliF n f = i + 2) := Lib.hid (by unfold uliF; rw [HE.out, if_neg hr, if_pos (by omega)])
              have y0 := (leb g).1; have ye0 := (leb g).2
              clear h g
              go_wp2
              go_ret
              exact ⟨retl (by rw [HO.out]; omega), rfl⟩
            · have HO : Hid (uliF n f = i + 2) := Lib.hid (by unfold uliF; rw [HE.out, if_neg hr, if_pos (by omega)])
              have y0 := (lnb g.1).1; have ye0 := (lnb g.1).2; have y1 := (leb g.2).1; have ye1 := (leb g.2).2
              clear h g
              go_wp2
              go_ret
              exact ⟨retl (by rw [HO.out]; omega), rfl⟩
            · have HO : Hid (uliF n f = 0) := Lib.hid (by unfold uliF; rw [HE.out, if_neg hr, if_neg (fun h => by omega)])
              have y0 := (lnb g.1).1; have ye0 := (lnb g.1).2; have y1 := (lnb g.2).1; have ye1 := (lnb g.2).2
              clear h g
              go_wp2
              go_ret
              exact ⟨retl (by rw [HO.out]; rfl), rfl⟩
          · have x0 := (lnb h.1).1; have xe0 := (lnb h.1).2; have x1 := (lnb h.2.1).1; have xe1 := (lnb h.2.1).2; have x2 := (leb h.2.2).1; have xe2 := (leb h.2.2).2
            have w2 : (f (i + 1) = 32) ∨ (f (i + 1) ≠ 32 ∧ f (i + 1) = 9) ∨ (f (i + 1) ≠ 32 ∧ f (i + 1) ≠ 9) := by omega
            rcases w2 with g | g | g
            · have HO : Hid (uliF n f = i + 2) := Lib.hid (by unfold uliF; rw [HE.out, if_neg hr, if_pos (by omega)])
              have y0 := (leb g).1; have ye0 := (leb g).2
              clear h g
              go_wp2
              go_ret
              exact ⟨retl (by rw [HO.out]; omega), rfl⟩
            · have HO : Hid (uliF n f = i + 2) := Lib.hid (by unfold uliF; rw [HE.out, if_neg hr, if_pos (by omega)])
              have y0 := (lnb g.1).1; have ye0 := (lnb g.1).2; have y1 := (leb g.2).1; have ye1 := (leb g.2).2
              clear h g
              go_wp2
              go_ret
              exact ⟨retl (by rw [HO.out]; omega), rfl⟩
            · have HO : Hid (uliF n f = 0) := Lib.hid (by unfold uliF; rw [HE.out, if_neg hr, if_neg (fun h => by omega)])
              have y0 := (lnb g.1).1; have ye0 := (lnb g.1).2; have y1 := (lnb g.2).1; have ye1 := (lnb g.2).2
              clear h g
              go_wp2
              go_ret
              exact ⟨retl (by rw [HO.out]; rfl), rfl⟩
          · have HO : Hid (uliF n f = 0) := Lib.hid (by unfold uliF; rw [HE.out, if_neg hr, if_neg (fun h => by omega)])
            have x0 := (lnb h.1).1; have xe0 := (lnb h.1).2; have x1 := (lnb h.2.1).1; have xe1 := (lnb h.2.1).2; have x2 := (lnb h.2.2).1; have xe2 := (lnb h.2.2).2
            clear h
            go_wp2
            go_ret
            exact ⟨retl (by rw [HO.out]; rfl), rfl⟩
    · have HE := Lib.hid (HS.out.trans (scan_end (by omega)))
      have HO : Hid (uliF n f = 0) := Lib.hid (by unfold uliF; rw [HE.out, if_pos (by omega)])
      go_wp2
      go_ret
      exact ⟨retl (by rw [HO.out]; rfl), rfl⟩
set_option maxHeartbeats 4000000 in
theorem quotePrefix_any (q : Option Addr) (A : Option Addr) (n cap : Nat) (f : Nat → Int) (w : World) (B : Nat) (h : RB w B A n cap f) (hn0 : 0 < n) (hn : n ≤ 100000) :
    Calls Tryz.prog 36 #[.pointer q, .slice A n cap] w fun e w' => e = .returned (.int .i64 (quoF n f)) ∧ w = w' := by
  have HH := Lib.hid h
  clear h
  go_enter Tryz.func36, Tryz.ntmps36
  go_wp2
  go_loop [5] (fun iv => ∃ i : Nat, Hid (blA n f 3 = scan noBl (min n 3) f i) ∧ i ≤ n ∧ i ≤ 3 ∧ iv = .int .i64 i) (fun iv => n - (intOf iv).toNat)
  case atStart => exact ⟨0, Lib.hid rfl, by omega, by omega, rfl⟩
  case round =>
    obtain ⟨i, HS, hi1, hi2, rfl⟩ := hrel
    by_cases hil : i < n
    · obtain ⟨b, off, rfl, hB, hcell⟩ := HH.out.2.2.2 (by omega)
      have k0 := hcell i hil
      have hrg := HH.out.rng i
      have HC := Lib.hid hcell
      clear hcell
      by_cases hi3 : i < 3
      · by_cases hb : f i = 32
        · have HS' := Lib.hid (HS.out.trans (scan_go (by omega) (by unfold noBl; simpa using hb)))
          have a1 := (leb hb).2
          clear hb
          go_wp2
          go_round
          case rel => exact ⟨i + 1, HS', by omega, by omega, by go_num⟩
          case measure => simp [intOf]; omega
        · have HE := Lib.hid (HS.out.trans (scan_hit (by unfold noBl; simpa using hb)))
          have a32 := (lnb hb).2
          clear hb
          by_cases h62 : f i = 62
          · have x1 := (leb h62).2
            by_cases hr : i + 1 < n
            · have k1 := HC.out (i + 1) hr
              by_cases h32 : f (i + 1) = 32
              · have HO : Hid (quoF n f = i + 2) := Lib.hid (by unfold quoF; rw [HE.out, if_pos ⟨hil, h62⟩, if_pos ⟨hr, h32⟩])
                have y1 := (leb h32).2
                clear h62 h32
                go_wp2
                go_ret
                exact ⟨retl (by rw [HO.out]; omega), rfl⟩
              · have HO : Hid (quoF n f = i + 1) := Lib.hid (by unfold quoF; rw [HE.out, if_pos ⟨hil, h62⟩, if_neg (fun h => h32 h.2)])
                have y1 := (lnb h32).2
                clear h62 h32
                go_wp2
                go_ret
                exact ⟨retl (by rw [HO.out]; omega), rfl⟩
            · have HO : Hid (quoF n f = i + 1) := Lib.hid (by unfold quoF; rw [HE.out, if_pos ⟨hil, h62⟩, if_neg (fun h => hr h.1)])
              clear h62
              go_wp2
              go_ret
              exact ⟨retl (by rw [HO.out]; omega), rfl⟩
          · have HO : Hid (quoF n f = 0) := Lib.hid (by unfold quoF; rw [HE.out, if_neg (fun h => h62 h.2)])
            have x1 := (lnb h62).2
            clear h62
            go_wp2
            go_ret
            exact ⟨retl (by rw [HO.out]; rfl), rfl⟩
      · have HE := Lib.hid (HS.out.trans (scan_end (by omega)))
        by_cases h62 : f i = 62
        · have x1 := (leb h62).2
          by_cases hr : i + 1 < n
          · have k1 := HC.out (i + 1) hr
            by_cases h32 : f (i + 1) = 32
            · have HO : Hid (quoF n f = i + 2) := Lib.hid (by unfold quoF; rw [HE.out, if_pos ⟨hil, h62⟩, if_pos ⟨hr, h32⟩])
              have y1 := (leb h32).2
              clear h62 h32
              go_wp2
              go_ret
              exact ⟨retl (by rw [HO.out]; omega), rfl⟩
            · have HO : Hid (quoF n f = i + 1) := Lib.hid (by unfold quoF; rw [HE.out, if_pos ⟨hil, h62⟩, if_neg (fun h => h32 h.2)])
              have y1 := (lnb h32).2
              clear h62 h32
              go_wp2
              go_ret
              exact ⟨retl (by rw [HO.out]; omega), rfl⟩
          · have HO : Hid (quoF n f = i + 1) := Lib.hid (by unfold quoF; rw [HE.out, if_pos ⟨hil, h62⟩, if_neg (fun h => hr h.1)])
            clear h62
            go_wp2
            go_ret
            exact ⟨retl (by rw [HO.out]; omega), rfl⟩
        · have HO : Hid (quoF n f = 0) := Lib.hid (by unfold quoF; rw [HE.out, if_neg (fun h => h62 h.2)])
          have x1 := (lnb h62).2
          clear h62
          go_wp2
          go_ret
          exact ⟨retl (by rw [HO.out]; rfl), rfl⟩
    · have HE := Lib.hid (HS.out.trans (scan_end (by omega)))
      have HO : Hid (quoF n f = 0) := Lib.hid (by unfold quoF; rw [HE.out, if_neg (fun h => hil h.1)])
      by_cases hi3 : i < 3
      · go_wp2
        go_ret
        exact ⟨retl (by rw [HO.out]; rfl), rfl⟩
      · go_wp2
        go_ret
        exact ⟨retl (by rw [HO.out]; rfl), rfl⟩
end Go.Proofs.YtcelfpgkknfnhaaGreatDoor
