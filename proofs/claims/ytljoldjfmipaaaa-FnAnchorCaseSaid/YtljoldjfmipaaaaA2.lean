/- Contracts of the two functions that make an anchor. -/
import Derived.Test.YtljoldjfmipaaaaA1
import Derived.Test.YtljoldjfmipaaaaMem
namespace Go.Proofs.Ytljoldjfmipaaaa
open Go.RowKit

/-- One character of an anchor: what is written so far, and whether a dash is owed. -/
def astep (p : List Int × Bool) (c : Int) : List Int × Bool :=
  if isw c then ((if p.2 && decide (0 < p.1.length) then p.1 ++ [45] else p.1) ++ [low c], false) else (p.1, true)
def aT (f : Nat → Int) (k : Nat) : List Int × Bool := iter astep ([], false) f k
theorem aT_len (f : Nat → Int) : ∀ k, (aT f k).1.length ≤ 2 * k
  | 0 => by simp [aT, iter]
  | k + 1 => by
    have := aT_len f k
    have e : aT f (k + 1) = astep (aT f k) (f k) := rfl
    rw [e]; unfold astep
    split
    · split <;> simp <;> omega
    · simp; omega
theorem low_rng (c : Int) (h : isw c = true) : 0 ≤ low c ∧ low c ≤ 127 := by
  simp [isw] at h; unfold low; split <;> omega
theorem aT_rng (f : Nat → Int) : ∀ k, ∀ x ∈ (aT f k).1, 0 ≤ x ∧ x ≤ 127
  | 0 => by simp [aT, iter]
  | k + 1 => by
    have ih := aT_rng f k
    have e : aT f (k + 1) = astep (aT f k) (f k) := rfl
    rw [e]; unfold astep
    split
    · rename_i h
      have hl := low_rng _ h
      split
      · intro x hx; simp at hx; rcases hx with hx | rfl | rfl
        · exact ih x hx
        · omega
        · exact hl
      · intro x hx; simp at hx; rcases hx with hx | rfl
        · exact ih x hx
        · exact hl
    · exact ih
theorem a_skip {f : Nat → Int} {k : Nat} {o : List Int} {g : Bool} (e : aT f k = (o, g)) (h : isw (f k) = false) : aT f (k + 1) = (o, true) := by
  show astep (aT f k) (f k) = _
  simp [astep, h, e]
theorem a_dash {f : Nat → Int} {k : Nat} {o : List Int} (e : aT f k = (o, true)) (h : isw (f k) = true) (hl : 0 < o.length) : aT f (k + 1) = (o ++ [45] ++ [low (f k)], false) := by
  show astep (aT f k) (f k) = _
  simp [astep, h, e, hl]
theorem a_word {f : Nat → Int} {k : Nat} {o : List Int} {g : Bool} (e : aT f k = (o, g)) (h : isw (f k) = true) (hg : g = false ∨ o.length = 0) : aT f (k + 1) = (o ++ [low (f k)], false) := by
  show astep (aT f k) (f k) = _
  rcases hg with hg | hg <;> simp [astep, h, e, hg]
theorem a_len {f : Nat → Int} {k : Nat} {o : List Int} {g : Bool} (e : aT f k = (o, g)) : o.length ≤ 2 * k := by
  have := aT_len f k; rw [e] at this; exact this
theorem a_rng {f : Nat → Int} {k : Nat} {o : List Int} {g : Bool} (e : aT f k = (o, g)) : ∀ x ∈ o, 0 ≤ x ∧ x ≤ 127 := by
  have := aT_rng f k; rw [e] at this; exact this

theorem Try.infoByte : (Try.prog.info? 5).map (fun i => (i.zero, i.size, i.bytes)) = some (some (.int .u8 0), 1, 1) := by kernel_rfl
theorem Try.infoRune : (Try.prog.info? 21).map (fun i => (i.zero, i.size, i.bytes)) = some (some (.int .i32 0), 1, 4) := by kernel_rfl

set_option maxHeartbeats 800000 in
theorem specAnchor_any (s : ByteArray) (f : Nat → Int) (hf : ∀ n (h : n < s.size), ((s[n]'h).toNat : Int) = f n) (hr : ∀ k, 0 ≤ f k ∧ f k ≤ 255) (hs : s.size ≤ 100000) (w : World) :
    Calls Try.prog 11 #[.string s] w fun e w' => e = .returned (.string (strOf (aT f s.size).1)) ∧ Below w.heap.size w w' := by
  obtain ⟨i0, hi, hz0, hz1, hz2⟩ := info_parts Try.infoByte
  have HR := Lib.hid hr; clear hr
  go_enter Try.func11, Try.ntmps11
  go_wp2
  go_loopw [3, 4, 5] (fun v gv i wr => ∃ (k : Nat) (o : List Int) (g : Bool) (A : Option Addr) (c : Nat), Hid (aT f k = (o, g)) ∧ k ≤ s.size ∧ i = .int .i64 k ∧ gv = .bool g ∧ v = .slice A o.length c ∧ wr.ownsRow w.heap.size 5 1 (.slice A o.length c) o.length (o.map (Value.int .u8)) ∧ Below w.heap.size w wr)
    (fun _ _ i _ => s.size - (intOf i).toNat)
  case atStart => exact ⟨0, [], false, none, 0, rfl, Nat.zero_le _, rfl, rfl, rfl, World.ownsRow_nil _ _ _ _, Below.refl _ _⟩
  case round =>
    obtain ⟨k, o, g, A, c, HE, hk, rfl, rfl, rfl, hown, hbl⟩ := hrel
    by_cases hlt : k < s.size
    · have hb := HR.out k
      have hlen := a_len HE.out
      have hsz := hbl.size
      by_cases hw : isw (f k) = true
      · have hlr := low_rng _ hw
        have hcap : f k < 65 ∨ 90 < f k → low (f k) = f k := fun h => by unfold low; rw [if_neg (by omega)]
        have hcup : 65 ≤ f k → f k ≤ 90 → low (f k) = f k + 32 := fun h1 h2 => by unfold low; rw [if_pos ⟨h1, h2⟩]
        have HL := Lib.hid (And.intro hcap hcup); clear hcap hcup
        by_cases hd : g = true ∧ 0 < o.length
        · obtain ⟨rfl, hl⟩ := hd
          have HN := Lib.hid (a_dash HE.out hw hl)
          go_wp2_with (first
            | (go_at_call 20; refine (isWordByte_any _ _).mono ?_; rintro e w' ⟨rfl, rfl⟩)
            | (at_builtin; refine wpList_app1 (.tmp 25) (.tmp 26) _ w.heap.size 5 i0 (.int .u8 0) (.int .u8 45) 1 wr _ _ _ _ hown rfl rfl Try.underlying25 hi hz0 hz1 hz2 rfl rfl rfl rfl (by omega) (by omega) hsz ?_; intro A1 c1 w1 hown1 hg1; have hbl1 := below_app hbl hown (Nat.le_refl _) hsz hg1; have hsz1 := hbl1.size)
            | (at_builtin; refine wpList_app1 (.tmp 36) (.tmp 38) _ w.heap.size 5 i0 (.int .u8 0) _ 1 w1 _ _ _ _ hown1 rfl rfl Try.underlying25 hi hz0 hz1 hz2 rfl rfl rfl rfl (by omega) (by omega) hsz1 ?_; intro A2 c2 w2 hown2 hg2; have hbl2 := below_app hbl1 hown1 (Nat.le_refl _) hsz1 hg2))
          all_goals
            have hlow : low (f k) = f k ∨ low (f k) = f k + 32 := by first | (left; exact HL.out.1 (by omega)) | (right; exact HL.out.2 (by omega) (by omega))
            go_roundw
            case rel => exact ⟨k + 1, _, _, A2, c2, HN, by omega, by go_num, rfl, by simp, by first | (rw [HL.out.1 (by omega)]; simpa using hown2) | (rw [HL.out.2 (by omega) (by omega)]; simpa using hown2), hbl2⟩
            case measure => simp [intOf]; omega
        · have hd' : g = false ∨ o.length = 0 := by
            cases g
            · exact .inl rfl
            · right; simp at hd; simp [hd]
          have HN := Lib.hid (a_word HE.out hw hd')
          rcases hd' with rfl | h0
          · go_wp2_with (first
              | (go_at_call 20; refine (isWordByte_any _ _).mono ?_; rintro e w' ⟨rfl, rfl⟩)
              | (at_builtin; refine wpList_app1 (.tmp 36) (.tmp 38) _ w.heap.size 5 i0 (.int .u8 0) _ 1 wr _ _ _ _ hown rfl rfl Try.underlying25 hi hz0 hz1 hz2 rfl rfl rfl rfl (by omega) (by omega) hsz ?_; intro A2 c2 w2 hown2 hg2; have hbl2 := below_app hbl hown (Nat.le_refl _) hsz hg2))
            all_goals
              go_roundw
              case rel => exact ⟨k + 1, _, _, A2, c2, HN, by omega, by go_num, rfl, by simp, by first | (rw [HL.out.1 (by omega)]; simpa using hown2) | (rw [HL.out.2 (by omega) (by omega)]; simpa using hown2), hbl2⟩
              case measure => simp [intOf]; omega
          · obtain rfl : o = [] := List.eq_nil_of_length_eq_zero h0
            clear h0
            cases g
            all_goals
              go_wp2_with (first
                | (go_at_call 20; refine (isWordByte_any _ _).mono ?_; rintro e w' ⟨rfl, rfl⟩)
                | (at_builtin; refine wpList_app1 (.tmp 36) (.tmp 38) _ w.heap.size 5 i0 (.int .u8 0) _ 1 wr _ _ _ _ hown rfl rfl Try.underlying25 hi hz0 hz1 hz2 rfl rfl rfl rfl (by simp) (by omega) hsz ?_; intro A2 c2 w2 hown2 hg2; have hbl2 := below_app hbl hown (Nat.le_refl _) hsz hg2))
              all_goals
                go_roundw
                case rel => exact ⟨k + 1, _, _, A2, c2, HN, by omega, by go_num, rfl, by simp, by first | (rw [HL.out.1 (by omega)]; simpa using hown2) | (rw [HL.out.2 (by omega) (by omega)]; simpa using hown2), hbl2⟩
                case measure => simp [intOf]; omega
      · have hw' : isw (f k) = false := by simpa using hw
        clear hw
        have HN := Lib.hid (a_skip HE.out hw')
        go_wp2_with (go_at_call 20; refine (isWordByte_any _ _).mono ?_; rintro e w' ⟨rfl, rfl⟩)
        go_roundw
        case rel => exact ⟨k + 1, o, true, A, c, HN, by omega, by go_num, rfl, rfl, hown, hbl⟩
        case measure => simp [intOf]; omega
    · obtain rfl : k = s.size := by omega
      have hcv := conv_own (P := Try.prog) wr 25 9 5 w.heap.size _ o Try.underlying25 Try.underlying5 Try.underlying9 hown (fun x hx => by have := a_rng HE.out x hx; omega)
      go_wp2
      go_ret
      exact ⟨ret_str (by rw [HE.out]), hbl⟩

set_option maxHeartbeats 800000 in
theorem sanitized_any (s : ByteArray) (f : Nat → Int) (hf : ∀ n (h : n < s.size), ((s[n]'h).toNat : Int) = f n) (hr : ∀ k, k < s.size → 0 ≤ f k ∧ f k ≤ 127) (hs : s.size ≤ 100000) (w : World) :
    Calls Try.prog 19 #[.string s] w fun e w' => e = .returned (.string (strOf (aT f s.size).1)) ∧ Below w.heap.size w w' := by
  obtain ⟨i0, hi, hz0, hz1, hz2⟩ := info_parts Try.infoRune
  have HR := Lib.hid hr; clear hr
  have HF := Lib.hid hf; clear hf
  go_enter Try.func19, Try.ntmps19
  go_wp2
  go_loopw [3, 4] (fun v gv wr => ∃ (k : Nat) (o : List Int) (g : Bool) (A : Option Addr) (c : Nat), Hid (aT f k = (o, g)) ∧ k ≤ s.size ∧ wr.heap[w.heap.size]? = some (.stringIter s k) ∧ gv = .bool g ∧ v = .slice A o.length c ∧ wr.ownsRow (w.heap.size + 1) 21 1 (.slice A o.length c) o.length (o.map (Value.int .i32)) ∧ Below w.heap.size w wr ∧ w.heap.size + 1 ≤ wr.heap.size)
    (fun _ _ wr => s.size - wr.iterPos w.heap.size)
  case atStart => exact ⟨0, [], false, none, 0, rfl, Nat.zero_le _, by simp [World.iter_heap], rfl, rfl, World.ownsRow_nil _ _ _ _, (Below.refl _ _).alloc (Nat.le_refl _) _, by simp [World.iter]⟩
  case round =>
    obtain ⟨k, o, g, A, c, HE, hk, hit, rfl, rfl, hown, hbl, hsz⟩ := hrel
    by_cases hlt : k < s.size
    · have hb := HR.out k hlt
      have hlen := a_len HE.out
      obtain ⟨W1, hnx, hit1, hs1, hg1⟩ := next_ascii (P := Try.prog) wr w.heap.size s f HF.out k hlt (by omega) hit
      have hown0 := own_kept hown hg1 (by omega)
      have hbl0 := hbl.grown hg1 (by omega) (fun j hj => by injection hj; omega)
      have hmu : wr.iterPos w.heap.size = k := by simp [World.iterPos, hit]
      have HMU := Lib.hid hmu; clear hmu
      have HIT := Lib.hid hit1; clear hit hit1 hown hbl
      have HS := Lib.hid hs1
      have hsz0 : w.heap.size + 1 ≤ W1.heap.size := by omega
      clear hs1 hg1 hsz
      by_cases hw : isw (f k) = true
      · have hlr := low_rng _ hw
        by_cases hd : g = true ∧ 0 < o.length
        · obtain ⟨rfl, hl⟩ := hd
          have HN := Lib.hid (a_dash HE.out hw hl)
          go_wp2_with (first
            | (go_at_call 26; refine (zzIsAlnum_any _ _).mono ?_; rintro e w' ⟨rfl, rfl⟩)
            | (go_at_call 27; refine (zzToLower_any _ _).mono ?_; rintro e w' ⟨rfl, rfl⟩)
            | (at_builtin; refine wpList_app1 (.tmp 21) (.tmp 22) _ (w.heap.size + 1) 21 i0 (.int .i32 0) (.int .i32 45) 4 W1 _ _ _ _ hown0 rfl rfl Try.underlying32 hi hz0 hz1 hz2 rfl rfl rfl rfl (by omega) (by omega) hsz0 ?_; intro A1 c1 w1 hown1 hg1; have hbl1 := below_app hbl0 hown0 (by omega) (by omega) hg1; have HIT1 := Lib.hid (blk_app hown0 hg1 (by omega) HIT.out); have hsz1 := Nat.le_trans hsz0 hg1.size)
            | (at_builtin; refine wpList_app1 (.tmp 24) (.tmp 27) _ (w.heap.size + 1) 21 i0 (.int .i32 0) _ 4 w1 _ _ _ _ hown1 rfl rfl Try.underlying32 hi hz0 hz1 hz2 rfl rfl rfl rfl (by omega) (by omega) hsz1 ?_; intro A2 c2 w2 hown2 hg2; have hbl2 := below_app hbl1 hown1 (by omega) (by omega) hg2; have HIT2 := Lib.hid (blk_app hown1 hg2 (by omega) HIT1.out); have hsz2 := Nat.le_trans hsz1 hg2.size))
          go_roundw
          case rel => exact ⟨k + 1, _, _, A2, c2, HN, by omega, HIT2.out, rfl, by simp, by simpa using hown2, hbl2, hsz2⟩
          case measure => rw [HMU.out]; simp [World.iterPos, HIT2.out]; omega
        · have hd' : g = false ∨ o.length = 0 := by
            cases g
            · exact .inl rfl
            · right; simp at hd; simp [hd]
          have HN := Lib.hid (a_word HE.out hw hd')
          rcases hd' with rfl | h0
          · go_wp2_with (first
              | (go_at_call 26; refine (zzIsAlnum_any _ _).mono ?_; rintro e w' ⟨rfl, rfl⟩)
              | (go_at_call 27; refine (zzToLower_any _ _).mono ?_; rintro e w' ⟨rfl, rfl⟩)
              | (at_builtin; refine wpList_app1 (.tmp 24) (.tmp 27) _ (w.heap.size + 1) 21 i0 (.int .i32 0) _ 4 W1 _ _ _ _ hown0 rfl rfl Try.underlying32 hi hz0 hz1 hz2 rfl rfl rfl rfl (by omega) (by omega) hsz0 ?_; intro A2 c2 w2 hown2 hg2; have hbl2 := below_app hbl0 hown0 (by omega) (by omega) hg2; have HIT2 := Lib.hid (blk_app hown0 hg2 (by omega) HIT.out); have hsz2 := Nat.le_trans hsz0 hg2.size))
            go_roundw
            case rel => exact ⟨k + 1, _, _, A2, c2, HN, by omega, HIT2.out, rfl, by simp, by simpa using hown2, hbl2, hsz2⟩
            case measure => rw [HMU.out]; simp [World.iterPos, HIT2.out]; omega
          · obtain rfl : o = [] := List.eq_nil_of_length_eq_zero h0
            clear h0
            cases g
            all_goals
              go_wp2_with (first
                | (go_at_call 26; refine (zzIsAlnum_any _ _).mono ?_; rintro e w' ⟨rfl, rfl⟩)
                | (go_at_call 27; refine (zzToLower_any _ _).mono ?_; rintro e w' ⟨rfl, rfl⟩)
                | (at_builtin; refine wpList_app1 (.tmp 24) (.tmp 27) _ (w.heap.size + 1) 21 i0 (.int .i32 0) _ 4 W1 _ _ _ _ hown0 rfl rfl Try.underlying32 hi hz0 hz1 hz2 rfl rfl rfl rfl (by simp) (by omega) hsz0 ?_; intro A2 c2 w2 hown2 hg2; have hbl2 := below_app hbl0 hown0 (by omega) (by omega) hg2; have HIT2 := Lib.hid (blk_app hown0 hg2 (by omega) HIT.out); have hsz2 := Nat.le_trans hsz0 hg2.size))
              go_roundw
              case rel => exact ⟨k + 1, _, _, A2, c2, HN, by omega, HIT2.out, rfl, by simp, by simpa using hown2, hbl2, hsz2⟩
              case measure => rw [HMU.out]; simp [World.iterPos, HIT2.out]; omega
      · have hw' : isw (f k) = false := by simpa using hw
        clear hw
        have HN := Lib.hid (a_skip HE.out hw')
        go_wp2_with (go_at_call 26; refine (zzIsAlnum_any _ _).mono ?_; rintro e w' ⟨rfl, rfl⟩)
        go_roundw
        case rel => exact ⟨k + 1, o, true, A, c, HN, by omega, HIT.out, rfl, rfl, hown0, hbl0, hsz0⟩
        case measure => rw [HMU.out]; simp [World.iterPos, HIT.out]; omega
    · obtain rfl : k = s.size := by omega
      have hnx : ∀ ty, (Instr.next (.pointer (some ⟨w.heap.size, 0, none⟩)) true ty).run Try.prog wr = _ := fun ty => Lib.run_next_end_at wr w.heap.size s s.size ty hit (by omega)
      have hcv := conv_runes (P := Try.prog) wr 32 9 21 (w.heap.size + 1) _ o Try.underlying32 Try.underlying21 Try.underlying9 hown (a_rng HE.out)
      clear hit
      go_wp2
      go_ret
      exact ⟨ret_str (by rw [HE.out]), hbl⟩
end Go.Proofs.Ytljoldjfmipaaaa
