/- The reference's test for safe links. -/
import Derived.Test.YtljoldjfmipaaaaC1
namespace Go.Proofs.Ytljoldjfmipaaaa
open Go.RowKit
set_option linter.unusedVariables false

/-- The paths, and the addresses that a link may begin with. -/
def pathAt : Nat → List Int
  | 0 => [47]
  | 1 => [46, 47]
  | _ => [46, 46, 47]
def uriAt : Nat → List Int
  | 0 => [104, 116, 116, 112, 58, 47, 47]
  | 1 => [104, 116, 116, 112, 115, 58, 47, 47]
  | 2 => [102, 116, 112, 58, 47, 47]
  | _ => [109, 97, 105, 108, 116, 111, 58, 47, 47]
def pathLen (k : Nat) : Nat := (pathAt k).length
def uriLen (k : Nat) : Nat := (uriAt k).length
def pathF (k j : Nat) : Int := (pathAt k).getD j 0
def uriF (k j : Nat) : Int := (uriAt k).getD j 0
theorem pathLen_rng (k : Nat) : 0 < pathLen k ∧ pathLen k ≤ 3 := by
  unfold pathLen pathAt; split <;> simp
theorem uriLen_rng (k : Nat) : 0 < uriLen k ∧ uriLen k ≤ 9 := by
  unfold uriLen uriAt; split <;> simp
theorem getD_rng {l : List Int} (h : ∀ x ∈ l, 0 ≤ x ∧ x ≤ 255) (j : Nat) : 0 ≤ l.getD j 0 ∧ l.getD j 0 ≤ 255 := by
  rcases Nat.lt_or_ge j l.length with hj | hj
  · exact h _ (by rw [List.getD_eq_getElem?_getD, List.getElem?_eq_getElem hj]; exact List.getElem_mem hj)
  · rw [List.getD_eq_getElem?_getD, List.getElem?_eq_none hj]; simp
theorem pathF_rng (k j : Nat) : 0 ≤ pathF k j ∧ pathF k j ≤ 255 := by
  unfold pathF; refine getD_rng ?_ j; unfold pathAt; split <;> simp
theorem uriF_rng (k j : Nat) : 0 ≤ uriF k j ∧ uriF k j ≤ 255 := by
  unfold uriF; refine getD_rng ?_ j; unfold uriAt; split <;> simp

def pathOk (n : Nat) (f : Nat → Int) (k : Nat) : Bool := begB n f (pathLen k) (pathF k) && (decide (n = pathLen k) || isw (f (pathLen k)))
def uriOk (n : Nat) (f : Nat → Int) (k : Nat) : Bool := begF n f (uriLen k) (uriF k) && decide (uriLen k < n) && isw (f (uriLen k))
/-- The link of the bytes f 0 .. f (n-1) is safe. -/
def safeB (n : Nat) (f : Nat → Int) : Bool := (List.range 3).any (pathOk n f) || (List.range 4).any (uriOk n f)
theorem safe_path {n : Nat} {f : Nat → Int} {k : Nat} (hk : k < 3) (h : pathOk n f k = true) : safeB n f = true := by
  have : (List.range 3).any (pathOk n f) = true := List.any_eq_true.2 ⟨k, List.mem_range.2 hk, h⟩
  unfold safeB; rw [this]; rfl
theorem safe_uri {n : Nat} {f : Nat → Int} {k : Nat} (hk : k < 4) (h : uriOk n f k = true) : safeB n f = true := by
  have : (List.range 4).any (uriOk n f) = true := List.any_eq_true.2 ⟨k, List.mem_range.2 hk, h⟩
  unfold safeB; rw [this, Bool.or_true]
theorem safe_none {n : Nat} {f : Nat → Int} (h1 : ∀ k, k < 3 → pathOk n f k = false) (h2 : ∀ k, k < 4 → uriOk n f k = false) : safeB n f = false := by
  have e1 : (List.range 3).any (pathOk n f) = false := by
    rw [List.any_eq_false]; intro x hx; rw [h1 x (List.mem_range.1 hx)]; simp
  have e2 : (List.range 4).any (uriOk n f) = false := by
    rw [List.any_eq_false]; intro x hx; rw [h2 x (List.mem_range.1 hx)]; simp
  unfold safeB; rw [e1, e2]; rfl
theorem pathOk_len {n : Nat} {f : Nat → Int} {k : Nat} (h : begB n f (pathLen k) (pathF k) = true) (he : n = pathLen k) : pathOk n f k = true := by
  unfold pathOk; rw [h, decide_eq_true he]; rfl
theorem pathOk_word {n : Nat} {f : Nat → Int} {k : Nat} (h : begB n f (pathLen k) (pathF k) = true) (he : isw (f (pathLen k)) = true) : pathOk n f k = true := by
  unfold pathOk; rw [h, he, Bool.or_true]; rfl
theorem uriOk_word {n : Nat} {f : Nat → Int} {k : Nat} (h : begF n f (uriLen k) (uriF k) = true) (hl : uriLen k < n) (he : isw (f (uriLen k)) = true) : uriOk n f k = true := by
  unfold uriOk; rw [h, he, decide_eq_true hl]; rfl

/-- A string whose bytes are those of a list. -/
def LitOf (s : ByteArray) (m : Nat) (g : Nat → Int) : Prop := s.size = m ∧ ∀ i (h : i < s.size), ((s[i]'h).toNat : Int) = g i
theorem lit_of (s : ByteArray) (l : List Int) (h : s = strOf l) (hl : ∀ x ∈ l, 0 ≤ x ∧ x ≤ 255) : LitOf s l.length (fun j => l.getD j 0) := by
  subst h
  refine ⟨strOf_size l, fun i hi => ?_⟩
  rw [bt_str, strOf_list, bt_bytesOf l hl]
  exact (List.getD_eq_getElem?_getD ..).symm

/-- Where the strings of the two literals lie. -/
def PathCells (w : World) (B : Nat) : Prop := ∀ k, k < 3 → ∃ s, w.cell? ⟨B, k, none⟩ = some (.string s) ∧ LitOf s (pathLen k) (pathF k)
def UriCells (w : World) (B : Nat) : Prop := ∀ k, k < 4 → ∃ s, w.cell? ⟨B, k, none⟩ = some (.string s) ∧ LitOf s (uriLen k) (uriF k)
theorem pathCells_of (w : World) (e : TypeId) : PathCells (w.alloc (.cells #[.string ⟨#[47]⟩, .string ⟨#[46, 47]⟩, .string ⟨#[46, 46, 47]⟩] e)) w.heap.size := by
  intro k hk
  rw [World.cell?_alloc_at _ _ _ _ rfl]
  match k, hk with
  | 0, _ => exact ⟨_, rfl, lit_of _ [47] (by decide) (by simp)⟩
  | 1, _ => exact ⟨_, rfl, lit_of _ [46, 47] (by decide) (by simp)⟩
  | 2, _ => exact ⟨_, rfl, lit_of _ [46, 46, 47] (by decide) (by simp)⟩
theorem uriCells_of (w : World) (e : TypeId) : UriCells (w.alloc (.cells #[.string ⟨#[104, 116, 116, 112, 58, 47, 47]⟩, .string ⟨#[104, 116, 116, 112, 115, 58, 47, 47]⟩, .string ⟨#[102, 116, 112, 58, 47, 47]⟩, .string ⟨#[109, 97, 105, 108, 116, 111, 58, 47, 47]⟩] e)) w.heap.size := by
  intro k hk
  rw [World.cell?_alloc_at _ _ _ _ rfl]
  match k, hk with
  | 0, _ => exact ⟨_, rfl, lit_of _ [104, 116, 116, 112, 58, 47, 47] (by decide) (by simp)⟩
  | 1, _ => exact ⟨_, rfl, lit_of _ [104, 116, 116, 112, 115, 58, 47, 47] (by decide) (by simp)⟩
  | 2, _ => exact ⟨_, rfl, lit_of _ [102, 116, 112, 58, 47, 47] (by decide) (by simp)⟩
  | 3, _ => exact ⟨_, rfl, lit_of _ [109, 97, 105, 108, 116, 111, 58, 47, 47] (by decide) (by simp)⟩

set_option maxHeartbeats 1600000 in
set_option maxRecDepth 100000 in
theorem specSafe_any (A : Option Addr) (n c : Nat) (f : Nat → Int) (w : World) (h : RB w w.heap.size A n c f) (hn : n ≤ 100000) :
    Calls Try.prog 18 #[.slice A n c] w fun e w' => e = .returned (.bool (safeB n f)) ∧ Below w.heap.size w w' := by
  have HR := Lib.hid h
  clear h
  go_enter Try.func18, Try.ntmps18
  go_wp2
  go_loopw [9] (fun i wr => ∃ (k : Nat), k ≤ 3 ∧ i = .int .i64 k ∧ Hid (∀ j, j < k → pathOk n f j = false) ∧ Hid (PathCells wr w.heap.size) ∧ Below w.heap.size w wr)
    (fun i _ => 3 - (intOf i).toNat)
  case atStart => exact ⟨0, by omega, rfl, fun j hj => absurd hj (by omega), pathCells_of w _, (Below.refl _ _).alloc (Nat.le_refl _) _⟩
  case round =>
    obtain ⟨k, hk, rfl, HP, HC, hbl⟩ := hrel
    by_cases hlt : k < 3
    · obtain ⟨s, hck, hs1, hs2⟩ := HC.out k hlt
      have hpl := pathLen_rng k
      have C := Lib.hid (begins_any A n c f s (pathF k) wr w.heap.size (HR.out.below hbl) hs2 (pathF_rng k) (by omega) (by omega) (by omega))
      have hz1 : 0 < s.size := by omega
      have hz2 : s.size ≤ 9 := by omega
      have HS1 := Lib.hid hs1
      clear hs2 hs1 hpl
      by_cases hb : begB n f s.size (pathF k) = true
      · have hle : s.size ≤ n := by simp [begB] at hb; exact hb.1
        obtain ⟨b, off, rfl, hB, hcell⟩ := (HR.out.below hbl).2.2.2 (by omega)
        have HB := Lib.hid hb
        clear hb
        by_cases he : n = s.size
        · have HOK : Hid (safeB n f = true) := Lib.hid (safe_path hlt (pathOk_len (by rw [← HS1.out]; exact HB.out) (he.trans HS1.out)))
          have e1 : ((n : Int) == (s.size : Int)) = true := by simp [he]
          clear he hcell
          go_wp2_with (go_at_call 24; refine C.out.mono ?_; rintro e w' ⟨rfl, rfl⟩; rw [HB.out])
          go_ret
          exact ⟨ret_bool (by rw [HOK.out]), hbl⟩
        · have e1 : ((n : Int) == (s.size : Int)) = false := by simp; omega
          have hlt2 : s.size < n := by omega
          have hcs := hcell s.size hlt2
          clear hcell
          by_cases hw : isw (f s.size) = true
          · have HOK : Hid (safeB n f = true) := Lib.hid (safe_path hlt (pathOk_word (by rw [← HS1.out]; exact HB.out) (by rw [← HS1.out]; exact hw)))
            go_wp2_with (first
              | (go_at_call 24; refine C.out.mono ?_; rintro e w' ⟨rfl, rfl⟩; rw [HB.out])
              | (go_at_call 20; refine (isWordByte_any _ _).mono ?_; rintro e w' ⟨rfl, rfl⟩))
            go_ret
            exact ⟨ret_bool (by rw [HOK.out]), hbl⟩
          · have hw' : isw (f s.size) = false := by simpa using hw
            have HN : Hid (∀ j, j < k + 1 → pathOk n f j = false) := Lib.hid (fun j hj => by
              rcases Nat.lt_or_ge j k with h | h
              · exact HP.out j h
              · obtain rfl : j = k := by omega
                rw [HS1.out] at he hw'
                simp [pathOk, he, hw'])
            clear hw he
            go_wp2_with (first
              | (go_at_call 24; refine C.out.mono ?_; rintro e w' ⟨rfl, rfl⟩; rw [HB.out])
              | (go_at_call 20; refine (isWordByte_any _ _).mono ?_; rintro e w' ⟨rfl, rfl⟩))
            go_roundw
            case rel => exact ⟨k + 1, by omega, by go_num, HN, HC, hbl⟩
            case measure => simp [intOf]; omega
      · have hb' : begB n f s.size (pathF k) = false := by simpa using hb
        have HB := Lib.hid hb'
        have HN : Hid (∀ j, j < k + 1 → pathOk n f j = false) := Lib.hid (fun j hj => by
          rcases Nat.lt_or_ge j k with h | h
          · exact HP.out j h
          · obtain rfl : j = k := by omega
            rw [HS1.out] at hb'
            simp [pathOk, hb'])
        clear hb hb'
        go_wp2_with (go_at_call 24; refine C.out.mono ?_; rintro e w' ⟨rfl, rfl⟩; rw [HB.out])
        go_roundw
        case rel => exact ⟨k + 1, by omega, by go_num, HN, HC, hbl⟩
        case measure => simp [intOf]; omega
    · obtain rfl : k = 3 := by omega
      clear HC hlt hk
      have hbs := hbl.size
      go_wp2
      obtain ⟨wo, rfl⟩ : ∃ wo : World, wo = wr := ⟨_, rfl⟩
      go_loopw [34] (fun i wq => ∃ (k : Nat), k ≤ 4 ∧ i = .int .i64 k ∧ Hid (∀ j, j < k → uriOk n f j = false) ∧ Hid (UriCells wq wo.heap.size) ∧ Below w.heap.size w wq)
        (fun i _ => 4 - (intOf i).toNat)
      case atStart => exact ⟨0, by omega, rfl, fun j hj => absurd hj (by omega), uriCells_of wo _, hbl.alloc hbs _⟩
      case round =>
        obtain ⟨k, hk, rfl, HQ, HC, hbl2⟩ := hrel
        by_cases hlt : k < 4
        · obtain ⟨s, hck, hs1, hs2⟩ := HC.out k hlt
          have hpl := uriLen_rng k
          have C := Lib.hid (beginsFolded_any A n c f s (uriF k) wr w.heap.size (HR.out.below hbl2) hs2 (by omega) (by omega) (by omega))
          have hz1 : 0 < s.size := by omega
          have hz2 : s.size ≤ 9 := by omega
          have HS1 := Lib.hid hs1
          clear hs2 hs1 hpl
          by_cases hb : begF n f s.size (uriF k) = true
          · have hle : s.size ≤ n := by simp [begF] at hb; exact hb.1
            have HB := Lib.hid hb
            clear hb
            by_cases he : s.size < n
            · obtain ⟨b, off, rfl, hB, hcell⟩ := (HR.out.below hbl2).2.2.2 (by omega)
              have hcs := hcell s.size (by omega)
              clear hcell
              by_cases hw : isw (f s.size) = true
              · have HOK : Hid (safeB n f = true) := Lib.hid (safe_uri hlt (uriOk_word (by rw [← HS1.out]; exact HB.out) (by rw [← HS1.out]; exact he) (by rw [← HS1.out]; exact hw)))
                go_wp2_with (first
                  | (go_at_call 25; refine C.out.mono ?_; rintro e w' ⟨rfl, rfl⟩; rw [HB.out])
                  | (go_at_call 20; refine (isWordByte_any _ _).mono ?_; rintro e w' ⟨rfl, rfl⟩))
                go_ret
                exact ⟨ret_bool (by rw [HOK.out]), hbl2⟩
              · have hw' : isw (f s.size) = false := by simpa using hw
                have HN : Hid (∀ j, j < k + 1 → uriOk n f j = false) := Lib.hid (fun j hj => by
                  rcases Nat.lt_or_ge j k with h | h
                  · exact HQ.out j h
                  · obtain rfl : j = k := by omega
                    rw [HS1.out] at hw'
                    simp [uriOk, hw'])
                clear hw
                go_wp2_with (first
                  | (go_at_call 25; refine C.out.mono ?_; rintro e w' ⟨rfl, rfl⟩; rw [HB.out])
                  | (go_at_call 20; refine (isWordByte_any _ _).mono ?_; rintro e w' ⟨rfl, rfl⟩))
                go_roundw
                case rel => first | exact ⟨k + 1, by omega, by go_num, HN, HC, hbl2⟩ | ((repeat apply Exists.intro); exact ⟨⟨k + 1, by omega, by go_num, HN, HC, hbl2⟩, rfl⟩)
                case measure => simp [intOf]; omega
            · have HN : Hid (∀ j, j < k + 1 → uriOk n f j = false) := Lib.hid (fun j hj => by
                rcases Nat.lt_or_ge j k with h | h
                · exact HQ.out j h
                · obtain rfl : j = k := by omega
                  have : ¬ uriLen j < n := by have := HS1.out; omega
                  simp [uriOk, this])
              have he' : n ≤ s.size := by omega
              clear he
              go_wp2_with (go_at_call 25; refine C.out.mono ?_; rintro e w' ⟨rfl, rfl⟩; rw [HB.out])
              go_roundw
              case rel => first | exact ⟨k + 1, by omega, by go_num, HN, HC, hbl2⟩ | ((repeat apply Exists.intro); exact ⟨⟨k + 1, by omega, by go_num, HN, HC, hbl2⟩, rfl⟩)
              case measure => simp [intOf]; omega
          · have hb' : begF n f s.size (uriF k) = false := by simpa using hb
            have HB := Lib.hid hb'
            have HN : Hid (∀ j, j < k + 1 → uriOk n f j = false) := Lib.hid (fun j hj => by
              rcases Nat.lt_or_ge j k with h | h
              · exact HQ.out j h
              · obtain rfl : j = k := by omega
                rw [HS1.out] at hb'
                simp [uriOk, hb'])
            clear hb hb'
            go_wp2_with (go_at_call 25; refine C.out.mono ?_; rintro e w' ⟨rfl, rfl⟩; rw [HB.out])
            go_roundw
            case rel => first | exact ⟨k + 1, by omega, by go_num, HN, HC, hbl2⟩ | ((repeat apply Exists.intro); exact ⟨⟨k + 1, by omega, by go_num, HN, HC, hbl2⟩, rfl⟩)
            case measure => simp [intOf]; omega
        · obtain rfl : k = 4 := by omega
          have HOK : Hid (safeB n f = false) := Lib.hid (safe_none HP.out HQ.out)
          clear HC hlt hk
          go_wp2
          go_ret
          exact ⟨ret_bool (by rw [HOK.out]), hbl2⟩
end Go.Proofs.Ytljoldjfmipaaaa
