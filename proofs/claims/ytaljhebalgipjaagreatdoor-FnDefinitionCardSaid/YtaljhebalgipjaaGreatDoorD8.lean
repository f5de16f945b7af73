/- Reference definitions: lines of words, and the text that they make. -/
import Derived.Test.YtaljhebalgipjaaGreatDoorD7
import Derived.Deep.DeepCutAuto
import Derived.Deep.CutBlock
import Derived.Lib.AppendStr
import Derived.Laws.AppendOwnNone
namespace Go.Proofs.YtaljhebalgipjaaGreatDoor
open Go.RowKit
set_option linter.unusedVariables false

/-- The slice value '.slice A n c' reads as the strings g 0, .., g (n-1). -/
def RS (w : World) (B : Nat) (A : Option Addr) (n c : Nat) (g : Nat → ByteArray) : Prop :=
  n ≤ c ∧ (0 < n → ∃ b off, A = some ⟨b, off, none⟩ ∧ b < B ∧ ∀ j, j < n → w.cell? ⟨b, off + j, none⟩ = some (.string (g j)))
theorem RS.below {w w' : World} {B : Nat} {A : Option Addr} {n c : Nat} {g : Nat → ByteArray} (h : RS w B A n c g) (hb : Below B w w') : RS w' B A n c g :=
  ⟨h.1, fun hn => by
    obtain ⟨b, off, e, hB, hc⟩ := h.2 hn
    exact ⟨b, off, e, hB, fun j hj => (hb.cell (p := ⟨b, off + j, none⟩) hB).trans (hc j hj)⟩⟩
theorem RS.more {w : World} {B B' : Nat} {A : Option Addr} {n c : Nat} {g : Nat → ByteArray} (h : RS w B A n c g) (hB : B ≤ B') : RS w B' A n c g :=
  ⟨h.1, fun hn => by
    obtain ⟨b, off, e, hB', hc⟩ := h.2 hn
    exact ⟨b, off, e, by omega, hc⟩⟩

set_option maxHeartbeats 1600000 in
theorem areLines_of (w : World) (B : Nat) (A : Option Addr) (n c : Nat) (g : Nat → ByteArray) (h : RS w B A n c g) (hn : n ≤ 2147483647) (hs : ∀ j, j < n → (g j).size ≤ 2147483647) :
    Calls Tryz.prog 14 #[.slice A n c] w fun e w' => BoolP (n ≤ 8 ∧ ∀ j, j < n → LineP (g j)) e ∧ w' = w := by
  have HR := Lib.hid h
  have HS := Lib.hid hs
  clear h hs
  go_enter Tryz.func14, Tryz.ntmps14
  go_wp2_with fail
  go_loop [7, 2] (fun iv rv => ∃ i : Nat, i ≤ n ∧ iv = .int .i64 i ∧ rv = .bool false ∧ Hid (∀ j, j < i → LineP (g j))) (fun iv _ => n - (intOf iv).toNat)
  case atStart => exact ⟨0, by omega, rfl, rfl, Lib.hid (fun j hj => by omega)⟩
  case round =>
    obtain ⟨i, hi, rfl, rfl, HJ⟩ := hrel
    by_cases hin : i < n
    · obtain ⟨b, off, rfl, hB, hc⟩ := HR.out.2 (by omega)
      have ci := hc i hin
      have hin' : (i : Int) < n := by omega
      clear hc
      go_wp2_with fail
      refine (isLine_of (g i) w (HS.out i hin)).mono ?_
      rintro e w' ⟨⟨b', rfl, hb⟩, rfl⟩
      cases b' with
      | false =>
        clear hb
        go_wp2
        go_ret
        exact ⟨⟨false, rfl, fun h => by cases h⟩, rfl⟩
      | true =>
        have HJ2 : Hid (∀ j, j < i + 1 → LineP (g j)) := Lib.hid fun j hj => by
          by_cases e : j = i
          · subst e; exact hb rfl
          · exact HJ.out j (by omega)
        clear hb
        go_wp2
        go_round
        case rel => exact ⟨i + 1, by omega, by go_num, rfl, HJ2⟩
        case measure => simp [intOf]; omega
    · obtain rfl : i = n := by omega
      by_cases h8 : i ≤ 8
      · have HP := Lib.hid (And.intro h8 HJ.out)
        by_cases h1 : 1 ≤ i
        · go_wp2
          go_ret
          exact ⟨⟨true, by first | rfl | (apply ret_bool; simp; omega), fun _ => by first | exact HP.out | exact HP.out.2⟩, rfl⟩
        · go_wp2
          go_ret
          exact ⟨⟨false, by first | rfl | (apply ret_bool; simp; omega), fun h => by cases h⟩, rfl⟩
      · go_wp2
        all_goals
          go_ret
          exact ⟨⟨false, by first | rfl | (apply ret_bool; simp; omega), fun h => by cases h⟩, rfl⟩

/-- An owned row of the bytes of a list. -/
def BRow (w : World) (B : Nat) (A : Option Addr) (c : Nat) (l : List UInt8) : Prop := w.ownsRow B 5 1 (.slice A l.length c) l.length (l.map fun b => Value.int .u8 (b.toNat : Int))
theorem BRow.rb {w : World} {B : Nat} {A : Option Addr} {c : Nat} {l : List UInt8} (h : BRow w B A c l) : RB w w.heap.size A l.length c (bt l) := by
  have hl : (l.map fun b => (b.toNat : Int)).length = l.length := by simp
  have h' : w.ownsRow B 5 1 (.slice A (l.map fun b => (b.toNat : Int)).length c) (l.map fun b => (b.toNat : Int)).length ((l.map fun b => (b.toNat : Int)).map (Value.int .u8)) := by
    rw [hl, List.map_map]; exact h
  have := RB.of_own h' (by intro x hx; simp only [List.mem_map] at hx; obtain ⟨b, _, rfl⟩ := hx; have := b.toNat_lt; omega)
  rw [hl] at this
  refine this.same (fun j hj => ?_) (fun j => ⟨bt_lo _ _, bt_hi _ _⟩)
  simp [bt, hj]
theorem BRow.nil (w : World) (B : Nat) : BRow w B none 0 [] := World.ownsRow_nil _ _ _ _

def docL (g : Nat → ByteArray) : Nat → List UInt8
  | 0 => []
  | k + 1 => docL g k ++ (g k).data.toList ++ [10]
theorem docL_len (g : Nat → ByteArray) : ∀ n, (∀ j, j < n → (g j).size ≤ 60) → (docL g n).length ≤ n * 61 ∧ n ≤ (docL g n).length
  | 0, _ => by simp [docL]
  | k + 1, h => by
    have := docL_len g k (fun j hj => h j (by omega))
    have h1 := h k (by omega)
    unfold docL
    rw [List.length_append, List.length_append, str_len]
    simp
    omega
theorem docL_succ_len (g : Nat → ByteArray) (i : Nat) : (docL g (i + 1)).length = (docL g i).length + (g i).size + 1 := by
  conv => lhs; unfold docL
  rw [List.length_append, List.length_append, str_len]; rfl
theorem BRow.len_le {w : World} {B : Nat} {A : Option Addr} {c : Nat} {l : List UInt8} (h : BRow w B A c l) : (l.map fun b => Value.int .u8 (b.toNat : Int)).length = l.length := by simp
theorem brow_step {w : World} {B : Nat} {A : Option Addr} {c : Nat} {g : Nat → ByteArray} {i : Nat} (h : w.ownsRow B 5 1 (.slice A ((docL g i).length + (g i).size + 1) c) ((docL g i).length + (g i).size + 1) (((docL g i).map (fun b => Value.int .u8 (b.toNat : Int)) ++ Lib.strCells (g i)) ++ [.int .u8 10])) :
    BRow w B A c (docL g (i + 1)) := by
  unfold BRow
  rw [docL_succ_len]
  have e : (docL g (i + 1)).map (fun b => Value.int .u8 (b.toNat : Int)) = ((docL g i).map (fun b => Value.int .u8 (b.toNat : Int)) ++ Lib.strCells (g i)) ++ [.int .u8 10] := by
    conv => lhs; unfold docL
    rw [List.map_append, List.map_append]
    rfl
  rw [e]; exact h
set_option maxHeartbeats 1600000 in
set_option maxRecDepth 100000 in
theorem docText_any (w : World) (A : Option Addr) (n c : Nat) (g : Nat → ByteArray) (h : RS w w.heap.size A n c g) (hn : n ≤ 8) (hs : ∀ j, j < n → (g j).size ≤ 60) :
    Calls Tryz.prog 17 #[.slice A n c] w fun e w' => ∃ A' c', e = .returned (.slice A' (docL g n).length c') ∧ BRow w' w.heap.size A' c' (docL g n) ∧ Below w.heap.size w w' := by
  obtain ⟨i0, hi, hz0, hz1, hz2⟩ := info_parts Tryz.infoB
  have HR := Lib.hid h
  have HS := Lib.hid hs
  clear h hs
  go_enter Tryz.func17, Tryz.ntmps17
  go_wp2_with fail
  go_loopw [8, 3] (fun iv ov wr => ∃ (i : Nat) (A1 : Option Addr) (c1 : Nat), i ≤ n ∧ iv = .int .i64 i ∧ ov = .slice A1 (docL g i).length c1 ∧ Hid (BRow wr w.heap.size A1 c1 (docL g i)) ∧ Hid (Below w.heap.size w wr)) (fun iv _ _ => n - (intOf iv).toNat)
  case atStart => exact ⟨0, none, 0, by omega, rfl, rfl, BRow.nil _ _, Below.refl _ _⟩
  case round =>
    obtain ⟨i, A1, c1, hi', rfl, rfl, HO, HB⟩ := hrel
    by_cases hin : i < n
    · obtain ⟨b, off, rfl, hb, hc⟩ := (HR.out.below HB.out).2 (by omega)
      have ci := hc i hin
      have hin' : (i : Int) < n := by omega
      have hlen := docL_len g i (fun j hj => HS.out j (by omega))
      have hsi := HS.out i hin
      have hsz := HB.out.size
      clear hc
      have hf0 := HO.out.len_le
      go_wp2_with (first
        | (at_builtin; refine Lib.wpList_append_own_string wr rfl (.tmp 12) (.tmp 13) 23 9 rfl w.heap.size 5 i0 Tryz.underlying23 Tryz.underlying9 hi hz0 hz1 hz2 (.slice A1 (docL g i).length c1) (docL g i).length _ rfl HO.out (g i) rfl (by unfold maxLen; omega) (by omega) hsz ?_; intro v2 w2 hown2 hg2 hv2; obtain ⟨A2, c2, rfl⟩ := own_form hown2; have hsz2 : w.heap.size ≤ w2.heap.size := Nat.le_trans hsz hg2.size)
        | (at_builtin; refine wpList_app1 (.tmp 14) (.tmp 15) _ w.heap.size 5 i0 (.int .u8 0) (.int .u8 10) 1 w2 _ _ _ _ hown2 rfl rfl Tryz.underlying23 hi hz0 hz1 hz2 rfl rfl rfl rfl (by omega) (by omega) hsz2 ?_; intro A3 c3 w3 hown3 hg3))
      have hb2 : Below w.heap.size w w2 := HB.out.grown hg2 hsz (fun k hk => by
        have := own_ge HO.out k (by
          cases A1 with
          | none => simp [Value.ownBlock] at hk
          | some a => simpa [Value.ownBlock] using hk)
        omega)
      have hb3 := Lib.hid (below_app hb2 hown2 (Nat.le_refl _) hsz2 hg3)
      have HR3 := Lib.hid (brow_step hown3)
      clear hown2 hg2 hv2 hown3 hg3 hb2

      go_wp2
      go_roundw
      case rel => exact ⟨i + 1, A3, c3, by omega, by go_num, by rw [docL_succ_len], HR3, hb3⟩
      case measure => simp [intOf]; omega
    · obtain rfl : i = n := by omega
      go_wp2
      go_ret
      exact ⟨A1, c1, rfl, HO.out, HB.out⟩
end Go.Proofs.YtaljhebalgipjaaGreatDoor
