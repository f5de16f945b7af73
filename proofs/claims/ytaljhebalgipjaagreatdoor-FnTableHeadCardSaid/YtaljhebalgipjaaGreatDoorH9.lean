/- Tables: the reference's lists of words, and its texts. -/
import Derived.Test.YtaljhebalgipjaaGreatDoorH8
import Derived.Test.YtaljhebalgipjaaGreatDoorH4
import Derived.Deep.DeepCutAuto
import Derived.Deep.CutBlock
import Derived.Lib.AppendStr
import Derived.Laws.AppendOwnNone
import Derived.BigQuiet
import Derived.BigRegion
namespace Go.Proofs.YtaljhebalgipjaaGreatDoor
open Go.RowKit
set_option linter.unusedVariables false

/-- A string of these bytes. -/
def strL (l : List UInt8) : ByteArray := ⟨l.toArray⟩
theorem strL_app (a b : List UInt8) : strL a ++ strL b = strL (a ++ b) := by
  apply ByteArray.ext
  simp [strL]
theorem strL_size (l : List UInt8) : (strL l).size = l.length := by simp [strL, ByteArray.size]
theorem strL_list (s : ByteArray) : strL s.data.toList = s := by
  apply ByteArray.ext; simp [strL]
theorem list_strL (l : List UInt8) : (strL l).data.toList = l := by simp [strL]

theorem str_len (s : ByteArray) : s.data.toList.length = s.size := by
  rw [Array.length_toList]; rfl
def Words (l : List UInt8) : Prop := ∀ x ∈ l, x.toNat = 32 ∨ (97 ≤ x.toNat ∧ x.toNat ≤ 122)
def BoolP (p : Prop) (e : Ending) : Prop := ∃ b : Bool, e = .returned (.bool b) ∧ (b = true → p)
/-- What a line of words is. -/
def LineP (s : ByteArray) : Prop := Words s.data.toList ∧ 0 < s.size ∧ s.size ≤ 60
theorem words_of {l : List UInt8} (h : ∀ j, j < l.length → bt l j = 32 ∨ (97 ≤ bt l j ∧ bt l j ≤ 122)) : Words l := by
  intro x hx
  obtain ⟨j, hj, rfl⟩ := List.getElem_of_mem hx
  have := h j hj
  unfold bt at this
  rw [List.getElem?_eq_getElem hj] at this
  simp only [Option.getD_some] at this
  omega
set_option maxHeartbeats 1600000 in
theorem isLine_of (s : ByteArray) (w : World) (hs : s.size ≤ 2147483647) :
    Calls Tryz.prog 18 #[.string s] w fun e w' => BoolP (LineP s) e ∧ w' = w := by
  have hf := bt_str s
  have HL := Lib.hid (str_len s)
  go_enter Tryz.func18, Tryz.ntmps18
  go_wp2_with fail
  go_loop [4, 3, 2] (fun iv bv rv => ∃ (i : Nat) (bk : Bool), i ≤ s.size ∧ iv = .int .i64 i ∧ bv = .bool bk ∧ rv = .bool false ∧ (i = 0 → bk = true) ∧ Hid (∀ j, j < i → bt s.data.toList j = 32 ∨ (97 ≤ bt s.data.toList j ∧ bt s.data.toList j ≤ 122))) (fun iv _ _ => s.size - (intOf iv).toNat)
  case atStart => exact ⟨0, true, by omega, rfl, rfl, rfl, fun _ => rfl, Lib.hid (fun j hj => by omega)⟩
  case round =>
    obtain ⟨i, bk, hi, rfl, rfl, rfl, hbk, HJ⟩ := hrel
    by_cases his : i < s.size
    · have hik := hf i his
      have his' : (i : Int) < s.size := by omega
      have HJ2 : Hid (bt s.data.toList i = 32 ∨ (97 ≤ bt s.data.toList i ∧ bt s.data.toList i ≤ 122) → ∀ j, j < i + 1 → bt s.data.toList j = 32 ∨ (97 ≤ bt s.data.toList j ∧ bt s.data.toList j ≤ 122)) := Lib.hid fun hq j hj => by
          by_cases e : j = i
          · subst e; exact hq
          · exact HJ.out j (by omega)
      by_cases h32 : bt s.data.toList i = 32
      · have e32 := (leb h32).2
        have HK := Lib.hid h32
        cases bk with
        | true =>
          go_wp2
          go_ret
          exact ⟨⟨false, rfl, fun h => by cases h⟩, rfl⟩
        | false =>
          go_wp2
          go_round
          case rel => exact ⟨i + 1, true, by omega, by go_num, rfl, rfl, fun _ => rfl, Lib.hid (HJ2.out (.inl HK.out))⟩
          case measure => simp [intOf]; omega
      · have e32 := (lnb h32).2
        by_cases h97 : bt s.data.toList i < 97
        · have e1 := decide_eq_true h97
          go_wp2
          go_ret
          exact ⟨⟨false, rfl, fun h => by cases h⟩, rfl⟩
        · have e1 := decide_eq_false h97
          by_cases h122 : 122 < bt s.data.toList i
          · have e2 := decide_eq_true h122
            go_wp2
            go_ret
            exact ⟨⟨false, rfl, fun h => by cases h⟩, rfl⟩
          · have e2 := decide_eq_false h122
            go_wp2
            go_round
            case rel => exact ⟨i + 1, false, by omega, by go_num, rfl, rfl, fun h => by omega, Lib.hid (HJ2.out (.inr ⟨by omega, by omega⟩))⟩
            case measure => simp [intOf]; omega
    · obtain rfl : i = s.size := by omega
      have HW : Hid (bk = false ∧ s.size ≤ 60 → LineP s) := Lib.hid fun h => ⟨words_of (fun j hj => HJ.out j (by rw [HL.out] at hj; exact hj)), by
        rcases Nat.eq_zero_or_pos s.size with h0 | h0
        · have := hbk h0; rw [h.1] at this; cases this
        · exact h0, h.2⟩
      clear hbk
      cases bk with
      | true =>
        go_wp2
        go_ret
        exact ⟨⟨false, rfl, fun h => by cases h⟩, rfl⟩
      | false =>
        go_wp2
        go_ret
        refine ⟨⟨decide ((s.size : Int) ≤ 60), rfl, fun h => HW.out ⟨by trivial, by have := of_decide_eq_true h; omega⟩⟩, ?_⟩
        first | trivial | rfl
/-- The slice value '.slice A n c' reads as the strings g 0, .., g (n-1). -/
def RS (w : World) (B : Nat) (A : Option Addr) (n c : Nat) (g : Nat → ByteArray) : Prop :=
  n ≤ c ∧ (0 < n → ∃ b off, A = some ⟨b, off, none⟩ ∧ b < B ∧ ∀ j, j < n → w.cell? ⟨b, off + j, none⟩ = some (.string (g j)))
theorem RS.below {w w' : World} {B : Nat} {A : Option Addr} {n c : Nat} {g : Nat → ByteArray} (h : RS w B A n c g) (hb : Below B w w') : RS w' B A n c g :=
  ⟨h.1, fun hn => by
    obtain ⟨b, off, e, hB, hc⟩ := h.2 hn
    exact ⟨b, off, e, hB, fun j hj => (hb.cell (p := ⟨b, off + j, none⟩) hB).trans (hc j hj)⟩⟩
theorem RS.more {w : World} {B B' : Nat} {A : Option Addr} {n c : Nat} {g : Nat → ByteArray} (h : RS w B A n c g) (hB : B ≤ B') : RS w B' A n c g :=
  ⟨h.1, fun hn => by
    obtain ⟨b, off, e, hB', hc⟩ := h.2 hn
    exact ⟨b, off, e, by omega, hc⟩⟩

/-- An owned row of the bytes of a list. -/
def BRow (w : World) (B : Nat) (A : Option Addr) (c : Nat) (l : List UInt8) : Prop := w.ownsRow B 5 1 (.slice A l.length c) l.length (l.map fun b => Value.int .u8 (b.toNat : Int))
theorem BRow.rb {w : World} {B : Nat} {A : Option Addr} {c : Nat} {l : List UInt8} (h : BRow w B A c l) : RB w w.heap.size A l.length c (bt l) := by
  have hl : (l.map fun b => (b.toNat : Int)).length = l.length := by simp
  have h' : w.ownsRow B 5 1 (.slice A (l.map fun b => (b.toNat : Int)).length c) (l.map fun b => (b.toNat : Int)).length ((l.map fun b => (b.toNat : Int)).map (Value.int .u8)) := by
    rw [hl, List.map_map]; exact h
  have := RB.of_own h' (by intro x hx; simp only [List.mem_map] at hx; obtain ⟨b, _, rfl⟩ := hx; have := b.toNat_lt; omega)
  rw [hl] at this
  refine this.same (fun j hj => ?_) (fun j => ⟨bt_lo _ _, bt_hi _ _⟩)
  simp [bt, hj]
theorem BRow.nil (w : World) (B : Nat) : BRow w B none 0 [] := World.ownsRow_nil _ _ _ _

def docL (g : Nat → ByteArray) : Nat → List UInt8
  | 0 => []
  | k + 1 => docL g k ++ (g k).data.toList ++ [10]
theorem docL_len (g : Nat → ByteArray) : ∀ n, (∀ j, j < n → (g j).size ≤ 600) → (docL g n).length ≤ n * 601 ∧ n ≤ (docL g n).length
  | 0, _ => by simp [docL]
  | k + 1, h => by
    have := docL_len g k (fun j hj => h j (by omega))
    have h1 := h k (by omega)
    unfold docL
    rw [List.length_append, List.length_append, str_len]
    simp
    omega
theorem docL_succ_len (g : Nat → ByteArray) (i : Nat) : (docL g (i + 1)).length = (docL g i).length + (g i).size + 1 := by
  conv => lhs; unfold docL
  rw [List.length_append, List.length_append, str_len]; rfl
theorem BRow.len_le {w : World} {B : Nat} {A : Option Addr} {c : Nat} {l : List UInt8} (h : BRow w B A c l) : (l.map fun b => Value.int .u8 (b.toNat : Int)).length = l.length := by simp
theorem brow_step {w : World} {B : Nat} {A : Option Addr} {c : Nat} {g : Nat → ByteArray} {i : Nat} (h : w.ownsRow B 5 1 (.slice A ((docL g i).length + (g i).size + 1) c) ((docL g i).length + (g i).size + 1) (((docL g i).map (fun b => Value.int .u8 (b.toNat : Int)) ++ Lib.strCells (g i)) ++ [.int .u8 10])) :
    BRow w B A c (docL g (i + 1)) := by
  unfold BRow
  rw [docL_succ_len]
  have e : (docL g (i + 1)).map (fun b => Value.int .u8 (b.toNat : Int)) = ((docL g i).map (fun b => Value.int .u8 (b.toNat : Int)) ++ Lib.strCells (g i)) ++ [.int .u8 10] := by
    conv => lhs; unfold docL
    rw [List.map_append, List.map_append]
    rfl
  rw [e]; exact h
set_option maxHeartbeats 1600000 in
set_option maxRecDepth 100000 in
theorem docText_any (w : World) (A : Option Addr) (n c : Nat) (g : Nat → ByteArray) (h : RS w w.heap.size A n c g) (hn : n ≤ 8) (hs : ∀ j, j < n → (g j).size ≤ 600) :
    Calls Tryz.prog 17 #[.slice A n c] w fun e w' => ∃ A' c', e = .returned (.slice A' (docL g n).length c') ∧ BRow w' w.heap.size A' c' (docL g n) ∧ Below w.heap.size w w' := by
  obtain ⟨i0, hi, hz0, hz1, hz2⟩ := info_parts Tryz.infoB
  have HR := Lib.hid h
  have HS := Lib.hid hs
  clear h hs
  go_enter Tryz.func17, Tryz.ntmps17
  go_wp2_with fail
  go_loopw [8, 3] (fun iv ov wr => ∃ (i : Nat) (A1 : Option Addr) (c1 : Nat), i ≤ n ∧ iv = .int .i64 i ∧ ov = .slice A1 (docL g i).length c1 ∧ Hid (BRow wr w.heap.size A1 c1 (docL g i)) ∧ Hid (Below w.heap.size w wr)) (fun iv _ _ => n - (intOf iv).toNat)
  case atStart => exact ⟨0, none, 0, by omega, rfl, rfl, BRow.nil _ _, Below.refl _ _⟩
  case round =>
    obtain ⟨i, A1, c1, hi', rfl, rfl, HO, HB⟩ := hrel
    by_cases hin : i < n
    · obtain ⟨b, off, rfl, hb, hc⟩ := (HR.out.below HB.out).2 (by omega)
      have ci := hc i hin
      have hin' : (i : Int) < n := by omega
      have hlen := docL_len g i (fun j hj => HS.out j (by omega))
      have hsi := HS.out i hin
      have hsz := HB.out.size
      clear hc
      have hf0 := HO.out.len_le
      go_wp2_with (first
        | (at_builtin; refine Lib.wpList_append_own_string wr rfl (.tmp 12) (.tmp 13) 23 9 rfl w.heap.size 5 i0 Tryz.underlying23 Tryz.underlying9 hi hz0 hz1 hz2 (.slice A1 (docL g i).length c1) (docL g i).length _ rfl HO.out (g i) rfl (by unfold maxLen; omega) (by omega) hsz ?_; intro v2 w2 hown2 hg2 hv2; obtain ⟨A2, c2, rfl⟩ := own_form hown2; have hsz2 : w.heap.size ≤ w2.heap.size := Nat.le_trans hsz hg2.size)
        | (at_builtin; refine wpList_app1 (.tmp 14) (.tmp 15) _ w.heap.size 5 i0 (.int .u8 0) (.int .u8 10) 1 w2 _ _ _ _ hown2 rfl rfl Tryz.underlying23 hi hz0 hz1 hz2 rfl rfl rfl rfl (by omega) (by omega) hsz2 ?_; intro A3 c3 w3 hown3 hg3))
      have hb2 : Below w.heap.size w w2 := HB.out.grown hg2 hsz (fun k hk => by
        have := own_ge HO.out k (by
          cases A1 with
          | none => simp [Value.ownBlock] at hk
          | some a => simpa [Value.ownBlock] using hk)
        omega)
      have hb3 := Lib.hid (below_app hb2 hown2 (Nat.le_refl _) hsz2 hg3)
      have HR3 := Lib.hid (brow_step hown3)
      clear hown2 hg2 hv2 hown3 hg3 hb2

      go_wp2
      go_roundw
      case rel => exact ⟨i + 1, A3, c3, by omega, by go_num, by rw [docL_succ_len], HR3, hb3⟩
      case measure => simp [intOf]; omega
    · obtain rfl : i = n := by omega
      go_wp2
      go_ret
      exact ⟨A1, c1, rfl, HO.out, HB.out⟩
set_option maxHeartbeats 1600000 in
theorem fits5_of (w : World) (B : Nat) (A : Option Addr) (n c : Nat) (g : Nat → ByteArray) (h : RS w B A n c g) (hn : n ≤ 9223372036854775807) (hs : ∀ j, j < n → (g j).size ≤ 9223372036854775807) :
    Calls Tryz.prog 11 #[.slice A n c] w fun e w' => BoolP (n ≤ 2147483647 ∧ ∀ j, j < n → (g j).size ≤ 2147483647) e ∧ w' = w := by
  have HR := Lib.hid h
  have HS := Lib.hid hs
  clear h hs
  by_cases h0 : 2147483647 < n
  · go_enter Tryz.func11, Tryz.ntmps11
    go_wp2
    go_ret
    exact ⟨⟨false, rfl, fun h => by cases h⟩, rfl⟩
  go_enter Tryz.func11, Tryz.ntmps11
  go_wp2_with fail
  go_loop [10, 2] (fun iv rv => ∃ i : Nat, i ≤ n ∧ iv = .int .i64 i ∧ rv = .bool false ∧ Hid (∀ j, j < i → (g j).size ≤ 2147483647)) (fun iv _ => n - (intOf iv).toNat)
  case atStart => exact ⟨0, by omega, rfl, rfl, Lib.hid (fun j hj => by omega)⟩
  case round =>
    obtain ⟨i, hi, rfl, rfl, HJ⟩ := hrel
    by_cases hin : i < n
    · obtain ⟨b, off, rfl, hB, hc⟩ := HR.out.2 (by omega)
      have ci := hc i hin
      have hin' : (i : Int) < n := by omega
      have hsi := HS.out i hin
      clear hc
      by_cases hbig : 2147483647 < (g i).size
      · go_wp2
        go_ret
        exact ⟨⟨false, rfl, fun h => by cases h⟩, rfl⟩
      · have HJ2 : Hid (∀ j, j < i + 1 → (g j).size ≤ 2147483647) := Lib.hid fun j hj => by
          by_cases e : j = i
          · subst e; omega
          · exact HJ.out j (by omega)
        go_wp2
        go_round
        case rel => exact ⟨i + 1, by omega, by go_num, rfl, HJ2⟩
        case measure => simp [intOf]; omega
    · obtain rfl : i = n := by omega
      have HP := Lib.hid (And.intro (show i ≤ 2147483647 by omega) HJ.out)
      go_wp2
      go_ret
      exact ⟨⟨true, rfl, fun _ => by first | exact HP.out | exact ⟨by omega, HP.out⟩⟩, rfl⟩

set_option maxHeartbeats 800000 in
theorem repeated_hy (k : Nat) (w : World) (hk : k ≤ 20) :
    Calls Tryz.prog 20 #[.string (strL [45]), .int .i64 k, .string (strL [])] w fun e w' => e = .returned (.string (strL (List.replicate k 45))) ∧ w' = w := by
  go_enter Tryz.func20, Tryz.ntmps20
  go_wp2_with fail
  go_loop [10, 7] (fun iv sv => ∃ i : Nat, i ≤ k ∧ iv = .int .i64 i ∧ sv = .string (strL (List.replicate i 45))) (fun iv _ => k - (intOf iv).toNat)
  case atStart => exact ⟨0, by omega, rfl, rfl⟩
  case round =>
    obtain ⟨i, hi, rfl, rfl⟩ := hrel
    by_cases hik : i < k
    · have z0 : ¬ 9223372036854775807 < (strL (List.replicate i 45)).size + (strL [45]).size := by rw [strL_size, strL_size]; simp; omega
      have z1 : ¬ 9223372036854775807 < (strL (List.replicate i 45)).size + (strL []).size := by rw [strL_size, strL_size]; simp; omega
      have z2 : ¬ 9223372036854775807 < (strL (List.replicate i 45) ++ strL []).size + (strL [45]).size := by rw [strL_app, strL_size, strL_size]; simp; omega
      have e1 : strL (List.replicate i 45) ++ strL [45] = strL (List.replicate (i + 1) 45) := by rw [strL_app, List.replicate_succ']
      have e2 : strL (List.replicate i 45) ++ strL [] ++ strL [45] = strL (List.replicate (i + 1) 45) := by rw [strL_app, strL_app, List.append_nil, List.replicate_succ']
      have E1 := Lib.hid e1; have E2 := Lib.hid e2
      clear e1 e2
      go_wp2
      all_goals
        go_round
        case rel => exact ⟨i + 1, by omega, by go_num, by first | rw [E1.out] | rw [E2.out]⟩
        case measure => simp [intOf]; omega
    · obtain rfl : i = k := by omega
      go_wp2
      go_ret
      exact ⟨rfl, rfl⟩


theorem joinL_lens (g : Nat → List UInt8) : ∀ n, (∀ j, j < n → (g j).length ≤ 60) → (joinL g n).length ≤ n * 63
  | 0, _ => by simp [joinL]
  | k + 1, h => by
    have := joinL_lens g k (fun j hj => h j (by omega))
    have h1 := h k (by omega)
    rw [joinL, List.length_append, List.length_append]
    split <;> simp <;> omega
set_option maxHeartbeats 1600000 in
theorem joined_any (w : World) (B : Nat) (A : Option Addr) (n c : Nat) (g : Nat → ByteArray) (h : RS w B A n c g) (hn : n ≤ 8) (hs : ∀ j, j < n → (g j).size ≤ 60) :
    Calls Tryz.prog 19 #[.slice A n c, .string (strL [32, 124, 32])] w fun e w' => e = .returned (.string (strL (joinL (fun j => (g j).data.toList) n))) ∧ w' = w := by
  obtain ⟨J, hJ⟩ : ∃ J : Nat → List UInt8, J = joinL (fun j => (g j).data.toList) := ⟨_, rfl⟩
  have HL : Hid (∀ i, i ≤ n → (J i).length ≤ 504) := Lib.hid fun i hi => by
    have := joinL_lens (fun j => (g j).data.toList) i (fun j hj => by have := hs j (by omega); rw [str_len]; exact this)
    rw [hJ]; omega
  have HJ : Hid (∀ i, (i = 0 → strL (J i) ++ g i = strL (J (i + 1))) ∧ (0 < i → strL (J i) ++ strL [32, 124, 32] ++ g i = strL (J (i + 1)))) := Lib.hid fun i => by
    have e : ∀ l : List UInt8, strL l ++ g i = strL (l ++ (g i).data.toList) := fun l => by
      conv => lhs; rw [← strL_list (g i)]
      rw [strL_app]
    refine ⟨fun h0 => ?_, fun h0 => ?_⟩
    · rw [e, hJ, joinL, if_neg (by omega), List.nil_append]
    · rw [strL_app, e, hJ, joinL, if_pos h0, List.append_assoc]
  have HJ0 : Hid (J 0 = []) := Lib.hid (by rw [hJ]; rfl)
  rw [← hJ]
  have HR := Lib.hid h
  have HS := Lib.hid hs
  clear h hs hJ
  go_enter Tryz.func19, Tryz.ntmps19
  go_wp2_with fail
  go_loop [10, 5] (fun iv sv => ∃ i : Nat, i ≤ n ∧ iv = .int .i64 i ∧ sv = .string (strL (J i))) (fun iv _ => n - (intOf iv).toNat)
  case atStart => exact ⟨0, by omega, rfl, by rw [HJ0.out]; rfl⟩
  case round =>
    obtain ⟨i, hi, rfl, rfl⟩ := hrel
    by_cases hin : i < n
    · obtain ⟨b, off, rfl, hB, hc⟩ := HR.out.2 (by omega)
      have ci := hc i hin
      have hin' : (i : Int) < n := by omega
      have hsi := HS.out i hin
      have hl := HL.out i hi
      clear hc
      have z0 : ¬ 9223372036854775807 < (strL (J i)).size + (g i).size := by rw [strL_size]; omega
      have z1 : ¬ 9223372036854775807 < (strL (J i)).size + (strL [32, 124, 32]).size := by rw [strL_size, strL_size]; simp; omega
      have z2 : ¬ 9223372036854775807 < (strL (J i) ++ strL [32, 124, 32]).size + (g i).size := by rw [strL_app, strL_size]; simp; omega
      rcases Nat.eq_zero_or_pos i with rfl | h0
      · have E1 := Lib.hid ((HJ.out 0).1 rfl)
        rw [Nat.add_zero] at ci
        have hin2 : (0 : Int) < n := by omega
        have hin3 : 0 < n := hin
        clear hin'
        go_wp2
        go_round
        case rel => exact ⟨1, by omega, by go_num, by rw [E1.out]⟩
        case measure => simp [intOf]; omega
      · have E1 := Lib.hid ((HJ.out i).2 h0)
        have h0' : (0 : Int) < i := by omega
        go_wp2
        go_round
        case rel => exact ⟨i + 1, by omega, by go_num, by rw [E1.out]⟩
        case measure => simp [intOf]; omega
    · obtain rfl : i = n := by omega
      go_wp2
      go_ret
      exact ⟨rfl, rfl⟩
end Go.Proofs.YtaljhebalgipjaaGreatDoor
