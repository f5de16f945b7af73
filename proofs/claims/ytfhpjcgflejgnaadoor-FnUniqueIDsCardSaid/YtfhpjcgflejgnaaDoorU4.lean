/- Ids made unique (the reference): all of them. -/
import Derived.Test.YtfhpjcgflejgnaaDoorU3
import Derived.Deep.DeepCutAuto
import Derived.Deep.CutBlock
namespace Go.Proofs.YtfhpjcgflejgnaaDoor
open Go.RowKit Go.Maps
set_option linter.unusedVariables false

theorem Tryd.infoK : (Tryd.prog.info? 35).map (fun i => (i.zero, i.size, i.bytes)) = some (some (.agg #[.string ByteArray.empty, .int .i64 0]), 2, 24) := by kernel_rfl
theorem Tryd.infoS : (Tryd.prog.info? 9).map (fun i => (i.zero, i.size, i.bytes)) = some (some (.string ByteArray.empty), 1, 16) := by kernel_rfl
/-- A slice of strings. -/
def RS (w : World) (B : Nat) (A : Option Addr) (n c : Nat) (g : Nat → ByteArray) : Prop :=
  n ≤ c ∧ (0 < n → ∃ b off, A = some ⟨b, off, none⟩ ∧ b < B ∧ ∀ j, j < n → w.cell? ⟨b, off + j, none⟩ = some (.string (g j)))
theorem RS.below {w w' : World} {B : Nat} {A : Option Addr} {n c : Nat} {g : Nat → ByteArray} (h : RS w B A n c g) (hb : Below B w w') : RS w' B A n c g :=
  ⟨h.1, fun hn => by
    obtain ⟨b, off, e, hB, hc⟩ := h.2 hn
    exact ⟨b, off, e, hB, fun j hj => (hb.cell (p := ⟨b, off + j, none⟩) hB).trans (hc j hj)⟩⟩
theorem RS.more {w : World} {B B' : Nat} {A : Option Addr} {n c : Nat} {g : Nat → ByteArray} (h : RS w B A n c g) (hB : B ≤ B') : RS w B' A n c g :=
  ⟨h.1, fun hn => by
    obtain ⟨b, off, e, hB', hc⟩ := h.2 hn
    exact ⟨b, off, e, by omega, hc⟩⟩

/-- What placeOf answers. -/
def PlaceR (K : Ids) (s : ByteArray) (r : Int) : Prop := (∃ i : Nat, r = i ∧ At K s i) ∨ (r = -1 ∧ NotIn K s)
theorem placeOf_any (A : Option Addr) (n c : Nat) (K : Ids) (s : ByteArray) (w : World) (h : KR w A n c K) (hn : n ≤ 1000) :
    Calls Tryd.prog 9 #[.slice A n c, .string s] w fun e w' => (∃ r, e = .returned (.int .i64 r) ∧ PlaceR K s r) ∧ w = w' := by
  rcases at_or K s with g | ⟨i, g⟩
  · exact (placeOf_not A n c K s w h hn g).mono fun e w' ⟨he, hw⟩ => ⟨⟨_, he, .inr ⟨rfl, g⟩⟩, hw⟩
  · exact (placeOf_at A n c K s i w h hn g).mono fun e w' ⟨he, hw⟩ => ⟨⟨_, he, .inl ⟨i, rfl, g⟩⟩, hw⟩
/-- Where the inner loop stands. -/
def InU (K : Ids) (s0 : ByteArray) (K2 : Ids) (s : ByteArray) (at_ : Int) : Prop :=
  (∃ i : Nat, at_ = i ∧ K2 = K ∧ At K s i ∧ FromU K s0 s) ∨ (at_ = -1 ∧ NotIn K2 s ∧ Uq K s0 (K2 ++ [(s, 0)]) s)
theorem InU.start {K : Ids} {s : ByteArray} {r : Int} (h : PlaceR K s r) : InU K s K s r := by
  rcases h with ⟨i, e, a⟩ | ⟨e, a⟩
  · exact .inl ⟨i, e, rfl, a, FromU.refl _ _⟩
  · exact .inr ⟨e, a, .done _ _ a⟩
def measU (K : Ids) (idv atv : Value) : Nat := match atv, idv with
  | .int _ a, .string s => if a < 0 then 0 else longer K s.size + 1
  | _, _ => 0
/-- The two lists, each in a row of its own. -/
def Two (w0 w : World) (A1 : Option Addr) (n1 c1 : Nat) (K : Ids) (A2 : Option Addr) (n2 c2 : Nat) (L : List ByteArray) : Prop :=
  w.ownsRow w0.heap.size 35 2 (.slice A1 n1 c1) n1 (flat2 K) ∧ w.ownsRow w0.heap.size 9 1 (.slice A2 n2 c2) n2 (L.map .string) ∧ Below w0.heap.size w0 w
theorem Two.grown {w0 w w' : World} {A1 : Option Addr} {n1 c1 : Nat} {K : Ids} {A2 : Option Addr} {n2 c2 : Nat} {L : List ByteArray} (h : Two w0 w A1 n1 c1 K A2 n2 c2 L) (hb : Below w.heap.size w w') : Two w0 w' A1 n1 c1 K A2 n2 c2 L :=
  ⟨h.1.kept (row := none) ⟨hb.os, hb.tape, hb.output, hb.size, fun k hk _ => hb.block k hk⟩ (by rcases hv : (Value.slice A1 n1 c1).ownBlock with _ | g <;> simp),
   h.2.1.kept (row := none) ⟨hb.os, hb.tape, hb.output, hb.size, fun k hk _ => hb.block k hk⟩ (by rcases hv : (Value.slice A2 n2 c2).ownBlock with _ | g <;> simp),
   h.2.2.trans (hb.mono h.2.2.size)⟩

set_option maxHeartbeats 4000000 in
theorem uniqueSpec_any (A : Option Addr) (m c : Nat) (g : Nat → ByteArray) (w : World) (h : RS w w.heap.size A m c g) (hg : ∀ j, (g j).size ≤ 40) (hm : m ≤ 42) :
    Calls Tryd.prog 6 #[.slice A m c] w fun e w' => ∃ K L A1 c1, e = .returned (.slice A1 m c1) ∧ Hid (Uqs g m K L ∧ w'.ownsRow w.heap.size 9 1 (.slice A1 m c1) m (L.map .string)) ∧ Below w.heap.size w w' := by
  obtain ⟨iK, hiK, hzK0, hzK1, hzK2⟩ := info_parts Tryd.infoK
  obtain ⟨iS, hiS, hzS0, hzS1, hzS2⟩ := info_parts Tryd.infoS
  have HH := Lib.hid h; have HG := Lib.hid hg
  have hcap := h.1
  clear h hg
  go_enter Tryd.func6, Tryd.ntmps6
  go_wp2_with fail
  go_loopw [3, 4, 11] (fun kv ov iv wr => ∃ (k : Nat) (K : Ids) (L : List ByteArray) (A1 A2 : Option Addr) (c1 c2 : Nat), k ≤ m ∧ iv = .int .i64 k ∧ kv = .slice A1 k c1 ∧ ov = .slice A2 k c2 ∧ Hid (Uqs g k K L) ∧ Hid (Two w wr A1 k c1 K A2 k c2 L)) (fun _ _ iv _ => m - (intOf iv).toNat)
  case atStart => exact ⟨0, [], [], none, none, 0, 0, by omega, rfl, rfl, rfl, Lib.hid .zero, Lib.hid ⟨World.ownsRow_nil _ _ _ _, World.ownsRow_nil _ _ _ _, Below.refl _ _⟩⟩
  case round =>
    obtain ⟨k, K, L, A1, A2, c1, c2, hk, rfl, rfl, rfl, HU, HT⟩ := hrel
    obtain ⟨wo, hwo⟩ : ∃ wo : World, wo = wr := ⟨_, rfl⟩
    subst hwo
    have hkl : k ≤ 42 := by omega
    obtain ⟨hKl, hLl, hbd⟩ := HU.out.bound HG.out
    by_cases hkm : k < m
    case neg =>
      obtain rfl : k = m := by omega
      clear hbd hKl hLl
      go_wp2_with fail
      go_ret
      exact ⟨K, L, A2, c2, rfl, Lib.hid ⟨HU.out, HT.out.2.1⟩, HT.out.2.2⟩
    have HB := Lib.hid hbd; have HKL := Lib.hid hKl; have HLL := Lib.hid hLl
    clear hbd hKl hLl
    have HKR := Lib.hid (KR.of_own HT.out.1)
    obtain ⟨b, off, rfl, hbB, hcell⟩ := ((HH.out.below HT.out.2.2).2 (by omega))
    have kk := hcell k hkm
    clear hcell
    go_wp2_with fail
    refine (placeOf_any A1 k c1 K (g k) wo HKR.out (by omega)).mono ?_
    rintro e w' ⟨⟨r, rfl, hr⟩, rfl⟩
    have HI := Lib.hid (InU.start hr)
    clear hr
    have HN := Lib.hid (rfl : g k = g k)
    go_upto_block 2 with fail
    go_cut [6] (fun idv wx => ∃ (s : ByteArray) (K2 : Ids), idv = .string s ∧ Hid (Two w wx A1 k c1 K2 A2 k c2 L) ∧ Hid (Uq K (g k) (K2 ++ [(s, 0)]) s))
    case first =>
      go_wp2_with fail
      go_loopw [6, 7] (fun idv av wr => ∃ (s : ByteArray) (K2 : Ids) (a : Int), idv = .string s ∧ av = .int .i64 a ∧ Hid (Two w wr A1 k c1 K2 A2 k c2 L) ∧ Hid (InU K (g k) K2 s a)) (fun idv av _ => measU K idv av)
      case atStart => exact ⟨g k, K, r, rfl, rfl, HT, HI⟩
      case round =>
        obtain ⟨s, K2, a, rfl, rfl, HT2, HI2⟩ := hrel
        obtain ⟨wi, hwi⟩ : ∃ wi : World, wi = wr := ⟨_, rfl⟩
        subst hwi
        rcases HI2.out with ⟨i, rfl, e2, ha, hf⟩ | ⟨rfl, hn, hu⟩
        · subst e2
          have hik : i < k := by have := ha.1; have := HKL.out; omega
          have hbi := HB.out i ha.1
          have hss : s.size ≤ 200 := by rw [← ha.2.1]; have := hbi.1; omega
          have hqi : (kd K2 i).2 ≤ 42 := by have := hbi.2; omega
          have HA := Lib.hid ha; have HF := Lib.hid hf
          have HKR2 := Lib.hid (KR.of_own HT2.out.1)
          obtain ⟨bk, rfl, hck⟩ := HKR2.out.2 (by omega)
          have kc := (hck i hik).2
          clear ha hf hck hbi
          have hds := decB_size ((kd K2 i).2 + 1)
          go_wp2_with fail
          refine (decimal_any _ wi (by omega) (by omega)).mono ?_
          rintro e w1 ⟨rfl, hb1⟩
          rw [show (((kd K2 i).2 : Int) + 1).toNat = (kd K2 i).2 + 1 from by omega]
          have HT3 := Lib.hid (HT2.out.grown hb1)
          have HB1 := Lib.hid hb1
          clear hb1 kc
          have HKR3 := Lib.hid (KR.of_own HT3.out.1)
          have HNX : Hid (s ++ (⟨#[45]⟩ : ByteArray) ++ decB ((kd K2 i).2 + 1) = nxB s ((kd K2 i).2 + 1)) := Lib.hid rfl
          go_wp2_with fail
          rw [HNX.out]
          refine (placeOf_any (some ⟨bk, 0, none⟩) k c1 K2 (nxB s ((kd K2 i).2 + 1)) w1 HKR3.out (by omega)).mono ?_
          rintro e w' ⟨⟨r2, rfl, hr2⟩, rfl⟩
          rcases hr2 with ⟨j, rfl, haj⟩ | ⟨rfl, hnj⟩
          · have HF2 := Lib.hid (HF.out.step HA.out haj)
            have HLT := Lib.hid (longer_lt (m := s.size + 2) HA.out (by omega))
            clear haj
            have HD1 : Hid (s ++ (⟨#[45, 49]⟩ : ByteArray) = s ++ dash1B) := Lib.hid rfl
            go_wp2_with fail
            rw [HD1.out]
            refine (placeOf_any (some ⟨bk, 0, none⟩) k c1 K2 (s ++ dash1B) w1 HKR3.out (by omega)).mono ?_
            rintro e w' ⟨⟨r3, rfl, hr3⟩, rfl⟩
            have HI3 : Hid (InU K2 (g k) K2 (s ++ dash1B) r3) := Lib.hid (by
              rcases hr3 with ⟨i3, e3, a3⟩ | ⟨e3, a3⟩
              · exact .inl ⟨i3, e3, rfl, a3, HF2.out⟩
              · exact .inr ⟨e3, a3, HF2.out _ _ (.done _ _ a3)⟩)
            clear hr3
            go_wp2_with fail
            go_roundw
            case rel => exact ⟨_, K2, r3, rfl, rfl, HT3, HI3⟩
            case measure =>
              have := HLT.out
              show (if r3 < 0 then 0 else longer K2 (s ++ dash1B).size + 1) < (if ((i : Nat) : Int) < 0 then 0 else longer K2 s.size + 1)
              rw [dash1_size, if_neg (show ¬ ((i : Nat) : Int) < 0 by omega)]
              split <;> omega
          · have HNJ := Lib.hid hnj
            clear hnj
            have hik2 : i < K2.length := HA.out.1
            have q1 := (HKR3.out.2 (by omega))
            obtain ⟨bk', hbk, hck⟩ := q1
            injection hbk with hbk
            injection hbk with hbk
            subst hbk
            have kc := (hck i hik).2
            have kf := HT3.out.1.frozenAt (i * 2 + 1)
            clear hck
            have HS := Lib.hid (HT3.out.1.stored (i * 2 + 1) (.int .i64 (((kd K2 i).2 + 1 : Nat) : Int)))
            have HS1 := HS.out.1
            have HS2 := Lib.hid HS.out.2
            rw [flat2_set K2 i _ hik2, HA.out.2.1] at HS1
            have HW1 := Lib.hid HS1
            have HT4 : Hid (Two w (w1.setCell ⟨bk, i * 2 + 1, none⟩ (.int .i64 (((kd K2 i).2 + 1 : Nat) : Int))) (some ⟨bk, 0, none⟩) k c1 (K2.set i (s, (kd K2 i).2 + 1)) A2 k c2 L) := Lib.hid (by
              refine ⟨HS1, HT3.out.2.1.kept HS2.out ?_, HT3.out.2.2.grown HS2.out HT3.out.2.2.size (fun q hq => ?_)⟩
              · exact apart HT3.out.2.1 HT3.out.1 (by decide)
              · have := HT3.out.1.lt q (by simpa [Value.ownBlock] using hq)
                omega)
            have HKR4 := Lib.hid (KR.of_own HS1)
            clear HS1 HS
            have HN4 : Hid (NotIn (K2.set i (s, (kd K2 i).2 + 1)) (nxB s ((kd K2 i).2 + 1))) := Lib.hid (fun j hj => by
              rw [kd_set hik2]
              have hj' : j < K2.length := by simpa using hj
              by_cases e : j = i
              · rw [if_pos e]; exact fun h => nxB_ne s _ h.symm
              · rw [if_neg e]; exact HNJ.out j hj')
            have HI4 : Hid (InU K2 (g k) (K2.set i (s, (kd K2 i).2 + 1)) (nxB s ((kd K2 i).2 + 1)) (-1)) := Lib.hid (.inr ⟨rfl, HN4.out, HF.out _ _ (.next _ _ i HA.out HNJ.out)⟩)
            have HCAST : Hid (((kd K2 i).2 : Int) + 1 = (((kd K2 i).2 + 1 : Nat) : Int)) := Lib.hid (by omega)
            go_wp2_with fail
            rw [HCAST.out]
            refine (placeOf_not (some ⟨bk, 0, none⟩) k c1 _ (nxB s ((kd K2 i).2 + 1)) _ HKR4.out (by omega) HN4.out).mono ?_
            rintro e w' ⟨rfl, rfl⟩
            go_wp2_with fail
            go_roundw
            case rel => exact ⟨_, _, -1, rfl, rfl, HT4, HI4⟩
            case measure =>
              show 0 < (if ((i : Nat) : Int) < 0 then 0 else longer K2 s.size + 1)
              rw [if_neg (show ¬ ((i : Nat) : Int) < 0 by omega)]
              omega
        · have HNI := Lib.hid hn; have HUU := Lib.hid hu
          clear hn hu
          go_wp2_with fail
          go_meet
          exact ⟨s, K2, rfl, HT2, HUU⟩
    case rest =>
      obtain ⟨s, K2, rfl, HT2, HUU⟩ := hcut
      have HBN := Lib.hid (HUU.out.bound _ _ HB.out (by have := HG.out k; omega))
      have HUS := Lib.hid (Uqs.step k K L HU.out _ _ HUU.out)
      have hz0 : w.heap.size ≤ wc.heap.size := HT2.out.2.2.size
      go_upto_region 15 with (at_builtin; refine wpList_appU (.tmp 48) (.tmp 51) 31 w.heap.size 35 iK _ [.string s, .int .i64 0] 2 24 wc A1 k c1 (flat2 K2) HT2.out.1 rfl rfl Tryd.underlying31 hiK hzK0 hzK1 hzK2 rfl (by omega) rfl rfl rfl (by simp [Value.oneCell']) (by omega) (by omega) hz0 ?_; intro A1' c1' w1 hown1 hg1)
      have HL1 := Lib.hid (HT2.out.2.1.kept hg1 (by rw [← ownB A1 k c1]; exact apart HT2.out.2.1 HT2.out.1 (by decide)))
      have HB1 := Lib.hid (HT2.out.2.2.grown hg1 hz0 (fun q hq => by have := HT2.out.1.lt q (by rw [ownB]; exact hq); omega))
      have hz1 : w.heap.size ≤ w1.heap.size := HB1.out.size
      have HO1 := Lib.hid hown1
      clear hown1
      go_wp2_with (at_builtin; refine wpList_appU (.tmp 53) (.tmp 55) 22 w.heap.size 9 iS _ [.string s] 1 16 w1 A2 k c2 (L.map .string) HL1.out rfl rfl Tryd.underlying22 hiS hzS0 hzS1 hzS2 rfl (by omega) rfl rfl rfl (by simp [Value.oneCell']) (by omega) (by omega) hz1 ?_; intro A2' c2' w2 hown2 hg2)
      have HK2 := Lib.hid (HO1.out.kept hg2 (by rw [← ownB A2 k c2]; exact apart HO1.out HL1.out (by decide)))
      have HB2 := Lib.hid (HB1.out.grown hg2 hz1 (fun q hq => by have := HL1.out.lt q (by rw [ownB]; exact hq); omega))
      have HO2 := Lib.hid hown2
      clear hown2
      go_roundw
      case rel => exact ⟨k + 1, K2 ++ [(s, 0)], L ++ [s], A1', A2', c1', c2', by omega, by go_num, rfl, rfl, HUS, Lib.hid ⟨by rw [flat2_snoc]; exact HK2.out, by rw [List.map_append]; exact HO2.out, HB2.out⟩⟩
      case measure => simp [intOf]; omega
end Go.Proofs.YtfhpjcgflejgnaaDoor
