/- Ids made unique (the package): one id. -/
import Derived.Test.YtfhpjcgflejgnaaDoorU6
import Derived.StringKeys
import Derived.Maps.OwnOps
import Derived.Deep.AppendLies
import Derived.Deep.DeepCutAuto
import Derived.Deep.CutBlock
namespace Go.Proofs.YtfhpjcgflejgnaaDoor
open Go.RowKit Go.Maps Go.WideShapes Go.WideMaps Go.ChangeMaps
set_option linter.unusedVariables false

/-- Block mb is a map that reads as the ids. -/
def MapOwn (w : World) (mb n : Nat) (K : Ids) : Prop := ∃ D : DataW Unit, w.ownsMap Tryd.prog 9 (plainElem Tryd.prog 3) mb n D ∧ MapIs D K
theorem key_of (s : ByteArray) (h : s.size ≤ 100000) : keyOf Tryd.prog 9 (.string s) = some (kl s) := keyOf_string_mk Tryd.underlying9 (by unfold maxLen; omega)
theorem look_at {ops : Array Oper} {rest : List Oper} {o : Oper} {a : Act} {Q : Exit → Act → World → Prop} (w : World) (m x : Operand) (mb n : Nat) (K : Ids) (s : ByteArray) (i : Nat) (h : MapOwn w mb n K) (hs : s.size ≤ 100000) (ha : At K s i)
    (hg : o.guard = none) (hop : o.op = Op.lookup 36 m x true) (hm : a.eval m = .map (some mb)) (hx : a.eval x = .string s)
    (hK : wpList Tryd.prog ops Q rest (a.put o.dst (.tuple #[.int .i64 (kd K i).2, .bool true])) w) : wpList Tryd.prog ops Q (o :: rest) a w := by
  obtain ⟨D, hown, hD⟩ := h
  refine wpList_lookup_own_ok_int w hg m x _ hop 9 3 .i64 (string_keyed Tryd.underlying9) Tryd.underlying36 Tryd.underlying3 (by kernel_rfl) mb n D hm hown (.string s) (kl s) hx (key_of s hs) fun c hat _ => ?_
  have h2 := ((hD.2 s).1 i ha).2
  unfold n0 nn at h2
  rw [h2] at hat
  injection hat with hat
  injection hat with _ hat
  rw [((hD.2 s).1 i ha).1, ← hat]
  exact hK
theorem look_not {ops : Array Oper} {rest : List Oper} {o : Oper} {a : Act} {Q : Exit → Act → World → Prop} (w : World) (m x : Operand) (mb n : Nat) (K : Ids) (s : ByteArray) (h : MapOwn w mb n K) (hs : s.size ≤ 100000) (ha : NotIn K s)
    (hg : o.guard = none) (hop : o.op = Op.lookup 36 m x true) (hm : a.eval m = .map (some mb)) (hx : a.eval x = .string s)
    (hK : wpList Tryd.prog ops Q rest (a.put o.dst (.tuple #[.int .i64 0, .bool false])) w) : wpList Tryd.prog ops Q (o :: rest) a w := by
  obtain ⟨D, hown, hD⟩ := h
  refine wpList_lookup_own_ok_int w hg m x _ hop 9 3 .i64 (string_keyed Tryd.underlying9) Tryd.underlying36 Tryd.underlying3 (by kernel_rfl) mb n D hm hown (.string s) (kl s) hx (key_of s hs) fun c hat _ => ?_
  rw [atKey_of_not_has ((hD.2 s).2 ha)] at hat
  injection hat with hat
  injection hat with _ hat
  rw [(hD.2 s).2 ha, ← hat]
  exact hK
theorem put_at {ops : Array Oper} {rest : List Oper} {o : Oper} {a : Act} {Q : Exit → Act → World → Prop} (w : World) (m x v : Operand) (mb n : Nat) (K : Ids) (s : ByteArray) (i q : Nat) (h : MapOwn w mb n K) (hs : s.size ≤ 100000) (hq : q ≤ 100000) (hn : n ≤ 100000) (ha : At K s i)
    (hg : o.guard = none) (hop : o.op = Op.mapUpdate 36 m x v) (hm : a.eval m = .map (some mb)) (hx : a.eval x = .string s) (hv : a.eval v = .int .i64 (q : Int))
    (hK : ∀ w', MapOwn w' mb (n + 1) (K.set i (s, q)) → w.grownBy w' (some mb) → wpList Tryd.prog ops Q rest (a.put o.dst undef) w') : wpList Tryd.prog ops Q (o :: rest) a w := by
  obtain ⟨D, hown, hD⟩ := h
  refine wpList_mapUpdate_own w hg m x v _ hop 9 3 (string_keyed Tryd.underlying9) Tryd.underlying36 (plainElem Tryd.prog 3) mb n D hm hown (by unfold maxLen; omega) (.string s) (.int .i64 (q : Int)) (kl s) hx hv (key_of s hs) (nn q) [] (plainElem_int Tryd.underlying3 (WalkArith.wf_i64 (by omega))) fun w' h1 h2 => ?_
  exact hK w' ⟨_, h1, hD.bump ha q⟩ h2
theorem put_new {ops : Array Oper} {rest : List Oper} {o : Oper} {a : Act} {Q : Exit → Act → World → Prop} (w : World) (m x v : Operand) (mb n : Nat) (K : Ids) (s : ByteArray) (h : MapOwn w mb n K) (hs : s.size ≤ 100000) (hn : n ≤ 100000) (ha : NotIn K s)
    (hg : o.guard = none) (hop : o.op = Op.mapUpdate 36 m x v) (hm : a.eval m = .map (some mb)) (hx : a.eval x = .string s) (hv : a.eval v = .int .i64 0)
    (hK : ∀ w', MapOwn w' mb (n + 1) (K ++ [(s, 0)]) → w.grownBy w' (some mb) → wpList Tryd.prog ops Q rest (a.put o.dst undef) w') : wpList Tryd.prog ops Q (o :: rest) a w := by
  obtain ⟨D, hown, hD⟩ := h
  refine wpList_mapUpdate_own w hg m x v _ hop 9 3 (string_keyed Tryd.underlying9) Tryd.underlying36 (plainElem Tryd.prog 3) mb n D hm hown (by unfold maxLen; omega) (.string s) (.int .i64 0) (kl s) hx hv (key_of s hs) n0 [] (plainElem_int Tryd.underlying3 (by decide)) fun w' h1 h2 => ?_
  exact hK w' ⟨_, h1, hD.new ha⟩ h2

/-- Where the loop stands. -/
def InP (K : Ids) (s0 : ByteArray) (K2 : Ids) (s : ByteArray) (c : Int) (fd : Bool) : Prop :=
  (∃ i : Nat, fd = true ∧ c = (kd K i).2 ∧ K2 = K ∧ At K s i ∧ FromU K s0 s) ∨ (fd = false ∧ NotIn K2 s ∧ Uq K s0 (K2 ++ [(s, 0)]) s)
def measP (K : Ids) (idv fv : Value) : Nat := match fv, idv with
  | .bool true, .string s => longer K s.size + 1
  | _, _ => 0
set_option maxHeartbeats 4000000 in
theorem ensure_any (b mb n : Nat) (K : Ids) (s0 : ByteArray) (w : World) (h : MapOwn w mb n K) (hc : w.cell? ⟨b, 11, none⟩ = some (.map (some mb))) (hne : b ≠ mb) (hn : n ≤ 1000) (hB : Bd K 200 42) (hs : s0.size ≤ 200) :
    Calls Tryd.prog 12 #[.pointer (some ⟨b, 0, none⟩), .string s0] w fun e w' => ∃ K' r, e = .returned (.string r) ∧ Hid (Uq K s0 K' r ∧ MapOwn w' mb (n + 2) K') ∧ w.grownBy w' (some mb) := by
  have HM := Lib.hid h; have HB := Lib.hid hB
  have hlt := World.block_lt_of_cell? w _ hc
  clear h hB
  go_enter Tryd.func12, Tryd.ntmps12
  go_upto_region 1 with fail
  go_cut [5, 6] (fun cv fv wx => ∃ (c : Int) (fd : Bool), cv = .int .i64 c ∧ fv = .bool fd ∧ Hid (InP K s0 K s0 c fd) ∧ w = wx)
  case first =>
    rcases at_or K s0 with hn0 | ⟨i0, ha0⟩
    · have HN := Lib.hid hn0
      have HI : Hid (InP K s0 K s0 0 false) := Lib.hid (.inr ⟨rfl, hn0, .done _ _ hn0⟩)
      clear hn0
      go_wp2_with (at_lookup; refine look_not _ (.tmp 16) (.tmp 17) mb n K s0 HM.out (by omega) HN.out rfl rfl rfl rfl ?_)
      go_meet
      exact ⟨0, false, rfl, rfl, HI, rfl⟩
    · have HA := Lib.hid ha0
      have HI : Hid (InP K s0 K s0 (kd K i0).2 true) := Lib.hid (.inl ⟨i0, rfl, rfl, rfl, ha0, FromU.refl _ _⟩)
      clear ha0
      go_wp2_with (at_lookup; refine look_at _ (.tmp 16) (.tmp 17) mb n K s0 i0 HM.out (by omega) HA.out rfl rfl rfl rfl ?_)
      go_meet
      exact ⟨_, true, rfl, rfl, HI, rfl⟩
  case rest =>
    obtain ⟨c, fd, rfl, rfl, HI, rfl⟩ := hcut
    have HG0 := Lib.hid (World.grownBy.refl w (some mb))
    go_wp2_with fail
    go_loopw [1, 5, 6] (fun idv cv fv wr => ∃ (s : ByteArray) (K2 : Ids) (c : Int) (fd : Bool) (n2 : Nat), idv = .string s ∧ cv = .int .i64 c ∧ fv = .bool fd ∧ n2 ≤ n + 1 ∧ Hid (fd = true → n2 = n) ∧ Hid (MapOwn wr mb n2 K2) ∧ Hid (w.grownBy wr (some mb)) ∧ Hid (InP K s0 K2 s c fd)) (fun idv _ fv _ => measP K idv fv)
    case atStart => exact ⟨s0, K, c, fd, n, rfl, rfl, rfl, by omega, Lib.hid (fun _ => rfl), HM, HG0, HI⟩
    case round =>
      obtain ⟨s, K2, c2, fd2, n2, rfl, rfl, rfl, hn2, HNF, HM2, HG2, HI2⟩ := hrel
      obtain ⟨wi, hwi⟩ : ∃ wi : World, wi = wr := ⟨_, rfl⟩
      subst hwi
      have hci : wi.cell? ⟨b, 11, none⟩ = some (.map (some mb)) := (HG2.out.cell_far ⟨b, 11, none⟩ hlt (by simp; exact hne)).trans hc
      rcases HI2.out with ⟨i, rfl, rfl, e2, ha, hf⟩ | ⟨rfl, hnn, hu⟩
      · subst e2
        have hn3 : n2 ≤ n := by rw [HNF.out rfl]; omega
        have HN2 : Hid (n2 = n) := Lib.hid (HNF.out rfl)
        have hbi := HB.out i ha.1
        rw [ha.2.1] at hbi
        have hss : s.size ≤ 200 := hbi.1
        have hqi : (kd K2 i).2 ≤ 42 := hbi.2
        have HA := Lib.hid ha; have HF := Lib.hid hf
        clear ha hf hbi
        have hds := decB_size ((kd K2 i).2 + 1)
        have hnx := nxB_size s ((kd K2 i).2 + 1)
        have HC1 : Hid (((kd K2 i).2 : Int) + 1 = (((kd K2 i).2 + 1 : Nat) : Int)) := Lib.hid (by omega)
        have hlti := World.block_lt_of_cell? wi _ hci
        rcases at_or K2 (nxB s ((kd K2 i).2 + 1)) with hnj | ⟨j, haj⟩
        · have HNJ := Lib.hid hnj
          have hik2 : i < K2.length := HA.out.1
          have HN4 : Hid (NotIn (K2.set i (s, (kd K2 i).2 + 1)) (nxB s ((kd K2 i).2 + 1))) := Lib.hid (fun j hj => by
            rw [kd_set hik2]
            have hj' : j < K2.length := by simpa using hj
            by_cases e : j = i
            · rw [if_pos e]; exact fun h => nxB_ne s _ h.symm
            · rw [if_neg e]; exact hnj j hj')
          have HI4 : Hid (InP K2 s0 (K2.set i (s, (kd K2 i).2 + 1)) (nxB s ((kd K2 i).2 + 1)) 0 false) := Lib.hid (.inr ⟨rfl, HN4.out, HF.out _ _ (.next _ _ i HA.out hnj)⟩)
          clear hnj hik2
          go_wp2_with fail
          rw [HC1.out]
          refine (itoa_any ((kd K2 i).2 + 1) wi (by omega)).mono ?_
          rintro e w' ⟨rfl, rfl⟩
          go_upto_region 7 with (at_lookup; refine look_not _ (.tmp 41) (.tmp 42) mb n2 K2 (nxB s ((kd K2 i).2 + 1)) HM2.out (by omega) HNJ.out rfl rfl rfl rfl ?_)
          have HPA := Lib.hid HC1.out.symm
          go_wp2_with (first
            | (at_mapUpdate; refine put_at _ (.tmp 51) (.tmp 52) (.tmp 54) mb n2 K2 s i ((kd K2 i).2 + 1) HM2.out (by omega) (by omega) (by omega) HA.out rfl rfl rfl rfl (by exact congrArg (Value.int .i64) HC1.out) ?_; intro w1 hm1 hg1; have HM3 := Lib.hid hm1; have HG3 := Lib.hid hg1; have hc1 : w1.cell? ⟨b, 11, none⟩ = some (.map (some mb)) := (HG3.out.cell_far ⟨b, 11, none⟩ hlti (by simp; exact hne)).trans hci; clear hm1 hg1)
            | (at_lookup; refine look_not _ (.tmp 26) (.tmp 27) mb (n2 + 1) _ (nxB s ((kd K2 i).2 + 1)) HM3.out (by omega) HN4.out rfl rfl rfl rfl ?_))
          go_roundw
          case rel => exact ⟨nxB s ((kd K2 i).2 + 1), _, 0, false, n2 + 1, rfl, rfl, rfl, by omega, Lib.hid (fun h => by cases h), HM3, Lib.hid (HG2.out.trans HG3.out), HI4⟩
          case measure =>
            show 0 < longer K2 s.size + 1
            omega
        · have HAJ := Lib.hid haj
          have HF2 := Lib.hid (HF.out.step HA.out haj)
          have HLT := Lib.hid (longer_lt (m := s.size + 2) HA.out (by omega))
          have HNS : Hid ((nxB s ((kd K2 i).2 + 1)).size ≤ 100000) := Lib.hid (by omega)
          have HD1 : Hid ((s ++ dash1B).size ≤ 100000) := Lib.hid (by rw [dash1_size]; omega)
          clear haj
          go_wp2_with fail
          rw [HC1.out]
          refine (itoa_any ((kd K2 i).2 + 1) wi (by omega)).mono ?_
          rintro e w' ⟨rfl, rfl⟩
          rcases at_or K2 (s ++ dash1B) with hn3 | ⟨i3, ha3⟩
          · have HN3 := Lib.hid hn3
            have HI3 : Hid (InP K2 s0 K2 (s ++ dash1B) 0 false) := Lib.hid (.inr ⟨rfl, hn3, HF2.out _ _ (.done _ _ hn3)⟩)
            clear hn3
            go_wp2_with (first
              | (at_lookup; refine look_at _ (.tmp 41) (.tmp 42) mb n2 K2 (nxB s ((kd K2 i).2 + 1)) j HM2.out HNS.out HAJ.out rfl rfl rfl rfl ?_)
              | (at_lookup; refine look_not _ (.tmp 26) (.tmp 27) mb n2 K2 (s ++ dash1B) HM2.out HD1.out HN3.out rfl rfl rfl rfl ?_))
            go_roundw
            case rel => exact ⟨s ++ dash1B, _, 0, false, n2, rfl, rfl, rfl, by omega, Lib.hid (fun h => by cases h), HM2, HG2, HI3⟩
            case measure =>
              show 0 < longer K2 s.size + 1
              omega
          · have HA3 := Lib.hid ha3
            have HI3 : Hid (InP K2 s0 K2 (s ++ dash1B) (kd K2 i3).2 true) := Lib.hid (.inl ⟨i3, rfl, rfl, rfl, ha3, HF2.out⟩)
            clear ha3
            go_wp2_with (first
              | (at_lookup; refine look_at _ (.tmp 41) (.tmp 42) mb n2 K2 (nxB s ((kd K2 i).2 + 1)) j HM2.out HNS.out HAJ.out rfl rfl rfl rfl ?_)
              | (at_lookup; refine look_at _ (.tmp 26) (.tmp 27) mb n2 K2 (s ++ dash1B) i3 HM2.out HD1.out HA3.out rfl rfl rfl rfl ?_))
            go_roundw
            case rel => exact ⟨s ++ dash1B, _, _, true, n2, rfl, rfl, rfl, by omega, Lib.hid (fun _ => HN2.out), HM2, HG2, HI3⟩
            case measure =>
              show longer K2 (s ++ dash1B).size + 1 < longer K2 s.size + 1
              have := HLT.out
              rw [dash1_size]
              omega
      · have HNN := Lib.hid hnn; have HU := Lib.hid hu
        have HS : Hid (s.size ≤ 100000) := Lib.hid (by
          have := (hu.bound 200 42 HB.out (by omega)).2.1
          omega)
        clear hnn hu
        go_wp2_with (first
          | (at_mapUpdate; refine put_new _ (.tmp 72) (.tmp 73) (.const (.int .i64 0)) mb n2 K2 s HM2.out HS.out (by omega) HNN.out rfl rfl rfl rfl rfl ?_; intro w1 hm1 hg1; have HM3 := Lib.hid hm1; have HG3 := Lib.hid hg1; clear hm1 hg1)
          | (at_lookup; refine look_not _ (.tmp 62) (.tmp 63) mb n2 K2 s HM2.out HS.out HNN.out rfl rfl rfl rfl ?_))
        go_ret
        exact ⟨_, s, rfl, Lib.hid ⟨HU.out, by obtain ⟨D, h1, h2⟩ := HM3.out; exact ⟨D, h1.mono (by omega), h2⟩⟩, HG2.out.trans HG3.out⟩
end Go.Proofs.YtfhpjcgflejgnaaDoor
