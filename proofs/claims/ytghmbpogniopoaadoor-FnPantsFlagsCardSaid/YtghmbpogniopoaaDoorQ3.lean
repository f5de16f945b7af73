/- Punctuation: the door's function, by what Process writes. -/
import Derived.Test.YtghmbpogniopoaaDoorB1
import Derived.Test.YtghmbpogniopoaaDoorQ2
import Derived.Lib.BufferOld
namespace Go.Proofs.YtghmbpogniopoaaDoor
open Go.RowKit
set_option linter.unusedVariables false

/-- What Process shall write. -/
def Wrote (x : Int) (n : Nat) (f : Nat → Int) (m : Nat) (g : Nat → Int) : Prop :=
  ∀ (q ob : Nat) (am : Value) (A : Option Addr) (cap : Nat) (w : World), Tab w q false false (T4 q am (fAN x) (fDS x) (fLX x) (fFR x)) → AmpOK w q am (!fAN x) (fNB x) → RB w w.heap.size A n cap f → Lib.IsBuffer 33 5 ob ob [] w → (∀ a, A = some a → ob < a.block) → ob < q →
    Calls Tryd.prog 12 #[.pointer (some ⟨q, 0, none⟩), .iface 38 (.pointer (some ⟨ob, 0, none⟩)), .slice A n cap] w fun e w' => e = .returned (.tuple #[]) ∧ Hid (Lib.IsBuffer 33 5 ob ob (((List.range m).map g).map (Value.int .u8)) w') ∧ Below ob w w'
theorem bufType : 33 = 33 := rfl
set_option maxHeartbeats 4000000 in
set_option maxRecDepth 100000 in
theorem pants_of (x : Int) (h0 : 0 ≤ x) (h1 : x < 524288) (n : Nat) (f : Nat → Int) (m : Nat) (g : Nat → Int) (hg : ∀ j, 0 ≤ g j ∧ g j ≤ 255) (hn : n ≤ 100000) (hm : m ≤ 140737488351232) (HP : Wrote x n f m g) (w : World) (A : Option Addr) (c : Nat) (h : RB w w.heap.size A n c f) :
    Calls Tryd.prog 7 #[.int .i64 x, .slice A n c] w fun e w' => ∃ A' c', e = .returned (.slice A' m c') ∧ Hid (RB w' w'.heap.size A' m c' g) ∧ Below w.heap.size w w' := by
  have HH := Lib.hid h
  have HP' := Lib.hid HP
  clear h HP
  have hfb := Lib.hid (Lib.fresh_isBuffer 33 5 w)
  go_enter Tryd.func7, Tryd.ntmps7
  go_wp2_with fail
  refine (newPants_any _ x h0 h1).mono ?_
  rintro e w1 ⟨⟨q, am, rfl, ht1, ha1, hq1⟩, hb1⟩
  have hs1 : w.heap.size + 1 ≤ w1.heap.size := by have := hb1.size; simpa using this
  have hqo : w.heap.size < q := by simp at hq1; omega
  have HF1 := Lib.hid (hfb.out.old hb1)
  have HB1 : Hid (Below w.heap.size w w1) := Lib.hid (((Below.refl _ w).alloc (Nat.le_refl _) _).trans (hb1.mono (by simp)))
  have HR1 := Lib.hid ((HH.out.below HB1.out).more (by omega : w.heap.size ≤ w1.heap.size))
  have HT1 := Lib.hid ht1; have HA1 := Lib.hid ha1
  clear hb1 ht1 ha1 hq1 hfb
  go_wp2_with fail
  refine (own_any A n c f w1 HR1.out (by omega)).mono ?_
  rintro e w2 ⟨A2, c2, rfl, hc2, hb2⟩
  have hs2 : w1.heap.size ≤ w2.heap.size := hb2.size
  have HF2 := Lib.hid (HF1.out.old hb2)
  have HT2 := Lib.hid (HT1.out.below hb2)
  have HA2 := Lib.hid (HA1.out.below hb2)
  have HB2 : Hid (Below w.heap.size w w2) := Lib.hid (HB1.out.trans (hb2.mono (by omega)))
  clear HF1 HT1 HA1 hb2
  have hne2 : ∀ a, A2 = some a → w.heap.size < a.block := fun a e => by
    have := (own_ge hc2.out.1 a.block (by rw [e]; rfl)).1
    omega
  have hpr := HP'.out q w.heap.size am A2 c2 w2 HT2.out HA2.out hc2.out.2.1 HF2.out hne2 hqo
  have HPR := Lib.hid hpr
  clear hpr
  go_wp2_with fail
  refine HPR.out.mono ?_
  rintro e w3 ⟨rfl, hf3, hb3⟩
  have hs3 : w2.heap.size ≤ w3.heap.size := hb3.size
  have HB3 : Hid (Below w.heap.size w w3) := Lib.hid (HB2.out.trans hb3)
  have hby := Lib.hid (Tryd.Buffer_Bytes w.heap.size w.heap.size _ w3 hf3.out)
  clear hb3 HPR
  go_wp2_with fail
  refine hby.out.mono ?_
  rintro e w4 ⟨v, rfl, hown, k, rfl⟩
  obtain ⟨A4, c4, rfl⟩ := own_form hown
  have hown' : (w3.drewN k).ownsRow w.heap.size 5 1 (.slice A4 ((List.range m).map g).length c4) ((List.range m).map g).length (((List.range m).map g).map (Value.int .u8)) := by
    have e : (List.map (Value.int .u8) (List.map g (List.range m))).length = m := by simp
    rw [e] at hown
    simpa using hown
  have hrb := RB.of_own hown' (by intro x hx; simp only [List.mem_map, List.mem_range] at hx; obtain ⟨j, _, rfl⟩ := hx; exact hg j)
  have HRB : Hid (RB (w3.drewN k) (w3.drewN k).heap.size A4 m c4 g) := Lib.hid (by
    have e : ((List.range m).map g).length = m := by simp
    rw [e] at hrb
    exact hrb.same (fun j hj => by simp [hj]) hg)
  clear hrb hown' hown
  simp only [List.length_map, List.length_range]
  go_wp2_with fail
  refine (own_any A4 m c4 g _ HRB.out (by omega)).mono ?_
  rintro e w5 ⟨A5, c5, rfl, hc5, hb5⟩
  go_wp2_with fail
  go_ret
  exact ⟨A5, c5, rfl, Lib.hid hc5.out.2.1, (HB3.out.trans (below_drewN _ _ _)).trans (hb5.mono (by simp; omega))⟩
end Go.Proofs.YtghmbpogniopoaaDoor
