/- Reference definitions: what is read of a reference. -/
import Derived.Test.YtaljhebalgipjaaGreatDoorD3
import Derived.Maps.RangeWalk
import Derived.BigQuiet
import Derived.BigRegion
namespace Go.Proofs.YtaljhebalgipjaaGreatDoor
open Go.RowKit
open Go.WideMaps (string_law string_of_keyOf)
set_option linter.unusedVariables false

theorem results5 {fn : Func} {t u v x y : Tmp} (h : fn.results = #[.tmp t, .tmp u, .tmp v, .tmp x, .tmp y]) (tmps : Array Value) (P : Program) (w : World) :
    (results fn tmps).run P w = .ok (.tuple #[tmps.getD t undef, tmps.getD u undef, tmps.getD v undef, tmps.getD x undef, tmps.getD y undef]) w := by
  simp [results, h]
theorem drewN_grown {a w : World} {r : Option Nat} (h : a.grownBy w r) (n : Nat) : a.grownBy (w.drewN n) r := ⟨h.os, h.tape, h.output, h.size, h.block⟩
theorem grown_trans {a b c : World} {r : Option Nat} (h : a.grownBy b r) (g : b.grownBy c r) : a.grownBy c r :=
  ⟨g.os.trans h.os, g.tape.trans h.tape, g.output.trans h.output, Nat.le_trans h.size g.size, fun k hk hne => (g.block k (Nat.lt_of_lt_of_le hk h.size) hne).trans (h.block k hk hne)⟩
/-- New blocks may turn as well. -/
theorem grown_new {a b c : World} {r : Option Nat} {k : Nat} (h : a.grownBy b r) (g : b.grownBy c (some k)) (hk : a.heap.size ≤ k) : a.grownBy c r :=
  ⟨g.os.trans h.os, g.tape.trans h.tape, g.output.trans h.output, Nat.le_trans h.size g.size, fun j hj hne => (g.block j (Nat.lt_of_lt_of_le hj h.size) (fun e => by injection e with e; omega)).trans (h.block j hj hne)⟩
theorem RB.grown {w w' : World} {B : Nat} {A : Option Addr} {n c m : Nat} {f : Nat → Int} (h : RB w B A n c f) (hg : w.grownBy w' (some m)) {es : Array MapEntry} {clock : Nat} (hm : w.heap[m]? = some (.map es clock)) : RB w' B A n c f :=
  ⟨h.1, h.2.1, h.2.2.1, fun hn => by
    obtain ⟨b, off, e, hB, hc⟩ := h.2.2.2 hn
    refine ⟨b, off, e, hB, fun j hj => hg.cell (hc j hj) (fun eq => ?_)⟩
    injection eq with eq
    have := hc j hj
    simp only at eq
    subst eq
    simp [World.cell?, hm] at this⟩
def subStr (f : Nat → Int) (lo hi : Nat) : ByteArray := strOf ((List.range (hi - lo)).map (fun j => f (lo + j)))
/-- 'string' of a cut. -/
theorem cut_conv {P : Program} {w : World} {B : Nat} {A : Option Addr} {n cap : Nat} {f : Nat → Int} (h : RB w B A n cap f) {lo hi : Nat} (h1 : lo ≤ hi) (h2 : hi ≤ n) (hlc : lo < cap) (hA : 0 < n) (src dst e : TypeId) (hs : P.underlying src = some (.slice e)) (he : P.underlying e = some (.int .u8)) (hd : P.underlying dst = some .string) :
    (convert src dst (cutV A cap lo hi)).run P w = .ok (.string (subStr f lo hi)) w := by
  obtain ⟨b, off, rfl, _, _⟩ := h.2.2.2 hA
  have := (h.cut h1 h2)
  rw [if_neg (by omega), Option.map_some, add_lit] at this
  exact this.conv src dst e hs he hd
theorem RB.drewN {w : World} {B : Nat} {A : Option Addr} {n c : Nat} {f : Nat → Int} (h : RB w B A n c f) (k : Nat) : RB (w.drewN k) B A n c f := h

theorem keyInv (key : Value) (kl : Lit) (h : keyOf Tryz.prog 9 key = some kl) : ∃ x, key = Value.string x := by
  obtain ⟨s, e, _⟩ := string_of_keyOf Tryz.underlying9 h
  exact ⟨s, e⟩
theorem elemInv (v : Value) (y : DataW Unit × List MemPlace) (h : ptrElem v = some y) : ∃ c, v = Value.pointer c := by
  unfold ptrElem at h
  split at h
  · exact ⟨_, rfl⟩
  · cases h

theorem ptrElem_inv {c : Option Addr} {y : DataW Unit} {ps : List MemPlace} (h : ptrElem (.pointer c) = some (y, ps)) : ∃ r' : Nat, c = some ⟨r', 0, none⟩ ∧ y = .lit (.int .i64 r') := by
  rcases c with _ | ⟨b, _ | o, _ | s⟩ <;> simp [ptrElem] at h
  exact ⟨b, rfl, h.1.symm⟩
theorem one_entry {D : DataW Unit} {ks : ByteArray} {r : Nat} (hD : D = (.map [] : DataW Unit).put (.string ks.data.toList) (.lit (.int .i64 r))) {xk : ByteArray} {kl : Lit} {c : Option Addr} {y : DataW Unit} {ps : List MemPlace}
    (hk : keyOf Tryz.prog 9 (.string xk) = some kl) (hl : Maps.has D kl = true) (hR : ptrElem (.pointer c) = some (y, ps)) (hat : ∀ zd, D.atKey kl zd = y) : xk = ks ∧ c = some ⟨r, 0, none⟩ := by
  obtain ⟨s, e1, rfl, _⟩ := string_of_keyOf Tryz.underlying9 hk
  injection e1 with e1
  subst e1
  have hks : ks.data.toList = xk.data.toList := by
    rw [hD] at hl
    simpa [DataW.put, DataW.insert, Maps.has, Lit.sameKey] using hl
  have hx : xk = ks := by
    apply ByteArray.ext
    exact (Array.toList_inj.1 hks).symm
  refine ⟨hx, ?_⟩
  subst hx
  have h1 := hat .nil
  obtain ⟨r', e, hy⟩ := ptrElem_inv hR
  rw [hD, hy] at h1
  simp [DataW.put, DataW.insert, DataW.atKey, Lit.sameKey] at h1
  obtain rfl : r = r' := by omega
  exact e

set_option maxHeartbeats 8000000 in
set_option maxRecDepth 100000 in
theorem readRef_any (pb mb : Nat) (x : Int) (A : Option Addr) (n cap : Nat) (f : Nat → Int) (bl K J I2 i0 L T R Z : Nat) (w : World) (h : RB w w.heap.size A n cap f) (hn : n ≤ 100000)
    (hpx : w.cell? ⟨pb, 259, none⟩ = some (.int .i64 x)) (hpm : w.cell? ⟨pb, 2, none⟩ = some (.map (some mb))) (hM : w.ownsMap Tryz.prog 9 ptrElem mb 0 (.map [] : DataW Unit))
    (hH : Head f bl K J I2 i0) (hink : inkB (f i0)) (hi : i0 ≤ L) (hLn : L ≤ n) (hTR : T ≤ R) (hRn : R ≤ n) (hZ0 : 0 < Z) (hin : i0 < n) (hTn : T < n)
    (hS : Calls Tryz.prog 48 #[.pointer (some ⟨pb, 0, none⟩), .slice A n cap, .int .i64 i0] w fun e w' => e = .returned (.tuple #[.int .i64 i0, .int .i64 L, .int .i64 T, .int .i64 R, .int .i64 Z]) ∧ w = w') :
    Calls Tryz.prog 25 #[.pointer (some ⟨pb, 0, none⟩), .slice A n cap, .int .i64 4] w fun e w' =>
      e = .returned (.tuple #[.int .i64 Z, .string (lowStr f K J), .string (subStr f i0 L), .string (subStr f T R), .bool false]) ∧ w.grownBy w' (some mb) := by
  have HI := Lib.hid (isRef_any pb mb x 4 A n cap f bl K J I2 i0 L T R Z w h hn hpx hpm hM hH hink hi hLn hTR hRn hZ0 hin hTn hS)
  have HR := Lib.hid h
  have hcap := h.cap
  have hmb : ∃ es clock, w.heap[mb]? = some (.map es clock) := by obtain ⟨es, clock, h1, _⟩ := hM; exact ⟨es, clock, h1⟩
  obtain ⟨es, clock, hmb⟩ := hmb
  have HMB := Lib.hid hmb
  have hpne : (some pb : Option Nat) ≠ some mb := fun e => by
    injection e with e; subst e
    simp [World.cell?, hmb] at hpm
  clear h hS hM hH hmb
  go_enter Tryz.func25, Tryz.ntmps25
  go_wp2_with fail
  refine HI.out.mono ?_
  rintro e w1 ⟨rfl, r, hM1, c0, c1, c2, hg1⟩
  have hpm1 : w1.cell? ⟨pb, 2, none⟩ = some (.map (some mb)) := hg1.cell (a := ⟨pb, 2, none⟩) hpm hpne
  obtain ⟨D, hD⟩ : ∃ D : DataW Unit, D = (.map [] : DataW Unit).put (.string (lowStr f K J).data.toList) (.lit (.int .i64 r)) := ⟨_, rfl⟩
  rw [← hD] at hM1
  have HM1 := Lib.hid hM1; have HG1 := Lib.hid hg1; have HD := Lib.hid hD
  have HC0 := Lib.hid c0; have HC1 := Lib.hid c1; have HC2 := Lib.hid c2
  clear hM1 hg1 hD c0 c1 c2
  go_wp2_with (at_range; refine wpList_range_own _ rfl _ 65 rfl 9 73 (Maps.Keyed.of_law (string_law Tryz.underlying9)) Tryz.underlying65 ptrElem mb 1 D rfl HM1.out ?_; intro w2 hrg2 hg2 hs2)
  go_frame
  have hr2 := Lib.hid hrg2
  have hgr2 := Lib.hid hg2
  clear hrg2 hg2
  refine wp_loop_rounds 1 ?_
  rw [rounds_succ]
  go_wp2_with (at_next; refine wpList_next_ranges _ rfl _ rfl 9 (Maps.Keyed.of_law (string_law Tryz.underlying9)) ptrElem Value.string Value.pointer keyInv elemInv mb w1.heap.size 1 D _ _ rfl hr2.out ?hDone ?hMore)
  case hDone =>
    intro hc0 hl0
    exfalso
    have := hl0 (.string (lowStr f K J).data.toList)
    rw [HD.out] at this
    simp [DataW.put, DataW.insert, Maps.has, Lit.sameKey] at this
  case hMore =>
    intro xk c kl y ps w3 cnt3 hkk hlk hRy hat hrg3 hlt3 hg3 hs3 hen
    have hx : xk = lowStr f K J ∧ c = some ⟨r, 0, none⟩ := one_entry HD.out hkk hlk hRy hat
    obtain ⟨rfl, rfl⟩ := hx
    have HG2 : Hid (w1.grownBy w3 none) := Lib.hid (grown_new hgr2.out hg3 (Nat.le_refl _))
    have HG3 : Hid (w.grownBy w3 (some mb)) := Lib.hid (grown_trans HG1.out ⟨HG2.out.os, HG2.out.tape, HG2.out.output, HG2.out.size, fun k hk _ => HG2.out.block k hk (by simp)⟩)
    have hrb3 := Lib.hid (HR.out.grown HG3.out HMB.out)
    have b0 := HG2.out.cell (a := ⟨r, 0, none⟩) HC0.out (by simp)
    have b1 := HG2.out.cell (a := ⟨r, 1, none⟩) HC1.out (by simp)
    have b2 := HG2.out.cell (a := ⟨r, 2, none⟩) HC2.out (by simp)
    have v0 : ∀ k, (convert 23 9 (cutV A cap i0 L)).run Tryz.prog (w3.drewN k) = .ok (.string (subStr f i0 L)) (w3.drewN k) := fun k => cut_conv (hrb3.out.drewN k) hi hLn (by omega) (by omega) _ _ _ Tryz.underlying23 Tryz.underlying5 Tryz.underlying9
    have v1 : ∀ k, (convert 23 9 (cutV A cap T R)).run Tryz.prog (w3.drewN k) = .ok (.string (subStr f T R)) (w3.drewN k) := fun k => cut_conv (hrb3.out.drewN k) hTR hRn (by omega) (by omega) _ _ _ Tryz.underlying23 Tryz.underlying5 Tryz.underlying9
    clear hkk hlk hRy hat hrg3 hlt3 hg3 hs3
    generalize cutV A cap i0 L = V0 at *
    generalize cutV A cap T R = V1 at *
    go_wp2_with fail
    go_quiet (fail)
    go_wp2_with fail
    (try simp only [Exit.inBlock, Exit.then])
    refine bodyPost_ret (results5 rfl _ _ _) rfl ?_
    exact ⟨rfl, drewN_grown HG3.out _⟩
end Go.Proofs.YtaljhebalgipjaaGreatDoor
