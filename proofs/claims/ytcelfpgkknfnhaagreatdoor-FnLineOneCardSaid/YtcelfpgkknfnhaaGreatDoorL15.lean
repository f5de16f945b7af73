/- Lines: the nine doors of the package's line readers. -/
import Derived.Test.YtcelfpgkknfnhaaGreatDoorL3
import Derived.Test.YtcelfpgkknfnhaaGreatDoorL6
import Derived.Test.YtcelfpgkknfnhaaGreatDoorL9
import Derived.Test.YtcelfpgkknfnhaaGreatDoorL14
namespace Go.Proofs.YtcelfpgkknfnhaaGreatDoor
open Go.RowKit
set_option linter.unusedVariables false

set_option maxHeartbeats 1000000 in
theorem doorIsEmpty (b0 : Nat) (A : Option Addr) (n cap : Nat) (f : Nat → Int) (w : World) (B : Nat) (h : RB w B A n cap f) (hn0 : 0 < n) (hn : n ≤ 100000) :
    Calls Tryz.prog 19 #[.pointer (some ⟨b0, 0, none⟩), .slice A n cap] w fun e w' => e = .returned (.int .i64 (emptyF n f)) ∧ w = w' := by
  have HA := Lib.hid (isEmpty_any (some ⟨b0, 0, none⟩) A n cap f w B h hn)
  clear h
  go_enter Tryz.func19, Tryz.ntmps19
  go_wp2_with fail
  refine HA.out.mono ?_
  rintro e w' ⟨rfl, rfl⟩
  go_wp2_with fail
  go_ret
  exact ⟨rfl, rfl⟩
set_option maxHeartbeats 1000000 in
theorem doorIsUnderlinedHeading (b0 : Nat) (A : Option Addr) (n cap : Nat) (f : Nat → Int) (w : World) (B : Nat) (h : RB w B A n cap f) (hn0 : 0 < n) (hn : n ≤ 100000) :
    Calls Tryz.prog 22 #[.pointer (some ⟨b0, 0, none⟩), .slice A n cap] w fun e w' => e = .returned (.int .i64 (unF n f)) ∧ w = w' := by
  have HA := Lib.hid (isUnderlined_any (some ⟨b0, 0, none⟩) A n cap f w B h hn0 hn)
  clear h
  go_enter Tryz.func22, Tryz.ntmps22
  go_wp2_with fail
  refine HA.out.mono ?_
  rintro e w' ⟨rfl, rfl⟩
  go_wp2_with fail
  go_ret
  exact ⟨rfl, rfl⟩
set_option maxHeartbeats 1000000 in
theorem doorQuotePrefix (b0 : Nat) (A : Option Addr) (n cap : Nat) (f : Nat → Int) (w : World) (B : Nat) (h : RB w B A n cap f) (hn0 : 0 < n) (hn : n ≤ 100000) :
    Calls Tryz.prog 23 #[.pointer (some ⟨b0, 0, none⟩), .slice A n cap] w fun e w' => e = .returned (.int .i64 (quoF n f)) ∧ w = w' := by
  have HA := Lib.hid (quotePrefix_any (some ⟨b0, 0, none⟩) A n cap f w B h hn0 hn)
  clear h
  go_enter Tryz.func23, Tryz.ntmps23
  go_wp2_with fail
  refine HA.out.mono ?_
  rintro e w' ⟨rfl, rfl⟩
  go_wp2_with fail
  go_ret
  exact ⟨rfl, rfl⟩
set_option maxHeartbeats 1000000 in
theorem doorCodePrefix (b0 : Nat) (A : Option Addr) (n cap : Nat) (f : Nat → Int) (w : World) (B : Nat) (h : RB w B A n cap f) (hn0 : 0 < n) (hn : n ≤ 100000) :
    Calls Tryz.prog 24 #[.pointer (some ⟨b0, 0, none⟩), .slice A n cap] w fun e w' => e = .returned (.int .i64 (codeF n f)) ∧ w = w' := by
  have HA := Lib.hid (codePrefix_any (some ⟨b0, 0, none⟩) A n cap f w B h hn)
  clear h
  go_enter Tryz.func24, Tryz.ntmps24
  go_wp2_with fail
  refine HA.out.mono ?_
  rintro e w' ⟨rfl, rfl⟩
  go_wp2_with fail
  go_ret
  exact ⟨rfl, rfl⟩
set_option maxHeartbeats 1000000 in
theorem doorBulletPrefix (b0 : Nat) (A : Option Addr) (n cap : Nat) (f : Nat → Int) (w : World) (B : Nat) (h : RB w B A n cap f) (hn0 : 0 < n) (hn : n ≤ 100000) :
    Calls Tryz.prog 25 #[.pointer (some ⟨b0, 0, none⟩), .slice A n cap] w fun e w' => e = .returned (.int .i64 (uliF n f)) ∧ w = w' := by
  have HA := Lib.hid (uliPrefix_any (some ⟨b0, 0, none⟩) A n cap f w B h hn0 hn)
  clear h
  go_enter Tryz.func25, Tryz.ntmps25
  go_wp2_with fail
  refine HA.out.mono ?_
  rintro e w' ⟨rfl, rfl⟩
  go_wp2_with fail
  go_ret
  exact ⟨rfl, rfl⟩
set_option maxHeartbeats 1000000 in
theorem doorOrderedPrefix (b0 : Nat) (A : Option Addr) (n cap : Nat) (f : Nat → Int) (w : World) (B : Nat) (h : RB w B A n cap f) (hn0 : 0 < n) (hn : n ≤ 100000) :
    Calls Tryz.prog 26 #[.pointer (some ⟨b0, 0, none⟩), .slice A n cap] w fun e w' => e = .returned (.int .i64 (numF n f)) ∧ w = w' := by
  have HA := Lib.hid (oliPrefix_any (some ⟨b0, 0, none⟩) A n cap f w B h hn0 hn)
  clear h
  go_enter Tryz.func26, Tryz.ntmps26
  go_wp2_with fail
  refine HA.out.mono ?_
  rintro e w' ⟨rfl, rfl⟩
  go_wp2_with fail
  go_ret
  exact ⟨rfl, rfl⟩
set_option maxHeartbeats 1000000 in
theorem doorDefinitionPrefix (b0 : Nat) (A : Option Addr) (n cap : Nat) (f : Nat → Int) (w : World) (B : Nat) (h : RB w B A n cap f) (hn0 : 0 < n) (hn : n ≤ 100000) :
    Calls Tryz.prog 27 #[.pointer (some ⟨b0, 0, none⟩), .slice A n cap] w fun e w' => e = .returned (.int .i64 (dliF n f)) ∧ w = w' := by
  have HA := Lib.hid (dliPrefix_any (some ⟨b0, 0, none⟩) A n cap f w B h hn0 hn)
  clear h
  go_enter Tryz.func27, Tryz.ntmps27
  go_wp2_with fail
  refine HA.out.mono ?_
  rintro e w' ⟨rfl, rfl⟩
  go_wp2_with fail
  go_ret
  exact ⟨rfl, rfl⟩
set_option maxHeartbeats 1000000 in
theorem doorIsRule (b0 : Nat) (A : Option Addr) (n cap : Nat) (f : Nat → Int) (w : World) (B : Nat) (h : RB w B A n cap f) (hn0 : 0 < n) (hn : n ≤ 100000) (le : Nat) (he : LEnd n f le) :
    Calls Tryz.prog 20 #[.pointer (some ⟨b0, 0, none⟩), .slice A n cap] w fun e w' => e = .returned (.bool (ruleF le f)) ∧ w = w' := by
  have HA := Lib.hid (isHRule_any (some ⟨b0, 0, none⟩) A n cap f le w B h he hn)
  clear h
  go_enter Tryz.func20, Tryz.ntmps20
  go_wp2_with fail
  refine HA.out.mono ?_
  clear he
  rintro e w' ⟨rfl, rfl⟩
  go_wp2_with fail
  go_ret
  exact ⟨rfl, rfl⟩
set_option maxHeartbeats 1000000 in
theorem doorIsPrefixHeading (b0 : Nat) (A : Option Addr) (n cap : Nat) (f : Nat → Int) (w : World) (B : Nat) (h : RB w B A n cap f) (hn0 : 0 < n) (hn : n ≤ 100000) (x : Int) (hp : w.cell? ⟨b0, 259, none⟩ = some (.int .i64 x)) :
    Calls Tryz.prog 21 #[.pointer (some ⟨b0, 0, none⟩), .slice A n cap] w fun e w' => HeadRet x f e ∧ w = w' := by
  have HA := Lib.hid (isPrefixHeading_e x b0 A n cap f w B h hp hn0 hn)
  clear h
  go_enter Tryz.func21, Tryz.ntmps21
  go_wp2_with fail
  refine HA.out.mono ?_
  rintro e w' ⟨⟨hb, rfl, hh⟩, rfl⟩
  have HH := Lib.hid hh
  clear hh
  go_wp2_with fail
  go_ret
  exact ⟨⟨hb, rfl, HH.out⟩, rfl⟩
end Go.Proofs.YtcelfpgkknfnhaaGreatDoor
