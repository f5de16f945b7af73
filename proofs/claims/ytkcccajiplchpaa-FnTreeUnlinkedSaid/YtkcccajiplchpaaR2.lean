/- Nodes in memory: a node appended, put ahead of another one. -/
import Derived.Test.YtkcccajiplchpaaR1
namespace Go.Proofs.Ytkcccajiplchpaa
open Go.RowKit
set_option linter.unusedVariables false

def appendL (L : Lk) (a b : Nat) : Lk :=
  match unlinkL L b 3 a with
  | some q => upd (upd (upd (upd (unlinkL L b) 1 b (some a)) 5 q (some b)) 4 b (some q)) 3 a (some b)
  | none => upd (upd (upd (unlinkL L b) 1 b (some a)) 2 a (some b)) 3 a (some b)
set_option maxHeartbeats 4000000 in
theorem append_any (w : World) (B : Nat) (nb : Nat → Nat) (n : Nat) (L : Lk) (a b : Nat) (h : Nodes w B nb n L) (ha : a < n) (hb : b < n) :
    Calls Try.prog 15 #[.pointer (some ⟨nb a, 0, none⟩), .pointer (some ⟨nb b, 0, none⟩)] w fun e w' => e = .returned (.tuple #[]) ∧ Nodes w' B nb n (appendL L a b) ∧ But (· = 66) B w w' := by
  have HN := Lib.hid h
  clear h
  have hq := neq_ptr (nb := nb)
  have hgd := guard_ptr (nb := nb)
  go_enter Try.func15, Try.ntmps15
  go_wp2_with fail
  refine (unlink_any w B nb n L b HN.out hb).mono ?_
  rintro e w1 ⟨rfl, hN1, hB1⟩
  have HN1 := Lib.hid hN1
  have HB1 := Lib.hid hB1
  clear hN1 hB1
  obtain ⟨c1, f1⟩ := HN1.out.cell hb (k := 1) (by omega) (by omega)
  obtain ⟨c4, f4⟩ := HN1.out.cell hb (k := 4) (by omega) (by omega)
  obtain ⟨c3, f3⟩ := HN1.out.cell ha (k := 3) (by omega) (by omega)
  obtain ⟨c2, f2⟩ := HN1.out.cell ha (k := 2) (by omega) (by omega)
  have hr3 := HN1.out.rng 3 a
  have s1 := HN1.out.set hb (k := 1) (by omega) (by omega) (some a) (by rintro _ ⟨⟩; exact ha)
  cases e3 : unlinkL L b 3 a with
  | some q =>
    have hq' := hr3 q (by omega) (by omega) ha e3
    obtain ⟨c5, f5⟩ := HN1.out.cell hq' (k := 5) (by omega) (by omega)
    have s2 := s1.1.set hq' (k := 5) (by omega) (by omega) (some b) (by rintro _ ⟨⟩; exact hb)
    have s3 := s2.1.set hb (k := 4) (by omega) (by omega) (some q) (by rintro _ ⟨⟩; exact hq')
    have s4 := s3.1.set ha (k := 3) (by omega) (by omega) (some b) (by rintro _ ⟨⟩; exact hb)
    have S := Lib.hid (And.intro s4.1 (HB1.out.trans (s1.2.trans (s2.2.trans (s3.2.trans s4.2)))))
    clear s1 s2 s3 s4
    rw [e3] at c3
    simp only [ptr, Option.map_some] at c3
    go_wp2
    go_end0
    refine ⟨rfl, ?_⟩
    unfold appendL
    rw [e3]
    exact S.out
  | none =>
    have s2 := s1.1.set ha (k := 2) (by omega) (by omega) (some b) (by rintro _ ⟨⟩; exact hb)
    have s3 := s2.1.set ha (k := 3) (by omega) (by omega) (some b) (by rintro _ ⟨⟩; exact hb)
    have S := Lib.hid (And.intro s3.1 (HB1.out.trans (s1.2.trans (s2.2.trans s3.2))))
    clear s1 s2 s3
    rw [e3] at c3
    simp only [ptr, Option.map_none] at c3
    go_wp2
    go_end0
    refine ⟨rfl, ?_⟩
    unfold appendL
    rw [e3]
    exact S.out

def insert1 (L : Lk) (a b : Nat) : Lk :=
  match L 4 a with
  | some q => upd (upd L 4 b (some q)) 5 q (some b)
  | none => upd L 4 b none
def insert2 (L : Lk) (a b : Nat) : Lk := upd (upd (upd (insert1 L a b) 5 b (some a)) 4 a (some b)) 1 b (L 1 a)
def insertL (L : Lk) (a b : Nat) : Lk :=
  match unlinkL L b 4 a with
  | some q => insert2 (unlinkL L b) a b
  | none => match unlinkL L b 1 a with
    | some p => upd (insert2 (unlinkL L b) a b) 2 p (some b)
    | none => insert2 (unlinkL L b) a b
theorem insert1_keep (L : Lk) (a b : Nat) : insert1 L a b 1 a = L 1 a ∧ insert1 L a b 4 b = L 4 a := by
  unfold insert1 upd
  cases h4 : L 4 a <;> simp
set_option maxHeartbeats 4000000 in
theorem insert_any (w : World) (B : Nat) (nb : Nat → Nat) (n : Nat) (L : Lk) (a b p : Nat) (h : Nodes w B nb n L) (ha : a < n) (hb : b < n) (hab : a ≠ b) (hp : unlinkL L b 1 a = some p) :
    Calls Try.prog 16 #[.pointer (some ⟨nb a, 0, none⟩), .pointer (some ⟨nb b, 0, none⟩)] w fun e w' => e = .returned (.tuple #[]) ∧ Nodes w' B nb n (insertL L a b) ∧ But (· = 66) B w w' := by
  have HN := Lib.hid h
  have hne : nb a ≠ nb b := fun e => hab (h.inj a b ha hb e)
  have hne' : nb b ≠ nb a := fun e => hne e.symm
  clear h
  have hq := neq_ptr (nb := nb)
  have hqe := eql_ptr (nb := nb)
  have hgd := guard_ptr (nb := nb)
  go_enter Try.func16, Try.ntmps16
  go_wp2_with fail
  refine (unlink_any w B nb n L b HN.out hb).mono ?_
  rintro e w1 ⟨rfl, hN1, hB1⟩
  obtain ⟨L1, hL1⟩ : ∃ L1, L1 = unlinkL L b := ⟨_, rfl⟩
  rw [← hL1] at hN1 hp
  have HL1 := Lib.hid hL1
  clear hL1
  have HN1 := Lib.hid hN1
  have HB1 := Lib.hid hB1
  clear hN1 hB1 HN
  obtain ⟨b4, g4⟩ := HN1.out.cell hb (k := 4) (by omega) (by omega)
  obtain ⟨a4, h4⟩ := HN1.out.cell ha (k := 4) (by omega) (by omega)
  have hr4 := HN1.out.rng 4 a; have hr1 := HN1.out.rng 1 a
  have hpn := hr1 p (by omega) (by omega) ha hp
  go_upto_if 17 with fail
  go_cut [] (fun wx => Hid (Nodes wx B nb n (insert1 L1 a b)) ∧ Hid (But (· = 66) B w wx))
  case first =>
    have s1 := HN1.out.set hb (k := 4) (by omega) (by omega) (L1 4 a) (fun j => hr4 j (by omega) (by omega) ha)
    cases e4 : L1 4 a with
    | some q =>
      have hq' := hr4 q (by omega) (by omega) ha e4
      obtain ⟨c5, f5⟩ := HN1.out.cell hq' (k := 5) (by omega) (by omega)
      have s2 := s1.1.set hq' (k := 5) (by omega) (by omega) (some b) (by rintro _ ⟨⟩; exact hb)
      have S := Lib.hid (And.intro s2.1 (HB1.out.trans (s1.2.trans s2.2)))
      clear s1 s2
      rw [e4] at a4 S
      simp only [ptr, Option.map_some, Option.isSome_some] at a4 S ⊢
      go_wp2_with fail
      go_meet
      unfold insert1
      rw [e4]
      exact ⟨S.out.1, S.out.2⟩
    | none =>
      have S := Lib.hid (And.intro s1.1 (HB1.out.trans s1.2))
      clear s1
      rw [e4] at a4 S
      simp only [ptr, Option.map_none, Option.isSome_none] at a4 S ⊢
      go_wp2_with fail
      go_meet
      unfold insert1
      rw [e4]
      exact ⟨S.out.1, S.out.2⟩
  case rest =>
    obtain ⟨HN2, HB2⟩ := hcut
    clear b4 g4 a4 h4
    obtain ⟨k1, k4⟩ := insert1_keep L1 a b
    obtain ⟨b4, g4⟩ := HN2.out.cell hb (k := 4) (by omega) (by omega)
    obtain ⟨b5, g5⟩ := HN2.out.cell hb (k := 5) (by omega) (by omega)
    obtain ⟨b1, g1⟩ := HN2.out.cell hb (k := 1) (by omega) (by omega)
    obtain ⟨a4, h4⟩ := HN2.out.cell ha (k := 4) (by omega) (by omega)
    obtain ⟨a1, h1⟩ := HN2.out.cell ha (k := 1) (by omega) (by omega)
    obtain ⟨p2, i2⟩ := HN2.out.cell hpn (k := 2) (by omega) (by omega)
    rw [k4] at b4
    rw [k1, hp] at a1
    clear k1 k4
    have s1 := HN2.out.set hb (k := 5) (by omega) (by omega) (some a) (by rintro _ ⟨⟩; exact ha)
    have s2 := s1.1.set ha (k := 4) (by omega) (by omega) (some b) (by rintro _ ⟨⟩; exact hb)
    have s3 := s2.1.set hb (k := 1) (by omega) (by omega) (some p) (by rintro _ ⟨⟩; exact hpn)
    simp only [ptr, Option.map_some] at a1
    cases e4 : L1 4 a with
    | some q =>
      have S := Lib.hid (And.intro s3.1 (HB2.out.trans (s1.2.trans (s2.2.trans s3.2))))
      clear s1 s2 s3
      rw [e4] at b4
      simp only [ptr, Option.map_some] at b4
      go_wp2
      go_end0
      refine ⟨rfl, ?_⟩
      unfold insertL
      rw [← HL1.out]
      simp only [e4]
      unfold insert2
      rw [hp]
      exact S.out
    | none =>
      have s4 := s3.1.set hpn (k := 2) (by omega) (by omega) (some b) (by rintro _ ⟨⟩; exact hb)
      have S := Lib.hid (And.intro s4.1 (HB2.out.trans (s1.2.trans (s2.2.trans (s3.2.trans s4.2)))))
      clear s1 s2 s3 s4
      rw [e4] at b4
      simp only [ptr, Option.map_none] at b4
      go_wp2
      go_end0
      refine ⟨rfl, ?_⟩
      unfold insertL
      rw [← HL1.out]
      simp only [e4, hp]
      unfold insert2
      rw [hp]
      exact S.out
end Go.Proofs.Ytkcccajiplchpaa
