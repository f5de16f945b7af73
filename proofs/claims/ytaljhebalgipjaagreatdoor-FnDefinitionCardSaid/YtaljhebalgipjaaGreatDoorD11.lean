/- Reference definitions: what the package answers at the reference's text. -/
import Derived.Test.YtaljhebalgipjaaGreatDoorD10
import Derived.Test.YtaljhebalgipjaaGreatDoorD4a
import Derived.Test.YtaljhebalgipjaaGreatDoorD4b
import Derived.Test.YtaljhebalgipjaaGreatDoorD4c
import Derived.Test.YtaljhebalgipjaaGreatDoorD1a
import Derived.Test.YtaljhebalgipjaaGreatDoorD1b
import Derived.Test.YtaljhebalgipjaaGreatDoorD1c
import Derived.Test.YtaljhebalgipjaaGreatDoorD1d
namespace Go.Proofs.YtaljhebalgipjaaGreatDoor
open Go.RowKit
set_option linter.unusedVariables false

theorem defText_all (w : World) (bl q : Nat) (id path title : List UInt8) (nx : Bool) (hbl : bl ≤ 3) (hq : q ≤ 2) (h1 : id.length ≤ 20) (h2 : path.length ≤ 20) (h3 : title.length ≤ 60) :
    Calls Tryz.prog 15 #[.agg #[.int .u8 bl, .string (strL id), .string (strL path), .string (strL title), .int .u8 q, .bool nx]] w fun e w' => DefT w w' (defL bl id path title (openQ q) (shutQ q) nx) e := by
  cases title with
  | nil => exact defText_nil w bl q id path nx hbl h1 h2
  | cons th ts =>
    have h3' : ts.length ≤ 60 := by simp at h3; omega
    have hq3 : q = 0 ∨ q = 1 ∨ q = 2 := by omega
    rcases hq3 with rfl | rfl | rfl <;> cases nx
    · exact defText_0false w bl id path th ts hbl h1 h2 h3'
    · exact defText_0true w bl id path th ts hbl h1 h2 h3'
    · exact defText_1false w bl id path th ts hbl h1 h2 h3'
    · exact defText_1true w bl id path th ts hbl h1 h2 h3'
    · exact defText_2false w bl id path th ts hbl h1 h2 h3'
    · exact defText_2true w bl id path th ts hbl h1 h2 h3'

theorem range_bt (l : List UInt8) : (List.range l.length).map (bt l) = l.map (fun b => (b.toNat : Int)) := by
  apply List.ext_getElem
  · simp
  · intro i h1 h2
    have hi : i < l.length := by simpa using h2
    simp [bt, hi]
theorem bytes_back (p : List UInt8) : bytesOf ((List.range p.length).map (bt p)) = p := by
  rw [range_bt]
  unfold bytesOf
  rw [List.map_map]
  conv => rhs; rw [← List.map_id p]
  apply List.map_congr_left
  intro b _
  simp
theorem strOf_bt (p : List UInt8) : strOf ((List.range p.length).map (bt p)) = strL p := by
  unfold strOf strL; rw [bytes_back]
theorem subStr_eq {f : Nat → Int} {lo hi : Nat} (p : List UInt8) (hl : p.length = hi - lo) (h : ∀ j, j < p.length → f (lo + j) = bt p j) : subStr f lo hi = strL p := by
  unfold subStr
  rw [← strOf_bt, ← hl]
  congr 1
  apply List.map_congr_left
  intro j hj
  exact h j (by simpa using hj)
theorem lowStr_eq {f : Nat → Int} {lo hi : Nat} (p : List UInt8) (hl : p.length = hi - lo) (hp : Lets p) (h : ∀ j, j < p.length → f (lo + j) = bt p j) : lowStr f lo hi = strL p := by
  unfold lowStr
  rw [← strOf_bt, ← hl]
  congr 1
  apply List.map_congr_left
  intro j hj
  have hj' : j < p.length := by simpa using hj
  rw [h j hj']
  obtain ⟨x, hx, e⟩ := bt_mem hj'
  have := hp x hx
  rw [e]; unfold low; rw [if_neg (by omega)]
theorem openQ_quo (q : Nat) : quoU (openQ q) := by
  unfold quoU openQ
  split
  · exact .inr (.inl rfl)
  · split
    · exact .inl rfl
    · exact .inr (.inr rfl)
theorem shutQ_shut (q : Nat) : shutU (shutQ q) := by
  unfold shutU shutQ
  split
  · exact .inr (.inl rfl)
  · split
    · exact .inl rfl
    · exact .inr (.inr rfl)

/-- What the door answers. -/
def AnsP (e : Ending) (Z : Nat) (id path title : List UInt8) : Prop := e = .returned (.tuple #[.int .i64 Z, .string (strL id), .string (strL (47 :: path)), .string (strL title), .bool false])

set_option maxHeartbeats 2000000 in
theorem answer (x : Int) (A : Option Addr) (cap : Nat) (bl q : Nat) (id path title dl : List UInt8) (nx : Bool) (w : World)
    (h : RB w w.heap.size A (allL bl id path title (openQ q) (shutQ q) nx dl).length cap (bt (allL bl id path title (openQ q) (shutQ q) nx dl)))
    (hx0 : 0 ≤ x) (hx1 : x ≤ 131070) (hbl : bl ≤ 3) (hid : Lets id) (hid0 : 0 < id.length) (hid1 : id.length ≤ 20) (hpa : Lets path) (hp1 : path.length ≤ 20) (hti : Words title) (ht1 : title.length ≤ 60) (hdl : dl.length ≤ 488) :
    Calls Tryz.prog 16 #[.int .i64 x, .slice A (allL bl id path title (openQ q) (shutQ q) nx dl).length cap] w fun e w' =>
      AnsP e ((defL bl id path title (openQ q) (shutQ q) nx).length - 1) id path title ∧ Below w.heap.size w w' := by
  have hlen : (allL bl id path title (openQ q) (shutQ q) nx dl).length = (defL bl id path title (openQ q) (shutQ q) nx).length + 1 + dl.length := by
    unfold allL; simp; omega
  have hH := head_of bl id path title (openQ q) (shutQ q) nx dl hbl hid hid0
  have hlink := ink_link bl id path title (openQ q) (shutQ q) nx dl hpa
  have hsl := slash_at bl id path title (openQ q) (shutQ q) nx dl
  have hids := lowStr_eq (f := bt (allL bl id path title (openQ q) (shutQ q) nx dl)) (lo := bl + 1) (hi := bl + id.length + 1) id (by omega) hid (fun j hj => id_at bl id path title (openQ q) (shutQ q) nx dl j hj)
  have hpas := subStr_eq (f := bt (allL bl id path title (openQ q) (shutQ q) nx dl)) (lo := bl + id.length + 4) (hi := bl + id.length + path.length + 5) (47 :: path) (by simp; omega) (fun j hj => link_at bl id path title (openQ q) (shutQ q) nx dl j (by simpa using hj))
  have h60 : bt (allL bl id path title (openQ q) (shutQ q) nx dl) (bl + id.length + 4) ≠ 60 := by rw [hsl]; decide
  have hink : inkB (bt (allL bl id path title (openQ q) (shutQ q) nx dl) (bl + id.length + 4)) := hlink _ (Nat.le_refl _) (by omega)
  cases title with
  | nil =>
    have hl0 := len_defL0 bl id path (openQ q) (shutQ q) nx
    obtain ⟨n1, n2⟩ := nl_at0 bl id path (openQ q) (shutQ q) nx dl
    have hts : subStr (bt (allL bl id path [] (openQ q) (shutQ q) nx dl)) 0 0 = strL [] := subStr_eq [] (by simp) (fun j hj => by simp at hj)
    refine (definition_any x A _ cap _ bl (bl + 1) (bl + id.length + 1) (bl + id.length + 3) (bl + id.length + 4) (bl + id.length + path.length + 5) 0 0 (bl + id.length + path.length + 5) w h (by omega) hx0 hx1 hH hink (by omega) (by omega) (Nat.le_refl _) (by omega) (by omega) (by omega) (by omega) ?_).mono ?_
    · intro p A' c' w' B hrb
      rcases Nat.eq_zero_or_pos dl.length with hd | hd
      · exact scanLink_last p A' _ c' _ (bl + id.length + 4) (bl + id.length + path.length + 5) (bl + id.length + path.length + 6) w' B hrb (by omega) (by omega) (fun j h1 h2 => hlink j h1 h2) h60 (by omega) n1 (by omega) (fun j h1 h2 => by omega) (.inr (.inl n2)) (by rw [n2]; unfold quoB; decide)
      · exact scanLink_none p A' _ c' _ (bl + id.length + 4) (bl + id.length + path.length + 5) (bl + id.length + path.length + 6) w' B hrb (by omega) (by omega) (fun j h1 h2 => hlink j h1 h2) h60 (by omega) n1 (by omega) (fun j h1 h2 => by omega) (.inr (.inl n2)) (by rw [n2]; unfold quoB; decide)
    · rintro e w' ⟨rfl, hb⟩
      refine ⟨?_, hb⟩
      unfold AnsP
      rw [hids, hpas, hts, hl0]
      rfl
  | cons th ts =>
    have hne : th :: ts ≠ [] := by simp
    have hl1 := len_defL1 bl id path (th :: ts) (openQ q) (shutQ q) nx hne
    cases nx with
    | false =>
      obtain ⟨hT, hv⟩ := tit_same bl id path (th :: ts) (openQ q) (shutQ q) dl hne hti (openQ_quo q) (shutQ_shut q)
      have hn : (allL bl id path (th :: ts) (openQ q) (shutQ q) false dl).length = bl + id.length + path.length + (th :: ts).length + 10 + dl.length := by rw [hlen, hl1]; simp <;> omega
      have htl : 0 < (th :: ts).length := by simp
      have hts := subStr_eq (f := bt (allL bl id path (th :: ts) (openQ q) (shutQ q) false dl)) (lo := bl + id.length + path.length + 7) (hi := bl + id.length + path.length + (th :: ts).length + 7) (th :: ts) (by omega) (fun j hj => title_same bl id path (th :: ts) (openQ q) (shutQ q) dl hne j hj)
      refine (definition_any x A _ cap _ bl (bl + 1) (bl + id.length + 1) (bl + id.length + 3) (bl + id.length + 4) (bl + id.length + path.length + 5) (bl + id.length + path.length + 7) (bl + id.length + path.length + (th :: ts).length + 7) (bl + id.length + path.length + (th :: ts).length + 8) w h (by omega) hx0 hx1 hH hink (by omega) (by omega) (by omega) (by omega) (by omega) (by omega) (by omega) ?_).mono ?_
      · intro p A' c' w' B hrb
        rw [hn] at hrb ⊢
        exact scanLink_same p A' _ c' _ (bl + id.length + 4) (bl + id.length + path.length + 5) (bl + id.length + path.length + 6) _ _ _ w' B hrb (by omega) (by omega) (fun j h1 h2 => hlink j h1 h2) h60 (by omega) hv (by omega) hT
      · rintro e w' ⟨rfl, hb⟩
        refine ⟨?_, hb⟩
        unfold AnsP
        rw [hids, hpas, hts, hl1]
        rfl
    | true =>
      obtain ⟨hT, hv, v1, v2⟩ := tit_next bl id path (th :: ts) (openQ q) (shutQ q) dl hne hti (openQ_quo q) (shutQ_shut q)
      have hn : (allL bl id path (th :: ts) (openQ q) (shutQ q) true dl).length = bl + id.length + path.length + (th :: ts).length + 12 + dl.length := by rw [hlen, hl1]; simp <;> omega
      have htl : 0 < (th :: ts).length := by simp
      have hts := subStr_eq (f := bt (allL bl id path (th :: ts) (openQ q) (shutQ q) true dl)) (lo := bl + id.length + path.length + 9) (hi := bl + id.length + path.length + (th :: ts).length + 9) (th :: ts) (by omega) (fun j hj => title_next bl id path (th :: ts) (openQ q) (shutQ q) dl hne j hj)
      refine (definition_any x A _ cap _ bl (bl + 1) (bl + id.length + 1) (bl + id.length + 3) (bl + id.length + 4) (bl + id.length + path.length + 5) (bl + id.length + path.length + 9) (bl + id.length + path.length + (th :: ts).length + 9) (bl + id.length + path.length + (th :: ts).length + 10) w h (by omega) hx0 hx1 hH hink (by omega) (by omega) (by omega) (by omega) (by omega) (by omega) (by omega) ?_).mono ?_
      · intro p A' c' w' B hrb
        rw [hn] at hrb ⊢
        exact scanLink_next p A' _ c' _ (bl + id.length + 4) (bl + id.length + path.length + 5) (bl + id.length + path.length + 8) _ _ _ w' B hrb (by omega) (by omega) (fun j h1 h2 => hlink j h1 h2) h60 (by omega) hv (by omega) (fun j h1 h2 => by
          have : j = bl + id.length + path.length + 6 ∨ j = bl + id.length + path.length + 7 := by omega
          rcases this with rfl | rfl
          · exact v1
          · exact v2) hT
      · rintro e w' ⟨rfl, hb⟩
        refine ⟨?_, hb⟩
        unfold AnsP
        rw [hids, hpas, hts, hl1]
        rfl
end Go.Proofs.YtaljhebalgipjaaGreatDoor
