/- The package's search for the end of an emphasis. -/
import Derived.Test.YtkkkdcfidoecnaaRows
import Derived.Test.YtkkkdcfidoecnaaE1
import Derived.LoopN
namespace Go.Proofs.Ytkkkdcfidoecnaa
open Go.RowKit
set_option linter.unusedVariables false

theorem nb {a b : Int} (h : a ≠ b) : (a != b) = true ∧ (a == b) = false := ⟨by simpa using h, by simpa using h⟩
theorem eb {a b : Int} (h : a = b) : (a != b) = false ∧ (a == b) = true := ⟨by simpa using h, by simpa using h⟩
theorem isB_no {x y : Int} (h : y ≠ x) : isB x y = false := by simpa [isB] using h
theorem isB_yes {x y : Int} (h : y = x) : isB x y = true := by simpa [isB] using h

set_option maxHeartbeats 4000000 in
set_option maxRecDepth 1000000 in
theorem findEmph_any (A : Option Addr) (n cap : Nat) (f : Nat → Int) (c : Int) (w : World) (B : Nat) (h : RB w B A n cap f) (hn : n ≤ 100000) (hc : c = 42 ∨ c = 95 ∨ c = 126) :
    Calls Try.prog 20 #[.slice A n cap, .int .u8 c] w fun e w' => ∃ r : Nat, e = .returned (.int .i64 r) ∧ Hid (OutE c n f 0 r) ∧ w = w' := by
  rcases Nat.eq_zero_or_pos n with rfl | hn0
  · have HO := Lib.hid (fe_over (FromE.zero c 0 f) (Nat.le_refl 0))
    clear h hc
    go_enter Try.func20, Try.ntmps20
    go_wp2
    refine wp_loop_rounds 1 ?_
    rw [rounds_succ]; go_wp2
    go_ret
    exact ⟨0, rfl, HO, rfl⟩
  obtain ⟨b, off, rfl, hB, hcell⟩ := h.2.2.2 hn0
  have HC := Lib.hid hcell; have HR := Lib.hid h.rng; have HCC := Lib.hid hc
  clear h hcell hc
  go_enter Try.func20, Try.ntmps20
  go_wp2
  go_loop [5] (fun iv => ∃ i : Nat, Hid (FromE c n f i) ∧ i ≤ n + 1 ∧ iv = .int .i64 i) (fun iv => n + 2 - (intOf iv).toNat)
  case atStart => exact ⟨0, FromE.zero c n f, by omega, rfl⟩
  case round =>
    obtain ⟨i, HF, hi, rfl⟩ := hrel
    by_cases hlt : i < n
    · go_wp2
      go_loop [5] (fun jv => ∃ j : Nat, Hid (scan (stopsE c) n f i = scan (stopsE c) n f j) ∧ i ≤ j ∧ j ≤ n ∧ jv = .int .i64 j) (fun jv => n - (intOf jv).toNat)
      case atStart => exact ⟨i, Lib.hid rfl, by omega, by omega, rfl⟩
      case round =>
        obtain ⟨j, HS, hij, hjn, rfl⟩ := hrel
        by_cases hjl : j < n
        · have hcj := HC.out j hjl
          have hrj := HR.out j
          by_cases hs : stopsE c (f j) = true
          · have hst := HS.out.trans (scan_hit hs)
            have HST := Lib.hid hst
            have h3 : f j = c ∨ (f j ≠ c ∧ f j = 96) ∨ (f j ≠ c ∧ f j ≠ 96 ∧ f j = 91) := by
              have hcc := HCC.out
              simp [stopsE] at hs; omega
            have hcp : 0 < j → w.cell? ⟨b, off + (j - 1), none⟩ = some (.int .u8 (f (j - 1))) := fun h0 => HC.out (j - 1) (by omega)
            clear hs hst
            by_cases hesc : 0 < j ∧ f (j - 1) = 92
            · have HN := Lib.hid (fe_esc HF.out hlt HST.out hjl hesc.1 hesc.2)
              have hcp1 := hcp hesc.1
              have e4 : ((j : Int) != 0) = true := by simp; omega
              have e5 := (eb hesc.2).2
              have hj0 := hesc.1
              clear hcp hesc
              rcases h3 with h1 | ⟨h1, h2⟩ | ⟨h1, h2, h3⟩
              · have e1 := (eb h1).1
                clear h1
                go_wp2
                go_round
                case rel => exact ⟨j + 1, HN, by omega, by go_num⟩
                case measure => simp [intOf]; omega
              · have e1 := (nb h1).1; have e2 := (eb h2).1
                clear h1 h2
                go_wp2
                go_round
                case rel => exact ⟨j + 1, HN, by omega, by go_num⟩
                case measure => simp [intOf]; omega
              · have e1 := (nb h1).1; have e2 := (nb h2).1; have e3 := (eb h3).1
                clear h1 h2 h3
                go_wp2
                go_round
                case rel => exact ⟨j + 1, HN, by omega, by go_num⟩
                case measure => simp [intOf]; omega
            · have HE := Lib.hid hesc
              have hne : j = 0 ∨ (0 < j ∧ f (j - 1) ≠ 92) := by omega
              clear hesc
              rcases h3 with h1 | ⟨h1, h2⟩ | ⟨h1, h2, h3⟩
              · have HO := Lib.hid (fe_found HF.out hlt HST.out hjl HE.out h1)
                have e1 := eb h1
                obtain ⟨e1, e1'⟩ := e1
                clear h1
                rcases hne with h0 | ⟨h0, h92⟩
                · have e4 : ((j : Int) != 0) = false := by simp [h0]
                  clear h0 hcp
                  go_wp2
                  go_ret
                  exact ⟨j, rfl, HO, rfl⟩
                · have e4 : ((j : Int) != 0) = true := by simp; omega
                  have hcp1 := hcp h0
                  have e5 := (nb h92).2
                  clear h92 hcp
                  go_wp2
                  go_ret
                  exact ⟨j, rfl, HO, rfl⟩
              · have HT := fun (k t : Nat) => Lib.hid (fe_tick_end (k := k) (t := t) HF.out hlt HST.out hjl HE.out h1 h2)
                have HT2 := fun (k : Nat) => Lib.hid (fe_tick (k := k) HF.out hlt HST.out hjl HE.out h1 h2)
                obtain ⟨e1, e1'⟩ := nb h1
                obtain ⟨e2, e2'⟩ := eb h2
                clear h1 h2
                rcases hne with h0 | ⟨h0, h92⟩
                · have e4 : ((j : Int) != 0) = false := by simp [h0]
                  clear h0 hcp
                  go_wp2
                  as_aux_lemma =>
                    go_loop [5, 6] (fun jv tv => ∃ k t : Nat, Hid (scan (isB 96) n f (j + 1) = scan (isB 96) n f k) ∧ Hid (noted (isB 96) c n f (j + 1) 0 = noted (isB 96) c n f k t) ∧ j + 1 ≤ k ∧ k ≤ n ∧ t ≤ n ∧ jv = .int .i64 k ∧ tv = .int .i64 t) (fun jv _ => n - (intOf jv).toNat)
                    case atStart => exact ⟨j + 1, 0, Lib.hid rfl, Lib.hid rfl, by omega, by omega, by omega, by go_num, rfl⟩
                    case round =>
                      obtain ⟨k, t, HK, HTT, hk1, hk2, ht, rfl, rfl⟩ := hrel
                      by_cases hkl : k < n
                      · have hck := HC.out k hkl
                        have hrk := HR.out k
                        by_cases hp : f k = 96
                        · have HKK := Lib.hid (HK.out.trans (scan_hit (isB_yes hp)))
                          have HNN := Lib.hid (HTT.out.trans (noted_hit (isB_yes hp)))
                          have e6 := (eb hp).1
                          clear hp
                          have HN := Lib.hid ((HT2 k).out HKK.out hkl)
                          go_wp2
                          go_round
                          case rel => exact ⟨k + 1, HN, by omega, by go_num⟩
                          case measure => simp [intOf]; omega
                        · have e6 := (nb hp).1
                          have HK' := Lib.hid (HK.out.trans (scan_go hkl (isB_no hp)))
                          by_cases ht0 : t = 0
                          · by_cases hfc : f k = c
                            · have HT' : Hid (noted (isB 96) c n f (j + 1) 0 = noted (isB 96) c n f (k + 1) k) := Lib.hid (HTT.out.trans (by rw [ht0]; exact noted_new hkl (isB_no hp) hfc))
                              have e7 : ((t : Int) == 0) = true := by simp [ht0]
                              have e8 := (eb hfc).2
                              clear hp ht0 hfc
                              go_wp2
                              go_round
                              case rel => exact ⟨k + 1, k, HK', HT', by omega, by omega, by omega, by go_num, rfl⟩
                              case measure => simp [intOf]; omega
                            · have HT' : Hid (noted (isB 96) c n f (j + 1) 0 = noted (isB 96) c n f (k + 1) t) := Lib.hid (HTT.out.trans (noted_go hkl (isB_no hp) (.inr hfc)))
                              have e7 : ((t : Int) == 0) = true := by simp [ht0]
                              have e8 := (nb hfc).2
                              clear hp ht0 hfc
                              go_wp2
                              go_round
                              case rel => exact ⟨k + 1, t, HK', HT', by omega, by omega, by omega, by go_num, rfl⟩
                              case measure => simp [intOf]; omega
                          · have HT' : Hid (noted (isB 96) c n f (j + 1) 0 = noted (isB 96) c n f (k + 1) t) := Lib.hid (HTT.out.trans (noted_go hkl (isB_no hp) (.inl ht0)))
                            have e7 : ((t : Int) == 0) = false := by simp; omega
                            clear hp ht0
                            go_wp2
                            go_round
                            case rel => exact ⟨k + 1, t, HK', HT', by omega, by omega, by omega, by go_num, rfl⟩
                            case measure => simp [intOf]; omega
                      · have HKK := Lib.hid (HK.out.trans (scan_end (by omega)))
                        have HNN := Lib.hid (HTT.out.trans (noted_end (by omega)))
                        have HO := Lib.hid ((HT k t).out HKK.out HNN.out (by omega))
                        go_wp2
                        go_ret
                        exact ⟨t, rfl, HO, rfl⟩
                · have e4 : ((j : Int) != 0) = true := by simp; omega
                  have hcp1 := hcp h0
                  have e5 := (nb h92).2
                  clear h92 hcp
                  go_wp2
                  as_aux_lemma =>
                    go_loop [5, 6] (fun jv tv => ∃ k t : Nat, Hid (scan (isB 96) n f (j + 1) = scan (isB 96) n f k) ∧ Hid (noted (isB 96) c n f (j + 1) 0 = noted (isB 96) c n f k t) ∧ j + 1 ≤ k ∧ k ≤ n ∧ t ≤ n ∧ jv = .int .i64 k ∧ tv = .int .i64 t) (fun jv _ => n - (intOf jv).toNat)
                    case atStart => exact ⟨j + 1, 0, Lib.hid rfl, Lib.hid rfl, by omega, by omega, by omega, by go_num, rfl⟩
                    case round =>
                      obtain ⟨k, t, HK, HTT, hk1, hk2, ht, rfl, rfl⟩ := hrel
                      by_cases hkl : k < n
                      · have hck := HC.out k hkl
                        have hrk := HR.out k
                        by_cases hp : f k = 96
                        · have HKK := Lib.hid (HK.out.trans (scan_hit (isB_yes hp)))
                          have HNN := Lib.hid (HTT.out.trans (noted_hit (isB_yes hp)))
                          have e6 := (eb hp).1
                          clear hp
                          have HN := Lib.hid ((HT2 k).out HKK.out hkl)
                          go_wp2
                          go_round
                          case rel => exact ⟨k + 1, HN, by omega, by go_num⟩
                          case measure => simp [intOf]; omega
                        · have e6 := (nb hp).1
                          have HK' := Lib.hid (HK.out.trans (scan_go hkl (isB_no hp)))
                          by_cases ht0 : t = 0
                          · by_cases hfc : f k = c
                            · have HT' : Hid (noted (isB 96) c n f (j + 1) 0 = noted (isB 96) c n f (k + 1) k) := Lib.hid (HTT.out.trans (by rw [ht0]; exact noted_new hkl (isB_no hp) hfc))
                              have e7 : ((t : Int) == 0) = true := by simp [ht0]
                              have e8 := (eb hfc).2
                              clear hp ht0 hfc
                              go_wp2
                              go_round
                              case rel => exact ⟨k + 1, k, HK', HT', by omega, by omega, by omega, by go_num, rfl⟩
                              case measure => simp [intOf]; omega
                            · have HT' : Hid (noted (isB 96) c n f (j + 1) 0 = noted (isB 96) c n f (k + 1) t) := Lib.hid (HTT.out.trans (noted_go hkl (isB_no hp) (.inr hfc)))
                              have e7 : ((t : Int) == 0) = true := by simp [ht0]
                              have e8 := (nb hfc).2
                              clear hp ht0 hfc
                              go_wp2
                              go_round
                              case rel => exact ⟨k + 1, t, HK', HT', by omega, by omega, by omega, by go_num, rfl⟩
                              case measure => simp [intOf]; omega
                          · have HT' : Hid (noted (isB 96) c n f (j + 1) 0 = noted (isB 96) c n f (k + 1) t) := Lib.hid (HTT.out.trans (noted_go hkl (isB_no hp) (.inl ht0)))
                            have e7 : ((t : Int) == 0) = false := by simp; omega
                            clear hp ht0
                            go_wp2
                            go_round
                            case rel => exact ⟨k + 1, t, HK', HT', by omega, by omega, by omega, by go_num, rfl⟩
                            case measure => simp [intOf]; omega
                      · have HKK := Lib.hid (HK.out.trans (scan_end (by omega)))
                        have HNN := Lib.hid (HTT.out.trans (noted_end (by omega)))
                        have HO := Lib.hid ((HT k t).out HKK.out HNN.out (by omega))
                        go_wp2
                        go_ret
                        exact ⟨t, rfl, HO, rfl⟩
              · have HL := fun (k t m : Nat) => Lib.hid (fe_link (k := k) (t := t) (m := m) HF.out hlt HST.out hjl HE.out h1 h2)
                obtain ⟨e1, e1'⟩ := nb h1
                obtain ⟨e2, e2'⟩ := nb h2
                obtain ⟨e3, e3'⟩ := eb h3
                clear h1 h2 h3
                rcases hne with h0 | ⟨h0, h92⟩
                · have e4 : ((j : Int) != 0) = false := by simp [h0]
                  clear h0 hcp
                  go_wp2
                  as_aux_lemma =>
                    go_loop [5, 7] (fun jv tv => ∃ k t : Nat, Hid (scan (isB 93) n f (j + 1) = scan (isB 93) n f k) ∧ Hid (noted (isB 93) c n f (j + 1) 0 = noted (isB 93) c n f k t) ∧ j + 1 ≤ k ∧ k ≤ n ∧ t ≤ n ∧ jv = .int .i64 k ∧ tv = .int .i64 t) (fun jv _ => n - (intOf jv).toNat)
                    case atStart => exact ⟨j + 1, 0, Lib.hid rfl, Lib.hid rfl, by omega, by omega, by omega, by go_num, rfl⟩
                    case round =>
                      obtain ⟨k, t, HK, HTT, hk1, hk2, ht, rfl, rfl⟩ := hrel
                      by_cases hkl : k < n
                      · have hck := HC.out k hkl
                        have hrk := HR.out k
                        by_cases hp : f k = 93
                        · have HKK := Lib.hid (HK.out.trans (scan_hit (isB_yes hp)))
                          have HNN := Lib.hid (HTT.out.trans (noted_hit (isB_yes hp)))
                          have e6 := (eb hp).1
                          clear hp
                          have HM := fun m => Lib.hid ((HL k t m).out HKK.out HNN.out)
                          go_wp2
                          as_aux_lemma =>
                            go_loop [5] (fun mv => ∃ m : Nat, Hid (scan noBlank n f (k + 1) = scan noBlank n f m) ∧ k + 1 ≤ m ∧ m ≤ n ∧ mv = .int .i64 m) (fun mv => n - (intOf mv).toNat)
                            case atStart => exact ⟨k + 1, Lib.hid rfl, by omega, by omega, by go_num⟩
                            case round =>
                              obtain ⟨m, HSM, hm1, hm2, rfl⟩ := hrel
                              by_cases hml : m < n
                              · have hcm := HC.out m hml
                                have hrm := HR.out m
                                by_cases h32 : f m = 32
                                · have HSM' := Lib.hid (HSM.out.trans (scan_go hml (by simp [noBlank, h32])))
                                  have e9 := (eb h32).2
                                  clear h32
                                  go_wp2
                                  go_round
                                  case rel => exact ⟨m + 1, HSM', by omega, by omega, by go_num⟩
                                  case measure => simp [intOf]; omega
                                · by_cases h10 : f m = 10
                                  · have HSM' := Lib.hid (HSM.out.trans (scan_go hml (by simp [noBlank, h10])))
                                    have e9 := (nb h32).2
                                    have e10 := (eb h10).2
                                    clear h32 h10
                                    go_wp2
                                    go_round
                                    case rel => exact ⟨m + 1, HSM', by omega, by omega, by go_num⟩
                                    case measure => simp [intOf]; omega
                                  · have HLE := Lib.hid ((HM m).out (HSM.out.trans (scan_hit (by simp [noBlank, h32, h10]))))
                                    have e9 := (nb h32).2
                                    have e10 := (nb h10).2
                                    clear h32 h10
                                    by_cases h91 : f m = 91
                                    · have H1 : Hid (f m = 91 ∨ f m = 40) := Lib.hid (.inl h91)
                                      have e14 := (eb h91).1
                                      clear h91
                                      go_wp2
                                      as_aux_lemma =>
                                        go_loop [5] (fun qv => ∃ q : Nat, Hid (scan (isB (f m)) n f (m + 1) = scan (isB (f m)) n f q) ∧ Hid (t = 0 → noted (isB (f m)) c n f (m + 1) 0 = noted (isB (f m)) c n f q 0) ∧ m + 1 ≤ q ∧ q ≤ n ∧ qv = .int .i64 q) (fun qv => n - (intOf qv).toNat)
                                        case atStart => exact ⟨m + 1, Lib.hid rfl, Lib.hid (fun _ => rfl), by omega, by omega, by go_num⟩
                                        case round =>
                                          obtain ⟨q, HQ, HTQ, hq1, hq2, rfl⟩ := hrel
                                          by_cases hql : q < n
                                          · have hcq := HC.out q hql
                                            have hrq := HR.out q
                                            by_cases hp : f q = f m
                                            · have HN := Lib.hid (le_shut HLE.out hml H1.out (fun hh => by have := HTQ.out hh.1; rw [noted_hit (isB_yes hp)] at this; omega) (HQ.out.trans (scan_hit (isB_yes hp))) hql)
                                              have e11 := (eb hp).1
                                              clear hp
                                              go_wp2
                                              go_round
                                              case rel => exact ⟨q + 1, HN, by omega, by go_num⟩
                                              case measure => simp [intOf]; omega
                                            · have e11 := (nb hp).1
                                              have HQ' := Lib.hid (HQ.out.trans (scan_go hql (isB_no hp)))
                                              by_cases ht0 : t = 0
                                              · by_cases hfc : f q = c
                                                · have HO := Lib.hid (le_second (s := q) HLE.out hml H1.out ht0 (by rw [HTQ.out ht0, noted_new hql (isB_no hp) hfc, noted_stay (by omega)]) (by omega))
                                                  have e12 : ((t : Int) == 0) = true := by simp [ht0]
                                                  have e13 := (eb hfc).2
                                                  clear hp ht0 hfc
                                                  go_wp2
                                                  go_ret
                                                  exact ⟨q, rfl, HO, rfl⟩
                                                · have HTQ' : Hid (t = 0 → noted (isB (f m)) c n f (m + 1) 0 = noted (isB (f m)) c n f (q + 1) 0) := Lib.hid (fun h0 => (HTQ.out h0).trans (noted_go hql (isB_no hp) (.inr hfc)))
                                                  have e12 : ((t : Int) == 0) = true := by simp [ht0]
                                                  have e13 := (nb hfc).2
                                                  clear hp ht0 hfc
                                                  go_wp2
                                                  go_round
                                                  case rel => exact ⟨q + 1, HQ', HTQ', by omega, by omega, by go_num⟩
                                                  case measure => simp [intOf]; omega
                                              · have HTQ' : Hid (t = 0 → noted (isB (f m)) c n f (m + 1) 0 = noted (isB (f m)) c n f (q + 1) 0) := Lib.hid (fun h0 => absurd h0 ht0)
                                                have e12 : ((t : Int) == 0) = false := by simp; omega
                                                clear hp ht0
                                                go_wp2
                                                go_round
                                                case rel => exact ⟨q + 1, HQ', HTQ', by omega, by omega, by go_num⟩
                                                case measure => simp [intOf]; omega
                                          · have HO := Lib.hid (le_open HLE.out hml H1.out (fun hh => by have := HTQ.out hh.1; rw [noted_end (i := q) (by omega)] at this; omega) (HQ.out.trans (scan_end (by omega))) (by omega))
                                            go_wp2
                                            go_ret
                                            exact ⟨t, rfl, HO, rfl⟩
                                    · by_cases h40 : f m = 40
                                      · have H1 : Hid (f m = 91 ∨ f m = 40) := Lib.hid (.inr h40)
                                        have e14 := (nb h91).1
                                        have e15 := (eb h40).1
                                        clear h91 h40
                                        go_wp2
                                        as_aux_lemma =>
                                          go_loop [5] (fun qv => ∃ q : Nat, Hid (scan (isB (f m)) n f (m + 1) = scan (isB (f m)) n f q) ∧ Hid (t = 0 → noted (isB (f m)) c n f (m + 1) 0 = noted (isB (f m)) c n f q 0) ∧ m + 1 ≤ q ∧ q ≤ n ∧ qv = .int .i64 q) (fun qv => n - (intOf qv).toNat)
                                          case atStart => exact ⟨m + 1, Lib.hid rfl, Lib.hid (fun _ => rfl), by omega, by omega, by go_num⟩
                                          case round =>
                                            obtain ⟨q, HQ, HTQ, hq1, hq2, rfl⟩ := hrel
                                            by_cases hql : q < n
                                            · have hcq := HC.out q hql
                                              have hrq := HR.out q
                                              by_cases hp : f q = f m
                                              · have HN := Lib.hid (le_shut HLE.out hml H1.out (fun hh => by have := HTQ.out hh.1; rw [noted_hit (isB_yes hp)] at this; omega) (HQ.out.trans (scan_hit (isB_yes hp))) hql)
                                                have e11 := (eb hp).1
                                                clear hp
                                                go_wp2
                                                go_round
                                                case rel => exact ⟨q + 1, HN, by omega, by go_num⟩
                                                case measure => simp [intOf]; omega
                                              · have e11 := (nb hp).1
                                                have HQ' := Lib.hid (HQ.out.trans (scan_go hql (isB_no hp)))
                                                by_cases ht0 : t = 0
                                                · by_cases hfc : f q = c
                                                  · have HO := Lib.hid (le_second (s := q) HLE.out hml H1.out ht0 (by rw [HTQ.out ht0, noted_new hql (isB_no hp) hfc, noted_stay (by omega)]) (by omega))
                                                    have e12 : ((t : Int) == 0) = true := by simp [ht0]
                                                    have e13 := (eb hfc).2
                                                    clear hp ht0 hfc
                                                    go_wp2
                                                    go_ret
                                                    exact ⟨q, rfl, HO, rfl⟩
                                                  · have HTQ' : Hid (t = 0 → noted (isB (f m)) c n f (m + 1) 0 = noted (isB (f m)) c n f (q + 1) 0) := Lib.hid (fun h0 => (HTQ.out h0).trans (noted_go hql (isB_no hp) (.inr hfc)))
                                                    have e12 : ((t : Int) == 0) = true := by simp [ht0]
                                                    have e13 := (nb hfc).2
                                                    clear hp ht0 hfc
                                                    go_wp2
                                                    go_round
                                                    case rel => exact ⟨q + 1, HQ', HTQ', by omega, by omega, by go_num⟩
                                                    case measure => simp [intOf]; omega
                                                · have HTQ' : Hid (t = 0 → noted (isB (f m)) c n f (m + 1) 0 = noted (isB (f m)) c n f (q + 1) 0) := Lib.hid (fun h0 => absurd h0 ht0)
                                                  have e12 : ((t : Int) == 0) = false := by simp; omega
                                                  clear hp ht0
                                                  go_wp2
                                                  go_round
                                                  case rel => exact ⟨q + 1, HQ', HTQ', by omega, by omega, by go_num⟩
                                                  case measure => simp [intOf]; omega
                                            · have HO := Lib.hid (le_open HLE.out hml H1.out (fun hh => by have := HTQ.out hh.1; rw [noted_end (i := q) (by omega)] at this; omega) (HQ.out.trans (scan_end (by omega))) (by omega))
                                              go_wp2
                                              go_ret
                                              exact ⟨t, rfl, HO, rfl⟩
                                      · have HP := fun h0 => Lib.hid (le_plain HLE.out hml h91 h40 h0)
                                        have HA := fun h0 => Lib.hid (le_again HLE.out hml h91 h40 h0)
                                        have e14 := (nb h91).1
                                        have e15 := (nb h40).1
                                        clear h91 h40
                                        by_cases ht0 : 0 < t
                                        · have HO := HP ht0
                                          clear HP HA
                                          go_wp2
                                          go_ret
                                          exact ⟨t, rfl, HO, rfl⟩
                                        · have HN := HA (by omega)
                                          clear HP HA
                                          go_wp2
                                          go_round
                                          case rel => exact ⟨m, HN, by omega, rfl⟩
                                          case measure => simp [intOf]; omega
                              · have HO := Lib.hid (le_over ((HM m).out (HSM.out.trans (scan_end (by omega)))) (by omega))
                                go_wp2
                                go_ret
                                exact ⟨t, rfl, HO, rfl⟩
                        · have e6 := (nb hp).1
                          have HK' := Lib.hid (HK.out.trans (scan_go hkl (isB_no hp)))
                          by_cases ht0 : t = 0
                          · by_cases hfc : f k = c
                            · have HT' : Hid (noted (isB 93) c n f (j + 1) 0 = noted (isB 93) c n f (k + 1) k) := Lib.hid (HTT.out.trans (by rw [ht0]; exact noted_new hkl (isB_no hp) hfc))
                              have e7 : ((t : Int) == 0) = true := by simp [ht0]
                              have e8 := (eb hfc).2
                              clear hp ht0 hfc
                              go_wp2
                              go_round
                              case rel => exact ⟨k + 1, k, HK', HT', by omega, by omega, by omega, by go_num, rfl⟩
                              case measure => simp [intOf]; omega
                            · have HT' : Hid (noted (isB 93) c n f (j + 1) 0 = noted (isB 93) c n f (k + 1) t) := Lib.hid (HTT.out.trans (noted_go hkl (isB_no hp) (.inr hfc)))
                              have e7 : ((t : Int) == 0) = true := by simp [ht0]
                              have e8 := (nb hfc).2
                              clear hp ht0 hfc
                              go_wp2
                              go_round
                              case rel => exact ⟨k + 1, t, HK', HT', by omega, by omega, by omega, by go_num, rfl⟩
                              case measure => simp [intOf]; omega
                          · have HT' : Hid (noted (isB 93) c n f (j + 1) 0 = noted (isB 93) c n f (k + 1) t) := Lib.hid (HTT.out.trans (noted_go hkl (isB_no hp) (.inl ht0)))
                            have e7 : ((t : Int) == 0) = false := by simp; omega
                            clear hp ht0
                            go_wp2
                            go_round
                            case rel => exact ⟨k + 1, t, HK', HT', by omega, by omega, by omega, by go_num, rfl⟩
                            case measure => simp [intOf]; omega
                      · have HKK := Lib.hid (HK.out.trans (scan_end (by omega)))
                        have HNN := Lib.hid (HTT.out.trans (noted_end (by omega)))
                        have HM := fun m => Lib.hid ((HL k t m).out HKK.out HNN.out)
                        have HO := Lib.hid (le_over ((HM (k + 1)).out (scan_end (by omega))) (by omega))
                        go_wp2
                        refine wp_loop_rounds 1 ?_
                        rw [rounds_succ]; go_wp2
                        go_ret
                        exact ⟨t, rfl, HO, rfl⟩
                · have e4 : ((j : Int) != 0) = true := by simp; omega
                  have hcp1 := hcp h0
                  have e5 := (nb h92).2
                  clear h92 hcp
                  go_wp2
                  as_aux_lemma =>
                    go_loop [5, 7] (fun jv tv => ∃ k t : Nat, Hid (scan (isB 93) n f (j + 1) = scan (isB 93) n f k) ∧ Hid (noted (isB 93) c n f (j + 1) 0 = noted (isB 93) c n f k t) ∧ j + 1 ≤ k ∧ k ≤ n ∧ t ≤ n ∧ jv = .int .i64 k ∧ tv = .int .i64 t) (fun jv _ => n - (intOf jv).toNat)
                    case atStart => exact ⟨j + 1, 0, Lib.hid rfl, Lib.hid rfl, by omega, by omega, by omega, by go_num, rfl⟩
                    case round =>
                      obtain ⟨k, t, HK, HTT, hk1, hk2, ht, rfl, rfl⟩ := hrel
                      by_cases hkl : k < n
                      · have hck := HC.out k hkl
                        have hrk := HR.out k
                        by_cases hp : f k = 93
                        · have HKK := Lib.hid (HK.out.trans (scan_hit (isB_yes hp)))
                          have HNN := Lib.hid (HTT.out.trans (noted_hit (isB_yes hp)))
                          have e6 := (eb hp).1
                          clear hp
                          have HM := fun m => Lib.hid ((HL k t m).out HKK.out HNN.out)
                          go_wp2
                          as_aux_lemma =>
                            go_loop [5] (fun mv => ∃ m : Nat, Hid (scan noBlank n f (k + 1) = scan noBlank n f m) ∧ k + 1 ≤ m ∧ m ≤ n ∧ mv = .int .i64 m) (fun mv => n - (intOf mv).toNat)
                            case atStart => exact ⟨k + 1, Lib.hid rfl, by omega, by omega, by go_num⟩
                            case round =>
                              obtain ⟨m, HSM, hm1, hm2, rfl⟩ := hrel
                              by_cases hml : m < n
                              · have hcm := HC.out m hml
                                have hrm := HR.out m
                                by_cases h32 : f m = 32
                                · have HSM' := Lib.hid (HSM.out.trans (scan_go hml (by simp [noBlank, h32])))
                                  have e9 := (eb h32).2
                                  clear h32
                                  go_wp2
                                  go_round
                                  case rel => exact ⟨m + 1, HSM', by omega, by omega, by go_num⟩
                                  case measure => simp [intOf]; omega
                                · by_cases h10 : f m = 10
                                  · have HSM' := Lib.hid (HSM.out.trans (scan_go hml (by simp [noBlank, h10])))
                                    have e9 := (nb h32).2
                                    have e10 := (eb h10).2
                                    clear h32 h10
                                    go_wp2
                                    go_round
                                    case rel => exact ⟨m + 1, HSM', by omega, by omega, by go_num⟩
                                    case measure => simp [intOf]; omega
                                  · have HLE := Lib.hid ((HM m).out (HSM.out.trans (scan_hit (by simp [noBlank, h32, h10]))))
                                    have e9 := (nb h32).2
                                    have e10 := (nb h10).2
                                    clear h32 h10
                                    by_cases h91 : f m = 91
                                    · have H1 : Hid (f m = 91 ∨ f m = 40) := Lib.hid (.inl h91)
                                      have e14 := (eb h91).1
                                      clear h91
                                      go_wp2
                                      as_aux_lemma =>
                                        go_loop [5] (fun qv => ∃ q : Nat, Hid (scan (isB (f m)) n f (m + 1) = scan (isB (f m)) n f q) ∧ Hid (t = 0 → noted (isB (f m)) c n f (m + 1) 0 = noted (isB (f m)) c n f q 0) ∧ m + 1 ≤ q ∧ q ≤ n ∧ qv = .int .i64 q) (fun qv => n - (intOf qv).toNat)
                                        case atStart => exact ⟨m + 1, Lib.hid rfl, Lib.hid (fun _ => rfl), by omega, by omega, by go_num⟩
                                        case round =>
                                          obtain ⟨q, HQ, HTQ, hq1, hq2, rfl⟩ := hrel
                                          by_cases hql : q < n
                                          · have hcq := HC.out q hql
                                            have hrq := HR.out q
                                            by_cases hp : f q = f m
                                            · have HN := Lib.hid (le_shut HLE.out hml H1.out (fun hh => by have := HTQ.out hh.1; rw [noted_hit (isB_yes hp)] at this; omega) (HQ.out.trans (scan_hit (isB_yes hp))) hql)
                                              have e11 := (eb hp).1
                                              clear hp
                                              go_wp2
                                              go_round
                                              case rel => exact ⟨q + 1, HN, by omega, by go_num⟩
                                              case measure => simp [intOf]; omega
                                            · have e11 := (nb hp).1
                                              have HQ' := Lib.hid (HQ.out.trans (scan_go hql (isB_no hp)))
                                              by_cases ht0 : t = 0
                                              · by_cases hfc : f q = c
                                                · have HO := Lib.hid (le_second (s := q) HLE.out hml H1.out ht0 (by rw [HTQ.out ht0, noted_new hql (isB_no hp) hfc, noted_stay (by omega)]) (by omega))
                                                  have e12 : ((t : Int) == 0) = true := by simp [ht0]
                                                  have e13 := (eb hfc).2
                                                  clear hp ht0 hfc
                                                  go_wp2
                                                  go_ret
                                                  exact ⟨q, rfl, HO, rfl⟩
                                                · have HTQ' : Hid (t = 0 → noted (isB (f m)) c n f (m + 1) 0 = noted (isB (f m)) c n f (q + 1) 0) := Lib.hid (fun h0 => (HTQ.out h0).trans (noted_go hql (isB_no hp) (.inr hfc)))
                                                  have e12 : ((t : Int) == 0) = true := by simp [ht0]
                                                  have e13 := (nb hfc).2
                                                  clear hp ht0 hfc
                                                  go_wp2
                                                  go_round
                                                  case rel => exact ⟨q + 1, HQ', HTQ', by omega, by omega, by go_num⟩
                                                  case measure => simp [intOf]; omega
                                              · have HTQ' : Hid (t = 0 → noted (isB (f m)) c n f (m + 1) 0 = noted (isB (f m)) c n f (q + 1) 0) := Lib.hid (fun h0 => absurd h0 ht0)
                                                have e12 : ((t : Int) == 0) = false := by simp; omega
                                                clear hp ht0
                                                go_wp2
                                                go_round
                                                case rel => exact ⟨q + 1, HQ', HTQ', by omega, by omega, by go_num⟩
                                                case measure => simp [intOf]; omega
                                          · have HO := Lib.hid (le_open HLE.out hml H1.out (fun hh => by have := HTQ.out hh.1; rw [noted_end (i := q) (by omega)] at this; omega) (HQ.out.trans (scan_end (by omega))) (by omega))
                                            go_wp2
                                            go_ret
                                            exact ⟨t, rfl, HO, rfl⟩
                                    · by_cases h40 : f m = 40
                                      · have H1 : Hid (f m = 91 ∨ f m = 40) := Lib.hid (.inr h40)
                                        have e14 := (nb h91).1
                                        have e15 := (eb h40).1
                                        clear h91 h40
                                        go_wp2
                                        as_aux_lemma =>
                                          go_loop [5] (fun qv => ∃ q : Nat, Hid (scan (isB (f m)) n f (m + 1) = scan (isB (f m)) n f q) ∧ Hid (t = 0 → noted (isB (f m)) c n f (m + 1) 0 = noted (isB (f m)) c n f q 0) ∧ m + 1 ≤ q ∧ q ≤ n ∧ qv = .int .i64 q) (fun qv => n - (intOf qv).toNat)
                                          case atStart => exact ⟨m + 1, Lib.hid rfl, Lib.hid (fun _ => rfl), by omega, by omega, by go_num⟩
                                          case round =>
                                            obtain ⟨q, HQ, HTQ, hq1, hq2, rfl⟩ := hrel
                                            by_cases hql : q < n
                                            · have hcq := HC.out q hql
                                              have hrq := HR.out q
                                              by_cases hp : f q = f m
                                              · have HN := Lib.hid (le_shut HLE.out hml H1.out (fun hh => by have := HTQ.out hh.1; rw [noted_hit (isB_yes hp)] at this; omega) (HQ.out.trans (scan_hit (isB_yes hp))) hql)
                                                have e11 := (eb hp).1
                                                clear hp
                                                go_wp2
                                                go_round
                                                case rel => exact ⟨q + 1, HN, by omega, by go_num⟩
                                                case measure => simp [intOf]; omega
                                              · have e11 := (nb hp).1
                                                have HQ' := Lib.hid (HQ.out.trans (scan_go hql (isB_no hp)))
                                                by_cases ht0 : t = 0
                                                · by_cases hfc : f q = c
                                                  · have HO := Lib.hid (le_second (s := q) HLE.out hml H1.out ht0 (by rw [HTQ.out ht0, noted_new hql (isB_no hp) hfc, noted_stay (by omega)]) (by omega))
                                                    have e12 : ((t : Int) == 0) = true := by simp [ht0]
                                                    have e13 := (eb hfc).2
                                                    clear hp ht0 hfc
                                                    go_wp2
                                                    go_ret
                                                    exact ⟨q, rfl, HO, rfl⟩
                                                  · have HTQ' : Hid (t = 0 → noted (isB (f m)) c n f (m + 1) 0 = noted (isB (f m)) c n f (q + 1) 0) := Lib.hid (fun h0 => (HTQ.out h0).trans (noted_go hql (isB_no hp) (.inr hfc)))
                                                    have e12 : ((t : Int) == 0) = true := by simp [ht0]
                                                    have e13 := (nb hfc).2
                                                    clear hp ht0 hfc
                                                    go_wp2
                                                    go_round
                                                    case rel => exact ⟨q + 1, HQ', HTQ', by omega, by omega, by go_num⟩
                                                    case measure => simp [intOf]; omega
                                                · have HTQ' : Hid (t = 0 → noted (isB (f m)) c n f (m + 1) 0 = noted (isB (f m)) c n f (q + 1) 0) := Lib.hid (fun h0 => absurd h0 ht0)
                                                  have e12 : ((t : Int) == 0) = false := by simp; omega
                                                  clear hp ht0
                                                  go_wp2
                                                  go_round
                                                  case rel => exact ⟨q + 1, HQ', HTQ', by omega, by omega, by go_num⟩
                                                  case measure => simp [intOf]; omega
                                            · have HO := Lib.hid (le_open HLE.out hml H1.out (fun hh => by have := HTQ.out hh.1; rw [noted_end (i := q) (by omega)] at this; omega) (HQ.out.trans (scan_end (by omega))) (by omega))
                                              go_wp2
                                              go_ret
                                              exact ⟨t, rfl, HO, rfl⟩
                                      · have HP := fun h0 => Lib.hid (le_plain HLE.out hml h91 h40 h0)
                                        have HA := fun h0 => Lib.hid (le_again HLE.out hml h91 h40 h0)
                                        have e14 := (nb h91).1
                                        have e15 := (nb h40).1
                                        clear h91 h40
                                        by_cases ht0 : 0 < t
                                        · have HO := HP ht0
                                          clear HP HA
                                          go_wp2
                                          go_ret
                                          exact ⟨t, rfl, HO, rfl⟩
                                        · have HN := HA (by omega)
                                          clear HP HA
                                          go_wp2
                                          go_round
                                          case rel => exact ⟨m, HN, by omega, rfl⟩
                                          case measure => simp [intOf]; omega
                              · have HO := Lib.hid (le_over ((HM m).out (HSM.out.trans (scan_end (by omega)))) (by omega))
                                go_wp2
                                go_ret
                                exact ⟨t, rfl, HO, rfl⟩
                        · have e6 := (nb hp).1
                          have HK' := Lib.hid (HK.out.trans (scan_go hkl (isB_no hp)))
                          by_cases ht0 : t = 0
                          · by_cases hfc : f k = c
                            · have HT' : Hid (noted (isB 93) c n f (j + 1) 0 = noted (isB 93) c n f (k + 1) k) := Lib.hid (HTT.out.trans (by rw [ht0]; exact noted_new hkl (isB_no hp) hfc))
                              have e7 : ((t : Int) == 0) = true := by simp [ht0]
                              have e8 := (eb hfc).2
                              clear hp ht0 hfc
                              go_wp2
                              go_round
                              case rel => exact ⟨k + 1, k, HK', HT', by omega, by omega, by omega, by go_num, rfl⟩
                              case measure => simp [intOf]; omega
                            · have HT' : Hid (noted (isB 93) c n f (j + 1) 0 = noted (isB 93) c n f (k + 1) t) := Lib.hid (HTT.out.trans (noted_go hkl (isB_no hp) (.inr hfc)))
                              have e7 : ((t : Int) == 0) = true := by simp [ht0]
                              have e8 := (nb hfc).2
                              clear hp ht0 hfc
                              go_wp2
                              go_round
                              case rel => exact ⟨k + 1, t, HK', HT', by omega, by omega, by omega, by go_num, rfl⟩
                              case measure => simp [intOf]; omega
                          · have HT' : Hid (noted (isB 93) c n f (j + 1) 0 = noted (isB 93) c n f (k + 1) t) := Lib.hid (HTT.out.trans (noted_go hkl (isB_no hp) (.inl ht0)))
                            have e7 : ((t : Int) == 0) = false := by simp; omega
                            clear hp ht0
                            go_wp2
                            go_round
                            case rel => exact ⟨k + 1, t, HK', HT', by omega, by omega, by omega, by go_num, rfl⟩
                            case measure => simp [intOf]; omega
                      · have HKK := Lib.hid (HK.out.trans (scan_end (by omega)))
                        have HNN := Lib.hid (HTT.out.trans (noted_end (by omega)))
                        have HM := fun m => Lib.hid ((HL k t m).out HKK.out HNN.out)
                        have HO := Lib.hid (le_over ((HM (k + 1)).out (scan_end (by omega))) (by omega))
                        go_wp2
                        refine wp_loop_rounds 1 ?_
                        rw [rounds_succ]; go_wp2
                        go_ret
                        exact ⟨t, rfl, HO, rfl⟩
          · have hne : f j ≠ c ∧ f j ≠ 96 ∧ f j ≠ 91 := by simpa [stopsE] using hs
            have HN : Hid (scan (stopsE c) n f i = scan (stopsE c) n f (j + 1)) := Lib.hid (HS.out.trans (scan_go hjl (by simpa using hs)))
            have e1 := (nb hne.1).1; have e2 := (nb hne.2.1).1; have e3 := (nb hne.2.2).1
            clear hs hne
            go_wp2
            go_round
            case rel => exact ⟨j + 1, HN, by omega, by omega, by go_num⟩
            case measure => simp [intOf]; omega
        · have HO := Lib.hid (fe_none HF.out hlt (HS.out.trans (scan_end (by omega))) (by omega))
          go_wp2
          go_ret
          exact ⟨0, rfl, HO, rfl⟩
    · have HO := Lib.hid (fe_over HF.out (by omega))
      go_wp2
      go_ret
      exact ⟨0, rfl, HO, rfl⟩
end Go.Proofs.Ytkkkdcfidoecnaa
