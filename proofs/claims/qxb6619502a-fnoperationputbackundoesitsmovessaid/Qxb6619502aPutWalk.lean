/-
  The law FnOperationPutBackUndoesItsMoves: the walk.
-/
import Derived.Test.Qxb6619502aMapStep
import Derived.Deep.QuietTactic
import Derived.BigQuiet
import Derived.RegionTactic
import Derived.BigRegion
namespace Go.Proofs.Qxb6619502a
open Go.RowKit

set_option maxRecDepth 100000 in
set_option maxHeartbeats 4000000 in
theorem main5 (trunk tf : ByteArray) (mh mr : Option Nat) (am ar : Option Addr) (cm cr : Nat) (M : List Mv) (R : List ByteArray) (Lh Lr : List (ByteArray × ByteArray)) (w : World)
    (hM : IsMvs w am M) (hnil : am = none → M = [] ∧ cm = 0) (hR : IsStrs w ar R) (hh : IsMap w mh Lh) (hr : IsMap w mr Lr)
    (z1 : trunk.size ≤ maxLen) (z2 : tf.size ≤ maxLen) (zm : ∀ m ∈ M, m.name.size ≤ maxLen ∧ m.parent.size ≤ maxLen ∧ m.base.size ≤ maxLen ∧ m.head.size ≤ maxLen ∧ m.onto.size ≤ maxLen) (zr : ∀ r ∈ R, r.size ≤ maxLen) :
    Calls Try.prog 5 #[.string trunk, .map mh, .map mr, .slice am M.length cm, .string tf, .slice ar R.length cr] w fun e w' => e = .returned (.bool true) ∧ Below w.heap.size w w' := by
  have HM : Hid (IsMvs w am M) := hM
  have HRS : Hid (IsStrs w ar R) := hR
  have HR : Hid (IsMap w mr Lr) := hr
  have HH : Hid (IsMap w mh Lh) := hh
  have e1 := hh.len 3
  have e2 := hr.len 3
  have HNIL : Hid (am = none → M = [] ∧ cm = 0) := hnil
  have Z : Hid (trunk.size ≤ maxLen ∧ tf.size ≤ maxLen ∧ (∀ m ∈ M, m.name.size ≤ maxLen ∧ m.parent.size ≤ maxLen ∧ m.base.size ≤ maxLen ∧ m.head.size ≤ maxLen ∧ m.onto.size ≤ maxLen) ∧ ∀ r ∈ R, r.size ≤ maxLen) := ⟨z1, z2, zm, zr⟩
  clear hM hR hr hh hnil z1 z2 zm zr
  by_cases g1 : Lh.length ≤ 4096
  · by_cases g2 : Lr.length ≤ 4096
    · by_cases g3 : M.length ≤ 4096
      · by_cases g4 : R.length ≤ 4096
        · go_enter Try.func5, Try.ntmps5
          go_wp2_with fail
          refine (bytes14 trunk tf am ar cm cr M R w HM.out HRS.out g3 g4 Z.out.1 Z.out.2.1 Z.out.2.2.1 Z.out.2.2.2).mono ?_
          rintro e w1 ⟨⟨r, rfl, r0, r1, hshort⟩, hb1⟩
          have HB1 : Hid (Below w.heap.size w w1) := hb1
          clear hb1 Z
          by_cases hr0 : r < 0
          · go_wp2
            go_ret
            exact ⟨rfl, HB1.out⟩
          · have HS : Hid (Short trunk tf M R) := hshort (by omega)
            clear hshort
            go_wp2_with fail
            refine (names15 trunk am ar cm cr M R w1 (HM.out.below HB1.out) (HRS.out.below HB1.out) g3 g4).mono ?_
            rintro e w2 ⟨rfl, hn2, hb2⟩
            have HN2 : Hid (Strs w2 w1.heap.size 0 (namesOf trunk M R)) := hn2
            have HB2 : Hid (Below w.heap.size w w2) := HB1.out.trans (hb2.mono HB1.out.size)
            have hnl : (namesOf trunk M R).length = M.length + 1 + R.length := by unfold namesOf; simp; omega
            have hNB : w1.heap.size < w2.heap.size := hn2.lt (by rw [hnl]; omega)
            clear hn2 hb2 HB1
            generalize w1.heap.size = NB at *
            have g5 : M.length + 1 + R.length ≤ 8193 := by omega
            generalize hN : M.length + 1 + R.length = N at *
            have HN : Hid (M.length + 1 + R.length = N) := hN
            have HNL : Hid ((namesOf trunk M R).length = N) := hnl
            clear hnl hN
            go_wp2_with fail
            refine (distinct16 NB _ _ (namesOf trunk M R) w2 HN2.out HNL.out (by omega)).mono ?_
            rintro e w3 ⟨⟨bd, rfl, hd⟩, hb3⟩
            have HB3 : Hid (Below w.heap.size w w3) := HB2.out.trans (hb3.mono HB2.out.size)
            have HN3 : Hid (Strs w3 NB 0 (namesOf trunk M R)) := HN2.out.below hb3 hNB
            have hNB3 : NB < w3.heap.size := by have := hb3.size; omega
            clear HB2 HN2 hNB hb3
            cases bd with
            | false =>
              clear hd
              go_wp2
              go_ret
              exact ⟨rfl, HB3.out⟩
            | true =>
              have HD : Hid (Distinct (namesOf trunk M R)) := hd rfl
              clear hd
              go_wp2_with fail
              refine (moves17 am cm M w3 (HM.out.below HB3.out) HNIL.out g3).mono ?_
              rintro e w4 ⟨a4, rfl, hm4, hb4⟩
              have HB4 : Hid (Below w.heap.size w w4) := HB3.out.trans (hb4.mono HB3.out.size)
              have HN4 : Hid (Strs w4 NB 0 (namesOf trunk M R)) := HN3.out.below hb4 hNB3
              have hNB4 : NB < w4.heap.size := by have := hb4.size; omega
              have HM4 : Hid (IsMvs w4 a4 M ∧ (a4 = none → M = [])) := by
                rcases hm4 with ⟨rfl, rfl⟩ | ⟨g, rfl, _, hrow⟩
                · exact ⟨.inl rfl, fun _ => rfl⟩
                · exact ⟨IsMvs.of_row hrow, fun h => by cases h⟩
              clear HB3 HN3 hNB3 hb4 hm4
              go_wp2_with fail
              refine (put18 mr mh a4 ar cr tf trunk M R Lr Lh w4 HM4.out.1 HM4.out.2 (HRS.out.below HB4.out) (HR.out.below HB4.out HR.out.lt) (HH.out.below HB4.out HH.out.lt) g3 g4 HS.out).mono ?_
              rintro e w5 ⟨v, rfl, ho, hb5⟩
              have HB5 : Hid (Below w.heap.size w w5) := HB4.out.trans (hb5.mono HB4.out.size)
              have HN5 : Hid (Strs w5 NB 0 (namesOf trunk M R)) := HN4.out.below hb5 hNB4
              have hNB5 : NB < w5.heap.size := by have := hb5.size; omega
              have HM5 : Hid (IsMvs w5 a4 M ∧ (a4 = none → M = [])) := ⟨HM4.out.1.below hb5, HM4.out.2⟩
              obtain ⟨ga, gc, rfl, hg⟩ := GotAt.of_own ho
              have HG5 : Hid (GotAt w5 ga (allU (get Lh) (get Lr) tf trunk M R)) := hg
              have hul : (allU (get Lh) (get Lr) tf trunk M R).length ≤ 8193 := by
                unfold allU
                rw [List.length_append, List.length_append]
                have q1 := rbU_length (get Lh) (get Lr) M
                have q2 := trU_length (get Lh) (get Lr) tf trunk
                have q3 := rmU_length (get Lh) (get Lr) R
                omega
              clear HB4 HN4 hNB4 HM4 hb5 ho hg
              obtain ⟨i0, hi, hz0, hz1, hz2⟩ := info_parts Try.info9
              have hmake := run_make (P := Try.prog) w5 40 9 i0 _ Try.underlying40 hi hz0 .i64 .i64 (N : Int) (N : Int) (by omega) (by omega) (by rw [hz2]; omega) (by omega)
              rw [hz1, Int.toNat_natCast, Nat.mul_one] at hmake
              have HC0 := size_madeCells (Value.string ⟨#[]⟩).cells N
              generalize madeCells _ N = C at hmake HC0
              have HV0 : Hid (Vals w5 (w5.alloc (.cells C 9)) w5.heap.size N ((namesOf trunk M R).map (get Lh) |>.take 0)) := ⟨fun j hj => by simp at hj, Room.made w5 C 9 N HC0, below_alloc w5 _⟩
              clear HC0 hz0 hz1 hz2 hi
              go_upto_block 0 with fail
              clear hmake
              generalize w5.alloc (.cells C 9) = w6 at *
              have HVB : Hid (w5.heap.size = w5.heap.size) := rfl
              generalize hVB : w5.heap.size = VB at *
              clear HVB
              have HVB : Hid (w5.heap.size = VB) := hVB
              clear hVB
              go_cut [17] (fun i wx => Hid (Vals w5 wx VB N ((namesOf trunk M R).map (get Lh))))
              case first => as_aux_lemma =>
                go_wp2_with fail
                go_loopw [17] (fun i wr => ∃ j : Nat, j ≤ N ∧ i = .int .i64 j ∧ Hid (Vals w5 wr VB N (((namesOf trunk M R).map (get Lh)).take j))) (fun i _ => N - (intOf i).toNat)
                case atStart => exact ⟨0, Nat.zero_le _, rfl, HV0⟩
                case round =>
                  obtain ⟨j, hj, rfl, hV⟩ := hrel
                  clear HV0
                  have hml : ((namesOf trunk M R).map (get Lh)).length = N := by rw [List.length_map]; exact HNL.out
                  have HML : Hid (((namesOf trunk M R).map (get Lh)).length = N) := hml
                  clear hml
                  by_cases hlt : j < N
                  · have hjn : j < (namesOf trunk M R).length := by rw [HNL.out]; exact hlt
                    have c0 := (HN5.out.below hV.out.2.2 hNB5) j hjn
                    rw [Nat.zero_add] at c0
                    have hbw : Hid (Below w.heap.size w wr) := HB5.out.trans (hV.out.2.2.mono (by have := HB5.out.size; have := HVB.out; omega))
                    have l1 := (HH.out.below hbw.out HH.out.lt).look ((namesOf trunk M R)[j]'hjn)
                    obtain ⟨u0, d0⟩ := hV.out.2.1.cell j hlt
                    have f0 := hV.out.2.1.free j hlt
                    have HP := Vals.push (i := j) (by rw [HML.out]; exact hlt) hV.out (by rw [HML.out]; exact Nat.le_refl _)
                    rw [List.getElem_map] at HP
                    have HP2 : Hid (Vals w5 (wr.setCell ⟨VB, j, none⟩ (.string (get Lh ((namesOf trunk M R)[j]'hjn)))) VB N (((namesOf trunk M R).map (get Lh)).take (j + 1))) := HP
                    clear HP hV
                    go_wp2
                    go_roundw
                    case rel => exact ⟨j + 1, by omega, by go_num, HP2⟩
                    case measure => simp [intOf]; omega
                  · have HF : Hid (Vals w5 wr VB N ((namesOf trunk M R).map (get Lh))) := by
                      have := hV.out
                      rwa [List.take_of_length_le (by rw [HML.out]; omega)] at this
                    clear hV
                    go_wp2
                    go_meet
                    case rel => exact HF
              case rest => as_aux_lemma =>
                have HV : Hid (Vals w5 wc VB N ((namesOf trunk M R).map (get Lh))) := hcut
                clear hcut HV0
                have hE1 := ents_names (get Lh) (get Lr) tf trunk M R
                have hE2 := ents_calm (get Lh) (get Lr) tf trunk M R
                have hE3 := allU_ents (get Lh) (get Lr) tf trunk M R
                generalize hE : ents (get Lh) (get Lr) tf trunk M R = E at *
                have HE : Hid (ents (get Lh) (get Lr) tf trunk M R = E) := hE
                have HE1 : Hid (E.map (·.name) = namesOf trunk M R) := hE1
                have HE2 : Hid (∀ e ∈ E, Calm (get Lh) e) := hE2
                clear hE hE1 hE2
                generalize allU (get Lh) (get Lr) tf trunk M R = U at *
                have HU : Hid (U = E.flatMap (entU (get Lh))) := hE3
                clear hE3
                have HEN : Hid (E.length = N) := by have := congrArg List.length HE1.out; rw [List.length_map, HNL.out] at this; exact this
                have HNS : Hid (∀ j (h : j < (namesOf trunk M R).length), ((namesOf trunk M R)[j]'h).size ≤ 1048576) := by
                  intro j h
                  have hm := List.getElem_mem h
                  generalize (namesOf trunk M R)[j]'h = s at hm
                  unfold namesOf at hm
                  rw [List.mem_append, List.mem_append] at hm
                  rcases hm with (hm | hm) | hm
                  · obtain ⟨m, h1, rfl⟩ := List.mem_map.1 hm; exact HS.out.2.2.1 m h1
                  · rw [List.mem_singleton.1 hm]; exact HS.out.1
                  · exact HS.out.2.2.2 s hm
                generalize hNm : namesOf trunk M R = names at *
                have HNm : Hid (namesOf trunk M R = names) := hNm
                clear hNm
                go_upto_block 2 with fail
                go_cut [18, 19, 20] (fun _ _ _ wx => Hid (Vals w5 wx VB N (E.map (·.want))))
                case first => as_aux_lemma =>
                  go_wp2_with fail
                  go_loopw [18, 19, 20] (fun i _ _ wr => ∃ (k : Nat) (A B : List Ent), k ≤ U.length ∧ i = .int .i64 k ∧ Hid (E = A ++ B) ∧ Hid ((A.flatMap (entU (get Lh))).length = k) ∧ Hid (Vals w5 wr VB N (valsOf (get Lh) A B))) (fun i _ _ _ => U.length - (intOf i).toNat)
                  case atStart => exact ⟨0, [], E, Nat.zero_le _, rfl, rfl, rfl, by rw [valsOf_start (get Lh) E names HE1.out]; exact HV⟩
                  case round =>
                    obtain ⟨k, A, B, hk, rfl, hAB, hkk, hV⟩ := hrel
                    clear HV
                    by_cases hlt : k < U.length
                    · obtain ⟨A', en, b, s1, s2, s3, s4⟩ := step_upd (get Lh) E A B U hAB.out HE2.out HU.out (by rw [hkk.out]; exact hlt)
                      obtain ⟨t1, t2, t3⟩ := at_upd (get Lh) A' b en
                      obtain ⟨p1, p2, p3⟩ := place_upd HE1.out s1 HD.out.pairwise
                      have hat : A'.length < N := by rw [HNL.out] at p1; exact p1
                      have HU2 : Hid (U[k]'hlt = ⟨ref en.name, en.want, get Lh en.name⟩) := by
                        have := s2
                        simp only [hkk.out] at this
                        exact this
                      have HS1 : Hid (E = A' ++ en :: b) := s1
                      have HS4 : Hid (((A' ++ [en]).flatMap (entU (get Lh))).length = k + 1) := by rw [s4, hkk.out]; rfl
                      have HV2 : Hid (Vals w5 wr VB N (valsOf (get Lh) A' (en :: b))) := by rw [← s3]; exact hV
                      have HT : Hid (∃ h : A'.length < (valsOf (get Lh) A' (en :: b)).length, (valsOf (get Lh) A' (en :: b))[A'.length]'h = get Lh en.name ∧ valsOf (get Lh) (A' ++ [en]) b = (valsOf (get Lh) A' (en :: b)).set A'.length en.want) := ⟨t1, t2, t3⟩
                      have HPL : Hid (∃ h : A'.length < names.length, names[A'.length]'h = en.name ∧ ∀ j (hj : j < names.length), j < A'.length → names[j]'hj ≠ en.name) := ⟨p1, p2, p3⟩
                      clear s1 s2 s3 s4 t1 t2 t3 p1 p2 p3 hV hAB hkk
                      generalize hat' : A'.length = at_ at *
                      have HAT : Hid (A'.length = at_) := hat'
                      clear hat'
                      go_upto_block 4 with fail
                      go_cut [19, 20] (fun p _ wx => p = .int .i64 (at_ : Int) ∧ Hid (Vals w5 wx VB N (valsOf (get Lh) A' (en :: b))))
                      case first => as_aux_lemma =>
                        go_wp2_with fail
                        go_loopw [19, 20] (fun p i ws => p = .int .i64 (-1) ∧ ∃ j : Nat, j ≤ at_ ∧ i = .int .i64 j ∧ Hid (Vals w5 ws VB N (valsOf (get Lh) A' (en :: b)))) (fun _ i _ => N - (intOf i).toNat)
                        case atStart => exact ⟨rfl, 0, Nat.zero_le _, rfl, HV2⟩
                        case round =>
                          obtain ⟨rfl, j, hj, rfl, hV⟩ := hrel
                          clear HV2
                          have hjN : j < N := by omega
                          have hjn : j < names.length := by rw [HNL.out]; exact hjN
                          have c0 := (HN5.out.below hV.out.2.2 hNB5) j hjn
                          rw [Nat.zero_add] at c0
                          have zz := HNS.out j hjn
                          obtain ⟨g, rfl, u0, -, -⟩ := (HG5.out.below (by rw [HVB.out]; exact hV.out.2.2)).at k hlt
                          rw [HU2.out] at u0
                          have hi0 : (0 : Int) ≤ (j : Int) := by omega
                          have hi1 : (j : Int) < (N : Int) := by omega
                          have hk0 : (0 : Int) ≤ (k : Int) := by omega
                          have hk1 : (k : Int) < (U.length : Int) := by omega
                          by_cases hja : j = at_
                          · have HJ : Hid (j = at_) := hja
                            have hre : ((ref en.name).toList == (({ data := #[114, 101, 102, 115, 47, 104, 101, 97, 100, 115, 47] } : ByteArray) ++ names[j]'hjn).toList) = true := by
                              obtain ⟨q1, q2, q3⟩ := HPL.out
                              subst hja
                              rw [q2]
                              exact beq_self_eq_true _
                            clear hja
                            go_wp2_with fail
                            go_quiet (fail)
                            go_wp2
                            go_meet
                            case rel => exact ⟨by rw [HJ.out], hV.out.drewN _⟩
                          · have hre : ((ref en.name).toList == (({ data := #[114, 101, 102, 115, 47, 104, 101, 97, 100, 115, 47] } : ByteArray) ++ names[j]'hjn).toList) = false := by
                              obtain ⟨q1, q2, q3⟩ := HPL.out
                              exact ref_ne (q3 j hjn (by omega)).symm
                            have hja2 : j < at_ := by omega
                            clear hja
                            go_wp2_with fail
                            go_quiet (fail)
                            go_wp2
                            go_roundw
                            case rel => exact ⟨rfl, j + 1, by omega, by go_num, hV.out.drewN _⟩
                            case measure => simp [intOf]; omega
                      case rest => as_aux_lemma =>
                        obtain ⟨rfl, hV3⟩ := hcut
                        clear HV2
                        obtain ⟨q1, q2, q3⟩ := HT.out
                        have c0 := hV3.out.at at_ _ (by rw [List.getElem?_eq_getElem q1, q2])
                        have f0 := hV3.out.2.1.free at_ hat
                        obtain ⟨g, rfl, -, u1, u2⟩ := (HG5.out.below (by rw [HVB.out]; exact hV3.out.2.2)).at k hlt
                        rw [HU2.out] at u1 u2
                        have HSET : Hid (∀ n, Vals w5 ((wc.drewN n).setCell ⟨VB, at_, none⟩ (.string en.want)) VB N (valsOf (get Lh) (A' ++ [en]) b)) := by
                          intro n
                          refine (hV3.out.drewN n).set at_ q1 en.want _ q3 ?_
                          rw [valsOf_length, ← HS1.out, HEN.out]
                          exact Nat.le_refl _
                        have hi0 : (0 : Int) ≤ (at_ : Int) := by omega
                        have hi1 : (at_ : Int) < (N : Int) := by omega
                        have hk0 : (0 : Int) ≤ (k : Int) := by omega
                        have hk1 : (k : Int) < (U.length : Int) := by omega
                        have hse : ((get Lh en.name).toList == (get Lh en.name).toList) = true := beq_self_eq_true _
                        clear q1 q2 q3 hV3
                        go_wp2_with fail
                        go_quiet (fail)
                        have HSET2 : Hid (Vals w5 ((wc.drewN nq).setCell ⟨VB, at_, none⟩ (.string en.want)) VB N (valsOf (get Lh) (A' ++ [en]) b)) := HSET.out nq
                        have c1 : (wc.drewN nq).cell? ⟨VB, at_, none⟩ = some (.string (get Lh en.name)) := c0
                        have f1 : (wc.drewN nq).frozen? ⟨VB, at_, none⟩ = false := f0
                        have u3 : (wc.drewN nq).cell? ⟨g, k * 3 + 1, none⟩ = some (.string en.want) := u1
                        clear c0 f0 u1 u2 HSET
                        generalize wc.drewN nq = w7 at *
                        go_wp2
                        go_roundw
                        case rel => exact ⟨k + 1, A' ++ [en], b, by omega, by go_num, by rw [HS1.out]; simp [Hid], HS4, HSET2⟩
                        case measure => simp [intOf]; omega
                    · have HF : Hid (Vals w5 wr VB N (E.map (·.want))) := by
                        rw [← last_upd (get Lh) E A B U hAB.out HE2.out HU.out (by rw [hkk.out]; exact hlt)]
                        exact hV
                      clear hV
                      go_wp2
                      go_meet
                      case rel => exact HF
                case rest => as_aux_lemma =>
                  have HV3 : Hid (Vals w5 wc VB N (E.map (·.want))) := hcut
                  clear hcut HV
                  obtain ⟨wd, hwd⟩ : ∃ wd, wd = wc := ⟨_, rfl⟩
                  subst hwd
                  have HBd : Hid (Below w.heap.size w wd) := HB5.out.trans (HV3.out.2.2.mono (by have := HB5.out.size; have := HVB.out; omega))
                  have HLh : Hid (∀ s, (Instr.lookup 38 (.map mh) (.string s) false).run Try.prog wd = .ok (.string (get Lh s)) wd) := fun s => (HH.out.below HBd.out HH.out.lt).look s
                  have HLr : Hid (∀ s, (Instr.lookup 38 (.map mr) (.string s) false).run Try.prog wd = .ok (.string (get Lr s)) wd) := fun s => (HR.out.below HBd.out HR.out.lt).look s
                  go_upto_block 6 with fail
                  go_cut [21, 22] (fun _ _ wx => wx = wd)
                  case first => as_aux_lemma =>
                    go_wp2_with fail
                    go_loop [21, 22] (fun i _ => ∃ j : Nat, j ≤ M.length ∧ i = .int .i64 j) (fun i _ => M.length - (intOf i).toNat)
                    case atStart => exact ⟨0, Nat.zero_le _, rfl⟩
                    case round =>
                      obtain ⟨j, hj, rfl⟩ := hrel
                      by_cases hlt : j < M.length
                      · obtain ⟨b, off, rfl, hmv⟩ : ∃ b off, am = some ⟨b, off, none⟩ ∧ Mvs wd b off M := by
                          rcases HM.out.below HBd.out with h | h
                          · rw [h] at hlt; simp at hlt
                          · exact h
                        obtain ⟨c0, -, -, c3, -⟩ := hmv j hlt
                        have hw := want_mv (get Lh) (get Lr) tf trunk M R j hlt
                        rw [HE.out] at hw
                        have v0 := HV3.out.at j _ hw
                        clear hmv hw
                        generalize (M[j]'hlt) = m at *
                        have l1 := HLh.out m.name
                        have l2 := HLr.out m.name
                        have hjN : (j : Int) < (N : Int) := by have := HN.out; omega
                        cases hq : ((get Lh m.name).toList == (get Lr m.name).toList) with
                        | true =>
                          have v1 : wd.cell? ⟨VB, j, none⟩ = some (.string m.head) := by
                            rw [v0]
                            unfold mvEnt eqs
                            simp only [hq]
                            rfl
                          have hse : (m.head.toList == m.head.toList) = true := beq_self_eq_true _
                          clear v0
                          go_wp2
                          go_round
                          case rel => exact ⟨j + 1, by omega, by go_num⟩
                          case measure => simp [intOf]; omega
                        | false =>
                          have v1 : wd.cell? ⟨VB, j, none⟩ = some (.string (get Lh m.name)) := by
                            rw [v0]
                            unfold mvEnt eqs
                            simp only [hq]
                            rfl
                          have hse : ((get Lh m.name).toList == (get Lh m.name).toList) = true := beq_self_eq_true _
                          clear v0
                          go_wp2
                          go_round
                          case rel => exact ⟨j + 1, by omega, by go_num⟩
                          case measure => simp [intOf]; omega
                      · go_wp2
                        go_meet
                        case rel => rfl
                  case rest => as_aux_lemma =>
                    obtain rfl := hcut
                    have l1 := HLh.out trunk
                    have l2 := HLr.out trunk
                    go_upto_region 45 with fail
                    go_cut [173] (fun d wx => wx = wc ∧ d = .bool (!(eqs tf nilS) && eqs (get Lh trunk) (get Lr trunk)))
                    case first => as_aux_lemma =>
                      by_cases ht : tf.toList = []
                      · have ht2 : tf.toList.isEmpty = true := by rw [ht]; rfl
                        have HC : Hid (false = (!(eqs tf nilS) && eqs (get Lh trunk) (get Lr trunk))) := by
                          have : eqs tf nilS = true := by rw [eqs_nil]; exact ht2
                          rw [this]; rfl
                        go_wp2
                        go_meet
                        case rel => exact ⟨rfl, congrArg Value.bool HC.out⟩
                      · have ht2 : tf.toList.isEmpty = false := by simpa using ht
                        have HC : Hid (((get Lh trunk).toList == (get Lr trunk).toList) = (!(eqs tf nilS) && eqs (get Lh trunk) (get Lr trunk))) := by
                          have : eqs tf nilS = false := by rw [eqs_nil]; exact ht2
                          rw [this]; rfl
                        go_wp2
                        go_meet
                        case rel => exact ⟨rfl, congrArg Value.bool HC.out⟩
                    case rest => as_aux_lemma =>
                      obtain ⟨rfl, rfl⟩ := hcut
                      go_upto_if 173 with fail
                      go_cut [24] (fun d wx => wx = wc ∧ d = .string (trEnt (get Lh) (get Lr) tf trunk).want)
                      case first => as_aux_lemma =>
                        cases hc : (!(eqs tf nilS) && eqs (get Lh trunk) (get Lr trunk)) with
                        | false =>
                          have HC : Hid ((trEnt (get Lh) (get Lr) tf trunk).want = get Lh trunk) := by unfold trEnt; simp only [hc]; rfl
                          go_wp2
                          go_meet
                          case rel => exact ⟨rfl, by rw [HC.out]⟩
                        | true =>
                          have HC : Hid ((trEnt (get Lh) (get Lr) tf trunk).want = tf) := by unfold trEnt; simp only [hc]; rfl
                          go_wp2
                          go_meet
                          case rel => exact ⟨rfl, by rw [HC.out]⟩
                      case rest => as_aux_lemma =>
                        obtain ⟨rfl, rfl⟩ := hcut
                        have hw := want_tr (get Lh) (get Lr) tf trunk M R
                        rw [HE.out] at hw
                        have v0 := HV3.out.at M.length _ hw
                        clear hw
                        have hjN : (M.length : Int) < (N : Int) := by have := HN.out; omega
                        have hse : ((trEnt (get Lh) (get Lr) tf trunk).want.toList == (trEnt (get Lh) (get Lr) tf trunk).want.toList) = true := beq_self_eq_true _
                        generalize (trEnt (get Lh) (get Lr) tf trunk).want = tw at *
                        go_upto_block 8 with fail
                        go_cut [25, 26] (fun _ _ wx => wx = wc)
                        case first => as_aux_lemma =>
                          clear v0 hse l1 l2
                          go_wp2_with fail
                          go_loop [25, 26] (fun i _ => ∃ j : Nat, j ≤ R.length ∧ i = .int .i64 j) (fun i _ => R.length - (intOf i).toNat)
                          case atStart => exact ⟨0, Nat.zero_le _, rfl⟩
                          case round =>
                            obtain ⟨j, hj, rfl⟩ := hrel
                            by_cases hlt : j < R.length
                            · obtain ⟨b, off, rfl, hst⟩ : ∃ b off, ar = some ⟨b, off, none⟩ ∧ Strs wc b off R := by
                                rcases HRS.out.below HBd.out with h | h
                                · rw [h] at hlt; simp at hlt
                                · exact h
                              have c0 := hst j hlt
                              have hw := want_rm (get Lh) (get Lr) tf trunk M R j hlt
                              rw [HE.out] at hw
                              have v0 := HV3.out.at (M.length + 1 + j) _ hw
                              clear hst hw
                              generalize (R[j]'hlt) = rr at *
                              have l1 := HLh.out rr
                              have l2 := HLr.out rr
                              have hjN : (M.length : Int) + 1 + (j : Int) < (N : Int) := by have := HN.out; omega
                              by_cases hq : (get Lh rr).toList = []
                              · have hq2 : (get Lh rr).toList.isEmpty = true := by rw [hq]; rfl
                                have v1 : wc.cell? ⟨VB, M.length + 1 + j, none⟩ = some (.string (get Lr rr)) := by
                                  rw [v0]
                                  unfold rmEnt
                                  have : eqs (get Lh rr) nilS = true := by rw [eqs_nil]; exact hq2
                                  simp only [this]
                                  rfl
                                have hse : ((get Lr rr).toList == (get Lr rr).toList) = true := beq_self_eq_true _
                                clear v0
                                go_wp2
                                go_round
                                case rel => exact ⟨j + 1, by omega, by go_num⟩
                                case measure => simp [intOf]; omega
                              · have hq2 : (get Lh rr).toList.isEmpty = false := by simpa using hq
                                have v1 : wc.cell? ⟨VB, M.length + 1 + j, none⟩ = some (.string (get Lh rr)) := by
                                  rw [v0]
                                  unfold rmEnt
                                  have : eqs (get Lh rr) nilS = false := by rw [eqs_nil]; exact hq2
                                  simp only [this]
                                  rfl
                                have hse : ((get Lh rr).toList == (get Lh rr).toList) = true := beq_self_eq_true _
                                clear v0
                                go_wp2
                                go_round
                                case rel => exact ⟨j + 1, by omega, by go_num⟩
                                case measure => simp [intOf]; omega
                            · go_wp2
                              go_meet
                              case rel => rfl
                        case rest => as_aux_lemma =>
                          obtain rfl := hcut
                          clear v0 hse l1 l2
                          have hmk := run_makeMap_hint wc (N : Int)
                          have HVA : Hid (VB < wc.heap.size) := HV3.out.1.lt (by rw [List.length_map, HEN.out]; have := HN.out; omega)
                          have HA0 : Hid (Filled wc wc.heap.size (E.take 0) (wc.alloc (.map #[] 0))) := Filled.start wc
                          go_upto_block 10 with fail
                          clear hmk
                          generalize wc.alloc (.map #[] 0) = w8 at *
                          obtain ⟨wd, hwd⟩ : ∃ wd, wd = wc := ⟨_, rfl⟩
                          subst hwd
                          have HAB : Hid (wd.heap.size = wd.heap.size) := rfl
                          generalize hAB : wd.heap.size = AB at *
                          clear HAB
                          have HAB : Hid (wd.heap.size = AB) := hAB
                          clear hAB
                          go_cut [28] (fun _ wx => Hid (Filled wd AB E wx))
                          case first => as_aux_lemma =>
                            go_wp2_with fail
                            go_loopw [28] (fun i wr => ∃ j : Nat, j ≤ N ∧ i = .int .i64 j ∧ Hid (Filled wd AB (E.take j) wr)) (fun i _ => N - (intOf i).toNat)
                            case atStart => exact ⟨0, Nat.zero_le _, rfl, HA0⟩
                            case round =>
                              obtain ⟨j, hj, rfl, hA⟩ := hrel
                              clear HA0
                              by_cases hlt : j < N
                              · have hjn : j < names.length := by rw [HNL.out]; exact hlt
                                have hjE : j < E.length := by rw [HEN.out]; exact hlt
                                have hnd : NB < AB := by have := HVA.out; omega
                                have c0 := ((HN5.out.below HV3.out.2.2 hNB5).below hA.out.2 hnd) j hjn
                                rw [Nat.zero_add] at c0
                                have v0 := (HV3.out.1.below hA.out.2 HVA.out) j (by rw [List.length_map]; exact hjE)
                                rw [Nat.zero_add, List.getElem_map] at v0
                                have hnm : names[j]'hjn = (E[j]'hjE).name := by
                                  have h1 := HE1.out
                                  subst h1
                                  rw [List.getElem_map]
                                rw [hnm] at c0
                                obtain ⟨WW, hst, hWW⟩ := Filled.step HE1.out HD.out.pairwise hjE HAB.out hA.out
                                have HWW : Hid (∀ n, Filled wd AB (E.take (j + 1)) (WW n)) := hWW
                                clear hWW hnm
                                generalize (E[j]'hjE).name = nm at *
                                generalize (E[j]'hjE).want = wt at *
                                clear hA
                                have hi0 : (0 : Int) ≤ (j : Int) := by omega
                                have hi1 : (j : Int) < (N : Int) := by omega
                                have hst1 : (Instr.mapUpdate 38 (.map (some AB)) (.string nm) (.string wt)).run Try.prog wr.drew = .ok () (WW 1) := hst 1
                                have HW1 : Hid (Filled wd AB (E.take (j + 1)) (WW 1)) := HWW.out 1
                                clear hst HWW
                                generalize WW 1 = W9 at *
                                go_wp2_with fail
                                go_region
                                go_wp2
                                go_roundw
                                case rel => exact ⟨j + 1, by omega, by go_num, HW1⟩
                                case measure => simp [intOf]; omega
                              · have HF : Hid (Filled wd AB E wr) := by
                                  have := hA.out
                                  rwa [List.take_of_length_le (by rw [HEN.out]; omega)] at this
                                clear hA
                                go_wp2
                                go_meet
                                case rel => exact HF
                          case rest => as_aux_lemma =>
                            have HA : Hid (Filled wd AB E wc) := hcut
                            clear hcut HA0
                            have HB9 : Hid (Below VB w5 wc) := HV3.out.2.2.trans (HA.out.2.mono (by have := HVA.out; omega))
                            have HBw : Hid (Below w.heap.size w wc) := HBd.out.trans (HA.out.2.mono (by have := HBd.out.size; have := HAB.out; omega))
                            go_wp2_with fail
                            refine (put18 mr (some AB) a4 ar cr tf trunk M R Lr (E.map pairOf) wc (HM5.out.1.below (by rw [HVB.out]; exact HB9.out)) HM5.out.2 (HRS.out.below HBw.out) (HR.out.below HBw.out HR.out.lt) (.inr ⟨AB, rfl, HA.out.1⟩) g3 g4 HS.out).mono ?_
                            rintro e w9 ⟨v, rfl, ho, hb9⟩
                            have HB10 : Hid (Below w.heap.size w w9) := HBw.out.trans (hb9.mono HBw.out.size)
                            obtain ⟨ga2, gc2, rfl, hg⟩ := GotAt.of_own ho
                            have hsame := again_same (get Lh) (get Lr) (get (E.map pairOf)) tf trunk M R (by
                              rw [HE.out]
                              refine get_ents E ?_
                              rw [HE1.out]
                              exact HD.out.pairwise)
                            have hul2 : (allU (get (E.map pairOf)) (get Lr) tf trunk M R).length ≤ 8193 := by
                              unfold allU
                              rw [List.length_append, List.length_append]
                              have q1 := rbU_length (get (E.map pairOf)) (get Lr) M
                              have q2 := trU_length (get (E.map pairOf)) (get Lr) tf trunk
                              have q3 := rmU_length (get (E.map pairOf)) (get Lr) R
                              have := HN.out
                              omega
                            clear ho hb9
                            generalize allU (get (E.map pairOf)) (get Lr) tf trunk M R = U2 at *
                            have HSAME : Hid (∀ u ∈ U2, u.new = u.old) := hsame
                            have HG9 : Hid (GotAt w9 ga2 U2) := hg
                            clear hsame hg
                            go_wp2_with fail
                            go_loopw [30] (fun i wr => ∃ k : Nat, k ≤ U2.length ∧ i = .int .i64 k ∧ Hid (GotAt wr ga2 U2) ∧ Hid (Below w.heap.size w wr)) (fun i _ => U2.length - (intOf i).toNat)
                            case atStart => exact ⟨0, Nat.zero_le _, rfl, HG9, HB10⟩
                            case round =>
                              obtain ⟨k, hk, rfl, hG, hB⟩ := hrel
                              clear HG9 HB10
                              by_cases hlt : k < U2.length
                              · obtain ⟨g, rfl, -, u1, u2⟩ := hG.out.at k hlt
                                rw [HSAME.out _ (List.getElem_mem hlt)] at u1
                                generalize (U2[k]'hlt).old = od at *
                                have hk0 : (0 : Int) ≤ (k : Int) := by omega
                                have hk1 : (k : Int) < (U2.length : Int) := by omega
                                have hse : (od.toList == od.toList) = true := beq_self_eq_true _
                                go_wp2_with fail
                                go_quiet (fail)
                                have HG' : Hid (GotAt (wr.drewN nq) (some ⟨g, 0, none⟩) U2) := hG.out.below (drewN_below (Below.refl _ _) nq)
                                have HB' : Hid (Below w.heap.size w (wr.drewN nq)) := drewN_below hB.out nq
                                clear hG hB u1 u2
                                generalize wr.drewN nq = wq at *
                                go_wp2
                                go_roundw
                                case rel => exact ⟨k + 1, by omega, by go_num, HG', HB'⟩
                                case measure => simp [intOf]; omega
                              · go_wp2
                                go_ret
                                exact ⟨rfl, hB.out⟩
        · go_enter Try.func5, Try.ntmps5
          go_wp2
          go_ret
          exact ⟨rfl, Below.refl _ _⟩
      · go_enter Try.func5, Try.ntmps5
        go_wp2
        go_ret
        exact ⟨rfl, Below.refl _ _⟩
    · go_enter Try.func5, Try.ntmps5
      go_wp2
      go_ret
      exact ⟨rfl, Below.refl _ _⟩
  · go_enter Try.func5, Try.ntmps5
    go_wp2
    go_ret
    exact ⟨rfl, Below.refl _ _⟩

end Go.Proofs.Qxb6619502a
