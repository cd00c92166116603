/-
  The law FnParserNextReadsInOrderAndStopsAtEOF: the walk.
-/
import Derived.Test.Qxb6619490aNext
import Derived.Deep.RegionHeld3
import Derived.Deep.RegionWith
import Derived.Deep.DrawnRows
import Derived.Deep.CutBlock
import Derived.Deep.DeepCutAuto
import Derived.Deep.LoopGhost
namespace Go.Proofs.Qxb6619490a
open Go.RowKit

theorem Try.info25 : (Try.prog.info? 25).map (fun i => (i.zero, i.size, i.bytes)) = some (some (.agg #[.int .u8 0, .string ⟨#[]⟩, .int .i64 0]), 3, 32) := by kernel_rfl
theorem Try.info29 : (Try.prog.info? 29).map (fun i => (i.zero, i.size, i.bytes)) = some (some (.agg #[.int .u8 0, .string ⟨#[]⟩, .int .i64 0]), 3, 32) := by kernel_rfl
def Ztok : Value := .agg #[.int .u8 0, .string ⟨#[]⟩, .int .i64 0]

set_option maxRecDepth 100000 in
set_option maxHeartbeats 4000000 in
theorem main (src : ByteArray) (b off cap : Nat) (T : List Tok) (pos depth k : Int) (w : World) (ht : Toks w b off T) (hm : T.length ≤ maxLen) :
    Calls Try.prog 3 #[.string src, .slice (some ⟨b, off, none⟩) T.length cap, .int .i64 pos, .int .i64 depth, .int .i64 k] w fun e w' => e = .returned (.bool true) ∧ Below w.heap.size w w' := by
  have HT : Hid (Toks w b off T) := ht
  clear ht
  go_enter Try.func3, Try.ntmps3
  go_wp2_with fail
  refine (bytes4 src b off cap T _ _ _ _ HT.out hm).mono ?_
  rintro e w' ⟨⟨b', rfl, hT⟩, rfl⟩
  cases b' with
  | false =>
    clear hT
    go_wp2
    go_ret
    exact ⟨rfl, Below.refl _ _⟩
  | true =>
    have HL : Hid (∀ j (h : j < T.length), (T[j]'h).s.size ≤ 1048576) := hT rfl
    clear hT
    by_cases hs : src.size ≤ 1048576
    · by_cases hl : T.length ≤ 65536
      · go_upto_block 0 with fail
        go_cut [11, 12] (fun t i wx => wx = w')
        case first => as_aux_lemma =>
          go_wp2_with fail
          go_loop [11, 12] (fun t i => ∃ (k m : Nat), k ≤ T.length ∧ m ≤ 1048576 ∧ i = .int .i64 k ∧ t = .int .i64 m) (fun _ i => T.length - (intOf i).toNat)
          case atStart => exact ⟨0, src.size, Nat.zero_le _, hs, rfl, rfl⟩
          case round =>
            obtain ⟨i, m, hk, hm2, rfl, rfl⟩ := hrel
            by_cases hlt : i < T.length
            · obtain ⟨-, hc, -⟩ := HT.out i hlt
              have hsz := HL.out i hlt
              generalize (T[i]'hlt).s = s at hc hsz
              go_wp2
              · go_ret
                exact ⟨rfl, Below.refl _ _⟩
              · go_round
                case rel => exact ⟨i + 1, m + (32 + s.size), by omega, by omega, by go_num, by go_num⟩
                case measure => simp [intOf]; omega
            · go_wp2
              go_meet
              case rel => rfl
        case rest => as_aux_lemma =>
          subst hcut
          by_cases hp : 0 ≤ pos ∧ pos < (T.length : Int)
          · obtain ⟨hp0, hp1⟩ := hp
            obtain ⟨p, rfl⟩ := Int.eq_ofNat_of_zero_le hp0
            by_cases hk : 0 ≤ k ∧ k ≤ 65536
            · obtain ⟨hk0, hk1⟩ := hk
              obtain ⟨q, rfl⟩ := Int.eq_ofNat_of_zero_le hk0
              go_upto_block 2 with fail
              go_cut [13, 14] (fun e i wx => wx = wc ∧ ∃ E : Int, e = .int .i64 E ∧ Hid (EofAt T p E))
              case first => as_aux_lemma =>
                go_wp2_with fail
                go_loop [13, 14] (fun e i => e = .int .i64 (-1) ∧ ∃ (j : Nat), p ≤ j ∧ j ≤ T.length ∧ i = .int .i64 j ∧ Hid (∀ x (h : x < T.length), p ≤ x → x < j → (T[x]'h).k ≠ 0)) (fun _ i => T.length - (intOf i).toNat)
                case atStart => exact ⟨rfl, p, by omega, by omega, rfl, by intro x h h1 h2; omega⟩
                case round =>
                  obtain ⟨rfl, j, hj1, hj2, rfl, hA⟩ := hrel
                  by_cases hlt : j < T.length
                  · obtain ⟨hc, -, -⟩ := HT.out j hlt
                    by_cases h0 : (T[j]'hlt).k = 0
                    · have hrel : Hid (EofAt T p (j : Int)) := .inr ⟨j, rfl, hj1, ⟨hlt, h0⟩, fun x h h1 h2 => hA.out x h h1 h2⟩
                      have hb0 : ((T[j]'hlt).k == 0) = true := by simp [h0]
                      have Hh0 : Hid ((T[j]'hlt).k = 0) := h0
                      clear h0
                      go_wp2
                      go_meet
                      case rel => exact ⟨rfl, _, rfl, hrel⟩
                    · have hb0 : ((T[j]'hlt).k == 0) = false := by simp [h0]
                      have hA2 : Hid (∀ x (h : x < T.length), p ≤ x → x < j + 1 → (T[x]'h).k ≠ 0) := by
                        intro x h h1 h2
                        by_cases e : x = j
                        · subst e; exact h0
                        · exact hA.out x h h1 (by omega)
                      clear h0
                      go_wp2
                      go_round
                      case rel => exact ⟨rfl, j + 1, by omega, by omega, by go_num, hA2⟩
                      case measure => simp [intOf]; omega
                  · go_wp2
                    go_meet
                    case rel => exact ⟨rfl, _, rfl, .inl ⟨rfl, fun x h h1 => hA.out x h h1 (by omega)⟩⟩
              case rest => as_aux_lemma =>
                obtain ⟨rfl, E, rfl, HE⟩ := hcut
                go_upto_region 22 with fail
                go_cut [96] (fun c wx => wx = wc ∧ c = .bool (decide (E < 0 ∧ (T.length : Int) - p < q)))
                case first => as_aux_lemma =>
                  by_cases h1 : E < 0
                  · by_cases h2 : (T.length : Int) - p < q
                    · go_wp2
                      go_meet
                      case rel => exact ⟨rfl, congrArg Value.bool (decide_eq_true (by omega)).symm⟩
                    · go_wp2
                      go_meet
                      case rel => exact ⟨rfl, congrArg Value.bool (decide_eq_false (by omega)).symm⟩
                  · go_wp2
                    go_meet
                    case rel => exact ⟨rfl, congrArg Value.bool (decide_eq_false (by omega)).symm⟩
                case rest => as_aux_lemma =>
                  obtain ⟨rfl, rfl⟩ := hcut
                  by_cases hEq : E < 0 ∧ (T.length : Int) - p < q
                  · have hd := decide_eq_true hEq
                    go_wp2
                    go_ret
                    exact ⟨rfl, Below.refl _ _⟩
                  · have hd := decide_eq_false hEq
                    rw [hd]
                    clear hd
                    have HQ : Hid (¬ (E < 0 ∧ (T.length : Int) - p < q)) := hEq
                    clear hEq
                    obtain ⟨i0, hi, hz0, hz1, hz2⟩ := info_parts Try.info25
                    have hmake := run_make (P := Try.prog) wc 22 25 i0 _ Try.underlying22 hi hz0 .i64 .i64 (T.length : Int) (T.length : Int) (by omega) (by omega) (by rw [hz2]; omega) (by omega)
                    rw [hz1, Int.toNat_natCast] at hmake
                    have hC := size_madeCells Ztok.cells (T.length * 3)
                    unfold Ztok at hC
                    generalize madeCells _ (T.length * 3) = C at hmake hC
                    obtain ⟨w1, hcopy, hbel, hsz1, hown⟩ := copied wc b off cap C T hC HT.out
                    have hne := run_neq_slice_nil (P := Try.prog) wc 22 25 (some ⟨b, off, none⟩) T.length cap Try.underlying22
                    clear hz0 hz1 hz2 hi hC
                    obtain ⟨i1, hi, hz0, hz1, hz2⟩ := info_parts Try.info29
                    have hmake2 := run_make (P := Try.prog) w1 26 29 i1 _ Try.underlying26 hi hz0 .i64 .i64 (T.length : Int) (T.length : Int) (by omega) (by omega) (by rw [hz2]; omega) (by omega)
                    rw [hz1, Int.toNat_natCast] at hmake2
                    have hC2 := size_madeCells Ztok.cells (T.length * 3)
                    unfold Ztok at hC2
                    generalize madeCells _ (T.length * 3) = C2 at hmake2 hC2
                    clear hz0 hz1 hz2 hi
                    have HC2 : Hid (C2.size = T.length * 3) := hC2
                    have Hsz1 : Hid (w1.heap.size = wc.heap.size + 1) := hsz1
                    have Hown : Hid (Toks w1 wc.heap.size 0 T) := hown
                    clear hC2 hsz1 hown
                    go_upto_block 4 with fail
                    clear hmake hcopy hne hmake2
                    have Hst : Hid (Toks (w1.alloc (.cells C2 29)) wc.heap.size 0 T ∧ Room (w1.alloc (.cells C2 29)) w1.heap.size (T.length * 3) ∧ Below wc.heap.size wc (w1.alloc (.cells C2 29))) := by
                      have hsz := Hsz1.out
                      exact ⟨Hown.out.below (below_alloc w1 _) (by omega), Room.made w1 C2 29 _ HC2.out, hbel.trans ((below_alloc w1 _).mono (by omega))⟩
                    have hOG : wc.heap.size ≠ w1.heap.size := by have := Hsz1.out; omega
                    have hOG2 : wc.heap.size < w1.heap.size := by have := Hsz1.out; omega
                    obtain ⟨w0, hw0⟩ : ∃ w0, w0 = wc := ⟨_, rfl⟩
                    subst hw0
                    generalize hO : w0.heap.size = O at *
                    have HO : Hid (w0.heap.size = O) := hO
                    clear hO
                    generalize w1.heap.size = G at *
                    generalize w1.alloc (.cells C2 29) = w2 at *
                    go_cut [17] (fun i wx => Hid (Toks wx O 0 T ∧ Toks wx G 0 T ∧ Below O w0 wx))
                    case first => as_aux_lemma =>
                      go_wp2_with fail
                      go_loopw [17] (fun i wr => ∃ j : Nat, j ≤ T.length ∧ i = .int .i64 j ∧ Hid (Toks wr O 0 T ∧ Toks wr G 0 (T.take j) ∧ Room wr G (T.length * 3) ∧ Below O w0 wr)) (fun i _ => T.length - (intOf i).toNat)
                      case atStart => exact ⟨0, Nat.zero_le _, rfl, Hst.out.1, by intro j h; simp at h, Hst.out.2.1, Hst.out.2.2⟩
                      case round =>
                        obtain ⟨j, hj, rfl, HR⟩ := hrel
                        by_cases hlt : j < T.length
                        · obtain ⟨c0, c1, c2⟩ := HR.out.1 j hlt
                          rw [Nat.zero_add] at c0 c1 c2
                          have bO : O < wr.heap.size := World.block_lt_of_cell? wr _ c0
                          obtain ⟨v0, g0⟩ := HR.out.2.2.1.cell (j * 3) (by omega)
                          obtain ⟨v1, g1⟩ := HR.out.2.2.1.cell (j * 3 + 1) (by omega)
                          obtain ⟨v2, g2⟩ := HR.out.2.2.1.cell (j * 3 + 2) (by omega)
                          have f0 := HR.out.2.2.1.free (j * 3) (by omega)
                          have f1 := HR.out.2.2.1.free (j * 3 + 1) (by omega)
                          have f2 := HR.out.2.2.1.free (j * 3 + 2) (by omega)
                          have bG : G < wr.heap.size := World.block_lt_of_cell? wr _ g0
                          have hji : (j : Int) < (T.length : Int) := by omega
                          have hj0 : (0 : Int) ≤ (j : Int) := by omega
                          clear Hst
                          have hGO : G ≠ O := Ne.symm hOG
                          go_wp2_with fail
                          go_region_held3 (fun w' => w'.cell? ⟨O, j * 3, none⟩ = some (.int .u8 (T[j]'hlt).k) ∧ w'.cell? ⟨O, j * 3 + 1, none⟩ = some (.string (T[j]'hlt).s) ∧ w'.cell? ⟨O, j * 3 + 2, none⟩ = some (.int .i64 (T[j]'hlt).o)) (go_keep) (first | (go_at_call 5; refine (make5 _ _ _ _).mono ?_; rintro e w' ⟨rfl, rfl⟩))
                          have HR2 : Hid _ := fill_round (o := .cells #[.int .u8 (T[j]'hlt).k, .string (T[j]'hlt).s, .int .i64 (T[j]'hlt).o] 29) hlt hOG hOG2 HR.out bO bG
                          clear HR
                          go_wp2
                          go_roundw
                          case rel => exact ⟨j + 1, by omega, by go_num, HR2⟩
                          case measure => simp [intOf]; omega
                        · have HR2 : Hid (Toks wr O 0 T ∧ Toks wr G 0 T ∧ Below O w0 wr) := by
                            obtain ⟨a1, a2, a3, a4⟩ := HR.out
                            rw [List.take_of_length_le (by omega)] at a2
                            exact ⟨a1, a2, a4⟩
                          clear HR Hst
                          go_wp2
                          go_meet
                          case rel => exact HR2
                    case rest => as_aux_lemma =>
                      clear Hst Hsz1 Hown HC2
                      have hn0 : 0 < T.length := by omega
                      have HS0 : Hid (St w0 O G wc.heap.size src T (p : Int) depth (wc.alloc (.cells #[.string src, .slice (some ⟨G, 0, none⟩) T.length T.length, .int .i64 (p : Int), .int .i64 depth, .pointer none] 42))) :=
                        St.start hn0 hcut.out.1 hcut.out.2.1 hcut.out.2.2
                      have hOP : O < wc.heap.size := World.block_lt_of_cell? wc _ (hcut.out.1 0 hn0).1
                      have hGP : G < wc.heap.size := World.block_lt_of_cell? wc _ (hcut.out.2.1 0 hn0).1
                      clear hcut
                      go_wp2_with fail
                      refine (parser6 src _ G T.length _ _ _ rfl).mono ?_
                      rintro e w3 ⟨rfl, rfl⟩
                      generalize wc.alloc (.cells #[.string src, .slice (some ⟨G, 0, none⟩) T.length T.length, .int .i64 (p : Int), .int .i64 depth, .pointer none] 42) = w3 at *
                      generalize wc.heap.size = P at *
                      go_upto_block 6 with fail
                      go_cut [19, 20, 21] (fun i v x wx => Hid (St w0 O G P src T (cur E p q) depth wx))
                      case first => as_aux_lemma =>
                        go_wp2_with fail
                        go_loopw [19, 20, 21] (fun i v x wr => ∃ c : Nat, c ≤ q ∧ i = .int .i64 c ∧ Hid (St w0 O G P src T (cur E p c) depth wr)) (fun i _ _ _ => q - (intOf i).toNat)
                        case atStart => exact ⟨0, Nat.zero_le _, rfl, by rw [cur_zero HE.out]; exact HS0⟩
                        case round =>
                          obtain ⟨c, hc, rfl, HS⟩ := hrel
                          by_cases hlt : c < q
                          · obtain ⟨i, hi1, hi2, hi3⟩ := cur_step HE.out q c hlt HQ.out
                            rw [hi1] at HS
                            have Hi1 : Hid (cur E p c = (i : Int)) := hi1
                            have Hi3 : Hid (cur E p (c + 1) = if (T[i]'hi2).k = 0 then (i : Int) else (i : Int) + 1) := hi3
                            clear hi1 hi3 HS0
                            go_wp2_with fail
                            refine (next7 w0 O G P src T i depth _ hi2 hl HS.out hOP (by omega)).mono ?_
                            rintro e w4 ⟨rfl, hS4⟩
                            have HS4 : Hid (St w0 O G P src T (cur E p (c + 1)) depth w4) := by rw [Hi3.out]; exact hS4
                            clear hS4 HS
                            go_upto_region 40 with fail
                            obtain ⟨w5, hw5⟩ : ∃ w5, w5 = w4.alloc (.cells #[.int .u8 (T[i]'hi2).k, .string (T[i]'hi2).s, .int .i64 (T[i]'hi2).o] 29) := ⟨_, rfl⟩
                            rw [← hw5]
                            have HS5 : Hid (St w0 O G P src T (cur E p (c + 1)) depth w5) := by rw [hw5]; exact HS4.out.below hn0 (by have := HS4.out.lt hn0; omega) (below_alloc _ _)
                            have v0 : w5.cell? ⟨w4.heap.size, 0, none⟩ = some (.int .u8 (T[i]'hi2).k) := by rw [hw5]; simp
                            have v1 : w5.cell? ⟨w4.heap.size, 1, none⟩ = some (.string (T[i]'hi2).s) := by rw [hw5]; simp
                            have v2 : w5.cell? ⟨w4.heap.size, 2, none⟩ = some (.int .i64 (T[i]'hi2).o) := by rw [hw5]; simp
                            generalize w4.heap.size = V at *
                            clear hw5 HS4
                            go_cut [155] (fun d wx => wx = w5 ∧ d = .bool (decide (0 ≤ E ∧ E < (p : Int) + c)))
                            case first => as_aux_lemma =>
                              by_cases h1 : 0 ≤ E
                              · by_cases h2 : E < (p : Int) + c
                                · go_wp2
                                  go_meet
                                  case rel => exact ⟨rfl, congrArg Value.bool (decide_eq_true (by omega)).symm⟩
                                · go_wp2
                                  go_meet
                                  case rel => exact ⟨rfl, congrArg Value.bool (decide_eq_false (by omega)).symm⟩
                              · go_wp2
                                go_meet
                                case rel => exact ⟨rfl, congrArg Value.bool (decide_eq_false (by omega)).symm⟩
                            case rest => as_aux_lemma =>
                              obtain ⟨rfl, rfl⟩ := hcut
                              go_upto_if 155 with fail
                              go_cut [21] (fun x wx => wx = wc ∧ x = .int .i64 (i : Int))
                              case first => as_aux_lemma =>
                                have hcur := Hi1.out
                                unfold cur at hcur
                                by_cases h1 : 0 ≤ E ∧ E < (p : Int) + c
                                · have hd2 := decide_eq_true h1
                                  rw [if_pos h1] at hcur
                                  have HC : Hid (E = (i : Int)) := hcur
                                  clear hcur
                                  go_wp2
                                  go_meet
                                  case rel => exact ⟨rfl, congrArg (Value.int .i64) HC.out⟩
                                · have hd2 := decide_eq_false h1
                                  rw [if_neg h1] at hcur
                                  have HC : Hid ((p : Int) + c = (i : Int)) := hcur
                                  clear hcur
                                  go_wp2
                                  go_meet
                                  case rel => exact ⟨rfl, congrArg (Value.int .i64) HC.out⟩
                              case rest => as_aux_lemma =>
                                obtain ⟨rfl, rfl⟩ := hcut
                                obtain ⟨o0, o1, o2⟩ := HS5.out.own i hi2
                                rw [Nat.zero_add] at o0 o1 o2
                                have bO : O < wc.heap.size := World.block_lt_of_cell? wc _ o0
                                have bV : V < wc.heap.size := World.block_lt_of_cell? wc _ v0
                                have bV1 : V < wc.heap.size + 1 := by omega
                                have bV2 : V < wc.heap.size + 1 + 1 := by omega
                                have bO1 : O < wc.heap.size + 1 := by omega
                                have bO2 : O < wc.heap.size + 1 + 1 := by omega
                                have hi0 : (0 : Int) ≤ (i : Int) := by omega
                                have hin : (i : Int) < (T.length : Int) := by omega
                                have hk1 : ((T[i]'hi2).k != (T[i]'hi2).k) = false := by simp
                                have hs1 : ((T[i]'hi2).s.toList == (T[i]'hi2).s.toList) = true := by simp
                                have ho1 : ((T[i]'hi2).o != (T[i]'hi2).o) = false := by simp
                                go_wp2_with fail
                                go_region_held3 (fun w' => w'.cell? ⟨V, 0, none⟩ = some (.int .u8 (T[i]'hi2).k) ∧ w'.cell? ⟨V, 1, none⟩ = some (.string (T[i]'hi2).s) ∧ w'.cell? ⟨V, 2, none⟩ = some (.int .i64 (T[i]'hi2).o) ∧ w'.cell? ⟨O, i * 3, none⟩ = some (.int .u8 (T[i]'hi2).k) ∧ w'.cell? ⟨O, i * 3 + 1, none⟩ = some (.string (T[i]'hi2).s) ∧ w'.cell? ⟨O, i * 3 + 2, none⟩ = some (.int .i64 (T[i]'hi2).o)) (simp [*, World.cell?_alloc_past]) (first | (go_at_call 8; refine (kind8 _ _ _ _).mono ?_; rintro e w' ⟨rfl, rfl⟩) | (go_at_call 9; refine (text9 _ _ _ _).mono ?_; rintro e w' ⟨rfl, rfl⟩) | (go_at_call 10; refine (offset10 _ _ _ _).mono ?_; rintro e w' ⟨rfl, rfl⟩))
                                have HS6 : Hid (St w0 O G P src T (cur E p (c + 1)) depth (((wc.alloc (.cells #[.int .u8 (T[i]'hi2).k, .string (T[i]'hi2).s, .int .i64 (T[i]'hi2).o] 29)).alloc (.cells #[.int .u8 (T[i]'hi2).k, .string (T[i]'hi2).s, .int .i64 (T[i]'hi2).o] 29)).alloc (.cells #[.int .u8 (T[i]'hi2).k, .string (T[i]'hi2).s, .int .i64 (T[i]'hi2).o] 29)).drew) :=
                                  HS5.out.below hn0 (by omega) (((below_alloc _ _).alloc (by simp) _).alloc (by simp; omega) _).drew
                                clear HS5 v0 v1 v2 o0 o1 o2
                                go_wp2
                                go_roundw
                                case rel => exact ⟨c + 1, by omega, by go_num, HS6⟩
                                case measure => simp [intOf]; omega
                          · obtain rfl : c = q := by omega
                            go_wp2
                            go_meet
                            case rel => exact HS
                      case rest => as_aux_lemma =>
                        clear HS0
                        have HS : Hid (St w0 O G P src T (cur E p q) depth wc) := hcut
                        clear hcut
                        go_upto_region 45 with fail
                        go_cut [194] (fun d wx => wx = wc ∧ d = .bool (decide (0 ≤ E ∧ E < (p : Int) + q)))
                        case first => as_aux_lemma =>
                          by_cases h1 : 0 ≤ E
                          · by_cases h2 : E < (p : Int) + q
                            · go_wp2
                              go_meet
                              case rel => exact ⟨rfl, congrArg Value.bool (decide_eq_true (by omega)).symm⟩
                            · go_wp2
                              go_meet
                              case rel => exact ⟨rfl, congrArg Value.bool (decide_eq_false (by omega)).symm⟩
                          · go_wp2
                            go_meet
                            case rel => exact ⟨rfl, congrArg Value.bool (decide_eq_false (by omega)).symm⟩
                        case rest => as_aux_lemma =>
                          obtain ⟨rfl, rfl⟩ := hcut
                          go_upto_if 194 with fail
                          go_cut [22] (fun x wx => wx = wc ∧ x = .int .i64 (cur E p q))
                          case first => as_aux_lemma =>
                            by_cases h1 : 0 ≤ E ∧ E < (p : Int) + q
                            · have hd2 := decide_eq_true h1
                              have HC : Hid (E = cur E p q) := by unfold cur; rw [if_pos h1]; rfl
                              go_wp2
                              go_meet
                              case rel => exact ⟨rfl, congrArg (Value.int .i64) HC.out⟩
                            · have hd2 := decide_eq_false h1
                              have HC : Hid ((p : Int) + q = cur E p q) := by unfold cur; rw [if_neg h1]; rfl
                              go_wp2
                              go_meet
                              case rel => exact ⟨rfl, congrArg (Value.int .i64) HC.out⟩
                          case rest => as_aux_lemma =>
                            obtain ⟨rfl, rfl⟩ := hcut
                            generalize cur E p q = cc at *
                            go_wp2_with fail
                            refine (pos11 src P G T.length cc depth _ HS.out.par).mono ?_
                            rintro e w6 ⟨rfl, rfl⟩
                            have hcc : (cc != cc) = false := by simp
                            go_wp2_with fail
                            refine (src12 src P G T.length cc depth _ HS.out.par).mono ?_
                            rintro e w7 ⟨rfl, rfl⟩
                            have hss : (src.toList == src.toList) = true := by simp
                            go_wp2_with fail
                            refine (depth13 src P G T.length cc depth _ HS.out.par).mono ?_
                            rintro e w8 ⟨rfl, rfl⟩
                            have hdd : (depth != depth) = false := by simp
                            go_wp2_with fail
                            refine (toks14 src P G T.length cc depth _ HS.out.par).mono ?_
                            rintro e w9 ⟨rfl, rfl⟩
                            have hnn : ((T.length : Int) != (T.length : Int)) = false := by simp
                            have HS9 : Hid (Toks w9 O 0 T ∧ Toks w9 G 0 T ∧ Below O w0 w9) := ⟨HS.out.own, HS.out.row, HS.out.bel⟩
                            clear HS
                            go_wp2_with fail
                            go_loopw [24] (fun i wr => ∃ j : Nat, j ≤ T.length ∧ i = .int .i64 j ∧ Hid (Toks wr O 0 T ∧ Toks wr G 0 T ∧ Below O w0 wr)) (fun i _ => T.length - (intOf i).toNat)
                            case atStart => exact ⟨0, Nat.zero_le _, rfl, HS9⟩
                            case round =>
                              obtain ⟨j, hj, rfl, HR⟩ := hrel
                              by_cases hlt : j < T.length
                              · obtain ⟨o0, o1, o2⟩ := HR.out.1 j hlt
                                rw [Nat.zero_add] at o0 o1 o2
                                obtain ⟨v0, v1, v2⟩ := HR.out.2.1 j hlt
                                rw [Nat.zero_add] at v0 v1 v2
                                have bO : O < wr.heap.size := World.block_lt_of_cell? wr _ o0
                                have bV : G < wr.heap.size := World.block_lt_of_cell? wr _ v0
                                have bV1 : G < wr.heap.size + 1 := by omega
                                have bV2 : G < wr.heap.size + 1 + 1 := by omega
                                have bO1 : O < wr.heap.size + 1 := by omega
                                have bO2 : O < wr.heap.size + 1 + 1 := by omega
                                have hi0 : (0 : Int) ≤ (j : Int) := by omega
                                have hin : (j : Int) < (T.length : Int) := by omega
                                have hk1 : ((T[j]'hlt).k != (T[j]'hlt).k) = false := by simp
                                have hs1 : ((T[j]'hlt).s.toList == (T[j]'hlt).s.toList) = true := by simp
                                have ho1 : ((T[j]'hlt).o != (T[j]'hlt).o) = false := by simp
                                clear HS9 hcc hss hdd hnn
                                go_wp2_with fail
                                go_region_held3 (fun w' => w'.cell? ⟨G, j * 3, none⟩ = some (.int .u8 (T[j]'hlt).k) ∧ w'.cell? ⟨G, j * 3 + 1, none⟩ = some (.string (T[j]'hlt).s) ∧ w'.cell? ⟨G, j * 3 + 2, none⟩ = some (.int .i64 (T[j]'hlt).o) ∧ w'.cell? ⟨O, j * 3, none⟩ = some (.int .u8 (T[j]'hlt).k) ∧ w'.cell? ⟨O, j * 3 + 1, none⟩ = some (.string (T[j]'hlt).s) ∧ w'.cell? ⟨O, j * 3 + 2, none⟩ = some (.int .i64 (T[j]'hlt).o)) (simp [*, World.cell?_alloc_past]) (first | (go_at_call 8; refine (kind8 _ _ _ _).mono ?_; rintro e w' ⟨rfl, rfl⟩) | (go_at_call 9; refine (text9 _ _ _ _).mono ?_; rintro e w' ⟨rfl, rfl⟩) | (go_at_call 10; refine (offset10 _ _ _ _).mono ?_; rintro e w' ⟨rfl, rfl⟩))
                                have HR2 : Hid _ := last_round (o := .cells #[.int .u8 (T[j]'hlt).k, .string (T[j]'hlt).s, .int .i64 (T[j]'hlt).o] 29) HR.out bO bV
                                clear HR v0 v1 v2 o0 o1 o2
                                go_wp2
                                go_roundw
                                case rel => exact ⟨j + 1, by omega, by go_num, HR2⟩
                                case measure => simp [intOf]; omega
                              · go_wp2
                                go_ret
                                exact ⟨rfl, by rw [HO.out]; exact HR.out.2.2⟩
            · have hk' : k < 0 ∨ 65536 < k := by omega
              clear hk
              by_cases hk0 : k < 0
              · clear hk'
                go_wp2
                go_ret
                exact ⟨rfl, Below.refl _ _⟩
              · have hk1 : 65536 < k := by omega
                clear hk'
                go_wp2
                go_ret
                exact ⟨rfl, Below.refl _ _⟩
          · have hp' : pos < 0 ∨ (T.length : Int) ≤ pos := by omega
            clear hp
            by_cases hp0 : pos < 0
            · clear hp'
              go_wp2
              go_ret
              exact ⟨rfl, Below.refl _ _⟩
            · have hp1 : (T.length : Int) ≤ pos := by omega
              clear hp'
              go_wp2
              go_ret
              exact ⟨rfl, Below.refl _ _⟩
      · go_wp2
        go_ret
        exact ⟨rfl, Below.refl _ _⟩
    · go_wp2
      go_ret
      exact ⟨rfl, Below.refl _ _⟩

end Go.Proofs.Qxb6619490a
