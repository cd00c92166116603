/-
  The law FnContainsJoinAtAnyCut: the walk.
-/
import Derived.Test.Qxb6619361aSmall
import Derived.Laws.CopyRow
import Derived.Laws.Cover3
import Derived.Deep.QuietTactic
import Derived.BigQuiet
namespace Go.Proofs.Qxb6619361a
open Go.RowKit

theorem Try.info9 : (Try.prog.info? 9).map (fun i => (i.zero, i.size, i.bytes)) = some (some (.string ByteArray.empty), 1, 16) := by kernel_rfl

theorem str_oneCell (ss : List ByteArray) : ∀ u ∈ ss.map Value.string, u.oneCell' = true := by
  intro u hu
  obtain ⟨_, _, rfl⟩ := List.mem_map.1 hu
  rfl

/-- The strings' cells in a row of the call's own. -/
theorem SL.of_row {w : World} {g : Nat} {cur : Array Value} {t : TypeId} {fr : Nat × Nat} {ss : List ByteArray} (hg : w.heap[g]? = some (.cells cur t fr)) (hc : ∀ j (h : j < ss.length), cur[j]? = some (.string (ss[j]'h))) :
    SL w (some ⟨g, 0, none⟩) ss := by
  refine .inr ⟨g, 0, rfl, fun j h => ?_⟩
  rw [Nat.zero_add, cell_of_row w g j cur t fr hg, hc j h]

theorem SL.cells {w : World} {a : Option Addr} {ss : List ByteArray} (h : SL w a ss) : ∀ x, a = some x → ∀ j u, (ss.map Value.string)[j]? = some u → w.cell? (x.add j) = some u := by
  intro x hx j u hu
  rcases h with rfl | ⟨b, off, rfl, hc⟩
  · simp at hu
  · cases hx
    rw [List.getElem?_map, Option.map_eq_some_iff] at hu
    obtain ⟨s, hs, rfl⟩ := hu
    obtain ⟨hj, rfl⟩ := List.getElem?_eq_some_iff.1 hs
    rw [show (⟨b, off, none⟩ : Addr).add j = ⟨b, off + j, none⟩ by unfold Addr.add; split <;> simp_all]
    exact hc j hj

theorem SL.take {w : World} {a : Option Addr} {ss : List ByteArray} (h : SL w a ss) (k : Nat) : SL w a (ss.take k) := by
  rcases h with rfl | ⟨b, off, rfl, hc⟩
  · exact .inl (by simp)
  · exact .inr ⟨b, off, rfl, fun j hj => by rw [hc j (by simp at hj; omega)]; simp⟩

theorem SL.drop {w : World} {b off : Nat} {ss : List ByteArray} (h : SL w (some ⟨b, off, none⟩) ss) (k : Nat) : SL w (some ⟨b, off + k, none⟩) (ss.drop k) := by
  rcases h with rfl | ⟨b', off', e, hc⟩
  · exact .inl (by simp)
  · cases e
    refine .inr ⟨b, off + k, rfl, fun j hj => ?_⟩
    rw [Nat.add_assoc, hc (k + j) (by simp at hj; omega)]
    simp

/-- The copy of the list: a row of the call's own. -/
theorem copied (w : World) (x : Addr) (cap : Nat) (C : Array Value) (ss : List ByteArray) (hC : C.size = ss.length) (hs : SL w (some x) ss) :
    ∃ w1, (Builtin.copy_ #[22, 22] 3 #[.slice (some ⟨w.heap.size, 0, none⟩) ss.length ss.length, .slice (some x) ss.length cap]).run Try.prog (w.alloc (.cells C 9)) = .ok (goInt ss.length) w1 ∧ Below w.heap.size w w1 ∧ w1.heap.size = w.heap.size + 1 ∧
      Hid (SL w1 (some ⟨w.heap.size, 0, none⟩) ss) := by
  have hg : (w.alloc (.cells C 9)).heap[w.heap.size]? = some (.cells C 9 (0, 0)) := heap_alloc_new w _
  have hlen : (ss.map Value.string).length = ss.length := by simp
  have hcp := run_copy_row Try.prog (w.alloc (.cells C 9)) 22 22 3 9 w.heap.size 0 ss.length ss.length x ss.length cap C 9 (ss.map Value.string) Try.underlying22 (by kernel_rfl) hg (by simp)
    (fun j v hv => by
      have h := hs.cells x rfl j v hv
      have hb := World.block_lt_of_cell? w _ h
      rw [World.cell?_alloc_lt _ _ _ hb]
      exact h) (by simp [hC]) (str_oneCell ss)
  refine ⟨_, by rw [hcp, hlen], ?_, ?_, ?_⟩
  · refine ⟨rfl, rfl, rfl, ?_, ?_⟩
    · simp [World.setRow]
    · intro k hk
      simp only [World.setRow, Array.getElem?_modify]
      rw [if_neg (by omega)]
      exact Below.heap_alloc w _ k hk
  · simp [World.setRow]
  · refine SL.of_row (setRow_heap _ _ C _ 9 (0, 0) hg) (fun j hj => ?_)
    simp [List.getElem?_append, hj]

theorem SL.drewN {w : World} {a : Option Addr} {ss : List ByteArray} (h : SL w a ss) (n : Nat) : SL (w.drewN n) a ss := by
  rcases h with rfl | ⟨b, off, rfl, hc⟩
  · exact .inl rfl
  · exact .inr ⟨b, off, rfl, fun j hj => by rw [← hc j hj]; simp⟩

theorem SL.one {w : World} {b : Nat} {ss : List ByteArray} (h : SL w (some ⟨b, 0, none⟩) ss) (k : Nat) (hk : k < ss.length) : SL w (some ⟨b, k, none⟩) [ss[k]'hk] := by
  have h2 := (h.drop k).take 1
  rw [Nat.zero_add] at h2
  rw [List.drop_eq_getElem_cons hk, List.take_succ_cons, List.take_zero] at h2
  exact h2

theorem SL.get {w : World} {b : Nat} {ss : List ByteArray} (h : SL w (some ⟨b, 0, none⟩) ss) (k : Nat) (hk : k < ss.length) : w.cell? ⟨b, k, none⟩ = some (.string (ss[k]'hk)) := by
  rcases h with rfl | ⟨b', off', e, hc⟩
  · simp at hk
  · cases e
    have := hc k hk
    rwa [Nat.zero_add] at this

theorem SL.grown {w w' : World} {b off : Nat} {ss : List ByteArray} {row : Option Nat} (h : SL w (some ⟨b, off, none⟩) ss) (hg : w.grownBy w' row) (hne : some b ≠ row) : SL w' (some ⟨b, off, none⟩) ss := by
  rcases h with rfl | ⟨b', off', e, hc⟩
  · exact .inl rfl
  · cases e
    exact .inr ⟨b, off, rfl, fun j hj => hg.cell (hc j hj) hne⟩

theorem SL.owned {w : World} {base g n cap : Nat} {ss : List ByteArray} (h : w.ownsRow base 9 1 (.slice (some ⟨g, 0, none⟩) n cap) n (ss.map Value.string)) : SL w (some ⟨g, 0, none⟩) ss := by
  refine .inr ⟨g, 0, rfl, fun j hj => ?_⟩
  have := h.cells (g := g) rfl j (.string ss[j]) (by simp [hj])
  rw [show (⟨g, 0, none⟩ : Addr).add j = ⟨g, 0 + j, none⟩ by unfold Addr.add; split <;> simp_all] at this
  exact this

theorem one_cell (w : World) (s : ByteArray) : ∀ x, some (⟨w.heap.size, 0, none⟩ : Addr) = some x → ∀ j u, [Value.string s][j]? = some u → (w.alloc (.cells #[.string s] 9)).cell? (x.add j) = some u := by
  intro x hx j u hu
  cases hx
  match j, hu with
  | 0, hu => simp at hu; subst hu; simp [Addr.add]

theorem made_list {w0 w w' : World} {ss : List ByteArray} (h : Hid (SL w (some ⟨w0.heap.size, 0, none⟩) ss ∧ w.heap.size = w0.heap.size + 1)) (hg : w.grownBy w' none) : Hid (SL w' (some ⟨w0.heap.size, 0, none⟩) ss) :=
  h.out.1.grown hg (by simp)
theorem made_below {w0 w w' : World} (h : Hid (Below w0.heap.size w0 w)) (hg : w.grownBy w' none) : Hid (Below w0.heap.size w0 w') :=
  h.out.grown hg h.out.size (by simp)

/-- The list behind two appends to another row. -/
theorem kept_list {w0 w7 w8 w9 w10 : World} {o : Obj} {ss : List ByteArray} (h7 : Hid (SL w7 (some ⟨w0.heap.size, 0, none⟩) ss ∧ w7.heap.size = w0.heap.size + 1)) (h8 : Hid (SL w8 (some ⟨w0.heap.size, 0, none⟩) ss))
    (hg9 : w8.grownBy w9 (some w7.heap.size)) (hg10 : (w9.alloc o).grownBy w10 (some w7.heap.size)) : SL w10 (some ⟨w0.heap.size, 0, none⟩) ss := by
  have hne : some w0.heap.size ≠ some w7.heap.size := by
    rw [h7.out.2]
    intro e
    have := Option.some.inj e
    omega
  exact ((h8.out.grown hg9 hne).grown (World.grownBy_alloc w9 o none) (by simp)).grown hg10 hne

theorem kept_below {w0 w7 w8 w9 w10 w11 : World} {o : Obj} (hs : w0.heap.size ≤ w7.heap.size) (h8 : Hid (Below w0.heap.size w0 w8))
    (hg9 : w8.grownBy w9 (some w7.heap.size)) (hg10 : (w9.alloc o).grownBy w10 (some w7.heap.size)) (hg11 : w10.grownBy w11 (some w7.heap.size)) : Below w0.heap.size w0 w11 := by
  have r : ∀ k, some w7.heap.size = some k → w0.heap.size ≤ k := by intro k hk; cases hk; exact hs
  have h9 := h8.out.grown hg9 h8.out.size r
  have h9a := h9.alloc h9.size o
  have h10 := h9a.grown hg10 h9a.size r
  exact h10.grown hg11 h10.size r

theorem grown_list {w : World} {base g n cap : Nat} {xs ys : List ByteArray} {s : ByteArray} (h : w.ownsRow base 9 1 (.slice (some ⟨g, 0, none⟩) n cap) n ((xs.map Value.string ++ [Value.string s]) ++ ys.map Value.string)) :
    SL w (some ⟨g, 0, none⟩) (xs ++ [s] ++ ys) := by
  refine SL.owned (base := base) (n := n) (cap := cap) ?_
  simpa using h

theorem has_cut (ss : List ByteArray) (s : ByteArray) (k : Nat) : has ss s = (has (ss.take k) s || has (ss.drop k) s) := by
  unfold has
  rw [← List.any_append, List.take_append_drop]

theorem has_one (x s : ByteArray) : has [x] s = (x.toList == s.toList) := by simp [has]

theorem has_put (xs ys : List ByteArray) (s : ByteArray) : has (xs ++ [s] ++ ys) s = true := by simp [has]

set_option maxHeartbeats 800000 in
theorem main (a : Option Addr) (cap : Nat) (ss : List ByteArray) (s : ByteArray) (k : Nat) (w : World) (hm : ss.length ≤ maxLen) (hk : k ≤ ss.length) (hs : SL w a ss)
    (hnil : a = none → ss = [] ∧ cap = 0) :
    Calls Try.prog 3 #[.slice a ss.length cap, .string s, .int .i64 (k : Int)] w fun e w' => e = .returned (.bool true) ∧ Below w.heap.size w w' := by
  have HS : Hid (SL w a ss) := hs
  clear hs
  go_enter Try.func3, Try.ntmps3
  go_wp2_with fail
  refine (bytes4 a ss.length cap ss s _ _ rfl hm HS.out).mono ?_
  rintro e w' ⟨⟨b, rfl, -⟩, rfl⟩
  cases b with
  | false =>
    go_wp2
    go_ret
    exact ⟨rfl, Below.refl _ _⟩
  | true =>
    go_wp2_with fail
    refine (fits5 a ss.length cap ss s _ rfl hm HS.out).mono ?_
    rintro e w' ⟨⟨b, rfl, hb⟩, rfl⟩
    cases b with
    | false =>
      go_wp2
      go_ret
      exact ⟨rfl, Below.refl _ _⟩
    | true =>
      have hsmall := hb rfl
      clear hb
      cases a with
      | none =>
        obtain ⟨rfl, rfl⟩ := hnil rfl
        obtain rfl : k = 0 := by simpa using hk
        clear hnil
        have hne := run_neq_slice_nil (P := Try.prog) w' 22 9 none 0 0 Try.underlying22
        go_wp2_with fail
        refine (contains6 none 0 0 [] s _ rfl (by omega) (.inl rfl)).mono ?_
        rintro e w1 ⟨rfl, rfl⟩
        rw [show has [] s = false from rfl]
        go_wp2_with fail
        refine (contains6 none 0 0 [] s _ rfl (by omega) (.inl rfl)).mono ?_
        rintro e w1 ⟨rfl, rfl⟩
        rw [show has [] s = false from rfl]
        go_wp2_with fail
        refine (contains6 none 0 0 [] s _ rfl (by omega) (.inl rfl)).mono ?_
        rintro e w1 ⟨rfl, rfl⟩
        rw [show has [] s = false from rfl]
        go_wp2_with fail
        refine (contains6 none 0 0 [] s _ rfl (by omega) (.inl rfl)).mono ?_
        rintro e w1 ⟨rfl, rfl⟩
        rw [show has [] s = false from rfl]
        go_wp2_with fail
        refine (contains6 none 0 0 [] s _ rfl (by omega) (.inl rfl)).mono ?_
        rintro e w7 ⟨rfl, rfl⟩
        rw [show has [] s = false from rfl]
        obtain ⟨i0, hi, hz0, hz1, hz2⟩ := info_parts Try.info9
        have HI : Hid (i0.bytes = 16) := hz2
        have HB7 : Hid (Below w7.heap.size w7 w7) := Below.refl _ _
        clear hz2 hne HS
        go_wp2_with (first
          | (at_make; refine wpList_make_own _ rfl (.const (.int .i64 0)) (.tmp 85) 22 rfl w7.heap.size 9 i0 (.string ByteArray.empty) 1 Try.underlying22 hi hz0 hz1 .i64 .i64 _ 1 rfl rfl (by omega) (by rw [HI.out]; omega) (by unfold maxLen; omega) (Nat.le_refl _) ?_; intro w8 hown8 hgr8; have hbel8 := made_below HB7 hgr8)
          | (at_builtin; refine wpList_append_fits_any _ rfl (.tmp 87) (.tmp 90) 22 rfl w7.heap.size 9 i0 1 Try.underlying22 hi hz1 w7.heap.size 0 1 [] rfl hown8 none 0 0 (([] : List ByteArray).map Value.string) rfl (by simp) (by simp) (by simp) (by simp) (by omega) ?_; intro w9 hown9 hgr9; simp only [Nat.zero_add, List.nil_append] at hown9)
          | (at_builtin; refine wpList_append_fits_any _ rfl (.tmp 92) (.tmp 94) 22 rfl w7.heap.size 9 i0 1 Try.underlying22 hi hz1 w7.heap.size 0 1 (([] : List ByteArray).map Value.string) rfl (hown9.alloc _) (some ⟨w9.heap.size, 0, none⟩) 1 1 [.string s] rfl rfl (by simp) (one_cell w9 s) (by simp [Value.oneCell']) (by omega) ?_; intro w10 hown10 hgr10; simp only [Nat.zero_add] at hown10)
          | (at_builtin; refine wpList_append_fits_any _ rfl (.tmp 96) (.tmp 99) 22 rfl w7.heap.size 9 i0 1 Try.underlying22 hi hz1 w7.heap.size 1 1 _ rfl hown10 none 0 0 (([] : List ByteArray).map Value.string) rfl (by simp) (by simp) (by simp) (by simp) (by omega) ?_; intro w11 hown11 hgr11))
        refine (contains6 _ 1 1 ([] ++ [s] ++ []) s _ rfl (by omega) (grown_list hown11)).mono ?_
        rintro e w12 ⟨rfl, rfl⟩
        have HF := kept_below (Nat.le_refl _) hbel8 hgr9 hgr10 hgr11
        rw [has_put]
        clear hown8 hown9 hown10 hown11 hgr8 hgr9 hgr10 hgr11
        go_wp2
        go_ret
        exact ⟨rfl, HF⟩
      | some x =>
        clear hnil
        have hne := run_neq_slice_nil (P := Try.prog) w' 22 9 (some x) ss.length cap Try.underlying22
        obtain ⟨i0, hi, hz0, hz1, hz2⟩ := info_parts Try.info9
        have hmake := run_make (P := Try.prog) w' 22 9 i0 (.string ByteArray.empty) Try.underlying22 hi hz0 .i64 .i64 (ss.length : Int) (ss.length : Int) (by omega) (by omega) (by rw [hz2]; omega) (by omega)
        rw [hz1, Nat.mul_one, Int.toNat_natCast] at hmake
        have hC := size_madeCells (Value.string ByteArray.empty).cells ss.length
        generalize madeCells (Value.string ByteArray.empty).cells ss.length = C at hmake hC
        obtain ⟨w1, hcopy, hbel, hsz1, hcells⟩ := copied w' x cap C ss hC HS.out
        clear hz0 hz1 hz2 hi hC HS
        have hsz : Hid (w1.heap.size = w'.heap.size + 1) := hsz1
        clear hsz1
        go_wp2_with fail
        refine (contains6 _ _ _ ss s _ rfl (by omega) hcells.out).mono ?_
        rintro e w2 ⟨rfl, rfl⟩
        by_cases hkn : k < ss.length
        · go_wp2_with fail
          refine (contains6 _ _ _ (ss.take k) s _ (by simp; omega) (by omega) (hcells.out.take k)).mono ?_
          rintro e w3 ⟨rfl, rfl⟩
          go_wp2_with fail
          refine (contains6 (some ⟨w'.heap.size, k, none⟩) (ss.length - k) (ss.length - k) (ss.drop k) s _ (by simp) (by omega) (by have := hcells.out.drop k; rwa [Nat.zero_add] at this)).mono ?_
          rintro e w4 ⟨rfl, rfl⟩
          rw [has_cut ss s k]
          generalize has (ss.take k) s = L
          generalize has (ss.drop k) s = R
          cases L <;> cases R
          all_goals
            go_wp2_with fail
            refine (contains6 none 0 0 [] s _ rfl (by omega) (.inl rfl)).mono ?_
            rintro e w5 ⟨rfl, rfl⟩
            rw [show has [] s = false from rfl]
            go_wp2_with fail
            refine (contains6 _ 0 _ [] s _ rfl (by omega) (.inl rfl)).mono ?_
            rintro e w6 ⟨rfl, rfl⟩
            rw [show has [] s = false from rfl]
            go_wp2_with fail
            have hcellk := hcells.out.get k hkn
            go_quiet ((go_at_call 6; exact Calls.quiet_of_same (contains6 (some ⟨w'.heap.size, k, none⟩) 1 (ss.length - k) [ss[k]] s _ rfl (by omega) ((hcells.out.one k hkn).drewN _))))
            rw [has_one]
            generalize (ss[k].toList == s.toList) = c
            have hcells7 : Hid (SL (w6.drewN nq) (some ⟨w'.heap.size, 0, none⟩) ss) := hcells.out.drewN nq
            have hbel7 : Below w'.heap.size w' (w6.drewN nq) := hbel.trans ⟨rfl, rfl, rfl, Nat.le_refl _, fun _ _ => rfl⟩
            have hsz7 : Hid ((w6.drewN nq).heap.size = w'.heap.size + 1) := hsz
            generalize w6.drewN nq = w7 at *
            clear hcellk hcells hbel hsz hcopy hmake hne
            obtain ⟨i0, hi, hz0, hz1, hz2⟩ := info_parts Try.info9
            have HI : Hid (i0.bytes = 16) := hz2
            clear hz2
            cases c
            all_goals
              have HC7 : Hid (SL w7 (some ⟨w'.heap.size, 0, none⟩) ss ∧ w7.heap.size = w'.heap.size + 1) := ⟨hcells7.out, hsz7.out⟩
              have HB7 : Hid (Below w'.heap.size w' w7) := hbel7
              clear hcells7 hbel7 hsz7
              go_wp2_with (first
                | (at_make; refine wpList_make_own _ rfl (.const (.int .i64 0)) (.tmp 85) 22 rfl w7.heap.size 9 i0 (.string ByteArray.empty) 1 Try.underlying22 hi hz0 hz1 .i64 .i64 _ (ss.length + 1) rfl rfl (by omega) (by rw [HI.out]; omega) (by unfold maxLen; omega) (Nat.le_refl _) ?_; intro w8 hown8 hgr8; have hcells8 := made_list HC7 hgr8; have hbel8 := made_below HB7 hgr8)
                | (at_builtin; refine wpList_append_fits_any _ rfl (.tmp 87) (.tmp 90) 22 rfl w7.heap.size 9 i0 1 Try.underlying22 hi hz1 w7.heap.size 0 (ss.length + 1) [] rfl hown8 (some ⟨w'.heap.size, 0, none⟩) k ss.length ((ss.take k).map Value.string) rfl (by simp; omega) (by simp) ((hcells8.out.take k).cells) (str_oneCell _) (by omega) ?_; intro w9 hown9 hgr9; simp only [Nat.zero_add, List.nil_append] at hown9)
                | (at_builtin; refine wpList_append_fits_any _ rfl (.tmp 92) (.tmp 94) 22 rfl w7.heap.size 9 i0 1 Try.underlying22 hi hz1 w7.heap.size k (ss.length + 1) ((ss.take k).map Value.string) rfl (hown9.alloc _) (some ⟨w9.heap.size, 0, none⟩) 1 1 [.string s] rfl rfl (by simp) (one_cell w9 s) (by simp [Value.oneCell']) (by omega) ?_; intro w10 hown10 hgr10)
                | (at_builtin; refine wpList_append_fits_any _ rfl (.tmp 96) (.tmp 99) 22 rfl w7.heap.size 9 i0 1 Try.underlying22 hi hz1 w7.heap.size (k + 1) (ss.length + 1) _ rfl hown10 (some ⟨w'.heap.size, k, none⟩) (ss.length - k) (ss.length - k) ((ss.drop k).map Value.string) rfl (by simp) (by simp) (by have h := (kept_list HC7 hcells8 hgr9 hgr10).drop k; rw [Nat.zero_add] at h; exact h.cells) (str_oneCell _) (by omega) ?_; intro w11 hown11 hgr11))
              refine (contains6 _ _ _ (ss.take k ++ [s] ++ ss.drop k) s _ (by simp; omega) (by omega) (grown_list hown11)).mono ?_
              rintro e w12 ⟨rfl, rfl⟩
              have HF := kept_below (by rw [HC7.out.2]; omega) hbel8 hgr9 hgr10 hgr11
              rw [has_put]
              clear hown8 hown9 hown10 hown11 hgr8 hgr9 hgr10 hgr11
              go_wp2
              go_ret
              exact ⟨rfl, HF⟩
        · obtain rfl : k = ss.length := by omega
          go_wp2_with fail
          refine (contains6 _ _ _ ss s _ rfl (by omega) hcells.out).mono ?_
          rintro e w3 ⟨rfl, rfl⟩
          go_wp2_with fail
          refine (contains6 _ 0 0 [] s _ rfl (by omega) (.inl rfl)).mono ?_
          rintro e w4 ⟨rfl, rfl⟩
          rw [show has [] s = false from rfl]
          generalize has ss s = L
          cases L
          all_goals
            go_wp2_with fail
            refine (contains6 none 0 0 [] s _ rfl (by omega) (.inl rfl)).mono ?_
            rintro e w5 ⟨rfl, rfl⟩
            rw [show has [] s = false from rfl]
            go_wp2_with fail
            refine (contains6 _ 0 _ [] s _ rfl (by omega) (.inl rfl)).mono ?_
            rintro e w7 ⟨rfl, rfl⟩
            rw [show has [] s = false from rfl]
            obtain ⟨i0, hi, hz0, hz1, hz2⟩ := info_parts Try.info9
            have HI : Hid (i0.bytes = 16) := hz2
            have HC7 : Hid (SL w7 (some ⟨w'.heap.size, 0, none⟩) ss ∧ w7.heap.size = w'.heap.size + 1) := ⟨hcells.out, hsz.out⟩
            have HB7 : Hid (Below w'.heap.size w' w7) := hbel
            clear hz2 hcells hsz hbel hcopy hmake hne
            go_wp2_with (first
              | (at_make; refine wpList_make_own _ rfl (.const (.int .i64 0)) (.tmp 85) 22 rfl w7.heap.size 9 i0 (.string ByteArray.empty) 1 Try.underlying22 hi hz0 hz1 .i64 .i64 _ (ss.length + 1) rfl rfl (by omega) (by rw [HI.out]; omega) (by unfold maxLen; omega) (Nat.le_refl _) ?_; intro w8 hown8 hgr8; have hcells8 := made_list HC7 hgr8; have hbel8 := made_below HB7 hgr8)
              | (at_builtin; refine wpList_append_fits_any _ rfl (.tmp 87) (.tmp 90) 22 rfl w7.heap.size 9 i0 1 Try.underlying22 hi hz1 w7.heap.size 0 (ss.length + 1) [] rfl hown8 (some ⟨w'.heap.size, 0, none⟩) ss.length ss.length (ss.map Value.string) rfl (by simp) (by simp) (hcells8.out.cells) (str_oneCell _) (by omega) ?_; intro w9 hown9 hgr9; simp only [Nat.zero_add, List.nil_append] at hown9)
              | (at_builtin; refine wpList_append_fits_any _ rfl (.tmp 92) (.tmp 94) 22 rfl w7.heap.size 9 i0 1 Try.underlying22 hi hz1 w7.heap.size ss.length (ss.length + 1) (ss.map Value.string) rfl (hown9.alloc _) (some ⟨w9.heap.size, 0, none⟩) 1 1 [.string s] rfl rfl (by simp) (one_cell w9 s) (by simp [Value.oneCell']) (by omega) ?_; intro w10 hown10 hgr10)
              | (at_builtin; refine wpList_append_fits_any _ rfl (.tmp 96) (.tmp 99) 22 rfl w7.heap.size 9 i0 1 Try.underlying22 hi hz1 w7.heap.size (ss.length + 1) (ss.length + 1) _ rfl hown10 (some ⟨w'.heap.size, 0, none⟩) 0 0 (([] : List ByteArray).map Value.string) rfl (by simp) (by simp) (by simp) (by simp) (by omega) ?_; intro w11 hown11 hgr11))
            refine (contains6 _ _ _ (ss ++ [s] ++ []) s _ (by simp) (by omega) (grown_list hown11)).mono ?_
            rintro e w12 ⟨rfl, rfl⟩
            have HF := kept_below (by rw [HC7.out.2]; omega) hbel8 hgr9 hgr10 hgr11
            rw [has_put]
            clear hown8 hown9 hown10 hown11 hgr8 hgr9 hgr10 hgr11
            go_wp2
            go_ret
            exact ⟨rfl, HF⟩

set_option maxHeartbeats 400000 in
/-- A cut outside the list: nothing is asked. -/
theorem outside (a : Option Addr) (cap : Nat) (ss : List ByteArray) (s : ByteArray) (k : Int) (w : World) (hm : ss.length ≤ maxLen) (hk : k < 0 ∨ (ss.length : Int) < k) (hs : SL w a ss) :
    Calls Try.prog 3 #[.slice a ss.length cap, .string s, .int .i64 k] w fun e w' => e = .returned (.bool true) ∧ Below w.heap.size w w' := by
  have HS : Hid (SL w a ss) := hs
  clear hs
  go_enter Try.func3, Try.ntmps3
  go_wp2_with fail
  refine (bytes4 a ss.length cap ss s _ _ rfl hm HS.out).mono ?_
  rintro e w' ⟨⟨b, rfl, -⟩, rfl⟩
  cases b with
  | false =>
    go_wp2
    go_ret
    exact ⟨rfl, Below.refl _ _⟩
  | true =>
    go_wp2_with fail
    refine (fits5 a ss.length cap ss s _ rfl hm HS.out).mono ?_
    rintro e w' ⟨⟨b, rfl, hb⟩, rfl⟩
    clear hb
    cases b with
    | false =>
      go_wp2
      go_ret
      exact ⟨rfl, Below.refl _ _⟩
    | true =>
      by_cases hk0 : k < 0
      · clear hk
        go_wp2
        go_ret
        exact ⟨rfl, Below.refl _ _⟩
      · have hk1 : (ss.length : Int) < k := by omega
        clear hk
        go_wp2
        go_ret
        exact ⟨rfl, Below.refl _ _⟩

end Go.Proofs.Qxb6619361a
