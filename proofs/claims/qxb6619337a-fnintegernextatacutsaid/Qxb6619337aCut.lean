/-
  The law FnIntegerNextAtACut: the walk by the callees' contracts, and the row.
-/
import Derived.Test.Qxb6619337aCutWalks
import Derived.ProofKit
import Derived.OpenShut
namespace Go.Proofs.Qxb6619337a.fnIntegerNextAtACut
open Go.ChangeShapes Go.WideShapes Go.ChangeAt Go.RowKit
open Go.ChangeMaps (open_string shut_string)
set_option linter.unusedVariables false

theorem own : ownKnob Try.prog.godebug = none := by kernel_rfl
theorem laidOut : laidOutB Try.prog = true := by kernel_rfl

theorem next_len (l : List UInt8) : (Plain.next l).length ≤ l.length + 1 := by
  rcases Plain.split_last (fun c => c.toNat < 57) l with hq | ⟨p, c, q, rfl, hc, hq⟩
  · rw [Plain.next_all l hq]; simp
  · rw [Plain.next_run p q c hq hc]; simp

theorem bytes_of {s : ByteArray} {l : List UInt8} (h : s.data.toList = l) : s = ⟨l.toArray⟩ := by
  subst h; rfl

theorem last_of (s : ByteArray) (y : List UInt8) (z : UInt8) (h : s.data.toList = y ++ [z]) (hlt : s.size - 1 < s.size) : s[s.size - 1]'hlt = z := by
  obtain rfl := bytes_of h
  have e : (⟨(y ++ [z]).toArray⟩ : ByteArray).size - 1 = y.length := by
    show (y ++ [z]).toArray.size - 1 = _
    simp
  have : (⟨(y ++ [z]).toArray⟩ : ByteArray)[(⟨(y ++ [z]).toArray⟩ : ByteArray).size - 1]'hlt = (y ++ [z])[(⟨(y ++ [z]).toArray⟩ : ByteArray).size - 1]'(by rw [e]; simp) := rfl
  rw [this]
  simp [e]

theorem cut_parts (s : ByteArray) (k : Nat) (h : k ≤ s.size) : (s.extract 0 k).data.toList = s.data.toList.take k ∧ (s.extract k s.size).data.toList = s.data.toList.drop k := by
  obtain ⟨⟨l⟩⟩ := s
  rw [ByteArray.extract_mk, ByteArray.extract_mk]
  simp
  have : (⟨⟨l⟩⟩ : ByteArray).size = l.length := rfl
  rw [this, List.take_of_length_le (by simp)]

/-- ALL THAT THE WALK NEEDS OF THE TEXTS, with no Go in sight. -/
theorem facts (l a b : List UInt8) (hl : l = a ++ b) (hb : b ≠ []) (hd : ∀ x ∈ b, Plain.dig x = true) :
    ∃ (y' : List UInt8) (x : UInt8) (y : List UInt8) (z : UInt8), b = y' ++ [x] ∧ Plain.next b = y ++ [z] ∧ (x.toNat < 57 → z.toNat = x.toNat + 1) ∧ (¬ x.toNat < 57 → z.toNat = 48) ∧
      (nines b = true → Plain.next b = 49 :: List.replicate b.length 48 ∧ Plain.next l = Plain.next a ++ (Plain.next b).drop 1) ∧
      (nines b = false → (Plain.next b).length = b.length ∧ Plain.next l = a ++ Plain.next b) := by
  have e : b = b.dropLast ++ [b.getLast hb] := (List.dropLast_concat_getLast hb).symm
  obtain ⟨y, hy⟩ := Plain.next_last b.dropLast (b.getLast hb)
  rw [← e] at hy
  have hn : nines b = true ↔ ∀ x ∈ b, ¬ x.toNat < 57 := by
    unfold nines
    rw [List.all_eq_true]
    constructor
    · intro h x hx
      have : x = 57 := by simpa using h x hx
      rw [this]; decide
    · intro h x hx
      have := Plain.nine_of (hd x hx) (h x hx)
      simp [this]
  refine ⟨_, _, y, _, e, hy, ?_, ?_, ?_, ?_⟩
  · intro h; rw [if_pos h]; exact Plain.toNat_succ h
  · intro h; rw [if_neg h]; rfl
  · intro h
    have h2 := hn.1 h
    have h3 := Plain.next_all b h2
    refine ⟨h3, ?_⟩
    rw [hl, Plain.next_cut_nines a b h2, h3]
    simp
  · intro h
    have h2 : ¬ ∀ x ∈ b, ¬ x.toNat < 57 := fun h3 => by rw [hn.2 h3] at h; cases h
    rw [hl]
    exact Plain.next_cut_else a b h2

set_option maxHeartbeats 400000 in
theorem walk (a0 : ByteArray) (a1 : Int) (w0 : a0.size ≤ maxLen) (w1 : (Lit.int .i64 a1).wf = true) (w : World) :
    Calls Try.prog 4 #[.string a0, .int .i64 a1] w fun e w' => e = .returned (.bool true) ∧ Below w.heap.size w w' := by
  by_cases hsz : a0.size ≤ 1048576
  · cases hi : Plain.isInt a0.data.toList with
    | false =>
      have Hi := hi
      clear hi
      have hi : Hid (Plain.isInt a0.data.toList = false) := Hi
      clear Hi
      go_enter Try.func4, Try.ntmps4
      go_wp2_with fail
      refine (bytes11 a0 _ _ w0).mono ?_
      rintro e w' ⟨rfl, rfl⟩
      go_wp2_with fail
      refine (int7 a0 _ w0).mono ?_
      rintro e w' ⟨rfl, rfl⟩
      rw [hi.out]
      go_wp2
      go_ret
      exact ⟨rfl, Below.refl _ _⟩
    | true =>
      have Hi := hi
      clear hi
      have hi : Hid (Plain.isInt a0.data.toList = true) := Hi
      clear Hi
      by_cases hk : 1 ≤ a1 ∧ a1 < a0.size
      · obtain ⟨hk1, hk2⟩ := hk
        obtain ⟨k, rfl⟩ := Int.eq_ofNat_of_zero_le (show 0 ≤ a1 by omega)
        have hcut := cut_parts a0 k (by omega)
        have hAs : (a0.extract 0 k).size = k := by rw [← toList_len, hcut.1]; simp; have := toList_len a0; simp at this; omega
        have hBs : (a0.extract k a0.size).size = a0.size - k := by rw [← toList_len, hcut.2]; simp
        have hbne : a0.data.toList.drop k ≠ [] := by
          intro h
          have := congrArg List.length h
          have h2 := toList_len a0
          simp at this h2
          omega
        obtain ⟨y', x, y, z, hb', hnb, hz1, hz2, hn1, hn2⟩ := facts a0.data.toList (a0.data.toList.take k) (a0.data.toList.drop k) (List.take_append_drop _ _).symm hbne (fun x hx => ((Plain.isInt_iff _).1 hi.out).2.2 x (List.mem_of_mem_drop hx))
        rw [← hcut.2] at hb' hnb hn1 hn2
        rw [← hcut.1] at hn1 hn2
        have HA : Hid ((a0.extract 0 k).data.toList = a0.data.toList.take k) := hcut.1
        have HN1 : Hid (nines (a0.extract k a0.size).data.toList = true → Plain.next (a0.extract k a0.size).data.toList = 49 :: List.replicate (a0.extract k a0.size).data.toList.length 48 ∧ Plain.next a0.data.toList = Plain.next (a0.extract 0 k).data.toList ++ (Plain.next (a0.extract k a0.size).data.toList).drop 1) := hn1
        have HN2 : Hid (nines (a0.extract k a0.size).data.toList = false → (Plain.next (a0.extract k a0.size).data.toList).length = (a0.extract k a0.size).data.toList.length ∧ Plain.next a0.data.toList = (a0.extract 0 k).data.toList ++ Plain.next (a0.extract k a0.size).data.toList) := hn2
        have HZ1 : Hid (x.toNat < 57 → z.toNat = x.toNat + 1) := hz1
        have HZ2 : Hid (¬ x.toNat < 57 → z.toNat = 48) := hz2
        have HB : Hid ((a0.extract k a0.size).data.toList = y' ++ [x]) := hb'
        have HNB : Hid (Plain.next (a0.extract k a0.size).data.toList = y ++ [z]) := hnb
        have hAle : (a0.extract 0 k).size ≤ 1048576 := by omega
        have hBle : (a0.extract k a0.size).size ≤ 1048576 := by omega
        have hBpos : 0 < (a0.extract k a0.size).size := by omega
        clear hcut hbne hb' hnb hz1 hz2 hn1 hn2 hAs hBs
        go_enter Try.func4, Try.ntmps4
        go_wp2_with fail
        refine (bytes11 a0 _ _ w0).mono ?_
        rintro e w' ⟨rfl, rfl⟩
        go_wp2_with fail
        refine (int7 a0 _ w0).mono ?_
        rintro e w' ⟨rfl, rfl⟩
        rw [hi.out]
        go_wp2_with fail
        generalize a0.extract 0 k = A at *
        generalize a0.extract k a0.size = B at *
        refine (next8 a0 _ (by omega)).mono ?_
        rintro e w1 ⟨rfl, hb1⟩
        generalize hN : (⟨(Plain.next a0.data.toList).toArray⟩ : ByteArray) = N
        have HN : Hid (N.data.toList = Plain.next a0.data.toList) := by rw [← hN]; rfl
        clear hN
        go_wp2_with fail
        refine (next8 A _ (by omega)).mono ?_
        rintro e w2 ⟨rfl, hb2⟩
        generalize hna : (⟨(Plain.next A.data.toList).toArray⟩ : ByteArray) = na
        have Hna : Hid (na.data.toList = Plain.next A.data.toList) := by rw [← hna]; rfl
        clear hna
        go_wp2_with fail
        refine (next8 B _ (by omega)).mono ?_
        rintro e w3 ⟨rfl, hb3⟩
        generalize hnb : (⟨(Plain.next B.data.toList).toArray⟩ : ByteArray) = nb
        have Hnb : Hid (nb.data.toList = Plain.next B.data.toList) := by rw [← hnb]; rfl
        clear hnb
        have hbel : Below w'.heap.size w' w3 := (hb1.trans (hb2.mono hb1.size)).trans (hb3.mono (Nat.le_trans hb1.size hb2.size))
        clear hb1 hb2 hb3
        have hnas : na.size ≤ 1048577 := by rw [← toList_len, Hna.out]; have := next_len A.data.toList; rw [toList_len] at this; omega
        have hnbs : nb.size ≤ 1048577 := by rw [← toList_len, Hnb.out]; have := next_len B.data.toList; rw [toList_len] at this; omega
        have hnbp : 0 < nb.size := by rw [← toList_len, Hnb.out, HNB.out]; simp
        have hx := last_of B y' x HB.out (by omega)
        have hz := last_of nb y z (by rw [Hnb.out, HNB.out]) (by omega)
        have hnz : ((nb.size : Int) == 0) = false := beq_eq_false_iff_ne.2 (by omega)
        have hml : B.size ≤ maxLen := by unfold maxLen; omega
        have hcase : Hid ((nines B.data.toList = true ∧ nb.data.toList = 49 :: List.replicate B.size 48 ∧ N.toList = (na ++ nb.extract 1 nb.size).toList) ∨
            (nines B.data.toList = false ∧ nb.size = B.size ∧ N.toList = (A ++ nb).toList)) := by
          cases h9 : nines B.data.toList with
          | true =>
            left
            have h := HN1.out h9
            refine ⟨rfl, by rw [Hnb.out]; exact h.1, ?_⟩
            rw [ByteArray.toList_eq, ByteArray.toList_eq, HN.out, h.2, ByteArray.data_append]
            simp only [Array.toList_append]
            rw [Hna.out, (cut_parts nb 1 (by omega)).2, Hnb.out]
          | false =>
            right
            have h := HN2.out h9
            refine ⟨rfl, ?_, ?_⟩
            · rw [← toList_len, Hnb.out, h.1]; rfl
            · rw [ByteArray.toList_eq, ByteArray.toList_eq, HN.out, h.2, ByteArray.data_append]
              simp only [Array.toList_append]
              rw [Hnb.out]
        clear HN HN1 HN2 Hna Hnb HA HB HNB
        by_cases hx9 : x.toNat < 57
        · have hzx : (z.toNat : Int) = (x.toNat : Int) + 1 := by have := HZ1.out hx9; omega
          clear HZ1 HZ2
          go_wp2_with fail
          refine (nines12 B _ hml).mono ?_
          rintro e w4 ⟨rfl, rfl⟩
          rcases hcase.out with ⟨e1, e2, e3⟩ | ⟨e1, e2, e3⟩
          · rw [e1]
            have H2 : Hid (nb.data.toList = 49 :: List.replicate B.size 48) := e2
            have H3 : Hid (N.toList = (na ++ nb.extract 1 nb.size).toList) := e3
            clear e1 e2 e3 hcase
            go_wp2_with fail
            refine (ones13 nb B.size _ (by omega) H2.out).mono ?_
            rintro e w5 ⟨rfl, rfl⟩
            go_wp2
            go_ret
            exact ⟨ret_bool (by rw [H3.out]; simp), hbel⟩
          · rw [e1]
            have H2 : Hid (nb.size = B.size) := e2
            have hne : ((nb.size : Int) != (B.size : Int)) = false := by rw [bne_eq_false_iff_eq]; omega
            have H3 : Hid (N.toList = (A ++ nb).toList) := e3
            clear e1 e2 e3 hcase
            go_wp2
            go_ret
            exact ⟨ret_bool (by rw [H3.out]; simp), hbel⟩
        · have hzx : (z.toNat : Int) = 48 := by have := HZ2.out hx9; omega
          clear HZ1 HZ2
          go_wp2_with fail
          refine (nines12 B _ hml).mono ?_
          rintro e w4 ⟨rfl, rfl⟩
          rcases hcase.out with ⟨e1, e2, e3⟩ | ⟨e1, e2, e3⟩
          · rw [e1]
            have H2 : Hid (nb.data.toList = 49 :: List.replicate B.size 48) := e2
            have H3 : Hid (N.toList = (na ++ nb.extract 1 nb.size).toList) := e3
            clear e1 e2 e3 hcase
            go_wp2_with fail
            refine (ones13 nb B.size _ (by omega) H2.out).mono ?_
            rintro e w5 ⟨rfl, rfl⟩
            go_wp2
            go_ret
            exact ⟨ret_bool (by rw [H3.out]; simp), hbel⟩
          · rw [e1]
            have H2 : Hid (nb.size = B.size) := e2
            have hne : ((nb.size : Int) != (B.size : Int)) = false := by rw [bne_eq_false_iff_eq]; omega
            have H3 : Hid (N.toList = (A ++ nb).toList) := e3
            clear e1 e2 e3 hcase
            go_wp2
            go_ret
            exact ⟨ret_bool (by rw [H3.out]; simp), hbel⟩
      · have hk' : a1 < 1 ∨ (a0.size : Int) ≤ a1 := by omega
        clear hk
        by_cases hk1 : a1 < 1
        · clear hk'
          go_enter Try.func4, Try.ntmps4
          go_wp2_with fail
          refine (bytes11 a0 _ _ w0).mono ?_
          rintro e w' ⟨rfl, rfl⟩
          go_wp2_with fail
          refine (int7 a0 _ w0).mono ?_
          rintro e w' ⟨rfl, rfl⟩
          rw [hi.out]
          go_wp2
          go_ret
          exact ⟨rfl, Below.refl _ _⟩
        · have hk2 : (a0.size : Int) ≤ a1 := by omega
          clear hk'
          go_enter Try.func4, Try.ntmps4
          go_wp2_with fail
          refine (bytes11 a0 _ _ w0).mono ?_
          rintro e w' ⟨rfl, rfl⟩
          go_wp2_with fail
          refine (int7 a0 _ w0).mono ?_
          rintro e w' ⟨rfl, rfl⟩
          rw [hi.out]
          go_wp2
          go_ret
          exact ⟨rfl, Below.refl _ _⟩
  · go_enter Try.func4, Try.ntmps4
    go_wp2_with fail
    refine (bytes11 a0 _ _ w0).mono ?_
    rintro e w' ⟨rfl, rfl⟩
    go_wp2
    go_ret
    exact ⟨rfl, Below.refl _ _⟩

/-! ### THE ROW's STEP: WRITTEN OUT: LEAVE IT -/
set_option maxRecDepth 100000 in
theorem lifted (os : Os) (started : os.Started) (H : Type) (enc : TypeId × Value → H) :
    ReturnsInHanded {} Try.checked os 4 .any (Rows.fnIntegerNextAtACutSpec.pre6 enc Try.prog Try.f4 Rows.fnIntegerNextAtACutRow.domain false) (Rows.fnIntegerNextAtACutSpec.post enc Try.prog Try.f4 false true false false) := by
  refine returnsInHanded_of_change (C := Try.checked) own started (by kernel_rfl) Try.func4
    (ChangeSpec.witness6 (enc := enc) (C := Try.checked) false ⟨#[], #[.string ByteArray.empty, .int .i64 0], []⟩ 8 (by kernel_rfl) (by kernel_rfl) (by kernel_rfl) (by kernel_rfl)) ?_
  intro W base args ds gs before hval0 hW hcnd _
  have hval : ∀ (j : Nat) t v, Try.f4.params[j]? = some t → args[j]? = some v → Value.okWide Try.prog W .any base t v := hval0
  have hW' := hW
  obtain ⟨p, q, hA0, hV, rfl, hfz, hnd⟩ := hW
  have hA : DataW.TrodAll enc Try.prog W 0 (fun _ => true) true Try.f4.params.toList args.toList ds p := hA0
  rw [Try.params4] at hA hval
  obtain ⟨v0, vs0, d0, ds0, p0, q0, hargs, rfl, rfl, h0, r0⟩ := trodAll_cons hA
  obtain ⟨v1, vs1, d1, ds1, p1, q1, rfl, rfl, rfl, h1, r1⟩ := trodAll_cons r0
  obtain ⟨rfl, rfl, rfl⟩ := trodAll_nil r1
  obtain rfl : args = #[v0, v1] := by cases args; simp_all
  obtain ⟨rfl, rfl⟩ := trodVars_none hV
  have k0 := h0
  have lt0 : ∀ x ∈ p0, x.block < W.heap.size := by obtain ⟨m, hm⟩ := k0; exact DataW.trod_lt m _ _ _ hm
  have k1 := h1
  have lt1 : ∀ x ∈ p1, x.block < W.heap.size := by obtain ⟨m, hm⟩ := k1; exact DataW.trod_lt m _ _ _ hm
  obtain ⟨a0, rfl, rfl, rfl, w0⟩ := open_string Try.underlying9 (hval 0 9 v0 rfl rfl) h0
  obtain ⟨a1, rfl, rfl, rfl, w1⟩ := open_int Try.underlying3 (hval 1 3 v1 rfl rfl) h1
  clear hA0 hval0
  refine (walk a0 a1 w0 w1 W).mono fun e W' ⟨he, bel⟩ => ?_
  subst he
  exact ⟨_, rfl, _, _, _, [], _, [], hW', trodAll_mk1 (shut_bool Try.underlying4 _), (trodAll_cons_mk (Below.trod laidOut (by kernel_rfl) (of_decide_eq_true (by kernel_rfl)) k0 bel lt0) (trodAll_cons_mk (Below.trod laidOut (by kernel_rfl) (of_decide_eq_true (by kernel_rfl)) k1 bel lt1) trodAll_mk0)), rfl, bel.frame _, fun h => by cases h⟩

theorem over : Rows.fnIntegerNextAtACutRow.holds Try.pinned (OpenSpec.ofChange Rows.fnIntegerNextAtACutSpec) :=
  OpenClaim.holds_of_wide 4 Try.f4 rfl rfl rfl rfl rfl rfl rfl ⟨rfl, rfl, rfl, rfl, rfl⟩ rfl rfl rfl rfl rfl (by kernel_rfl) Try.func4 (by kernel_rfl)
    (of_decide_eq_true (by kernel_rfl)) (by unfold Func.isWrapper; first | (rw [if_pos (by decide +kernel)]; kernel_rfl) | (rw [if_neg (by decide +kernel)]; exact ⟨rfl, rfl⟩))
    (fun os started H enc _ => lifted os started H enc)

/-- ████ THE STATEMENT ████ -/
theorem proved : Rows.FnIntegerNextAtACutSaid :=
  over
#print axioms proved
end Go.Proofs.Qxb6619337a.fnIntegerNextAtACut
