/-
  The law FnIntegerNextIsSuccessor: the walk by the callees' contracts, and the row.
-/
import Derived.Test.Qxb6619337aNext
import Derived.ProofKit
import Derived.OpenShut
namespace Go.Proofs.Qxb6619337a.fnIntegerNextIsSuccessor
open Go.ChangeShapes Go.WideShapes Go.ChangeAt Go.RowKit
open Go.ChangeMaps (open_string shut_string)
set_option linter.unusedVariables false

theorem own : ownKnob Try.prog.godebug = none := by kernel_rfl
theorem laidOut : laidOutB Try.prog = true := by kernel_rfl

theorem less_run (p z q : List UInt8) (c : UInt8) (hc : c.toNat < 57) : Op.bytesLess (p ++ (c + 1) :: z) (p ++ c :: q) = false := by
  induction p with
  | nil =>
    have h := Plain.toNat_succ hc
    have h1 : ¬ (c + 1 < c) := by rw [UInt8.lt_iff_toNat_lt]; omega
    have h2 : (c + 1 == c) = false := by
      rw [beq_eq_false_iff_ne]
      intro e
      have := congrArg UInt8.toNat e
      omega
    simp [Op.bytesLess, h1, h2]
  | cons a p ih =>
    have h1 : ¬ (a < a) := by rw [UInt8.lt_iff_toNat_lt]; omega
    simp [Op.bytesLess, h1, ih]

theorem greater_next (l : List UInt8) : (if (Plain.next l).length = l.length then !(Op.bytesLess (Plain.next l) l) && !(Plain.next l == l) else decide (l.length < (Plain.next l).length)) = true := by
  rcases Plain.split_last (fun c => c.toNat < 57) l with hq | ⟨p, c, q, rfl, hc, hq⟩
  · rw [Plain.next_all l hq]
    rw [if_neg (by simp)]
    simp
  · rw [Plain.next_run p q c hq hc]
    rw [if_pos (by simp), less_run p _ q c hc]
    have hne : (p ++ (c + 1) :: List.replicate q.length 48) ≠ p ++ c :: q := by
      intro e
      have e2 := List.append_cancel_left e
      simp only [List.cons.injEq] at e2
      have h := Plain.toNat_succ hc
      have := congrArg UInt8.toNat e2.1
      omega
    simp [hne]

theorem next_len (l : List UInt8) : (Plain.next l).length ≤ l.length + 1 := by
  rcases Plain.split_last (fun c => c.toNat < 57) l with hq | ⟨p, c, q, rfl, hc, hq⟩
  · rw [Plain.next_all l hq]; simp
  · rw [Plain.next_run p q c hq hc]; simp

theorem walk (a0 : ByteArray) (w0 : a0.size ≤ maxLen) (w : World) :
    Calls Try.prog 3 #[.string a0] w fun e w' => e = .returned (.bool true) ∧ Below w.heap.size w w' := by
  by_cases hsz : a0.size ≤ 1048576
  · cases hi : Plain.isInt a0.data.toList with
    | false =>
      have Hi := hi
      clear hi
      have hi : Hid (Plain.isInt a0.data.toList = false) := Hi
      clear Hi
      go_enter Try.func3, Try.ntmps3
      go_wp2_with fail
      refine (bytes6 a0 _ w0).mono ?_
      rintro e w' ⟨rfl, rfl⟩
      go_wp2_with fail
      refine (int7 a0 _ w0).mono ?_
      rintro e w' ⟨rfl, rfl⟩
      rw [hi.out]
      go_wp2
      go_ret
      exact ⟨rfl, Below.refl _ _⟩
    | true =>
      have Hi := hi
      clear hi
      have hi : Hid (Plain.isInt a0.data.toList = true) := Hi
      clear Hi
      have hrs : Hid ((⟨(Plain.next a0.data.toList).toArray⟩ : ByteArray).size ≤ 1048577) := by
        show (Plain.next a0.data.toList).toArray.size ≤ _
        have := next_len a0.data.toList
        rw [toList_len] at this
        simp
        omega
      have hgr : Hid ((if (⟨(Plain.next a0.data.toList).toArray⟩ : ByteArray).size = a0.size then !(Op.bytesLess (ByteArray.toList ⟨(Plain.next a0.data.toList).toArray⟩) a0.toList) && !(ByteArray.toList ⟨(Plain.next a0.data.toList).toArray⟩ == a0.toList) else decide (a0.size < (⟨(Plain.next a0.data.toList).toArray⟩ : ByteArray).size)) = true) := by
        have := greater_next a0.data.toList
        rw [ByteArray.toList_mk, ByteArray.toList_eq]
        exact this
      have hri := Plain.isInt_next _ hi.out
      have hdn : Hid (Plain.dec (Plain.next a0.data.toList) = (a0.data.toList, true)) := Plain.dec_next _ hi.out
      have hrd : Hid (∀ x ∈ (Plain.next a0.data.toList), Plain.dig x = true) := ((Plain.isInt_iff _).1 hri).2.2
      have Hri : Hid (Plain.isInt (Plain.next a0.data.toList) = true) := hri
      clear hri
      generalize hN : Plain.next a0.data.toList = N at *
      have HN : Hid (Plain.next a0.data.toList = N) := hN
      clear hN
      have hml : (⟨N.toArray⟩ : ByteArray).size ≤ maxLen := by have := hrs.out; unfold maxLen; omega
      go_enter Try.func3, Try.ntmps3
      go_wp2_with fail
      refine (bytes6 a0 _ w0).mono ?_
      rintro e w' ⟨rfl, rfl⟩
      go_wp2_with fail
      refine (int7 a0 _ w0).mono ?_
      rintro e w' ⟨rfl, rfl⟩
      rw [hi.out]
      go_wp2_with fail
      refine (next8 a0 _ (by omega)).mono ?_
      rintro e w1 ⟨rfl, hb1⟩
      rw [HN.out]
      go_wp2_with fail
      refine (int7 ⟨N.toArray⟩ _ hml).mono ?_
      rintro e w2 ⟨rfl, rfl⟩
      rw [show (⟨N.toArray⟩ : ByteArray).data.toList = N from rfl, Hri.out]
      go_wp2_with fail
      refine (greater9 ⟨N.toArray⟩ a0 _).mono ?_
      rintro e w3 ⟨rfl, rfl⟩
      rw [hgr.out]
      go_wp2_with fail
      refine (dec10 ⟨N.toArray⟩ _ hrs.out hrd.out).mono ?_
      rintro e w4 ⟨rfl, hb4⟩
      rw [show (⟨N.toArray⟩ : ByteArray).data.toList = N from rfl, hdn.out]
      go_wp2
      go_ret
      exact ⟨ret_bool (by simp), hb1.trans (hb4.mono hb1.size)⟩
  · go_enter Try.func3, Try.ntmps3
    go_wp2_with fail
    refine (bytes6 a0 _ w0).mono ?_
    rintro e w' ⟨rfl, rfl⟩
    go_wp2
    go_ret
    exact ⟨rfl, Below.refl _ _⟩

/-! ### THE ROW's STEP: WRITTEN OUT: LEAVE IT -/
set_option maxRecDepth 100000 in
theorem lifted (os : Os) (started : os.Started) (H : Type) (enc : TypeId × Value → H) :
    ReturnsInHanded {} Try.checked os 3 .any (Rows.fnIntegerNextIsSuccessorSpec.pre6 enc Try.prog Try.f3 Rows.fnIntegerNextIsSuccessorRow.domain false) (Rows.fnIntegerNextIsSuccessorSpec.post enc Try.prog Try.f3 false true false false) := by
  refine returnsInHanded_of_change (C := Try.checked) own started (by kernel_rfl) Try.func3
    (ChangeSpec.witness6 (enc := enc) (C := Try.checked) false ⟨#[], #[.string ByteArray.empty], []⟩ 8 (by kernel_rfl) (by kernel_rfl) (by kernel_rfl) (by kernel_rfl)) ?_
  intro W base args ds gs before hval0 hW hcnd _
  have hval : ∀ (j : Nat) t v, Try.f3.params[j]? = some t → args[j]? = some v → Value.okWide Try.prog W .any base t v := hval0
  have hW' := hW
  obtain ⟨p, q, hA0, hV, rfl, hfz, hnd⟩ := hW
  have hA : DataW.TrodAll enc Try.prog W 0 (fun _ => true) true Try.f3.params.toList args.toList ds p := hA0
  rw [Try.params3] at hA hval
  obtain ⟨v0, vs0, d0, ds0, p0, q0, hargs, rfl, rfl, h0, r0⟩ := trodAll_cons hA
  obtain ⟨rfl, rfl, rfl⟩ := trodAll_nil r0
  obtain rfl : args = #[v0] := by cases args; simp_all
  obtain ⟨rfl, rfl⟩ := trodVars_none hV
  have k0 := h0
  have lt0 : ∀ x ∈ p0, x.block < W.heap.size := by obtain ⟨m, hm⟩ := k0; exact DataW.trod_lt m _ _ _ hm
  obtain ⟨a0, rfl, rfl, rfl, w0⟩ := open_string Try.underlying9 (hval 0 9 v0 rfl rfl) h0
  clear hA0 hval0
  refine (walk a0 w0 W).mono fun e W' ⟨he, bel⟩ => ?_
  subst he
  exact ⟨_, rfl, _, _, _, [], _, [], hW', trodAll_mk1 (shut_bool Try.underlying4 _), (trodAll_cons_mk (Below.trod laidOut (by kernel_rfl) (of_decide_eq_true (by kernel_rfl)) k0 bel lt0) trodAll_mk0), rfl, bel.frame _, fun h => by cases h⟩

theorem over : Rows.fnIntegerNextIsSuccessorRow.holds Try.pinned (OpenSpec.ofChange Rows.fnIntegerNextIsSuccessorSpec) :=
  OpenClaim.holds_of_wide 3 Try.f3 rfl rfl rfl rfl rfl rfl rfl ⟨rfl, rfl, rfl, rfl, rfl⟩ rfl rfl rfl rfl rfl (by kernel_rfl) Try.func3 (by kernel_rfl)
    (of_decide_eq_true (by kernel_rfl)) (by unfold Func.isWrapper; first | (rw [if_pos (by decide +kernel)]; kernel_rfl) | (rw [if_neg (by decide +kernel)]; exact ⟨rfl, rfl⟩))
    (fun os started H enc _ => lifted os started H enc)

/-- ████ THE STATEMENT ████ -/
theorem proved : Rows.FnIntegerNextIsSuccessorSaid :=
  over
#print axioms proved
end Go.Proofs.Qxb6619337a.fnIntegerNextIsSuccessor
