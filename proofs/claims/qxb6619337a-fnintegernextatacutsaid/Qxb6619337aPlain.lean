/-
  Plain laws on decimal texts (lists of bytes): no Go in sight.
-/
namespace Go.Proofs.Qxb6619337a.Plain

def dig (c : UInt8) : Bool := decide (48 ≤ c.toNat) && decide (c.toNat ≤ 57)

/-- The form that Integer documents. -/
def isInt (l : List UInt8) : Bool := !l.isEmpty && !(decide (1 < l.length) && (l.head? == some 48)) && l.all dig

/-- One more, the digits from the last to the first. -/
def incR : List UInt8 → List UInt8
  | [] => [49]
  | c :: r => if c.toNat < 57 then (c + 1) :: r else 48 :: incR r
def next (l : List UInt8) : List UInt8 := (incR l.reverse).reverse

/-- One less by borrowing, the digits from the last to the first. -/
def decR : List UInt8 → Option (List UInt8)
  | [] => none
  | c :: r => if c = 48 then (decR r).map (57 :: ·) else some ((c - 1) :: r)
def strip (l : List UInt8) : List UInt8 := if 1 < l.length ∧ l.head? = some 48 then l.tail else l
def dec (l : List UInt8) : List UInt8 × Bool :=
  match decR l.reverse with
  | none => ([], false)
  | some r => (strip r.reverse, true)

theorem incR_run (q : List UInt8) (h : ∀ x ∈ q, ¬ x.toNat < 57) (c : UInt8) (hc : c.toNat < 57) (p : List UInt8) :
    incR (q ++ c :: p) = List.replicate q.length 48 ++ (c + 1) :: p := by
  induction q with
  | nil => simp [incR, hc]
  | cons x q ih =>
    have hx : ¬ x.toNat < 57 := h x (by simp)
    simp [incR, hx, List.replicate_succ, ih (fun y hy => h y (by simp [hy]))]

theorem incR_all (q : List UInt8) (h : ∀ x ∈ q, ¬ x.toNat < 57) : incR q = List.replicate q.length 48 ++ [49] := by
  induction q with
  | nil => simp [incR]
  | cons x q ih =>
    have hx : ¬ x.toNat < 57 := h x (by simp)
    simp [incR, hx, List.replicate_succ, ih (fun y hy => h y (by simp [hy]))]

/-- next at a text whose tail q is past all counting and whose digit ahead of it is not. -/
theorem next_run (p q : List UInt8) (c : UInt8) (h : ∀ x ∈ q, ¬ x.toNat < 57) (hc : c.toNat < 57) :
    next (p ++ c :: q) = p ++ (c + 1) :: List.replicate q.length 48 := by
  have := incR_run q.reverse (fun x hx => h x (by simpa using hx)) c hc p.reverse
  unfold next
  simp [this]

theorem next_all (q : List UInt8) (h : ∀ x ∈ q, ¬ x.toNat < 57) : next q = 49 :: List.replicate q.length 48 := by
  have := incR_all q.reverse (fun x hx => h x (by simpa using hx))
  unfold next
  simp [this]

theorem decR_run (n : Nat) (c : UInt8) (hc : c ≠ 48) (p : List UInt8) :
    decR (List.replicate n 48 ++ c :: p) = some (List.replicate n 57 ++ (c - 1) :: p) := by
  induction n with
  | zero => simp [decR, hc]
  | succ n ih => simp [decR, List.replicate_succ, ih]

theorem decR_none (n : Nat) : decR (List.replicate n 48) = none := by
  induction n with
  | zero => simp [decR]
  | succ n ih => simp [decR, List.replicate_succ, ih]

/-- dec at a text that ends in n zeros behind a digit that is none. -/
theorem dec_run (p : List UInt8) (c : UInt8) (n : Nat) (hc : c ≠ 48) :
    dec (p ++ c :: List.replicate n 48) = (strip (p ++ (c - 1) :: List.replicate n 57), true) := by
  have := decR_run n c hc p.reverse
  unfold dec
  simp [this]

theorem dec_none (n : Nat) : dec (List.replicate n 48) = ([], false) := by
  unfold dec
  simp [decR_none]

/-- Every text: all its bytes are past counting, or there is a last one that is not. -/
theorem split_last (P : UInt8 → Prop) [DecidablePred P] (l : List UInt8) : (∀ x ∈ l, ¬ P x) ∨ ∃ p c q, l = p ++ c :: q ∧ P c ∧ ∀ x ∈ q, ¬ P x := by
  induction l with
  | nil => left; simp
  | cons a l ih =>
    rcases ih with h | ⟨p, c, q, rfl, hc, hq⟩
    · by_cases ha : P a
      · exact .inr ⟨[], a, l, rfl, ha, h⟩
      · left; intro x hx; rcases List.mem_cons.1 hx with rfl | hx
        · exact ha
        · exact h x hx
    · exact .inr ⟨a :: p, c, q, rfl, hc, hq⟩

theorem nine_of {c : UInt8} (h : dig c = true) (h2 : ¬ c.toNat < 57) : c = 57 := by
  simp [dig] at h
  apply UInt8.toNat_inj.1
  have : (57 : UInt8).toNat = 57 := rfl
  omega

theorem all_nine {q : List UInt8} (h : ∀ x ∈ q, dig x = true) (h2 : ∀ x ∈ q, ¬ x.toNat < 57) : q = List.replicate q.length 57 := by
  apply List.eq_replicate_iff.2
  exact ⟨rfl, fun b hb => nine_of (h b hb) (h2 b hb)⟩

theorem toNat_succ {c : UInt8} (h : c.toNat < 57) : (c + 1).toNat = c.toNat + 1 := by
  rw [UInt8.toNat_add]
  have : (1 : UInt8).toNat = 1 := rfl
  omega

theorem isInt_iff (l : List UInt8) : isInt l = true ↔ l ≠ [] ∧ (1 < l.length → l.head? ≠ some 48) ∧ ∀ x ∈ l, dig x = true := by
  unfold isInt
  simp
  constructor
  · rintro ⟨⟨h1, h2⟩, h3⟩
    refine ⟨h1, fun h => ?_, h3⟩
    rcases h2 with h2 | h2
    · omega
    · exact h2
  · rintro ⟨h1, h2, h3⟩
    refine ⟨⟨h1, ?_⟩, h3⟩
    by_cases h : 1 < l.length
    · exact .inr (h2 h)
    · left; omega

theorem succ_sub {c : UInt8} : c + 1 - 1 = c := by
  simp

theorem dig_succ {c : UInt8} (h : dig c = true) (h2 : c.toNat < 57) : dig (c + 1) = true := by
  simp [dig] at h ⊢
  have := toNat_succ h2
  omega

theorem succ_ne {c : UInt8} (h : dig c = true) (h2 : c.toNat < 57) : c + 1 ≠ 48 := by
  intro h3
  have := toNat_succ h2
  rw [h3] at this
  simp [dig] at h
  have : (48 : UInt8).toNat = 48 := rfl
  omega

/-- THE FIRST HALF: of Integer form again. -/
theorem isInt_next (l : List UInt8) (h : isInt l = true) : isInt (next l) = true := by
  rw [isInt_iff] at h ⊢
  obtain ⟨h1, h2, h3⟩ := h
  rcases split_last (fun c => c.toNat < 57) l with hq | ⟨p, c, q, rfl, hc, hq⟩
  · rw [next_all l hq]
    refine ⟨by simp, by simp, ?_⟩
    intro x hx
    rcases List.mem_cons.1 hx with rfl | hx
    · decide
    · rw [(List.mem_replicate.1 hx).2]; decide
  · rw [next_run p q c hq hc]
    have hdc : dig c = true := h3 c (by simp)
    refine ⟨by simp, ?_, ?_⟩
    · intro hl
      simp at hl
      cases p with
      | nil =>
        simp
        intro h
        exact succ_ne hdc hc h
      | cons a p =>
        have := h2 (by simp; omega)
        simpa using this
    · intro x hx
      rcases List.mem_append.1 hx with hx | hx
      · exact h3 x (by simp [hx])
      · rcases List.mem_cons.1 hx with rfl | hx
        · exact dig_succ hdc hc
        · rw [(List.mem_replicate.1 hx).2]; decide

/-- THE THIRD: one less gives the text back. -/
theorem dec_next (l : List UInt8) (h : isInt l = true) : dec (next l) = (l, true) := by
  rw [isInt_iff] at h
  obtain ⟨h1, h2, h3⟩ := h
  rcases split_last (fun c => c.toNat < 57) l with hq | ⟨p, c, q, rfl, hc, hq⟩
  · rw [next_all l hq]
    have := dec_run [] 49 l.length (by decide)
    simp only [List.nil_append] at this
    rw [this]
    have e : (49 - 1 : UInt8) = 48 := by decide
    rw [e, ← all_nine h3 hq]
    have hl0 : 1 < (48 :: l).length := by
      have : l.length ≠ 0 := by simpa using h1
      simp; omega
    unfold strip
    rw [if_pos ⟨hl0, rfl⟩]
    rfl
  · rw [next_run p q c hq hc]
    have hdc : dig c = true := h3 c (by simp)
    rw [dec_run p (c + 1) q.length (succ_ne hdc hc), succ_sub]
    have e := all_nine (q := q) (fun x hx => h3 x (by simp [hx])) hq
    rw [← e]
    unfold strip
    rw [if_neg]
    rintro ⟨ha, hb⟩
    exact h2 ha hb

/-- At a cut whose right side is all nines (or past them). -/
theorem next_cut_nines (a b : List UInt8) (h : ∀ x ∈ b, ¬ x.toNat < 57) : next (a ++ b) = next a ++ List.replicate b.length 48 := by
  have key : ∀ (q r : List UInt8), (∀ x ∈ q, ¬ x.toNat < 57) → incR (q ++ r) = List.replicate q.length 48 ++ incR r := by
    intro q r hq
    induction q with
    | nil => simp
    | cons x q ih =>
      have hx : ¬ x.toNat < 57 := hq x (by simp)
      simp [incR, hx, List.replicate_succ, ih (fun y hy => hq y (by simp [hy]))]
  have := key b.reverse a.reverse (fun x hx => h x (by simpa using hx))
  unfold next
  simp [this]

/-- At any other cut. -/
theorem next_cut_else (a b : List UInt8) (h : ¬ ∀ x ∈ b, ¬ x.toNat < 57) : (next b).length = b.length ∧ next (a ++ b) = a ++ next b := by
  rcases split_last (fun c => c.toNat < 57) b with hq | ⟨p, c, q, rfl, hc, hq⟩
  · exact absurd hq h
  · rw [next_run p q c hq hc, ← List.append_assoc, next_run (a ++ p) q c hq hc]
    simp

/-- The last digit. -/
theorem next_last (b : List UInt8) (x : UInt8) : ∃ y, next (b ++ [x]) = y ++ [if x.toNat < 57 then x + 1 else 48] := by
  unfold next
  by_cases h : x.toNat < 57
  · exact ⟨b, by simp [incR, h]⟩
  · exact ⟨(incR b.reverse).reverse, by simp [incR, h]⟩

end Go.Proofs.Qxb6619337a.Plain
