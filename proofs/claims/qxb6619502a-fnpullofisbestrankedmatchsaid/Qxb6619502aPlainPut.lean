/-
  The plain law of putBack: no Go in sight.
-/
import Derived.Test.Qxb6619502aPutOp
namespace Go.Proofs.Qxb6619502a

theorem toList_inj {a b : ByteArray} (h : a.toList = b.toList) : a = b := by
  rw [ByteArray.toList_eq, ByteArray.toList_eq] at h
  cases a; cases b
  simp at h
  rw [h]

theorem eqs_iff (a b : ByteArray) : eqs a b = true ↔ a = b := by
  unfold eqs
  rw [beq_iff_eq]
  exact ⟨toList_inj, fun h => by rw [h]⟩
theorem eqs_self (a : ByteArray) : eqs a a = true := (eqs_iff a a).2 rfl
theorem eqs_false (a b : ByteArray) : eqs a b = false ↔ a ≠ b := by
  cases h : eqs a b with
  | true => simp [(eqs_iff a b).1 h]
  | false =>
    simp
    intro e
    rw [(eqs_iff a b).2 e] at h
    cases h

theorem ref_inj {a b : ByteArray} (h : ref a = ref b) : a = b := by
  unfold ref at h
  have := congrArg ByteArray.data h
  rw [ByteArray.data_append, ByteArray.data_append] at this
  have h2 := (Array.append_right_inj _).1 this
  cases a; cases b
  simp at h2
  rw [h2]

/-- One branch that putBack may touch. -/
structure Ent where
  name : ByteArray
  want : ByteArray
  em : Bool

def mvEnt (H RH : ByteArray → ByteArray) (m : Mv) : Ent := ⟨m.name, if eqs (H m.name) (RH m.name) then m.head else H m.name, !(eqs (RH m.name) m.head) && eqs (H m.name) (RH m.name)⟩
def trEnt (H RH : ByteArray → ByteArray) (tf trunk : ByteArray) : Ent := ⟨trunk, if !(eqs tf nilS) && eqs (H trunk) (RH trunk) then tf else H trunk, !(eqs tf nilS) && eqs (H trunk) (RH trunk)⟩
def rmEnt (H RH : ByteArray → ByteArray) (r : ByteArray) : Ent := ⟨r, if eqs (H r) nilS then RH r else H r, eqs (H r) nilS⟩
def ents (H RH : ByteArray → ByteArray) (tf trunk : ByteArray) (M : List Mv) (R : List ByteArray) : List Ent := M.map (mvEnt H RH) ++ [trEnt H RH tf trunk] ++ R.map (rmEnt H RH)

def entU (H : ByteArray → ByteArray) (e : Ent) : List Upd := if e.em then [⟨ref e.name, e.want, H e.name⟩] else []

/-- Where nothing is emitted nothing is wanted. -/
def Calm (H : ByteArray → ByteArray) (e : Ent) : Prop := e.em = false → e.want = H e.name

theorem mvEnt_calm (H RH : ByteArray → ByteArray) (m : Mv) : Calm H (mvEnt H RH m) := by
  intro h
  unfold mvEnt at h ⊢
  simp only at h ⊢
  cases h1 : eqs (H m.name) (RH m.name) with
  | false => simp
  | true =>
    rw [h1] at h
    simp at h
    have e1 := (eqs_iff _ _).1 h
    have e2 := (eqs_iff _ _).1 h1
    simp
    rw [e2, e1]

theorem trEnt_calm (H RH : ByteArray → ByteArray) (tf trunk : ByteArray) : Calm H (trEnt H RH tf trunk) := by
  intro h
  unfold trEnt at h ⊢
  simp only at h ⊢
  rw [h]; rfl

theorem rmEnt_calm (H RH : ByteArray → ByteArray) (r : ByteArray) : Calm H (rmEnt H RH r) := by
  intro h
  unfold rmEnt at h ⊢
  simp only at h ⊢
  rw [h]; rfl

theorem ents_calm (H RH : ByteArray → ByteArray) (tf trunk : ByteArray) (M : List Mv) (R : List ByteArray) : ∀ e ∈ ents H RH tf trunk M R, Calm H e := by
  intro e he
  unfold ents at he
  rw [List.mem_append, List.mem_append] at he
  rcases he with (he | he) | he
  · obtain ⟨m, _, rfl⟩ := List.mem_map.1 he; exact mvEnt_calm H RH m
  · rw [List.mem_singleton.1 he]; exact trEnt_calm H RH tf trunk
  · obtain ⟨m, _, rfl⟩ := List.mem_map.1 he; exact rmEnt_calm H RH m

theorem ents_names (H RH : ByteArray → ByteArray) (tf trunk : ByteArray) (M : List Mv) (R : List ByteArray) : (ents H RH tf trunk M R).map (·.name) = namesOf trunk M R := by
  unfold ents namesOf
  simp [mvEnt, trEnt, rmEnt, Function.comp_def]

theorem mv_entU (H RH : ByteArray → ByteArray) (m : Mv) : rbOf H RH m = entU H (mvEnt H RH m) := by
  unfold rbOf entU mvEnt
  simp only
  cases h : (!(eqs (RH m.name) m.head) && eqs (H m.name) (RH m.name)) with
  | false => rfl
  | true =>
    have h2 : eqs (H m.name) (RH m.name) = true := by
      cases h2 : eqs (H m.name) (RH m.name) with
      | true => rfl
      | false => rw [h2] at h; simp at h
    have e := (eqs_iff _ _).1 h2
    rw [h2, e]
    rfl

theorem tr_entU (H RH : ByteArray → ByteArray) (tf trunk : ByteArray) : trU H RH tf trunk = entU H (trEnt H RH tf trunk) := by
  unfold trU entU trEnt
  simp only
  cases h : (!(eqs tf nilS) && eqs (H trunk) (RH trunk)) with
  | false => rfl
  | true =>
    have h2 : eqs (H trunk) (RH trunk) = true := by
      cases h2 : eqs (H trunk) (RH trunk) with
      | true => rfl
      | false => rw [h2] at h; simp at h
    have e := (eqs_iff _ _).1 h2
    rw [e]
    rfl

theorem rm_entU (H RH : ByteArray → ByteArray) (r : ByteArray) : rmOf H RH r = entU H (rmEnt H RH r) := by
  unfold rmOf entU rmEnt
  simp only
  cases h : eqs (H r) nilS with
  | false => rfl
  | true =>
    have e := (eqs_iff _ _).1 h
    rw [e]
    rfl

/-- What putBack answers, branch by branch. -/
theorem allU_ents (H RH : ByteArray → ByteArray) (tf trunk : ByteArray) (M : List Mv) (R : List ByteArray) : allU H RH tf trunk M R = (ents H RH tf trunk M R).flatMap (entU H) := by
  unfold allU ents rbU rmU
  rw [List.flatMap_append, List.flatMap_append, List.flatMap_map, List.flatMap_map]
  simp only [List.flatMap_cons, List.flatMap_nil, List.append_nil]
  rw [tr_entU]
  congr 1
  · congr 1
    congr 1
    funext m
    exact mv_entU H RH m
  · congr 1
    funext r
    exact rm_entU H RH r

/-- The next update of what is left. -/
theorem next_upd (H : ByteArray → ByteArray) (B : List Ent) (hB : ∀ e ∈ B, Calm H e) (h : B.flatMap (entU H) ≠ []) :
    ∃ a e b, B = a ++ e :: b ∧ a.flatMap (entU H) = [] ∧ a.map (·.want) = a.map (fun x => H x.name) ∧ e.em = true ∧ entU H e = [⟨ref e.name, e.want, H e.name⟩] := by
  induction B with
  | nil => simp at h
  | cons x B ih =>
    cases hx : x.em with
    | true => exact ⟨[], x, B, rfl, rfl, rfl, hx, by unfold entU; rw [hx]; rfl⟩
    | false =>
      have e0 : entU H x = [] := by unfold entU; rw [hx]; rfl
      rw [List.flatMap_cons, e0, List.nil_append] at h
      obtain ⟨a, e, b, rfl, h1, h2, h3, h4⟩ := ih (fun y hy => hB y (by simp [hy])) h
      refine ⟨x :: a, e, b, rfl, by rw [List.flatMap_cons, e0, h1]; rfl, ?_, h3, h4⟩
      rw [List.map_cons, List.map_cons, h2, hB x (by simp) hx]

/-- Nothing is left to update. -/
theorem no_upd (H : ByteArray → ByteArray) (B : List Ent) (hB : ∀ e ∈ B, Calm H e) (h : B.flatMap (entU H) = []) : B.map (·.want) = B.map (fun x => H x.name) := by
  induction B with
  | nil => rfl
  | cons x B ih =>
    rw [List.flatMap_cons, List.append_eq_nil_iff] at h
    have hx : x.em = false := by
      cases hx : x.em with
      | false => rfl
      | true => have := h.1; unfold entU at this; rw [hx] at this; simp at this
    rw [List.map_cons, List.map_cons, ih (fun y hy => hB y (by simp [hy])) h.2, hB x (by simp) hx]

theorem bytes_beq (a b : ByteArray) : (a == b) = true ↔ a = b := by
  cases a with | mk x =>
  cases b with | mk y =>
  show (x == y) = true ↔ _
  rw [beq_iff_eq]
  constructor
  · intro h; rw [h]
  · intro h; cases h; rfl

theorem bytes_bne (a b : ByteArray) (h : a ≠ b) : (a == b) = false := by
  cases hb : a == b with
  | false => rfl
  | true => exact absurd ((bytes_beq a b).1 hb) h

/-- The map of the heads that are left. -/
theorem get_ents : ∀ (E : List Ent), (E.map (·.name)).Pairwise (· ≠ ·) → ∀ e ∈ E, get (E.map fun x => (x.name, x.want)) e.name = e.want := by
  intro E
  induction E with
  | nil => intro _ e he; simp at he
  | cons x E ih =>
    intro hp e he
    rw [List.map_cons, List.pairwise_cons] at hp
    rw [List.map_cons]
    unfold get
    rcases List.mem_cons.1 he with rfl | he
    · rw [(bytes_beq _ _).2 rfl]; rfl
    · have hne : x.name ≠ e.name := hp.1 e.name (List.mem_map.2 ⟨e, he, rfl⟩)
      have : (e.name == x.name) = false := bytes_bne _ _ (fun h => hne h.symm)
      rw [this]
      exact ih hp.2 e he

/-- putBack over the heads that its updates leave changes nothing. -/
theorem again_same (H RH H' : ByteArray → ByteArray) (tf trunk : ByteArray) (M : List Mv) (R : List ByteArray) (hH : ∀ e ∈ ents H RH tf trunk M R, H' e.name = e.want) :
    ∀ u ∈ allU H' RH tf trunk M R, u.new = u.old := by
  intro u hu
  unfold allU at hu
  rw [List.mem_append, List.mem_append] at hu
  rcases hu with (hu | hu) | hu
  · unfold rbU at hu
    rw [List.mem_flatMap] at hu
    obtain ⟨m, hm, hu⟩ := hu
    exfalso
    have hw := hH (mvEnt H RH m) (by unfold ents; simp; exact .inl ⟨m, hm, rfl⟩)
    unfold mvEnt at hw
    simp only at hw
    unfold rbOf at hu
    split at hu
    · rename_i hc
      simp only [Bool.and_eq_true, Bool.not_eq_true'] at hc
      obtain ⟨hc1, hc2⟩ := hc
      have hc2 := (eqs_iff _ _).1 hc2
      have hc1 := (eqs_false _ _).1 hc1
      rw [hc2] at hw
      cases h1 : eqs (H m.name) (RH m.name) with
      | true => rw [h1] at hw; exact hc1 hw
      | false =>
        rw [h1] at hw
        exact (eqs_false _ _).1 h1 hw.symm
    · simp at hu
  · have hw := hH (trEnt H RH tf trunk) (by unfold ents; simp)
    unfold trEnt at hw
    simp only at hw
    unfold trU at hu
    split at hu
    · rename_i hc
      simp only [Bool.and_eq_true, Bool.not_eq_true'] at hc
      obtain ⟨hc1, hc2⟩ := hc
      have hc2 := (eqs_iff _ _).1 hc2
      simp only [List.mem_singleton] at hu
      subst hu
      show tf = RH trunk
      rw [hc2, hc1] at hw
      cases h1 : eqs (H trunk) (RH trunk) with
      | true => rw [h1] at hw; exact hw.symm
      | false =>
        rw [h1] at hw
        exact absurd hw.symm ((eqs_false _ _).1 h1)
    · simp at hu
  · unfold rmU at hu
    rw [List.mem_flatMap] at hu
    obtain ⟨r, hr, hu⟩ := hu
    have hw := hH (rmEnt H RH r) (by unfold ents; simp; exact .inr (.inr ⟨r, hr, rfl⟩))
    unfold rmEnt at hw
    simp only at hw
    unfold rmOf at hu
    split at hu
    · rename_i hc
      have hc := (eqs_iff _ _).1 hc
      simp only [List.mem_singleton] at hu
      subst hu
      show RH r = nilS
      rw [hc] at hw
      cases h1 : eqs (H r) nilS with
      | true => rw [h1] at hw; exact hw.symm
      | false =>
        rw [h1] at hw
        exact absurd hw.symm ((eqs_false _ _).1 h1)
    · simp at hu

end Go.Proofs.Qxb6619502a
