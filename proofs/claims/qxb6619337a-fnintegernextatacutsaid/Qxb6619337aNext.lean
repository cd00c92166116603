/-
  (Integer).next and zzDecrement: each works in a byte buffer of its own.
-/
import Derived.Test.Qxb6619337aSmall
import Derived.Laws.IdiomStrings
import Derived.Below
namespace Go.Proofs.Qxb6619337a
open Go.RowKit

theorem ret_str {a b : List UInt8} (h : a = b) : Ending.returned (.string ⟨a.toArray⟩) = .returned (.string ⟨b.toArray⟩) := by rw [h]
theorem ret_str' {a b : ByteArray} (h : a = b) : Ending.returned (.string a) = .returned (.string b) := by rw [h]

theorem ret_strb {a : List UInt8} {p : List UInt8 × Bool} {b : Bool} (h : p = (a, b)) : Ending.returned (.tuple #[.string ⟨a.toArray⟩, .bool b]) = .returned (.tuple #[.string ⟨p.1.toArray⟩, .bool p.2]) := by rw [h]

/-- Block b holds the bytes l, and they may be written. -/
def Buf (w : World) (b : Nat) (l : List UInt8) : Prop :=
  (∀ j (h : j < l.length), w.cell? ⟨b, j, none⟩ = some (.int .u8 ((l[j]'h).toNat : Int))) ∧ ∀ j, j < l.length → w.frozen? ⟨b, j, none⟩ = false

theorem Buf.drew {w : World} {b : Nat} {l : List UInt8} (h : Buf w b l) : Buf w.drew b l := h

theorem Buf.set {w : World} {b : Nat} {l : List UInt8} (h : Buf w b l) (i : Nat) (hi : i < l.length) (v : UInt8) (l' : List UInt8) (e : l' = l.set i v) :
    Buf (w.setCell ⟨b, i, none⟩ (.int .u8 (v.toNat : Int))) b l' := by
  subst e
  refine ⟨fun j hj => ?_, fun j hj => ?_⟩
  · simp at hj
    by_cases hij : i = j
    · subst hij
      rw [World.cell?_setCell_same _ _ _ (h.1 i hi)]
      simp
    · rw [World.cell?_setCell_other _ _ _ _ (by intro e; exact hij (congrArg Addr.off e)), h.1 j hj]
      simp [hij]
  · rw [World.frozen?_setCell]
    exact h.2 j (by simpa using hj)

theorem Buf.first (w : World) (s : ByteArray) (cap : Nat) :
    Buf (w.alloc (.cells (bytesRow s cap) 5 ((bytesRow s cap).size, (bytesRow s cap).size + 1))) w.heap.size s.data.toList := by
  refine ⟨fun j hj => ?_, fun j hj => ?_⟩
  · rw [World.cell?_alloc_mark, bytesRow_at s cap j (by simpa using hj)]
    simp
  · rw [World.frozen?_alloc_mark]
    have : j < (bytesRow s cap).size := by
      unfold bytesRow
      have hs : s.data.size = s.data.toList.length := by simp
      simp only [Array.size_append, Array.size_map, Array.size_replicate]
      omega
    simp
    omega

theorem Buf.back {w : World} {b : Nat} {l : List UInt8} (h : Buf w b l) (src dst : TypeId) (n cap : Nat) (hn : l.length = n) (hs : Try.prog.underlying src = some (.slice 5)) (hd : Try.prog.underlying dst = some .string) :
    (convert src dst (.slice (some ⟨b, 0, none⟩) n cap)).run Try.prog w = .ok (.string ⟨l.toArray⟩) w := by
  subst hn
  exact run_convert_bytes_back w src dst 5 ⟨b, 0, none⟩ cap l hs Try.underlying5 hd (fun j hj => by rw [Go.WideShapes.add_plain, Nat.zero_add]; exact h.1 j hj)

/-- The digit under the loop's hand. -/
theorem next_at {w : World} {b i : Nat} {p q l : List UInt8} (hl : l = p ++ q) (hp : p.length = ((i : Int) + 1).toNat) (hb : Buf w b (p ++ List.replicate q.length 48)) :
    ∃ p' c, p'.length = i ∧ l = p' ++ c :: q ∧ w.cell? ⟨b, i, none⟩ = some (.int .u8 (c.toNat : Int)) ∧ w.frozen? ⟨b, i, none⟩ = false ∧ Buf w b (p' ++ c :: List.replicate q.length 48) := by
  have hp' : p.length = i + 1 := by omega
  have hne : p ≠ [] := by intro h; rw [h] at hp'; simp at hp'
  have e : p = p.dropLast ++ [p.getLast hne] := (List.dropLast_concat_getLast hne).symm
  have hi : p.dropLast.length = i := by simp; omega
  generalize p.dropLast = p' at e hi
  generalize p.getLast hne = c at e
  clear hp hp'
  clear hne
  subst e
  simp only [List.append_assoc, List.singleton_append] at hb hl
  have h1 := hb.1 i (by simp; omega)
  have h2 := hb.2 i (by simp; omega)
  refine ⟨p', c, hi, hl, ?_, h2, hb⟩
  rw [h1]
  subst hi
  simp

set_option maxHeartbeats 400000 in
/-- (Integer).next -/
theorem next18 (s : ByteArray) (w : World) (hs : s.size ≤ 1048577) :
    Calls Try.prog 18 #[.string s] w fun e w' => e = .returned (.string ⟨(Plain.next s.data.toList).toArray⟩) ∧ Below w.heap.size w w' := by
  have hconv := run_bytes_of_string (P := Try.prog) w 23 36 5 s Try.underlying23 Try.underlying36 Try.underlying5
  have hbuf : Hid (Buf (w.alloc (.cells (bytesRow s (grownCap w s.size 0 5)) 5 ((bytesRow s (grownCap w s.size 0 5)).size, (bytesRow s (grownCap w s.size 0 5)).size + 1))).drew w.heap.size s.data.toList) := (Buf.first w s _).drew
  generalize bytesRow s (grownCap w s.size 0 5) = C at hconv hbuf
  generalize grownCap w s.size 0 5 = cap at hconv
  have hlen := toList_len s
  go_enter Try.func18, Try.ntmps18
  go_wp2
  go_loopw [4] (fun i wr => ∃ (v : Int) (p q : List UInt8), i = .int .i64 v ∧ -1 ≤ v ∧ v < s.size ∧ Hid (s.data.toList = p ++ q) ∧ Hid (p.length = (v + 1).toNat) ∧ Hid (∀ x ∈ q, ¬ x.toNat < 57) ∧ Hid (Buf wr w.heap.size (p ++ List.replicate q.length 48)) ∧ Below w.heap.size w wr)
    (fun i _ => (intOf i + 1).toNat)
  case atStart =>
    refine ⟨_, s.data.toList, [], rfl, by omega, by omega, by simp [Hid], ?_, by simp [Hid], by simpa using hbuf, ?_⟩
    · show _ = _
      rw [hlen]; omega
    · exact ((Below.refl _ _).alloc (Nat.le_refl _) _).drew
  case round =>
    obtain ⟨v, p, q, rfl, hv1, hv2, hl, hp, hq, hb, hbel⟩ := hrel
    clear hbuf hconv
    by_cases hv : 0 ≤ v
    · obtain ⟨i, rfl⟩ := Int.eq_ofNat_of_zero_le hv
      obtain ⟨p', c, hp', hl', hcell, hfz, hb'⟩ := next_at hl.out hp.out hb.out
      clear hl hp hb hlen
      have hi : i < s.size := by omega
      have H1 : Hid (p'.length = i) := hp'
      have H2 : Hid (s.data.toList = p' ++ c :: q) := hl'
      have H3 : Hid (Buf wr w.heap.size (p' ++ c :: List.replicate q.length 48)) := hb'
      have hlen : Hid ((p' ++ c :: q).length = s.size) := by rw [← hl']; rfl
      clear hp' hl' hb'
      by_cases hc : c.toNat < 57
      · have hsucc := Plain.toNat_succ hc
        have hbuf2 : Buf (wr.setCell ⟨w.heap.size, i, none⟩ (.int .u8 ((c.toNat : Int) + 1))) w.heap.size (p' ++ (c + 1) :: List.replicate q.length 48) := by
          have := H3.out.set i (by have := H1.out; simp; omega) (c + 1) (p' ++ (c + 1) :: List.replicate q.length 48) (by rw [← H1.out]; simp)
          rw [hsucc] at this
          exact this
        have hback := hbuf2.back 36 23 s.size cap (by have := hlen.out; simpa using this) Try.underlying36 Try.underlying23
        have hfin : Hid (Plain.next s.data.toList = p' ++ (c + 1) :: List.replicate q.length 48) := by rw [H2.out]; exact Plain.next_run p' q c hq.out hc
        clear hbuf2 hsucc
        go_wp2
        go_ret
        exact ⟨ret_str hfin.out.symm, hbel.setCell (Nat.le_refl _) _⟩
      · have hrel : Hid (Buf (wr.setCell ⟨w.heap.size, i, none⟩ (.int .u8 48)) w.heap.size (p' ++ List.replicate (c :: q).length 48)) := by
          refine H3.out.set i (by have := H1.out; simp; omega) 48 _ ?_
          rw [← H1.out]
          simp [List.replicate_succ]
        have hq2 : Hid (∀ x ∈ c :: q, ¬ x.toNat < 57) := by
          intro x hx
          rcases List.mem_cons.1 hx with rfl | hx
          · exact hc
          · exact hq.out x hx
        have hpl : Hid (p'.length = ((i : Int) - 1 + 1).toNat) := by have := H1.out; show _ = _; omega
        go_wp2
        go_roundw
        case rel => exact ⟨(i : Int) - 1, p', c :: q, rfl, by omega, by omega, H2, hpl, hq2, hrel, hbel.setCell (Nat.le_refl _) _⟩
        case measure => simp [intOf]
    · have hfin : Hid (Plain.next s.data.toList = 49 :: List.replicate q.length 48 ∧ p = []) := by
        have h1 := hp.out
        obtain rfl : p = [] := List.eq_nil_of_length_eq_zero (by omega)
        rw [hl.out]
        exact ⟨Plain.next_all q hq.out, rfl⟩
      obtain ⟨t, hback, hts, ht⟩ : ∃ t : ByteArray, (convert 36 23 (.slice (some ⟨w.heap.size, 0, none⟩) s.size cap)).run Try.prog wr = .ok (.string t) wr ∧ t.size ≤ 1048577 ∧ Hid (t = ⟨(List.replicate q.length 48).toArray⟩) := by
        have h1 := hlen
        rw [hl.out] at h1
        have h2 := hb.out.back 36 23 s.size cap (by simpa using h1) Try.underlying36 Try.underlying23
        rw [hfin.out.2] at h2 h1
        refine ⟨_, h2, ?_, rfl⟩
        show (List.replicate q.length (48 : UInt8)).toArray.size ≤ _
        simp at h1 ⊢
        omega
      clear hlen hl hp hq hb
      go_wp2
      go_ret
      exact ⟨ret_str' (by rw [hfin.out.1, ht.out]; exact ByteArray.mk_append_mk [49] _), hbel⟩

/-- ZZIntegerNext -/
theorem next8 (s : ByteArray) (w : World) (hs : s.size ≤ 1048577) :
    Calls Try.prog 8 #[.string s] w fun e w' => e = .returned (.string ⟨(Plain.next s.data.toList).toArray⟩) ∧ Below w.heap.size w w' := by
  go_enter Try.func8, Try.ntmps8
  go_wp2_with (go_at_call 18; refine (next18 _ _ hs).mono ?_; rintro e w' ⟨rfl, hb⟩)
  go_ret
  exact ⟨rfl, hb⟩

theorem dec_at {w : World} {b i : Nat} {p l : List UInt8} {n : Nat} (hl : l = p ++ List.replicate n 48) (hp : p.length = ((i : Int) + 1).toNat) (hb : Buf w b (p ++ List.replicate n 57)) :
    ∃ p' c, p'.length = i ∧ l = p' ++ c :: List.replicate n 48 ∧ w.cell? ⟨b, i, none⟩ = some (.int .u8 (c.toNat : Int)) ∧ w.frozen? ⟨b, i, none⟩ = false ∧ Buf w b (p' ++ c :: List.replicate n 57) := by
  have hp' : p.length = i + 1 := by omega
  have hne : p ≠ [] := by intro h; rw [h] at hp'; simp at hp'
  have e : p = p.dropLast ++ [p.getLast hne] := (List.dropLast_concat_getLast hne).symm
  have hi : p.dropLast.length = i := by simp; omega
  generalize p.dropLast = p' at e hi
  generalize p.getLast hne = c at e
  clear hp hp'
  clear hne
  subst e
  simp only [List.append_assoc, List.singleton_append] at hb hl
  have h1 := hb.1 i (by simp; omega)
  have h2 := hb.2 i (by simp; omega)
  refine ⟨p', c, hi, hl, ?_, h2, hb⟩
  rw [h1]
  subst hi
  simp

set_option maxHeartbeats 400000 in
/-- zzDecrement -/
theorem dec10 (s : ByteArray) (w : World) (hs : s.size ≤ 1048577) (hd : ∀ x ∈ s.data.toList, Plain.dig x = true) :
    Calls Try.prog 10 #[.string s] w fun e w' => e = .returned (.tuple #[.string ⟨(Plain.dec s.data.toList).1.toArray⟩, .bool (Plain.dec s.data.toList).2]) ∧ Below w.heap.size w w' := by
  have hconv := run_bytes_of_string (P := Try.prog) w 9 36 5 s Try.underlying9 Try.underlying36 Try.underlying5
  have hbuf : Hid (Buf (w.alloc (.cells (bytesRow s (grownCap w s.size 0 5)) 5 ((bytesRow s (grownCap w s.size 0 5)).size, (bytesRow s (grownCap w s.size 0 5)).size + 1))).drew w.heap.size s.data.toList) := (Buf.first w s _).drew
  have hcap := grownCap_ge w s.size 0 5
  generalize bytesRow s (grownCap w s.size 0 5) = C at hconv hbuf
  generalize grownCap w s.size 0 5 = cap at hconv hcap
  have hlen := toList_len s
  have HD : Hid (∀ x ∈ s.data.toList, Plain.dig x = true) := hd
  clear hd
  go_enter Try.func10, Try.ntmps10
  go_wp2
  go_loopw [5] (fun i wr => ∃ (v : Int) (p : List UInt8) (n : Nat), i = .int .i64 v ∧ -1 ≤ v ∧ v < s.size ∧ Hid (s.data.toList = p ++ List.replicate n 48) ∧ Hid (p.length = (v + 1).toNat) ∧ Hid (Buf wr w.heap.size (p ++ List.replicate n 57)) ∧ Below w.heap.size w wr)
    (fun i _ => (intOf i + 1).toNat)
  case atStart =>
    refine ⟨_, s.data.toList, 0, rfl, by omega, by omega, by simp [Hid], ?_, by simpa using hbuf, ?_⟩
    · show _ = _
      rw [hlen]; omega
    · exact ((Below.refl _ _).alloc (Nat.le_refl _) _).drew
  case round =>
    obtain ⟨v, p, n, rfl, hv1, hv2, hl, hp, hb, hbel⟩ := hrel
    clear hbuf hconv
    by_cases hv : 0 ≤ v
    · obtain ⟨i, rfl⟩ := Int.eq_ofNat_of_zero_le hv
      obtain ⟨p', c, hp', hl', hcell, hfz, hb'⟩ := dec_at hl.out hp.out hb.out
      clear hl hp hb hlen
      have hi : i < s.size := by omega
      have H1 : Hid (p'.length = i) := hp'
      have H2 : Hid (s.data.toList = p' ++ c :: List.replicate n 48) := hl'
      have H3 : Hid (Buf wr w.heap.size (p' ++ c :: List.replicate n 57)) := hb'
      have hlen : Hid ((p' ++ c :: List.replicate n 48).length = s.size) := by rw [← hl']; rfl
      clear hp' hl' hb'
      by_cases hc : c = 48
      · have hrel : Hid (Buf (wr.setCell ⟨w.heap.size, i, none⟩ (.int .u8 57)) w.heap.size (p' ++ List.replicate (n + 1) 57)) := by
          refine H3.out.set i (by have := H1.out; simp; omega) 57 _ ?_
          rw [← H1.out]
          simp [List.replicate_succ]
        have hpl : Hid (p'.length = ((i : Int) - 1 + 1).toNat) := by have := H1.out; show _ = _; omega
        have hl2 : Hid (s.data.toList = p' ++ List.replicate (n + 1) 48) := by rw [H2.out, hc]; rfl
        have hb48 : ((c.toNat : Int) == 48) = true := by rw [eq48]; simp [hc]
        clear hc
        go_wp2
        go_roundw
        case rel => exact ⟨(i : Int) - 1, p', n + 1, rfl, by omega, by omega, hl2, hpl, hrel, hbel.setCell (Nat.le_refl _) _⟩
        case measure => simp [intOf]
      · have hb48 : ((c.toNat : Int) == 48) = false := by rw [eq48]; simp [hc]
        have hdc := HD.out c (by rw [H2.out]; simp)
        have hc1 : 48 ≤ c.toNat ∧ c.toNat ≤ 57 := by simpa [Plain.dig] using hdc
        obtain ⟨hc1, hc2⟩ := hc1
        have HC : Hid (c ≠ 48) := hc
        clear hc hdc
        have hsub : ((c - 1).toNat : Int) = (c.toNat : Int) - 1 := by
          have : (1 : UInt8).toNat = 1 := rfl
          rw [UInt8.toNat_sub_of_le c 1 (by rw [UInt8.le_iff_toNat_le]; omega)]
          omega
        have hbuf2 : Hid (Buf (wr.setCell ⟨w.heap.size, i, none⟩ (.int .u8 ((c.toNat : Int) - 1))) w.heap.size (p' ++ (c - 1) :: List.replicate n 57)) := by
          have := H3.out.set i (by have := H1.out; simp; omega) (c - 1) (p' ++ (c - 1) :: List.replicate n 57) (by rw [← H1.out]; simp)
          rw [hsub] at this
          exact this
        have hfin : Hid (Plain.dec s.data.toList = (Plain.strip (p' ++ (c - 1) :: List.replicate n 57), true)) := by rw [H2.out]; exact Plain.dec_run p' c n HC.out
        have hlen2 : Hid ((p' ++ (c - 1) :: List.replicate n 57).length = s.size) := by have := hlen.out; show _ = _; simpa using this
        clear hsub H3 H2 hlen HC
        generalize p' ++ (c - 1) :: List.replicate n 57 = l2 at hbuf2 hfin hlen2
        obtain ⟨x, r, hxr⟩ : ∃ x r, l2 = x :: r := by
          cases l2 with
          | nil => have := hlen2.out; simp at this; omega
          | cons x r => exact ⟨x, r, rfl⟩
        subst hxr
        have hcell0 : (wr.setCell ⟨w.heap.size, i, none⟩ (.int .u8 ((c.toNat : Int) - 1))).cell? ⟨w.heap.size, 0, none⟩ = some (.int .u8 (x.toNat : Int)) := by
          exact hbuf2.out.1 0 (by simp)
        by_cases h1 : 1 < s.size
        · by_cases hx : x = 48
          · have hx48 : ((x.toNat : Int) == 48) = true := by rw [eq48]; simp [hx]
            have hfin2 : Hid (Plain.dec s.data.toList = (r, true)) := by
              rw [hfin.out]
              unfold Plain.strip
              rw [if_pos ⟨by rw [hlen2.out]; exact h1, by rw [hx]; rfl⟩]
              rfl
            have hback : (convert 36 9 (.slice (some ⟨w.heap.size, 1, none⟩) (s.size - 1) (cap - 1))).run Try.prog (wr.setCell ⟨w.heap.size, i, none⟩ (.int .u8 ((c.toNat : Int) - 1))) = .ok (.string ⟨r.toArray⟩) (wr.setCell ⟨w.heap.size, i, none⟩ (.int .u8 ((c.toNat : Int) - 1))) := by
              have hr : r.length = s.size - 1 := by have := hlen2.out; simp at this; omega
              rw [← hr]
              refine run_convert_bytes_back _ 36 9 5 ⟨w.heap.size, 1, none⟩ (cap - 1) r Try.underlying36 Try.underlying5 Try.underlying9 (fun j hj => ?_)
              rw [Go.WideShapes.add_plain, Nat.add_comm]
              exact hbuf2.out.1 (j + 1) (by simpa using hj)
            have hc1' : 1 < cap := by omega
            clear hx
            go_wp2
            go_ret2
            exact ⟨ret_strb hfin2.out, hbel.setCell (Nat.le_refl _) _⟩
          · have hx48 : ((x.toNat : Int) == 48) = false := by rw [eq48]; simp [hx]
            have hfin2 : Hid (Plain.dec s.data.toList = (x :: r, true)) := by
              rw [hfin.out]
              unfold Plain.strip
              rw [if_neg]
              · rfl
              rintro ⟨_, h⟩
              exact hx (by simpa using h)
            have hback := hbuf2.out.back 36 9 s.size cap hlen2.out Try.underlying36 Try.underlying9
            clear hx
            go_wp2
            go_ret2
            exact ⟨ret_strb hfin2.out, hbel.setCell (Nat.le_refl _) _⟩
        · have hfin2 : Hid (Plain.dec s.data.toList = (x :: r, true)) := by
            rw [hfin.out]
            unfold Plain.strip
            rw [if_neg]
            · rfl
            rintro ⟨h, _⟩
            rw [hlen2.out] at h
            exact h1 h
          have hback := hbuf2.out.back 36 9 s.size cap hlen2.out Try.underlying36 Try.underlying9
          go_wp2
          go_ret2
          exact ⟨ret_strb hfin2.out, hbel.setCell (Nat.le_refl _) _⟩
    · have hfin : Hid (Plain.dec s.data.toList = ([], false)) := by
        have h1 := hp.out
        obtain rfl : p = [] := List.eq_nil_of_length_eq_zero (by omega)
        rw [hl.out]
        exact Plain.dec_none n
      clear hl hp hlen hb
      go_wp2
      go_ret2
      exact ⟨ret_strb hfin.out, hbel⟩

end Go.Proofs.Qxb6619337a
