namespace Go.Proofs.Qxb6003389a.Mrg

/-- What the cursor gives, one after the other. -/
def mrg : List Int → List Int → List Int
  | [], e => e
  | x :: s, [] => x :: s
  | x :: s, y :: e => if x < y then x :: mrg s (y :: e) else y :: mrg (x :: s) e
def Sorted (l : List Int) : Prop := l.Pairwise (· ≤ ·)

theorem mrg_perm : ∀ (s e : List Int), List.Perm (mrg s e) (s ++ e)
  | [], e => by simp [mrg]
  | x :: s, [] => by simp [mrg]
  | x :: s, y :: e => by
    simp only [mrg]
    split
    · exact (mrg_perm s (y :: e)).cons x
    · exact ((mrg_perm (x :: s) e).cons y).trans List.perm_middle.symm

theorem mrg_sorted : ∀ (s e : List Int), Sorted s → Sorted e → Sorted (mrg s e)
  | [], e, _, he => by simpa [mrg] using he
  | x :: s, [], hs, _ => by simpa [mrg] using hs
  | x :: s, y :: e, hs, he => by
    have hs' := List.pairwise_cons.1 hs
    have he' := List.pairwise_cons.1 he
    simp only [mrg]
    split
    · refine List.pairwise_cons.2 ⟨fun z hz => ?_, mrg_sorted s (y :: e) hs'.2 he⟩
      have hz' := (mrg_perm s (y :: e)).mem_iff.1 hz
      simp only [List.mem_append, List.mem_cons] at hz'
      rcases hz' with h | h | h
      · exact hs'.1 z h
      · omega
      · have := he'.1 z h; omega
    · refine List.pairwise_cons.2 ⟨fun z hz => ?_, mrg_sorted (x :: s) e hs he'.2⟩
      have hz' := (mrg_perm (x :: s) e).mem_iff.1 hz
      simp only [List.mem_append, List.mem_cons] at hz'
      rcases hz' with (h | h) | h
      · omega
      · have := hs'.1 z h; omega
      · exact he'.1 z h

theorem sorted_unique {l l' : List Int} (h : Sorted l) (h' : Sorted l') (p : List.Perm l l') : l = l' :=
  List.Perm.eq_of_pairwise (le := fun a b => a ≤ b) (fun a b _ _ h1 h2 => by omega) h h' p

theorem mrg_length (s e : List Int) : (mrg s e).length = s.length + e.length := by
  rw [(mrg_perm s e).length_eq, List.length_append]

/-! ### insertion -/
/-- 'x' put in at 'j' of the sorted 'S': ahead nothing greater, behind nothing smaller: sorted again. -/
theorem insert_sorted {S : List Int} {x : Int} {j : Nat} (hS : Sorted S) (hj : j ≤ S.length) (h1 : 0 < j → S[j - 1]?.getD 0 ≤ x) (h2 : j < S.length → x ≤ S[j]?.getD 0) : Sorted (S.take j ++ x :: S.drop j) := by
  have hget : ∀ p q, p ≤ q → q < S.length → S[p]?.getD 0 ≤ S[q]?.getD 0 := by
    intro p q hpq hq
    by_cases e : p = q
    · subst e; omega
    · have := List.pairwise_iff_getElem.1 hS p q (by omega) hq (by omega)
      rw [List.getElem?_eq_getElem (by omega), List.getElem?_eq_getElem hq]
      exact this
  refine List.pairwise_append.2 ⟨hS.sublist (List.take_sublist _ _), List.pairwise_cons.2 ⟨fun z hz => ?_, hS.sublist (List.drop_sublist _ _)⟩, fun a ha z hz => ?_⟩
  · obtain ⟨i, hi, rfl⟩ := List.mem_iff_getElem.1 hz
    simp only [List.length_drop] at hi
    rw [List.getElem_drop]
    have a1 := h2 (by omega)
    have a2 := hget j (j + i) (by omega) (by omega)
    rw [List.getElem?_eq_getElem (show j + i < S.length by omega)] at a2
    simp only [Option.getD_some] at a2
    omega
  · obtain ⟨i, hi, rfl⟩ := List.mem_iff_getElem.1 ha
    simp only [List.length_take] at hi
    rw [List.getElem_take]
    have a0 := h1 (by omega)
    have a2 := hget i (j - 1) (by omega) (by omega)
    rw [List.getElem?_eq_getElem (show i < S.length by omega)] at a2
    simp only [Option.getD_some] at a2
    have a3 : S[i] ≤ x := by omega
    rcases List.mem_cons.1 hz with rfl | hz
    · exact a3
    · obtain ⟨k, hk, rfl⟩ := List.mem_iff_getElem.1 hz
      simp only [List.length_drop] at hk
      rw [List.getElem_drop]
      have b1 := hget i (j + k) (by omega) (by omega)
      rw [List.getElem?_eq_getElem (show i < S.length by omega), List.getElem?_eq_getElem (show j + k < S.length by omega)] at b1
      exact b1
theorem insert_perm (S : List Int) (x : Int) (j : Nat) : List.Perm (S.take j ++ x :: S.drop j) (S ++ [x]) := by
  refine List.perm_middle.trans ?_
  rw [List.take_append_drop]
  exact (List.perm_append_singleton x S).symm

/-- The memory in the middle of an insertion: a hole at 'j'. -/
def hole (S R : List Int) (h : Int) (j : Nat) : List Int := S.take j ++ h :: (S.drop j ++ R)
theorem hole_length (S R : List Int) (h : Int) (j : Nat) (hj : j ≤ S.length) : (hole S R h j).length = S.length + 1 + R.length := by
  simp [hole]; omega
theorem hole_start (S R : List Int) (h : Int) : hole S R h S.length = S ++ h :: R := by simp [hole]
theorem hole_set (S R : List Int) (h u : Int) (j : Nat) (hj : j ≤ S.length) : (hole S R h j).set j u = hole S R u j := by
  unfold hole
  have hl : (S.take j).length = j := by rw [List.length_take]; omega
  rw [List.set_append_right _ _ (by omega), hl, Nat.sub_self, List.set_cons_zero]
theorem hole_shift (S R : List Int) (j : Nat) (hj : j + 1 ≤ S.length) : hole S R (S[j]?.getD 0) (j + 1) = hole S R (S[j]?.getD 0) j := by
  unfold hole
  rw [List.take_succ_eq_append_getElem (by omega), List.drop_eq_getElem_cons (show j < S.length by omega), List.getElem?_eq_getElem (show j < S.length by omega)]
  simp only [List.append_assoc, List.cons_append, List.nil_append, Option.getD_some]
/-- Ahead of the hole the memory reads as 'S'. -/
theorem hole_get (S R : List Int) (h : Int) (j p : Nat) (hp : p < j) (hj : j ≤ S.length) : (hole S R h j)[p]? = S[p]? := by
  unfold hole
  rw [List.getElem?_append_left (by rw [List.length_take]; omega), List.getElem?_take, if_pos hp]
theorem hole_at (S R : List Int) (h : Int) (j : Nat) (hj : j ≤ S.length) : (hole S R h j)[j]? = some h := by
  unfold hole
  have hl : (S.take j).length = j := by rw [List.length_take]; omega
  rw [List.getElem?_append_right (by omega), hl, Nat.sub_self]
  rfl

/-! ### non-decreasing, as the law asks it -/
def nondec : List Int → Bool
  | x :: y :: r => decide (x ≤ y) && nondec (y :: r)
  | _ => true
theorem nondec_sorted : ∀ (l : List Int), nondec l = true → Sorted l
  | [], _ => List.Pairwise.nil
  | [x], _ => List.pairwise_cons.2 ⟨fun z hz => by simp at hz, List.Pairwise.nil⟩
  | x :: y :: r, h => by
    simp only [nondec, Bool.and_eq_true, decide_eq_true_eq] at h
    have ih := nondec_sorted (y :: r) h.2
    refine List.pairwise_cons.2 ⟨fun z hz => ?_, ih⟩
    rcases List.mem_cons.1 hz with rfl | hz
    · exact h.1
    · have := (List.pairwise_cons.1 ih).1 z hz; omega
theorem nondec_step (l : List Int) (k : Nat) (h : k + 1 < l.length) : nondec (l.drop k) = (decide (l[k]?.getD 0 ≤ l[k + 1]?.getD 0) && nondec (l.drop (k + 1))) := by
  rw [List.drop_eq_getElem_cons (by omega), List.drop_eq_getElem_cons h, List.getElem?_eq_getElem (by omega), List.getElem?_eq_getElem h]
  rfl
theorem nondec_end (l : List Int) (k : Nat) (h : l.length ≤ k + 1) : nondec (l.drop k) = true := by
  match hd : l.drop k with
  | [] => rfl
  | [_] => rfl
  | _ :: _ :: _ => have := congrArg List.length hd; simp only [List.length_drop, List.length_cons] at this; omega
end Go.Proofs.Qxb6003389a.Mrg
