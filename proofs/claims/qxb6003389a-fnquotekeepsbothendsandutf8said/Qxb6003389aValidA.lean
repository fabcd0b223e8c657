import Derived.Test.Qxb6003389aQuoteA
namespace Go.Proofs.Qxb6003389a
open Go.RowKit

def dl (s : ByteArray) (k : Nat) : List UInt8 := s.data.toList.drop k
theorem dl_cons (s : ByteArray) (k : Nat) (h : k < s.size) : dl s k = s[k] :: dl s (k + 1) := by
  unfold dl
  rw [List.drop_eq_getElem_cons (by simpa using h)]
  rfl
theorem dl_end (s : ByteArray) (k : Nat) (h : s.size ≤ k) : dl s k = [] := by
  unfold dl
  exact List.drop_eq_nil_of_le (by simpa using h)
theorem dl_drop (s : ByteArray) (k n : Nat) : (dl s k).drop n = dl s (k + n) := by
  unfold dl
  rw [List.drop_drop]

def inB (lo hi : Int) (b : UInt8) : Bool := decide (lo ≤ (b.toNat : Int) ∧ (b.toNat : Int) ≤ hi)
theorem within_inB (lo hi : Nat) (b : UInt8) : Utf.within lo hi b = inB (lo : Int) (hi : Int) b := by
  unfold Utf.within inB
  rw [Bool.eq_iff_iff]; simp

theorem v_go (s : ByteArray) (k n : Nat) (h : k < s.size) (hs : Utf.step (dl s k) = n + 1) : Utf.valid (dl s k) = Utf.valid (dl s (k + (n + 1))) := by
  rw [Utf.valid_ne _ (by rw [dl_cons s k h]; simp), hs, dl_drop]
  simp
theorem v_no (s : ByteArray) (k : Nat) (h : k < s.size) (hs : Utf.step (dl s k) = 0) : Utf.valid (dl s k) = false := by
  rw [Utf.valid_ne _ (by rw [dl_cons s k h]; simp), hs]
  simp

theorem v1 (s : ByteArray) (k : Nat) (h : k < s.size) (hc : (s[k].toNat : Int) < 128) : Utf.valid (dl s k) = Utf.valid (dl s (k + 1)) := by
  refine v_go s k 0 h ?_
  rw [dl_cons s k h]
  simp only [Utf.step]
  rw [if_pos (by omega)]
theorem v1no (s : ByteArray) (k : Nat) (h : k < s.size) (hc : 128 ≤ (s[k].toNat : Int)) (hd : (s[k].toNat : Int) < 194) : Utf.valid (dl s k) = false := by
  refine v_no s k h ?_
  rw [dl_cons s k h]
  simp only [Utf.step]
  rw [if_neg (by omega), if_pos (by omega)]
theorem v5no (s : ByteArray) (k : Nat) (h : k < s.size) (hc : 245 ≤ (s[k].toNat : Int)) : Utf.valid (dl s k) = false := by
  refine v_no s k h ?_
  rw [dl_cons s k h]
  simp only [Utf.step]
  rw [if_neg (by omega), if_neg (by omega), if_neg (by omega), if_neg (by omega), if_neg (by omega)]

theorem st2 (s : ByteArray) (k : Nat) (h : k < s.size) (hc : 194 ≤ (s[k].toNat : Int)) (hd : (s[k].toNat : Int) < 224) : Utf.step (dl s k) = Utf.step2 (dl s (k + 1)) := by
  rw [dl_cons s k h]
  simp only [Utf.step]
  rw [if_neg (by omega), if_neg (by omega), if_pos (by omega)]
theorem v2 (s : ByteArray) (k : Nat) (h : k < s.size) (hc : 194 ≤ (s[k].toNat : Int)) (hd : (s[k].toNat : Int) < 224) (h1 : k + 1 < s.size) (hb : inB 128 191 s[k + 1] = true) : Utf.valid (dl s k) = Utf.valid (dl s (k + 2)) := by
  refine v_go s k 1 h ?_
  rw [st2 s k h hc hd, dl_cons s (k + 1) h1]
  simp only [Utf.step2, within_inB]
  exact if_pos hb
theorem v2no (s : ByteArray) (k : Nat) (h : k < s.size) (hc : 194 ≤ (s[k].toNat : Int)) (hd : (s[k].toNat : Int) < 224) (h1 : k + 1 < s.size) (hb : inB 128 191 s[k + 1] = false) : Utf.valid (dl s k) = false := by
  refine v_no s k h ?_
  rw [st2 s k h hc hd, dl_cons s (k + 1) h1]
  simp only [Utf.step2, within_inB]
  rw [if_neg (by simpa using hb)]
theorem v2end (s : ByteArray) (k : Nat) (h : k < s.size) (hc : 194 ≤ (s[k].toNat : Int)) (hd : (s[k].toNat : Int) < 224) (h1 : ¬ k + 1 < s.size) : Utf.valid (dl s k) = false := by
  refine v_no s k h ?_
  rw [st2 s k h hc hd, dl_end s (k + 1) (by omega)]
  rfl

theorem st3 (s : ByteArray) (k : Nat) (h : k < s.size) (hc : 224 ≤ (s[k].toNat : Int)) (hd : (s[k].toNat : Int) < 240) : Utf.step (dl s k) = Utf.step3 s[k] (dl s (k + 1)) := by
  rw [dl_cons s k h]
  simp only [Utf.step]
  rw [if_neg (by omega), if_neg (by omega), if_neg (by omega), if_pos (by omega)]
theorem v3 (s : ByteArray) (k : Nat) (lo hi : Int) (h : k < s.size) (hc : 224 ≤ (s[k].toNat : Int)) (hd : (s[k].toNat : Int) < 240) (hlo : (Utf.lo3 s[k] : Int) = lo) (hhi : (Utf.hi3 s[k] : Int) = hi) (h1 : k + 2 < s.size)
    (hb : inB lo hi s[k + 1] = true) (hb2 : inB 128 191 s[k + 2] = true) : Utf.valid (dl s k) = Utf.valid (dl s (k + 3)) := by
  refine v_go s k 2 h ?_
  rw [st3 s k h hc hd, dl_cons s (k + 1) (by omega), dl_cons s (k + 1 + 1) h1]
  simp only [Utf.step3, within_inB, hlo, hhi]
  rw [if_pos ⟨hb, hb2⟩]
theorem v3no (s : ByteArray) (k : Nat) (lo hi : Int) (h : k < s.size) (hc : 224 ≤ (s[k].toNat : Int)) (hd : (s[k].toNat : Int) < 240) (hlo : (Utf.lo3 s[k] : Int) = lo) (hhi : (Utf.hi3 s[k] : Int) = hi) (h1 : k + 2 < s.size)
    (hb : inB lo hi s[k + 1] = false ∨ inB 128 191 s[k + 2] = false) : Utf.valid (dl s k) = false := by
  refine v_no s k h ?_
  rw [st3 s k h hc hd, dl_cons s (k + 1) (by omega), dl_cons s (k + 1 + 1) h1]
  simp only [Utf.step3, within_inB, hlo, hhi]
  rw [if_neg]
  rintro ⟨a, b⟩
  rcases hb with hb | hb
  · rw [hb] at a; exact absurd a (by simp)
  · exact absurd (hb.symm.trans b) (by simp)
theorem v3end (s : ByteArray) (k : Nat) (h : k < s.size) (hc : 224 ≤ (s[k].toNat : Int)) (hd : (s[k].toNat : Int) < 240) (h1 : ¬ k + 2 < s.size) : Utf.valid (dl s k) = false := by
  refine v_no s k h ?_
  rw [st3 s k h hc hd]
  by_cases h2 : k + 1 < s.size
  · rw [dl_cons s (k + 1) h2, dl_end s (k + 1 + 1) (by omega)]; rfl
  · rw [dl_end s (k + 1) (by omega)]; rfl

theorem st4 (s : ByteArray) (k : Nat) (h : k < s.size) (hc : 240 ≤ (s[k].toNat : Int)) (hd : (s[k].toNat : Int) < 245) : Utf.step (dl s k) = Utf.step4 s[k] (dl s (k + 1)) := by
  rw [dl_cons s k h]
  simp only [Utf.step]
  rw [if_neg (by omega), if_neg (by omega), if_neg (by omega), if_neg (by omega), if_pos (by omega)]
theorem v4 (s : ByteArray) (k : Nat) (lo hi : Int) (h : k < s.size) (hc : 240 ≤ (s[k].toNat : Int)) (hd : (s[k].toNat : Int) < 245) (hlo : (Utf.lo4 s[k] : Int) = lo) (hhi : (Utf.hi4 s[k] : Int) = hi) (h1 : k + 3 < s.size)
    (hb : inB lo hi s[k + 1] = true) (hb2 : inB 128 191 s[k + 2] = true) (hb3 : inB 128 191 s[k + 3] = true) : Utf.valid (dl s k) = Utf.valid (dl s (k + 4)) := by
  refine v_go s k 3 h ?_
  rw [st4 s k h hc hd, dl_cons s (k + 1) (by omega), dl_cons s (k + 1 + 1) (by omega), dl_cons s (k + 1 + 1 + 1) h1]
  simp only [Utf.step4, within_inB, hlo, hhi]
  rw [if_pos ⟨hb, hb2, hb3⟩]
theorem v4no (s : ByteArray) (k : Nat) (lo hi : Int) (h : k < s.size) (hc : 240 ≤ (s[k].toNat : Int)) (hd : (s[k].toNat : Int) < 245) (hlo : (Utf.lo4 s[k] : Int) = lo) (hhi : (Utf.hi4 s[k] : Int) = hi) (h1 : k + 3 < s.size)
    (hb : inB lo hi s[k + 1] = false ∨ inB 128 191 s[k + 2] = false ∨ inB 128 191 s[k + 3] = false) : Utf.valid (dl s k) = false := by
  refine v_no s k h ?_
  rw [st4 s k h hc hd, dl_cons s (k + 1) (by omega), dl_cons s (k + 1 + 1) (by omega), dl_cons s (k + 1 + 1 + 1) h1]
  simp only [Utf.step4, within_inB, hlo, hhi]
  rw [if_neg]
  rintro ⟨a, b, c⟩
  rcases hb with hb | hb | hb
  · rw [hb] at a; exact absurd a (by simp)
  · exact absurd (hb.symm.trans b) (by simp)
  · exact absurd (hb.symm.trans c) (by simp)
theorem v4end (s : ByteArray) (k : Nat) (h : k < s.size) (hc : 240 ≤ (s[k].toNat : Int)) (hd : (s[k].toNat : Int) < 245) (h1 : ¬ k + 3 < s.size) : Utf.valid (dl s k) = false := by
  refine v_no s k h ?_
  rw [st4 s k h hc hd]
  by_cases h2 : k + 1 < s.size
  · rw [dl_cons s (k + 1) h2]
    by_cases h3 : k + 1 + 1 < s.size
    · rw [dl_cons s (k + 1 + 1) h3, dl_end s (k + 1 + 1 + 1) (by omega)]; rfl
    · rw [dl_end s (k + 1 + 1) (by omega)]; rfl
  · rw [dl_end s (k + 1) (by omega)]; rfl

set_option maxHeartbeats 400000 in
theorem cont_any (b : UInt8) (lo hi : Int) (w : World) :
    Calls Try.prog 25 #[.int .u8 (b.toNat : Int), .int .u8 lo, .int .u8 hi] w fun e w' => e = .returned (.bool (inB lo hi b)) ∧ w' = w := by
  by_cases h1 : lo ≤ (b.toNat : Int)
  · by_cases h2 : (b.toNat : Int) ≤ hi
    · have e : inB lo hi b = true := by unfold inB; simp [h1, h2]
      rw [e]
      go_enter Try.func25, Try.ntmps25
      go_wp2
      go_ret
      exact ⟨rfl, rfl⟩
    · have e : inB lo hi b = false := by unfold inB; simp [h2]
      rw [e]
      go_enter Try.func25, Try.ntmps25
      go_wp2
      go_ret
      exact ⟨rfl, rfl⟩
  · have e : inB lo hi b = false := by unfold inB; simp [h1]
    have hd : decide (lo ≤ (b.toNat : Int)) = false := decide_eq_false h1
    rw [e]
    go_enter Try.func25, Try.ntmps25
    go_wp2
    go_ret
    exact ⟨rfl, rfl⟩
end Go.Proofs.Qxb6003389a
