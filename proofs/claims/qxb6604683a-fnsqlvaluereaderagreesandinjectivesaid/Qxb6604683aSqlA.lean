import Derived.Test.Qxb6604683aRows
import Derived.WalkKit
import Derived.WalkSpells
import Derived.WalkLawsBesides
import Derived.Laws.EntriesVeiled
import Derived.Outline
import Derived.Lib.Strings
namespace Go.Proofs.Qxb6604683a
open Go.RowKit

def head14 : ByteArray := ⟨#[108, 105, 98, 103, 114, 97, 110, 116, 46, 114, 101, 97, 100, 95]⟩
def ess : ByteArray := ⟨#[115]⟩
def op40 : ByteArray := ⟨#[40]⟩
def cl41 : ByteArray := ⟨#[41]⟩

set_option maxHeartbeats 400000 in
theorem readers_any (s : ByteArray) (w : World) (hs : s.size ≤ 1048576) :
    Calls Try.prog 21 #[.agg #[.string s, .nilFunc, .string ⟨#[]⟩, .slice none 0 0]] w fun e w' => e = .returned (.tuple #[.string (head14 ++ s), .string (head14 ++ s ++ ess)]) ∧ Grown w w' := by
  go_enter Try.func21, Try.ntmps21
  go_wp2
  go_ret2
  exact ⟨rfl, (Grown.refl _).alloc _ _⟩
set_option maxHeartbeats 400000 in
theorem zzreaders_any (s : ByteArray) (w : World) (hs : s.size ≤ 1048576) :
    Calls Try.prog 8 #[.string s] w fun e w' => e = .returned (.tuple #[.string (head14 ++ s), .string (head14 ++ s ++ ess)]) ∧ Grown w w' := by
  go_enter Try.func8, Try.ntmps8
  go_wp2_with fail
  refine (readers_any s w hs).mono ?_
  rintro e w' ⟨rfl, hg⟩
  go_wp2_with fail
  go_ret2
  exact ⟨rfl, hg⟩
theorem Grown.trans {a b c : World} (h : Grown a b) (k : Grown b c) : Grown a c :=
  ⟨World.keptBut_trans h.1 (World.keptBut_mono (fun _ f => f) k.1), fun x => (k.2.1 x).trans (h.2.1 x), Nat.le_trans h.2.2 k.2.2⟩
set_option maxHeartbeats 400000 in
theorem value_any (s x : ByteArray) (w : World) (hs : s.size ≤ 1048576) (hx : x.size ≤ 1048576) :
    Calls Try.prog 22 #[.agg #[.string s, .nilFunc, .string ⟨#[]⟩, .slice none 0 0], .string x] w fun e w' => e = .returned (.string (head14 ++ s ++ op40 ++ x ++ cl41)) ∧ Grown w w' := by
  have hz : (head14 ++ s).size = 14 + s.size := by simp [head14]; rfl
  go_enter Try.func22, Try.ntmps22
  go_wp2_with fail
  refine (readers_any s _ hs).mono ?_
  rintro e w' ⟨rfl, hg⟩
  go_wp2_with fail
  go_ret
  exact ⟨rfl, Grown.trans ((Grown.refl _).alloc _ _) hg⟩
set_option maxHeartbeats 400000 in
theorem zzvalue_any (s x : ByteArray) (w : World) (hs : s.size ≤ 1048576) (hx : x.size ≤ 1048576) :
    Calls Try.prog 9 #[.string s, .string x] w fun e w' => e = .returned (.string (head14 ++ s ++ op40 ++ x ++ cl41)) ∧ Grown w w' := by
  go_enter Try.func9, Try.ntmps9
  go_wp2_with fail
  refine (value_any s x _ hs hx).mono ?_
  rintro e w' ⟨rfl, hg⟩
  go_wp2_with fail
  go_ret
  exact ⟨rfl, hg⟩
set_option maxHeartbeats 400000 in
theorem bytes_yes (a b c : ByteArray) (w : World) (h : a.size + b.size + c.size ≤ 1048576) :
    Calls Try.prog 7 #[.string a, .string b, .string c] w fun e w' => e = .returned (.bool true) ∧ w' = w := by
  go_enter Try.func7, Try.ntmps7
  go_wp2
  go_ret
  exact ⟨rfl, rfl⟩
set_option maxHeartbeats 400000 in
theorem bytes_no (a b c : ByteArray) (w : World) (ha : a.size ≤ maxLen) (hb : b.size ≤ maxLen) (hc : c.size ≤ maxLen) (h : ¬ a.size + b.size + c.size ≤ 1048576) :
    Calls Try.prog 7 #[.string a, .string b, .string c] w fun e w' => e = .returned (.bool false) ∧ w' = w := by
  unfold maxLen at ha hb hc
  by_cases h1 : a.size ≤ 1048576
  · by_cases h2 : b.size ≤ 1048576
    · by_cases h3 : a.size + b.size ≤ 1048576
      · by_cases h4 : c.size ≤ 1048576
        · go_enter Try.func7, Try.ntmps7
          go_wp2
          go_ret
          exact ⟨rfl, rfl⟩
        · go_enter Try.func7, Try.ntmps7
          go_wp2
          go_ret
          exact ⟨rfl, rfl⟩
      · go_enter Try.func7, Try.ntmps7
        go_wp2
        go_ret
        exact ⟨rfl, rfl⟩
    · go_enter Try.func7, Try.ntmps7
      go_wp2
      go_ret
      exact ⟨rfl, rfl⟩
  · go_enter Try.func7, Try.ntmps7
    go_wp2
    go_ret
    exact ⟨rfl, rfl⟩
end Go.Proofs.Qxb6604683a
