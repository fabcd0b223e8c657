import Derived.Test.Qxb6003389aRows
import Derived.Test.Qxb6003389aUtf
import Derived.WalkKit
import Derived.WalkSpells
import Derived.WalkLawsBesides
import Derived.Outline
import Derived.Deep.QuietTactic
import Derived.BigQuiet
namespace Go.Proofs.Qxb6003389a
open Go.RowKit

theorem bits_start (b : UInt8) : (bits .and .u8 (b.toNat : Int) 192 != 128) = !Utf.isCont b := by
  have : ∀ n : Fin 256, (bits .and .u8 (n.val : Int) 192 != 128) = !decide (128 ≤ n.val ∧ n.val ≤ 191) := by decide +kernel
  exact this ⟨b.toNat, b.toNat_lt⟩

set_option maxHeartbeats 400000 in
theorem runeStart_any (b : UInt8) (w : World) :
    Calls Try.prog 27 #[.int .u8 (b.toNat : Int)] w fun e w' => e = .returned (.bool (!Utf.isCont b)) ∧ w' = w := by
  rw [← bits_start]
  go_enter Try.func27, Try.ntmps27
  go_wp2
  go_ret
  exact ⟨rfl, rfl⟩

set_option maxHeartbeats 400000 in
theorem bytesQ_yes (s : ByteArray) (w : World) (h : s.size ≤ 1048576) :
    Calls Try.prog 12 #[.string s] w fun e w' => e = .returned (.bool true) ∧ w' = w := by
  go_enter Try.func12, Try.ntmps12
  go_wp2
  go_ret
  exact ⟨rfl, rfl⟩
set_option maxHeartbeats 400000 in
theorem bytesQ_no (s : ByteArray) (w : World) (h : ¬ s.size ≤ 1048576) (hm : s.size ≤ maxLen) :
    Calls Try.prog 12 #[.string s] w fun e w' => e = .returned (.bool false) ∧ w' = w := by
  unfold maxLen at hm
  go_enter Try.func12, Try.ntmps12
  go_wp2
  go_ret
  exact ⟨rfl, rfl⟩

set_option maxHeartbeats 400000 in
theorem quote_short (s : ByteArray) (w : World) (h : s.size ≤ 1024) :
    Calls Try.prog 24 #[.string s] w fun e w' => e = .returned (.string s) ∧ w' = w := by
  go_enter Try.func24, Try.ntmps24
  go_wp2
  go_ret
  exact ⟨rfl, rfl⟩

end Go.Proofs.Qxb6003389a
