import Derived.Test.Qxb6003389aDoorRows
import Derived.WalkKit
import Derived.WalkSpells
import Derived.WalkLawsBesides
import Derived.Outline
import Derived.Deep.QuietTactic
import Derived.BigQuiet
import Derived.Deep.RegionWith
import Derived.Test.Qxb6003389aDoorHex
namespace Go.Proofs.Qxb6003389aDoor
open Go.RowKit

def Deb (w : World) : Prop := w.cell? ⟨5, 15, none⟩ = some (.int .u8 4)
theorem Deb.below {B : Nat} {w w' : World} (h : Deb w) (hb : Below B w w') (hB : 5 < B) : Deb w' := by
  unfold Deb at *
  rw [hb.cell (by exact hB)]
  exact h

theorem pow2_16 (w : World) : Calls Tryd.prog 82 #[.int .i64 16] w fun e w' => e = .returned (.bool true) ∧ w' = w := by
  go_enter Tryd.func82, Tryd.ntmps82
  go_wp2
  go_ret
  exact ⟨rfl, rfl⟩

theorem tz64_16 (w : World) (hd : Deb w) : Calls Tryd.prog 89 #[.int .u64 16] w fun e w' => e = .returned (.int .i64 4) ∧ w' = w := by
  unfold Deb at hd
  have e1 : bits BinOp.and IntKind.u64 16 (IntKind.u64.wrap (-16)) = 16 := by decide +kernel
  have e2 : IntKind.u64.wrap (16 * 285870213051353865) = 4573923408821661840 := by decide +kernel
  go_enter Tryd.func89, Tryd.ntmps89
  go_wp2
  go_ret
  exact ⟨rfl, rfl⟩

theorem tz_16 (w : World) (hd : Deb w) : Calls Tryd.prog 83 #[.int .u64 16] w fun e w' => e = .returned (.int .i64 4) ∧ w' = w := by
  have HD : Hid (Deb w) := hd
  clear hd
  go_enter Tryd.func83, Tryd.ntmps83
  go_wp2_with fail
  refine (tz64_16 _ HD.out).mono ?_
  rintro e w ⟨rfl, rfl⟩
  go_wp2
  go_ret
  exact ⟨rfl, rfl⟩
end Go.Proofs.Qxb6003389aDoor
