/-
  THE WALKS OF THE LAW's TABLES AND OF strings.HasPrefix AT THEM, over this seat's translation.
-/
import Derived.Test.YbulkbjzoFmtRows
import Derived.Test.YbulkbjzoFmtPlain
import Derived.WalkKit
import Derived.WalkSpells
import Derived.WalkLawsBesides
namespace Go.Proofs.YbulkbjzoFmt
open Go.RowKit

/-- A string by its bytes. -/
def BS (l : List UInt8) : ByteArray := ⟨l.toArray⟩
theorem BS_list (l : List UInt8) : (BS l).data.toList = l := by simp [BS]

theorem lt9 {k : Nat} (h : k < 9) : k = 0 ∨ k = 1 ∨ k = 2 ∨ k = 3 ∨ k = 4 ∨ k = 5 ∨ k = 6 ∨ k = 7 ∨ k = 8 := by omega

set_option maxRecDepth 100000 in
set_option maxHeartbeats 1000000 in
theorem key_any (k : Nat) (hk : k < 9) (w : World) : Calls Ybaf.prog 5 #[.int .i64 k] w fun e w' => e = .returned (.string (BS (KL k))) ∧ w' = w := by
  rcases lt9 hk with rfl | rfl | rfl | rfl | rfl | rfl | rfl | rfl | rfl
  all_goals
    go_enter Ybaf.func5, Ybaf.ntmps5
    go_wp2
    go_ret
    exact ⟨rfl, rfl⟩

set_option maxHeartbeats 1000000 in
theorem val_any (k : Nat) (hk : k < 3) (w : World) : Calls Ybaf.prog 4 #[.int .i64 k] w fun e w' => e = .returned (.string (BS (VL k))) ∧ w' = w := by
  have : k = 0 ∨ k = 1 ∨ k = 2 := by omega
  rcases this with rfl | rfl | rfl
  all_goals
    go_enter Ybaf.func4, Ybaf.ntmps4
    go_wp2
    go_ret
    exact ⟨rfl, rfl⟩

set_option maxHeartbeats 1000000 in
theorem forb_any (k : Nat) (hk : k < 9) (w : World) : Calls Ybaf.prog 6 #[.int .i64 k] w fun e w' => e = .returned (.bool (forb k)) ∧ w' = w := by
  rcases lt9 hk with rfl | rfl | rfl | rfl | rfl | rfl | rfl | rfl | rfl
  all_goals
    go_enter Ybaf.func6, Ybaf.ntmps6
    go_wp2
    go_ret
    exact ⟨rfl, rfl⟩

set_option maxRecDepth 100000 in
set_option maxHeartbeats 2000000 in
theorem prefix_any (k : Nat) (hk : k < 9) (w : World) : Calls Ybaf.prog 10 #[.string (BS (KL k)), .string { data := #[71, 78, 85, 46, 115, 112, 97, 114, 115, 101, 46] }] w fun e w' => e = .returned (.bool (k == 0)) ∧ w' = w := by
  rcases lt9 hk with rfl | rfl | rfl | rfl | rfl | rfl | rfl | rfl | rfl
  all_goals
    simp only [BS, KL]
    go_enter Ybaf.func10, Ybaf.ntmps10
    go_wp2
    go_ret
    exact ⟨by kernel_rfl, rfl⟩

end Go.Proofs.YbulkbjzoFmt
