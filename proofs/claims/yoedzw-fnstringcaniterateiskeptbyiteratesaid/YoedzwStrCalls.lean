import Derived.Test.YoedzwRows
import Derived.Test.YoedzwStrPlain
import Derived.WalkKit
import Derived.WalkLawsBesides
import Derived.WalkSpells
import Derived.BigQuiet
import Derived.Deep.QuietTactic
import Derived.Laws.IdiomStrings
namespace Go.Proofs.Yoedzw.Sp
open Go.RowKit

theorem can_any (v : Value) (w : World) : Calls Edzg.prog 9 #[v] w fun e w' => e = .returned (.bool true) ∧ w' = w := by
  go_enter Edzg.func9, Edzg.ntmps9
  go_wp2
  go_ret
  exact ⟨rfl, rfl⟩

theorem bytes_le (s : ByteArray) (h : s.size ≤ 1048576) (w : World) : Calls Edzg.prog 8 #[.string s] w fun e w' => e = .returned (.bool true) ∧ w' = w := by
  have h' : (s.size : Int) ≤ 1048576 := by omega
  go_enter Edzg.func8, Edzg.ntmps8
  go_wp2
  go_ret
  exact ⟨rfl, rfl⟩

theorem bytes_gt (s : ByteArray) (h : 1048576 < s.size) (hs : s.size ≤ maxLen) (w : World) : Calls Edzg.prog 8 #[.string s] w fun e w' => e = .returned (.bool false) ∧ w' = w := by
  unfold maxLen at hs
  have h' : (1048576 : Int) < (s.size : Int) := by omega
  go_enter Edzg.func8, Edzg.ntmps8
  go_wp2
  go_ret
  exact ⟨rfl, rfl⟩

theorem next_any (b : Nat) (i l : Int) (w : World) (h0 : 0 ≤ i) (h1 : i ≤ 1048577)
    (c1 : w.cell? ⟨b, 1, none⟩ = some (.int .i64 i)) (c2 : w.cell? ⟨b, 2, none⟩ = some (.int .i64 l)) (hf : w.frozen? ⟨b, 1, none⟩ = false) :
    Calls Edzg.prog 53 #[.pointer (some ⟨b, 0, none⟩)] w fun e w' => e = .returned (.bool (decide (i + 1 ≤ l))) ∧ ∃ n, w' = (w.setCell ⟨b, 1, none⟩ (.int .i64 (i + 1))).drewN n := by
  go_enter Edzg.func53, Edzg.ntmps53
  go_wp2
  go_quiet (fail)
  go_wp2
  go_ret
  exact ⟨rfl, _, rfl⟩
end Go.Proofs.Yoedzw.Sp
