/-
  THE WALK OF zzRuneCount: it counts the runes as the model's decoder has them.
-/
import Derived.Test.YoedzwStrDecode
namespace Go.Proofs.Yoedzw.Sp
open Go.RowKit

theorem ret_int {k : IntKind} {a b : Int} (h : a = b) : Ending.returned (.int k a) = .returned (.int k b) := by rw [h]

set_option maxHeartbeats 400000 in
theorem count_any (s : ByteArray) (hs : s.size ≤ 1048576) (w : World) :
    Calls Edzg.prog 10 #[.string s] w fun e w' => e = .returned (.int .i64 (cnt s 0)) ∧ w' = w := by
  have hc := cnt_le s 0
  go_enter Edzg.func10, Edzg.ntmps10
  go_wp2
  go_loop [3, 4] (fun t n => ∃ p k : Nat, p ≤ s.size ∧ k ≤ p ∧ t = .int .i64 p ∧ n = .int .i64 k ∧ k + cnt s p = cnt s 0) (fun t _ => s.size - (intOf t).toNat)
  case atStart => exact ⟨0, 0, Nat.zero_le _, Nat.zero_le _, rfl, rfl, Nat.zero_add _⟩
  case round =>
    obtain ⟨p, k, hp, hk, rfl, rfl, hq⟩ := hrel
    have HQ : Hid (k + cnt s p = cnt s 0) := hq
    clear hq hc
    by_cases hlt : p < s.size
    · have hw := wid_pos s p
      have hf := wid_fits s p hlt
      have HS : Hid (cnt s p = 1 + cnt s (p + wid s p)) := cnt_step s p hlt
      go_wp2_with (go_at_call 7; refine (decode_any s p hlt hs _).mono ?_; rintro e w' ⟨⟨r, rfl⟩, rfl⟩)
      go_round
      case rel => exact ⟨p + wid s p, k + 1, hf, by omega, by go_num, by go_num, by have := HQ.out; have := HS.out; omega⟩
      case measure => simp [intOf]; omega
    · have HE : Hid (cnt s p = 0) := cnt_end s p hlt
      go_wp2
      go_ret
      exact ⟨ret_int (by have := HQ.out; have := HE.out; omega), rfl⟩
end Go.Proofs.Yoedzw.Sp
