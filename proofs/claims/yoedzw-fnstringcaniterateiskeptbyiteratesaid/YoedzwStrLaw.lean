/-
  THE WALK OF THE LAW ITSELF (function 4): it returns true, and nothing that was there has turned.
-/
import Derived.Test.YoedzwStrCalls
import Derived.Test.YoedzwStrCount
import Derived.Test.YoedzwStrIter
namespace Go.Proofs.Yoedzw.Sp
open Go.RowKit

/-- The iterator at block b stands at i of l; of what was there in w0 nothing has turned. -/
structure ItAt (w0 : World) (b : Nat) (i l : Int) (w : World) : Prop where
  c1 : w.cell? ⟨b, 1, none⟩ = some (.int .i64 i)
  c2 : w.cell? ⟨b, 2, none⟩ = some (.int .i64 l)
  hf : w.frozen? ⟨b, 1, none⟩ = false
  hg : Grown w0 w

theorem it_step {w0 w : World} {b : Nat} {i l : Int} (hb : w0.heap.size ≤ b) (h : ItAt w0 b i l w) (j : Int) (n : Nat) : ItAt w0 b j l ((w.setCell ⟨b, 1, none⟩ (.int .i64 j)).drewN n) := by
  refine ⟨?_, ?_, ?_, ?_⟩
  · exact World.cell?_setCell_same _ _ _ h.c1
  · exact (World.cell?_setCell_other w ⟨b, 1, none⟩ ⟨b, 2, none⟩ (.int .i64 j) (by simp)).trans h.c2
  · exact (World.frozen?_setCell _ _ _ _).trans h.hf
  · exact h.hg.setCell (a := ⟨b, 1, none⟩) hb _

theorem next_more {w0 w : World} {b : Nat} {i l : Int} (hb : w0.heap.size ≤ b) (h : ItAt w0 b i l w) (h0 : 0 ≤ i) (h1 : i ≤ 1048577) (hl : i + 1 ≤ l) :
    Calls Edzg.prog 53 #[.pointer (some ⟨b, 0, none⟩)] w fun e w' => e = .returned (.bool true) ∧ ItAt w0 b (i + 1) l w' := by
  refine (next_any b i l w h0 h1 h.c1 h.c2 h.hf).mono ?_
  rintro e w' ⟨rfl, n, rfl⟩
  exact ⟨by rw [decide_eq_true hl], it_step hb h _ _⟩

theorem next_done {w0 w : World} {b : Nat} {i l : Int} (hb : w0.heap.size ≤ b) (h : ItAt w0 b i l w) (h0 : 0 ≤ i) (h1 : i ≤ 1048577) (hl : ¬ i + 1 ≤ l) :
    Calls Edzg.prog 53 #[.pointer (some ⟨b, 0, none⟩)] w fun e w' => e = .returned (.bool false) ∧ ItAt w0 b (i + 1) l w' := by
  refine (next_any b i l w h0 h1 h.c1 h.c2 h.hf).mono ?_
  rintro e w' ⟨rfl, n, rfl⟩
  exact ⟨by rw [decide_eq_false hl], it_step hb h _ _⟩

/-- The iterator's dynamic type has its method Next at number 53. -/
theorem method_next (a : Addr) (w : World) : (method 190 47 (.pointer (some a)) "Next").run Edzg.prog w = .ok (53, .pointer (some a)) w := by kernel_rfl

set_option maxHeartbeats 400000 in
theorem law_le (s : ByteArray) (hs : s.size ≤ 1048576) (w : World) :
    Calls Edzg.prog 4 #[.string s] w fun e w' => e = .returned (.bool true) ∧ Grown w w' := by
  have hcn := cnt_le s 0
  have hd : decide ((1048576 : Int) < (s.size : Int)) = false := decide_eq_false (by omega)
  have hm := method_next
  go_enter Edzg.func4, Edzg.ntmps4
  go_wp2_with (first
    | (go_at_call 8; refine (bytes_le s hs _).mono ?_; rintro e w' ⟨rfl, hw⟩; subst w')
    | (go_at_call 9; refine (can_any _ _).mono ?_; rintro e w' ⟨rfl, hw⟩; subst w'))
  refine (iter_any s w.heap.size hs _ ?_ ?_ ?_ ?_).mono ?_
  · simp
  · simp
  · simp
  · simp
  rintro e w1 ⟨bi, rfl, hbi, hbz, c1, c2, hf, hgr⟩
  have hbi' : w.heap.size ≤ bi := by simp at hbi; omega
  have hit : ItAt w bi 0 (cnt s 0) w1 := ⟨c1, c2, hf, hgr w (Nat.le_refl _) ((Grown.refl w).alloc _ _)⟩
  clear hgr hbi hbz c1 c2 hf
  go_wp2_with fail
  go_loopw [5] (fun n wr => ∃ k : Nat, k ≤ cnt s 0 ∧ n = .int .i64 k ∧ ItAt w bi k (cnt s 0) wr) (fun n _ => s.size + 1 - (intOf n).toNat)
  case atStart => exact ⟨0, Nat.zero_le _, rfl, hit⟩
  case round =>
    obtain ⟨k, hk, rfl, hk2⟩ := hrel
    clear hit
    have hle : (k : Int) ≤ (s.size : Int) := by omega
    by_cases hlt : k < cnt s 0
    · go_wp2_with (go_at_call 53; refine (next_more hbi' hk2 (by omega) (by omega) (by omega)).mono ?_; rintro e w' ⟨rfl, hk3⟩)
      go_roundw
      case rel => exact ⟨k + 1, by omega, by go_num, hk3⟩
      case measure => simp [intOf]; omega
    · have hbe : ((k : Int) == ((cnt s 0 : Nat) : Int)) = true := beq_iff_eq.mpr (by omega)
      go_wp2_with (first
        | (go_at_call 53; refine (next_done hbi' hk2 (by omega) (by omega) (by omega)).mono ?_; rintro e w' ⟨rfl, hk3⟩)
        | (go_at_call 10; refine (count_any s hs _).mono ?_; rintro e w2 ⟨rfl, hw⟩; subst w2)
        | (go_at_call 9; refine (can_any _ _).mono ?_; rintro e w2 ⟨rfl, hw⟩; subst w2))
      go_ret
      exact ⟨rfl, hk3.hg⟩

theorem law_gt (s : ByteArray) (h : 1048576 < s.size) (hs : s.size ≤ maxLen) (w : World) :
    Calls Edzg.prog 4 #[.string s] w fun e w' => e = .returned (.bool true) ∧ Grown w w' := by
  go_enter Edzg.func4, Edzg.ntmps4
  go_wp2_with (go_at_call 8; refine (bytes_gt s h hs _).mono ?_; rintro e w' ⟨rfl, hw⟩; subst w')
  go_ret
  exact ⟨rfl, Grown.refl _⟩

theorem law_any (s : ByteArray) (hs : s.size ≤ maxLen) (w : World) :
    Calls Edzg.prog 4 #[.string s] w fun e w' => e = .returned (.bool true) ∧ Grown w w' := by
  by_cases h : s.size ≤ 1048576
  · exact law_le s h w
  · exact law_gt s (by omega) hs w
end Go.Proofs.Yoedzw.Sp
