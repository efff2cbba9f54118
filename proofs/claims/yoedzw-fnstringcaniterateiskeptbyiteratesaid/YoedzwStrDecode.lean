/-
  THE WALK OF zzDecode: whatever the bytes, it hands back some rune and the width that the model's decoder gives. One theorem for each kind of first byte.
-/
import Derived.Test.YoedzwRows
import Derived.Test.YoedzwStrPlain
import Derived.WalkKit
import Derived.WalkLawsBesides
import Derived.WalkSpells
namespace Go.Proofs.Yoedzw.Sp
open Go.RowKit
def Conts (s : ByteArray) (p j : Nat) : Prop := ∀ i, 2 ≤ i → i < j → 128 ≤ at0 s (p + i) ∧ at0 s (p + i) ≤ 191
theorem conts_two (s : ByteArray) (p : Nat) : Conts s p 2 := fun i h1 h2 => by omega
theorem conts_succ {s : ByteArray} {p k : Nat} (h : Conts s p k) (hk : p + k < s.size) (h1 : (128 : Int) ≤ (s[p + k].toNat : Int)) (h2 : (s[p + k].toNat : Int) ≤ 191) : Conts s p (k + 1) := by
  intro i hi1 hi2
  by_cases e : i < k
  · exact h i hi1 e
  · have : i = k := by omega
    subst this
    rw [at0_eq s _ hk]
    omega
theorem ret_w {s : ByteArray} {p : Nat} {x n : Int} {k : Nat} (h : wid s p = k) (hk : n = k) : ∃ r, Ending.returned (.tuple #[.int .i32 x, .int .i64 n]) = .returned (.tuple #[.int .i32 r, .int .i64 (wid s p)]) := ⟨x, by rw [h, hk]⟩
theorem leaf_short {s : ByteArray} {p N : Nat} (hp : p < s.size) (HN : need s[p].toNat = N) (h : (s.size : Int) - (p : Int) < (N : Int) + 1) : wid s p = 1 := wid_short s p hp (by rw [HN]; exact h)
theorem leaf_second {s : ByteArray} {p L H : Nat} (h1 : p + 1 < s.size) (h0 : (128 : Int) ≤ (s[p].toNat : Int)) (HL : lo s[p].toNat = L) (HH : hi s[p].toNat = H) (h : (s[p + 1].toNat : Int) < (L : Int) ∨ (H : Int) < (s[p + 1].toNat : Int)) : wid s p = 1 :=
  wid_second s p h1 (by omega) (by rw [HL, HH]; omega)
theorem leaf_cont {s : ByteArray} {p k N : Nat} (hk : p + k < s.size) (k2 : 2 ≤ k) (kN : k ≤ N) (N3 : N ≤ 3) (HN : need s[p].toNat = N) (h : (s[p + k].toNat : Int) < 128 ∨ 191 < (s[p + k].toNat : Int)) : wid s p = 1 := by
  have : k = 2 ∨ k = 3 := by omega
  rcases this with e | e
  · subst e; exact wid_third s p hk (by omega) (by omega)
  · subst e; exact wid_fourth s p hk (by omega) (by omega)
theorem leaf_whole {s : ByteArray} {p k N L H : Nat} (hp : p + N < s.size) (N1 : 1 ≤ N) (kN : (N : Int) < (k : Int)) (HN : need s[p].toNat = N) (HL : lo s[p].toNat = L) (HH : hi s[p].toNat = H) (hC : Conts s p k)
   (h1 : p + 1 < s.size) (h : (L : Int) ≤ (s[p + 1].toNat : Int)) (h' : (s[p + 1].toNat : Int) ≤ (H : Int)) : wid s p = N + 1 := by
  have e : at0 s p = s[p].toNat := at0_eq s p (by omega)
  have e1 : at0 s (p + 1) = s[p + 1].toNat := at0_eq s (p + 1) h1
  have := wid_whole s p (by rw [e, HN]; exact hp) (by rw [e, HN]; exact N1) (by rw [e, HL, e1]; omega) (by rw [e, HH, e1]; omega) (fun j hj1 hj2 => hC j hj1 (by rw [e, HN] at hj2; omega))
  rw [this, e, HN]

/-- Where the byte is ASCII. -/
theorem decode_ascii (s : ByteArray) (p : Nat) (hp : p < s.size) (w : World) (h1 : (s[p].toNat : Int) < 128) : Calls Edzg.prog 7 #[.string s, .int .i64 p] w fun e w' => (∃ r, e = .returned (.tuple #[.int .i32 r, .int .i64 (wid s p)])) ∧ w' = w := by
  go_enter Edzg.func7, Edzg.ntmps7
  go_wp2
  go_ret2
  exact ⟨ret_w (wid_ascii s p hp (by omega)) rfl, rfl⟩

set_option maxRecDepth 100000 in
theorem decode_low (s : ByteArray) (p : Nat) (hp : p < s.size) (w : World) (h1 : (128 : Int) ≤ (s[p].toNat : Int)) (h2 : (s[p].toNat : Int) ≤ 193) (HN : Hid (need s[p].toNat = 0)) : Calls Edzg.prog 7 #[.string s, .int .i64 p] w fun e w' => (∃ r, e = .returned (.tuple #[.int .i32 r, .int .i64 (wid s p)])) ∧ w' = w := by
  have e238 : ((s[p].toNat : Int) == 238) = false := beq_false_of_ne (by omega)
  have e239 : ((s[p].toNat : Int) == 239) = false := beq_false_of_ne (by omega)
  go_enter Edzg.func7, Edzg.ntmps7
  go_wp2
  go_ret2
  exact ⟨ret_w (wid_none s p hp HN.out) rfl, rfl⟩

set_option maxRecDepth 100000 in
theorem decode_high (s : ByteArray) (p : Nat) (hp : p < s.size) (w : World) (h1 : (245 : Int) ≤ (s[p].toNat : Int)) (HN : Hid (need s[p].toNat = 0)) : Calls Edzg.prog 7 #[.string s, .int .i64 p] w fun e w' => (∃ r, e = .returned (.tuple #[.int .i32 r, .int .i64 (wid s p)])) ∧ w' = w := by
  have e238 : ((s[p].toNat : Int) == 238) = false := beq_false_of_ne (by omega)
  have e239 : ((s[p].toNat : Int) == 239) = false := beq_false_of_ne (by omega)
  go_enter Edzg.func7, Edzg.ntmps7
  go_wp2
  go_ret2
  exact ⟨ret_w (wid_none s p hp HN.out) rfl, rfl⟩

set_option maxRecDepth 100000 in
set_option maxHeartbeats 1000000 in
theorem decode_194 (s : ByteArray) (p : Nat) (hp : p < s.size) (hs : s.size ≤ 1048576) (w : World) (h1 : (194 : Int) ≤ (s[p].toNat : Int)) (h2 : (s[p].toNat : Int) ≤ 223)
    (HN : Hid (need s[p].toNat = 1)) (HL : Hid (lo s[p].toNat = 128)) (HH : Hid (hi s[p].toNat = 191)) :
    Calls Edzg.prog 7 #[.string s, .int .i64 p] w fun e w' => (∃ r, e = .returned (.tuple #[.int .i32 r, .int .i64 (wid s p)])) ∧ w' = w := by
  go_enter Edzg.func7, Edzg.ntmps7
  go_wp2
  · go_ret2; refine ⟨ret_w (leaf_short hp HN.out ?_) rfl, rfl⟩; omega
  · go_ret2; refine ⟨ret_w (leaf_second ?_ ?_ HL.out HH.out ?_) rfl, rfl⟩ <;> omega
  · have hN : p + 1 < s.size := by omega
    have hA : (128 : Int) ≤ (s[p + 1].toNat : Int) := by omega
    have hB : (s[p + 1].toNat : Int) ≤ 191 := by omega
    go_loop [10, 12] (fun r j => (∃ x, r = .int .i32 x) ∧ ∃ k : Nat, 2 ≤ k ∧ j = .int .i64 k ∧ Conts s p k) (fun _ j => (5 - intOf j).toNat)
    case atStart => exact ⟨⟨_, rfl⟩, 2, Nat.le_refl _, rfl, conts_two s p⟩
    case round =>
      obtain ⟨⟨x, rfl⟩, k, hk, rfl, hC⟩ := hrel
      have hle : (1 : Int) < (k : Int) := by omega
      go_wp2
      go_ret2
      exact ⟨ret_w (leaf_whole hN (by omega) hle HN.out HL.out HH.out hC (by omega) hA hB) rfl, rfl⟩
  · go_ret2; refine ⟨ret_w (leaf_second ?_ ?_ HL.out HH.out ?_) rfl, rfl⟩ <;> omega

set_option maxRecDepth 100000 in
set_option maxHeartbeats 1000000 in
theorem decode_224 (s : ByteArray) (p : Nat) (hp : p < s.size) (hs : s.size ≤ 1048576) (w : World) (h1 : (224 : Int) ≤ (s[p].toNat : Int)) (h2 : (s[p].toNat : Int) ≤ 224)
    (HN : Hid (need s[p].toNat = 2)) (HL : Hid (lo s[p].toNat = 160)) (HH : Hid (hi s[p].toNat = 191)) :
    Calls Edzg.prog 7 #[.string s, .int .i64 p] w fun e w' => (∃ r, e = .returned (.tuple #[.int .i32 r, .int .i64 (wid s p)])) ∧ w' = w := by
  go_enter Edzg.func7, Edzg.ntmps7
  go_wp2
  · go_ret2; refine ⟨ret_w (leaf_short hp HN.out ?_) rfl, rfl⟩; omega
  · go_ret2; refine ⟨ret_w (leaf_second ?_ ?_ HL.out HH.out ?_) rfl, rfl⟩ <;> omega
  · have hN : p + 2 < s.size := by omega
    have hA : (160 : Int) ≤ (s[p + 1].toNat : Int) := by omega
    have hB : (s[p + 1].toNat : Int) ≤ 191 := by omega
    go_loop [10, 12] (fun r j => (∃ x, r = .int .i32 x) ∧ ∃ k : Nat, 2 ≤ k ∧ j = .int .i64 k ∧ Conts s p k) (fun _ j => (5 - intOf j).toNat)
    case atStart => exact ⟨⟨_, rfl⟩, 2, Nat.le_refl _, rfl, conts_two s p⟩
    case round =>
      obtain ⟨⟨x, rfl⟩, k, hk, rfl, hC⟩ := hrel
      by_cases hle : (k : Int) ≤ 2
      · go_wp2
        · go_ret2; refine ⟨ret_w (leaf_cont (k := k) ?_ hk ?_ ?_ HN.out ?_) rfl, rfl⟩ <;> omega
        · go_round
          case rel => refine ⟨⟨_, rfl⟩, k + 1, ?_, ?_, conts_succ hC (by omega) (by omega) (by omega)⟩ <;> first | omega | go_num
          case measure => simp [intOf]; omega
        · go_ret2; refine ⟨ret_w (leaf_cont (k := k) ?_ hk ?_ ?_ HN.out ?_) rfl, rfl⟩ <;> omega
      · go_wp2
        go_ret2
        exact ⟨ret_w (leaf_whole hN (by omega) (by omega) HN.out HL.out HH.out hC (by omega) hA hB) rfl, rfl⟩
  · go_ret2; refine ⟨ret_w (leaf_second ?_ ?_ HL.out HH.out ?_) rfl, rfl⟩ <;> omega

set_option maxRecDepth 100000 in
set_option maxHeartbeats 1000000 in
theorem decode_225 (s : ByteArray) (p : Nat) (hp : p < s.size) (hs : s.size ≤ 1048576) (w : World) (h1 : (225 : Int) ≤ (s[p].toNat : Int)) (h2 : (s[p].toNat : Int) ≤ 236)
    (HN : Hid (need s[p].toNat = 2)) (HL : Hid (lo s[p].toNat = 128)) (HH : Hid (hi s[p].toNat = 191)) :
    Calls Edzg.prog 7 #[.string s, .int .i64 p] w fun e w' => (∃ r, e = .returned (.tuple #[.int .i32 r, .int .i64 (wid s p)])) ∧ w' = w := by
  go_enter Edzg.func7, Edzg.ntmps7
  go_wp2
  · go_ret2; refine ⟨ret_w (leaf_short hp HN.out ?_) rfl, rfl⟩; omega
  · go_ret2; refine ⟨ret_w (leaf_second ?_ ?_ HL.out HH.out ?_) rfl, rfl⟩ <;> omega
  · have hN : p + 2 < s.size := by omega
    have hA : (128 : Int) ≤ (s[p + 1].toNat : Int) := by omega
    have hB : (s[p + 1].toNat : Int) ≤ 191 := by omega
    go_loop [10, 12] (fun r j => (∃ x, r = .int .i32 x) ∧ ∃ k : Nat, 2 ≤ k ∧ j = .int .i64 k ∧ Conts s p k) (fun _ j => (5 - intOf j).toNat)
    case atStart => exact ⟨⟨_, rfl⟩, 2, Nat.le_refl _, rfl, conts_two s p⟩
    case round =>
      obtain ⟨⟨x, rfl⟩, k, hk, rfl, hC⟩ := hrel
      by_cases hle : (k : Int) ≤ 2
      · go_wp2
        · go_ret2; refine ⟨ret_w (leaf_cont (k := k) ?_ hk ?_ ?_ HN.out ?_) rfl, rfl⟩ <;> omega
        · go_round
          case rel => refine ⟨⟨_, rfl⟩, k + 1, ?_, ?_, conts_succ hC (by omega) (by omega) (by omega)⟩ <;> first | omega | go_num
          case measure => simp [intOf]; omega
        · go_ret2; refine ⟨ret_w (leaf_cont (k := k) ?_ hk ?_ ?_ HN.out ?_) rfl, rfl⟩ <;> omega
      · go_wp2
        go_ret2
        exact ⟨ret_w (leaf_whole hN (by omega) (by omega) HN.out HL.out HH.out hC (by omega) hA hB) rfl, rfl⟩
  · go_ret2; refine ⟨ret_w (leaf_second ?_ ?_ HL.out HH.out ?_) rfl, rfl⟩ <;> omega

set_option maxRecDepth 100000 in
set_option maxHeartbeats 1000000 in
theorem decode_237 (s : ByteArray) (p : Nat) (hp : p < s.size) (hs : s.size ≤ 1048576) (w : World) (h1 : (237 : Int) ≤ (s[p].toNat : Int)) (h2 : (s[p].toNat : Int) ≤ 237)
    (HN : Hid (need s[p].toNat = 2)) (HL : Hid (lo s[p].toNat = 128)) (HH : Hid (hi s[p].toNat = 159)) :
    Calls Edzg.prog 7 #[.string s, .int .i64 p] w fun e w' => (∃ r, e = .returned (.tuple #[.int .i32 r, .int .i64 (wid s p)])) ∧ w' = w := by
  have e238 : ((s[p].toNat : Int) == 238) = false := beq_false_of_ne (by omega)
  have e239 : ((s[p].toNat : Int) == 239) = false := beq_false_of_ne (by omega)
  go_enter Edzg.func7, Edzg.ntmps7
  go_wp2
  · go_ret2; refine ⟨ret_w (leaf_short hp HN.out ?_) rfl, rfl⟩; omega
  · go_ret2; refine ⟨ret_w (leaf_second ?_ ?_ HL.out HH.out ?_) rfl, rfl⟩ <;> omega
  · have hN : p + 2 < s.size := by omega
    have hA : (128 : Int) ≤ (s[p + 1].toNat : Int) := by omega
    have hB : (s[p + 1].toNat : Int) ≤ 159 := by omega
    go_loop [10, 12] (fun r j => (∃ x, r = .int .i32 x) ∧ ∃ k : Nat, 2 ≤ k ∧ j = .int .i64 k ∧ Conts s p k) (fun _ j => (5 - intOf j).toNat)
    case atStart => exact ⟨⟨_, rfl⟩, 2, Nat.le_refl _, rfl, conts_two s p⟩
    case round =>
      obtain ⟨⟨x, rfl⟩, k, hk, rfl, hC⟩ := hrel
      by_cases hle : (k : Int) ≤ 2
      · go_wp2
        · go_ret2; refine ⟨ret_w (leaf_cont (k := k) ?_ hk ?_ ?_ HN.out ?_) rfl, rfl⟩ <;> omega
        · go_round
          case rel => refine ⟨⟨_, rfl⟩, k + 1, ?_, ?_, conts_succ hC (by omega) (by omega) (by omega)⟩ <;> first | omega | go_num
          case measure => simp [intOf]; omega
        · go_ret2; refine ⟨ret_w (leaf_cont (k := k) ?_ hk ?_ ?_ HN.out ?_) rfl, rfl⟩ <;> omega
      · go_wp2
        go_ret2
        exact ⟨ret_w (leaf_whole hN (by omega) (by omega) HN.out HL.out HH.out hC (by omega) hA hB) rfl, rfl⟩
  · go_ret2; refine ⟨ret_w (leaf_second ?_ ?_ HL.out HH.out ?_) rfl, rfl⟩ <;> omega

set_option maxRecDepth 100000 in
set_option maxHeartbeats 1000000 in
theorem decode_238 (s : ByteArray) (p : Nat) (hp : p < s.size) (hs : s.size ≤ 1048576) (w : World) (h1 : (238 : Int) ≤ (s[p].toNat : Int)) (h2 : (s[p].toNat : Int) ≤ 238)
    (HN : Hid (need s[p].toNat = 2)) (HL : Hid (lo s[p].toNat = 128)) (HH : Hid (hi s[p].toNat = 191)) :
    Calls Edzg.prog 7 #[.string s, .int .i64 p] w fun e w' => (∃ r, e = .returned (.tuple #[.int .i32 r, .int .i64 (wid s p)])) ∧ w' = w := by
  go_enter Edzg.func7, Edzg.ntmps7
  go_wp2
  · go_ret2; refine ⟨ret_w (leaf_short hp HN.out ?_) rfl, rfl⟩; omega
  · go_ret2; refine ⟨ret_w (leaf_second ?_ ?_ HL.out HH.out ?_) rfl, rfl⟩ <;> omega
  · have hN : p + 2 < s.size := by omega
    have hA : (128 : Int) ≤ (s[p + 1].toNat : Int) := by omega
    have hB : (s[p + 1].toNat : Int) ≤ 191 := by omega
    go_loop [10, 12] (fun r j => (∃ x, r = .int .i32 x) ∧ ∃ k : Nat, 2 ≤ k ∧ j = .int .i64 k ∧ Conts s p k) (fun _ j => (5 - intOf j).toNat)
    case atStart => exact ⟨⟨_, rfl⟩, 2, Nat.le_refl _, rfl, conts_two s p⟩
    case round =>
      obtain ⟨⟨x, rfl⟩, k, hk, rfl, hC⟩ := hrel
      by_cases hle : (k : Int) ≤ 2
      · go_wp2
        · go_ret2; refine ⟨ret_w (leaf_cont (k := k) ?_ hk ?_ ?_ HN.out ?_) rfl, rfl⟩ <;> omega
        · go_round
          case rel => refine ⟨⟨_, rfl⟩, k + 1, ?_, ?_, conts_succ hC (by omega) (by omega) (by omega)⟩ <;> first | omega | go_num
          case measure => simp [intOf]; omega
        · go_ret2; refine ⟨ret_w (leaf_cont (k := k) ?_ hk ?_ ?_ HN.out ?_) rfl, rfl⟩ <;> omega
      · go_wp2
        go_ret2
        exact ⟨ret_w (leaf_whole hN (by omega) (by omega) HN.out HL.out HH.out hC (by omega) hA hB) rfl, rfl⟩
  · go_ret2; refine ⟨ret_w (leaf_second ?_ ?_ HL.out HH.out ?_) rfl, rfl⟩ <;> omega

set_option maxRecDepth 100000 in
set_option maxHeartbeats 1000000 in
theorem decode_239 (s : ByteArray) (p : Nat) (hp : p < s.size) (hs : s.size ≤ 1048576) (w : World) (h1 : (239 : Int) ≤ (s[p].toNat : Int)) (h2 : (s[p].toNat : Int) ≤ 239)
    (HN : Hid (need s[p].toNat = 2)) (HL : Hid (lo s[p].toNat = 128)) (HH : Hid (hi s[p].toNat = 191)) :
    Calls Edzg.prog 7 #[.string s, .int .i64 p] w fun e w' => (∃ r, e = .returned (.tuple #[.int .i32 r, .int .i64 (wid s p)])) ∧ w' = w := by
  have e238 : ((s[p].toNat : Int) == 238) = false := beq_false_of_ne (by omega)
  have e239 : ((s[p].toNat : Int) == 239) = true := beq_iff_eq.mpr (by omega)
  go_enter Edzg.func7, Edzg.ntmps7
  go_wp2
  · go_ret2; refine ⟨ret_w (leaf_short hp HN.out ?_) rfl, rfl⟩; omega
  · go_ret2; refine ⟨ret_w (leaf_second ?_ ?_ HL.out HH.out ?_) rfl, rfl⟩ <;> omega
  · have hN : p + 2 < s.size := by omega
    have hA : (128 : Int) ≤ (s[p + 1].toNat : Int) := by omega
    have hB : (s[p + 1].toNat : Int) ≤ 191 := by omega
    go_loop [10, 12] (fun r j => (∃ x, r = .int .i32 x) ∧ ∃ k : Nat, 2 ≤ k ∧ j = .int .i64 k ∧ Conts s p k) (fun _ j => (5 - intOf j).toNat)
    case atStart => exact ⟨⟨_, rfl⟩, 2, Nat.le_refl _, rfl, conts_two s p⟩
    case round =>
      obtain ⟨⟨x, rfl⟩, k, hk, rfl, hC⟩ := hrel
      by_cases hle : (k : Int) ≤ 2
      · go_wp2
        · go_ret2; refine ⟨ret_w (leaf_cont (k := k) ?_ hk ?_ ?_ HN.out ?_) rfl, rfl⟩ <;> omega
        · go_round
          case rel => refine ⟨⟨_, rfl⟩, k + 1, ?_, ?_, conts_succ hC (by omega) (by omega) (by omega)⟩ <;> first | omega | go_num
          case measure => simp [intOf]; omega
        · go_ret2; refine ⟨ret_w (leaf_cont (k := k) ?_ hk ?_ ?_ HN.out ?_) rfl, rfl⟩ <;> omega
      · go_wp2
        go_ret2
        exact ⟨ret_w (leaf_whole hN (by omega) (by omega) HN.out HL.out HH.out hC (by omega) hA hB) rfl, rfl⟩
  · go_ret2; refine ⟨ret_w (leaf_second ?_ ?_ HL.out HH.out ?_) rfl, rfl⟩ <;> omega

set_option maxRecDepth 100000 in
set_option maxHeartbeats 1000000 in
theorem decode_240 (s : ByteArray) (p : Nat) (hp : p < s.size) (hs : s.size ≤ 1048576) (w : World) (h1 : (240 : Int) ≤ (s[p].toNat : Int)) (h2 : (s[p].toNat : Int) ≤ 240)
    (HN : Hid (need s[p].toNat = 3)) (HL : Hid (lo s[p].toNat = 144)) (HH : Hid (hi s[p].toNat = 191)) :
    Calls Edzg.prog 7 #[.string s, .int .i64 p] w fun e w' => (∃ r, e = .returned (.tuple #[.int .i32 r, .int .i64 (wid s p)])) ∧ w' = w := by
  have e238 : ((s[p].toNat : Int) == 238) = false := beq_false_of_ne (by omega)
  have e239 : ((s[p].toNat : Int) == 239) = false := beq_false_of_ne (by omega)
  go_enter Edzg.func7, Edzg.ntmps7
  go_wp2
  · go_ret2; refine ⟨ret_w (leaf_short hp HN.out ?_) rfl, rfl⟩; omega
  · go_ret2; refine ⟨ret_w (leaf_second ?_ ?_ HL.out HH.out ?_) rfl, rfl⟩ <;> omega
  · have hN : p + 3 < s.size := by omega
    have hA : (144 : Int) ≤ (s[p + 1].toNat : Int) := by omega
    have hB : (s[p + 1].toNat : Int) ≤ 191 := by omega
    go_loop [10, 12] (fun r j => (∃ x, r = .int .i32 x) ∧ ∃ k : Nat, 2 ≤ k ∧ j = .int .i64 k ∧ Conts s p k) (fun _ j => (5 - intOf j).toNat)
    case atStart => exact ⟨⟨_, rfl⟩, 2, Nat.le_refl _, rfl, conts_two s p⟩
    case round =>
      obtain ⟨⟨x, rfl⟩, k, hk, rfl, hC⟩ := hrel
      by_cases hle : (k : Int) ≤ 3
      · go_wp2
        · go_ret2; refine ⟨ret_w (leaf_cont (k := k) ?_ hk ?_ ?_ HN.out ?_) rfl, rfl⟩ <;> omega
        · go_round
          case rel => refine ⟨⟨_, rfl⟩, k + 1, ?_, ?_, conts_succ hC (by omega) (by omega) (by omega)⟩ <;> first | omega | go_num
          case measure => simp [intOf]; omega
        · go_ret2; refine ⟨ret_w (leaf_cont (k := k) ?_ hk ?_ ?_ HN.out ?_) rfl, rfl⟩ <;> omega
      · go_wp2
        go_ret2
        exact ⟨ret_w (leaf_whole hN (by omega) (by omega) HN.out HL.out HH.out hC (by omega) hA hB) rfl, rfl⟩
  · go_ret2; refine ⟨ret_w (leaf_second ?_ ?_ HL.out HH.out ?_) rfl, rfl⟩ <;> omega

set_option maxRecDepth 100000 in
set_option maxHeartbeats 1000000 in
theorem decode_241 (s : ByteArray) (p : Nat) (hp : p < s.size) (hs : s.size ≤ 1048576) (w : World) (h1 : (241 : Int) ≤ (s[p].toNat : Int)) (h2 : (s[p].toNat : Int) ≤ 243)
    (HN : Hid (need s[p].toNat = 3)) (HL : Hid (lo s[p].toNat = 128)) (HH : Hid (hi s[p].toNat = 191)) :
    Calls Edzg.prog 7 #[.string s, .int .i64 p] w fun e w' => (∃ r, e = .returned (.tuple #[.int .i32 r, .int .i64 (wid s p)])) ∧ w' = w := by
  have e238 : ((s[p].toNat : Int) == 238) = false := beq_false_of_ne (by omega)
  have e239 : ((s[p].toNat : Int) == 239) = false := beq_false_of_ne (by omega)
  go_enter Edzg.func7, Edzg.ntmps7
  go_wp2
  · go_ret2; refine ⟨ret_w (leaf_short hp HN.out ?_) rfl, rfl⟩; omega
  · go_ret2; refine ⟨ret_w (leaf_second ?_ ?_ HL.out HH.out ?_) rfl, rfl⟩ <;> omega
  · have hN : p + 3 < s.size := by omega
    have hA : (128 : Int) ≤ (s[p + 1].toNat : Int) := by omega
    have hB : (s[p + 1].toNat : Int) ≤ 191 := by omega
    go_loop [10, 12] (fun r j => (∃ x, r = .int .i32 x) ∧ ∃ k : Nat, 2 ≤ k ∧ j = .int .i64 k ∧ Conts s p k) (fun _ j => (5 - intOf j).toNat)
    case atStart => exact ⟨⟨_, rfl⟩, 2, Nat.le_refl _, rfl, conts_two s p⟩
    case round =>
      obtain ⟨⟨x, rfl⟩, k, hk, rfl, hC⟩ := hrel
      by_cases hle : (k : Int) ≤ 3
      · go_wp2
        · go_ret2; refine ⟨ret_w (leaf_cont (k := k) ?_ hk ?_ ?_ HN.out ?_) rfl, rfl⟩ <;> omega
        · go_round
          case rel => refine ⟨⟨_, rfl⟩, k + 1, ?_, ?_, conts_succ hC (by omega) (by omega) (by omega)⟩ <;> first | omega | go_num
          case measure => simp [intOf]; omega
        · go_ret2; refine ⟨ret_w (leaf_cont (k := k) ?_ hk ?_ ?_ HN.out ?_) rfl, rfl⟩ <;> omega
      · go_wp2
        go_ret2
        exact ⟨ret_w (leaf_whole hN (by omega) (by omega) HN.out HL.out HH.out hC (by omega) hA hB) rfl, rfl⟩
  · go_ret2; refine ⟨ret_w (leaf_second ?_ ?_ HL.out HH.out ?_) rfl, rfl⟩ <;> omega

set_option maxRecDepth 100000 in
set_option maxHeartbeats 1000000 in
theorem decode_244 (s : ByteArray) (p : Nat) (hp : p < s.size) (hs : s.size ≤ 1048576) (w : World) (h1 : (244 : Int) ≤ (s[p].toNat : Int)) (h2 : (s[p].toNat : Int) ≤ 244)
    (HN : Hid (need s[p].toNat = 3)) (HL : Hid (lo s[p].toNat = 128)) (HH : Hid (hi s[p].toNat = 143)) :
    Calls Edzg.prog 7 #[.string s, .int .i64 p] w fun e w' => (∃ r, e = .returned (.tuple #[.int .i32 r, .int .i64 (wid s p)])) ∧ w' = w := by
  have e238 : ((s[p].toNat : Int) == 238) = false := beq_false_of_ne (by omega)
  have e239 : ((s[p].toNat : Int) == 239) = false := beq_false_of_ne (by omega)
  go_enter Edzg.func7, Edzg.ntmps7
  go_wp2
  · go_ret2; refine ⟨ret_w (leaf_short hp HN.out ?_) rfl, rfl⟩; omega
  · go_ret2; refine ⟨ret_w (leaf_second ?_ ?_ HL.out HH.out ?_) rfl, rfl⟩ <;> omega
  · have hN : p + 3 < s.size := by omega
    have hA : (128 : Int) ≤ (s[p + 1].toNat : Int) := by omega
    have hB : (s[p + 1].toNat : Int) ≤ 143 := by omega
    go_loop [10, 12] (fun r j => (∃ x, r = .int .i32 x) ∧ ∃ k : Nat, 2 ≤ k ∧ j = .int .i64 k ∧ Conts s p k) (fun _ j => (5 - intOf j).toNat)
    case atStart => exact ⟨⟨_, rfl⟩, 2, Nat.le_refl _, rfl, conts_two s p⟩
    case round =>
      obtain ⟨⟨x, rfl⟩, k, hk, rfl, hC⟩ := hrel
      by_cases hle : (k : Int) ≤ 3
      · go_wp2
        · go_ret2; refine ⟨ret_w (leaf_cont (k := k) ?_ hk ?_ ?_ HN.out ?_) rfl, rfl⟩ <;> omega
        · go_round
          case rel => refine ⟨⟨_, rfl⟩, k + 1, ?_, ?_, conts_succ hC (by omega) (by omega) (by omega)⟩ <;> first | omega | go_num
          case measure => simp [intOf]; omega
        · go_ret2; refine ⟨ret_w (leaf_cont (k := k) ?_ hk ?_ ?_ HN.out ?_) rfl, rfl⟩ <;> omega
      · go_wp2
        go_ret2
        exact ⟨ret_w (leaf_whole hN (by omega) (by omega) HN.out HL.out HH.out hC (by omega) hA hB) rfl, rfl⟩
  · go_ret2; refine ⟨ret_w (leaf_second ?_ ?_ HL.out HH.out ?_) rfl, rfl⟩ <;> omega

theorem decode_any (s : ByteArray) (p : Nat) (hp : p < s.size) (hs : s.size ≤ 1048576) (w : World) :
    Calls Edzg.prog 7 #[.string s, .int .i64 p] w fun e w' => (∃ r, e = .returned (.tuple #[.int .i32 r, .int .i64 (wid s p)])) ∧ w' = w := by
  have hb := byte_lt s[p]
  by_cases c0 : s[p].toNat < 128
  · exact decode_ascii s p hp w (by omega)
  by_cases c1 : s[p].toNat ≤ 193
  · exact decode_low s p hp w (by omega) (by omega) (by show need _ = _; unfold need; rw [if_pos (by omega)])
  by_cases c194 : s[p].toNat ≤ 223
  · exact decode_194 s p hp hs w (by omega) (by omega) (by show need _ = _; unfold need; (repeat' split) <;> omega) (by show lo _ = _; unfold lo; (repeat' split) <;> omega) (by show hi _ = _; unfold hi; (repeat' split) <;> omega)
  by_cases c224 : s[p].toNat ≤ 224
  · exact decode_224 s p hp hs w (by omega) (by omega) (by show need _ = _; unfold need; (repeat' split) <;> omega) (by show lo _ = _; unfold lo; (repeat' split) <;> omega) (by show hi _ = _; unfold hi; (repeat' split) <;> omega)
  by_cases c225 : s[p].toNat ≤ 236
  · exact decode_225 s p hp hs w (by omega) (by omega) (by show need _ = _; unfold need; (repeat' split) <;> omega) (by show lo _ = _; unfold lo; (repeat' split) <;> omega) (by show hi _ = _; unfold hi; (repeat' split) <;> omega)
  by_cases c237 : s[p].toNat ≤ 237
  · exact decode_237 s p hp hs w (by omega) (by omega) (by show need _ = _; unfold need; (repeat' split) <;> omega) (by show lo _ = _; unfold lo; (repeat' split) <;> omega) (by show hi _ = _; unfold hi; (repeat' split) <;> omega)
  by_cases c238 : s[p].toNat ≤ 238
  · exact decode_238 s p hp hs w (by omega) (by omega) (by show need _ = _; unfold need; (repeat' split) <;> omega) (by show lo _ = _; unfold lo; (repeat' split) <;> omega) (by show hi _ = _; unfold hi; (repeat' split) <;> omega)
  by_cases c239 : s[p].toNat ≤ 239
  · exact decode_239 s p hp hs w (by omega) (by omega) (by show need _ = _; unfold need; (repeat' split) <;> omega) (by show lo _ = _; unfold lo; (repeat' split) <;> omega) (by show hi _ = _; unfold hi; (repeat' split) <;> omega)
  by_cases c240 : s[p].toNat ≤ 240
  · exact decode_240 s p hp hs w (by omega) (by omega) (by show need _ = _; unfold need; (repeat' split) <;> omega) (by show lo _ = _; unfold lo; (repeat' split) <;> omega) (by show hi _ = _; unfold hi; (repeat' split) <;> omega)
  by_cases c241 : s[p].toNat ≤ 243
  · exact decode_241 s p hp hs w (by omega) (by omega) (by show need _ = _; unfold need; (repeat' split) <;> omega) (by show lo _ = _; unfold lo; (repeat' split) <;> omega) (by show hi _ = _; unfold hi; (repeat' split) <;> omega)
  by_cases c244 : s[p].toNat ≤ 244
  · exact decode_244 s p hp hs w (by omega) (by omega) (by show need _ = _; unfold need; (repeat' split) <;> omega) (by show lo _ = _; unfold lo; (repeat' split) <;> omega) (by show hi _ = _; unfold hi; (repeat' split) <;> omega)
  exact decode_high s p hp w (by omega) (by show need _ = _; unfold need; (repeat' split) <;> omega)
end Go.Proofs.Yoedzw.Sp
