/-
  PLAIN MATHEMATICS: how wide the model's decoder says a rune is; how many runes a string has from a place on.
-/
import GoSem.Core.Utf8
import GoSem.Conv.StringToRunes
namespace Go.Proofs.Yoedzw.Sp

/-- The width that the model's decoder gives at byte p. -/
def wid (s : ByteArray) (p : Nat) : Nat := (Utf8.decode s p).2

/-- How many continuation bytes the first byte asks for (0: none will do). -/
def need (b : Nat) : Nat := if b < 194 then 0 else if b ≤ 223 then 1 else if b ≤ 239 then 2 else if b ≤ 244 then 3 else 0
def lo (b : Nat) : Nat := if b = 224 then 160 else if b = 240 then 144 else 128
def hi (b : Nat) : Nat := if b = 237 then 159 else if b = 244 then 143 else 191

theorem get_eq (s : ByteArray) (i : Nat) (h : i < s.size) : s.get! i = s[i] := by
  have h' : i < s.data.size := h
  exact getElem!_pos s.data i h'

theorem byte_lt (b : UInt8) : b.toNat < 256 := b.toNat_lt

theorem wid_pos (s : ByteArray) (p : Nat) : 1 ≤ wid s p ∧ wid s p ≤ 4 := by
  unfold wid Utf8.decode
  simp only
  repeat' split
  all_goals simp

theorem wid_fits (s : ByteArray) (p : Nat) (h : p < s.size) : p + wid s p ≤ s.size := by
  unfold wid Utf8.decode
  simp only
  repeat' split
  all_goals simp_all
  all_goals omega

theorem wid_ascii (s : ByteArray) (p : Nat) (h : p < s.size) (h0 : s[p].toNat < 128) : wid s p = 1 := by
  have e := get_eq s p h
  unfold wid Utf8.decode
  simp [e, h0]

theorem wid_none (s : ByteArray) (p : Nat) (h : p < s.size) (h1 : need s[p].toNat = 0) : wid s p = 1 := by
  have e := get_eq s p h
  have hb := byte_lt s[p]
  have e0 : (s.get! (p + 0)).toNat = s[p].toNat := by rw [Nat.add_zero, e]
  unfold wid Utf8.decode
  simp only [e0]
  generalize s[p].toNat = b at *
  generalize (s.get! (p + 1)).toNat = c1
  generalize (s.get! (p + 2)).toNat = c2
  generalize (s.get! (p + 3)).toNat = c3
  unfold need at h1
  unfold Utf8.valid
  repeat' split
  all_goals simp_all
  all_goals (repeat' split at h1)
  all_goals omega

theorem wid_short (s : ByteArray) (p : Nat) (h : p < s.size) (h1 : (s.size : Int) - p < need s[p].toNat + 1) : wid s p = 1 := by
  have e := get_eq s p h
  have hb := byte_lt s[p]
  have e0 : (s.get! (p + 0)).toNat = s[p].toNat := by rw [Nat.add_zero, e]
  unfold wid Utf8.decode
  simp only [e0]
  generalize s[p].toNat = b at *
  generalize (s.get! (p + 1)).toNat = c1
  generalize (s.get! (p + 2)).toNat = c2
  generalize (s.get! (p + 3)).toNat = c3
  unfold need at h1
  unfold Utf8.valid
  repeat' split
  all_goals simp_all
  all_goals (repeat' split at h1)
  all_goals omega

theorem wid_second (s : ByteArray) (p : Nat) (h : p + 1 < s.size) (_h0 : 128 ≤ s[p].toNat) (h1 : s[p + 1].toNat < lo s[p].toNat ∨ hi s[p].toNat < s[p + 1].toNat) : wid s p = 1 := by
  have e := get_eq s p (by omega)
  have e1 := get_eq s (p + 1) h
  have hb := byte_lt s[p]
  have hb1 := byte_lt s[p + 1]
  have e0 : (s.get! (p + 0)).toNat = s[p].toNat := by rw [Nat.add_zero, e]
  unfold wid Utf8.decode
  simp only [e0, e1]
  generalize s[p].toNat = b at *
  generalize s[p + 1].toNat = c1 at *
  generalize (s.get! (p + 2)).toNat = c2
  generalize (s.get! (p + 3)).toNat = c3
  unfold lo hi at h1
  unfold Utf8.valid
  repeat' split
  all_goals simp_all
  all_goals (repeat' split at h1)
  all_goals omega

theorem wid_third (s : ByteArray) (p : Nat) (h : p + 2 < s.size) (hn : 2 ≤ need s[p].toNat) (h1 : s[p + 2].toNat < 128 ∨ 191 < s[p + 2].toNat) : wid s p = 1 := by
  have e := get_eq s p (by omega)
  have e2 := get_eq s (p + 2) h
  have hb := byte_lt s[p]
  have hb2 := byte_lt s[p + 2]
  have e0 : (s.get! (p + 0)).toNat = s[p].toNat := by rw [Nat.add_zero, e]
  unfold wid Utf8.decode
  simp only [e0, e2]
  generalize s[p].toNat = b at *
  generalize (s.get! (p + 1)).toNat = c1
  generalize s[p + 2].toNat = c2 at *
  generalize (s.get! (p + 3)).toNat = c3
  unfold need at hn
  unfold Utf8.valid
  repeat' split
  all_goals simp_all
  all_goals (repeat' split at hn)
  all_goals omega

theorem wid_fourth (s : ByteArray) (p : Nat) (h : p + 3 < s.size) (hn : 3 ≤ need s[p].toNat) (h1 : s[p + 3].toNat < 128 ∨ 191 < s[p + 3].toNat) : wid s p = 1 := by
  have e := get_eq s p (by omega)
  have e3 := get_eq s (p + 3) h
  have hb := byte_lt s[p]
  have hb2 := byte_lt s[p + 3]
  have e0 : (s.get! (p + 0)).toNat = s[p].toNat := by rw [Nat.add_zero, e]
  unfold wid Utf8.decode
  simp only [e0, e3]
  generalize s[p].toNat = b at *
  generalize (s.get! (p + 1)).toNat = c1
  generalize (s.get! (p + 2)).toNat = c2
  generalize s[p + 3].toNat = c3 at *
  unfold need at hn
  unfold Utf8.valid
  repeat' split
  all_goals simp_all
  all_goals (repeat' split at hn)
  all_goals omega

/-- A continuation byte that may be missing: what stands at q, read so that it is 0 past the end. -/
def at0 (s : ByteArray) (q : Nat) : Nat := (s.get! q).toNat
theorem at0_eq (s : ByteArray) (q : Nat) (h : q < s.size) : at0 s q = s[q].toNat := by unfold at0; rw [get_eq s q h]

theorem need_is (b : Nat) (hn : 1 ≤ need b) : need b = 1 ∧ 194 ≤ b ∧ b ≤ 223 ∨ need b = 2 ∧ 224 ≤ b ∧ b ≤ 239 ∨ need b = 3 ∧ 240 ≤ b ∧ b ≤ 244 := by
  unfold need at *
  by_cases h1 : b < 194
  · simp [h1] at hn
  · by_cases h2 : b ≤ 223
    · simp [h1, h2]; omega
    · by_cases h3 : b ≤ 239
      · simp [h1, h2, h3]; omega
      · by_cases h4 : b ≤ 244
        · simp [h1, h2, h3, h4]; omega
        · simp [h1, h2, h3, h4] at hn

theorem wid_whole (s : ByteArray) (p : Nat) (h : p + need (at0 s p) < s.size) (hn : 1 ≤ need (at0 s p)) (h1 : lo (at0 s p) ≤ at0 s (p + 1)) (h1' : at0 s (p + 1) ≤ hi (at0 s p))
    (h2 : ∀ j, 2 ≤ j → j ≤ need (at0 s p) → 128 ≤ at0 s (p + j) ∧ at0 s (p + j) ≤ 191) : wid s p = need (at0 s p) + 1 := by
  have hb := byte_lt (s.get! p)
  have e0 : (s.get! (p + 0)).toNat = (s.get! p).toNat := by rw [Nat.add_zero]
  have h22 := h2 2 (by omega)
  have h23 := h2 3 (by omega)
  clear h2
  unfold at0 at *
  unfold wid Utf8.decode
  simp only [e0]
  generalize (s.get! p).toNat = b at *
  generalize (s.get! (p + 1)).toNat = c1 at *
  generalize (s.get! (p + 2)).toNat = c2 at *
  generalize (s.get! (p + 3)).toNat = c3 at *
  have hb := need_is b hn
  have l1 : 128 ≤ c1 ∧ (b = 224 → 160 ≤ c1) ∧ (b = 240 → 144 ≤ c1) := by
    unfold lo at h1; repeat' split at h1
    all_goals omega
  have l2 : c1 ≤ 191 ∧ (b = 237 → c1 ≤ 159) ∧ (b = 244 → c1 ≤ 143) := by
    unfold hi at h1'; repeat' split at h1'
    all_goals omega
  clear h1 h1'
  have g1 : c1 / 64 = 2 := by omega
  rcases hb with ⟨hn', hb1, hb2⟩ | ⟨hn', hb1, hb2⟩ | ⟨hn', hb1, hb2⟩
  · rw [hn'] at h ⊢
    have k1 : b / 32 = 6 := by omega
    have k2 : 128 ≤ b % 32 * 64 + c1 % 64 := by omega
    have k3 : ¬ b < 128 := by omega
    simp [k1, k2, k3, g1, h]
  · rw [hn'] at h h22 h23 ⊢
    have g2 := h22 (by omega)
    have g2' : c2 / 64 = 2 := by omega
    have k1 : ¬ b / 32 = 6 := by omega
    have k2 : b / 16 = 14 := by omega
    have k3 : ¬ b < 128 := by omega
    have k4 : 2048 ≤ b % 16 * 4096 + c1 % 64 * 64 + c2 % 64 := by omega
    have k5 : Utf8.valid ((b % 16 * 4096 + c1 % 64 * 64 + c2 % 64 : Nat) : Int) = true := by
      unfold Utf8.valid; simp; omega
    have k6 : p + 1 < s.size := by omega
    simp only [k5]
    simp [k1, k2, k3, k4, g1, g2', h, k6]
  · rw [hn'] at h h22 h23 ⊢
    have g2 := h22 (by omega)
    have g3 := h23 (by omega)
    have g2' : c2 / 64 = 2 := by omega
    have g3' : c3 / 64 = 2 := by omega
    have k0 : ¬ b / 32 = 6 := by omega
    have k1 : ¬ b / 16 = 14 := by omega
    have k2 : b / 8 = 30 := by omega
    have k3 : ¬ b < 128 := by omega
    have k4 : 65536 ≤ b % 8 * 262144 + c1 % 64 * 4096 + c2 % 64 * 64 + c3 % 64 := by omega
    have k5 : Utf8.valid ((b % 8 * 262144 + c1 % 64 * 4096 + c2 % 64 * 64 + c3 % 64 : Nat) : Int) = true := by
      unfold Utf8.valid; simp; omega
    have k6 : p + 1 < s.size := by omega
    have k7 : p + 2 < s.size := by omega
    simp only [k5]
    simp [k0, k1, k2, k3, k4, g1, g2', g3', h, k6, k7]

/-- How many runes there are from p on, with fuel. -/
def cntF (s : ByteArray) : Nat → Nat → Nat
  | 0, _ => 0
  | f + 1, p => if p < s.size then 1 + cntF s f (p + wid s p) else 0

theorem runes_size (s : ByteArray) : ∀ (f p : Nat) (acc : Array Value), (Conv.runesFrom s f p acc).size = acc.size + cntF s f p
  | 0, _, acc => by simp [Conv.runesFrom, cntF]
  | f + 1, p, acc => by
    unfold Conv.runesFrom cntF
    split
    · have := runes_size s f (p + wid s p) (acc.push (.int .i32 (Int.ofNat (Utf8.decode s p).1)))
      simp only [Array.size_push] at this
      show (Conv.runesFrom s f (p + (Utf8.decode s p).2) (acc.push (.int .i32 (Int.ofNat (Utf8.decode s p).1)))).size = _
      rw [show p + (Utf8.decode s p).2 = p + wid s p from rfl, this]
      omega
    · rfl

theorem cntF_more (s : ByteArray) : ∀ (f p : Nat), s.size ≤ p + f → cntF s (f + 1) p = cntF s f p
  | 0, p, h => by simp [cntF]; omega
  | f + 1, p, h => by
    have := wid_pos s p
    have ih := cntF_more s f (p + wid s p) (by omega)
    show (if p < s.size then 1 + cntF s (f + 1) (p + wid s p) else 0) = (if p < s.size then 1 + cntF s f (p + wid s p) else 0)
    rw [ih]

theorem cntF_any (s : ByteArray) (f p : Nat) (h : s.size ≤ p + f) : ∀ g, cntF s (f + g) p = cntF s f p
  | 0 => rfl
  | g + 1 => by rw [← Nat.add_assoc, cntF_more s (f + g) p (by omega), cntF_any s f p h g]

/-- How many runes there are from p on. -/
def cnt (s : ByteArray) (p : Nat) : Nat := cntF s s.size p

theorem cnt_end (s : ByteArray) (p : Nat) (h : ¬ p < s.size) : cnt s p = 0 := by
  unfold cnt
  cases s.size with
  | zero => rfl
  | succ n => simp [cntF, h]

theorem cnt_step (s : ByteArray) (p : Nat) (h : p < s.size) : cnt s p = 1 + cnt s (p + wid s p) := by
  have hw := wid_pos s p
  unfold cnt
  have e : cntF s (s.size + 1) p = cntF s s.size p := cntF_more s s.size p (by omega)
  rw [← e, cntF, if_pos h]

theorem cntF_le (s : ByteArray) : ∀ (f p : Nat), cntF s f p ≤ s.size - p
  | 0, p => by simp [cntF]
  | f + 1, p => by
    rw [cntF]
    split
    · have := cntF_le s f (p + wid s p)
      have := wid_pos s p
      omega
    · omega

theorem cnt_le (s : ByteArray) (p : Nat) : cnt s p ≤ s.size - p := cntF_le s _ p

theorem runes_cnt (s : ByteArray) : (Conv.runesFrom s s.size 0 #[]).size = cnt s 0 := by
  rw [runes_size]; simp [cnt]

end Go.Proofs.Yoedzw.Sp
