/- Plain theory of UTF-8 encoding: the sequence of a code point, decoded again; texts mapped code point by code point, texts mended. No program is in sight. -/
import Derived.Test.YtiahholgpbjjfaaDoorRunes
namespace Go.Proofs.YtiahholgpbjjfaaDoor

/-- Is a number a code point that has a sequence? -/
def scalarN (n : Nat) : Prop := n ≤ 1114111 ∧ (n < 55296 ∨ 57343 < n)
instance (n : Nat) : Decidable (scalarN n) := inferInstanceAs (Decidable (_ ∧ _))
def normN (n : Nat) : Nat := if scalarN n then n else 65533
theorem normN_scalar (n : Nat) : scalarN (normN n) := by
  unfold normN
  split
  · assumption
  · decide
theorem normN_of {n : Nat} (h : scalarN n) : normN n = n := by unfold normN; rw [if_pos h]

/-- The sequence of a code point. -/
def encS (n : Nat) : List UInt8 :=
  if n < 128 then [n.toUInt8]
  else if n < 2048 then [(192 + n / 64).toUInt8, (128 + n % 64).toUInt8]
  else if n < 65536 then [(224 + n / 4096).toUInt8, (128 + n / 64 % 64).toUInt8, (128 + n % 64).toUInt8]
  else [(240 + n / 262144).toUInt8, (128 + n / 4096 % 64).toUInt8, (128 + n / 64 % 64).toUInt8, (128 + n % 64).toUInt8]
/-- .. that of U+FFFD of a number that is none. -/
def encN (n : Nat) : List UInt8 := encS (normN n)
def encB (r : Int) : List UInt8 := if r < 0 then encN 65533 else encN r.toNat

theorem u8_toNat {n : Nat} (h : n < 256) : (n.toUInt8).toNat = n := by
  simp [Nat.toUInt8, UInt8.toNat_ofNat']
  omega

theorem encS_length (n : Nat) : 1 ≤ (encS n).length ∧ (encS n).length ≤ 4 := by
  unfold encS
  repeat' split
  all_goals simp
theorem encS_ne (n : Nat) : encS n ≠ [] := by
  intro e
  have := (encS_length n).1
  rw [e] at this
  simp at this

set_option maxRecDepth 100000 in
set_option maxHeartbeats 4000000 in
theorem decodeN_enc {n : Nat} (h : scalarN n) (k b1 b2 b3 : Nat) :
    (n < 128 → Lib.decodeN (k + 1) n b1 b2 b3 = (n, 1)) ∧
    (128 ≤ n → n < 2048 → Lib.decodeN (k + 2) (192 + n / 64) (128 + n % 64) b2 b3 = (n, 2)) ∧
    (2048 ≤ n → n < 65536 → Lib.decodeN (k + 3) (224 + n / 4096) (128 + n / 64 % 64) (128 + n % 64) b3 = (n, 3)) ∧
    (65536 ≤ n → Lib.decodeN (k + 4) (240 + n / 262144) (128 + n / 4096 % 64) (128 + n / 64 % 64) (128 + n % 64) = (n, 4)) := by
  obtain ⟨h1, h2⟩ := h
  refine ⟨fun h => ?_, fun h h' => ?_, fun h h' => ?_, fun h => ?_⟩
  · unfold Lib.decodeN
    rw [if_pos h]
  · unfold Lib.decodeN
    have e : (192 + n / 64) % 32 * 64 + (128 + n % 64) % 64 = n := by omega
    rw [if_neg (by omega), if_pos (by omega), if_pos (by omega), e]
  · unfold Lib.decodeN
    have e : (224 + n / 4096) % 16 * 4096 + (128 + n / 64 % 64) % 64 * 64 + (128 + n % 64) % 64 = n := by omega
    rw [if_neg (by omega), if_neg (by omega), if_pos (by omega), e, if_pos (by omega)]
  · unfold Lib.decodeN
    have e : (240 + n / 262144) % 8 * 262144 + (128 + n / 4096 % 64) % 64 * 4096 + (128 + n / 64 % 64) % 64 * 64 + (128 + n % 64) % 64 = n := by omega
    rw [if_neg (by omega), if_neg (by omega), if_neg (by omega), if_pos (by omega), e, if_pos (by omega)]

/-- What is encoded is decoded again. -/
theorem dec_enc {n : Nat} (h : scalarN n) (t : List UInt8) : dec (encS n ++ t) = (n, (encS n).length) := by
  have hd := decodeN_enc h
  have hb := h.1
  unfold encS
  split
  · rename_i h1
    simp only [List.cons_append, List.nil_append, dec, List.length_singleton]
    rw [u8_toNat (by omega)]
    exact (hd t.length _ _ _).1 h1
  · rename_i h1
    split
    · rename_i h2
      simp only [List.cons_append, List.nil_append, dec, List.length_cons, List.length_nil, List.getD_cons_zero, List.getD_cons_succ]
      rw [u8_toNat (by omega), u8_toNat (by omega)]
      exact (hd t.length 0 _ _).2.1 (by omega) h2
    · rename_i h2
      split
      · rename_i h3
        simp only [List.cons_append, List.nil_append, dec, List.length_cons, List.length_nil, List.getD_cons_zero, List.getD_cons_succ]
        rw [u8_toNat (by omega), u8_toNat (by omega), u8_toNat (by omega)]
        exact (hd t.length 0 0 _).2.2.1 (by omega) h3
      · rename_i h3
        simp only [List.cons_append, List.nil_append, dec, List.length_cons, List.length_nil, List.getD_cons_zero, List.getD_cons_succ]
        rw [u8_toNat (by omega), u8_toNat (by omega), u8_toNat (by omega), u8_toNat (by omega)]
        exact (hd t.length 0 0 0).2.2.2 (by omega)

theorem decOk_enc {n : Nat} (h : scalarN n) (t : List UInt8) : decOk (encS n ++ t) = true := by
  unfold decOk
  rw [dec_enc h]
  by_cases h1 : n < 128
  · have : (encS n ++ t).getD 0 0 = n.toUInt8 := by unfold encS; rw [if_pos h1]; rfl
    rw [this, u8_toNat (by omega)]
    simp [h1]
  · have : 2 ≤ (encS n).length := by unfold encS; rw [if_neg h1]; repeat' split <;> simp
    simp [this]

theorem chunks_enc {n : Nat} (h : scalarN n) (t : List UInt8) : chunks (encS n ++ t) = ⟨encS n, n, true⟩ :: chunks t := by
  have hne : encS n ++ t ≠ [] := by
    intro e
    exact encS_ne n (List.append_eq_nil_iff.1 e).1
  rw [chunks_cons hne, dec_enc h, decOk_enc h]
  simp

/-- What is decoded, if it is well-formed, is the sequence of its code point. -/
theorem dec_scalar {l : List UInt8} (hl : l ≠ []) : scalarN (dec l).1 := by
  cases l with
  | nil => exact (hl rfl).elim
  | cons b t =>
    show scalarN (Lib.decodeN _ _ _ _ _).1
    unfold Lib.decodeN scalarN
    repeat' split
    all_goals (simp only; omega)

theorem u8_ext {a b : UInt8} (h : a.toNat = b.toNat) : a = b := UInt8.toNat_inj.1 h

theorem enc2_num {b0 x n : Nat} (q0 : b0 / 32 = 6) (q1 : x / 64 = 2) (hn : n = b0 % 32 * 64 + x % 64) : 192 + n / 64 = b0 ∧ 128 + n % 64 = x ∧ n < 2048 := by omega
theorem enc3_num {b0 x y n : Nat} (q0 : b0 / 16 = 14) (q1 : x / 64 = 2) (q2 : y / 64 = 2) (hn : n = b0 % 16 * 4096 + x % 64 * 64 + y % 64) :
    224 + n / 4096 = b0 ∧ 128 + n / 64 % 64 = x ∧ 128 + n % 64 = y ∧ n < 65536 := by
  obtain ⟨a, ha⟩ : ∃ a, b0 % 16 = a := ⟨_, rfl⟩
  obtain ⟨c, hc⟩ : ∃ c, x % 64 = c := ⟨_, rfl⟩
  obtain ⟨d, hd⟩ : ∃ d, y % 64 = d := ⟨_, rfl⟩
  rw [ha, hc, hd] at hn
  have e0 : b0 = 224 + a := by omega
  have e1 : x = 128 + c := by omega
  have e2 : y = 128 + d := by omega
  have l0 : a < 16 := by omega
  have l1 : c < 64 := by omega
  have l2 : d < 64 := by omega
  clear ha hc hd q0 q1 q2
  subst e0 e1 e2
  have k1 : n / 64 = a * 64 + c := by omega
  rw [k1]
  refine ⟨by omega, by omega, by omega, by omega⟩
theorem enc4_num {b0 x y z n : Nat} (q0 : b0 / 8 = 30) (q1 : x / 64 = 2) (q2 : y / 64 = 2) (q3 : z / 64 = 2) (hn : n = b0 % 8 * 262144 + x % 64 * 4096 + y % 64 * 64 + z % 64) :
    240 + n / 262144 = b0 ∧ 128 + n / 4096 % 64 = x ∧ 128 + n / 64 % 64 = y ∧ 128 + n % 64 = z := by
  obtain ⟨a, ha⟩ : ∃ a, b0 % 8 = a := ⟨_, rfl⟩
  obtain ⟨c, hc⟩ : ∃ c, x % 64 = c := ⟨_, rfl⟩
  obtain ⟨d, hd⟩ : ∃ d, y % 64 = d := ⟨_, rfl⟩
  obtain ⟨e, he⟩ : ∃ e, z % 64 = e := ⟨_, rfl⟩
  rw [ha, hc, hd, he] at hn
  have e0 : b0 = 240 + a := by omega
  have e1 : x = 128 + c := by omega
  have e2 : y = 128 + d := by omega
  have e3 : z = 128 + e := by omega
  have l1 : c < 64 := by omega
  have l2 : d < 64 := by omega
  have l3 : e < 64 := by omega
  clear ha hc hd he q0 q1 q2 q3
  subst e0 e1 e2 e3
  have k1 : n / 64 = a * 4096 + c * 64 + d := by omega
  have k2 : n / 4096 = a * 64 + c := by omega
  have k3 : n / 262144 = a := by omega
  rw [k1, k2, k3]
  refine ⟨by omega, by omega, by omega, by omega⟩

theorem one_le {t : List UInt8} (h : 1 ≤ t.length) : ∃ x t', t = x :: t' := by
  cases t with
  | nil => simp at h
  | cons x t => exact ⟨x, t, rfl⟩
theorem two_le {t : List UInt8} (h : 2 ≤ t.length) : ∃ x y t', t = x :: y :: t' := by
  obtain ⟨x, t, rfl⟩ := one_le (t := t) (by omega)
  obtain ⟨y, t, rfl⟩ := one_le (t := t) (by simpa using h)
  exact ⟨x, y, t, rfl⟩
theorem three_le {t : List UInt8} (h : 3 ≤ t.length) : ∃ x y z t', t = x :: y :: z :: t' := by
  obtain ⟨x, t, rfl⟩ := one_le (t := t) (by omega)
  obtain ⟨y, z, t, rfl⟩ := two_le (t := t) (by simpa using h)
  exact ⟨x, y, z, t, rfl⟩

theorem enc_dec {l : List UInt8} (hl : l ≠ []) (h : decOk l = true) : l.take (dec l).2 = encS (dec l).1 := by
  cases l with
  | nil => exact (hl rfl).elim
  | cons b t =>
    have b0 := b.toNat_lt
    have hh : b.toNat < 128 ∨ 2 ≤ (dec (b :: t)).2 := by simpa [decOk] using h
    have hdef : dec (b :: t) = Lib.decodeN (t.length + 1) b.toNat (t.getD 0 0).toNat (t.getD 1 0).toNat (t.getD 2 0).toNat := rfl
    by_cases ha : b.toNat < 128
    · rw [dec_ascii b t ha]
      unfold encS
      rw [if_pos ha]
      simp only [List.take_succ_cons, List.take_zero]
      congr 1
      apply u8_ext
      rw [u8_toNat (by omega)]
    have h2 : 2 ≤ (dec (b :: t)).2 := by omega
    unfold Lib.decodeN at hdef
    rw [if_neg ha] at hdef
    split at hdef
    · rename_i q
      split at hdef
      · rename_i q2
        rw [hdef]
        obtain ⟨x, t', rfl⟩ := one_le (t := t) (by have := q.2.1; omega)
        simp only [List.getD_cons_zero] at *
        obtain ⟨n, hn⟩ : ∃ n, b.toNat % 32 * 64 + x.toNat % 64 = n := ⟨_, rfl⟩
        rw [hn] at q2 ⊢
        obtain ⟨r1, r2, r3⟩ := enc2_num q.1 q.2.2 hn.symm
        unfold encS
        rw [if_neg (by omega), if_pos r3, r1, r2]
        simp
      · rw [hdef] at h2; simp at h2
    · split at hdef
      · rename_i q
        split at hdef
        · rename_i q2
          rw [hdef]
          obtain ⟨x, y, t', rfl⟩ := two_le (t := t) (by have := q.2.2.1; omega)
          simp only [List.getD_cons_zero, List.getD_cons_succ] at *
          obtain ⟨n, hn⟩ : ∃ n, b.toNat % 16 * 4096 + x.toNat % 64 * 64 + y.toNat % 64 = n := ⟨_, rfl⟩
          rw [hn] at q2 ⊢
          obtain ⟨r1, r2, r3, r4⟩ := enc3_num q.1 q.2.1.2 q.2.2.2 hn.symm
          unfold encS
          rw [if_neg (by omega), if_neg (by omega), if_pos r4, r1, r2, r3]
          simp
        · rw [hdef] at h2; simp at h2
      · split at hdef
        · rename_i q
          split at hdef
          · rename_i q2
            rw [hdef]
            obtain ⟨x, y, z, t', rfl⟩ := three_le (t := t) (by have := q.2.2.2.1; omega)
            simp only [List.getD_cons_zero, List.getD_cons_succ] at *
            obtain ⟨n, hn⟩ : ∃ n, b.toNat % 8 * 262144 + x.toNat % 64 * 4096 + y.toNat % 64 * 64 + z.toNat % 64 = n := ⟨_, rfl⟩
            rw [hn] at q2 ⊢
            obtain ⟨r1, r2, r3, r4⟩ := enc4_num q.1 q.2.1.2 q.2.2.1.2 q.2.2.2.2 hn.symm
            unfold encS
            rw [if_neg (by omega), if_neg (by omega), if_neg (by omega), r1, r2, r3, r4]
            simp
          · rw [hdef] at h2; simp at h2
        · rw [hdef] at h2; simp at h2
end Go.Proofs.YtiahholgpbjjfaaDoor
