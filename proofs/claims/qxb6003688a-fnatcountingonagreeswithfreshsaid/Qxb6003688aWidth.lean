import Derived.Test.Qxb6003688aPlain
namespace Go.Proofs.Qxb6003688a.Plain

/-- the byte k places on lies there, within lo .. hi -/
def inB (s : ByteArray) (i lo hi : Nat) : Prop := ∃ h : i < s.size, lo ≤ (s[i]'h).toNat ∧ (s[i]'h).toNat ≤ hi

theorem ct_iff (s : ByteArray) (i k : Nat) : ct s i k = true ↔ inB s (i + k) 128 191 := by
  unfold ct inB
  rw [Bool.and_eq_true, decide_eq_true_iff]
  constructor
  · rintro ⟨h1, h2⟩
    rw [get_of _ _ h1] at h2
    have := beq_iff_eq.1 h2
    exact ⟨h1, by omega, by omega⟩
  · rintro ⟨h1, h2, h3⟩
    refine ⟨h1, ?_⟩
    rw [get_of _ _ h1]
    exact beq_iff_eq.2 (by omega)
theorem ct_false {s : ByteArray} {i k : Nat} (h : ¬ inB s (i + k) 128 191) : ct s i k = false := by
  rw [Bool.eq_false_iff]; intro e; exact h ((ct_iff s i k).1 e)

theorem byte_lt (s : ByteArray) (j : Nat) : (s.get! j).toNat < 256 := (s.get! j).toNat_lt

section
variable {s : ByteArray} {i : Nat} (hi : i < s.size)

theorem w_low (h : (s[i]'hi).toNat < 128) : wd s i = 1 := wd_ascii hi h

theorem w_two_yes (h1 : 194 ≤ (s[i]'hi).toNat) (h2 : (s[i]'hi).toNat ≤ 223) (c : inB s (i + 1) 128 191) : wd s i = 2 := by
  rw [wd_W, get_of s i hi, (ct_iff s i 1).2 c]
  unfold W
  rw [if_neg (by omega), if_pos (by simp; omega), if_pos (by omega)]
theorem w_two_no (h1 : 194 ≤ (s[i]'hi).toNat) (h2 : (s[i]'hi).toNat ≤ 223) (c : ¬ inB s (i + 1) 128 191) : wd s i = 1 := by
  rw [wd_W, get_of s i hi, ct_false c]
  unfold W
  rw [if_neg (by omega), if_neg (by simp), if_neg (by simp), if_neg (by simp)]

theorem w_other (h : (128 ≤ (s[i]'hi).toNat ∧ (s[i]'hi).toNat < 194) ∨ 244 < (s[i]'hi).toNat) : wd s i = 1 := by
  have hb := (s[i]'hi).toNat_lt
  have b1 := byte_lt s (i + 1)
  have b2 := byte_lt s (i + 2)
  have b3 := byte_lt s (i + 3)
  rw [wd_W, get_of s i hi]
  generalize (s[i]'hi).toNat = b0 at *
  generalize (s.get! (i + 1)).toNat = b1' at *
  generalize (s.get! (i + 2)).toNat = b2' at *
  generalize (s.get! (i + 3)).toNat = b3' at *
  unfold W
  rw [if_neg (by omega)]
  by_cases k2 : b0 / 32 = 6
  · split
    · rw [if_neg (by omega)]
    · rw [if_neg (by simp; intros; omega), if_neg (by simp; intros; omega)]
  · rw [if_neg (by simp [k2])]
    rw [if_neg (by simp; intros; omega)]
    split
    · rename_i h4
      rw [if_neg]
      simp only [Bool.and_eq_true, decide_eq_true_eq, not_and]
      intro _
      have h30 : b0 / 8 = 30 := by
        rw [Bool.and_eq_true, Bool.and_eq_true, Bool.and_eq_true] at h4
        exact beq_iff_eq.1 h4.1.1.1
      unfold Utf8.valid
      simp
      omega
    · rfl

theorem w_three_yes {lo hi' : Nat} (h1 : 224 ≤ (s[i]'hi).toNat) (h2 : (s[i]'hi).toNat ≤ 239) (hlo : lo = if (s[i]'hi).toNat = 224 then 160 else 128) (hhi : hi' = if (s[i]'hi).toNat = 237 then 159 else 191)
    (c1 : inB s (i + 1) lo hi') (c2 : inB s (i + 2) 128 191) : wd s i = 3 := by
  obtain ⟨g1, l1, u1⟩ := c1
  have q1 : 128 ≤ (s[i + 1]'g1).toNat := by split at hlo <;> omega
  have q2 : (s[i + 1]'g1).toNat ≤ 191 := by split at hhi <;> omega
  have c1' : inB s (i + 1) 128 191 := ⟨g1, q1, q2⟩
  rw [wd_W, get_of s i hi, (ct_iff s i 1).2 c1', (ct_iff s i 2).2 c2, get_of s (i + 1) g1]
  have b2 := byte_lt s (i + 2)
  generalize (s[i]'hi).toNat = b0 at *
  generalize (s[i + 1]'g1).toNat = b1 at *
  generalize (s.get! (i + 2)).toNat = b2' at *
  unfold W
  rw [if_neg (by omega), if_neg (by simp; omega), if_pos (by simp; omega), if_pos]
  rw [Bool.and_eq_true, decide_eq_true_eq]
  unfold Utf8.valid
  refine ⟨by split at hlo <;> omega, ?_⟩
  simp
  split at hhi <;> omega
theorem w_three_no {lo hi' : Nat} (h1 : 224 ≤ (s[i]'hi).toNat) (h2 : (s[i]'hi).toNat ≤ 239) (hlo : lo = if (s[i]'hi).toNat = 224 then 160 else 128) (hhi : hi' = if (s[i]'hi).toNat = 237 then 159 else 191)
    (c : ¬ (inB s (i + 1) lo hi' ∧ inB s (i + 2) 128 191)) : wd s i = 1 := by
  have b1 := byte_lt s (i + 1)
  have b2 := byte_lt s (i + 2)
  by_cases c1 : inB s (i + 1) 128 191
  · by_cases c2 : inB s (i + 2) 128 191
    · obtain ⟨g1, l1, u1⟩ := c1
      have hout : (s[i + 1]'g1).toNat < lo ∨ hi' < (s[i + 1]'g1).toNat := by
        by_cases hx : lo ≤ (s[i + 1]'g1).toNat ∧ (s[i + 1]'g1).toNat ≤ hi'
        · exact absurd ⟨⟨g1, hx.1, hx.2⟩, c2⟩ c
        · omega
      rw [wd_W, get_of s i hi, (ct_iff s i 1).2 ⟨g1, l1, u1⟩, (ct_iff s i 2).2 c2, get_of s (i + 1) g1]
      generalize (s[i]'hi).toNat = b0 at *
      generalize (s[i + 1]'g1).toNat = b1' at *
      generalize (s.get! (i + 2)).toNat = b2' at *
      unfold W
      rw [if_neg (by omega), if_neg (by simp; omega), if_pos (by simp; omega), if_neg]
      rw [Bool.and_eq_true, decide_eq_true_eq]
      unfold Utf8.valid
      simp
      split at hlo <;> split at hhi <;> omega
    · rw [wd_W, get_of s i hi, ct_false c2]
      unfold W
      rw [if_neg (by omega), if_neg (by simp; intros; omega), if_neg (by simp), if_neg (by simp)]
  · rw [wd_W, get_of s i hi, ct_false c1]
    unfold W
    rw [if_neg (by omega), if_neg (by simp), if_neg (by simp), if_neg (by simp)]

theorem w_four_yes {lo hi' : Nat} (h1 : 240 ≤ (s[i]'hi).toNat) (h2 : (s[i]'hi).toNat ≤ 244) (hlo : lo = if (s[i]'hi).toNat = 240 then 144 else 128) (hhi : hi' = if (s[i]'hi).toNat = 244 then 143 else 191)
    (c1 : inB s (i + 1) lo hi') (c2 : inB s (i + 2) 128 191) (c3 : inB s (i + 3) 128 191) : wd s i = 4 := by
  obtain ⟨g1, l1, u1⟩ := c1
  have q1 : 128 ≤ (s[i + 1]'g1).toNat := by split at hlo <;> omega
  have q2 : (s[i + 1]'g1).toNat ≤ 191 := by split at hhi <;> omega
  have c1' : inB s (i + 1) 128 191 := ⟨g1, q1, q2⟩
  rw [wd_W, get_of s i hi, (ct_iff s i 1).2 c1', (ct_iff s i 2).2 c2, (ct_iff s i 3).2 c3, get_of s (i + 1) g1]
  have b2 := byte_lt s (i + 2)
  have b3 := byte_lt s (i + 3)
  generalize (s[i]'hi).toNat = b0 at *
  generalize (s[i + 1]'g1).toNat = b1 at *
  generalize (s.get! (i + 2)).toNat = b2' at *
  generalize (s.get! (i + 3)).toNat = b3' at *
  unfold W
  rw [if_neg (by omega), if_neg (by simp; omega), if_neg (by simp; omega), if_pos (by simp; omega), if_pos]
  rw [Bool.and_eq_true, decide_eq_true_eq]
  unfold Utf8.valid
  refine ⟨by split at hlo <;> omega, ?_⟩
  simp
  split at hhi <;> split at hlo <;> omega
theorem w_four_no {lo hi' : Nat} (h1 : 240 ≤ (s[i]'hi).toNat) (h2 : (s[i]'hi).toNat ≤ 244) (hlo : lo = if (s[i]'hi).toNat = 240 then 144 else 128) (hhi : hi' = if (s[i]'hi).toNat = 244 then 143 else 191)
    (c : ¬ (inB s (i + 1) lo hi' ∧ inB s (i + 2) 128 191 ∧ inB s (i + 3) 128 191)) : wd s i = 1 := by
  have b1 := byte_lt s (i + 1)
  have b2 := byte_lt s (i + 2)
  have b3 := byte_lt s (i + 3)
  by_cases c1 : inB s (i + 1) 128 191
  · by_cases c2 : inB s (i + 2) 128 191
    · by_cases c3 : inB s (i + 3) 128 191
      · obtain ⟨g1, l1, u1⟩ := c1
        have hout : (s[i + 1]'g1).toNat < lo ∨ hi' < (s[i + 1]'g1).toNat := by
          by_cases hx : lo ≤ (s[i + 1]'g1).toNat ∧ (s[i + 1]'g1).toNat ≤ hi'
          · exact absurd ⟨⟨g1, hx.1, hx.2⟩, c2, c3⟩ c
          · omega
        rw [wd_W, get_of s i hi, (ct_iff s i 1).2 ⟨g1, l1, u1⟩, (ct_iff s i 2).2 c2, (ct_iff s i 3).2 c3, get_of s (i + 1) g1]
        generalize (s[i]'hi).toNat = b0 at *
        generalize (s[i + 1]'g1).toNat = b1' at *
        generalize (s.get! (i + 2)).toNat = b2' at *
        generalize (s.get! (i + 3)).toNat = b3' at *
        unfold W
        rw [if_neg (by omega), if_neg (by simp; omega), if_neg (by simp; omega), if_pos (by simp; omega), if_neg]
        rw [Bool.and_eq_true, decide_eq_true_eq]
        unfold Utf8.valid
        simp
        split at hlo <;> split at hhi <;> omega
      · rw [wd_W, get_of s i hi, ct_false c3]
        unfold W
        rw [if_neg (by omega), if_neg (by simp; intros; omega), if_neg (by simp; intros; omega), if_neg (by simp)]
    · rw [wd_W, get_of s i hi, ct_false c2]
      unfold W
      rw [if_neg (by omega), if_neg (by simp; intros; omega), if_neg (by simp), if_neg (by simp)]
  · rw [wd_W, get_of s i hi, ct_false c1]
    unfold W
    rw [if_neg (by omega), if_neg (by simp), if_neg (by simp), if_neg (by simp)]
end
end Go.Proofs.Qxb6003688a.Plain
