/- PLAIN: no Go in sight: the value of one hexadecimal digit; of a row of them. -/
namespace Go.Proofs.YbulkbmaiDoor

/-- The value of one hexadecimal digit (its byte as a number). -/
def hexD (c : Nat) : Option Nat :=
  if 48 ≤ c ∧ c ≤ 57 then some (c - 48) else if 97 ≤ c ∧ c ≤ 102 then some (c - 87) else if 65 ≤ c ∧ c ≤ 70 then some (c - 55) else none

/-- The number that a row of hexadecimal digits spells, 'acc' read before it; none where one of them is no digit. -/
def hexV (acc : Nat) : List Nat → Option Nat
  | [] => some acc
  | c :: r => match hexD c with
    | some d => hexV (acc * 16 + d) r
    | none => none

theorem hexD_lt {c d : Nat} (h : hexD c = some d) : d < 16 := by
  unfold hexD at h
  split at h
  · simp at h; omega
  · split at h
    · simp at h; omega
    · split at h
      · simp at h; omega
      · simp at h

theorem hexD_num {c : Nat} (h1 : 48 ≤ c) (h2 : c ≤ 57) : hexD c = some (c - 48) := by unfold hexD; rw [if_pos ⟨h1, h2⟩]
theorem hexD_low {c : Nat} (h1 : 97 ≤ c) (h2 : c ≤ 102) : hexD c = some (c - 87) := by unfold hexD; rw [if_neg (by omega), if_pos ⟨h1, h2⟩]
theorem hexD_up {c : Nat} (h1 : 65 ≤ c) (h2 : c ≤ 70) : hexD c = some (c - 55) := by unfold hexD; rw [if_neg (by omega), if_neg (by omega), if_pos ⟨h1, h2⟩]
theorem hexD_no {c : Nat} (h1 : ¬ (48 ≤ c ∧ c ≤ 57)) (h2 : ¬ (97 ≤ c ∧ c ≤ 102)) (h3 : ¬ (65 ≤ c ∧ c ≤ 70)) : hexD c = none := by unfold hexD; rw [if_neg h1, if_neg h2, if_neg h3]

theorem hexV_some {acc c d : Nat} {r : List Nat} (h : hexD c = some d) : hexV acc (c :: r) = hexV (acc * 16 + d) r := by simp [hexV, h]
theorem hexV_none {acc c : Nat} {r : List Nat} (h : hexD c = none) : hexV acc (c :: r) = none := by simp [hexV, h]

theorem hexV_lt : ∀ (l : List Nat) (acc v : Nat), hexV acc l = some v → v < (acc + 1) * 16 ^ l.length
  | [], acc, v, h => by
    simp [hexV] at h
    simp
    omega
  | c :: r, acc, v, h => by
    cases hd : hexD c with
    | none => rw [hexV_none hd] at h; simp at h
    | some d =>
      rw [hexV_some hd] at h
      have h1 := hexV_lt r _ v h
      have h2 := hexD_lt hd
      have h3 : (acc * 16 + d + 1) * 16 ^ r.length ≤ ((acc + 1) * 16) * 16 ^ r.length := Nat.mul_le_mul_right _ (by omega)
      rw [List.length_cons, Nat.pow_succ, Nat.mul_comm (16 ^ r.length) 16, ← Nat.mul_assoc]
      omega

end Go.Proofs.YbulkbmaiDoor
