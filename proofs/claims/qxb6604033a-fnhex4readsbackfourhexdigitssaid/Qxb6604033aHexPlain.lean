/-
  PLAIN: hex digits. No Go in sight.
-/
namespace Qb33

/-- The value of a hex digit, of either case. -/
def hv (c : Int) : Option Int :=
  if 48 ≤ c ∧ c ≤ 57 then some (c - 48) else if 97 ≤ c ∧ c ≤ 102 then some (c - 87) else if 65 ≤ c ∧ c ≤ 70 then some (c - 55) else none

/-- What the first k bytes write. -/
def hexTo (z : Nat → Int) : Nat → Option Int
  | 0 => some 0
  | k + 1 => (hexTo z k).bind fun r => (hv (z k)).map fun d => r * 16 + d

theorem hv_bd {c d : Int} (h : hv c = some d) : 0 ≤ d ∧ d ≤ 15 := by
  unfold hv at h
  split at h
  · simp at h; omega
  · split at h
    · simp at h; omega
    · split at h
      · simp at h; omega
      · cases h

theorem hexTo_bd {z : Nat → Int} : ∀ {k : Nat} {r : Int}, hexTo z k = some r → 0 ≤ r ∧ r < 16 ^ k
  | 0, r, h => by simp [hexTo] at h; subst h; simp
  | k + 1, r, h => by
    unfold hexTo at h
    cases h1 : hexTo z k with
    | none => rw [h1] at h; cases h
    | some q =>
      rw [h1] at h
      cases h2 : hv (z k) with
      | none => rw [h2] at h; cases h
      | some d =>
        rw [h2] at h
        simp at h
        have a := hexTo_bd h1
        have b := hv_bd h2
        rw [Int.pow_succ]
        omega

theorem hexTo_some {z : Nat → Int} {k : Nat} {r d : Int} (h : hexTo z k = some r) (hd : hv (z k) = some d) : hexTo z (k + 1) = some (r * 16 + d) := by
  simp [hexTo, h, hd]
theorem hexTo_none {z : Nat → Int} {k : Nat} (hd : hv (z k) = none) : ∀ j, k < j → hexTo z j = none
  | 0, h => by omega
  | j + 1, h => by
    by_cases e : j = k
    · subst e
      unfold hexTo
      cases hexTo z j with
      | none => rfl
      | some r => simp [hd]
    · rw [hexTo, hexTo_none hd j (by omega)]; rfl

def hexR (z : Nat → Int) : Int := (hexTo z 4).getD 0
def hexOK (z : Nat → Int) : Bool := (hexTo z 4).isSome

theorem hex_four {z : Nat → Int} {a b c d : Int} (h0 : hv (z 0) = some a) (h1 : hv (z 1) = some b) (h2 : hv (z 2) = some c) (h3 : hv (z 3) = some d) :
    hexTo z 4 = some (a * 4096 + b * 256 + c * 16 + d) := by
  simp only [hexTo, h0, h1, h2, h3, Option.bind_some, Option.map_some]
  congr 1
  omega

def lowS : List Int := [48, 49, 50, 51, 52, 53, 54, 55, 56, 57, 97, 98, 99, 100, 101, 102]
def uppS : List Int := [48, 49, 50, 51, 52, 53, 54, 55, 56, 57, 65, 66, 67, 68, 69, 70]
/-- The tables' bytes. -/
def low (k : Nat) : Int := lowS.getD k 0
def upp (k : Nat) : Int := uppS.getD k 0

theorem hv_low : ∀ k, k < 16 → hv (low k) = some (k : Int) := by decide
theorem hv_upp : ∀ k, k < 16 → hv (upp k) = some (k : Int) := by decide
theorem low_bd : ∀ k, k < 16 → 0 ≤ low k ∧ low k ≤ 255 := by decide
theorem upp_bd : ∀ k, k < 16 → 0 ≤ upp k ∧ upp k ≤ 255 := by decide

theorem upp_at : ∀ k, k < 16 → 10 ≤ k → upp k = 55 + (k : Int) := by decide
theorem low_at : ∀ k, k < 16 → 10 ≤ k → low k = 87 + (k : Int) := by decide
theorem low_dig : ∀ k, k < 10 → low k = 48 + (k : Int) := by decide

/-- A byte that stands in neither table is no hex digit. -/
theorem hv_miss (c : Int) (h : ∀ k, k < 16 → low k ≠ c ∧ upp k ≠ c) : hv c = none := by
  unfold hv
  rw [if_neg, if_neg, if_neg]
  · intro ⟨a, b⟩
    obtain ⟨k, rfl⟩ : ∃ k : Nat, c = 55 + k := ⟨(c - 55).toNat, by omega⟩
    exact (h k (by omega)).2 (upp_at k (by omega) (by omega))
  · intro ⟨a, b⟩
    obtain ⟨k, rfl⟩ : ∃ k : Nat, c = 87 + k := ⟨(c - 87).toNat, by omega⟩
    exact (h k (by omega)).1 (low_at k (by omega) (by omega))
  · intro ⟨a, b⟩
    obtain ⟨k, rfl⟩ : ∃ k : Nat, c = 48 + k := ⟨(c - 48).toNat, by omega⟩
    exact (h k (by omega)).1 (low_dig k (by omega))

/-- The j-th hex digit (from the left, of four) of a 16-bit number. -/
def nib (r : Nat) (j : Nat) : Nat := r / 16 ^ (3 - j) % 16
theorem nib_lt (r j : Nat) : nib r j < 16 := Nat.mod_lt _ (by omega)
/-- The byte that writes it: in the case that the j-th bit of u says. -/
def hb (r u j : Nat) : Int := if u / 2 ^ j % 2 = 1 then upp (nib r j) else low (nib r j)
theorem hv_hb (r u j : Nat) : hv (hb r u j) = some (nib r j : Int) := by
  unfold hb
  split
  · exact hv_upp _ (nib_lt r j)
  · exact hv_low _ (nib_lt r j)
theorem hb_bd (r u j : Nat) : 0 ≤ hb r u j ∧ hb r u j ≤ 255 := by
  unfold hb
  split
  · exact upp_bd _ (nib_lt r j)
  · exact low_bd _ (nib_lt r j)

theorem nib_back (r : Nat) (h : r < 65536) : (nib r 0 : Int) * 4096 + nib r 1 * 256 + nib r 2 * 16 + nib r 3 = r := by
  simp only [nib]
  omega

/-- Four digits written so read back as the number. -/
theorem hex_back (z : Nat → Int) (r u : Nat) (h : r < 65536) (hz : ∀ j, j < 4 → z j = hb r u j) : hexTo z 4 = some (r : Int) := by
  have e := hex_four (z := z) (by rw [hz 0 (by omega)]; exact hv_hb r u 0) (by rw [hz 1 (by omega)]; exact hv_hb r u 1) (by rw [hz 2 (by omega)]; exact hv_hb r u 2) (by rw [hz 3 (by omega)]; exact hv_hb r u 3)
  rw [e, nib_back r h]

end Qb33
