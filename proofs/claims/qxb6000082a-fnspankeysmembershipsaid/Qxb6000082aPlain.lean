namespace Go.Proofs.Qxb6000082a

/-! The plain law of keys: byte strings as lists of integers. Nothing here knows of the walk. -/
def cmp : List Int → List Int → Int
  | [], [] => 0
  | [], _ :: _ => -1
  | _ :: _, [] => 1
  | a :: x, b :: y => if a < b then -1 else if b < a then 1 else cmp x y
/-- k starts with p. -/
def pre : List Int → List Int → Bool
  | _, [] => true
  | [], _ :: _ => false
  | a :: x, b :: y => a == b && pre x y
/-- The least key above every key that starts with p. -/
def aft : List Int → Option (List Int)
  | [] => none
  | b :: r => match aft r with
    | some r' => some (b :: r')
    | none => if b = 255 then none else some [b + 1]
def allFF : List Int → Bool
  | [] => true
  | b :: r => b == 255 && allFF r

theorem cmp_vals (k p : List Int) : cmp k p = -1 ∨ cmp k p = 0 ∨ cmp k p = 1 := by
  induction k generalizing p with
  | nil => cases p <;> simp [cmp]
  | cons a x ih =>
    cases p with
    | nil => simp [cmp]
    | cons b y =>
      simp only [cmp]
      split
      · exact .inl rfl
      · split
        · exact .inr (.inr rfl)
        · exact ih y
theorem cmp_nil (k : List Int) : 0 ≤ cmp k [] := by cases k <;> simp [cmp]
theorem pre_nil (k : List Int) : pre k [] = true := by cases k <;> rfl
theorem pre_of_eq (k p : List Int) (h : cmp k p = 0) : pre k p = true := by
  induction k generalizing p with
  | nil => cases p <;> simp [cmp, pre] at *
  | cons a x ih =>
    cases p with
    | nil => rfl
    | cons b y =>
      simp only [cmp] at h
      split at h
      · omega
      · split at h
        · omega
        · simp only [pre, Bool.and_eq_true, beq_iff_eq]
          exact ⟨by omega, ih y h⟩

theorem aft_none (p : List Int) (hp : ∀ b ∈ p, b ≤ 255) : aft p = none ↔ allFF p = true := by
  induction p with
  | nil => simp [aft, allFF]
  | cons b r ih =>
    have ih' := ih (fun c hc => hp c (List.mem_cons_of_mem _ hc))
    cases h : aft r with
    | some r' =>
      have hn : ¬ allFF r = true := fun e => by rw [ih'.2 e] at h; cases h
      simp [aft, h, allFF, hn]
    | none =>
      have hy : allFF r = true := ih'.1 h
      by_cases hb : b = 255 <;> simp [aft, h, allFF, hy, hb]

theorem below_none (p : List Int) (h : aft p = none) : ∀ k : List Int, (∀ a ∈ k, a ≤ 255) → cmp k p < 0 ∨ pre k p = true := by
  induction p with
  | nil => intro k _; exact .inr (pre_nil k)
  | cons b r ih =>
    intro k hk
    cases hr : aft r with
    | some r' => simp [aft, hr] at h
    | none =>
      have hb : b = 255 := by
        by_cases hb : b = 255
        · exact hb
        · simp [aft, hr, hb] at h
      cases k with
      | nil => exact .inl (by simp [cmp])
      | cons a x =>
        have ha := hk a (List.mem_cons_self ..)
        have := ih hr x (fun c hc => hk c (List.mem_cons_of_mem _ hc))
        by_cases hab : a < b
        · exact .inl (by simp [cmp, hab])
        · have e : a = b := by omega
          subst e
          simpa [cmp, pre] using this

theorem below_some (p u : List Int) (h : aft p = some u) : ∀ k : List Int, (∀ a ∈ k, a ≤ 255) → (cmp k u < 0 ↔ cmp k p < 0 ∨ pre k p = true) := by
  induction p generalizing u with
  | nil => simp [aft] at h
  | cons b r ih =>
    intro k hk
    cases hr : aft r with
    | some r' =>
      simp [aft, hr] at h
      subst h
      cases k with
      | nil => simp [cmp]
      | cons a x =>
        have := ih r' hr x (fun c hc => hk c (List.mem_cons_of_mem _ hc))
        by_cases hab : a < b
        · simp [cmp, hab]
        · by_cases hba : b < a
          · have hne : ¬ a = b := by omega
            simp [cmp, pre, hab, hba, hne]
          · have e : a = b := by omega
            subst e
            simpa [cmp, pre] using this
    | none =>
      by_cases hb : b = 255
      · simp [aft, hr, hb] at h
      · simp [aft, hr, hb] at h
        subst h
        cases k with
        | nil => simp [cmp]
        | cons a x =>
          have hn := below_none r hr x (fun c hc => hk c (List.mem_cons_of_mem _ hc))
          have hx := cmp_nil x
          by_cases hab : a < b
          · simp [cmp, hab, show a < b + 1 by omega]
          · by_cases hba : b < a
            · have hne : ¬ a = b := by omega
              have h1 : ¬ a < b + 1 := by omega
              by_cases h2 : b + 1 < a
              · simp [cmp, pre, hab, hba, hne, h1, h2]
              · simp only [cmp, pre, hab, hba, h1, h2, if_false, if_true]
                constructor
                · intro h; omega
                · intro h; simp [hne] at h
            · have e : a = b := by omega
              subst e
              simp only [cmp, pre, show a < a + 1 by omega, if_true, Int.lt_irrefl, if_false]
              simp only [beq_self_eq_true, Bool.true_and]
              constructor
              · intro _; exact hn
              · intro _; omega

/-- The bytes of the least key above stay bytes, and its last step. -/
theorem aft_bytes (p u : List Int) (h : aft p = some u) (hp : ∀ b ∈ p, 0 ≤ b ∧ b ≤ 255) : ∀ b ∈ u, 0 ≤ b ∧ b ≤ 255 := by
  induction p generalizing u with
  | nil => simp [aft] at h
  | cons b r ih =>
    have hb := hp b (List.mem_cons_self ..)
    have hr' := fun c hc => hp c (List.mem_cons_of_mem b hc)
    cases hr : aft r with
    | some r' =>
      simp [aft, hr] at h
      subst h
      intro c hc
      rcases List.mem_cons.1 hc with rfl | hc
      · exact hb
      · exact ih r' hr hr' c hc
    | none =>
      by_cases hb5 : b = 255
      · simp [aft, hr, hb5] at h
      · simp [aft, hr, hb5] at h
        subst h
        intro c hc
        rw [List.mem_singleton.1 hc]
        omega
end Go.Proofs.Qxb6000082a
