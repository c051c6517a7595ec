/- Plain lists: how the text of an IPv4 address is read, letter by letter. -/
namespace Go.Proofs.YtmfdbcfpcifmcaaGreatDoor.Ip

/-- The reader's state: the number so far, its digits, the points met. -/
abbrev St := Nat × Nat × Nat
def step (st : St) (c : Nat) : Option St :=
  if c = 46 then (if st.2.1 = 0 ∨ st.2.2 = 3 then none else some (0, 0, st.2.2 + 1))
  else if c < 48 ∨ 57 < c then none
  else if st.2.1 = 1 ∧ st.1 = 0 then none
  else if 255 < st.1 * 10 + (c - 48) then none
  else some (st.1 * 10 + (c - 48), st.2.1 + 1, st.2.2)
def run : List UInt8 → St → Option St
  | [], st => some st
  | c :: r, st => (step st c.toNat).bind (run r)
def Ok (l : List UInt8) : Prop := ∃ v m, run l (0, 0, 0) = some (v, m + 1, 3)

theorem run_append (a b : List UInt8) : ∀ st, run (a ++ b) st = (run a st).bind (run b) := by
  induction a with
  | nil => intro st; rfl
  | cons c r ih =>
    intro st
    simp only [List.cons_append, run]
    cases step st c.toNat with
    | none => rfl
    | some x => exact ih x

theorem run_snoc (a : List UInt8) (c : UInt8) (st : St) : run (a ++ [c]) st = (run a st).bind fun x => step x c.toNat := by
  rw [run_append]
  congr 1
  funext x
  simp only [run]
  cases step x c.toNat <;> rfl

theorem take_snoc {l : List UInt8} {k : Nat} (hk : k < l.length) : l.take (k + 1) = l.take k ++ [l[k]] := by
  rw [List.take_succ_eq_append_getElem hk]

/-- At each letter: the state ahead of it, its step, the state behind it. -/
theorem run_at {l : List UInt8} {fin : St} (h : run l (0, 0, 0) = some fin) (k : Nat) (hk : k < l.length) :
    ∃ st st', run (l.take k) (0, 0, 0) = some st ∧ step st (l[k]).toNat = some st' ∧ run (l.take (k + 1)) (0, 0, 0) = some st' := by
  have e : l = l.take (k + 1) ++ l.drop (k + 1) := (List.take_append_drop _ _).symm
  rw [e, run_append, take_snoc hk, run_snoc] at h
  cases h1 : run (l.take k) (0, 0, 0) with
  | none => rw [h1] at h; simp at h
  | some st =>
    rw [h1] at h
    simp only [Option.bind_some] at h
    cases h2 : step st (l[k]).toNat with
    | none => rw [h2] at h; simp at h
    | some st' => exact ⟨st, st', rfl, h2, by rw [take_snoc hk, run_snoc, h1]; exact h2⟩

theorem step_point {st st' : St} {c : Nat} (h : step st c = some st') (hc : c = 46) : st.2.1 ≠ 0 ∧ st.2.2 ≠ 3 ∧ st' = (0, 0, st.2.2 + 1) := by
  unfold step at h
  rw [if_pos hc] at h
  split at h
  · cases h
  · rename_i hn
    exact ⟨fun e => hn (.inl e), fun e => hn (.inr e), (Option.some.inj h).symm⟩
theorem step_digit {st st' : St} {c : Nat} (h : step st c = some st') (hc : c ≠ 46) :
    48 ≤ c ∧ c ≤ 57 ∧ ¬ (st.2.1 = 1 ∧ st.1 = 0) ∧ st.1 * 10 + (c - 48) ≤ 255 ∧ st' = (st.1 * 10 + (c - 48), st.2.1 + 1, st.2.2) := by
  unfold step at h
  rw [if_neg hc] at h
  split at h
  · cases h
  · rename_i h1
    split at h
    · cases h
    · rename_i h2
      split at h
      · cases h
      · rename_i h3
        exact ⟨by omega, by omega, h2, by omega, (Option.some.inj h).symm⟩
theorem step_letters {st st' : St} {c : Nat} (h : step st c = some st') : c = 46 ∨ (48 ≤ c ∧ c ≤ 57) := by
  by_cases hc : c = 46
  · exact .inl hc
  · obtain ⟨h1, h2, _⟩ := step_digit h hc
    exact .inr ⟨h1, h2⟩

theorem letters {l : List UInt8} (h : Ok l) (k : Nat) (hk : k < l.length) : (l[k]).toNat = 46 ∨ (48 ≤ (l[k]).toNat ∧ (l[k]).toNat ≤ 57) := by
  obtain ⟨v, m, h⟩ := h
  obtain ⟨_, _, _, h2, _⟩ := run_at h k hk
  exact step_letters h2

/-- A digit of this number has been met: there is a letter ahead, and it is no point. -/
theorem ahead {l : List UInt8} {k : Nat} (hk : k ≤ l.length) {st : St} (h : run (l.take k) (0, 0, 0) = some st) (hd : st.2.1 ≠ 0) :
    ∃ h0 : 0 < k, (l[k - 1]'(by omega)).toNat ≠ 46 := by
  rcases Nat.eq_zero_or_pos k with rfl | h0
  · simp only [List.take_zero, run] at h
    obtain rfl := Option.some.inj h
    exact absurd rfl hd
  · refine ⟨h0, fun hc => hd ?_⟩
    have e : l.take k = l.take (k - 1) ++ [l[k - 1]'(by omega)] := by
      have := take_snoc (l := l) (k := k - 1) (by omega)
      rwa [show k - 1 + 1 = k from by omega] at this
    rw [e, run_snoc] at h
    cases h1 : run (l.take (k - 1)) (0, 0, 0) with
    | none => rw [h1] at h; simp at h
    | some x =>
      rw [h1] at h
      simp only [Option.bind_some] at h
      rw [(step_point h hc).2.2]

/-- The last letter is no point. -/
theorem last {l : List UInt8} {v m p : Nat} (h : run l (0, 0, 0) = some (v, m + 1, p)) : ∃ h0 : 0 < l.length, (l[l.length - 1]'(by omega)).toNat ≠ 46 :=
  ahead (k := l.length) (Nat.le_refl _) (by rw [List.take_length]; exact h) (by simp)

/-! The numbers, one by one. -/
def num (l : List UInt8) : Nat := l.foldl (fun n c => n * 10 + (c.toNat - 48)) 0
theorem num_snoc (l : List UInt8) (c : UInt8) : num (l ++ [c]) = num l * 10 + (c.toNat - 48) := by simp [num]

theorem step_of_digit {v d p c : Nat} (h1 : 48 ≤ c) (h2 : c ≤ 57) (h3 : ¬ (d = 1 ∧ v = 0)) (h4 : v * 10 + (c - 48) ≤ 255) : step (v, d, p) c = some (v * 10 + (c - 48), d + 1, p) := by
  unfold step
  rw [if_neg (by omega), if_neg (by omega), if_neg h3, if_neg (by simp only; omega)]

theorem number {l : List UInt8} (p : Nat) (hd : ∀ k (h : k < l.length), 48 ≤ (l[k]).toNat ∧ (l[k]).toNat ≤ 57) (h0 : 0 < l.length) (h3 : l.length ≤ 3) (hv : num l ≤ 255)
    (hz : 1 < l.length → (l[0]).toNat ≠ 48) : run l (0, 0, p) = some (num l, l.length, p) := by
  match l, h0, h3 with
  | [a], _, _ =>
    have ha := hd 0 (by simp)
    simp only [List.getElem_cons_zero] at ha
    simp only [num, List.foldl_cons, List.foldl_nil] at hv ⊢
    simp only [run]
    rw [step_of_digit ha.1 ha.2 (by omega) (by omega)]
    simp
  | [a, b], _, _ =>
    have ha := hd 0 (by simp)
    have hb := hd 1 (by simp)
    have h1 := hz (by simp)
    simp only [List.getElem_cons_zero, List.getElem_cons_succ] at ha hb h1
    simp only [num, List.foldl_cons, List.foldl_nil] at hv ⊢
    simp only [run]
    rw [step_of_digit ha.1 ha.2 (by omega) (by omega)]
    simp only [Option.bind_some]
    rw [step_of_digit hb.1 hb.2 (by omega) (by omega)]
    simp
  | [a, b, c], _, _ =>
    have ha := hd 0 (by simp)
    have hb := hd 1 (by simp)
    have hc := hd 2 (by simp)
    have h1 := hz (by simp)
    simp only [List.getElem_cons_zero, List.getElem_cons_succ] at ha hb hc h1
    simp only [num, List.foldl_cons, List.foldl_nil] at hv ⊢
    simp only [run]
    rw [step_of_digit ha.1 ha.2 (by omega) (by omega)]
    simp only [Option.bind_some]
    rw [step_of_digit hb.1 hb.2 (by omega) (by omega)]
    simp only [Option.bind_some]
    rw [step_of_digit hc.1 hc.2 (by omega) (by omega)]
    simp

theorem step_bounds {st st' : St} {c : Nat} (h : step st c = some st') (h3 : st.2.2 ≤ 3) : st'.1 ≤ 255 ∧ st'.2.1 ≤ st.2.1 + 1 ∧ st'.2.2 ≤ 3 := by
  by_cases hc : c = 46
  · obtain ⟨_, b, rfl⟩ := step_point h hc
    exact ⟨by simp, by simp, by simp only; omega⟩
  · obtain ⟨_, _, _, b, rfl⟩ := step_digit h hc
    exact ⟨b, Nat.le_refl _, h3⟩
theorem run_bounds (l : List UInt8) : ∀ (st st' : St), run l st = some st' → st.1 ≤ 255 → st.2.2 ≤ 3 → st'.1 ≤ 255 ∧ st'.2.1 ≤ st.2.1 + l.length ∧ st'.2.2 ≤ 3 := by
  induction l with
  | nil =>
    intro st st' h h1 h3
    obtain rfl := Option.some.inj h
    exact ⟨h1, Nat.le_add_right _ _, h3⟩
  | cons c r ih =>
    intro st st' h h1 h3
    simp only [run] at h
    cases hs : step st c.toNat with
    | none => rw [hs] at h; simp at h
    | some x =>
      rw [hs] at h
      obtain ⟨a, b, d⟩ := step_bounds hs h3
      obtain ⟨a', b', d'⟩ := ih x st' h a d
      exact ⟨a', by simp only [List.length_cons]; omega, d'⟩

theorem no_point (l : List UInt8) : ∀ (st st' : St), run l st = some st' → (∀ c ∈ l, c.toNat ≠ 46) → st'.2.2 = st.2.2 := by
  induction l with
  | nil =>
    intro st st' h _
    rw [Option.some.inj h]
  | cons c r ih =>
    intro st st' h hn
    simp only [run] at h
    cases hs : step st c.toNat with
    | none => rw [hs] at h; simp at h
    | some x =>
      rw [hs] at h
      obtain ⟨_, _, _, _, rfl⟩ := step_digit hs (hn c List.mem_cons_self)
      exact ih (st.1 * 10 + (c.toNat - 48), st.2.1 + 1, st.2.2) st' h (fun d hd => hn d (List.mem_cons_of_mem _ hd))
end Go.Proofs.YtmfdbcfpcifmcaaGreatDoor.Ip
