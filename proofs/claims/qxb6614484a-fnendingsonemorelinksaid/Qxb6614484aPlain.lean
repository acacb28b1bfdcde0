/-
  Plain laws: a closure by a stack, least closed sets, one link more. No Go in sight.
-/
import GoSem.Claim
namespace Go.Proofs.Qxb6614484a

/-- How many of the first n are not in the set. -/
def cntF (b : Nat → Bool) : Nat → Nat
  | 0 => 0
  | n + 1 => cntF b n + (if b n = true then 0 else 1)

/-- The set with i put in. -/
def setB (b : Nat → Bool) (i : Nat) : Nat → Bool := fun j => if j = i then true else b j

theorem setB_same (b : Nat → Bool) (i : Nat) : setB b i i = true := by simp [setB]
theorem setB_of (b : Nat → Bool) (i j : Nat) (h : b j = true) : setB b i j = true := by unfold setB; split <;> simp [h]
theorem setB_cases {b : Nat → Bool} {i j : Nat} (h : setB b i j = true) : j = i ∨ b j = true := by
  unfold setB at h
  split at h
  · exact .inl ‹_›
  · exact .inr h

theorem cntF_none (n : Nat) : cntF (fun _ => false) n = n := by
  induction n with
  | zero => rfl
  | succ n ih => simp [cntF, ih]

theorem cntF_far (b : Nat → Bool) (i : Nat) : ∀ n, n ≤ i → cntF (setB b i) n = cntF b n
  | 0, _ => rfl
  | n + 1, h => by
    have := cntF_far b i n (by omega)
    simp only [cntF, this]
    have e : setB b i n = b n := by unfold setB; rw [if_neg (by omega)]
    rw [e]

theorem cntF_set (b : Nat → Bool) (i : Nat) (hb : b i = false) : ∀ n, i < n → cntF (setB b i) n + 1 = cntF b n
  | 0, h => by omega
  | n + 1, h => by
    rcases Nat.lt_or_ge i n with h1 | h1
    · have := cntF_set b i hb n h1
      simp only [cntF]
      have e : setB b i n = b n := by unfold setB; rw [if_neg (by omega)]
      rw [e]
      omega
    · obtain rfl : i = n := by omega
      simp only [cntF, cntF_far b i i (Nat.le_refl _), setB_same, hb]
      simp

/-- b is the least set that holds f and is closed under the links. -/
structure Clo (n f : Nat) (L : Nat → Nat) (E : Nat → Nat → Nat) (b : Nat → Bool) : Prop where
  start : b f = true
  closed : ∀ q, q < n → b q = true → ∀ j, j < L q → b (E q j) = true
  least : ∀ S : Nat → Prop, S f → (∀ q, q < n → S q → ∀ j, j < L q → S (E q j)) → ∀ q, q < n → b q = true → S q

/-- The outer loop's state: T is the stack. -/
structure CInv (n f : Nat) (L : Nat → Nat) (E : Nat → Nat → Nat) (b : Nat → Bool) (T : List Nat) : Prop where
  start : b f = true
  mem : ∀ q ∈ T, q < n ∧ b q = true
  cl : ∀ q, q < n → b q = true → q ∈ T ∨ ∀ j, j < L q → b (E q j) = true
  least : ∀ S : Nat → Prop, S f → (∀ q, q < n → S q → ∀ j, j < L q → S (E q j)) → ∀ q, q < n → b q = true → S q

/-- The inner loop's state: q is looked at, its first j links are done. -/
structure CIn (n f : Nat) (L : Nat → Nat) (E : Nat → Nat → Nat) (b : Nat → Bool) (T : List Nat) (q j : Nat) : Prop where
  start : b f = true
  mem : ∀ p ∈ T, p < n ∧ b p = true
  here : q < n ∧ b q = true
  done : ∀ i, i < j → b (E q i) = true
  cl : ∀ p, p < n → b p = true → p ∈ T ∨ p = q ∨ ∀ i, i < L p → b (E p i) = true
  least : ∀ S : Nat → Prop, S f → (∀ q, q < n → S q → ∀ j, j < L q → S (E q j)) → ∀ q, q < n → b q = true → S q

section
variable {n f : Nat} {L : Nat → Nat} {E : Nat → Nat → Nat} {b : Nat → Bool} {T : List Nat} {q j : Nat}

theorem CInv.init (hf : f < n) : CInv n f L E (setB (fun _ => false) f) [f] := by
  refine ⟨setB_same _ _, fun q hq => ?_, fun q _ hb => ?_, fun S h1 _ q _ hb => ?_⟩
  · simp at hq; subst hq; exact ⟨hf, setB_same _ _⟩
  · rcases setB_cases hb with h | h
    · left; simp [h]
    · cases h
  · rcases setB_cases hb with h | h
    · rw [h]; exact h1
    · cases h

theorem CInv.finish (h : CInv n f L E b []) : Clo n f L E b :=
  ⟨h.start, fun q hq hb => by
    rcases h.cl q hq hb with h' | h'
    · cases h'
    · exact h', h.least⟩

theorem CInv.pop (h : CInv n f L E b (T ++ [q])) : CIn n f L E b T q 0 := by
  refine ⟨h.start, fun p hp => h.mem p (by simp [hp]), h.mem q (by simp), fun i hi => by omega, fun p hp hb => ?_, h.least⟩
  rcases h.cl p hp hb with h' | h'
  · simp at h'
    rcases h' with h' | h'
    · exact .inl h'
    · exact .inr (.inl h')
  · exact .inr (.inr h')

theorem CIn.old (h : CIn n f L E b T q j) (hb : b (E q j) = true) : CIn n f L E b T q (j + 1) := by
  refine ⟨h.start, h.mem, h.here, fun i hi => ?_, h.cl, h.least⟩
  rcases Nat.lt_or_ge i j with h' | h'
  · exact h.done i h'
  · obtain rfl : i = j := by omega
    exact hb

theorem CIn.new (h : CIn n f L E b T q j) (hj : j < L q) (hE : E q j < n) : CIn n f L E (setB b (E q j)) (T ++ [E q j]) q (j + 1) := by
  refine ⟨setB_of _ _ _ h.start, fun p hp => ?_, ⟨h.here.1, setB_of _ _ _ h.here.2⟩, fun i hi => ?_, fun p hp hb => ?_, fun S h1 h2 p hp hb => ?_⟩
  · simp at hp
    rcases hp with hp | rfl
    · exact ⟨(h.mem p hp).1, setB_of _ _ _ (h.mem p hp).2⟩
    · exact ⟨hE, setB_same _ _⟩
  · rcases Nat.lt_or_ge i j with h' | h'
    · exact setB_of _ _ _ (h.done i h')
    · obtain rfl : i = j := by omega
      exact setB_same _ _
  · rcases setB_cases hb with h' | h'
    · left; simp [h']
    · rcases h.cl p hp h' with h3 | h3 | h3
      · left; simp [h3]
      · exact .inr (.inl h3)
      · exact .inr (.inr fun i hi => setB_of _ _ _ (h3 i hi))
  · rcases setB_cases hb with h' | h'
    · rw [h']; exact h2 q h.here.1 (h.least S h1 h2 q h.here.1 h.here.2) j hj
    · exact h.least S h1 h2 p hp h'

theorem CIn.finish (h : CIn n f L E b T q (L q)) : CInv n f L E b T := by
  refine ⟨h.start, h.mem, fun p hp hb => ?_, h.least⟩
  rcases h.cl p hp hb with h' | rfl | h'
  · exact .inl h'
  · exact .inr h.done
  · exact .inr h'
end

/-- b is the least set that holds f and with a state every state that links to it. -/
structure EndS (n f : Nat) (L : Nat → Nat) (E : Nat → Nat → Nat) (b : Nat → Bool) : Prop where
  start : b f = true
  closed : ∀ r, r < n → ∀ j, j < L r → b (E r j) = true → b r = true
  least : ∀ S : Nat → Prop, S f → (∀ r, r < n → ∀ j, j < L r → S (E r j) → S r) → ∀ q, q < n → b q = true → S q

/-- The links turned round. -/
def Turned (n : Nat) (L : Nat → Nat) (E : Nat → Nat → Nat) (L' : Nat → Nat) (E' : Nat → Nat → Nat) : Prop :=
  ∀ s, s < n → ∀ r, (∃ j, j < L' s ∧ E' s j = r) ↔ (r < n ∧ ∃ j, j < L r ∧ E r j = s)

theorem EndS.of {n f : Nat} {L L' : Nat → Nat} {E E' : Nat → Nat → Nat} {b : Nat → Bool} (hE : ∀ r, r < n → ∀ j, j < L r → E r j < n) (ht : Turned n L E L' E') (h : Clo n f L' E' b) : EndS n f L E b := by
  refine ⟨h.start, fun r hr j hj hb => ?_, fun S h1 h2 q hq hb => ?_⟩
  · obtain ⟨i, hi, e⟩ := (ht (E r j) (hE r hr j hj) r).2 ⟨hr, j, hj, rfl⟩
    rw [← e]
    exact h.closed _ (hE r hr j hj) hb i hi
  · refine h.least S h1 (fun s hs hS i hi => ?_) q hq hb
    obtain ⟨hr, j, hj, e⟩ := (ht s hs (E' s i)).1 ⟨i, hi, rfl⟩
    exact h2 _ hr j hj (by rw [e]; exact hS)

/-! ### One link more -/

def L2 (L : Nat → Nat) (q0 : Nat) : Nat → Nat := fun r => if r = q0 then L q0 + 1 else L r
def E2 (L : Nat → Nat) (E : Nat → Nat → Nat) (q0 p0 : Nat) : Nat → Nat → Nat := fun r j => if r = q0 ∧ j = L q0 then p0 else E r j

section
variable {n f q0 p0 : Nat} {L : Nat → Nat} {E : Nat → Nat → Nat} {b a : Nat → Bool}

theorem more_sub (hb : EndS n f L E b) (ha : EndS n f (L2 L q0) (E2 L E q0 p0) a) : ∀ q, q < n → b q = true → a q = true := by
  intro q hq h
  refine hb.least (fun q => a q = true) ha.start (fun r hr j hj h' => ?_) q hq h
  refine ha.closed r hr j (by unfold L2; split <;> first | (subst r; omega) | exact hj) ?_
  have e : E2 L E q0 p0 r j = E r j := by unfold E2; rw [if_neg (by rintro ⟨rfl, rfl⟩; omega)]
  rw [e]; exact h'

theorem more_none (hb : EndS n f L E b) (ha : EndS n f (L2 L q0) (E2 L E q0 p0) a) (hp : b p0 = false) : ∀ q, q < n → a q = true → b q = true := by
  intro q hq h
  refine ha.least (fun q => b q = true) hb.start (fun r hr j hj h' => ?_) q hq h
  unfold E2 at h'
  split at h'
  · rw [hp] at h'; cases h'
  · rename_i hne
    refine hb.closed r hr j ?_ h'
    unfold L2 at hj
    split at hj
    · rename_i e; subst e; have : j ≠ L r := fun e => hne ⟨rfl, e⟩; omega
    · exact hj

theorem more_same (hb : EndS n f L E b) (ha : EndS n f (L2 L q0) (E2 L E q0 p0) a) (hp : b p0 = false) : ∀ q, q < n → a q = b q := by
  intro q hq
  cases h1 : b q with
  | true => exact more_sub hb ha q hq h1
  | false =>
    cases h2 : a q with
    | false => rfl
    | true => rw [more_none hb ha hp q hq h2] at h1; cases h1

theorem more_p0 (hb : EndS n f L E b) (ha : EndS n f (L2 L q0) (E2 L E q0 p0) a) (h2 : p0 < n) : a p0 = b p0 := by
  cases hp : b p0 with
  | true => exact more_sub hb ha p0 h2 hp
  | false => rw [more_same hb ha hp p0 h2, hp]

theorem more_q0 (hb : EndS n f L E b) (ha : EndS n f (L2 L q0) (E2 L E q0 p0) a) (h1 : q0 < n) (h2 : p0 < n) : a q0 = (b q0 || b p0) := by
  cases hp : b p0 with
  | true =>
    rw [Bool.or_true]
    refine ha.closed q0 h1 (L q0) (by simp [L2]) ?_
    have e : E2 L E q0 p0 q0 (L q0) = p0 := by simp [E2]
    rw [e, more_p0 hb ha h2, hp]
  | false => rw [Bool.or_false]; exact more_same hb ha hp q0 h1
end

end Go.Proofs.Qxb6614484a
