namespace Go.Proofs.YbulkryuDoor.Pl

/-- The bytes of the chunks up to and including the first that ends the stream. -/
def strm : List (List Int × Bool) → List Int
  | [] => []
  | c :: t => c.1 ++ (if c.2 then [] else strm t)

/-- How many requests for a chunk the stream takes. -/
def ncalls : List (List Int × Bool) → Nat
  | [] => 1
  | c :: t => if c.2 then 1 else 1 + ncalls t

/-- All bytes together. -/
def tot : List (List Int × Bool) → Nat
  | [] => 0
  | c :: t => c.1.length + tot t

theorem strm_le (C : List (List Int × Bool)) : (strm C).length ≤ tot C := by
  induction C with
  | nil => simp [strm, tot]
  | cons c t ih => simp only [strm, tot, List.length_append]; split <;> simp <;> omega

theorem ncalls_le (C : List (List Int × Bool)) : ncalls C ≤ C.length + 1 := by
  induction C with
  | nil => simp [ncalls]
  | cons c t ih => simp only [ncalls, List.length_cons]; split <;> omega

theorem drop_at (C : List (List Int × Bool)) (i : Nat) (c : List Int × Bool) (h : C[i]? = some c) : C.drop i = c :: C.drop (i + 1) := by
  obtain ⟨hi, rfl⟩ := List.getElem?_eq_some_iff.1 h
  exact List.drop_eq_getElem_cons hi

theorem strm_at (C : List (List Int × Bool)) (i : Nat) (c : List Int × Bool) (h : C[i]? = some c) : strm (C.drop i) = c.1 ++ (if c.2 then [] else strm (C.drop (i + 1))) := by
  rw [drop_at C i c h]; rfl
theorem ncalls_at (C : List (List Int × Bool)) (i : Nat) (c : List Int × Bool) (h : C[i]? = some c) : ncalls (C.drop i) = if c.2 then 1 else 1 + ncalls (C.drop (i + 1)) := by
  rw [drop_at C i c h]; rfl
theorem tot_at (C : List (List Int × Bool)) (i : Nat) (c : List Int × Bool) (h : C[i]? = some c) : tot (C.drop i) = c.1.length + tot (C.drop (i + 1)) := by
  rw [drop_at C i c h]; rfl
theorem strm_end (C : List (List Int × Bool)) (i : Nat) (h : C.length ≤ i) : strm (C.drop i) = [] := by rw [List.drop_eq_nil_of_le h]; rfl
theorem ncalls_end (C : List (List Int × Bool)) (i : Nat) (h : C.length ≤ i) : ncalls (C.drop i) = 1 := by rw [List.drop_eq_nil_of_le h]; rfl
theorem tot_end (C : List (List Int × Bool)) (i : Nat) (h : C.length ≤ i) : tot (C.drop i) = 0 := by rw [List.drop_eq_nil_of_le h]; rfl

/-- What is still to come when the reader stands at chunk i. -/
def rest (C : List (List Int × Bool)) (eof : Bool) (i : Nat) : List Int := if eof then [] else strm (C.drop i)
def more (C : List (List Int × Bool)) (eof : Bool) (i : Nat) : Nat := if eof then 0 else ncalls (C.drop i)

theorem rest_step (C : List (List Int × Bool)) (i : Nat) (c : List Int × Bool) (h : C[i]? = some c) : c.1 ++ rest C c.2 (i + 1) = rest C false i := by
  simp only [rest]; rw [strm_at C i c h]; simp
theorem more_step (C : List (List Int × Bool)) (i : Nat) (c : List Int × Bool) (h : C[i]? = some c) : 1 + more C c.2 (i + 1) = more C false i := by
  simp only [more]; rw [ncalls_at C i c h]; simp; split <;> simp_all
theorem rest_last (C : List (List Int × Bool)) (i j : Nat) (h : C.length ≤ i) : rest C true j = rest C false i := by
  simp only [rest]; rw [strm_end C i h]; simp
theorem more_last (C : List (List Int × Bool)) (i j : Nat) (h : C.length ≤ i) : 1 + more C true j = more C false i := by
  simp only [more]; rw [ncalls_end C i h]; simp

theorem len_le_tot (C : List (List Int × Bool)) : ∀ (i : Nat) (c : List Int × Bool), C[i]? = some c → c.1.length ≤ tot C := by
  induction C with
  | nil => intro i c h; simp at h
  | cons d t ih =>
    intro i c h
    cases i with
    | zero => simp at h; subst h; simp [tot]
    | succ i => have := ih i c (by simpa using h); simp only [tot]; omega

/-- What holds of the reader's state in Drain, G having been read. -/
def InvD (C : List (List Int × Bool)) (G : List Int) (i c l : Nat) (zs : List Int) (eof : Bool) (rd : Nat) : Prop :=
  G ++ zs ++ rest C eof i = strm C ∧ c + more C eof i = ncalls C ∧ zs.length + rd = l ∧ l ≤ 4096

theorem InvD.start (C : List (List Int × Bool)) : InvD C [] 0 0 0 [] false 0 := ⟨by simp [rest], by simp [more], rfl, by omega⟩
theorem InvD.more {C : List (List Int × Bool)} {G : List Int} (hC : tot C ≤ 4096) : ∀ i c l rd ch, InvD C G i c l [] false rd → C[i]? = some ch → InvD C G (i + 1) (c + 1) ch.1.length ch.1 ch.2 0 := by
  intro i c l rd ch ⟨h1, h2, _, _⟩ hc
  refine ⟨?_, ?_, rfl, ?_⟩
  · rw [← rest_step C i ch hc] at h1; simpa using h1
  · rw [← more_step C i ch hc] at h2; omega
  · have := len_le_tot C i ch hc; omega
theorem InvD.last {C : List (List Int × Bool)} {G : List Int} : ∀ i c l rd, InvD C G i c l [] false rd → C.length ≤ i → InvD C G i (c + 1) 0 [] true 0 := by
  intro i c l rd ⟨h1, h2, _, _⟩ hi
  refine ⟨?_, ?_, rfl, by omega⟩
  · rw [← rest_last C i i hi] at h1; exact h1
  · rw [← more_last C i i hi] at h2; omega
theorem InvD.bound {C : List (List Int × Bool)} {G : List Int} (hn : C.length ≤ 256) : ∀ i c l zs eof rd, InvD C G i c l zs eof rd → c ≤ 300 ∧ zs.length + rd ≤ 9223372036854775807 := by
  intro i c l zs eof rd ⟨_, h2, h3, h4⟩
  have := ncalls_le C
  exact ⟨by omega, by omega⟩
theorem InvD.took {C : List (List Int × Bool)} {G : List Int} {i c l : Nat} {zs : List Int} {eof : Bool} {rd : Nat} (h : InvD C G i c l zs eof rd) (k : Nat) (hk : k ≤ zs.length) : InvD C (G ++ zs.take k) i c l (zs.drop k) eof (rd + k) := by
  obtain ⟨h1, h2, h3, h4⟩ := h
  refine ⟨?_, h2, ?_, h4⟩
  · rw [← h1]; simp
  · simp; omega
theorem InvD.len {C : List (List Int × Bool)} {G : List Int} {i c l : Nat} {zs : List Int} {eof : Bool} {rd : Nat} (h : InvD C G i c l zs eof rd) : G.length + zs.length ≤ tot C := by
  have h1 := congrArg List.length h.1
  have := strm_le C
  simp only [List.length_append] at h1
  omega
theorem InvD.done {C : List (List Int × Bool)} {G : List Int} {i c l : Nat} {rd : Nat} (h : InvD C G i c l [] true rd) : G = strm C ∧ c = ncalls C := by
  obtain ⟨h1, h2, _, _⟩ := h
  exact ⟨by simpa [rest] using h1, by simpa [Pl.more] using h2⟩

/-- What holds of the reader's state in Zero, G having been read. -/
def InvZ (C : List (List Int × Bool)) (G : List Int) (i c : Nat) (zs : List Int) (eof : Bool) (rd : Nat) : Prop :=
  G ++ zs ++ rest C eof i = strm C ∧ c + more C eof i = ncalls C ∧ zs.length + rd ≤ 4096

theorem InvZ.start (C : List (List Int × Bool)) : InvZ C [] 0 0 [] false 0 := ⟨by simp [rest], by simp [Pl.more], by simp⟩
theorem InvZ.more {C : List (List Int × Bool)} {G : List Int} (hC : (strm C).length ≤ 4096) : ∀ i c rd ch, InvZ C G i c [] false rd → C[i]? = some ch → InvZ C G (i + 1) (c + 1) ch.1 ch.2 0 := by
  intro i c rd ch ⟨h1, h2, _⟩ hc
  rw [← rest_step C i ch hc] at h1
  have hl := congrArg List.length h1
  simp only [List.length_append, List.length_nil] at hl
  refine ⟨?_, ?_, ?_⟩
  · simpa using h1
  · rw [← more_step C i ch hc] at h2; omega
  · omega
theorem InvZ.last {C : List (List Int × Bool)} {G : List Int} : ∀ i c rd, InvZ C G i c [] false rd → C.length ≤ i → InvZ C G i (c + 1) [] true 0 := by
  intro i c rd ⟨h1, h2, _⟩ hi
  refine ⟨?_, ?_, by simp⟩
  · rw [← rest_last C i i hi] at h1; exact h1
  · rw [← more_last C i i hi] at h2; omega
theorem InvZ.bound {C : List (List Int × Bool)} {G : List Int} (hn : C.length ≤ 256) : ∀ i c zs eof rd, InvZ C G i c zs eof rd → c ≤ 300 ∧ zs.length + rd ≤ 9223372036854775807 := by
  intro i c zs eof rd ⟨_, h2, h3⟩
  have := ncalls_le C
  exact ⟨by omega, by omega⟩
theorem InvZ.took {C : List (List Int × Bool)} {G : List Int} {i c : Nat} {zs : List Int} {eof : Bool} {rd : Nat} (h : InvZ C G i c zs eof rd) (k : Nat) (hk : k ≤ zs.length) : InvZ C (G ++ zs.take k) i c (zs.drop k) eof (rd + k) := by
  obtain ⟨h1, h2, h3⟩ := h
  refine ⟨?_, h2, ?_⟩
  · rw [← h1]; simp
  · simp; omega
theorem InvZ.len {C : List (List Int × Bool)} {G : List Int} {i c : Nat} {zs : List Int} {eof : Bool} {rd : Nat} (h : InvZ C G i c zs eof rd) : G.length + zs.length ≤ (strm C).length := by
  have h1 := congrArg List.length h.1
  simp only [List.length_append] at h1
  omega
end Go.Proofs.YbulkryuDoor.Pl
