import Derived.Test.Qxb6617065aPlain
namespace Go.Proofs.Qxb6617065a
theorem utf8_byte (r : Int) (h0 : 0 ≤ r) (h1 : r ≤ 1114111) : ∀ c ∈ utf8 r, 0 ≤ c ∧ c ≤ 255 := by
  unfold utf8
  intro c hc
  repeat' split at hc
  all_goals simp at hc
  · omega
  · rcases hc with rfl | rfl <;> omega
  · rcases hc with rfl | rfl | rfl <;> omega
  · rcases hc with rfl | rfl | rfl | rfl <;> omega
theorem unM_byte : ∀ us : List (Bool × Int), (∀ u ∈ us, 0 ≤ u.2 ∧ u.2 < 65536 ∧ (u.1 = false → u.2 ≤ 255)) → ∀ c ∈ unM us, 0 ≤ c ∧ c ≤ 255 := by
  intro us
  induction us using by_length with
  | h us ih =>
    intro hb
    cases us with
    | nil => simp [unM]
    | cons u us =>
      obtain ⟨b, v⟩ := u
      have hv := hb (b, v) (by simp)
      have hus : ∀ u ∈ us, 0 ≤ u.2 ∧ u.2 < 65536 ∧ (u.1 = false → u.2 ≤ 255) := fun u hu => hb u (by simp [hu])
      cases b with
      | false =>
        rw [unM_plain]
        intro c hc
        rcases List.mem_cons.1 hc with rfl | hc
        · exact ⟨hv.1, hv.2.2 rfl⟩
        · exact ih us (by simp) hus c hc
      | true =>
        cases hp : paired v us with
        | false =>
          rw [unM_lone v us hp]
          intro c hc
          rcases List.mem_append.1 hc with hc | hc
          · refine utf8_byte (fix v) ?_ ?_ c hc
            · unfold fix; split <;> simp_all
            · have := fix_lt v hv.2.1; omega
          · exact ih us (by simp) hus c hc
        | true =>
          cases us with
          | nil => simp [paired] at hp
          | cons u2 us =>
            obtain ⟨b2, v2⟩ := u2
            have hb : b2 = true := by cases b2 <;> simp [paired] at hp ⊢
            subst hb
            simp [paired] at hp
            rw [unM_pair v v2 us ⟨hp.1, hp.2.1⟩ ⟨hp.2.2.1, hp.2.2.2⟩]
            intro c hc
            rcases List.mem_append.1 hc with hc | hc
            · refine utf8_byte _ ?_ ?_ c hc <;> (unfold pairV; omega)
            · exact ih us (by simp; omega) (fun u hu => hus u (by simp [hu])) c hc
theorem Valid.unitB {t : List Int} (h : Valid t) (hb : ∀ c ∈ t, 0 ≤ c ∧ c ≤ 255) : 0 ≤ (unit t).2 ∧ (unit t).2 < 65536 ∧ ((unit t).1 = false → (unit t).2 ≤ 255) := by
  rcases h with ⟨c, rfl, hc⟩ | ⟨e, rfl, he⟩ | ⟨a, b, c, d, rfl, h1, h2, h3, h4⟩
  · have := hb c (by simp)
    simp [unit]
    omega
  · have := hb e (by simp)
    simp only [unit, simpE]
    repeat' split
    all_goals omega
  · have := hex4V_lt a b c d
    refine ⟨?_, this, fun h => by cases h⟩
    simp only [unit, hex4V]
    omega
theorem unT_byte (ts : List (List Int)) (hv : ∀ t ∈ ts, Valid t) (hb : ∀ c ∈ ts.flatten, 0 ≤ c ∧ c ≤ 255) : ∀ c ∈ unT ts, 0 ≤ c ∧ c ≤ 255 := by
  refine unM_byte _ (fun u hu => ?_)
  obtain ⟨t, ht, rfl⟩ := List.mem_map.1 hu
  exact (hv t ht).unitB (fun c hc => hb c (List.mem_flatten.2 ⟨t, ht, hc⟩))
end Go.Proofs.Qxb6617065a
