/- The plain law: tokens, units, what they stand for. No Go in sight. -/
namespace Go.Proofs.Qxb6617065a

/-- the value of a hexadecimal digit, or -1 -/
def hexV (c : Int) : Int := if 48 ≤ c ∧ c ≤ 57 then c - 48 else if 97 ≤ c ∧ c ≤ 102 then c - 87 else if 65 ≤ c ∧ c ≤ 70 then c - 55 else -1
theorem hexV_le (c : Int) : hexV c ≤ 15 ∧ -1 ≤ hexV c := by unfold hexV; repeat' split <;> omega
/-- what a simple escape stands for -/
def simpE (e : Int) : Int := if e = 98 then 8 else if e = 102 then 12 else if e = 110 then 10 else if e = 114 then 13 else if e = 116 then 9 else e
/-- is e the second byte of a simple escape? -/
def isSimp (e : Int) : Prop := e = 34 ∨ e = 92 ∨ e = 47 ∨ e = 98 ∨ e = 102 ∨ e = 110 ∨ e = 114 ∨ e = 116
/-- one token of a well-formed text -/
def Valid (t : List Int) : Prop :=
  (∃ c, t = [c] ∧ c ≠ 92) ∨ (∃ e, t = [92, e] ∧ isSimp e) ∨ ∃ a b c d, t = [92, 117, a, b, c, d] ∧ 0 ≤ hexV a ∧ 0 ≤ hexV b ∧ 0 ≤ hexV c ∧ 0 ≤ hexV d
/-- the value of four hexadecimal digits -/
def hex4V (a b c d : Int) : Int := hexV a * 4096 + hexV b * 256 + hexV c * 16 + hexV d
/-- a token's unit: is it a UTF-16 code unit? its value -/
def unit : List Int → Bool × Int
  | [c] => (false, c)
  | [_, e] => (false, simpE e)
  | [_, _, a, b, c, d] => (true, hex4V a b c d)
  | _ => (false, 0)
/-- UTF-8 -/
def utf8 (r : Int) : List Int :=
  if r < 128 then [r] else if r < 2048 then [192 + r / 64, 128 + r % 64] else if r < 65536 then [224 + r / 4096, 128 + r / 64 % 64, 128 + r % 64]
  else [240 + r / 262144, 128 + r / 4096 % 64, 128 + r / 64 % 64, 128 + r % 64]
def isHi (v : Int) : Prop := 55296 ≤ v ∧ v < 56320
def isLo (v : Int) : Prop := 56320 ≤ v ∧ v < 57344
/-- a surrogate that stands alone is U+FFFD -/
def fix (v : Int) : Int := if 55296 ≤ v ∧ v < 57344 then 65533 else v
/-- the character of a pair -/
def pairV (v v2 : Int) : Int := 65536 + (v - 55296) * 1024 + (v2 - 56320)
/-- do a unit and what follows make a pair? -/
def paired (v : Int) (us : List (Bool × Int)) : Bool :=
  match us with
  | (true, v2) :: _ => decide (55296 ≤ v ∧ v < 56320 ∧ 56320 ≤ v2 ∧ v2 < 57344)
  | _ => false
/-- what a list of units stands for -/
def unM : List (Bool × Int) → List Int
  | [] => []
  | (false, v) :: us => v :: unM us
  | [(true, v)] => utf8 (fix v)
  | (true, v) :: (b, v2) :: us => if paired v ((b, v2) :: us) = true then utf8 (pairV v v2) ++ unM us else utf8 (fix v) ++ unM ((b, v2) :: us)

theorem unM_plain (v : Int) (us : List (Bool × Int)) : unM ((false, v) :: us) = v :: unM us := by rw [unM]
theorem unM_pair (v v2 : Int) (us : List (Bool × Int)) (h : isHi v) (h2 : isLo v2) : unM ((true, v) :: (true, v2) :: us) = utf8 (pairV v v2) ++ unM us := by
  rw [unM, if_pos]
  unfold isHi at h
  unfold isLo at h2
  simp [paired]
  omega
theorem unM_lone (v : Int) (us : List (Bool × Int)) (h : paired v us = false) : unM ((true, v) :: us) = utf8 (fix v) ++ unM us := by
  cases us with
  | nil => simp [unM]
  | cons u us =>
    obtain ⟨b, v2⟩ := u
    rw [unM, if_neg (by rw [h]; simp)]

/-- strong induction on a list's length -/
theorem by_length {α : Type} {p : List α → Prop} (h : ∀ l, (∀ m : List α, m.length < l.length → p m) → p l) (l : List α) : p l := by
  have key : ∀ n (l : List α), l.length ≤ n → p l := by
    intro n
    induction n with
    | zero => exact fun l hl => h l (fun m hm => by omega)
    | succ n ih => exact fun l hl => h l (fun m hm => ih m (by omega))
  exact key l.length l (Nat.le_refl _)

/-- a plain byte parts a list of units -/
theorem unM_insert (c : Int) (us2 : List (Bool × Int)) : ∀ us1, unM (us1 ++ (false, c) :: us2) = unM us1 ++ c :: unM us2 := by
  intro us1
  induction us1 using by_length with
  | h us1 ih =>
    cases us1 with
    | nil => simp [unM]
    | cons u us =>
      obtain ⟨b, v⟩ := u
      cases b with
      | false =>
        rw [List.cons_append, unM_plain, unM_plain, ih us (by simp)]
        rfl
      | true =>
        cases us with
        | nil =>
          show unM ((true, v) :: (false, c) :: us2) = _
          rw [unM_lone v _ rfl, unM_plain, unM_lone v [] rfl]
          simp [unM]
        | cons u2 us =>
          obtain ⟨b2, v2⟩ := u2
          cases hp : paired v ((b2, v2) :: us) with
          | true =>
            have hb : b2 = true := by cases b2 <;> simp [paired] at hp ⊢
            subst hb
            simp [paired] at hp
            have h1 : isHi v := ⟨hp.1, hp.2.1⟩
            have h2 : isLo v2 := ⟨hp.2.2.1, hp.2.2.2⟩
            show unM ((true, v) :: (true, v2) :: (us ++ (false, c) :: us2)) = _
            rw [unM_pair v v2 _ h1 h2, unM_pair v v2 _ h1 h2, ih us (by simp; omega), List.append_assoc]
          | false =>
            have hp' : paired v ((b2, v2) :: us ++ (false, c) :: us2) = false := by
              cases b2 <;> exact hp
            show unM ((true, v) :: ((b2, v2) :: us ++ (false, c) :: us2)) = _
            rw [unM_lone v _ hp', unM_lone v _ hp, ih ((b2, v2) :: us) (by simp), List.append_assoc]

theorem utf8_len (r : Int) : (utf8 r).length ≤ 4 ∧ 1 ≤ (utf8 r).length ∧ (r < 65536 → (utf8 r).length ≤ 3) := by
  unfold utf8
  repeat' split
  all_goals simp
  omega
theorem fix_lt (v : Int) (h : v < 65536) : fix v < 65536 := by unfold fix; split <;> omega

/-- a unit's greatest length -/
def wt : Bool × Int → Nat
  | (false, _) => 1
  | (true, _) => 3
def wts (us : List (Bool × Int)) : Nat := (us.map wt).sum
theorem unM_len : ∀ us : List (Bool × Int), (∀ u ∈ us, u.2 < 65536) → (unM us).length ≤ wts us := by
  intro us
  induction us using by_length with
  | h us ih =>
    intro hb
    cases us with
    | nil => simp [unM, wts]
    | cons u us =>
      obtain ⟨b, v⟩ := u
      have hv := hb (b, v) (by simp)
      have hus : ∀ u ∈ us, u.2 < 65536 := fun u hu => hb u (by simp [hu])
      cases b with
      | false =>
        have := ih us (by simp) hus
        rw [unM_plain]
        simp only [wts, List.map_cons, List.sum_cons, List.length_cons, wt] at *
        omega
      | true =>
        cases hp : paired v us with
        | false =>
          have := ih us (by simp) hus
          have h3 := (utf8_len (fix v)).2.2 (fix_lt v hv)
          rw [unM_lone v us hp]
          simp only [wts, List.map_cons, List.sum_cons, List.length_append, wt] at *
          omega
        | true =>
          cases us with
          | nil => simp [paired] at hp
          | cons u2 us =>
            obtain ⟨b2, v2⟩ := u2
            have hb : b2 = true := by cases b2 <;> simp [paired] at hp ⊢
            subst hb
            simp [paired] at hp
            have := ih us (by simp; omega) (fun u hu => hus u (by simp [hu]))
            have h4 := (utf8_len (pairV v v2)).1
            rw [unM_pair v v2 us ⟨hp.1, hp.2.1⟩ ⟨hp.2.2.1, hp.2.2.2⟩]
            simp only [wts, List.map_cons, List.sum_cons, List.length_append, wt] at *
            omega
/-- units that are all plain stand for themselves -/
theorem unM_all_plain : ∀ us : List (Bool × Int), (∀ u ∈ us, u.1 = false) → (unM us).length = us.length := by
  intro us
  induction us with
  | nil => simp [unM]
  | cons u us ih =>
    intro h
    obtain ⟨b, v⟩ := u
    have hb : b = false := h (b, v) (by simp)
    subst hb
    rw [unM_plain, List.length_cons, List.length_cons, ih (fun u hu => h u (by simp [hu]))]

/-- what a text of these tokens stands for -/
def unT (ts : List (List Int)) : List Int := unM (ts.map unit)

theorem hex4V_lt (a b c d : Int) : hex4V a b c d < 65536 := by
  unfold hex4V
  have := hexV_le a
  have := hexV_le b
  have := hexV_le c
  have := hexV_le d
  omega
theorem Valid.cost {t : List Int} (h : Valid t) (hb : ∀ c ∈ t, c < 256) : (unit t).2 < 65536 ∧ (92 ∈ t → wt (unit t) < t.length) ∧ (92 ∉ t → ∃ c, t = [c]) := by
  rcases h with ⟨c, rfl, hc⟩ | ⟨e, rfl, he⟩ | ⟨a, b, c, d, rfl, -⟩
  · have := hb c (by simp)
    refine ⟨by simp [unit]; omega, fun h => ?_, fun _ => ⟨c, rfl⟩⟩
    simp at h
    omega
  · have := hb e (by simp)
    refine ⟨?_, fun _ => by simp [unit, wt], fun h => by simp at h⟩
    simp only [unit, simpE]
    repeat' split
    all_goals omega
  · exact ⟨by simp only [unit]; exact hex4V_lt a b c d, fun _ => by simp [unit, wt], fun h => by simp at h⟩

/-- the answer is shorter than the text just where the text holds a backslash -/
theorem shortens (ts : List (List Int)) (hv : ∀ t ∈ ts, Valid t) (hb : ∀ c ∈ ts.flatten, c < 256) : (unT ts).length < ts.flatten.length ↔ 92 ∈ ts.flatten := by
  have hbt : ∀ t ∈ ts, ∀ c ∈ t, c < 256 := fun t ht c hc => hb c (List.mem_flatten.2 ⟨t, ht, hc⟩)
  have hlen : (unT ts).length ≤ wts (ts.map unit) := unM_len _ (fun u hu => by
    obtain ⟨t, ht, rfl⟩ := List.mem_map.1 hu
    exact ((hv t ht).cost (hbt t ht)).1)
  constructor
  · intro h
    apply Classical.byContradiction
    intro hno
    have hall : ∀ t ∈ ts, ∃ c, t = [c] := fun t ht => ((hv t ht).cost (hbt t ht)).2.2 (fun h92 => hno (List.mem_flatten.2 ⟨t, ht, h92⟩))
    have h1 : (unT ts).length = ts.length := by
      unfold unT
      rw [unM_all_plain]
      · simp
      · intro u hu
        obtain ⟨t, ht, rfl⟩ := List.mem_map.1 hu
        obtain ⟨c, rfl⟩ := hall t ht
        rfl
    have h2 : ∀ l : List (List Int), (∀ t ∈ l, ∃ c, t = [c]) → l.flatten.length = l.length := by
      intro l
      induction l with
      | nil => simp
      | cons t l ih =>
        intro hl
        obtain ⟨c, rfl⟩ := hl t (by simp)
        have := ih (fun t ht => hl t (by simp [ht]))
        simp at this ⊢
        omega
    rw [h1, h2 ts hall] at h
    omega
  · intro h
    have key : ∀ l : List (List Int), (∀ t ∈ l, Valid t) → (∀ t ∈ l, ∀ c ∈ t, c < 256) → wts (l.map unit) ≤ l.flatten.length ∧ (92 ∈ l.flatten → wts (l.map unit) < l.flatten.length) := by
      intro l
      induction l with
      | nil => simp [wts]
      | cons t l ih =>
        intro h1 h2
        obtain ⟨i1, i2⟩ := ih (fun t ht => h1 t (by simp [ht])) (fun t ht => h2 t (by simp [ht]))
        obtain ⟨-, c2, c3⟩ := (h1 t (by simp)).cost (h2 t (by simp))
        simp only [wts, List.map_cons, List.sum_cons, List.flatten_cons, List.length_append, List.mem_append] at *
        by_cases h92 : 92 ∈ t
        · have := c2 h92
          exact ⟨by omega, fun _ => by omega⟩
        · obtain ⟨c, rfl⟩ := c3 h92
          have e : wt (unit [c]) = 1 := rfl
          have e2 : ([c] : List Int).length = 1 := rfl
          refine ⟨by omega, fun h => ?_⟩
          have := i2 (h.resolve_left h92)
          omega
    have := (key ts hv hbt).2 h
    omega
end Go.Proofs.Qxb6617065a
