namespace Go.Proofs.Qxb6603392aDoor

def segs : List UInt8 → List (List UInt8)
  | [] => [[]]
  | c :: l => if c = 58 then [] :: segs l else match segs l with | [] => [[c]] | h :: t => (c :: h) :: t
theorem segs_ne (l : List UInt8) : ∃ h t, segs l = h :: t := by
  cases l with
  | nil => exact ⟨_, _, rfl⟩
  | cons c l =>
    unfold segs
    by_cases h : c = 58
    · rw [if_pos h]; exact ⟨_, _, rfl⟩
    · rw [if_neg h]
      cases segs l with
      | nil => exact ⟨_, _, rfl⟩
      | cons h t => exact ⟨_, _, rfl⟩
theorem segs_miss : ∀ {l : List UInt8}, 58 ∉ l → segs l = [l]
  | [], _ => rfl
  | c :: l, h => by
    have h1 : ¬ c = 58 := fun e => h (by rw [e]; exact List.mem_cons_self ..)
    have h2 := segs_miss (l := l) (fun e => h (List.mem_cons_of_mem _ e))
    unfold segs
    rw [if_neg h1, h2]
theorem segs_hit : ∀ {a b : List UInt8}, 58 ∉ a → segs (a ++ 58 :: b) = a :: segs b
  | [], b, _ => by simp [segs]
  | c :: a, b, h => by
    have h1 : ¬ c = 58 := fun e => h (by rw [e]; exact List.mem_cons_self ..)
    have h2 := segs_hit (a := a) (b := b) (fun e => h (List.mem_cons_of_mem _ e))
    rw [List.cons_append]
    conv => lhs; unfold segs
    rw [if_neg h1, h2]

/-- Behind a text's head: is it well formed from here? b: a segment begins here. -/
def wfF : Bool → List UInt8 → Bool
  | b, [] => !b
  | b, c :: l => if c = 58 then (if b then false else wfF true l) else wfF false l
def full (g : List (List UInt8)) : Bool := g.all fun s => !s.isEmpty
def wf (l : List UInt8) : Bool := full (segs l)
theorem wfF_segs : ∀ (l : List UInt8), wfF true l = full (segs l) ∧ wfF false l = full (segs l).tail
  | [] => by simp [wfF, segs, full]
  | c :: l => by
    obtain ⟨h1, h2⟩ := wfF_segs l
    obtain ⟨h, t, e⟩ := segs_ne l
    by_cases hc : c = 58
    · simp [wfF, segs, hc, full, h1]
    · simp only [wfF, if_neg hc, segs, e, h2]
      simp [full]
theorem wfF_true (l : List UInt8) : wfF true l = wf l := (wfF_segs l).1

def cov : List (List UInt8) → List (List UInt8) → Bool
  | [], r => r.isEmpty
  | _ :: _, [] => false
  | a :: g, x :: r => if a = [42] ∧ g = [] then true else if a ≠ [42] ∧ a ≠ x then false else cov g r
theorem cov_self : ∀ g, cov g g = true
  | [] => rfl
  | a :: g => by simp [cov, cov_self g]
theorem cov_top (l : List UInt8) : cov [[42]] (segs l) = true := by
  obtain ⟨h, t, e⟩ := segs_ne l
  rw [e]
  simp [cov]
theorem segs_top : segs [42] = [[42]] := rfl

/-- The head-stripping model, on lists of segments. -/
def sl : List (List UInt8) → List (List UInt8) → Bool
  | [], _ => false
  | [a], r => a == [42] || [a] == r
  | _ :: _ :: _, [] => false
  | _ :: _ :: _, [_] => false
  | a :: b :: g, x :: y :: r => if a ≠ [42] ∧ a ≠ x then false else sl (b :: g) (y :: r)
theorem cov_sl : ∀ (g r : List (List UInt8)), g ≠ [] → r ≠ [] → full r = true → cov g r = (full g && sl g r)
  | [], _, h, _, _ => absurd rfl h
  | _ :: _, [], _, h, _ => absurd rfl h
  | [a], x :: r, _, _, hr => by
    simp only [full, List.all_cons, Bool.and_eq_true] at hr
    by_cases h1 : a = [42]
    · simp [cov, sl, h1, full]
    · by_cases h2 : a = x
      · subst h2
        simp [cov, sl, h1, full]
        cases a <;> simp_all
      · simp [cov, sl, h1, h2]
  | a :: b :: g, [x], _, _, hr => by
    by_cases h1 : a = [42]
    · simp [cov, sl, h1]
    · by_cases h2 : a = x <;> simp [cov, sl, h1, h2]
  | a :: b :: g, x :: y :: r, _, _, hr => by
    have hr' : full (y :: r) = true := by simp [full] at hr ⊢; exact hr.2
    have ih := cov_sl (b :: g) (y :: r) (by simp) (by simp) hr'
    by_cases h1 : a = [42]
    · subst h1
      have e : full ([42] :: b :: g) = full (b :: g) := by simp [full]
      rw [e]
      simpa [cov, sl] using ih
    · by_cases h2 : a = x
      · subst h2
        have e : full (a :: b :: g) = full (b :: g) := by
          simp only [full, List.all_cons, Bool.and_eq_true] at hr ⊢
          rw [hr.1]; rfl
        rw [e]
        simpa [cov, sl, h1] using ih
      · simp [cov, sl, h1, h2]

/-- Where the first colon stands; the length where there is none. -/
def fc (l : List UInt8) : Nat := (l.takeWhile fun c => c != 58).length
theorem fc_le : ∀ (l : List UInt8), fc l ≤ l.length
  | [] => Nat.le_refl _
  | c :: l => by
    have := fc_le l
    by_cases hc : c = 58
    · subst hc; simp [fc]
    · have e : fc (c :: l) = fc l + 1 := by simp [fc, hc]
      rw [e]; simpa using this
theorem fc_split : ∀ (l : List UInt8), fc l < l.length → l = l.take (fc l) ++ 58 :: l.drop (fc l + 1) ∧ 58 ∉ l.take (fc l)
  | [], h => absurd h (Nat.not_lt_zero _)
  | c :: l, h => by
    by_cases hc : c = 58
    · subst hc
      simp [fc]
    · have e : fc (c :: l) = fc l + 1 := by simp [fc, hc]
      rw [e] at h ⊢
      simp only [List.length_cons] at h
      obtain ⟨h1, h2⟩ := fc_split l (by omega)
      refine ⟨?_, ?_⟩
      · rw [List.take_succ_cons, List.drop_succ_cons, List.cons_append, ← h1]
      · rw [List.take_succ_cons]
        intro hm
        rcases List.mem_cons.1 hm with h3 | h3
        · exact hc h3.symm
        · exact h2 h3
theorem fc_miss : ∀ (l : List UInt8), fc l = l.length → 58 ∉ l
  | [], _ => by simp
  | c :: l, h => by
    by_cases hc : c = 58
    · subst hc
      simp [fc] at h
    · have e : fc (c :: l) = fc l + 1 := by simp [fc, hc]
      rw [e] at h
      simp only [List.length_cons] at h
      have := fc_miss l (by omega)
      intro hm
      rcases List.mem_cons.1 hm with h3 | h3
      · exact hc h3.symm
      · exact this h3
theorem segs_fc {l : List UInt8} (h : fc l < l.length) : segs l = l.take (fc l) :: segs (l.drop (fc l + 1)) := by
  obtain ⟨h1, h2⟩ := fc_split l h
  conv => lhs; rw [h1]
  exact segs_hit h2
theorem segs_fc0 {l : List UInt8} (h : fc l = l.length) : segs l = [l] := segs_miss (fc_miss l h)
/-- How fc is found by a walk: from i on. -/
theorem fc_at {l : List UInt8} {i : Nat} (h : i < l.length) (hne : ∀ j, j < i → l[j]? ≠ some 58) (he : l[i]? = some 58) : fc l = i := by
  unfold fc
  have h0 : l.takeWhile (fun c => c != 58) = l.take i := by
    have e : l = l.take i ++ l.drop i := (List.take_append_drop i l).symm
    conv => lhs; rw [e]
    rw [List.takeWhile_append_of_pos]
    · have : l.drop i = 58 :: l.drop (i + 1) := by
        rw [List.drop_eq_getElem_cons h]
        congr 1
        rw [List.getElem?_eq_getElem h] at he
        exact Option.some.inj he
      rw [this]
      simp
    · intro a ha
      obtain ⟨j, hj, rfl⟩ := List.getElem_of_mem ha
      simp only [List.length_take] at hj
      have := hne j (by omega)
      rw [List.getElem?_eq_getElem (by omega)] at this
      simp only [List.getElem_take]
      simpa using this
  rw [h0]
  simp
  omega
theorem fc_none {l : List UInt8} (hne : ∀ j, j < l.length → l[j]? ≠ some 58) : fc l = l.length := by
  have h1 := fc_le l
  by_cases h : fc l < l.length
  · obtain ⟨h2, _⟩ := fc_split l h
    exfalso
    apply hne (fc l) h
    generalize fc l = i at h h2
    have h3 : l[i]? = (l.take i ++ 58 :: l.drop (i + 1))[i]? := congrArg (fun x => x[i]?) h2
    rw [h3, List.getElem?_append_right (by simp; omega)]
    have : (l.take i).length = i := by simp; omega
    rw [this]
    simp
  · omega

theorem segs_one : ∀ {l h : List UInt8}, segs l = [h] → l = h
  | [], h, e => by simp [segs] at e; exact e.symm
  | c :: l, h, e => by
    unfold segs at e
    by_cases hc : c = 58
    · rw [if_pos hc] at e
      obtain ⟨a, b, e2⟩ := segs_ne l
      rw [e2] at e
      simp at e
    · rw [if_neg hc] at e
      obtain ⟨a, b, e2⟩ := segs_ne l
      rw [e2] at e
      simp only [List.cons.injEq] at e
      obtain ⟨e3, rfl⟩ := e
      rw [segs_one e2, e3]
def head (g : List (List UInt8)) : List UInt8 := g.headD []
theorem sl_last {g r : List UInt8} (h : fc g = g.length) : sl (segs g) (segs r) = (g == [42] || g == r) := by
  rw [segs_fc0 h]
  simp only [sl]
  congr 1
  rw [Bool.eq_iff_iff, beq_iff_eq, beq_iff_eq]
  constructor
  · intro e; exact (segs_one e.symm).symm
  · intro e; rw [← e, segs_fc0 h]
theorem sl_short {g r : List UInt8} (h : fc g < g.length) (h2 : fc r = r.length) : sl (segs g) (segs r) = false := by
  rw [segs_fc h, segs_fc0 h2]
  obtain ⟨a, b, e⟩ := segs_ne (g.drop (fc g + 1))
  rw [e]
  rfl
theorem sl_step {g r : List UInt8} (h : fc g < g.length) (h2 : fc r < r.length) : sl (segs g) (segs r) = if g.take (fc g) ≠ [42] ∧ g.take (fc g) ≠ r.take (fc r) then false else sl (segs (g.drop (fc g + 1))) (segs (r.drop (fc r + 1))) := by
  rw [segs_fc h, segs_fc h2]
  obtain ⟨a, b, e⟩ := segs_ne (g.drop (fc g + 1))
  obtain ⟨a2, b2, e2⟩ := segs_ne (r.drop (fc r + 1))
  rw [e, e2]
  rfl
/-- Covers, as the program computes it. -/
def covers (g r : List UInt8) : Bool := wf r && cov (segs g) (segs r)
/-- The model. -/
def model (g r : List UInt8) : Bool := wf g && wf r && sl (segs g) (segs r)
theorem covers_model (g r : List UInt8) : covers g r = model g r := by
  unfold covers model
  cases h : wf r
  · simp
  · have := cov_sl (segs g) (segs r) (by obtain ⟨a, b, e⟩ := segs_ne g; simp [e]) (by obtain ⟨a, b, e⟩ := segs_ne r; simp [e]) h
    rw [this]
    simp [wf]
theorem covers_self (s : List UInt8) : covers s s = wf s := by simp [covers, cov_self]
theorem covers_top (s : List UInt8) : covers [42] s = wf s := by rw [covers, segs_top, cov_top]; simp
end Go.Proofs.Qxb6603392aDoor
