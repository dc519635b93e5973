/- The plain law: a scan with a line start that it keeps, and a two-pass model, give the same bytes. No Go here. -/
namespace Go.Proofs.Qxb6603002aDoor

/-! ### Runs -/
def runP {α : Type} (p : α → Bool) (t : List α) (i : Nat) : Nat := ((t.drop i).takeWhile p).length

theorem runP_pos {α : Type} {p : α → Bool} {t : List α} {i : Nat} (h : i < t.length) (hp : p t[i] = true) : runP p t i = runP p t (i + 1) + 1 := by
  unfold runP
  rw [List.drop_eq_getElem_cons h, List.takeWhile_cons, hp]
  simp
theorem runP_neg {α : Type} {p : α → Bool} {t : List α} {i : Nat} (h : i < t.length) (hp : p t[i] = false) : runP p t i = 0 := by
  unfold runP
  rw [List.drop_eq_getElem_cons h, List.takeWhile_cons, hp]
  simp
theorem runP_end {α : Type} {p : α → Bool} {t : List α} {i : Nat} (h : t.length ≤ i) : runP p t i = 0 := by
  unfold runP
  rw [List.drop_of_length_le h]
  rfl
theorem takeWhile_le {α : Type} (p : α → Bool) (l : List α) : (l.takeWhile p).length ≤ l.length := by
  induction l with
  | nil => simp
  | cons a l ih => rw [List.takeWhile_cons]; split <;> simp <;> omega
theorem runP_le {α : Type} (p : α → Bool) (t : List α) (i : Nat) (h : i ≤ t.length) : i + runP p t i ≤ t.length := by
  unfold runP
  have := takeWhile_le p (t.drop i)
  simp at this
  omega
theorem runP_mem {α : Type} {p : α → Bool} : ∀ (n : Nat) {t : List α} {i : Nat}, runP p t i = n → ∀ k, i ≤ k → k < i + n → ∃ h : k < t.length, p t[k] = true := by
  intro n
  induction n with
  | zero => intro t i _ k h1 h2; omega
  | succ n ih =>
    intro t i hr k h1 h2
    by_cases hi : i < t.length
    · cases hp : p t[i] with
      | false => rw [runP_neg hi hp] at hr; omega
      | true =>
        rw [runP_pos hi hp] at hr
        by_cases hk : k = i
        · subst hk; exact ⟨hi, hp⟩
        · exact ih (by omega : runP p t (i + 1) = n) k (by omega) (by omega)
    · rw [runP_end (by omega)] at hr; omega

/-! ### The one step that both make -/
def isEsc (c : UInt8) : Bool := c == 110 || c == 114 || c == 116
def isBlank (c : UInt8) : Bool := c == 32 || c == 9
def isBack (c : UInt8) : Bool := c == 92
def alpha (c : UInt8) : Bool := decide (65 ≤ c.toNat ∧ c.toNat ≤ 90) || decide (97 ≤ c.toNat ∧ c.toNat ≤ 122) || decide (48 ≤ c.toNat ∧ c.toNat ≤ 57) || c == 43 || c == 47 || c == 61
def brk (r : Nat) (br : Int) : Bool := decide (0 < br ∧ (r : Int) % (2 * br) = br)
def at8 (t : List UInt8) (i : Nat) : UInt8 := t[i]?.getD 0

/-- Where the next step begins; whether the byte is free; where a line is cut. -/
structure Tok where
  nx : Nat
  fr : Bool
  ct : Option Nat

def step (t m : List UInt8) (br : Int) (i : Nat) : Tok :=
  if at8 t i = 92 then
    let j := i + runP isBack t i
    if j < t.length ∧ isEsc (at8 t j) = true then ⟨j + 1, false, if at8 t j = 110 ∧ brk (runP isBack t i) br = true then some (j + 1) else none⟩
    else ⟨j, false, none⟩
  else if at8 t i = 10 then
    let k := i + 1 + runP isBlank t (i + 1)
    ⟨if m.isPrefixOf (t.drop k) = true then k + m.length else i + 1, false, some (i + 1)⟩
  else ⟨i + 1, true, none⟩

theorem step_ok (t m : List UInt8) (br : Int) (i : Nat) (hi : i < t.length) :
    i < (step t m br i).nx ∧ (step t m br i).nx ≤ t.length ∧ (∀ k, (step t m br i).ct = some k → i < k ∧ k ≤ (step t m br i).nx ∧ (step t m br i).fr = false) ∧ ((step t m br i).fr = true → (step t m br i).nx = i + 1 ∧ (step t m br i).ct = none) := by
  unfold step
  by_cases h1 : at8 t i = 92
  · have hr : runP isBack t i = runP isBack t (i + 1) + 1 := runP_pos hi (by
      have : t[i] = 92 := by simpa [at8, List.getElem?_eq_getElem hi] using h1
      simp [isBack, this])
    have hl := runP_le isBack t i (by omega)
    rw [if_pos h1]
    simp only
    by_cases h2 : i + runP isBack t i < t.length ∧ isEsc (at8 t (i + runP isBack t i)) = true
    · rw [if_pos h2]
      refine ⟨by simp; omega, by simp; omega, ?_, by simp⟩
      intro k
      simp only
      split
      · intro e; cases e; exact ⟨by omega, Nat.le_refl _, trivial⟩
      · intro e; cases e
    · rw [if_neg h2]
      exact ⟨by simp; omega, by simp; omega, by simp, by simp⟩
  · rw [if_neg h1]
    by_cases h2 : at8 t i = 10
    · rw [if_pos h2]
      have hl := runP_le isBlank t (i + 1) (by omega)
      simp only
      refine ⟨?_, ?_, ?_, by simp⟩
      · split <;> omega
      · split
        · rename_i hp
          have := (List.isPrefixOf_iff_prefix.1 hp).length_le
          simp at this
          omega
        · omega
      · intro k e; cases e
        refine ⟨by omega, ?_, trivial⟩
        split <;> omega
    · rw [if_neg h2]
      exact ⟨by simp, by simp; omega, by simp, by simp⟩

/-! ### The two passes -/
def pass (t m : List UInt8) (br : Int) : Nat → Nat → List Bool → List Bool → List Bool × List Bool
  | 0, _, F, C => (F, C)
  | f + 1, i, F, C => if i < t.length then
      pass t m br f (step t m br i).nx (if (step t m br i).fr = true then F.set i true else F) (match (step t m br i).ct with | none => C | some k => C.set k true)
    else (F, C)

/-- The end of the line that begins at a. -/
def lend (C : List Bool) (n a : Nat) : Nat := a + 1 + runP (fun b => !b) (C.take n) (a + 1)
def cellAt (F : List Bool) (t : List UInt8) (k : Nat) : Bool × UInt8 := (F[k]?.getD false, at8 t k)
/-- What a line's cells are, from a, k of them. -/
def seg (F : List Bool) (t : List UInt8) (a : Nat) : Nat → List (Bool × UInt8)
  | 0 => []
  | k + 1 => seg F t a k ++ [cellAt F t (a + k)]
def hdr (l : List (Bool × UInt8)) : Bool := l.any fun p => p.1 && p.2 == 58
def kept (l : List (Bool × UInt8)) : List UInt8 := (l.filter fun p => p.1 && alpha p.2).map (·.2)
def second (t : List UInt8) (F C : List Bool) : Nat → Nat → List UInt8 → List UInt8
  | 0, _, o => o
  | f + 1, a, o => if a < t.length then second t F C f (lend C t.length a) (o ++ if hdr (seg F t a (lend C t.length a - a)) = true then [] else kept (seg F t a (lend C t.length a - a))) else o

def zeros (n : Nat) : List Bool := List.replicate n false
def model (t m : List UInt8) (br : Int) : List UInt8 :=
  let R := pass t m br t.length 0 (zeros t.length) (zeros (t.length + 1))
  second t R.1 R.2 t.length 0 []

/-! ### The scan -/
structure St where
  out : List UInt8
  ls : Nat
  hd : Bool
def cutS (s : St) : St := ⟨s.out, s.out.length, false⟩
def freeS (s : St) (c : UInt8) : St := if c = 58 then ⟨s.out.take s.ls, s.ls, true⟩ else if (!s.hd && alpha c) = true then ⟨s.out ++ [c], s.ls, s.hd⟩ else s
def tokS (t : List UInt8) (i : Nat) (k : Tok) (s : St) : St := match k.ct with | some _ => cutS s | none => if k.fr = true then freeS s (at8 t i) else s
def scan (t m : List UInt8) (br : Int) : Nat → Nat → St → List UInt8
  | 0, _, s => s.out
  | f + 1, i, s => if i < t.length then scan t m br f (step t m br i).nx (tokS t i (step t m br i) s) else s.out

/-! ### Both are one fold over the places -/
def at1 (C : List Bool) (k : Nat) : Bool := C[k]?.getD false
def cutIf (b : Bool) (s : St) : St := if b = true then cutS s else s
def place (t : List UInt8) (F C : List Bool) (k : Nat) (s : St) : St := if at1 F k = true then freeS (cutIf (at1 C k) s) (at8 t k) else cutIf (at1 C k) s
def fo (t : List UInt8) (F C : List Bool) : Nat → St
  | 0 => ⟨[], 0, false⟩
  | k + 1 => place t F C k (fo t F C k)

theorem fo_congr (t : List UInt8) {F F' C C' : List Bool} : ∀ (k : Nat), (∀ j, j < k → at1 F j = at1 F' j) → (∀ j, j < k → at1 C j = at1 C' j) → fo t F C k = fo t F' C' k := by
  intro k
  induction k with
  | zero => intros; rfl
  | succ k ih =>
    intro h1 h2
    simp only [fo, place]
    rw [ih (fun j h => h1 j (by omega)) (fun j h => h2 j (by omega)), h1 k (by omega), h2 k (by omega)]

theorem at1_set_self (F : List Bool) (i : Nat) (h : i < F.length) : at1 (F.set i true) i = true := by simp [at1, h]
theorem at1_set_ne (F : List Bool) (i k : Nat) (h : k ≠ i) : at1 (F.set i true) k = at1 F k := by simp [at1, Ne.symm h]

theorem cutS_cutS (s : St) : cutS (cutS s) = cutS s := rfl

/-- Places without a free byte, one cut among them. -/
theorem fo_skip (t : List UInt8) (F C : List Bool) (i : Nat) (s : St) (c : Option Nat) (hs : fo t F C (i + 1) = s) (hC : ∀ k, i < k → at1 C k = decide (c = some k)) (hF : ∀ k, i < k → at1 F k = false) (hc : ∀ k, c = some k → i < k) :
    ∀ d, cutIf (at1 C (i + 1 + d)) (fo t F C (i + 1 + d)) = (match c with | none => s | some k => if k ≤ i + 1 + d then cutS s else s) := by
  intro d
  induction d with
  | zero =>
    rw [Nat.add_zero, hs, hC _ (by omega)]
    cases c with
    | none => simp [cutIf]
    | some k =>
      have := hc k rfl
      by_cases hk : k = i + 1
      · subst hk; simp [cutIf]
      · simp [cutIf, hk]; intro; omega
  | succ d ih =>
    have e : fo t F C (i + 1 + (d + 1)) = cutIf (at1 C (i + 1 + d)) (fo t F C (i + 1 + d)) := by
      show place t F C (i + 1 + d) (fo t F C (i + 1 + d)) = _
      unfold place
      rw [hF _ (by omega)]
      rfl
    rw [e, ih, hC _ (by omega)]
    cases c with
    | none => simp [cutIf]
    | some k =>
      by_cases hk : k = i + 1 + (d + 1)
      · have h5 : ¬ k ≤ i + 1 + d := by omega
        have h6 : k ≤ i + 1 + (d + 1) := by omega
        have h7 : decide (some k = some (i + 1 + (d + 1))) = true := by simp [hk]
        simp only [h7]
        show cutS (if k ≤ i + 1 + d then cutS s else s) = if k ≤ i + 1 + (d + 1) then cutS s else s
        rw [if_neg h5, if_pos h6]
      · by_cases hk2 : k ≤ i + 1 + d
        · have : k ≤ i + 1 + (d + 1) := by omega
          simp [cutIf, hk, hk2, this]
        · have : ¬ k ≤ i + 1 + (d + 1) := by omega
          simp [cutIf, hk, hk2, this]

theorem pass_fo (t m : List UInt8) (br : Int) : ∀ (f i : Nat) (F C : List Bool) (s : St), t.length - i ≤ f → i ≤ t.length → F.length = t.length → C.length = t.length + 1 →
    (∀ k, i ≤ k → at1 F k = false) → (∀ k, i < k → at1 C k = false) → cutIf (at1 C i) (fo t F C i) = s →
    (fo t (pass t m br f i F C).1 (pass t m br f i F C).2 t.length).out = scan t m br f i s ∧ (pass t m br f i F C).1.length = t.length ∧ (pass t m br f i F C).2.length = t.length + 1 := by
  intro f
  induction f with
  | zero =>
    intro i F C s hf hi hFl hCl hF hC hs
    have : i = t.length := by omega
    subst this
    refine ⟨?_, hFl, hCl⟩
    show (fo t F C t.length).out = s.out
    rw [← hs]
    unfold cutIf
    split <;> rfl
  | succ f ih =>
    intro i F C s hf hi hFl hCl hF hC hs
    by_cases hlt : i < t.length
    · simp only [pass, scan, if_pos hlt]
      obtain ⟨h1, h2, h3, h4⟩ := step_ok t m br i hlt
      obtain ⟨K, hK⟩ : ∃ K, step t m br i = K := ⟨_, rfl⟩
      rw [hK] at h1 h2 h3 h4 ⊢
      obtain ⟨nx, fr, ct⟩ := K
      simp only at h1 h2 h3 h4 ⊢
      obtain ⟨F', hF'⟩ : ∃ F', (if fr = true then F.set i true else F) = F' := ⟨_, rfl⟩
      obtain ⟨C', hC'⟩ : ∃ C', (match ct with | none => C | some k => C.set k true) = C' := ⟨_, rfl⟩
      rw [hF', hC']
      have hFl' : F'.length = t.length := by rw [← hF']; split <;> simp [hFl]
      have hCl' : C'.length = t.length + 1 := by rw [← hC']; split <;> simp [hCl]
      have aF : ∀ k, i < k → at1 F' k = false := by
        intro k hk
        rw [← hF']
        split
        · rw [at1_set_ne _ _ _ (by omega)]; exact hF k (by omega)
        · exact hF k (by omega)
      have aC : ∀ k, i < k → at1 C' k = decide (ct = some k) := by
        intro k hk
        rw [← hC']
        cases ct with
        | none => simp; exact hC k hk
        | some q =>
          simp only [Option.some.injEq]
          have := h3 q rfl
          by_cases hq : k = q
          · subst hq; rw [at1_set_self _ _ (by omega)]; simp
          · rw [at1_set_ne _ _ _ hq, hC k hk]; simp; omega
      have bF : ∀ k, k < i → at1 F k = at1 F' k := by
        intro k hk
        rw [← hF']
        split
        · rw [at1_set_ne _ _ _ (by omega)]
        · rfl
      have bC : ∀ k, k ≤ i → at1 C k = at1 C' k := by
        intro k hk
        rw [← hC']
        cases ct with
        | none => rfl
        | some q => have := h3 q rfl; rw [at1_set_ne _ _ _ (by omega)]
      have hi' : at1 F' i = fr := by
        rw [← hF']
        cases fr with
        | true => rw [if_pos rfl, at1_set_self _ _ (by omega)]
        | false => exact hF i (Nat.le_refl _)
      have e1 : fo t F' C' (i + 1) = if fr = true then freeS s (at8 t i) else s := by
        show place t F' C' i (fo t F' C' i) = _
        unfold place
        rw [hi', ← fo_congr t i bF (fun j hj => bC j (by omega)), ← bC i (Nat.le_refl _), hs]
      have e2 := fo_skip t F' C' i _ ct e1 aC aF (fun k hk => (h3 k hk).1) (nx - (i + 1))
      rw [show i + 1 + (nx - (i + 1)) = nx by omega] at e2
      refine ih nx F' C' _ (by omega) h2 hFl' hCl' (fun k hk => aF k (by omega)) ?_ ?_
      · intro k hk
        rw [aC k (by omega)]
        simp
        intro e
        have := h3 k e
        omega
      · rw [e2]
        unfold tokS
        cases ct with
        | none => rfl
        | some q =>
          obtain ⟨_, q2, q3⟩ := h3 q rfl
          subst q3
          simp [q2]
    · have : i = t.length := by omega
      subst this
      simp only [pass, scan, Nat.lt_irrefl, if_false]
      refine ⟨?_, hFl, hCl⟩
      rw [← hs]
      unfold cutIf
      split <;> rfl

theorem kept_snoc (l : List (Bool × UInt8)) (x : Bool × UInt8) : kept (l ++ [x]) = kept l ++ if (x.1 && alpha x.2) = true then [x.2] else [] := by
  unfold kept
  rw [List.filter_append, List.map_append]
  congr 1
  by_cases h : (x.1 && alpha x.2) = true <;> simp [h]
theorem hdr_snoc (l : List (Bool × UInt8)) (x : Bool × UInt8) : hdr (l ++ [x]) = (hdr l || (x.1 && x.2 == 58)) := by
  unfold hdr
  simp

/-- A line, place by place. -/
theorem fo_line (t : List UInt8) (F C : List Bool) (a : Nat) (o : List UInt8) (h0 : cutIf (at1 C a) (fo t F C a) = ⟨o, o.length, false⟩) :
    ∀ d, (∀ k, a < k → k ≤ a + d → at1 C k = false) → cutIf (at1 C (a + d)) (fo t F C (a + d)) = ⟨o ++ if hdr (seg F t a d) = true then [] else kept (seg F t a d), o.length, hdr (seg F t a d)⟩ := by
  intro d
  induction d with
  | zero => intro _; simpa [seg, hdr, kept] using h0
  | succ d ih =>
    intro hc
    have e := ih (fun k h1 h2 => hc k h1 (by omega))
    have e2 : fo t F C (a + (d + 1)) = place t F C (a + d) (fo t F C (a + d)) := rfl
    rw [hc (a + (d + 1)) (by omega) (Nat.le_refl _)]
    show fo t F C (a + (d + 1)) = _
    rw [e2]
    unfold place
    rw [e]
    show _ = (⟨o ++ if hdr (seg F t a d ++ [cellAt F t (a + d)]) = true then [] else kept (seg F t a d ++ [cellAt F t (a + d)]), o.length, hdr (seg F t a d ++ [cellAt F t (a + d)])⟩ : St)
    rw [hdr_snoc, kept_snoc]
    have c1 : (cellAt F t (a + d)).1 = at1 F (a + d) := rfl
    have c2 : (cellAt F t (a + d)).2 = at8 t (a + d) := rfl
    rw [c1, c2]
    generalize hdr (seg F t a d) = H
    generalize kept (seg F t a d) = K
    generalize at8 t (a + d) = c
    cases at1 F (a + d) with
    | false => simp
    | true =>
      unfold freeS
      by_cases h58 : c = 58
      · subst h58; simp
      · cases H with
        | true => simp [h58]
        | false =>
          by_cases hal : alpha c = true
          · simp [h58, hal]
          · simp [h58, hal]

theorem at1_take (C : List Bool) (n k : Nat) (h : k < n) (hl : n ≤ C.length) : at1 C k = (C.take n)[k]'(by simp; omega) := by
  have : k < C.length := by omega
  simp [at1, this]

theorem lend_ok (C : List Bool) (n a : Nat) (ha : a < n) (hl : n ≤ C.length) : a < lend C n a ∧ lend C n a ≤ n ∧ (∀ k, a < k → k < lend C n a → at1 C k = false) ∧ (lend C n a < n → at1 C (lend C n a) = true) := by
  have h1 := runP_le (fun b => !b) (C.take n) (a + 1) (by simp; omega)
  simp at h1
  refine ⟨by unfold lend; omega, by unfold lend; omega, ?_, ?_⟩
  · intro k h2 h3
    obtain ⟨hk, hp⟩ := runP_mem (p := fun b => !b) _ (t := C.take n) (i := a + 1) rfl k (by omega) (by unfold lend at h3; omega)
    have : k < n := by simp at hk; omega
    rw [at1_take C n k this hl]
    simpa using hp
  · intro h
    rw [at1_take C n _ h hl]
    cases hv : (C.take n)[lend C n a]'(by simp; omega) with
    | true => rfl
    | false =>
      exfalso
      have key : ∀ (r i : Nat), runP (fun b => !b) (C.take n) i = r → ∀ (hh : i + r < (C.take n).length), (C.take n)[i + r] = true := by
        intro r
        induction r with
        | zero =>
          intro i hr hh
          cases hb : (C.take n)[i + 0] with
          | true => rfl
          | false => rw [runP_pos (by simpa using hh) (by simpa using hb)] at hr; omega
        | succ r ih =>
          intro i hr hh
          have hi : i < (C.take n).length := by omega
          cases hb : (C.take n)[i] with
          | true => rw [runP_neg hi (by simp [hb])] at hr; omega
          | false =>
            rw [runP_pos hi (by simp [hb])] at hr
            have := ih (i + 1) (by omega) (by omega)
            simpa [Nat.add_assoc, Nat.add_comm 1 r] using this
      have := key _ (a + 1) rfl (by unfold lend at h; simp; omega)
      have e : (C.take n)[lend C n a]'(by simp; omega) = true := this
      rw [e] at hv
      cases hv

theorem second_fo (t : List UInt8) (F C : List Bool) (hC : C.length = t.length + 1) : ∀ (f a : Nat) (o : List UInt8), t.length - a ≤ f → a ≤ t.length → (a < t.length → cutIf (at1 C a) (fo t F C a) = ⟨o, o.length, false⟩) → (a = t.length → (fo t F C a).out = o) → second t F C f a o = (fo t F C t.length).out := by
  intro f
  induction f with
  | zero =>
    intro a o hf ha _ h2
    have : a = t.length := by omega
    subst this
    exact (h2 rfl).symm
  | succ f ih =>
    intro a o hf ha h1 h2
    by_cases hlt : a < t.length
    · simp only [second, if_pos hlt]
      obtain ⟨l1, l2, l3, l4⟩ := lend_ok C t.length a hlt (by omega)
      obtain ⟨b, hb⟩ : ∃ b, lend C t.length a = b := ⟨_, rfl⟩
      rw [hb] at l1 l2 l3 l4 ⊢
      have e := fo_line t F C a o (h1 hlt) (b - 1 - a) (fun k q1 q2 => l3 k q1 (by omega))
      rw [show a + (b - 1 - a) = b - 1 by omega] at e
      -- the last place of the line
      have key : fo t F C b = ⟨o ++ if hdr (seg F t a (b - a)) = true then [] else kept (seg F t a (b - a)), o.length, hdr (seg F t a (b - a))⟩ := by
        obtain ⟨d, rfl⟩ : ∃ d, b = a + (d + 1) := ⟨b - a - 1, by omega⟩
        rw [show a + (d + 1) - 1 = a + d by omega, show a + d - a = d by omega] at e
        rw [show a + (d + 1) - a = d + 1 by omega]
        show place t F C (a + d) (fo t F C (a + d)) = _
        unfold place
        rw [e]
        show _ = (⟨o ++ if hdr (seg F t a d ++ [cellAt F t (a + d)]) = true then [] else kept (seg F t a d ++ [cellAt F t (a + d)]), o.length, hdr (seg F t a d ++ [cellAt F t (a + d)])⟩ : St)
        rw [hdr_snoc, kept_snoc]
        have c1 : (cellAt F t (a + d)).1 = at1 F (a + d) := rfl
        have c2 : (cellAt F t (a + d)).2 = at8 t (a + d) := rfl
        rw [c1, c2]
        generalize hdr (seg F t a d) = H
        generalize kept (seg F t a d) = K
        generalize at8 t (a + d) = c
        cases at1 F (a + d) with
        | false => simp
        | true =>
          unfold freeS
          by_cases h58 : c = 58
          · subst h58; simp
          · cases H with
            | true => simp [h58]
            | false =>
              by_cases hal : alpha c = true
              · simp [h58, hal]
              · simp [h58, hal]
      refine ih b _ (by omega) l2 ?_ ?_
      · intro hbn
        rw [l4 hbn, key]
        rfl
      · intro _
        rw [key]
    · have : a = t.length := by omega
      subst this
      simp only [second, Nat.lt_irrefl, if_false]
      exact (h2 rfl).symm

theorem at1_zeros (n k : Nat) : at1 (zeros n) k = false := by
  simp only [at1, zeros, List.getElem?_replicate]
  split <;> rfl

/-- THE PLAIN LAW. -/
theorem scan_eq_model (t m : List UInt8) (br : Int) : scan t m br t.length 0 ⟨[], 0, false⟩ = model t m br := by
  obtain ⟨h1, _, h3⟩ := pass_fo t m br t.length 0 (zeros t.length) (zeros (t.length + 1)) ⟨[], 0, false⟩ (by omega) (by omega) (by simp [zeros]) (by simp [zeros]) (fun k _ => at1_zeros _ k) (fun k _ => at1_zeros _ k) (by rw [at1_zeros]; rfl)
  rw [← h1]
  unfold model
  simp only
  refine (second_fo t _ _ h3 _ 0 [] (by omega) (by omega) ?_ ?_).symm
  · intro _
    unfold cutIf
    split <;> rfl
  · intro _; rfl

/-- The two tests for an escaped line feed that ends a line. -/
theorem brk_le {r : Nat} {br : Int} (h : brk r br = true) : 0 < br ∧ br ≤ r := by
  simp only [brk, decide_eq_true_eq] at h
  refine ⟨h.1, ?_⟩
  have h1 := Int.emod_nonneg (r : Int) (show (2 * br) ≠ 0 by omega)
  by_cases hlt : (r : Int) < br
  · rw [Int.emod_eq_of_lt (by omega) (by omega)] at h; omega
  · omega
theorem brk_of_sub {r : Nat} {br : Int} (h0 : 0 < br) : brk r br = decide (((r : Int) - br) % (2 * br) = 0) := by
  simp only [brk]
  congr 1
  simp only [h0, true_and, eq_iff_iff]
  have key : (r : Int) % (2 * br) = (((r : Int) - br) % (2 * br) + br) % (2 * br) := by
    rw [Int.emod_add_emod]; congr 1; omega
  have p1 := Int.emod_nonneg ((r : Int) - br) (show (2 * br) ≠ 0 by omega)
  have p2 := Int.emod_lt_of_pos ((r : Int) - br) (show 0 < 2 * br by omega)
  constructor
  · intro e
    rw [key] at e
    by_cases hs : ((r : Int) - br) % (2 * br) + br < 2 * br
    · rw [Int.emod_eq_of_lt (by omega) hs] at e; omega
    · have : ((((r : Int) - br) % (2 * br) + br) - 2 * br) % (2 * br) = (((r : Int) - br) % (2 * br) + br) % (2 * br) := by
        rw [Int.sub_emod_right]
      rw [← this, Int.emod_eq_of_lt (by omega) (by omega)] at e
      omega
  · intro e
    rw [key, e, Int.zero_add, Int.emod_eq_of_lt (by omega) (by omega)]
end Go.Proofs.Qxb6603002aDoor
