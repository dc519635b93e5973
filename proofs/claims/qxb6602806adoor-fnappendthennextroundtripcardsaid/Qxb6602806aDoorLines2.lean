/- Lines, trimmed: plain laws. -/
import Derived.Test.Qxb6602806aDoorLines
namespace Go.Proofs.Qxb6602806aDoor
open Go

def hasNL (l : List UInt8) : Bool := l.contains 10
def trimCR (l : List UInt8) : List UInt8 := if l.getLast? = some 13 then l.dropLast else l
theorem trimCR_length (l : List UInt8) : (trimCR l).length ≤ l.length := by unfold trimCR; split <;> simp
theorem trimCR_take (l : List UInt8) : trimCR l = l.take (trimCR l).length := by
  unfold trimCR
  split
  · simp [List.dropLast_eq_take]
  · simp
theorem last_get (l : List UInt8) (h : 0 < l.length) : l.getLast? = some (l[l.length - 1]?.getD 0) := by
  rw [List.getLast?_eq_getElem?, List.getElem?_eq_getElem (by omega)]; rfl
theorem trimCR_yes (l : List UInt8) (h : 0 < l.length) (hc : l[l.length - 1]?.getD 0 = 13) : (trimCR l).length = l.length - 1 := by
  unfold trimCR; rw [last_get l h, hc, if_pos rfl]; simp
theorem trimCR_no (l : List UInt8) (hc : l[l.length - 1]?.getD 0 ≠ 13) : trimCR l = l := by
  unfold trimCR
  cases l with
  | nil => rfl
  | cons a r => rw [last_get _ (by simp), if_neg]; simpa using hc

theorem lines_nonl : ∀ (a : List UInt8), (∀ c ∈ a, c ≠ 10) → lines a = [a]
  | [], _ => rfl
  | c :: r, h => by
    have := lines_nonl r (fun x hx => h x (by simp [hx]))
    simp [lines, h c (by simp), this, consHead]
theorem lines_cut : ∀ (a r : List UInt8), (∀ c ∈ a, c ≠ 10) → lines (a ++ 10 :: r) = a :: lines r
  | [], r, _ => by simp [lines]
  | c :: a, r, h => by
    have := lines_cut a r (fun x hx => h x (by simp [hx]))
    simp [lines, h c (by simp), this, consHead]

def flatT (ls : List (List UInt8)) : List UInt8 := ls.flatMap fun l => trimCR l ++ [10]
def joinT : List (List UInt8) → List UInt8
  | [] => []
  | [x] => trimCR x
  | x :: y :: r => trimCR x ++ [10] ++ joinT (y :: r)
theorem joinT_snoc : ∀ (ls : List (List UInt8)) (x : List UInt8), joinT (ls ++ [x]) = flatT ls ++ trimCR x
  | [], x => by simp [joinT, flatT]
  | [y], x => by simp [joinT, flatT]
  | y :: z :: r, x => by
    have := joinT_snoc (z :: r) x
    simp only [List.cons_append] at this ⊢
    rw [joinT, this]
    simp [flatT]
theorem flatT_snoc (ls : List (List UInt8)) (x : List UInt8) : flatT (ls ++ [x]) = flatT ls ++ (trimCR x ++ [10]) := by simp [flatT]
theorem flatT_length (ls : List (List UInt8)) : (flatT ls).length ≤ (ls.map fun l => l.length + 1).sum := by
  induction ls with
  | nil => simp [flatT]
  | cons a r ih => have := trimCR_length a; simp [flatT] at ih ⊢; omega
theorem lines_sum (l : List UInt8) : ((lines l).map fun x => x.length + 1).sum = l.length + 1 := by
  induction l with
  | nil => simp [lines]
  | cons c r ih =>
    unfold lines
    split
    · simp [ih]; omega
    · cases h : lines r with
      | nil => exact absurd h (lines_ne r)
      | cons a b => rw [h] at ih; simp [consHead] at ih ⊢; omega

/-- The state of zzDataRead's loop: k bytes looked at, the line began at st, acc is out. -/
def DR (d : List UInt8) (k st : Nat) (acc : List UInt8) : Prop :=
  (k ≤ d.length ∧ st ≤ k ∧ (∀ j, st ≤ j → j < k → d[j]?.getD 0 ≠ 10) ∧ ∃ done, lines d = done ++ lines (d.drop st) ∧ acc = flatT done) ∨ (k = d.length + 1 ∧ acc = joinT (lines d))

theorem DR_start (d : List UInt8) : DR d 0 0 [] := .inl ⟨Nat.zero_le _, Nat.le_refl _, (fun j h1 h2 => by omega), [], by simp, rfl⟩
theorem DR_skip {d : List UInt8} {k st : Nat} {acc : List UInt8} (h : DR d k st acc) (hk : k < d.length) (hc : d[k]?.getD 0 ≠ 10) : DR d (k + 1) st acc := by
  rcases h with ⟨h1, h2, h3, done, h4, h5⟩ | ⟨h1, _⟩
  · refine .inl ⟨by omega, by omega, fun j hj1 hj2 => ?_, done, h4, h5⟩
    by_cases e : j = k
    · rw [e]; exact hc
    · exact h3 j hj1 (by omega)
  · omega
theorem DR_piece {d : List UInt8} {k st : Nat} (h1 : k ≤ d.length) (h2 : st ≤ k) (h3 : ∀ j, st ≤ j → j < k → d[j]?.getD 0 ≠ 10) : ∀ c ∈ (d.drop st).take (k - st), c ≠ 10 := by
  intro c hc
  obtain ⟨i, hi, rfl⟩ := List.mem_iff_getElem.1 hc
  simp at hi
  have := h3 (st + i) (by omega) (by omega)
  rw [List.getElem?_eq_getElem (by omega)] at this
  simpa using this
theorem DR_nl {d : List UInt8} {k st : Nat} {acc : List UInt8} (h : DR d k st acc) (hk : k < d.length) (hc : d[k]?.getD 0 = 10) : DR d (k + 1) (k + 1) (acc ++ trimCR ((d.drop st).take (k - st)) ++ [10]) := by
  rcases h with ⟨h1, h2, h3, done, h4, h5⟩ | ⟨h1, _⟩
  · refine .inl ⟨by omega, Nat.le_refl _, fun j hj1 hj2 => by omega, done ++ [(d.drop st).take (k - st)], ?_, ?_⟩
    · have e : d.drop st = (d.drop st).take (k - st) ++ 10 :: d.drop (k + 1) := by
        conv => lhs; rw [← List.take_append_drop (k - st) (d.drop st)]
        rw [List.drop_drop, show st + (k - st) = k by omega, List.drop_eq_getElem_cons hk]
        rw [List.getElem?_eq_getElem hk] at hc
        simp at hc
        rw [hc]
      rw [h4]
      conv => lhs; rw [e]
      rw [lines_cut _ _ (DR_piece h1 h2 h3)]
      simp
    · rw [flatT_snoc, h5]; simp
  · omega
theorem DR_end {d : List UInt8} {k st : Nat} {acc : List UInt8} (h : DR d k st acc) (hk : k = d.length) : DR d (k + 1) (k + 1) (acc ++ trimCR ((d.drop st).take (k - st))) := by
  rcases h with ⟨h1, h2, h3, done, h4, h5⟩ | ⟨h1, _⟩
  · refine .inr ⟨by omega, ?_⟩
    have e : (d.drop st).take (k - st) = d.drop st := List.take_of_length_le (by simp; omega)
    have hp := DR_piece h1 h2 h3
    rw [e] at hp ⊢
    rw [h4, lines_nonl _ hp, joinT_snoc, h5]
  · omega
theorem DR_done {d : List UInt8} {k st : Nat} {acc : List UInt8} (h : DR d k st acc) (hk : d.length < k) : acc = joinT (lines d) := by
  rcases h with ⟨h1, _⟩ | ⟨_, h2⟩
  · omega
  · exact h2
theorem DR_le {d : List UInt8} {k st : Nat} {acc : List UInt8} (h : DR d k st acc) (hk : k ≤ d.length) : st ≤ k ∧ acc.length ≤ d.length + 1 := by
  rcases h with ⟨h1, h2, h3, done, h4, h5⟩ | ⟨h1, _⟩
  · refine ⟨h2, ?_⟩
    have e1 := flatT_length done
    have e2 := lines_sum d
    rw [h4] at e2
    simp at e2
    rw [h5]; omega
  · omega
end Go.Proofs.Qxb6602806aDoor
