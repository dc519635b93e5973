/- The lines of one event, as items: plain laws. -/
import Derived.Test.Qxb6602806aDoorLines2
namespace Go.Proofs.Qxb6602806aDoor
open Go

def rnd (it : Bool × List UInt8) : List UInt8 := (if it.1 then sEvent else sData) ++ it.2 ++ [10]
def rend (r : List (Bool × List UInt8)) : List UInt8 := r.flatMap rnd
def stp (s : List UInt8 × List UInt8 × Bool) (it : Bool × List UInt8) : List UInt8 × List UInt8 × Bool :=
  if it.1 then (trimCR it.2, s.2.1, s.2.2) else (s.1, (if s.2.2 then s.2.1 ++ [10] ++ trimCR it.2 else trimCR it.2), true)
def runIt (s : List UInt8 × List UInt8 × Bool) (r : List (Bool × List UInt8)) : List UInt8 × List UInt8 × Bool := r.foldl stp s
def items (name : List UInt8) (ds : List (List UInt8)) : List (Bool × List UInt8) := (if name = [] then [] else [(true, name)]) ++ ds.map fun d => (false, d)

theorem rend_cons (it : Bool × List UInt8) (r : List (Bool × List UInt8)) : rend (it :: r) = rnd it ++ rend r := by simp [rend]
theorem runIt_cons (s : List UInt8 × List UInt8 × Bool) (it : Bool × List UInt8) (r : List (Bool × List UInt8)) : runIt s (it :: r) = runIt (stp s it) r := rfl

theorem rend_items (name : List UInt8) (ds : List (List UInt8)) : rend (items name ds) = evt name ++ flat ds := by
  unfold rend items evt flat
  rw [List.flatMap_append, List.flatMap_map]
  congr 1
  split <;> simp [rnd]

theorem runIt_data (nm dt : List UInt8) (ds : List (List UInt8)) : runIt (nm, dt, true) (ds.map fun d => (false, d)) = (nm, dt ++ ds.flatMap (fun d => 10 :: trimCR d), true) := by
  induction ds generalizing dt with
  | nil => simp [runIt]
  | cons d r ih =>
    rw [List.map_cons, runIt_cons]
    rw [show stp (nm, dt, true) (false, d) = (nm, dt ++ [10] ++ trimCR d, true) from rfl, ih]
    simp
theorem joinT_cons (d : List UInt8) (ds : List (List UInt8)) : joinT (d :: ds) = trimCR d ++ ds.flatMap (fun d => 10 :: trimCR d) := by
  induction ds generalizing d with
  | nil => simp [joinT]
  | cons e r ih => rw [joinT, ih e]; simp
theorem runIt_items (name : List UInt8) (ds : List (List UInt8)) (h : ds ≠ []) : runIt ([], [], false) (items name ds) = (trimCR name, joinT ds, true) := by
  cases ds with
  | nil => exact absurd rfl h
  | cons d r =>
    have key : ∀ nm : List UInt8, runIt (nm, [], false) ((d :: r).map fun d => (false, d)) = (nm, joinT (d :: r), true) := by
      intro nm
      rw [List.map_cons, runIt_cons, show stp (nm, [], false) (false, d) = (nm, trimCR d, true) from rfl, runIt_data, joinT_cons]
    unfold items
    split
    · rename_i hn; subst hn; simpa [trimCR] using key []
    · rw [List.singleton_append, runIt_cons, show stp ([], [], false) (true, name) = (trimCR name, [], false) from rfl, key]

theorem index_pre (d : UInt8) : ∀ (a r : List UInt8), (∀ c ∈ a, c ≠ d) → Lib.indexByte (a ++ d :: r) d = (a.length : Int)
  | [], r, _ => by simp [Lib.indexByte]
  | c :: a, r, h => by
    have ih := index_pre d a r (fun x hx => h x (by simp [hx]))
    have hc : ¬ (c == d) = true := by simpa using h c (by simp)
    rw [List.cons_append, Lib.indexByte, if_neg hc, ih, if_neg (by simp)]
    simp

theorem trimCR_pre (a x : List UInt8) (h : a.getLast? ≠ some 13) : trimCR (a ++ x) = a ++ trimCR x := by
  unfold trimCR
  cases x with
  | nil => simp [h]
  | cons c r =>
    rw [show (a ++ c :: r).getLast? = (c :: r).getLast? by rw [List.getLast?_append, List.getLast?_eq_some_getLast (List.cons_ne_nil c r)]; rfl]
    split
    · rw [List.dropLast_append_of_ne_nil (by simp)]
    · rfl
theorem trimCR_event (x : List UInt8) : trimCR (sEvent ++ x) = sEvent ++ trimCR x := trimCR_pre _ _ (by decide)
theorem trimCR_data (x : List UInt8) : trimCR (sData ++ x) = sData ++ trimCR x := trimCR_pre _ _ (by decide)
theorem colon_event (x : List UInt8) : Lib.indexByte (sEvent ++ x) 58 = 5 := by
  have := index_pre 58 [101, 118, 101, 110, 116] (32 :: x) (by decide)
  simpa [sEvent] using this
theorem colon_data (x : List UInt8) : Lib.indexByte (sData ++ x) 58 = 4 := by
  have := index_pre 58 [100, 97, 116, 97] (32 :: x) (by decide)
  simpa [sData] using this
theorem index_event (x r : List UInt8) (h : ∀ c ∈ x, c ≠ 10) : Lib.indexByte (rnd (true, x) ++ r) 10 = ((7 + x.length : Nat) : Int) := by
  have := index_pre 10 (sEvent ++ x) r (by
    intro c hc
    rcases List.mem_append.1 hc with hc | hc
    · have : ∀ c ∈ sEvent, c ≠ 10 := by decide
      exact this c hc
    · exact h c hc)
  rw [show rnd (true, x) ++ r = sEvent ++ x ++ 10 :: r by simp [rnd], this]
  simp [sEvent]; omega
theorem index_data (x r : List UInt8) (h : ∀ c ∈ x, c ≠ 10) : Lib.indexByte (rnd (false, x) ++ r) 10 = ((6 + x.length : Nat) : Int) := by
  have := index_pre 10 (sData ++ x) r (by
    intro c hc
    rcases List.mem_append.1 hc with hc | hc
    · have : ∀ c ∈ sData, c ≠ 10 := by decide
      exact this c hc
    · exact h c hc)
  rw [show rnd (false, x) ++ r = sData ++ x ++ 10 :: r by simp [rnd], this]
  simp [sData]; omega
theorem rnd_length (t : Bool) (x : List UInt8) : (rnd (t, x)).length = (if t then 8 else 7) + x.length := by
  cases t <;> simp [rnd, sEvent, sData] <;> omega
theorem runIt_mono (nm dt : List UInt8) (r : List (Bool × List UInt8)) : dt.length ≤ (runIt (nm, dt, true) r).2.1.length := by
  induction r generalizing nm dt with
  | nil => simp [runIt]
  | cons it r ih =>
    rw [runIt_cons]
    cases h : it.1 with
    | true => rw [show stp (nm, dt, true) it = (trimCR it.2, dt, true) by simp [stp, h]]; exact ih _ _
    | false =>
      rw [show stp (nm, dt, true) it = (nm, dt ++ [10] ++ trimCR it.2, true) by simp [stp, h]]
      refine Nat.le_trans ?_ (ih _ _)
      simp
theorem runIt_event (nm dt x : List UInt8) (hd : Bool) (r : List (Bool × List UInt8)) : runIt (nm, dt, hd) ((true, x) :: r) = runIt (trimCR x, dt, hd) r := rfl
theorem runIt_first (nm dt x : List UInt8) (r : List (Bool × List UInt8)) : runIt (nm, dt, false) ((false, x) :: r) = runIt (nm, trimCR x, true) r := rfl
theorem runIt_more (nm dt x : List UInt8) (r : List (Bool × List UInt8)) : runIt (nm, dt, true) ((false, x) :: r) = runIt (nm, dt ++ [10] ++ trimCR x, true) r := rfl
theorem lines_nl : ∀ (l : List UInt8), ∀ x ∈ lines l, ∀ c ∈ x, c ≠ 10
  | [], x, hx => by simp [lines] at hx; subst hx; intro c hc; cases hc
  | a :: r, x, hx => by
    have ih := lines_nl r
    unfold lines at hx
    split at hx
    · simp at hx
      rcases hx with rfl | hx
      · intro c hc; cases hc
      · exact ih x hx
    · rename_i ha
      cases h : lines r with
      | nil => exact absurd h (lines_ne r)
      | cons h1 t =>
        rw [h] at hx ih
        simp [consHead] at hx
        rcases hx with rfl | hx
        · intro c hc
          simp at hc
          rcases hc with rfl | hc
          · exact ha
          · exact ih h1 (by simp) c hc
        · exact ih x (by simp [hx])

/-- The next line of what is left. -/
theorem next_line (rem : List (Bool × List UInt8)) (tail : List UInt8) (hno : ∀ it ∈ rem, ∀ c ∈ it.2, c ≠ 10) : ∃ ln more, rend rem ++ 10 :: tail = ln ++ 10 :: more ∧ (∀ c ∈ ln, c ≠ 10) ∧
    ((rem = [] ∧ ln = [] ∧ more = tail) ∨ ∃ t x r, rem = (t, x) :: r ∧ ln = (if t then sEvent else sData) ++ x ∧ more = rend r ++ 10 :: tail) := by
  cases rem with
  | nil => exact ⟨[], tail, by simp [rend], by simp, .inl ⟨rfl, rfl, rfl⟩⟩
  | cons it r =>
    obtain ⟨t, x⟩ := it
    refine ⟨(if t then sEvent else sData) ++ x, rend r ++ 10 :: tail, by simp [rend_cons, rnd], ?_, .inr ⟨t, x, r, rfl, rfl, rfl⟩⟩
    intro c hc
    rcases List.mem_append.1 hc with hc | hc
    · cases t
      · have : ∀ c ∈ sData, c ≠ 10 := by decide
        exact this c hc
      · have : ∀ c ∈ sEvent, c ≠ 10 := by decide
        exact this c hc
    · exact hno (t, x) (by simp) c hc
end Go.Proofs.Qxb6602806aDoor
