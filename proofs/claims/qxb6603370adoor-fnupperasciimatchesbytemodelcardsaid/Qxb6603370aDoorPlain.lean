/- What upperASCII answers, in plain words: by the library's own mapD. -/
import Derived.Lib.MapLaws
namespace Go.Proofs.Qxb6603370aDoor
open Go

def need (b : Nat) : Nat := if b < 194 then 0 else if b ≤ 223 then 2 else if b ≤ 239 then 3 else if b ≤ 244 then 4 else 0
def lo (b : Nat) : Nat := if b = 224 then 160 else if b = 240 then 144 else 128
def hi (b : Nat) : Nat := if b = 237 then 159 else if b = 244 then 143 else 191
/-- How long a character begins here; 0: none. -/
def ulenN (n b0 b1 b2 b3 : Nat) : Nat :=
  if b0 < 128 then 1
  else if need b0 = 0 then 0
  else if n < need b0 then 0
  else if b1 < lo b0 ∨ hi b0 < b1 then 0
  else if need b0 ≤ 2 then 2
  else if b2 < 128 ∨ 191 < b2 then 0
  else if need b0 ≤ 3 then 3
  else if b3 < 128 ∨ 191 < b3 then 0
  else 4

set_option maxRecDepth 100000 in
set_option maxHeartbeats 4000000 in
theorem ulenN_cases (n b0 b1 b2 b3 : Nat) (h0 : b0 < 256) (h1 : b1 < 256) (h2 : b2 < 256) (h3 : b3 < 256) :
    (ulenN n b0 b1 b2 b3 = 0 ∧ Lib.decodeN n b0 b1 b2 b3 = (65533, 1)) ∨ (b0 < 128 ∧ ulenN n b0 b1 b2 b3 = 1 ∧ Lib.decodeN n b0 b1 b2 b3 = (b0, 1))
      ∨ (128 ≤ b0 ∧ ∃ c k, 128 ≤ c ∧ 2 ≤ k ∧ ulenN n b0 b1 b2 b3 = k ∧ Lib.decodeN n b0 b1 b2 b3 = (c, k)) := by
  by_cases a0 : b0 < 128
  · right; left; exact ⟨a0, by simp [ulenN, a0], by simp [Lib.decodeN, a0]⟩
  · unfold ulenN
    rw [if_neg a0]
    by_cases a1 : need b0 = 0
    · rw [if_pos a1]
      left
      refine ⟨rfl, ?_⟩
      have : b0 < 194 ∨ 244 < b0 := by
        unfold need at a1
        repeat' split at a1
        all_goals omega
      unfold Lib.decodeN
      repeat' split
      all_goals first | rfl | (exfalso; omega)
    · rw [if_neg a1]
      have hb : 194 ≤ b0 ∧ b0 ≤ 244 := by
        unfold need at a1
        repeat' split at a1
        all_goals omega
      have hcl : (b0 ≤ 223 ∧ need b0 = 2 ∧ lo b0 = 128 ∧ hi b0 = 191) ∨ (b0 = 224 ∧ need b0 = 3 ∧ lo b0 = 160 ∧ hi b0 = 191) ∨ (225 ≤ b0 ∧ b0 ≤ 239 ∧ b0 ≠ 237 ∧ need b0 = 3 ∧ lo b0 = 128 ∧ hi b0 = 191)
          ∨ (b0 = 237 ∧ need b0 = 3 ∧ lo b0 = 128 ∧ hi b0 = 159) ∨ (b0 = 240 ∧ need b0 = 4 ∧ lo b0 = 144 ∧ hi b0 = 191) ∨ (241 ≤ b0 ∧ b0 ≤ 243 ∧ need b0 = 4 ∧ lo b0 = 128 ∧ hi b0 = 191) ∨ (b0 = 244 ∧ need b0 = 4 ∧ lo b0 = 128 ∧ hi b0 = 143) := by
        unfold need lo hi
        repeat' split
        all_goals omega
      clear a1
      rcases hcl with ⟨hb1, e1, e2, e3⟩ | ⟨hb1, e1, e2, e3⟩ | ⟨hb1, hb2, hb3, e1, e2, e3⟩ | ⟨hb1, e1, e2, e3⟩ | ⟨hb1, e1, e2, e3⟩ | ⟨hb1, hb2, e1, e2, e3⟩ | ⟨hb1, e1, e2, e3⟩
      all_goals
        rw [e1, e2, e3]
        unfold Lib.decodeN
        repeat' split
      all_goals first
        | (exfalso; omega)
        | (left; exact ⟨by rfl, by rfl⟩)
        | (right; right; refine ⟨by omega, _, _, ?_, ?_, rfl, rfl⟩ <;> omega)
def ulen (l : List UInt8) : Nat := ulenN l.length (l.getD 0 0).toNat (l.getD 1 0).toNat (l.getD 2 0).toNat (l.getD 3 0).toNat
/-- The closure's function. -/
def upR (r : Int) : Int := if 97 ≤ r ∧ r ≤ 122 then r - 32 else r
def upB (b : UInt8) : UInt8 := if 97 ≤ b.toNat ∧ b.toNat ≤ 122 then b - 32 else b
/-- One step of the model: what is written, how far it goes. -/
def piece (l : List UInt8) : List UInt8 := if ulen l = 0 then [239, 191, 189] else if ulen l = 1 then [upB (l.getD 0 0)] else l.take (ulen l)
def wid (l : List UInt8) : Nat := if ulen l = 0 then 1 else ulen l

theorem enc_up (b : UInt8) (h : b.toNat < 128) : Lib.encodeRune (upR (b.toNat : Int)) = [upB b] := by
  have hb : b = UInt8.ofNat b.toNat := by simp
  unfold upR upB
  by_cases h1 : 97 ≤ b.toNat ∧ b.toNat ≤ 122
  · rw [if_pos h1, if_pos (by omega)]
    unfold Lib.encodeRune
    rw [Lib.encodeRuneZ_one (by omega) (by omega)]
    simp only [List.map_cons, List.map_nil]
    congr 1
    apply UInt8.toNat_inj.1
    rw [UInt8.toNat_sub_of_le]
    · simp; omega
    · rw [UInt8.le_iff_toNat_le]; simp; omega
  · rw [if_neg h1, if_neg (by omega)]
    unfold Lib.encodeRune
    rw [Lib.encodeRuneZ_one (by omega) (by omega)]
    simp
theorem map_step (l : List UInt8) (hne : l ≠ []) : Lib.mapD upR l = piece l ++ Lib.mapD upR (l.drop (wid l)) ∧ 1 ≤ wid l ∧ wid l ≤ l.length := by
  have hd := Lib.decodeL_N l
  have hstep := Lib.mapD_step upR l hne
  have hle := Lib.decodeL_le l hne
  have hlt : ∀ x : UInt8, x.toNat < 256 := fun x => x.toNat_lt
  rcases ulenN_cases l.length (l.getD 0 0).toNat (l.getD 1 0).toNat (l.getD 2 0).toNat (l.getD 3 0).toNat (hlt _) (hlt _) (hlt _) (hlt _) with ⟨h1, h2⟩ | ⟨h0, h1, h2⟩ | ⟨h0, c, k, hc, hk, h1, h2⟩
  · rw [h2] at hd
    have hu : ulen l = 0 := h1
    rw [hd] at hstep hle
    unfold piece wid
    rw [if_pos hu, if_pos hu, hstep]
    exact ⟨rfl, Nat.le_refl _, hle⟩
  · rw [h2] at hd
    have hu : ulen l = 1 := h1
    rw [hd] at hstep hle
    unfold piece wid
    rw [if_neg (by omega), if_pos hu, if_neg (by omega), hu, hstep]
    refine ⟨?_, Nat.le_refl _, hle⟩
    have hpos : 0 ≤ upR ((l.getD 0 0).toNat : Int) := by unfold upR; split <;> omega
    simp only
    rw [if_pos hpos, enc_up _ h0]
  · rw [h2] at hd
    have hu : ulen l = k := h1
    have hsame := Lib.mapD_same upR l hne (by rw [hd]; simp only [upR]; rw [if_neg (by omega)]) (by rw [hd]; simp only; omega)
    rw [hd] at hsame hle
    unfold piece wid
    rw [if_neg (by omega), if_neg (by omega), if_neg (by omega), hu]
    exact ⟨hsame, by omega, hle⟩
end Go.Proofs.Qxb6603370aDoor
