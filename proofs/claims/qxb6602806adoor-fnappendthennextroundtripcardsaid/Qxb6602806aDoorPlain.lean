/- The plain functions: what the Go text computes, over lists of bytes. -/
namespace Go.Proofs.Qxb6602806aDoor

def sEvent : List UInt8 := [101, 118, 101, 110, 116, 58, 32]
def sData : List UInt8 := [100, 97, 116, 97, 58, 32]
def sNlData : List UInt8 := [10, 100, 97, 116, 97, 58, 32]
def encB (c : UInt8) : List UInt8 := if c = 10 then sNlData else [c]
def enc : List UInt8 → List UInt8
  | [] => []
  | c :: r => encB c ++ enc r
def evt (name : List UInt8) : List UInt8 := if name = [] then [] else sEvent ++ name ++ [10]
def wire (b name data : List UInt8) : List UInt8 := b ++ evt name ++ sData ++ enc data ++ [10, 10]

theorem enc_append (a b : List UInt8) : enc (a ++ b) = enc a ++ enc b := by
  induction a with
  | nil => rfl
  | cons c r ih => simp [enc, ih]
theorem encB_length (c : UInt8) : (encB c).length ≤ 7 := by unfold encB; split <;> simp [sNlData]
theorem enc_length (l : List UInt8) : (enc l).length ≤ 7 * l.length := by
  induction l with
  | nil => simp [enc]
  | cons c r ih => have := encB_length c; simp [enc]; omega
theorem take_snoc (l : List UInt8) (k : Nat) (h : k < l.length) : l.take (k + 1) = l.take k ++ [l[k]?.getD 0] := by
  rw [List.take_add_one, List.getElem?_eq_getElem h]; simp
theorem enc_snoc (l : List UInt8) (k : Nat) (h : k < l.length) : enc (l.take (k + 1)) = enc (l.take k) ++ encB (l[k]?.getD 0) := by
  rw [take_snoc l k h, enc_append]; simp [enc]
theorem evt_length (l : List UInt8) : (evt l).length ≤ l.length + 8 := by unfold evt; split <;> simp [sEvent]
end Go.Proofs.Qxb6602806aDoor
