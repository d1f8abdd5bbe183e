import Derived.Test.Qxb6003660aLabels
namespace Go.Proofs.Qxb6003660a

/-- a byte of a label in the key -/
def keyB (c : UInt8) : List Int := if c.toNat = 0 then [0, 255] else [lowU c]
def keyBs : List UInt8 → List Int
  | [] => []
  | c :: r => keyB c ++ keyBs r
def keyL (l : List UInt8) : List Int := keyBs l ++ [0, 1]
/-- the labels from the root outwards -/
def keyLs : List (List UInt8) → List Int
  | [] => []
  | l :: ls => keyLs ls ++ keyL l
def key (ls : List (List UInt8)) : List Int := keyLs ls ++ [0, 0]

theorem keyBs_append (a b : List UInt8) : keyBs (a ++ b) = keyBs a ++ keyBs b := by
  induction a with
  | nil => rfl
  | cons c r ih => simp [keyBs, ih]
theorem keyBs_step (l : List UInt8) (k : Nat) (h : k < l.length) : keyBs (l.take (k + 1)) = keyBs (l.take k) ++ keyB l[k] := by
  rw [List.take_succ_eq_append_getElem h, keyBs_append]
  simp [keyBs]
theorem keyB_len (c : UInt8) : (keyB c).length ≤ 2 := by
  unfold keyB; split <;> simp
theorem keyBs_len (l : List UInt8) : (keyBs l).length ≤ 2 * l.length := by
  induction l with
  | nil => simp [keyBs]
  | cons c r ih =>
    have := keyB_len c
    simp [keyBs]; omega
theorem keyLs_len (ls : List (List UInt8)) : (keyLs ls).length ≤ 2 * (encL ls).length := by
  induction ls with
  | nil => simp [keyLs]
  | cons l ls ih =>
    have := keyBs_len l
    simp [keyLs, keyL, encL]; omega
theorem keyLs_step (ls : List (List UInt8)) (c : Nat) (h : c < ls.length) : keyLs (ls.drop c) = keyLs (ls.drop (c + 1)) ++ (keyBs ls[c] ++ [0, 1]) := by
  rw [List.drop_eq_getElem_cons h]
  rfl
theorem encL_drop (ls : List (List UInt8)) (c : Nat) : (encL (ls.drop c)).length ≤ (encL ls).length := by
  have e := congrArg (fun x => (encL x).length) (List.take_append_drop c ls)
  simp only [encL_append, List.length_append] at e
  omega
theorem keyLs_drop_len (ls : List (List UInt8)) (c : Nat) : (keyLs (ls.drop c)).length ≤ 2 * (encL ls).length := by
  have := keyLs_len (ls.drop c)
  have := encL_drop ls c
  omega

end Go.Proofs.Qxb6003660a
