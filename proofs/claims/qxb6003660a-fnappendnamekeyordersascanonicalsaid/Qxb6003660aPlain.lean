namespace Go.Proofs.Qxb6003660a

/-- lowerByte on numbers -/
def lowI (c : Int) : Int := if 65 ≤ c ∧ c ≤ 90 then c + 32 else c
/-- lowerByte on a byte, as a number -/
def lowU (c : UInt8) : Int := lowI (c.toNat : Int)
/-- the names are one but for letters' case -/
def eqF (a b : List UInt8) : Bool := decide (a.map lowU = b.map lowU)

theorem eqF_true (a b : ByteArray) (hs : a.size = b.size) (h : ∀ j, (hj : j < a.size) → lowU a[j] = lowU (b[j]'(by omega))) : eqF a.data.toList b.data.toList = true := by
  unfold eqF
  rw [decide_eq_true_iff]
  have hs' : a.data.size = b.data.size := hs
  apply List.ext_getElem
  · simpa using hs'
  · intro i h1 h2
    simp at h1 h2 ⊢
    exact h i h1

theorem eqF_false (a b : ByteArray) (hs : a.size = b.size) (j : Nat) (hj : j < a.size) (h : lowU a[j] ≠ lowU (b[j]'(by omega))) : eqF a.data.toList b.data.toList = false := by
  unfold eqF
  rw [decide_eq_false_iff_not]
  intro e
  apply h
  have hs' : a.data.size = b.data.size := hs
  have hj' : j < a.data.size := hj
  have e2 := congrArg (fun l => l[j]?) e
  simp only [List.getElem?_map] at e2
  rw [List.getElem?_eq_getElem (by simpa using hj'), List.getElem?_eq_getElem (by simp; omega)] at e2
  simp at e2
  exact e2

/-- InZone, on what is left of the name -/
def inZ : Nat → List UInt8 → List UInt8 → Bool
  | 0, _, _ => false
  | _ + 1, [], _ => false
  | f + 1, c :: r, apex => if (c :: r).length < apex.length then false else if (c :: r).length = apex.length then eqF (c :: r) apex else inZ f (r.drop c.toNat) apex

theorem drop_cons (n : ByteArray) (k : Nat) (h : k < n.size) : n.data.toList.drop k = n[k] :: n.data.toList.drop (k + 1) := by
  have h' : k < n.data.toList.length := by simpa using h
  rw [List.drop_eq_getElem_cons h']
  rfl

theorem inZ_nil (f : Nat) (apex : List UInt8) : inZ f [] apex = false := by
  cases f <;> rfl

theorem len_data (a : ByteArray) : a.data.toList.length = a.size := Array.length_toList

theorem len_drop (n : ByteArray) (k : Nat) : (n.data.toList.drop k).length = n.size - k := by
  rw [List.length_drop, len_data]

theorem inZ_short (f k : Nat) (n apex : ByteArray) (h : k < n.size) (h2 : n.size - k < apex.size) : inZ f (n.data.toList.drop k) apex.data.toList = false := by
  cases f with
  | zero => rfl
  | succ f =>
    have hl := len_drop n k
    rw [drop_cons n k h] at hl ⊢
    unfold inZ
    rw [if_pos (by rw [hl]; simpa using h2)]

theorem inZ_same (f k : Nat) (n apex : ByteArray) (h : k < n.size) (h2 : n.size - k = apex.size) : inZ (f + 1) (n.data.toList.drop k) apex.data.toList = eqF (n.data.toList.drop k) apex.data.toList := by
  have hl := len_drop n k
  rw [drop_cons n k h] at hl ⊢
  unfold inZ
  have hz := len_data apex
  rw [if_neg (by rw [hl, hz]; omega), if_pos (by rw [hl, hz]; omega)]

theorem inZ_step (f k : Nat) (n apex : ByteArray) (h : k < n.size) (h2 : apex.size < n.size - k) : inZ (f + 1) (n.data.toList.drop k) apex.data.toList = inZ f (n.data.toList.drop (k + (1 + n[k].toNat))) apex.data.toList := by
  have hl := len_drop n k
  rw [drop_cons n k h] at hl ⊢
  have e : inZ (f + 1) (n[k] :: n.data.toList.drop (k + 1)) apex.data.toList = if (n[k] :: n.data.toList.drop (k + 1)).length < apex.data.toList.length then false else if (n[k] :: n.data.toList.drop (k + 1)).length = apex.data.toList.length then eqF (n[k] :: n.data.toList.drop (k + 1)) apex.data.toList else inZ f ((n.data.toList.drop (k + 1)).drop n[k].toNat) apex.data.toList := rfl
  have hz := len_data apex
  rw [e, if_neg (by rw [hl, hz]; omega), if_neg (by rw [hl, hz]; omega), List.drop_drop]
  congr 2
  omega

/-- zzValidName's loop, on what is left -/
def vN : Nat → List UInt8 → Bool
  | 0, _ => false
  | _ + 1, [] => false
  | f + 1, c :: r => if c.toNat = 0 then decide (r.length = 0) else if 63 < c.toNat then false else vN f (r.drop c.toNat)
/-- zzValidLabels' loop, on what is left -/
def vL : Nat → List UInt8 → Bool
  | 0, l => decide (l.length = 0)
  | _ + 1, [] => true
  | f + 1, c :: r => if c.toNat = 0 then false else if 63 < c.toNat then false else if r.length < c.toNat then false else vL f (r.drop c.toNat)
def vName (n : List UInt8) : Bool := decide (1 ≤ n.length) && decide (n.length ≤ 255) && vN n.length n

theorem vN_nil (f : Nat) : vN f [] = false := by cases f <;> rfl
theorem vL_nil (f : Nat) : vL f [] = true := by cases f <;> rfl

theorem vN_end (f k : Nat) (n : ByteArray) (h : k < n.size) (h0 : n[k].toNat = 0) : vN (f + 1) (n.data.toList.drop k) = decide (k + 1 = n.size) := by
  have hl := len_drop n (k + 1)
  rw [drop_cons n k h]
  unfold vN
  rw [if_pos h0, hl]
  rw [decide_eq_decide]
  omega
theorem vN_big (f k : Nat) (n : ByteArray) (h : k < n.size) (h0 : 63 < n[k].toNat) : vN (f + 1) (n.data.toList.drop k) = false := by
  rw [drop_cons n k h]
  unfold vN
  rw [if_neg (by omega), if_pos h0]
theorem vN_step (f k : Nat) (n : ByteArray) (h : k < n.size) (h0 : n[k].toNat ≠ 0) (h1 : n[k].toNat ≤ 63) : vN (f + 1) (n.data.toList.drop k) = vN f (n.data.toList.drop (k + (1 + n[k].toNat))) := by
  rw [drop_cons n k h]
  have e : vN (f + 1) (n[k] :: n.data.toList.drop (k + 1)) = if n[k].toNat = 0 then decide ((n.data.toList.drop (k + 1)).length = 0) else if 63 < n[k].toNat then false else vN f ((n.data.toList.drop (k + 1)).drop n[k].toNat) := rfl
  rw [e, if_neg h0, if_neg (by omega), List.drop_drop]
  congr 2
  omega
theorem vL_zero (f k : Nat) (n : ByteArray) (h : k < n.size) (h0 : n[k].toNat = 0 ∨ 63 < n[k].toNat) : vL (f + 1) (n.data.toList.drop k) = false := by
  rw [drop_cons n k h]
  unfold vL
  by_cases h1 : n[k].toNat = 0
  · rw [if_pos h1]
  · rw [if_neg h1, if_pos (by omega)]
theorem vL_past (f k : Nat) (n : ByteArray) (h : k < n.size) (h2 : n.size < k + (1 + n[k].toNat)) : vL (f + 1) (n.data.toList.drop k) = false := by
  have hl := len_drop n (k + 1)
  rw [drop_cons n k h]
  unfold vL
  by_cases h1 : n[k].toNat = 0
  · rw [if_pos h1]
  · by_cases h3 : 63 < n[k].toNat
    · rw [if_neg h1, if_pos h3]
    · rw [if_neg h1, if_neg h3, if_pos (by rw [hl]; omega)]
theorem vL_step (f k : Nat) (n : ByteArray) (h : k < n.size) (h0 : n[k].toNat ≠ 0) (h1 : n[k].toNat ≤ 63) (h2 : k + (1 + n[k].toNat) ≤ n.size) : vL (f + 1) (n.data.toList.drop k) = vL f (n.data.toList.drop (k + (1 + n[k].toNat))) := by
  have hl := len_drop n (k + 1)
  rw [drop_cons n k h]
  have e : vL (f + 1) (n[k] :: n.data.toList.drop (k + 1)) = if n[k].toNat = 0 then false else if 63 < n[k].toNat then false else if (n.data.toList.drop (k + 1)).length < n[k].toNat then false else vL f ((n.data.toList.drop (k + 1)).drop n[k].toNat) := rfl
  rw [e, if_neg h0, if_neg (by omega), if_neg (by rw [hl]; omega), List.drop_drop]
  congr 2
  omega
theorem vName_out (n : ByteArray) (h : n.size < 1 ∨ 255 < n.size) : vName n.data.toList = false := by
  unfold vName
  rw [len_data]
  rcases h with h | h
  · rw [decide_eq_false (by omega)]; rfl
  · rw [decide_eq_false (p := n.size ≤ 255) (by omega)]; simp
theorem vName_in (n : ByteArray) (h1 : 1 ≤ n.size) (h2 : n.size ≤ 255) : vName n.data.toList = vN n.size n.data.toList := by
  unfold vName
  rw [len_data, decide_eq_true h1, decide_eq_true h2]; rfl

/-- zzSwapCase on a number, on a byte -/
def swapI (c : Int) : Int := if 97 ≤ c ∧ c ≤ 122 then c - 32 else if 65 ≤ c ∧ c ≤ 90 then c + 32 else c
def swapU (c : UInt8) : UInt8 := UInt8.ofNat (swapI (c.toNat : Int)).toNat

end Go.Proofs.Qxb6003660a
