import Derived.Lib.Strings
import Derived.Lib.SlicesS
namespace Go.Proofs.Qxb6600460a

/-- does a name end in "/*"? -/
def star (gn : List UInt8) : Bool := Lib.hasSuffix gn [42] && Lib.hasSuffix (Lib.trimSuffix gn [42]) [47]
/-- the resource rule as the project's own 'covers' has it -/
def cov (gt gn wt wn : List UInt8) : Bool :=
  (gt == wt) && (if star gn then decide ((Lib.trimSuffix gn [42]).length < wn.length) && Lib.hasPrefix wn (Lib.trimSuffix gn [42]) else gn == wn)

theorem hasSuffix_one (s : List UInt8) (c : UInt8) : Lib.hasSuffix s [c] = (s.getLast? == some c) := by
  rw [Bool.eq_iff_iff]
  unfold Lib.hasSuffix
  rw [List.isSuffixOf_iff_suffix]
  constructor
  · rintro ⟨t, rfl⟩
    simp
  · intro h
    have h' : s.getLast? = some c := by simpa using h
    obtain ⟨ys, rfl⟩ := List.getLast?_eq_some_iff.1 h'
    exact ⟨ys, rfl⟩

theorem trim_star (d : List UInt8) : Lib.trimSuffix (d ++ [47, 42]) [42] = d ++ [47] := by
  unfold Lib.trimSuffix
  rw [if_pos (by rw [hasSuffix_one]; simp)]
  have : d ++ [47, 42] = (d ++ [47]) ++ [42] := by simp
  rw [this]
  exact List.take_left' (by simp)
theorem star_iff (s : List UInt8) : star s = true ↔ ∃ d, s = d ++ [47, 42] := by
  unfold star
  rw [Bool.and_eq_true, hasSuffix_one]
  constructor
  · rintro ⟨h1, h2⟩
    have h1' : s.getLast? = some 42 := by simpa using h1
    obtain ⟨ys, rfl⟩ := List.getLast?_eq_some_iff.1 h1'
    have e : Lib.trimSuffix (ys ++ [42]) [42] = ys := by
      unfold Lib.trimSuffix
      rw [if_pos (by rw [hasSuffix_one]; simp)]
      simp
    rw [e, hasSuffix_one] at h2
    have h2' : ys.getLast? = some 47 := by simpa using h2
    obtain ⟨d, rfl⟩ := List.getLast?_eq_some_iff.1 h2'
    exact ⟨d, by simp⟩
  · rintro ⟨d, rfl⟩
    refine ⟨by simp, ?_⟩
    rw [trim_star, hasSuffix_one]
    simp

/-- the model's case table, branch by branch -/
theorem cov_type {gt gn wt wn : List UInt8} (h : (gt == wt) = false) : cov gt gn wt wn = false := by simp [cov, h]
theorem cov_same {gt gn wt wn : List UInt8} (h : (gt == wt) = true) (h1 : (gn == wn) = true) : cov gt gn wt wn = true := by
  have e : gn = wn := by simpa using h1
  subst e
  unfold cov
  rw [h, Bool.true_and]
  by_cases hs : star gn = true
  · rw [if_pos hs]
    obtain ⟨d, rfl⟩ := (star_iff gn).1 hs
    rw [trim_star, Bool.and_eq_true]
    refine ⟨by simp, ?_⟩
    unfold Lib.hasPrefix
    rw [List.isPrefixOf_iff_prefix]
    exact ⟨[42], by simp⟩
  · rw [if_neg hs]; simp
theorem cov_plain {gt gn wt wn : List UInt8} (h : (gt == wt) = true) (h1 : (gn == wn) = false) (hs : ¬ ∃ d, gn = d ++ [47, 42]) : cov gt gn wt wn = false := by
  unfold cov
  rw [h, if_neg (fun h => hs ((star_iff gn).1 h)), h1]
  rfl
theorem cov_star {gt gn wt wn d : List UInt8} (h : (gt == wt) = true) (hs : gn = d ++ [47, 42]) : cov gt gn wt wn = (decide ((d ++ [47]).length < wn.length) && Lib.hasPrefix wn (d ++ [47])) := by
  unfold cov
  rw [h, if_pos ((star_iff gn).2 ⟨d, hs⟩), Bool.true_and, hs, trim_star]

end Go.Proofs.Qxb6600460a
