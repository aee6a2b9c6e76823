import Derived.Lib.Bytealg
import Derived.Lib.IndexLaws
namespace Go.Proofs.Qxb6002792a

theorem idx_hit : ∀ (l : List UInt8) (c : UInt8) (k : Nat), l[k]? = some c → (∀ j, j < k → l[j]? ≠ some c) → Lib.indexByte l c = k
  | [], _, k, h, _ => by simp at h
  | b :: l, c, 0, h, _ => by
    have hb : b = c := by simpa using h
    simp [Lib.indexByte, hb]
  | b :: l, c, k + 1, h, hn => by
    have hb : ¬ b = c := fun e => hn 0 (by omega) (by simp [e])
    have ih := idx_hit l c k (by simpa using h) (fun j hj => by have := hn (j + 1) (by omega); simpa using this)
    simp only [Lib.indexByte, beq_iff_eq, hb, if_false, ih]
    rw [if_neg (by omega)]
    omega

theorem idx_miss : ∀ (l : List UInt8) (c : UInt8), (∀ j, j < l.length → l[j]? ≠ some c) → Lib.indexByte l c = -1
  | [], _, _ => rfl
  | b :: l, c, hn => by
    have hb : ¬ b = c := fun e => hn 0 (by simp) (by simp [e])
    have ih := idx_miss l c (fun j hj => by have := hn (j + 1) (by simpa using hj); simpa using this)
    simp [Lib.indexByte, hb, ih]

/-- zzTagColon among the first k bytes, from the end. -/
def tc (l : List UInt8) : Nat → Int
  | 0 => -1
  | k + 1 => if l[k]? = some 47 then -1 else if l[k]? = some 58 then (k : Int) else tc l k

theorem tc_slash {l : List UInt8} {k : Nat} (h : l[k]? = some 47) : tc l (k + 1) = -1 := by simp [tc, h]
theorem tc_colon {l : List UInt8} {k : Nat} (h : l[k]? = some 58) : tc l (k + 1) = k := by simp [tc, h]
theorem tc_step {l : List UInt8} {k : Nat} (h1 : l[k]? ≠ some 47) (h2 : l[k]? ≠ some 58) : tc l (k + 1) = tc l k := by simp [tc, h1, h2]

/-- no colon behind the last slash: no tag colon. -/
theorem tc_none (l : List UInt8) (i : Nat) (hi : l[i]? = some 47) : ∀ k, i < k → (∀ j, i < j → j < k → l[j]? ≠ some 58) → tc l k = -1
  | 0, h, _ => by omega
  | k + 1, h, hn => by
    by_cases e : i = k
    · subst e; exact tc_slash hi
    · by_cases e2 : l[k]? = some 47
      · exact tc_slash e2
      · rw [tc_step e2 (hn k (by omega) (by omega))]
        exact tc_none l i hi k (by omega) (fun j h1 h2 => hn j h1 (by omega))
theorem tc_never (l : List UInt8) : ∀ k, (∀ j, j < k → l[j]? ≠ some 58) → tc l k = -1
  | 0, _ => rfl
  | k + 1, hn => by
    by_cases e2 : l[k]? = some 47
    · exact tc_slash e2
    · rw [tc_step e2 (hn k (by omega))]
      exact tc_never l k (fun j h => hn j (by omega))
end Go.Proofs.Qxb6002792a
