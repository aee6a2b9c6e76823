import Derived.Lib.Strings
import Derived.Lib.IndexMore
namespace Go.Proofs.Qxb6003368a

/-- zzWildSearch from the second piece on. -/
def SR (l : List UInt8) : List (List UInt8) → Nat → Prop
  | [], _ => False
  | [p], pos => pos + p.length ≤ l.length ∧ l.drop (l.length - p.length) = p
  | p :: q :: r, pos => ∃ j, pos ≤ j ∧ j + p.length ≤ l.length ∧ (l.drop j).take p.length = p ∧ SR l (q :: r) (j + p.length)

/-- the greedy search for the pieces between. -/
def GR : List (List UInt8) → List UInt8 → Prop
  | [], _ => True
  | p :: r, t => ∃ i : Nat, Lib.index t p = i ∧ GR r (t.drop (i + p.length))

/-- a placement that ends at e. -/
def PL (l : List UInt8) (e : Nat) : List (List UInt8) → Nat → Prop
  | [], pos => pos ≤ e
  | p :: r, pos => ∃ j, pos ≤ j ∧ j + p.length ≤ e ∧ (l.drop j).take p.length = p ∧ PL l e r (j + p.length)

theorem SR_cons (l p : List UInt8) (rest : List (List UInt8)) (pos : Nat) (h : rest ≠ []) :
    SR l (p :: rest) pos ↔ ∃ j, pos ≤ j ∧ j + p.length ≤ l.length ∧ (l.drop j).take p.length = p ∧ SR l rest (j + p.length) := by
  cases rest with
  | nil => exact absurd rfl h
  | cons q r => exact Iff.rfl

theorem PL_le {l : List UInt8} {e : Nat} : ∀ {m : List (List UInt8)} {pos : Nat}, PL l e m pos → pos ≤ e
  | [], _, h => h
  | p :: r, _, ⟨j, h1, h2, _, _⟩ => by omega

theorem PL_mono {l : List UInt8} {e : Nat} {m : List (List UInt8)} {pos pos' : Nat} (h : PL l e m pos') (hle : pos ≤ pos') : PL l e m pos := by
  cases m with
  | nil => exact Nat.le_trans hle h
  | cons p r =>
    obtain ⟨j, h1, h2⟩ := h
    exact ⟨j, by omega, h2⟩

theorem SR_PL (l last : List UInt8) : ∀ (m : List (List UInt8)) (pos : Nat),
    SR l (m ++ [last]) pos ↔ (last.length ≤ l.length ∧ l.drop (l.length - last.length) = last ∧ PL l (l.length - last.length) m pos)
  | [], pos => by
    show pos + last.length ≤ l.length ∧ _ ↔ last.length ≤ l.length ∧ _ ∧ pos ≤ l.length - last.length
    constructor
    · rintro ⟨h1, h2⟩; exact ⟨by omega, h2, by omega⟩
    · rintro ⟨h1, h2, h3⟩; exact ⟨by omega, h2⟩
  | p :: r, pos => by
    rw [List.cons_append, SR_cons _ _ _ _ (by simp)]
    constructor
    · rintro ⟨j, h1, h2, h3, h4⟩
      obtain ⟨a, b, c⟩ := (SR_PL l last r _).mp h4
      exact ⟨a, b, j, h1, PL_le c, h3, c⟩
    · rintro ⟨a, b, j, h1, h2, h3, h4⟩
      exact ⟨j, h1, by omega, h3, (SR_PL l last r _).mpr ⟨a, b, h4⟩⟩

theorem occ_iff (l p : List UInt8) (j : Nat) : Lib.occAt l p j = true ↔ (l.drop j).take p.length = p := by
  unfold Lib.occAt
  rw [List.isPrefixOf_iff_prefix, List.prefix_iff_eq_take]
  exact eq_comm

theorem occ_in (l p : List UInt8) (e pos i : Nat) (he : e ≤ l.length) (hp : pos ≤ e) (hi : i ≤ ((l.take e).drop pos).length) :
    Lib.occAt ((l.take e).drop pos) p i = true ↔ ((l.drop (pos + i)).take p.length = p ∧ pos + i + p.length ≤ e) := by
  rw [occ_iff, List.drop_drop]
  have hl : ((l.take e).drop pos).length = e - pos := by simp; omega
  rw [hl] at hi
  rw [List.drop_take, List.take_take]
  constructor
  · intro h
    have h1 := congrArg List.length h
    rw [List.length_take, List.length_drop] at h1
    have hle : p.length ≤ e - (pos + i) := by omega
    rw [Nat.min_eq_left hle] at h
    exact ⟨h, by omega⟩
  · rintro ⟨h, h2⟩
    rw [Nat.min_eq_left (by omega)]
    exact h

theorem PL_GR (l : List UInt8) (e : Nat) (he : e ≤ l.length) : ∀ (m : List (List UInt8)) (pos : Nat), PL l e m pos ↔ (pos ≤ e ∧ GR m ((l.take e).drop pos))
  | [], pos => ⟨fun h => ⟨h, trivial⟩, fun h => h.1⟩
  | p :: r, pos => by
    have hl : ∀ q, ((l.take e).drop q).length = e - q := fun q => by simp; omega
    constructor
    · rintro ⟨j, h1, h2, h3, h4⟩
      have hpe : pos ≤ e := by omega
      refine ⟨hpe, ?_⟩
      have hoc : Lib.occAt ((l.take e).drop pos) p (j - pos) = true := (occ_in l p e pos (j - pos) he hpe (by rw [hl]; omega)).mpr (by rw [show pos + (j - pos) = j by omega]; exact ⟨h3, h2⟩)
      rcases Lib.index_spec ((l.take e).drop pos) p with ⟨_, hn⟩ | ⟨i, hi, hile, hio, hno⟩
      · have := hn (j - pos) (by rw [hl]; omega)
        rw [hoc] at this; cases this
      · have hij : i ≤ j - pos := by
          by_cases hc : i ≤ j - pos
          · exact hc
          · have := hno (j - pos) (by omega)
            rw [hoc] at this; cases this
        obtain ⟨_, o2⟩ := (occ_in l p e pos i he hpe hile).mp hio
        have hm : PL l e r (pos + i + p.length) := PL_mono h4 (by omega)
        obtain ⟨_, g⟩ := (PL_GR l e he r _).mp hm
        refine ⟨i, hi, ?_⟩
        rw [List.drop_drop, show pos + (i + p.length) = pos + i + p.length by omega]
        exact g
    · rintro ⟨hpe, i, hi, hg⟩
      rcases Lib.index_spec ((l.take e).drop pos) p with ⟨hneg, _⟩ | ⟨i', hi', hile, hio, _⟩
      · omega
      · have : i' = i := by omega
        subst this
        obtain ⟨o1, o2⟩ := (occ_in l p e pos i' he hpe hile).mp hio
        rw [List.drop_drop, show pos + (i' + p.length) = pos + i' + p.length by omega] at hg
        exact ⟨pos + i', by omega, o2, o1, (PL_GR l e he r _).mpr ⟨by omega, hg⟩⟩

theorem pre_iff (l p : List UInt8) : Lib.hasPrefix l p = true ↔ (p.length ≤ l.length ∧ l.take p.length = p) := by
  rw [← Lib.hasPrefix_of_take]; simp
theorem suf_iff (l p : List UInt8) : Lib.hasSuffix l p = true ↔ (p.length ≤ l.length ∧ l.drop (l.length - p.length) = p) := by
  rw [← Lib.hasSuffix_of_drop]; simp

/-- THE LAW: matches and the search agree. -/
theorem wild_law (l first last : List UInt8) (m : List (List UInt8)) :
    (first.length + last.length ≤ l.length ∧ Lib.hasPrefix l first = true ∧ Lib.hasSuffix l last = true ∧ GR m ((l.drop first.length).take (l.length - last.length - first.length))) ↔
    (first.length ≤ l.length ∧ l.take first.length = first ∧ SR l (m ++ [last]) first.length) := by
  rw [pre_iff, suf_iff, SR_PL, PL_GR l _ (by omega), List.drop_take]
  constructor
  · rintro ⟨h1, ⟨h2, h3⟩, ⟨h4, h5⟩, h6⟩
    exact ⟨h2, h3, h4, h5, by omega, h6⟩
  · rintro ⟨h1, h2, h3, h4, h5, h6⟩
    exact ⟨by omega, ⟨h1, h2⟩, ⟨h3, h4⟩, h6⟩
end Go.Proofs.Qxb6003368a
