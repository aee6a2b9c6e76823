import Derived.Lib.Strings
namespace Go.Proofs.Qxb6003368a

def up (c : UInt8) : Bool := decide (65 ≤ c.toNat) && decide (c.toNat ≤ 90)
def lo (c : UInt8) : Bool := decide (97 ≤ c.toNat) && decide (c.toNat ≤ 122)
def dg (c : UInt8) : Bool := decide (48 ≤ c.toNat) && decide (c.toNat ≤ 57)
def alnumC (c : UInt8) : Bool := lo c || up c || dg c

/-- camel to snake, behind the first byte. -/
def snk : List UInt8 → List UInt8
  | [] => []
  | c :: t => if up c then 95 :: (c + 32) :: snk t else c :: snk t
def toSnake : List UInt8 → List UInt8
  | [] => []
  | c :: t => c :: snk t

/-- snake to camel; the byte ahead. -/
def cam : Option UInt8 → List UInt8 → List UInt8
  | _, [] => []
  | _, [c] => [c]
  | p, c :: d :: t => if c == 95 && p.isSome && p != some 95 && lo d then (d - 32) :: cam (some d) t else c :: cam (some c) (d :: t)

def sp (l : List UInt8) : List UInt8 := if l.contains 95 then cam none l else toSnake l

theorem lo_iff {c : UInt8} : lo c = true ↔ 97 ≤ c.toNat ∧ c.toNat ≤ 122 := by simp [lo]
theorem up_iff {c : UInt8} : up c = true ↔ 65 ≤ c.toNat ∧ c.toNat ≤ 90 := by simp [up]
theorem dg_iff {c : UInt8} : dg c = true ↔ 48 ≤ c.toNat ∧ c.toNat ≤ 57 := by simp [dg]

theorem ne95 {c : UInt8} (h : c.toNat ≠ 95) : ¬ c = 95 := fun e => h (by rw [e]; rfl)

theorem add32_toNat {c : UInt8} (h : c.toNat ≤ 90) : (c + 32).toNat = c.toNat + 32 := by
  rw [UInt8.toNat_add]; show (c.toNat + 32) % 256 = _; omega
theorem sub32_toNat {c : UInt8} (h : 97 ≤ c.toNat) : (c - 32).toNat = c.toNat - 32 := by
  rw [UInt8.toNat_sub_of_le]
  · rfl
  · rw [UInt8.le_iff_toNat_le]; show 32 ≤ _; omega
theorem add_sub32 (c : UInt8) : c + 32 - 32 = c := by
  apply UInt8.toNat_inj.mp
  rw [UInt8.toNat_sub, UInt8.toNat_add]
  have := c.toNat_lt
  show (2 ^ 8 - 32 + (c.toNat + 32) % 2 ^ 8) % 2 ^ 8 = _
  omega
theorem sub_add32 (c : UInt8) : c - 32 + 32 = c := by
  apply UInt8.toNat_inj.mp
  rw [UInt8.toNat_add, UInt8.toNat_sub]
  have := c.toNat_lt
  show ((2 ^ 8 - 32 + c.toNat) % 2 ^ 8 + 32) % 2 ^ 8 = _
  omega

theorem cam_plain (p : Option UInt8) (c : UInt8) (t : List UInt8) (h : ¬ c = 95) : cam p (c :: t) = c :: cam (some c) t := by
  cases t with
  | nil => simp [cam]
  | cons d t => simp [cam, h]
theorem cam_first (c : UInt8) (t : List UInt8) : cam none (c :: t) = c :: cam (some c) t := by
  cases t with
  | nil => simp [cam]
  | cons d t => simp [cam]
theorem cam_up (p c d : UInt8) (t : List UInt8) (hc : c = 95) (hp : ¬ p = 95) (hd : lo d = true) : cam (some p) (c :: d :: t) = (d - 32) :: cam (some d) t := by
  simp [cam, hc, hp, hd]
theorem cam_same (p : Option UInt8) (c d : UInt8) (t : List UInt8) (h : ¬ (c = 95 ∧ p.isSome = true ∧ p ≠ some 95 ∧ lo d = true)) : cam p (c :: d :: t) = c :: cam (some c) (d :: t) := by
  rw [cam, if_neg]
  intro e
  simp only [Bool.and_eq_true, beq_iff_eq, bne_iff_ne] at e
  exact h ⟨e.1.1.1, e.1.1.2, e.1.2, e.2⟩
theorem cam_end (p : Option UInt8) (c : UInt8) : cam p [c] = [c] := by simp [cam]

theorem alnum_ne {c : UInt8} (h : alnumC c = true) : ¬ c = 95 := by
  intro e; subst e; exact absurd h (by decide)

/-- back from snake, behind the first byte. -/
theorem cam_snk : ∀ (t : List UInt8) (p : UInt8), ¬ p = 95 → (∀ c ∈ t, alnumC c = true) → cam (some p) (snk t) = t
  | [], _, _, _ => by simp [snk, cam]
  | c :: t, p, hp, h => by
    have hc := h c (by simp)
    have ht : ∀ c ∈ t, alnumC c = true := fun x hx => h x (by simp [hx])
    by_cases hu : up c = true
    · rw [snk, if_pos hu]
      have hu' := up_iff.mp hu
      have e := add32_toNat hu'.2
      rw [cam_up p 95 (c + 32) _ rfl hp (lo_iff.mpr (by omega)), add_sub32, cam_snk t (c + 32) (ne95 (by omega)) ht]
    · rw [snk, if_neg hu, cam_plain _ _ _ (alnum_ne hc), cam_snk t c (alnum_ne hc) ht]

theorem snk_id : ∀ (t : List UInt8), (snk t).contains 95 = false → snk t = t
  | [], _ => rfl
  | c :: t, h => by
    by_cases hu : up c = true
    · rw [snk, if_pos hu] at h; simp at h
    · rw [snk, if_neg hu] at h ⊢
      rw [snk_id t (by simp at h ⊢; exact h.2)]

theorem no95 (l : List UInt8) (h : ∀ c ∈ l, alnumC c = true) : l.contains 95 = false := by
  rw [Bool.eq_false_iff]
  intro e
  have : (95 : UInt8) ∈ l := by simpa using e
  exact absurd (h _ this) (by decide)

/-- THE LAW, camel: there and back. -/
theorem back_camel (l : List UInt8) (h : ∀ c ∈ l, alnumC c = true) : sp (sp l) = l := by
  have e1 : sp l = toSnake l := by unfold sp; rw [no95 l h]; rfl
  rw [e1]
  cases l with
  | nil => rfl
  | cons c t =>
    have hc := h c (by simp)
    have ht : ∀ c ∈ t, alnumC c = true := fun x hx => h x (by simp [hx])
    unfold sp
    cases hk : (toSnake (c :: t)).contains 95
    · have hs : (snk t).contains 95 = false := by
        rw [toSnake] at hk
        simp at hk ⊢
        exact hk.2
      have : toSnake (c :: t) = c :: t := by rw [toSnake, snk_id t hs]
      rw [this]
      exact this
    · show cam none (toSnake (c :: t)) = c :: t
      rw [toSnake, cam_first, cam_snk t c (alnum_ne hc) ht]

/-- What zzIsSnake's yes says. -/
structure Snake (l : List UInt8) : Prop where
  first : l[0]? ≠ some 95
  pos : 0 < l.length
  under : ∀ i : Nat, l[i]? = some 95 → (∀ p, i ≠ 0 → l[i - 1]? = some p → ¬ p = 95) ∧ ∃ d, l[i + 1]? = some d ∧ lo d = true
  other : ∀ (i : Nat) c, l[i]? = some c → ¬ c = 95 → (lo c || dg c) = true
  seen : l.contains 95 = true

theorem snake_from (l : List UInt8) (H : Snake l) : ∀ (m i : Nat) (p : UInt8), l.length - i ≤ m → 1 ≤ i → i ≤ l.length → l[i - 1]? = some p →
    (∀ c ∈ cam (some p) (l.drop i), ¬ c = 95) ∧ snk (cam (some p) (l.drop i)) = l.drop i
  | m, i, p, hm, h1, hi, hp => by
    by_cases he : i = l.length
    · rw [List.drop_of_length_le (by omega)]
      exact ⟨by simp [cam], by simp [cam, snk]⟩
    · match m, hm with
      | 0, hm => omega
      | m + 1, hm =>
        have hlt : i < l.length := by omega
        have hd : l.drop i = l[i] :: l.drop (i + 1) := List.drop_eq_getElem_cons hlt
        have hgi : l[i]? = some l[i] := List.getElem?_eq_getElem hlt
        by_cases h95 : l[i] = 95
        · obtain ⟨hpn, d, hd1, hdl⟩ := H.under i (by rw [hgi, h95])
          have hp95 := hpn p (by omega) hp
          have hlt2 : i + 1 < l.length := (List.getElem?_eq_some_iff.mp hd1).1
          have hd2 : l.drop (i + 1) = d :: l.drop (i + 2) := by
            rw [List.drop_eq_getElem_cons hlt2]
            rw [List.getElem?_eq_getElem hlt2] at hd1
            rw [Option.some.inj hd1]
          obtain ⟨a1, a2⟩ := snake_from l H m (i + 2) d (by omega) (by omega) (by omega) (by show l[i + 1]? = _; exact hd1)
          have hl := lo_iff.mp hdl
          have e32 := sub32_toNat (c := d) (by omega)
          rw [hd, hd2, cam_up p _ d _ h95 hp95 hdl]
          refine ⟨fun c hc => ?_, ?_⟩
          · rcases List.mem_cons.mp hc with rfl | hc
            · exact ne95 (by omega)
            · exact a1 c hc
          · rw [snk, if_pos (up_iff.mpr (by omega)), a2, sub_add32, h95]
        · have ho := H.other i l[i] hgi h95
          obtain ⟨a1, a2⟩ := snake_from l H m (i + 1) l[i] (by omega) (by omega) (by omega) (by show l[i]? = _; exact hgi)
          rw [hd, cam_plain _ _ _ h95]
          refine ⟨fun c hc => ?_, ?_⟩
          · rcases List.mem_cons.mp hc with rfl | hc
            · exact h95
            · exact a1 c hc
          · have hnu : ¬ up l[i] = true := by
              intro hu
              have hu := up_iff.mp hu
              simp only [Bool.or_eq_true, lo_iff, dg_iff] at ho
              omega
            rw [snk, if_neg hnu, a2]

/-- THE LAW, snake: there is no '_' in the other spelling, and back. -/
theorem back_snake (l : List UInt8) (H : Snake l) : (∀ c ∈ sp l, ¬ c = 95) ∧ sp (sp l) = l := by
  have e1 : sp l = cam none l := by unfold sp; rw [H.seen]; rfl
  have hpos := H.pos
  match l, H, e1, hpos with
  | [], _, _, hpos => simp at hpos
  | c :: t, H, e1, _ =>
    have hc : ¬ c = 95 := fun e => H.first (by rw [e]; rfl)
    obtain ⟨a1, a2⟩ := snake_from (c :: t) H (c :: t).length 1 c (by omega) (by omega) (by simp) rfl
    simp only [List.drop_succ_cons, List.drop_zero] at a1 a2
    rw [e1, cam_first]
    have hno : ∀ x ∈ c :: cam (some c) t, ¬ x = 95 := fun x hx => by
      rcases List.mem_cons.mp hx with rfl | hx
      · exact hc
      · exact a1 x hx
    refine ⟨hno, ?_⟩
    unfold sp
    have : (c :: cam (some c) t).contains 95 = false := by
      rw [Bool.eq_false_iff]
      intro e
      have : (95 : UInt8) ∈ c :: cam (some c) t := by simpa using e
      exact hno _ this rfl
    rw [this]
    show toSnake (c :: cam (some c) t) = c :: t
    rw [toSnake, a2]

theorem snk_length : ∀ l : List UInt8, (snk l).length ≤ 2 * l.length
  | [] => by simp [snk]
  | c :: t => by
    have := snk_length t
    rw [snk]; split <;> simp <;> omega
theorem toSnake_length (l : List UInt8) : (toSnake l).length ≤ 2 * l.length := by
  cases l with
  | nil => simp [toSnake]
  | cons c t => have := snk_length t; simp [toSnake]; omega
theorem cam_length : ∀ (p : Option UInt8) (l : List UInt8), (cam p l).length ≤ l.length
  | _, [] => by simp [cam]
  | _, [c] => by simp [cam]
  | p, c :: d :: t => by
    have h1 := cam_length (some d) t
    have h2 := cam_length (some c) (d :: t)
    rw [cam]; split
    · simp; omega
    · simp at h2 ⊢; omega
theorem sp_length (l : List UInt8) : (sp l).length ≤ 2 * l.length := by
  unfold sp; split
  · have := cam_length none l; omega
  · exact toSnake_length l
end Go.Proofs.Qxb6003368a
