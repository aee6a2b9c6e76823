import Derived.Test.Qxb6003368aRows
import Derived.Test.Qxb6003368aPlain
import Derived.WalkKit
import Derived.WalkSpells
import Derived.Outline
namespace Go.Proofs.Qxb6003368a
open Go.RowKit

theorem at_get (s : ByteArray) (k : Nat) (h : k < s.size) : s.data.toList[k]? = some s[k] := by
  rw [List.getElem?_eq_getElem (by simpa using h)]; rfl
theorem ret_bool {a b : Bool} (h : a = b) : Ending.returned (.bool a) = .returned (.bool b) := by rw [h]

/-- A yes or no; the yes says F. -/
def Ans (F : Prop) (e : Ending) : Prop := ∃ b, e = .returned (.bool b) ∧ (b = true → F)

theorem dig_any (c : UInt8) (w : World) :
    Calls Try.prog 9 #[.int .u8 (c.toNat : Int)] w fun e w' => e = .returned (.bool (dg c)) ∧ w' = w := by
  go_enter Try.func9, Try.ntmps9
  go_wp2
  all_goals (go_ret; exact ⟨ret_bool (by rw [Bool.eq_iff_iff]; simp [dg]; omega), rfl⟩)

theorem dig_of (c : UInt8) (v : Bool) (w : World) (h : dg c = v) :
    Calls Try.prog 9 #[.int .u8 (c.toNat : Int)] w fun e w' => e = .returned (.bool v) ∧ w' = w := by
  subst h; exact dig_any c w

/-- a byte's place among the ranges. -/
theorem cls (c : UInt8) : ((97 : Int) ≤ (c.toNat : Int) ∧ (c.toNat : Int) ≤ 122) ∨ ((65 : Int) ≤ (c.toNat : Int) ∧ (c.toNat : Int) ≤ 90) ∨ ((48 : Int) ≤ (c.toNat : Int) ∧ (c.toNat : Int) ≤ 57) ∨
    ((c.toNat : Int) < 65 ∧ ((c.toNat : Int) < 48 ∨ 57 < (c.toNat : Int))) ∨ ((90 : Int) < (c.toNat : Int) ∧ (c.toNat : Int) < 97) ∨ ((122 : Int) < (c.toNat : Int) ∧ (90 : Int) < (c.toNat : Int)) := by
  omega

theorem bytes_yes (a : Option Addr) (n c : Nat) (s : ByteArray) (w : World) (h : n + s.size ≤ 1048576) :
    Calls Try.prog 13 #[.slice a n c, .string s] w fun e w' => e = .returned (.bool true) ∧ w' = w := by
  have h1 : ¬ (1048576 : Int) < (n : Int) := by omega
  have h2 : ¬ (1048576 : Int) < (s.size : Int) := by omega
  have h3 : ¬ (1048576 : Int) < (n : Int) + (s.size : Int) := by omega
  go_enter Try.func13, Try.ntmps13
  go_wp2
  go_ret
  exact ⟨rfl, rfl⟩
theorem bytes_no (a : Option Addr) (n c : Nat) (s : ByteArray) (w : World) (h : ¬ n + s.size ≤ 1048576) (hn : n ≤ maxLen) (hs : s.size ≤ maxLen) :
    Calls Try.prog 13 #[.slice a n c, .string s] w fun e w' => e = .returned (.bool false) ∧ w' = w := by
  unfold maxLen at hn hs
  by_cases h1 : (1048576 : Int) < (n : Int)
  · go_enter Try.func13, Try.ntmps13
    go_wp2
    go_ret
    exact ⟨rfl, rfl⟩
  · by_cases h2 : (1048576 : Int) < (s.size : Int)
    · go_enter Try.func13, Try.ntmps13
      go_wp2
      go_ret
      exact ⟨rfl, rfl⟩
    · have h3 : (1048576 : Int) < (n : Int) + (s.size : Int) := by omega
      go_enter Try.func13, Try.ntmps13
      go_wp2
      go_ret
      exact ⟨rfl, rfl⟩

set_option maxHeartbeats 1000000 in
theorem alnum_any (s : ByteArray) (w : World) (hs : s.size ≤ 1048576) :
    Calls Try.prog 14 #[.string s] w fun e w' => Ans (∀ c ∈ s.data.toList, alnumC c = true) e ∧ w' = w := by
  go_enter Try.func14, Try.ntmps14
  go_wp2
  go_loop [3] (fun i => ∃ k : Nat, k ≤ s.size ∧ i = .int .i64 k ∧ Hid (∀ j c, j < k → s.data.toList[j]? = some c → alnumC c = true)) (fun i => s.size - (intOf i).toNat)
  case atStart => exact ⟨0, Nat.zero_le _, rfl, fun j c h => by omega⟩
  case round =>
    obtain ⟨k, hk, rfl, HN⟩ := hrel
    by_cases hlt : k < s.size
    · have HG : Hid (s.data.toList[k]? = some s[k]) := at_get s k hlt
      have fin : alnumC s[k] = true → (∃ k_1 : Nat, k_1 ≤ s.size ∧ Value.int IntKind.i64 ((k : Int) + 1) = Value.int IntKind.i64 k_1 ∧ Hid (∀ (j : Nat) (c : UInt8), j < k_1 → s.data.toList[j]? = some c → alnumC c = true)) := by
        intro ha
        refine ⟨k + 1, by omega, by go_num, fun j c hj hc => ?_⟩
        by_cases e : j = k
        · subst e; rw [HG.out] at hc; rw [← Option.some.inj hc]; exact ha
        · exact HN.out j c (by omega) hc
      have FIN : Hid (alnumC s[k] = true → (∃ k_1 : Nat, k_1 ≤ s.size ∧ Value.int IntKind.i64 ((k : Int) + 1) = Value.int IntKind.i64 k_1 ∧ Hid (∀ (j : Nat) (c : UInt8), j < k_1 → s.data.toList[j]? = some c → alnumC c = true))) := fin
      clear fin
      rcases cls s[k] with ⟨hl, hu⟩ | ⟨hl, hu⟩ | ⟨hl, hu⟩ | ⟨hl, hu⟩ | ⟨hl, hu⟩ | ⟨hl, hu⟩
      · go_wp2
        go_round
        case rel => exact FIN.out (by simp [alnumC, lo]; omega)
        case measure => simp [intOf]; omega
      · go_wp2
        go_round
        case rel => exact FIN.out (by simp [alnumC, up]; omega)
        case measure => simp [intOf]; omega
      · have HD : Hid (dg s[k] = true) := by show dg _ = true; simp [dg]; omega
        go_wp2_with (go_at_call 9; refine (dig_of _ true _ HD.out).mono ?_; rintro e w' ⟨rfl, rfl⟩)
        go_round
        case rel => exact FIN.out (by simp [alnumC, HD.out])
        case measure => simp [intOf]; omega
      all_goals
        have HD : Hid (dg s[k] = false) := by show dg _ = false; simp [dg]; omega
        have d90 : (65 : Int) ≤ (s[k].toNat : Int) → decide ((s[k].toNat : Int) ≤ 90) = false := fun _ => decide_eq_false (by omega)
        have d122 : (97 : Int) ≤ (s[k].toNat : Int) → decide ((s[k].toNat : Int) ≤ 122) = false := fun _ => decide_eq_false (by omega)
        go_wp2_with (go_at_call 9; refine (dig_of _ false _ HD.out).mono ?_; rintro e w' ⟨rfl, rfl⟩)
        go_ret
        exact ⟨⟨false, rfl, fun h => by cases h⟩, rfl⟩
    · go_wp2
      go_ret
      refine ⟨⟨true, rfl, fun _ c hc => ?_⟩, rfl⟩
      obtain ⟨j, hj⟩ := List.mem_iff_getElem?.mp (Array.mem_toList_iff.mpr hc)
      have := (List.getElem?_eq_some_iff.mp hj).1
      exact HN.out j c (by simp at this; omega) hj

/-- what holds of the first k bytes in zzIsSnake's loop. -/
def SnkTo (l : List UInt8) (k : Nat) : Prop :=
  (∀ i : Nat, i < k → l[i]? = some 95 → (∀ p, i ≠ 0 → l[i - 1]? = some p → ¬ p = 95) ∧ ∃ d, l[i + 1]? = some d ∧ lo d = true) ∧
  (∀ (i : Nat) c, i < k → l[i]? = some c → ¬ c = 95 → (lo c || dg c) = true)

theorem snkTo_zero (l : List UInt8) : SnkTo l 0 := ⟨fun i h => by omega, fun i c h => by omega⟩
theorem snkTo_under {l : List UInt8} {k : Nat} (h : SnkTo l k) (h1 : l[k]? = some 95) (hp : ∀ p, k ≠ 0 → l[k - 1]? = some p → ¬ p = 95) (hd : ∃ d, l[k + 1]? = some d ∧ lo d = true) : SnkTo l (k + 1) := by
  refine ⟨fun i hi h2 => ?_, fun i c hi h2 h3 => ?_⟩
  · by_cases e : i = k
    · subst e; exact ⟨hp, hd⟩
    · exact h.1 i (by omega) h2
  · by_cases e : i = k
    · subst e; rw [h1] at h2; exact absurd (Option.some.inj h2).symm h3
    · exact h.2 i c (by omega) h2 h3
theorem snkTo_other {l : List UInt8} {k : Nat} {c : UInt8} (h : SnkTo l k) (h1 : l[k]? = some c) (hc : ¬ c = 95) (ho : (lo c || dg c) = true) : SnkTo l (k + 1) := by
  refine ⟨fun i hi h2 => ?_, fun i x hi h2 h3 => ?_⟩
  · by_cases e : i = k
    · subst e; rw [h1] at h2; exact absurd (Option.some.inj h2) hc
    · exact h.1 i (by omega) h2
  · by_cases e : i = k
    · subst e; rw [h1] at h2; rw [← Option.some.inj h2]; exact ho
    · exact h.2 i x (by omega) h2 h3

theorem u8_of {a : UInt8} {n : Nat} (h : (a.toNat : Int) = (n : Int)) (hn : n < 256) : a = UInt8.ofNat n := by
  apply UInt8.toNat_inj.mp
  rw [UInt8.toNat_ofNat']
  omega

theorem snake_mk (s : ByteArray) (hp : 0 < s.size) (hf : ((s[0].toNat : Int) == 95) = false) (h : SnkTo s.data.toList s.size) (hs : s.data.toList.contains 95 = true) : Snake s.data.toList where
  first := fun e => by
    rw [at_get s 0 hp] at e
    rw [Option.some.inj e] at hf
    exact absurd hf (by decide)
  pos := by simpa using hp
  under := fun i hi => h.1 i (by have := (List.getElem?_eq_some_iff.mp hi).1; simpa using this) hi
  other := fun i c hi => h.2 i c (by have := (List.getElem?_eq_some_iff.mp hi).1; simpa using this) hi
  seen := hs

def SeenOk (v : Value) (l : List UInt8) : Prop := ∃ b, v = .bool b ∧ (b = true → l.contains 95 = true)

set_option maxHeartbeats 2000000 in
theorem snake_any (s : ByteArray) (w : World) (hs : s.size ≤ 1048576) :
    Calls Try.prog 15 #[.string s] w fun e w' => Ans (Snake s.data.toList) e ∧ w' = w := by
  by_cases h0 : s.size = 0
  · have hz : ((s.size : Int) == 0) = true := by simp [h0]
    go_enter Try.func15, Try.ntmps15
    go_wp2
    go_ret
    exact ⟨⟨false, rfl, fun h => by cases h⟩, rfl⟩
  · have hz : ((s.size : Int) == 0) = false := beq_eq_false_iff_ne.mpr (by omega)
    have hp : 0 < s.size := by omega
    have hf1 : (0 : Int) < (s.size : Int) := by omega
    have hf2 : (0 : Int) ≤ (s.size : Int) - 1 := by omega
    cases hfirst : ((s[0].toNat : Int) == 95)
    · cases hlast : ((s[s.size - 1].toNat : Int) == 95)
      · go_enter Try.func15, Try.ntmps15
        go_wp2
        clear hz hf1 hf2
        go_loop [3, 4] (fun b i => ∃ k : Nat, k ≤ s.size ∧ i = .int .i64 k ∧ SeenOk b s.data.toList ∧ Hid (SnkTo s.data.toList k)) (fun _ i => s.size - (intOf i).toNat)
        case atStart => exact ⟨0, Nat.zero_le _, rfl, ⟨false, rfl, fun h => by cases h⟩, snkTo_zero _⟩
        case round =>
          obtain ⟨k, hk, rfl, ⟨b, rfl, hb⟩, HN⟩ := hrel
          have HBB : Hid (b = true → s.data.toList.contains 95 = true) := hb
          clear hb
          by_cases hlt : k < s.size
          · have HG : Hid (s.data.toList[k]? = some s[k]) := at_get s k hlt
            cases h95 : ((s[k].toNat : Int) == 95)
            · have hc95 : ¬ s[k] = 95 := fun e => by rw [e] at h95; exact absurd h95 (by decide)
              have HC : Hid (¬ s[k] = 95) := hc95
              clear hc95
              have hcn : SeenOk (.bool b) s.data.toList := ⟨b, rfl, HBB.out⟩
              have HCN : Hid (SeenOk (.bool b) s.data.toList) := hcn
              clear hcn hfirst hlast
              by_cases hl97 : (97 : Int) ≤ (s[k].toNat : Int)
              · by_cases hl122 : (s[k].toNat : Int) ≤ 122
                · go_wp2
                  go_round
                  case rel => exact ⟨k + 1, by omega, by go_num, HCN.out, snkTo_other HN.out HG.out HC.out (by simp [lo]; omega)⟩
                  case measure => simp [intOf]; omega
                · have d122 : decide ((s[k].toNat : Int) ≤ 122) = false := decide_eq_false hl122
                  have HD : Hid (dg s[k] = false) := by show dg _ = false; simp [dg]; omega
                  go_wp2_with (go_at_call 9; refine (dig_of _ false _ HD.out).mono ?_; rintro e w' ⟨rfl, rfl⟩)
                  go_ret
                  exact ⟨⟨false, rfl, fun h => by cases h⟩, rfl⟩
              · cases hd : dg s[k]
                · have HD : Hid (dg s[k] = false) := hd
                  clear hd
                  go_wp2_with (go_at_call 9; refine (dig_of _ false _ HD.out).mono ?_; rintro e w' ⟨rfl, rfl⟩)
                  go_ret
                  exact ⟨⟨false, rfl, fun h => by cases h⟩, rfl⟩
                · have HD : Hid (dg s[k] = true) := hd
                  clear hd
                  go_wp2_with (go_at_call 9; refine (dig_of _ true _ HD.out).mono ?_; rintro e w' ⟨rfl, rfl⟩)
                  go_round
                  case rel => exact ⟨k + 1, by omega, by go_num, HCN.out, snkTo_other HN.out HG.out HC.out (by rw [HD.out]; simp)⟩
                  case measure => simp [intOf]; omega
            · have hk0 : ¬ k = 0 := by
                intro e; subst e; rw [h95] at hfirst; cases hfirst
              have hk1 : ¬ k = s.size - 1 := by
                intro e; subst e; rw [h95] at hlast; cases hlast
              have hk0' : (1 : Int) ≤ (k : Int) := by omega
              have hk2 : (k : Int) + 1 < (s.size : Int) := by omega
              have hk3 : k + 1 < s.size := by omega
              cases hprev : ((s[k - 1].toNat : Int) == 95)
              · have HU : Hid (s.data.toList[k]? = some 95) := by
                  show _ = _; rw [HG.out, u8_of (a := s[k]) (n := 95) (by simpa using h95) (by decide)]; rfl
                have HP : Hid (∀ p, k ≠ 0 → s.data.toList[k - 1]? = some p → ¬ p = 95) := by
                  intro p _ hpp e
                  rw [at_get s (k - 1) (by omega), e] at hpp
                  rw [Option.some.inj hpp] at hprev
                  exact absurd hprev (by decide)
                have HD : Hid (s.data.toList[k + 1]? = some s[k + 1]) := at_get s (k + 1) hk3
                have hcn : SeenOk (.bool true) s.data.toList := ⟨true, rfl, fun _ => by
                  have := List.mem_of_getElem? HU.out
                  simpa using this⟩
                have HCN : Hid (SeenOk (.bool true) s.data.toList) := hcn
                clear hcn
                by_cases hl97 : (97 : Int) ≤ (s[k + 1].toNat : Int)
                · by_cases hl122 : (s[k + 1].toNat : Int) ≤ 122
                  · go_wp2
                    go_round
                    case rel => exact ⟨k + 1, by omega, by go_num, HCN.out, snkTo_under HN.out HU.out HP.out ⟨_, HD.out, lo_iff.mpr (by omega)⟩⟩
                    case measure => simp [intOf]; omega
                  · go_wp2
                    go_ret
                    exact ⟨⟨false, rfl, fun h => by cases h⟩, rfl⟩
                · go_wp2
                  go_ret
                  exact ⟨⟨false, rfl, fun h => by cases h⟩, rfl⟩
              · go_wp2
                go_ret
                exact ⟨⟨false, rfl, fun h => by cases h⟩, rfl⟩
          · go_wp2
            go_ret
            refine ⟨⟨b, rfl, fun h => ?_⟩, rfl⟩
            obtain rfl : k = s.size := by omega
            exact snake_mk s hp hfirst HN.out (HBB.out h)
      · go_enter Try.func15, Try.ntmps15
        go_wp2
        go_ret
        exact ⟨⟨false, rfl, fun h => by cases h⟩, rfl⟩
    · go_enter Try.func15, Try.ntmps15
      go_wp2
      go_ret
      exact ⟨⟨false, rfl, fun h => by cases h⟩, rfl⟩
end Go.Proofs.Qxb6003368a
