import Derived.Test.Qxb6002792aRows
import Derived.Test.Qxb6002792aPlain
import Derived.WalkKit
import Derived.WalkSpells
import Derived.Outline
namespace Go.Proofs.Qxb6002792a
open Go.RowKit

theorem ret_int {k : IntKind} {a b : Int} (h : a = b) : Ending.returned (.int k a) = .returned (.int k b) := by rw [h]

theorem at_get (s : ByteArray) (k : Nat) (h : k < s.size) : s.data.toList[k]? = some s[k] := by
  rw [List.getElem?_eq_getElem (by simpa using h)]; rfl

theorem nat_u8 {a b : UInt8} (h : (a.toNat : Int) = (b.toNat : Int)) : a = b := by
  apply UInt8.toNat_inj.mp; omega

theorem u8_lit {a : UInt8} {n : Nat} (h : (a.toNat : Int) = (n : Int)) (hn : n < 256) : a = UInt8.ofNat n := by
  apply UInt8.toNat_inj.mp
  rw [UInt8.toNat_ofNat']
  omega

set_option maxHeartbeats 400000 in
theorem firstByte_any (s : ByteArray) (c : UInt8) (w : World) (hs : s.size ≤ maxLen) :
    Calls Try.prog 7 #[.string s, .int .u8 (c.toNat : Int)] w fun e w' => e = .returned (.int .i64 (Lib.indexByte s.data.toList c)) ∧ w' = w := by
  unfold maxLen at hs
  go_enter Try.func7, Try.ntmps7
  go_wp2
  go_loop [5] (fun i => ∃ k : Nat, k ≤ s.size ∧ i = .int .i64 k ∧ (∀ j, j < k → s.data.toList[j]? ≠ some c)) (fun i => s.size - (intOf i).toNat)
  case atStart => exact ⟨0, Nat.zero_le _, rfl, fun j h => by omega⟩
  case round =>
    obtain ⟨k, hk, rfl, hn⟩ := hrel
    have HN : Hid (∀ j, j < k → s.data.toList[j]? ≠ some c) := hn
    clear hn
    by_cases hlt : k < s.size
    · have HG : Hid (s.data.toList[k]? = some s[k]) := at_get s k hlt
      by_cases heq : (s[k].toNat : Int) = (c.toNat : Int)
      · go_wp2
        go_ret
        exact ⟨ret_int (idx_hit _ _ _ (by rw [HG.out, nat_u8 heq]) HN.out).symm, rfl⟩
      · go_wp2
        go_round
        case rel =>
          refine ⟨k + 1, by omega, by go_num, fun j hj => ?_⟩
          by_cases e : j = k
          · subst e
            rw [HG.out]
            exact fun h => heq (by rw [Option.some.inj h])
          · exact HN.out j (by omega)
        case measure => simp [intOf]; omega
    · go_wp2
      go_ret
      exact ⟨ret_int (idx_miss _ _ (fun j hj => HN.out j (by simp at hj; omega))).symm, rfl⟩

set_option maxHeartbeats 400000 in
theorem tagColon_any (s : ByteArray) (w : World) (hs : s.size ≤ maxLen) :
    Calls Try.prog 9 #[.string s] w fun e w' => e = .returned (.int .i64 (tc s.data.toList s.size)) ∧ w' = w := by
  unfold maxLen at hs
  go_enter Try.func9, Try.ntmps9
  go_wp2
  go_loop [3] (fun i => ∃ k : Nat, k ≤ s.size ∧ i = .int .i64 ((k : Int) - 1) ∧ Hid (tc s.data.toList s.size = tc s.data.toList k)) (fun i => (intOf i + 1).toNat)
  case atStart => exact ⟨s.size, Nat.le_refl _, rfl, rfl⟩
  case round =>
    obtain ⟨k, hk, rfl, HN⟩ := hrel
    by_cases h0 : k = 0
    · subst h0
      go_wp2
      go_ret
      exact ⟨ret_int (by rw [HN.out]; rfl), rfl⟩
    · obtain ⟨m, rfl⟩ : ∃ m, k = m + 1 := ⟨k - 1, by omega⟩
      have hm : m < s.size := by omega
      have HG : Hid (s.data.toList[m]? = some s[m]) := at_get s m hm
      have e1 : ((m + 1 : Nat) : Int) - 1 = (m : Int) := by omega
      rw [e1]
      clear e1 h0
      by_cases h47 : (s[m].toNat : Int) = 47
      · go_wp2
        go_ret
        exact ⟨ret_int (by rw [HN.out, tc_slash (by rw [HG.out, u8_lit h47 (by decide)]; rfl)]), rfl⟩
      · by_cases h58 : (s[m].toNat : Int) = 58
        · go_wp2
          go_ret
          exact ⟨ret_int (by rw [HN.out, tc_colon (by rw [HG.out, u8_lit h58 (by decide)]; rfl)]), rfl⟩
        · go_wp2
          go_round
          case rel => exact ⟨m, by omega, by go_num, by show tc _ _ = tc _ _; rw [HN.out, tc_step (by rw [HG.out]; exact fun h => h47 (by rw [Option.some.inj h]; rfl)) (by rw [HG.out]; exact fun h => h58 (by rw [Option.some.inj h]; rfl))]⟩
          case measure => simp [intOf]

set_option maxHeartbeats 400000 in
theorem bytes_yes (s : ByteArray) (w : World) (hs : s.size ≤ 1048576) :
    Calls Try.prog 6 #[.string s] w fun e w' => e = .returned (.bool true) ∧ w' = w := by
  go_enter Try.func6, Try.ntmps6
  go_wp2
  go_ret
  exact ⟨rfl, rfl⟩
set_option maxHeartbeats 400000 in
theorem bytes_no (s : ByteArray) (w : World) (hs : ¬ s.size ≤ 1048576) (hm : s.size ≤ maxLen) :
    Calls Try.prog 6 #[.string s] w fun e w' => e = .returned (.bool false) ∧ w' = w := by
  unfold maxLen at hm
  have h' : (1048576 : Int) < (s.size : Int) := by omega
  go_enter Try.func6, Try.ntmps6
  go_wp2
  go_ret
  exact ⟨rfl, rfl⟩
end Go.Proofs.Qxb6002792a
