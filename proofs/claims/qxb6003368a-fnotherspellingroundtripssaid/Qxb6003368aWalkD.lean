import Derived.Test.Qxb6003368aWalkC
namespace Go.Proofs.Qxb6003368a
open Go.RowKit

def restC (l : List UInt8) (k : Nat) : List UInt8 := cam (if k = 0 then none else l[k - 1]?) (l.drop k)

theorem restC_zero (l : List UInt8) : restC l 0 = cam none l := by unfold restC; rw [if_pos rfl, List.drop_zero]
theorem restC_first (s : ByteArray) (h : 0 < s.size) : [s[0]] ++ restC s.data.toList 1 = cam none s.data.toList := by
  have hd := drop_cons s 0 h
  rw [List.drop_zero] at hd
  unfold restC
  rw [if_neg (by omega), at_get s 0 h]
  conv => rhs; rw [hd]
  rw [cam_first]
  rfl
theorem restC_end (s : ByteArray) : restC s.data.toList s.size = [] := by
  unfold restC
  rw [List.drop_of_length_le (by simp)]
  cases (if s.size = 0 then none else s.data.toList[s.size - 1]?) <;> rfl
theorem restC_up (s : ByteArray) (k : Nat) (h : k + 1 < s.size) (hk : 1 ≤ k) (hc : s[k] = 95) (hp : ¬ s[k - 1] = 95) (hd : lo s[k + 1] = true) :
    restC s.data.toList k = (s[k + 1] - 32) :: restC s.data.toList (k + 2) := by
  unfold restC
  rw [if_neg (by omega), if_neg (by omega), at_get s (k - 1) (by omega), show k + 2 - 1 = k + 1 by omega, at_get s (k + 1) h, drop_cons s k (by omega), drop_cons s (k + 1) h]
  exact cam_up _ _ _ _ hc hp hd
theorem restC_same (s : ByteArray) (k : Nat) (h : k < s.size) (hk : 1 ≤ k) (hno : ¬ (s[k] = 95 ∧ ¬ s[k - 1] = 95 ∧ ∃ h1 : k + 1 < s.size, lo s[k + 1] = true)) :
    restC s.data.toList k = s[k] :: restC s.data.toList (k + 1) := by
  unfold restC
  rw [if_neg (by omega), if_neg (by omega), at_get s (k - 1) (by omega), show k + 1 - 1 = k by omega, at_get s k h, drop_cons s k h]
  by_cases h1 : k + 1 < s.size
  · rw [drop_cons s (k + 1) h1]
    apply cam_same
    rintro ⟨a, _, b, c⟩
    exact hno ⟨a, fun e => b (by rw [e]), h1, c⟩
  · rw [List.drop_of_length_le (by simp; omega), cam_end]
    rfl
theorem acc_leC (s : ByteArray) (k : Nat) (acc : List UInt8) (h : acc ++ restC s.data.toList k = cam none s.data.toList) : acc.length ≤ 2 * s.size := by
  have h1 := congrArg List.length h
  have h2 := cam_length none s.data.toList
  rw [List.length_append] at h1
  have h3 : s.data.toList.length = s.size := by simp
  omega

theorem ways (s : ByteArray) (k : Nat) (h : k < s.size) (hk : 1 ≤ k) (hgo : ¬ (s[k] = 95 ∧ ¬ s[k - 1] = 95 ∧ ∃ h1 : k + 1 < s.size, lo s[k + 1] = true)) :
    (((s[k].toNat : Int) == 95) = false) ∨
    (((s[k].toNat : Int) == 95) = true ∧ ((s[k - 1].toNat : Int) != 95) = false) ∨
    (((s[k].toNat : Int) == 95) = true ∧ ((s[k - 1].toNat : Int) != 95) = true ∧ ¬ ((k : Int) + 1 < (s.size : Int))) ∨
    (((s[k].toNat : Int) == 95) = true ∧ ((s[k - 1].toNat : Int) != 95) = true ∧ ((k : Int) + 1 < (s.size : Int)) ∧ ∃ h1 : k + 1 < s.size, ¬ (97 : Int) ≤ (s[k + 1].toNat : Int)) ∨
    (((s[k].toNat : Int) == 95) = true ∧ ((s[k - 1].toNat : Int) != 95) = true ∧ ((k : Int) + 1 < (s.size : Int)) ∧ ∃ h1 : k + 1 < s.size, (97 : Int) ≤ (s[k + 1].toNat : Int) ∧ decide ((s[k + 1].toNat : Int) ≤ 122) = false) := by
  by_cases h1 : ((s[k].toNat : Int) == 95) = true
  · right
    by_cases h2 : ((s[k - 1].toNat : Int) != 95) = true
    · right
      by_cases h3 : k + 1 < s.size
      · right
        by_cases h4 : (97 : Int) ≤ (s[k + 1].toNat : Int)
        · right
          refine ⟨h1, h2, by omega, h3, h4, decide_eq_false fun h5 => hgo ⟨?_, ?_, h3, lo_iff.mpr (by omega)⟩⟩
          · rw [u8_of (a := s[k]) (n := 95) (by simpa using h1) (by decide)]; rfl
          · intro e; rw [e] at h2; exact absurd h2 (by decide)
        · exact .inl ⟨h1, h2, by omega, h3, h4⟩
      · exact .inl ⟨h1, h2, by omega⟩
    · exact .inl ⟨h1, by simpa using h2⟩
  · exact .inl (by simpa using h1)

set_option maxHeartbeats 4000000 in
set_option maxRecDepth 100000 in
theorem app_camel (ao : Option Addr) (xs : List UInt8) (s : ByteArray) (w : World) (hs : s.size ≤ 2097152) (hx : xs.length ≤ 1048576) (hc : Hid (Came w ao xs))
    (hno : Hid (s.data.toList.contains 95 = true)) :
    Calls Try.prog 26 #[.slice ao xs.length xs.length, .string s] w fun e w' => ∃ v acc k, e = .returned v ∧ acc = cam none s.data.toList ∧ Dst w (.slice ao xs.length xs.length) xs k acc v w' := by
  obtain ⟨i0, hi, hz0, hz1, hz2⟩ := info_parts info5
  go_enter Try.func26, Try.ntmps26
  go_wp2_with fail
  refine (contains95 s true _ hno.out).mono ?_
  rintro e w1 ⟨rfl, rfl⟩
  go_wp2_with fail
  go_loopw [0, 5] (fun v i wr => ∃ (k : Nat) (acc : List UInt8), k ≤ s.size ∧ i = .int .i64 k ∧ Hid (Dst w1 (.slice ao xs.length xs.length) xs k acc v wr) ∧ Hid (acc ++ restC s.data.toList k = cam none s.data.toList)) (fun _ i _ => s.size - (intOf i).toNat)
  case atStart => exact ⟨0, [], Nat.zero_le _, rfl, .inl ⟨rfl, rfl, rfl, rfl⟩, by show _ = _; rw [restC_zero]; rfl⟩
  case round =>
    obtain ⟨k, acc, hk, rfl, HD, HA⟩ := hrel
    by_cases hlt : k < s.size
    · rcases HD.out with ⟨hk0, ha0, hv0, hw0⟩ | ⟨hk1, hown, hbel⟩
      · subst hk0 ha0 hv0 hw0
        cases h95 : ((s[0].toNat : Int) == 95)
        all_goals
          go_wp2_with (at_builtin; refine wpList_append_grows _ rfl (.tmp 90) (.tmp 92) 28 rfl 5 i0 (.int .u8 0) 1 1 Try.underlying28 hi hz0 hz1 hz2 rfl (by decide) ao xs.length xs.length (u8s xs) rfl (came_none hc.out) (u8s_len1 xs) (came_alloc hc.out _) ⟨wr.heap.size, 0, none⟩ 1 1 [.int .u8 (s[0].toNat : Int)] rfl rfl (cell_one_new _ _ _) (one_cell _) (by omega) (by unfold maxLen; omega) (by omega) ?_)
          intro v1 w2 hown hgrow
          have HD2 : Hid (Dst wr (.slice ao xs.length xs.length) xs 1 [s[0]] v1 w2) := dst_first hown hgrow 1 (Nat.le_refl _)
          clear hown hgrow HD
          go_wp2
          go_roundw
          case rel => exact ⟨1, [s[0]], by omega, by go_num, HD2.out, restC_first s hlt⟩
          case measure => simp [intOf]; omega
      · clear HD
        have HLA : Hid (acc.length ≤ 2 * s.size) := acc_leC s k acc HA.out
        have hla := HLA.out
        have hkp : (0 : Int) < (k : Int) := by omega
        by_cases hgo : s[k] = 95 ∧ ¬ s[k - 1] = 95 ∧ ∃ h1 : k + 1 < s.size, lo s[k + 1] = true
        · obtain ⟨g1, g2, g3, g4⟩ := hgo
          have G1 : Hid (s[k] = 95) := g1
          have G2 : Hid (¬ s[k - 1] = 95) := g2
          have G4 : Hid (lo s[k + 1] = true) := g4
          have t1 : ((s[k].toNat : Int) == 95) = true := by rw [g1]; rfl
          have t2 : ((s[k - 1].toNat : Int) != 95) = true := bne_iff_ne.mpr (fun e => g2 (by rw [u8_of (a := s[k - 1]) (n := 95) e (by decide)]; rfl))
          have t3 : (k : Int) + 1 < (s.size : Int) := by omega
          have t4 : (97 : Int) ≤ (s[k + 1].toNat : Int) := by have := lo_iff.mp g4; omega
          have t5 : (s[k + 1].toNat : Int) ≤ 122 := by have := lo_iff.mp g4; omega
          clear g1 g2 g4
          go_wp2_with (at_builtin; refine wpList_append_own _ rfl (.tmp 90) (.tmp 92) 28 rfl w1.heap.size 5 i0 (.int .u8 0) 1 1 Try.underlying28 hi hz0 hz1 hz2 rfl (by decide) _ (xs.length + acc.length) (u8s (xs ++ acc)) rfl (hown.alloc _) ⟨wr.heap.size, 0, none⟩ 1 1 [.int .u8 ((s[k + 1].toNat : Int) - 97 + 65)] rfl rfl (cell_one_new _ _ _) (one_cell _) (by unfold maxLen; omega) (by omega) (by have := hbel.size; simp; omega) ?_)
          intro v1 w2 hown2 hgrow2 _
          have HD2 : Hid (Dst w1 (.slice ao xs.length xs.length) xs (k + 2) (acc ++ [s[k + 1] - 32]) v1 w2) := dst_later (by have := sub32_toNat (c := s[k + 1]) (by omega); omega) hbel hown hown2 hgrow2 (k + 2) (by omega)
          clear hown2 hgrow2 hown hbel
          go_wp2
          go_roundw
          case rel => exact ⟨k + 2, acc ++ [s[k + 1] - 32], by omega, by go_num, HD2.out, by show _ = _; rw [← HA.out, restC_up s k g3 hk1 G1.out G2.out G4.out]; simp⟩
          case measure => simp [intOf]; omega
        · have HG : Hid (¬ (s[k] = 95 ∧ ¬ s[k - 1] = 95 ∧ ∃ h1 : k + 1 < s.size, lo s[k + 1] = true)) := hgo
          have hways := ways s k hlt hk1 hgo
          clear hgo
          rcases hways with t1 | ⟨t1, t2⟩ | ⟨t1, t2, t3⟩ | ⟨t1, t2, t3, t4, t5⟩ | ⟨t1, t2, t3, t4, t5, t6⟩
          all_goals
            go_wp2_with (at_builtin; refine wpList_append_own _ rfl (.tmp 90) (.tmp 92) 28 rfl w1.heap.size 5 i0 (.int .u8 0) 1 1 Try.underlying28 hi hz0 hz1 hz2 rfl (by decide) _ (xs.length + acc.length) (u8s (xs ++ acc)) rfl (hown.alloc _) ⟨wr.heap.size, 0, none⟩ 1 1 [.int .u8 (s[k].toNat : Int)] rfl rfl (cell_one_new _ _ _) (one_cell _) (by unfold maxLen; omega) (by omega) (by have := hbel.size; simp; omega) ?_)
            intro v1 w2 hown2 hgrow2 _
            have HD2 : Hid (Dst w1 (.slice ao xs.length xs.length) xs (k + 1) (acc ++ [s[k]]) v1 w2) := dst_later rfl hbel hown hown2 hgrow2 (k + 1) (by omega)
            clear hown2 hgrow2 hown hbel
            go_wp2
            go_roundw
            case rel => exact ⟨k + 1, acc ++ [s[k]], by omega, by go_num, HD2.out, by show _ = _; rw [← HA.out, restC_same s k hlt hk1 HG.out]; simp⟩
            case measure => simp [intOf]; omega
    · obtain rfl : k = s.size := by omega
      go_wp2_with fail
      go_ret
      have ha := HA.out
      rw [restC_end, List.append_nil] at ha
      exact ⟨_, acc, s.size, rfl, ha, HD.out⟩
end Go.Proofs.Qxb6003368a
