import Derived.Test.Qxb6002792aWalkF
namespace Go.Proofs.Qxb6002792a
open Go.RowKit

theorem rbytes_yes (s : ByteArray) (w : World) (hs : s.size ≤ 1048576) :
    Calls Try.prog 10 #[.string s] w fun e w' => e = .returned (.bool true) ∧ w' = w := by
  go_enter Try.func10, Try.ntmps10
  go_wp2
  go_ret
  exact ⟨rfl, rfl⟩
theorem rbytes_no (s : ByteArray) (w : World) (hs : ¬ s.size ≤ 1048576) (hm : s.size ≤ maxLen) :
    Calls Try.prog 10 #[.string s] w fun e w' => e = .returned (.bool false) ∧ w' = w := by
  unfold maxLen at hm
  have h' : (1048576 : Int) < (s.size : Int) := by omega
  go_enter Try.func10, Try.ntmps10
  go_wp2
  go_ret
  exact ⟨rfl, rfl⟩

theorem zreg_any (s : ByteArray) (m : Int) (w : World) (hs : s.size ≤ 1048576) (hm : w.cell? ⟨0, 0, none⟩ = some (.int .i64 m)) :
    Calls Try.prog 11 #[.string s] w fun e w' => ∃ res, e = .returned (.string res) ∧ Reg s res ∧ Below w.heap.size w w' := by
  have HM : Hid (w.cell? ⟨0, 0, none⟩ = some (.int .i64 m)) := hm
  clear hm
  go_enter Try.func11, Try.ntmps11
  go_wp2_with fail
  refine (reg_any s m _ hs HM.out).mono ?_
  rintro e w1 ⟨r, rfl, hr, hb⟩
  have HR : Hid (Reg s r) := hr
  clear hr
  go_wp2
  go_ret
  exact ⟨r, rfl, HR.out, hb⟩

theorem hasDC_eq (h : ByteArray) : hasDC h = (decide (0 ≤ Lib.indexByte h.data.toList 46) || decide (0 ≤ Lib.indexByte h.data.toList 58)) := by
  unfold hasDC
  generalize h.data.toList = l
  induction l with
  | nil => rfl
  | cons b l ih =>
    have g1 := Lib.indexByte_ge l 46
    have g2 := Lib.indexByte_ge l 58
    have g3 := Lib.indexAny_ge [46, 58] l
    by_cases e1 : b = 46
    · subst e1; simp [Lib.indexAny, Lib.indexByte]
    · by_cases e2 : b = 58
      · subst e2; simp [Lib.indexAny, Lib.indexByte]
      · have hc : List.contains [46, 58] b = false := by simp [e1, e2]
        have k1 : (decide (0 ≤ Lib.indexAny (b :: l) [46, 58])) = decide (0 ≤ Lib.indexAny l [46, 58]) := by
          rw [Lib.indexAny, hc]
          by_cases z : Lib.indexAny l [46, 58] = -1
          · simp [z]
          · simp [z]; omega
        have k2 : ∀ c : UInt8, ¬ b = c → -1 ≤ Lib.indexByte l c → decide (0 ≤ Lib.indexByte (b :: l) c) = decide (0 ≤ Lib.indexByte l c) := by
          intro c hbc hge
          rw [Lib.indexByte]
          by_cases z : Lib.indexByte l c = -1
          · simp [z, hbc]
          · simp [z, hbc]; omega
        rw [k1, k2 46 e1 g1, k2 58 e2 g2]
        exact ih

theorem hub_eq : (hub.toList == [105, 110, 100, 101, 120, 46, 100, 111, 99, 107, 101, 114, 46, 105, 111]) = true := by
  rw [Lib.toList_data]; rfl

theorem reg_docker (h : ByteArray) (hd : (h.toList == [100, 111, 99, 107, 101, 114, 46, 105, 111]) = true) : regOf h = hub := by
  unfold regOf; rw [if_pos (eq_of_beq hd)]
theorem reg_dc (h : ByteArray) (hd : (h.toList == [100, 111, 99, 107, 101, 114, 46, 105, 111]) = false) (hc : hasDC h = true) : regOf h = h := by
  unfold regOf; rw [if_neg (by simpa using hd), if_pos hc]
theorem reg_local (h : ByteArray) (hd : (h.toList == [100, 111, 99, 107, 101, 114, 46, 105, 111]) = false) (hl : (h.toList == [108, 111, 99, 97, 108, 104, 111, 115, 116]) = true) : regOf h = h := by
  unfold regOf; rw [if_neg (by simpa using hd)]
  split
  · rfl
  · rw [if_pos (eq_of_beq hl)]
theorem reg_none (h : ByteArray) (hd : (h.toList == [100, 111, 99, 107, 101, 114, 46, 105, 111]) = false) (hl : (h.toList == [108, 111, 99, 97, 108, 104, 111, 115, 116]) = false) (hc : hasDC h = false) : regOf h = hub := by
  unfold regOf; rw [if_neg (by simpa using hd), if_neg (by rw [hc]; decide), if_neg (by simpa using hl)]

theorem rwalk_big (s : ByteArray) (w : World) (hs : ¬ s.size ≤ 1048576) (hm : s.size ≤ maxLen) :
    Calls Try.prog 4 #[.string s] w fun e w' => e = .returned (.bool true) ∧ Below w.heap.size w w' := by
  go_enter Try.func4, Try.ntmps4
  go_wp2_with fail
  refine (rbytes_no s _ hs hm).mono ?_
  rintro e w1 ⟨rfl, rfl⟩
  go_wp2
  go_ret
  exact ⟨rfl, Below.refl _ _⟩

set_option maxHeartbeats 4000000 in
theorem rwalk (s : ByteArray) (m : Int) (w : World) (hs : s.size ≤ 1048576) (hm : w.cell? ⟨0, 0, none⟩ = some (.int .i64 m)) :
    Calls Try.prog 4 #[.string s] w fun e w' => e = .returned (.bool true) ∧ Below w.heap.size w w' := by
  have HM : Hid (w.cell? ⟨0, 0, none⟩ = some (.int .i64 m)) := hm
  clear hm
  go_enter Try.func4, Try.ntmps4
  go_wp2_with fail
  refine (rbytes_yes s _ hs).mono ?_
  rintro e w1 ⟨rfl, rfl⟩
  go_wp2_with fail
  refine (zreg_any s m _ hs HM.out).mono ?_
  rintro e w2 ⟨res, rfl, ⟨b, ⟨hbs, hl⟩, hreg⟩, hb1⟩
  have HB : Hid (Below w1.heap.size w1 w2) := hb1
  have HR : Hid ((Lib.indexByte b.data.toList 47 = -1 ∧ res = hub) ∨ (∃ i : Nat, i < b.size ∧ Lib.indexByte b.data.toList 47 = i ∧ res = regOf (b.extract 0 i))) := hreg
  clear hb1 hreg
  have hl2 : (Lib.indexByte s.data.toList 64 = -1 ∧ b = s) ∨ (∃ i : Nat, i < s.size ∧ Hid (Lib.indexByte s.data.toList 64 = i) ∧ Hid (b = s.extract 0 i)) := hl
  clear hl
  rcases hl2 with ⟨hx, hbe⟩ | ⟨i0, hi0, hx, hbe⟩
  case' inl =>
    subst hbe
    have HX : Hid (Lib.indexByte b.data.toList 64 = -1) := hx
    clear hx
    go_wp2_with fail
    refine (firstByte_of _ 64 (-1) _ (by omega) HX.out).mono ?_
    rintro e w3 ⟨rfl, rfl⟩
    go_wp2_with fail
  case' inr =>
    go_wp2_with fail
    refine (firstByte_of _ 64 i0 _ (by omega) hx.out).mono ?_
    rintro e w3 ⟨rfl, rfl⟩
    go_wp2_with fail
    rw [← hbe.out]
  all_goals
    rcases HR.out with ⟨h47, hres⟩ | ⟨i, hi, h47, hres⟩
    · refine (firstByte_of _ 47 (-1) _ (by omega) h47).mono ?_
      rintro e w3 ⟨rfl, rfl⟩
      subst hres
      clear HR h47
      go_wp2_with fail
      go_ret
      exact ⟨ret_bool hub_eq, HB.out⟩
    · refine (firstByte_of _ 47 i _ (by omega) h47).mono ?_
      rintro e w3 ⟨rfl, rfl⟩
      clear HR h47
      have hz : (b.extract 0 i).size ≤ 1048576 := by simp; omega
      cases hd : (b.extract 0 i).toList == [100, 111, 99, 107, 101, 114, 46, 105, 111]
      · cases hlo : (b.extract 0 i).toList == [108, 111, 99, 97, 108, 104, 111, 115, 116]
        · obtain ⟨x, hx46⟩ : ∃ x, Lib.indexByte (b.extract 0 i).data.toList 46 = x := ⟨_, rfl⟩
          obtain ⟨y, hy58⟩ : ∃ y, Lib.indexByte (b.extract 0 i).data.toList 58 = y := ⟨_, rfl⟩
          have HX : Hid (Lib.indexByte (b.extract 0 i).data.toList 46 = x) := hx46
          have HY : Hid (Lib.indexByte (b.extract 0 i).data.toList 58 = y) := hy58
          have hdc := hasDC_eq (b.extract 0 i)
          rw [hx46, hy58] at hdc
          clear hx46 hy58
          by_cases hx0 : 0 ≤ x
          · have hr : res = b.extract 0 i := by
              rw [hres]; exact reg_dc _ hd (by rw [hdc]; simp [hx0])
            subst hr
            clear hres hdc
            go_wp2_with fail
            refine (firstByte_of _ 46 x _ hz HX.out).mono ?_
            rintro e w3 ⟨rfl, rfl⟩
            go_wp2_with fail
            go_ret
            first | exact ⟨rfl, HB.out⟩ | exact ⟨ret_bool hub_eq, HB.out⟩
          · by_cases hy0 : 0 ≤ y
            · have hr : res = b.extract 0 i := by
                rw [hres]; exact reg_dc _ hd (by rw [hdc]; simp [hy0])
              subst hr
              clear hres hdc
              go_wp2_with fail
              refine (firstByte_of _ 46 x _ hz HX.out).mono ?_
              rintro e w3 ⟨rfl, rfl⟩
              go_wp2_with fail
              refine (firstByte_of _ 58 y _ hz HY.out).mono ?_
              rintro e w3 ⟨rfl, rfl⟩
              go_wp2_with fail
              go_ret
              first | exact ⟨rfl, HB.out⟩ | exact ⟨ret_bool hub_eq, HB.out⟩
            · have hr : res = hub := by
                rw [hres]; exact reg_none _ hd hlo (by rw [hdc]; simp; omega)
              subst hr
              clear hres hdc
              go_wp2_with fail
              refine (firstByte_of _ 46 x _ hz HX.out).mono ?_
              rintro e w3 ⟨rfl, rfl⟩
              go_wp2_with fail
              refine (firstByte_of _ 58 y _ hz HY.out).mono ?_
              rintro e w3 ⟨rfl, rfl⟩
              go_wp2_with fail
              go_ret
              first | exact ⟨rfl, HB.out⟩ | exact ⟨ret_bool hub_eq, HB.out⟩
        · have hr : res = b.extract 0 i := by
            rw [hres]; exact reg_local _ hd hlo
          subst hr
          clear hres
          go_wp2_with fail
          go_ret
          first | exact ⟨rfl, HB.out⟩ | exact ⟨ret_bool hub_eq, HB.out⟩
      · have hr : res = hub := by
          rw [hres]; exact reg_docker _ hd
        subst hr
        clear hres
        go_wp2_with fail
        go_ret
        first | exact ⟨rfl, HB.out⟩ | exact ⟨ret_bool hub_eq, HB.out⟩

theorem rwalk_any (s : ByteArray) (m : Int) (w : World) (hs : s.size ≤ maxLen) (hm : w.cell? ⟨0, 0, none⟩ = some (.int .i64 m)) :
    Calls Try.prog 4 #[.string s] w fun e w' => e = .returned (.bool true) ∧ Below w.heap.size w w' := by
  by_cases hb : s.size ≤ 1048576
  · exact rwalk s m w hb hm
  · exact rwalk_big s w hb hs
end Go.Proofs.Qxb6002792a
