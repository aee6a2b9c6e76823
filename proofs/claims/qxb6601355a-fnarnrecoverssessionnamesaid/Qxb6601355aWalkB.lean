import Derived.Test.Qxb6601355aWalkA
namespace Go.Proofs.Qxb6601355a
open Go.RowKit

theorem zarn_user (u a : ByteArray) (w : World) (ha : Hid (a = USR)) :
    Calls Try.prog 7 #[.string u, .bool false] w fun e w' => e = .returned (.string a) ∧ w' = w := by
  go_enter Try.func7, Try.ntmps7
  go_wp2_with fail
  refine (arn_user u a _ ha.out).mono ?_
  rintro e w1 ⟨rfl, rfl⟩
  go_wp2_with fail
  go_ret
  exact ⟨rfl, rfl⟩

theorem zarn_sess (u : ByteArray) (m : Int) (w : World) (hs : u.size ≤ 2097152) (hm : Hid (w.cell? ⟨0, 0, none⟩ = some (.int .i64 m))) :
    Calls Try.prog 7 #[.string u, .bool true] w fun e w' => ∃ d, e = .returned (.string d) ∧ Hid (∃ x, After u x ∧ d = PRE ++ x) ∧ ∃ n, w' = w.drewN n := by
  go_enter Try.func7, Try.ntmps7
  go_wp2_with fail
  refine (arn_sess u m _ hs hm.out).mono ?_
  rintro e w1 ⟨d, rfl, hd, n, rfl⟩
  have HD : Hid (∃ x, After u x ∧ d = PRE ++ x) := hd
  clear hd
  go_wp2_with fail
  go_ret
  exact ⟨d, rfl, HD, n, rfl⟩

theorem bytes8 (s t : ByteArray) (w : World) (hs : s.size ≤ maxLen) (ht : t.size ≤ maxLen) :
    ∃ b, (b = true → s.size ≤ 1048576 ∧ t.size ≤ 1048576) ∧ Calls Try.prog 8 #[.string s, .string t] w fun e w' => e = .returned (.bool b) ∧ w' = w := by
  unfold maxLen at hs ht
  by_cases h1 : (1048576 : Int) < (s.size : Int)
  · refine ⟨false, (fun h => by cases h), ?_⟩
    go_enter Try.func8, Try.ntmps8
    go_wp2_with fail
    go_ret
    exact ⟨rfl, rfl⟩
  · by_cases h2 : (1048576 : Int) < (t.size : Int)
    · refine ⟨false, (fun h => by cases h), ?_⟩
      go_enter Try.func8, Try.ntmps8
      go_wp2_with fail
      go_ret
      exact ⟨rfl, rfl⟩
    · by_cases h3 : (1048576 : Int) < (s.size : Int) + (t.size : Int)
      · refine ⟨false, (fun h => by cases h), ?_⟩
        go_enter Try.func8, Try.ntmps8
        go_wp2_with fail
        go_ret
        exact ⟨rfl, rfl⟩
      · refine ⟨true, (fun _ => by omega), ?_⟩
        go_enter Try.func8, Try.ntmps8
        go_wp2_with fail
        go_ret
        exact ⟨rfl, rfl⟩

theorem bytes5 (s t : ByteArray) (w : World) (hs : s.size ≤ maxLen) (ht : t.size ≤ maxLen) :
    ∃ b, (b = true → s.size ≤ 1048576 ∧ t.size ≤ 1048576) ∧ Calls Try.prog 5 #[.string s, .string t] w fun e w' => e = .returned (.bool b) ∧ w' = w := by
  unfold maxLen at hs ht
  by_cases h1 : (1048576 : Int) < (s.size : Int)
  · refine ⟨false, (fun h => by cases h), ?_⟩
    go_enter Try.func5, Try.ntmps5
    go_wp2_with fail
    go_ret
    exact ⟨rfl, rfl⟩
  · by_cases h2 : (1048576 : Int) < (t.size : Int)
    · refine ⟨false, (fun h => by cases h), ?_⟩
      go_enter Try.func5, Try.ntmps5
      go_wp2_with fail
      go_ret
      exact ⟨rfl, rfl⟩
    · by_cases h3 : (1048576 : Int) < (s.size : Int) + (t.size : Int)
      · refine ⟨false, (fun h => by cases h), ?_⟩
        go_enter Try.func5, Try.ntmps5
        go_wp2_with fail
        go_ret
        exact ⟨rfl, rfl⟩
      · refine ⟨true, (fun _ => by omega), ?_⟩
        go_enter Try.func5, Try.ntmps5
        go_wp2_with fail
        go_ret
        exact ⟨rfl, rfl⟩

theorem apart_ne (x : ByteArray) : (USR.toList == (PRE ++ x).toList) = false := by
  rw [beq_eq_false_iff_ne]
  intro h
  rw [Lib.toList_data, Lib.toList_data, ByteArray.data_append, Array.toList_append] at h
  have h8 := congrArg (fun l => l[8]?) h
  rw [List.getElem?_append_left (by decide)] at h8
  exact absurd h8 (by decide)

theorem grown_drewN (w : World) (n : Nat) : Grown w (w.drewN n) := Grown.refl w

set_option maxHeartbeats 2000000 in
theorem apart_walk (u v : ByteArray) (m : Int) (w : World) (hu : u.size ≤ maxLen) (hv : v.size ≤ maxLen) (hm : Hid (w.cell? ⟨0, 0, none⟩ = some (.int .i64 m))) :
    Calls Try.prog 4 #[.string u, .string v] w fun e w' => e = .returned (.bool true) ∧ Grown w w' := by
  obtain ⟨b, hb, hc⟩ := bytes8 u v w hu hv
  have HC : Hid (Calls Try.prog 8 #[.string u, .string v] w fun e w' => e = .returned (.bool b) ∧ w' = w) := hc
  clear hc
  unfold maxLen at hu hv
  cases b
  · go_enter Try.func4, Try.ntmps4
    go_wp2_with fail
    refine HC.out.mono ?_
    rintro e w1 ⟨rfl, rfl⟩
    go_wp2_with fail
    go_ret
    exact ⟨rfl, Grown.refl _⟩
  · obtain ⟨hb1, hb2⟩ := hb rfl
    by_cases h1 : (524288 : Int) < (u.size : Int)
    · go_enter Try.func4, Try.ntmps4
      go_wp2_with fail
      refine HC.out.mono ?_
      rintro e w1 ⟨rfl, rfl⟩
      go_wp2_with fail
      go_ret
      exact ⟨rfl, Grown.refl _⟩
    · by_cases h2 : (524288 : Int) < (v.size : Int)
      · go_enter Try.func4, Try.ntmps4
        go_wp2_with fail
        refine HC.out.mono ?_
        rintro e w1 ⟨rfl, rfl⟩
        go_wp2_with fail
        go_ret
        exact ⟨rfl, Grown.refl _⟩
      · obtain ⟨a, ha⟩ : ∃ a, Hid (a = USR) := ⟨USR, rfl⟩
        go_enter Try.func4, Try.ntmps4
        go_wp2_with fail
        refine HC.out.mono ?_
        rintro e w1 ⟨rfl, rfl⟩
        go_wp2_with fail
        refine (zarn_user u a _ ha.out).mono ?_
        rintro e w1 ⟨rfl, rfl⟩
        go_wp2_with fail
        refine (zarn_user v a _ ha.out).mono ?_
        rintro e w1 ⟨rfl, rfl⟩
        go_wp2_with fail
        refine (zarn_sess v m _ (by omega) hm.out).mono ?_
        rintro e w2 ⟨d, rfl, hd, n, rfl⟩
        have hne : (a.toList == d.toList) = false := by
          obtain ⟨x, _, hx⟩ := hd.out
          rw [ha.out, hx]
          exact apart_ne x
        go_wp2_with fail
        go_ret
        exact ⟨rfl, grown_drewN _ _⟩
end Go.Proofs.Qxb6601355a
