import Derived.Test.Qxb6002792aWalkB
namespace Go.Proofs.Qxb6002792a
open Go.RowKit

theorem zsplit_any (s : ByteArray) (m : Int) (w : World) (hs : s.size ≤ 1048576) (hm : w.cell? ⟨0, 0, none⟩ = some (.int .i64 m)) :
    Calls Try.prog 8 #[.string s] w fun e w' => ∃ r v, e = .returned (.tuple #[.string r, .string v]) ∧ r.size ≤ s.size ∧ Spl s r v ∧ ∃ n, w' = w.drewN n := by
  have h := split_any s m w hs hm
  have H : Hid (Calls Try.prog 16 #[.string s] w fun e w' => ∃ r v, e = .returned (.tuple #[.string r, .string v]) ∧ r.size ≤ s.size ∧ Spl s r v ∧ ∃ n, w' = w.drewN n) := h
  clear h
  go_enter Try.func8, Try.ntmps8
  go_wp2_with fail
  refine H.out.mono ?_
  rintro e w1 ⟨r, v, rfl, hr, hsp, n, rfl⟩
  have HS : Hid (Spl s r v) := hsp
  clear hsp
  go_wp2
  go_ret2
  exact ⟨r, v, rfl, hr, HS.out, n, rfl⟩

theorem grown_drewN (w : World) (n : Nat) : Grown w (w.drewN n) := Grown.refl w

theorem ne_more (r : ByteArray) : ((r ++ ⟨#[58]⟩).toList == r.toList) = false := by
  rw [Bool.eq_false_iff]
  intro h
  have h := congrArg List.length (eq_of_beq h)
  rw [Lib.toList_data, Lib.toList_data] at h
  simp at h

theorem walk_big (s : ByteArray) (w : World) (hs : ¬ s.size ≤ 1048576) (hm : s.size ≤ maxLen) :
    Calls Try.prog 3 #[.string s] w fun e w' => e = .returned (.bool true) ∧ Grown w w' := by
  go_enter Try.func3, Try.ntmps3
  go_wp2_with fail
  refine (bytes_no s _ hs hm).mono ?_
  rintro e w1 ⟨rfl, rfl⟩
  go_wp2
  go_ret
  exact ⟨rfl, Grown.refl _⟩

theorem walk_at (s : ByteArray) (w : World) (hs : s.size ≤ 1048576) (hat : 0 ≤ Lib.indexByte s.data.toList 64) :
    Calls Try.prog 3 #[.string s] w fun e w' => e = .returned (.bool true) ∧ Grown w w' := by
  go_enter Try.func3, Try.ntmps3
  go_wp2_with fail
  refine (bytes_yes s _ hs).mono ?_
  rintro e w1 ⟨rfl, rfl⟩
  go_wp2_with fail
  refine (firstByte_any s 64 _ (by unfold maxLen; omega)).mono ?_
  rintro e w1 ⟨rfl, rfl⟩
  go_wp2
  go_ret
  exact ⟨rfl, Grown.refl _⟩

theorem firstByte_of (s : ByteArray) (c : UInt8) (x : Int) (w : World) (hs : s.size ≤ 1048576) (hx : Lib.indexByte s.data.toList c = x) :
    Calls Try.prog 7 #[.string s, .int .u8 (c.toNat : Int)] w fun e w' => e = .returned (.int .i64 x) ∧ w' = w := by
  subst hx
  exact firstByte_any s c w (by unfold maxLen; omega)

theorem tagColon_of (s : ByteArray) (x : Int) (w : World) (hs : s.size ≤ 1048576) (hx : tc s.data.toList s.size = x) :
    Calls Try.prog 9 #[.string s] w fun e w' => e = .returned (.int .i64 x) ∧ w' = w := by
  subst hx
  exact tagColon_any s w (by unfold maxLen; omega)

theorem ba_ext {a b : ByteArray} (h : a.data.toList = b.data.toList) : a = b := by
  cases a; cases b; simp_all [Array.toList_inj]

theorem join_at (s : ByteArray) (c : Nat) (hc : c < s.size) (h : s.data.toList[c]? = some 58) : s.extract 0 c ++ ⟨#[58]⟩ ++ s.extract (c + 1) s.size = s := by
  apply ba_ext
  rw [ByteArray.data_append, ByteArray.data_append, Array.toList_append, Array.toList_append, Lib.extract_data, Lib.extract_to_end]
  simp only [List.drop_zero, Nat.sub_zero]
  have hl : c < s.data.toList.length := by simpa using hc
  have h2 : s.data.toList[c] = 58 := by
    rw [List.getElem?_eq_getElem hl] at h
    exact Option.some.inj h
  have : s.data.toList.take c ++ s.data.toList.drop c = s.data.toList := List.take_append_drop _ _
  rw [List.drop_eq_getElem_cons hl, h2] at this
  simpa using this

theorem spl_no (s r v : ByteArray) (h : Spl s r v) (hat : Lib.indexByte s.data.toList 64 = -1) :
    (r.size + 1 + v.size = s.size ∧ r ++ ⟨#[58]⟩ ++ v = s ∧ Lib.indexByte v.data.toList 47 = -1 ∧ Lib.indexByte v.data.toList 58 = -1) ∨
    (r = s ∧ v = ByteArray.empty ∧ tc s.data.toList s.size = -1) := by
  obtain ⟨b, hb, h1, h2⟩ := h
  have hbs : b = s := by
    rcases h1 with ⟨_, h⟩ | ⟨i, _, h, _⟩
    · exact h
    · omega
  subst hbs
  rcases h2 with ⟨c, hc, h58, hn, hr, hv⟩ | ⟨hn, hr, hv⟩
  · left
    have hv := hv hat
    subst hr hv
    have key : ∀ x : UInt8, (∀ j, c < j → b.data.toList[j]? ≠ some x) → Lib.indexByte (b.extract (c + 1) b.size).data.toList x = -1 := by
      intro x hx
      apply idx_miss
      intro j hj
      rw [Lib.extract_to_end, List.getElem?_drop]
      exact hx _ (by omega)
    refine ⟨by simp; omega, join_at b c hc h58, key 47 (fun j hj => (hn j hj).2), key 58 (fun j hj => (hn j hj).1)⟩
  · right
    refine ⟨hr, hv hat, ?_⟩
    rcases hn with hn | ⟨c, h47, hn⟩
    · exact tc_never _ _ (fun j _ => hn j)
    · have hl := (List.getElem?_eq_some_iff.mp h47).1
      exact tc_none _ c h47 _ (by simpa using hl) (fun j h1 _ => hn j h1)

theorem walk_no (s : ByteArray) (m : Int) (w : World) (hs : s.size ≤ 1048576) (hat : Lib.indexByte s.data.toList 64 = -1) (hm : w.cell? ⟨0, 0, none⟩ = some (.int .i64 m)) :
    Calls Try.prog 3 #[.string s] w fun e w' => e = .returned (.bool true) ∧ Grown w w' := by
  have HA : Hid (Lib.indexByte s.data.toList 64 = -1) := hat
  clear hat
  go_enter Try.func3, Try.ntmps3
  go_wp2_with fail
  refine (bytes_yes s _ hs).mono ?_
  rintro e w1 ⟨rfl, rfl⟩
  go_wp2_with fail
  refine (firstByte_of s 64 (-1) _ hs HA.out).mono ?_
  rintro e w1 ⟨rfl, rfl⟩
  go_wp2_with fail
  refine (zsplit_any s m _ hs hm).mono ?_
  rintro e w1 ⟨r, v, rfl, hr, hsp, n, rfl⟩
  rcases spl_no s r v hsp HA.out with ⟨hsz, hj, h47, h58⟩ | ⟨rfl, rfl, htc⟩
  · have HJ : Hid (r ++ ⟨#[58]⟩ ++ v = s) := hj
    have H47 : Hid (Lib.indexByte v.data.toList 47 = -1) := h47
    have H58 : Hid (Lib.indexByte v.data.toList 58 = -1) := h58
    have hv : r.size + v.size ≤ 1048576 := by omega
    have heq : ((r ++ ⟨#[58]⟩ ++ v).toList == s.toList) = true := by rw [hj]; exact beq_self_eq_true _
    clear hsp h47 h58 hj hsz
    go_wp2_with fail
    refine (firstByte_of v 47 (-1) _ (by omega) H47.out).mono ?_
    rintro e w1 ⟨rfl, rfl⟩
    go_wp2_with fail
    refine (firstByte_of v 58 (-1) _ (by omega) H58.out).mono ?_
    rintro e w1 ⟨rfl, rfl⟩
    go_wp2_with fail
    go_ret
    exact ⟨rfl, grown_drewN _ _⟩
  · have HT : Hid (tc r.data.toList r.size = -1) := htc
    have hne : ((r ++ ⟨#[58]⟩).toList == r.toList) = false := ne_more r
    clear hsp htc
    go_wp2_with fail
    refine (firstByte_of ByteArray.empty 47 (-1) _ (by decide) rfl).mono ?_
    rintro e w1 ⟨rfl, rfl⟩
    go_wp2_with fail
    refine (firstByte_of ByteArray.empty 58 (-1) _ (by decide) rfl).mono ?_
    rintro e w1 ⟨rfl, rfl⟩
    go_wp2_with fail
    refine (tagColon_of r (-1) _ hs HT.out).mono ?_
    rintro e w1 ⟨rfl, rfl⟩
    go_wp2
    go_ret
    exact ⟨rfl, grown_drewN _ _⟩

theorem walk_any (s : ByteArray) (m : Int) (w : World) (hs : s.size ≤ maxLen) (hm : w.cell? ⟨0, 0, none⟩ = some (.int .i64 m)) :
    Calls Try.prog 3 #[.string s] w fun e w' => e = .returned (.bool true) ∧ Grown w w' := by
  by_cases hb : s.size ≤ 1048576
  · by_cases hat : 0 ≤ Lib.indexByte s.data.toList 64
    · exact walk_at s w hb hat
    · have := Lib.indexByte_ge s.data.toList 64
      exact walk_no s m w hb (by omega) hm
  · exact walk_big s w hb hs
end Go.Proofs.Qxb6002792a
