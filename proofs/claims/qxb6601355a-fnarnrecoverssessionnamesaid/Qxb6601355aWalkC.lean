import Derived.Test.Qxb6601355aWalkB
namespace Go.Proofs.Qxb6601355a
open Go.RowKit

theorem at_get (s : ByteArray) (k : Nat) (h : k < s.size) : s.data.toList[k]? = some s[k] := by
  rw [List.getElem?_eq_getElem (by simpa using h)]; rfl
theorem u8_of {a : UInt8} {n : Nat} (h : (a.toNat : Int) = (n : Int)) (hn : n < 256) : a = UInt8.ofNat n := by
  apply UInt8.toNat_inj.mp
  rw [UInt8.toNat_ofNat']
  omega
theorem ba_ext {a b : ByteArray} (h : a.data.toList = b.data.toList) : a = b := by
  cases a; cases b; simp_all [Array.toList_inj]

theorem idx_hit : ∀ (l : List UInt8) (c : UInt8) (k : Nat), l[k]? = some c → (∀ j, j < k → l[j]? ≠ some c) → Lib.indexByte l c = k
  | [], _, k, h, _ => by simp at h
  | b :: l, c, 0, h, _ => by
    have hb : b = c := by simpa using h
    simp [Lib.indexByte, hb]
  | b :: l, c, k + 1, h, hn => by
    have hb : ¬ b = c := fun e => hn 0 (by omega) (by simp [e])
    have ih := idx_hit l c k (by simpa using h) (fun j hj => by have := hn (j + 1) (by omega); simpa using this)
    simp only [Lib.indexByte, beq_iff_eq, hb, if_false, ih]
    rw [if_neg (by omega)]
    omega

def NoColon (s : ByteArray) : Prop := ∀ j : Nat, s.data.toList[j]? ≠ some 58

def Ans (F : Prop) (e : Ending) : Prop := ∃ b, e = .returned (.bool b) ∧ (b = false → F)

set_option maxHeartbeats 1000000 in
theorem colon_any (s : ByteArray) (w : World) (hs : s.size ≤ 1048576) :
    Calls Try.prog 6 #[.string s] w fun e w' => Ans (NoColon s) e ∧ w' = w := by
  go_enter Try.func6, Try.ntmps6
  go_wp2_with fail
  go_loop [3] (fun i => ∃ k : Nat, k ≤ s.size ∧ i = .int .i64 k ∧ Hid (∀ j, j < k → s.data.toList[j]? ≠ some 58)) (fun i => s.size - (intOf i).toNat)
  case atStart => exact ⟨0, Nat.zero_le _, rfl, fun j h => by omega⟩
  case round =>
    obtain ⟨k, hk, rfl, HN⟩ := hrel
    by_cases hlt : k < s.size
    · have hlt' : (k : Int) < (s.size : Int) := by omega
      cases h58 : ((s[k].toNat : Int) == 58)
      · have HK : Hid (s.data.toList[k]? ≠ some 58) := by
          show _ ≠ _
          rw [at_get s k hlt]
          intro e
          rw [Option.some.inj e] at h58
          exact absurd h58 (by decide)
        go_wp2_with fail
        go_round
        case rel =>
          refine ⟨k + 1, by omega, by go_num, fun j hj => ?_⟩
          by_cases e : j = k
          · subst e; exact HK.out
          · exact HN.out j (by omega)
        case measure => simp [intOf]; omega
      · go_wp2_with fail
        go_ret
        exact ⟨⟨true, rfl, fun h => by cases h⟩, rfl⟩
    · have hlt' : ¬ (k : Int) < (s.size : Int) := by omega
      go_wp2_with fail
      go_ret
      refine ⟨⟨false, rfl, fun _ j hj => ?_⟩, rfl⟩
      have hl := (List.getElem?_eq_some_iff.mp hj).1
      simp at hl
      exact HN.out j (by omega) hj

/-- behind the first ':' of role ':' name stands the name. -/
theorem after_name (r nm x : ByteArray) (hr : NoColon r) (h : After (r ++ ⟨#[58]⟩ ++ nm) x) : x = nm := by
  have hl : (r ++ ⟨#[58]⟩ ++ nm).data.toList = r.data.toList ++ (58 :: nm.data.toList) := by
    rw [ByteArray.data_append, ByteArray.data_append, Array.toList_append, Array.toList_append]
    simp
  have hrl : r.data.toList.length = r.size := by simp
  have hidx : Lib.indexByte (r ++ ⟨#[58]⟩ ++ nm).data.toList 58 = r.size := by
    rw [hl]
    apply idx_hit
    · rw [List.getElem?_append_right (by omega), hrl]; simp
    · intro j hj
      rw [List.getElem?_append_left (by omega)]
      exact hr j
  rcases h with ⟨h, _⟩ | ⟨i, _, h, rfl⟩
  · omega
  · have : i = r.size := by omega
    subst this
    apply ba_ext
    rw [Lib.extract_to_end, hl, show r.size + 1 = r.data.toList.length + 1 by omega, List.drop_append]; simp

theorem pre_size : PRE.size = 54 := rfl
theorem got_head (nm : ByteArray) : (((PRE ++ nm).extract 0 54).toList == [97, 114, 110, 58, 97, 119, 115, 58, 115, 116, 115, 58, 58, 49, 50, 51, 52, 53, 54, 55, 56, 57, 48, 49, 50, 58, 97, 115, 115, 117, 109, 101, 100, 45, 114, 111, 108, 101, 47, 97, 119, 115, 116, 101, 115, 116, 45, 114, 117, 110, 110, 101, 114, 47]) = true := by
  rw [beq_iff_eq, Lib.extract_toList, ByteArray.data_append, Array.toList_append, List.drop_zero, Nat.sub_zero]
  rw [List.take_append_of_le_length (by decide)]
  rfl
theorem got_tail (nm : ByteArray) : (((PRE ++ nm).extract 54 (PRE ++ nm).size).toList == nm.toList) = true := by
  rw [beq_iff_eq, Lib.toList_data, Lib.toList_data, Lib.extract_to_end, ByteArray.data_append, Array.toList_append]
  rw [List.drop_append_of_le_length (by decide)]
  rfl
theorem got_size (nm : ByteArray) : (PRE ++ nm).size = 54 + nm.size := by
  rw [ByteArray.size_append]; rfl

theorem join_size (r nm : ByteArray) (h1 : r.size ≤ 524288) (h2 : nm.size ≤ 524288) : (r ++ ⟨#[58]⟩ ++ nm).size ≤ 2097152 := by
  have e : (⟨#[58]⟩ : ByteArray).size = 1 := rfl
  rw [ByteArray.size_append, ByteArray.size_append, e]
  omega

set_option maxHeartbeats 2000000 in
theorem name_walk (r nm : ByteArray) (m : Int) (w : World) (hu : r.size ≤ maxLen) (hv : nm.size ≤ maxLen) (hm : Hid (w.cell? ⟨0, 0, none⟩ = some (.int .i64 m))) :
    Calls Try.prog 3 #[.string r, .string nm] w fun e w' => e = .returned (.bool true) ∧ Grown w w' := by
  obtain ⟨b, hb, hc⟩ := bytes5 r nm w hu hv
  have HC : Hid (Calls Try.prog 5 #[.string r, .string nm] w fun e w' => e = .returned (.bool b) ∧ w' = w) := hc
  clear hc
  unfold maxLen at hu hv
  cases b
  · go_enter Try.func3, Try.ntmps3
    go_wp2_with fail
    refine HC.out.mono ?_
    rintro e w1 ⟨rfl, rfl⟩
    go_wp2_with fail
    go_ret
    exact ⟨rfl, Grown.refl _⟩
  · obtain ⟨hb1, hb2⟩ := hb rfl
    clear hb
    by_cases h1 : (524288 : Int) < (r.size : Int)
    · go_enter Try.func3, Try.ntmps3
      go_wp2_with fail
      refine HC.out.mono ?_
      rintro e w1 ⟨rfl, rfl⟩
      go_wp2_with fail
      go_ret
      exact ⟨rfl, Grown.refl _⟩
    · by_cases h2 : (524288 : Int) < (nm.size : Int)
      · go_enter Try.func3, Try.ntmps3
        go_wp2_with fail
        refine HC.out.mono ?_
        rintro e w1 ⟨rfl, rfl⟩
        go_wp2_with fail
        go_ret
        exact ⟨rfl, Grown.refl _⟩
      · clear hu hv
        have HZ : Hid ((r ++ ⟨#[58]⟩ ++ nm).size ≤ 2097152) := join_size r nm (by omega) (by omega)
        go_enter Try.func3, Try.ntmps3
        go_wp2_with fail
        refine HC.out.mono ?_
        rintro e w1 ⟨rfl, rfl⟩
        go_wp2_with fail
        refine (colon_any r _ (by omega)).mono ?_
        rintro e w1 ⟨⟨c, rfl, hcol⟩, rfl⟩
        cases c
        · have HN : Hid (NoColon r) := hcol rfl
          clear hcol
          go_wp2_with fail
          have hcall := zarn_sess (r ++ ⟨#[58]⟩ ++ nm) m w1 HZ.out hm.out
          refine hcall.mono ?_
          clear hcall
          rintro e w2 ⟨d, rfl, hd, n, rfl⟩
          have hde : d = PRE ++ nm := by
            obtain ⟨x, hx, hxe⟩ := hd.out
            rw [hxe, after_name r nm x HN.out hx]
          have hsz : d.size = 54 + nm.size := by rw [hde]; exact got_size nm
          have hhead := got_head nm
          have htail := got_tail nm
          rw [← hde] at hhead htail
          have hlen : (54 : Int) ≤ (d.size : Int) := by omega
          have hlen2 : 54 ≤ d.size := by omega
          clear hde hsz hd
          go_wp2_with fail
          go_ret
          exact ⟨rfl, grown_drewN _ _⟩
        · go_wp2_with fail
          go_ret
          exact ⟨rfl, Grown.refl _⟩
end Go.Proofs.Qxb6601355a
