import Derived.Test.Qxb6002792aWalkD
import Derived.Lib.IndexAny
namespace Go.Proofs.Qxb6002792a
open Go.RowKit

set_option maxHeartbeats 1000000 in
theorem idxByte_any (s : ByteArray) (c : Int) (w : World) :
    Calls Try.prog 36 #[.string s, .int .u8 c] w fun e w' => e = .returned (.int .i64 (Lib.indexByte s.data.toList c.toNat.toUInt8)) ∧ w' = w := by
  go_enter Try.func36, Try.ntmps36
  go_wp2
  rw [run_callFunc_extern Try.func38 (by kernel_rfl) (by kernel_rfl) (by kernel_rfl) (e := Extern.BytealgIndexByte.indexByte) (by kernel_rfl), Lib.run_indexByteString]
  simp only [Result.andThen]
  rw [Oper.upon_value]
  go_wp2
  go_ret
  exact ⟨rfl, rfl⟩

theorem idxByte_u8 (s : ByteArray) (x : UInt8) (v : Int) (w : World) (h : Lib.indexByte s.data.toList x = v) :
    Calls Try.prog 36 #[.string s, .int .u8 (x.toNat : Int)] w fun e w' => e = .returned (.int .i64 v) ∧ w' = w := by
  have := idxByte_any s (x.toNat : Int) w
  rw [show ((x.toNat : Int)).toNat.toUInt8 = x from by simp, h] at this
  exact this

set_option maxHeartbeats 1000000 in
set_option maxRecDepth 100000 in
theorem rune_ascii (x : UInt8) (v : Int) (w : World) (h1 : x.toNat < 128) (hv : Hid (Lib.indexByte [46, 58] x = v)) :
    Calls Try.prog 28 #[.string ⟨#[46, 58]⟩, .int .i32 (x.toNat : Int)] w fun e w' => e = .returned (.int .i64 v) ∧ w' = w := by
  have h0 : (0 : Int) ≤ (x.toNat : Int) := by omega
  have h2 : (x.toNat : Int) < 128 := by omega
  go_enter Try.func28, Try.ntmps28
  go_wp2_with fail
  refine (idxByte_u8 _ x v _ hv.out).mono ?_
  rintro e w1 ⟨rfl, rfl⟩
  go_wp2_with fail
  go_ret
  exact ⟨rfl, rfl⟩

theorem get_at' (s : ByteArray) (k : Nat) (h : k < s.size) : (s.get! k) = s[k] := by
  simp [ByteArray.get!, getElem!_pos, h]
  rfl

theorem decode_piece (s : ByteArray) (i : Nat) (hi : i < s.size) (h : 128 ≤ (s[i]'hi).toNat) :
    1 ≤ (Utf8.decode s i).2 ∧ i + (Utf8.decode s i).2 ≤ s.size ∧ ∀ j, i ≤ j → j < i + (Utf8.decode s i).2 → 128 ≤ (s.get! j).toNat := by
  have h0 : (s.get! (i + 0)) = s[i] := get_at' s i hi
  have h0' : 128 ≤ (s.get! i).toNat := by rw [get_at' s i hi]; exact h
  have hn : ¬ (s[i]'hi).toNat < 128 := by omega
  simp only [Utf8.decode, h0, hn, if_false]
  repeat' split
  all_goals simp_all
  all_goals
    refine ⟨by omega, fun j h1 h2 => ?_⟩
    by_cases e0 : j = i
    · subst e0; rw [h0]; exact h
    · by_cases e1 : j = i + 1
      · subst e1; omega
      · by_cases e2 : j = i + 2
        · subst e2; omega
        · by_cases e3 : j = i + 3
          · subst e3; omega
          · omega

theorem noAny_high (s : ByteArray) (i d : Nat) (hd : i + d ≤ s.size) (h : Lib.NoAny s.data.toList [46, 58] i) (hb : ∀ j, i ≤ j → j < i + d → 128 ≤ (s.get! j).toNat) :
    Lib.NoAny s.data.toList [46, 58] (i + d) := by
  intro j b hj hjb
  by_cases e : j < i
  · exact h j b e hjb
  · have h1 := hb j (by omega) hj
    rw [get_at' s j (by omega)] at h1
    rw [at_get s j (by omega)] at hjb
    have hbj := Option.some.inj hjb
    subst hbj
    have h46 : ¬ s[j] = 46 := fun e => by rw [e] at h1; exact absurd h1 (by decide)
    have h58 : ¬ s[j] = 58 := fun e => by rw [e] at h1; exact absurd h1 (by decide)
    simp [h46, h58]

set_option maxHeartbeats 1000000 in
theorem use_set (n : Int) (v : Bool) (w : World) (h : decide (8 < n) = v) :
    Calls Try.prog 29 #[.int .i64 n] w fun e w' => e = .returned (.bool v) ∧ w' = w := by
  subst h
  go_enter Try.func29, Try.ntmps29
  go_wp2
  go_ret
  exact ⟨rfl, rfl⟩

theorem no_idx (x : UInt8) (h : List.contains [46, 58] x = false) : Lib.indexByte [46, 58] x = -1 := by
  have h2 := Lib.contains_iff_indexByte [46, 58] x
  have h3 := Lib.indexByte_ge [46, 58] x
  rw [h] at h2
  have h4 := of_decide_eq_false h2.symm
  omega

theorem yes_idx (x : UInt8) (h : List.contains [46, 58] x = true) : ∃ v : Int, 0 ≤ v ∧ Lib.indexByte [46, 58] x = v := by
  have h2 := Lib.contains_iff_indexByte [46, 58] x
  rw [h] at h2
  exact ⟨_, of_decide_eq_true h2.symm, rfl⟩

set_option maxHeartbeats 4000000 in
set_option maxRecDepth 100000 in
theorem any_short (s : ByteArray) (w : World) (h8 : s.size ≤ 8) :
    Calls Try.prog 25 #[.string s, .string ⟨#[46, 58]⟩] w fun e w' => e = .returned (.int .i64 (Lib.indexAny s.data.toList [46, 58])) ∧ Below w.heap.size w w' := by
  go_enter Try.func25, Try.ntmps25
  go_wp2_with fail
  refine (use_set (s.size : Int) false _ (by simp; omega)).mono ?_
  rintro e w1 ⟨rfl, rfl⟩
  go_wp2_with fail
  go_loopg [9, 10] s.size (fun g _ _ wx => ∃ i : Nat, i + g = s.size ∧ wx.heap[w1.heap.size]? = some (.stringIter s i) ∧ Hid (Below w1.heap.size w1 wx) ∧ Hid (Lib.NoAny s.data.toList [46, 58] i))
  case atStart => exact ⟨0, by omega, World.iter_heap _ _ _, (Below.refl _ _).alloc (Nat.le_refl _) _, Lib.NoAny.zero _ _⟩
  case round =>
    obtain ⟨i, hig, hk, HB, HN⟩ := hrel
    by_cases hi : i < s.size
    · by_cases ha : (s[i]'hi).toNat < 128
      · have hnx := fun ty => Lib.run_next_ascii_at (P := Try.prog) wr w1.heap.size s i ty hk hi ha
        have hsz : w1.heap.size < wr.heap.size := (Array.getElem?_eq_some_iff.1 hk).1
        have HX : Hid (s.data.toList[i]? = some s[i]) := at_get s i hi
        cases hin : List.contains [46, 58] (s[i]'hi)
        · have HI : Hid (List.contains [46, 58] (s[i]'hi) = false) := hin
          clear hin
          go_wp2_with fail
          refine (rune_ascii _ (-1) _ ha (no_idx _ HI.out)).mono ?_
          rintro e w2 ⟨rfl, rfl⟩
          go_wp2_with fail
          go_roundg (s.size - (i + 1))
          case measure => omega
          case rel => exact ⟨i + 1, by omega, Lib.iterAt_heap _ _ _ _ _ hk, Lib.below_iterAt HB.out (Nat.le_refl _) _ _, HN.out.succ HX.out HI.out⟩
        · have HI : Hid (List.contains [46, 58] (s[i]'hi) = true) := hin
          clear hin
          obtain ⟨v, hv0, hv⟩ := yes_idx _ HI.out
          go_wp2_with fail
          refine (rune_ascii _ v _ ha hv).mono ?_
          rintro e w2 ⟨rfl, rfl⟩
          go_wp2_with fail
          go_ret
          exact ⟨ret_int (by rw [Lib.indexAny_hit HN.out HX.out HI.out]), Lib.below_iterAt HB.out (Nat.le_refl _) _ _⟩
      · have hnx := fun ty => Lib.run_next_any_at (P := Try.prog) wr w1.heap.size s i ty hk hi
        have hsz : w1.heap.size < wr.heap.size := (Array.getElem?_eq_some_iff.1 hk).1
        have hr := (decode_high s i hi (by omega)).1
        obtain ⟨hd1, hd2, hd3⟩ := decode_piece s i hi (by omega)
        have HD : Hid (∀ j, i ≤ j → j < i + (Utf8.decode s i).2 → 128 ≤ (s.get! j).toNat) := hd3
        clear hd3
        generalize (Utf8.decode s i).1 = r at *
        generalize (Utf8.decode s i).2 = d at *
        go_wp2_with fail
        refine (rune_high (r : Int) _ (by omega)).mono ?_
        rintro e w2 ⟨rfl, hb2⟩
        have HB2 : Hid (Below (wr.iterAt w1.heap.size s (i + d)).heap.size (wr.iterAt w1.heap.size s (i + d)) w2) := hb2
        clear hb2
        go_wp2_with fail
        go_roundg (s.size - (i + d))
        case measure => omega
        case rel =>
          have hh : w1.heap.size < (wr.iterAt w1.heap.size s (i + d)).heap.size := by rw [Lib.iterAt_size]; exact hsz
          exact ⟨i + d, by omega, (HB2.out.block _ hh).trans (Lib.iterAt_heap _ _ _ _ _ hk), (Lib.below_iterAt HB.out (Nat.le_refl _) _ _).trans (HB2.out.mono (by omega)), noAny_high s i d hd2 HN.out HD.out⟩
    · have hnx := fun ty => Lib.run_next_end_at (P := Try.prog) wr w1.heap.size s i ty hk hi
      go_wp2_with fail
      go_ret
      obtain rfl : i = s.size := by omega
      exact ⟨ret_int (by rw [Lib.indexAny_none (by rw [← Lib.size_eq]; exact HN.out)]), HB.out⟩
end Go.Proofs.Qxb6002792a
