import Derived.Test.Qxb6600102aWalkA
namespace Go.Proofs.Qxb6600102a
open Go.RowKit

set_option maxHeartbeats 4000000 in
theorem chan_yes (s : ByteArray) (w : World) (hs : s.size ≤ 1048576) (hch : Hid (Chan s)) :
    Calls Try.prog 13 #[.string s] w fun e w' => e = .returned (.bool true) ∧ Below w.heap.size w w' := by
  have hpos : 0 < s.size := hch.out.1
  have he := empty_no s (by omega)
  obtain ⟨cap, W, hcv, hcells, hbel⟩ := conv_bytes w s
  have HC : Hid (∀ (j : Nat) (h : j < s.size), W.cell? ⟨w.heap.size, j, none⟩ = some (.int .u8 (s[j].toNat : Int))) := hcells
  have HB : Hid (Below w.heap.size w W) := hbel
  clear hcells hbel
  go_enter Try.func13, Try.ntmps13
  go_wp2_with fail
  clear hcv
  go_loopg [10] s.size (fun g i wx => ∃ k : Nat, k + g = s.size ∧ i = .int .i64 k ∧ wx = W)
  case atStart => exact ⟨0, by omega, rfl, rfl⟩
  case round =>
    obtain ⟨k, hk, rfl, hwx⟩ := hrel
    subst hwx
    by_cases hlt : k < s.size
    · have hck := HC.out k hlt
      have hlt' : (k : Int) < (s.size : Int) := by omega
      obtain ⟨c1, c2, c3⟩ := hch.out.2 k s[k] (at_get s k hlt)
      have d1 : ¬ ((s[k].toNat : Int) ≤ 32) := by omega
      have d2 : ¬ ((126 : Int) < (s[k].toNat : Int)) := by omega
      have d3 : ((s[k].toNat : Int) == 34) = false := beq_eq_false_iff_ne.mpr (by omega)
      clear c1 c2 c3
      go_wp2_with fail
      go_roundg (gk - 1)
      case measure => omega
      case rel => exact ⟨k + 1, by omega, by go_num, rfl⟩
    · have hlt' : ¬ (k : Int) < (s.size : Int) := by omega
      go_wp2_with fail
      go_ret
      exact ⟨rfl, HB.out⟩

theorem walk_any (s : ByteArray) (w : World) (hm : s.size ≤ maxLen) :
    Calls Try.prog 5 #[.string s] w fun e w' => e = .returned (.bool true) ∧ Below w.heap.size w w' := by
  by_cases hs : s.size ≤ 1048576
  · go_enter Try.func5, Try.ntmps5
    go_wp2_with fail
    refine (bytes_yes s _ hs).mono ?_
    rintro e w1 ⟨rfl, rfl⟩
    go_wp2_with fail
    refine (nick_any s _ hs).mono ?_
    rintro e w2 ⟨⟨b, rfl, hb⟩, hbel⟩
    cases b
    · go_wp2_with fail
      go_ret
      exact ⟨rfl, hbel⟩
    · have HCH : Hid (Chan s) := hb rfl
      have HB : Hid (Below w1.heap.size w1 w2) := hbel
      clear hb hbel
      go_wp2_with fail
      refine (chan_yes s _ hs HCH.out).mono ?_
      rintro e w3 ⟨rfl, hb3⟩
      have HB3 : Hid (Below w2.heap.size w2 w3) := hb3
      clear hb3
      go_wp2_with fail
      go_ret
      exact ⟨rfl, HB.out.trans (HB3.out.mono HB.out.size)⟩
  · go_enter Try.func5, Try.ntmps5
    go_wp2_with fail
    refine (bytes_no s _ hs hm).mono ?_
    rintro e w1 ⟨rfl, rfl⟩
    go_wp2_with fail
    go_ret
    exact ⟨rfl, Below.refl _ _⟩
end Go.Proofs.Qxb6600102a
