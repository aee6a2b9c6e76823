import Derived.Test.Qxb6600102aRows
import Derived.Test.Qxb6600102aShelf
import Derived.WalkKit
import Derived.WalkSpells
import Derived.Outline
import Derived.Laws.IdiomStrings
import Derived.Lib.IndexAny
import Derived.Deep.LoopGhost
import Derived.Lib.Strings
namespace Go.Proofs.Qxb6600102a
open Go.RowKit

theorem at_get (s : ByteArray) (k : Nat) (h : k < s.size) : s.data.toList[k]? = some s[k] := by
  rw [List.getElem?_eq_getElem (by simpa using h)]; rfl

theorem bytes_yes (s : ByteArray) (w : World) (hs : s.size ≤ 1048576) :
    Calls Try.prog 12 #[.string s] w fun e w' => e = .returned (.bool true) ∧ w' = w := by
  go_enter Try.func12, Try.ntmps12
  go_wp2
  go_ret
  exact ⟨rfl, rfl⟩
theorem bytes_no (s : ByteArray) (w : World) (hs : ¬ s.size ≤ 1048576) (hm : s.size ≤ maxLen) :
    Calls Try.prog 12 #[.string s] w fun e w' => e = .returned (.bool false) ∧ w' = w := by
  unfold maxLen at hm
  have h' : (1048576 : Int) < (s.size : Int) := by omega
  go_enter Try.func12, Try.ntmps12
  go_wp2
  go_ret
  exact ⟨rfl, rfl⟩

def chanC (c : UInt8) : Prop := 32 < c.toNat ∧ c.toNat ≤ 126 ∧ ¬ c.toNat = 34

/-- A yes or no; the yes says F. -/
def Ans (F : Prop) (e : Ending) : Prop := ∃ b, e = .returned (.bool b) ∧ (b = true → F)

/-- '[]byte(s)': a new row that holds the bytes. -/
theorem conv_bytes (w : World) (s : ByteArray) : ∃ cap W', (convert 9 23 (.string s)).run Try.prog w = .ok (.slice (some ⟨w.heap.size, 0, none⟩) s.size cap) W' ∧
    (∀ (j : Nat) (h : j < s.size), W'.cell? ⟨w.heap.size, j, none⟩ = some (.int .u8 (s[j].toNat : Int))) ∧ Below w.heap.size w W' := by
  refine ⟨_, _, run_bytes_of_string (P := Try.prog) w 9 23 5 s Try.underlying9 Try.underlying23 Try.underlying5, ?_, ?_⟩
  · intro j h
    have hb := bytesRow_at s (grownCap w s.size 0 5) j h
    have hh : (w.drew.alloc (.cells (bytesRow s (grownCap w s.size 0 5)) 5 ((bytesRow s (grownCap w s.size 0 5)).size, (bytesRow s (grownCap w s.size 0 5)).size + 1))).heap[w.heap.size]? = some (.cells (bytesRow s (grownCap w s.size 0 5)) 5 ((bytesRow s (grownCap w s.size 0 5)).size, (bytesRow s (grownCap w s.size 0 5)).size + 1)) := by
      show (w.heap.push _)[w.heap.size]? = _
      simp
    unfold World.cell?
    rw [hh]
    exact hb
  · exact (Below.refl _ _).drew.alloc (Nat.le_refl _) _

/-- a byte's place among the ranges. -/
theorem cls (c : UInt8) : ((97 : Int) ≤ (c.toNat : Int) ∧ (c.toNat : Int) ≤ 122) ∨ ((65 : Int) ≤ (c.toNat : Int) ∧ (c.toNat : Int) ≤ 90) ∨ ((48 : Int) ≤ (c.toNat : Int) ∧ (c.toNat : Int) ≤ 57) ∨
    ((c.toNat : Int) < 48 ∧ (c.toNat : Int) < 65) ∨ ((57 : Int) < (c.toNat : Int) ∧ (c.toNat : Int) < 65) ∨ ((90 : Int) < (c.toNat : Int) ∧ (c.toNat : Int) < 97) ∨ ((122 : Int) < (c.toNat : Int) ∧ (90 : Int) < (c.toNat : Int)) := by
  omega

theorem set_chan (c : UInt8) (h : 0 ≤ Lib.indexByte [95, 91, 93, 123, 125, 45, 64, 94, 33, 36] c) : chanC c := by
  have h2 := Lib.contains_iff_indexByte [95, 91, 93, 123, 125, 45, 64, 94, 33, 36] c
  rw [decide_eq_true h] at h2
  have hm : c ∈ ([95, 91, 93, 123, 125, 45, 64, 94, 33, 36] : List UInt8) := by simpa using h2
  simp at hm
  rcases hm with rfl | rfl | rfl | rfl | rfl | rfl | rfl | rfl | rfl | rfl <;> (unfold chanC; decide)

theorem idx_of (c : UInt8) (x : Int) (w : World) (h : Lib.indexByte [95, 91, 93, 123, 125, 45, 64, 94, 33, 36] c = x) :
    Calls Try.prog 17 #[.string ⟨#[95, 91, 93, 123, 125, 45, 64, 94, 33, 36]⟩, .int .u8 (c.toNat : Int)] w fun e w' => e = .returned (.int .i64 x) ∧ w' = w := by
  have := Try.strings_IndexByte ⟨#[95, 91, 93, 123, 125, 45, 64, 94, 33, 36]⟩ (c.toNat : Int) w
  rw [show ((c.toNat : Int)).toNat.toUInt8 = c from by simp] at this
  subst h
  exact this

/-- what ValidChannel asks. -/
def Chan (s : ByteArray) : Prop := 0 < s.size ∧ ∀ (j : Nat) c, s.data.toList[j]? = some c → chanC c
def ChanTo (s : ByteArray) (k : Nat) : Prop := ∀ (j : Nat) c, j < k → s.data.toList[j]? = some c → chanC c
theorem chan_succ {s : ByteArray} {k : Nat} (h : ChanTo s k) (hk : k < s.size) (hc : chanC s[k]) : ChanTo s (k + 1) := by
  intro j c hj hjc
  by_cases e : j = k
  · subst e; rw [at_get s j hk] at hjc; rw [← Option.some.inj hjc]; exact hc
  · exact h j c (by omega) hjc

theorem empty_yes (s : ByteArray) (h : s.size = 0) : s.toList.isEmpty = true := by
  rw [Lib.toList_data, List.eq_nil_of_length_eq_zero (l := s.data.toList) (by simpa using h)]; rfl
theorem empty_no (s : ByteArray) (h : ¬ s.size = 0) : s.toList.isEmpty = false := by
  rw [Lib.toList_data, List.isEmpty_eq_false_iff]
  intro e
  exact h (by rw [Lib.size_eq, e]; rfl)

set_option maxHeartbeats 4000000 in
theorem nick_any (s : ByteArray) (w : World) (hs : s.size ≤ 1048576) :
    Calls Try.prog 9 #[.string s] w fun e w' => Ans (Chan s) e ∧ Below w.heap.size w w' := by
  by_cases h0 : s.size = 0
  · have he := empty_yes s h0
    go_enter Try.func9, Try.ntmps9
    go_wp2_with fail
    go_ret
    exact ⟨⟨false, rfl, fun h => by cases h⟩, Below.refl _ _⟩
  · have he := empty_no s h0
    have hpos : 0 < s.size := by omega
    obtain ⟨cap, W, hcv, hcells, hbel⟩ := conv_bytes w s
    have HC : Hid (∀ (j : Nat) (h : j < s.size), W.cell? ⟨w.heap.size, j, none⟩ = some (.int .u8 (s[j].toNat : Int))) := hcells
    have HB : Hid (Below w.heap.size w W) := hbel
    clear hcells hbel h0
    go_enter Try.func9, Try.ntmps9
    go_wp2_with fail
    clear hcv
    go_loopg [11] s.size (fun g i wx => ∃ k : Nat, k + g = s.size ∧ i = .int .i64 k ∧ wx = W ∧ Hid (ChanTo s k))
    case atStart => exact ⟨0, by omega, rfl, rfl, fun j c h => by omega⟩
    case round =>
      obtain ⟨k, hk, rfl, hwx, HN⟩ := hrel
      subst hwx
      by_cases hlt : k < s.size
      · have hck := HC.out k hlt
        have hlt' : (k : Int) < (s.size : Int) := by omega
        have FIN : Hid (chanC s[k] → ChanTo s (k + 1)) := fun hc => chan_succ HN.out hlt hc
        rcases cls s[k] with ⟨hl, hu⟩ | ⟨hl, hu⟩ | ⟨hl, hu⟩ | hw
        · go_wp2_with fail
          go_roundg (gk - 1)
          case measure => omega
          case rel => exact ⟨k + 1, by omega, by go_num, rfl, FIN.out (by unfold chanC; omega)⟩
        · go_wp2_with fail
          go_roundg (gk - 1)
          case measure => omega
          case rel => exact ⟨k + 1, by omega, by go_num, rfl, FIN.out (by unfold chanC; omega)⟩
        · go_wp2_with fail
          go_roundg (gk - 1)
          case measure => omega
          case rel => exact ⟨k + 1, by omega, by go_num, rfl, FIN.out (by unfold chanC; omega)⟩
        · obtain ⟨x, hx⟩ : ∃ x, Lib.indexByte [95, 91, 93, 123, 125, 45, 64, 94, 33, 36] s[k] = x := ⟨_, rfl⟩
          have HX : Hid (Lib.indexByte [95, 91, 93, 123, 125, 45, 64, 94, 33, 36] s[k] = x) := hx
          clear hx
          by_cases hx0 : 0 ≤ x
          · have HCH : Hid (chanC s[k]) := set_chan _ (by rw [HX.out]; exact hx0)
            rcases hw with ⟨hl, hu⟩ | ⟨hl, hu⟩ | ⟨hl, hu⟩ | ⟨hl, hu⟩
            all_goals
              have d57 : (48 : Int) ≤ (s[k].toNat : Int) → decide ((s[k].toNat : Int) ≤ 57) = false := fun _ => decide_eq_false (by omega)
              have d90 : (65 : Int) ≤ (s[k].toNat : Int) → decide ((s[k].toNat : Int) ≤ 90) = false := fun _ => decide_eq_false (by omega)
              have d122 : (97 : Int) ≤ (s[k].toNat : Int) → decide ((s[k].toNat : Int) ≤ 122) = false := fun _ => decide_eq_false (by omega)
              go_wp2_with fail
              refine (idx_of _ x _ HX.out).mono ?_
              rintro e w2 ⟨rfl, rfl⟩
              go_wp2_with fail
              go_roundg (gk - 1)
              case measure => omega
              case rel => exact ⟨k + 1, by omega, by go_num, rfl, FIN.out HCH.out⟩
          · rcases hw with ⟨hl, hu⟩ | ⟨hl, hu⟩ | ⟨hl, hu⟩ | ⟨hl, hu⟩
            all_goals
              have d57 : (48 : Int) ≤ (s[k].toNat : Int) → decide ((s[k].toNat : Int) ≤ 57) = false := fun _ => decide_eq_false (by omega)
              have d90 : (65 : Int) ≤ (s[k].toNat : Int) → decide ((s[k].toNat : Int) ≤ 90) = false := fun _ => decide_eq_false (by omega)
              have d122 : (97 : Int) ≤ (s[k].toNat : Int) → decide ((s[k].toNat : Int) ≤ 122) = false := fun _ => decide_eq_false (by omega)
              go_wp2_with fail
              refine (idx_of _ x _ HX.out).mono ?_
              rintro e w2 ⟨rfl, rfl⟩
              go_wp2_with fail
              go_ret
              exact ⟨⟨false, rfl, fun h => by cases h⟩, HB.out⟩
      · have hlt' : ¬ (k : Int) < (s.size : Int) := by omega
        go_wp2_with fail
        go_ret
        exact ⟨⟨true, rfl, fun _ => ⟨hpos, fun j c hj => HN.out j c (by have := (List.getElem?_eq_some_iff.mp hj).1; simp at this; omega) hj⟩⟩, HB.out⟩
end Go.Proofs.Qxb6600102a
