import Derived.Test.Qxb6601355aRows
import Derived.Test.Qxb6601355aShelf
import Derived.WalkKit
import Derived.WalkSpells
import Derived.Outline
import Derived.Lib.IndexBytes
import Derived.Lib.CutLaws
namespace Go.Proofs.Qxb6601355a
open Go.RowKit

def USR : ByteArray := ⟨#[97, 114, 110, 58, 97, 119, 115, 58, 105, 97, 109, 58, 58, 49, 50, 51, 52, 53, 54, 55, 56, 57, 48, 49, 50, 58, 117, 115, 101, 114, 47, 97, 119, 115, 116, 101, 115, 116]⟩
def PRE : ByteArray := ⟨#[97, 114, 110, 58, 97, 119, 115, 58, 115, 116, 115, 58, 58, 49, 50, 51, 52, 53, 54, 55, 56, 57, 48, 49, 50, 58, 97, 115, 115, 117, 109, 101, 100, 45, 114, 111, 108, 101, 47, 97, 119, 115, 116, 101, 115, 116, 45, 114, 117, 110, 110, 101, 114, 47]⟩

theorem ret_str {a b : ByteArray} (h : a = b) : Ending.returned (.string a) = .returned (.string b) := by rw [h]

/-- what stands behind the first ':' of u. -/
def After (u x : ByteArray) : Prop := (Lib.indexByte u.data.toList 58 = -1 ∧ x = ByteArray.empty) ∨ ∃ i : Nat, i < u.size ∧ Lib.indexByte u.data.toList 58 = i ∧ x = u.extract (i + 1) u.size

def CutTo (u b x : ByteArray) (has : Bool) (w : World) : Prop :=
  Calls Try.prog 10 #[.string u, .string ⟨#[58]⟩] w fun e w' => e = .returned (.tuple #[.string b, .string x, .bool has]) ∧ ∃ n, w' = w.drewN n

theorem cut_to (s : ByteArray) (m : Int) (w : World) (hs : s.size ≤ 2097152) (hm : w.cell? ⟨0, 0, none⟩ = some (.int .i64 m)) : ∃ b x has, After s x ∧ CutTo s b x has w := by
  have h := Try.strings_Cut s ⟨#[58]⟩ m w (by omega) hm
  have e1 : Lib.indexB s ⟨#[58]⟩ = Lib.indexByte s.data.toList 58 := Lib.index_one _ _
  rcases Lib.indexB_cases s ⟨#[58]⟩ with hi | ⟨i, hi, hb⟩
  · obtain ⟨c1, c2, c3⟩ := Lib.cutB_miss s ⟨#[58]⟩ hi
    rw [c1, c2, c3] at h
    exact ⟨_, _, _, .inl ⟨e1 ▸ hi, rfl⟩, h⟩
  · obtain ⟨c1, c2, c3⟩ := Lib.cutB_hit s ⟨#[58]⟩ i hi
    rw [c1, c2, c3] at h
    exact ⟨_, _, _, .inr ⟨i, hb, e1 ▸ hi, rfl⟩, h⟩

theorem arn_user (u a : ByteArray) (w : World) (ha : Hid (a = USR)) :
    Calls Try.prog 9 #[.string u, .bool false] w fun e w' => e = .returned (.string a) ∧ w' = w := by
  go_enter Try.func9, Try.ntmps9
  go_wp2_with fail
  go_ret
  exact ⟨ret_str (by rw [ha.out]; rfl), rfl⟩

theorem after_size {u x : ByteArray} (h : After u x) : x.size ≤ u.size := by
  rcases h with ⟨_, rfl⟩ | ⟨i, _, _, rfl⟩
  · exact Nat.zero_le _
  · simp

theorem arn_sess (u : ByteArray) (m : Int) (w : World) (hs : u.size ≤ 2097152) (hm : w.cell? ⟨0, 0, none⟩ = some (.int .i64 m)) :
    Calls Try.prog 9 #[.string u, .bool true] w fun e w' => ∃ d, e = .returned (.string d) ∧ (∃ x, After u x ∧ d = PRE ++ x) ∧ ∃ n, w' = w.drewN n := by
  obtain ⟨b, x, has, hx, hc⟩ := cut_to u m w hs hm
  have HC : Hid (CutTo u b x has w) := hc
  have HX : Hid (After u x) := hx
  have hxs := after_size hx
  clear hc hx hm
  go_enter Try.func9, Try.ntmps9
  go_wp2_with fail
  refine HC.out.mono ?_
  rintro e w1 ⟨rfl, n1, rfl⟩
  go_wp2_with fail
  go_ret
  exact ⟨_, rfl, ⟨x, HX.out, rfl⟩, n1, rfl⟩
end Go.Proofs.Qxb6601355a
