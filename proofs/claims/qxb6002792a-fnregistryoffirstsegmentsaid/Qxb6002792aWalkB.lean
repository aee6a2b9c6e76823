import Derived.Test.Qxb6002792aWalkA
import Derived.Test.Qxb6002792aShelf
import Derived.Deep.QuietTactic
import Derived.BigQuiet
import Derived.Lib.IndexBytes
namespace Go.Proofs.Qxb6002792a
open Go.RowKit

theorem last58 (s : ByteArray) (x : Int) (w : World) (hs : s.size ≤ 1048576) (hx : Lib.lastIndexByte s 58 = x) :
    Calls Try.prog 20 #[.string s, .string ⟨#[58]⟩] w fun e w' => e = .returned (.int .i64 x) ∧ w' = w := by
  subst hx
  exact Try.strings_LastIndex_one s ⟨#[58]⟩ rfl (by omega) w
theorem last47 (s : ByteArray) (x : Int) (w : World) (hs : s.size ≤ 1048576) (hx : Lib.lastIndexByte s 47 = x) :
    Calls Try.prog 20 #[.string s, .string ⟨#[47]⟩] w fun e w' => e = .returned (.int .i64 x) ∧ w' = w := by
  subst hx
  exact Try.strings_LastIndex_one s ⟨#[47]⟩ rfl (by omega) w

def CutTo (s b dg : ByteArray) (has : Bool) (w : World) : Prop :=
  Calls Try.prog 19 #[.string s, .string ⟨#[64]⟩] w fun e w' => e = .returned (.tuple #[.string b, .string dg, .bool has]) ∧ ∃ n, w' = w.drewN n

theorem cut_to (s : ByteArray) (m : Int) (w : World) (hs : s.size ≤ 1048576) (hm : w.cell? ⟨0, 0, none⟩ = some (.int .i64 m)) :
    (Lib.indexByte s.data.toList 64 = -1 ∧ CutTo s s ByteArray.empty false w) ∨
    (∃ i : Nat, i < s.size ∧ Lib.indexByte s.data.toList 64 = i ∧ CutTo s (s.extract 0 i) (s.extract (i + 1) s.size) true w) := by
  have h := Try.strings_Cut s ⟨#[64]⟩ m w (by omega) hm
  have e1 : Lib.indexB s ⟨#[64]⟩ = Lib.indexByte s.data.toList 64 := Lib.index_one _ _
  rcases Lib.indexB_cases s ⟨#[64]⟩ with hi | ⟨i, hi, hb⟩
  · left
    obtain ⟨c1, c2, c3⟩ := Lib.cutB_miss s ⟨#[64]⟩ hi
    rw [c1, c2, c3] at h
    exact ⟨e1 ▸ hi, h⟩
  · right
    obtain ⟨c1, c2, c3⟩ := Lib.cutB_hit s ⟨#[64]⟩ i hi
    rw [c1, c2, c3] at h
    exact ⟨i, hb, e1 ▸ hi, h⟩

set_option maxHeartbeats 400000 in
theorem split_gt (s b dg : ByteArray) (has : Bool) (w : World) (c : Nat) (y : Int) (hb : b.size ≤ 1048576) (hc : CutTo s b dg has w)
    (h58 : Hid (Lib.lastIndexByte b 58 = c)) (h47 : Hid (Lib.lastIndexByte b 47 = y)) (hlt : y < c) (hcb : c < b.size) :
    Calls Try.prog 16 #[.string s] w fun e w' => e = .returned (.tuple #[.string (b.extract 0 c), .string (if has then dg else b.extract (c + 1) b.size)]) ∧ ∃ n, w' = w.drewN n := by
  have HC : Hid (CutTo s b dg has w) := hc
  clear hc
  cases has
  all_goals
    go_enter Try.func16, Try.ntmps16
    go_wp2_with fail
    refine (HC.out).mono ?_
    rintro e w1 ⟨rfl, n1, rfl⟩
    go_wp2_with fail
    refine (last58 _ _ _ hb h58.out).mono ?_
    rintro e w2 ⟨rfl, rfl⟩
    go_wp2_with fail
    refine (last47 _ _ _ hb h47.out).mono ?_
    rintro e w2 ⟨rfl, rfl⟩
    go_wp2
    go_quiet (fail)
    go_wp2
    go_ret2
    exact ⟨rfl, _, rfl⟩

set_option maxHeartbeats 400000 in
theorem split_le (s b dg : ByteArray) (has : Bool) (w : World) (x y : Int) (hb : b.size ≤ 1048576) (hc : CutTo s b dg has w)
    (h58 : Hid (Lib.lastIndexByte b 58 = x)) (h47 : Hid (Lib.lastIndexByte b 47 = y)) (hle : x ≤ y) :
    Calls Try.prog 16 #[.string s] w fun e w' => e = .returned (.tuple #[.string b, .string (if has then dg else ByteArray.empty)]) ∧ ∃ n, w' = w.drewN n := by
  have HC : Hid (CutTo s b dg has w) := hc
  clear hc
  cases has
  all_goals
    go_enter Try.func16, Try.ntmps16
    go_wp2_with fail
    refine (HC.out).mono ?_
    rintro e w1 ⟨rfl, n1, rfl⟩
    go_wp2_with fail
    refine (last58 _ _ _ hb h58.out).mono ?_
    rintro e w2 ⟨rfl, rfl⟩
    go_wp2_with fail
    refine (last47 _ _ _ hb h47.out).mono ?_
    rintro e w2 ⟨rfl, rfl⟩
    go_wp2
    go_ret2
    exact ⟨rfl, _, rfl⟩

/-- What splitReference hands back: 'b': the part ahead of the first '@'. -/
def Spl (s r v : ByteArray) : Prop := ∃ b : ByteArray, b.size ≤ s.size ∧
  ((Lib.indexByte s.data.toList 64 = -1 ∧ b = s) ∨ (∃ i : Nat, i < s.size ∧ Lib.indexByte s.data.toList 64 = i ∧ b = s.extract 0 i)) ∧
  ((∃ c : Nat, c < b.size ∧ b.data.toList[c]? = some 58 ∧ (∀ j, c < j → b.data.toList[j]? ≠ some 58 ∧ b.data.toList[j]? ≠ some 47) ∧ r = b.extract 0 c ∧ (Lib.indexByte s.data.toList 64 = -1 → v = b.extract (c + 1) b.size)) ∨
   (((∀ j : Nat, b.data.toList[j]? ≠ some 58) ∨ ∃ c : Nat, b.data.toList[c]? = some 47 ∧ ∀ j, c < j → b.data.toList[j]? ≠ some 58) ∧ r = b ∧ (Lib.indexByte s.data.toList 64 = -1 → v = ByteArray.empty)))

theorem get_bang (s : ByteArray) (k : Nat) (h : k < s.size) : s.data.toList[k]? = some (s.data[k]!) := by
  have h' : k < s.data.size := h
  rw [getElem!_pos s.data k h']
  simp

/-- the last place of a byte, on the list. -/
theorem last_spec (s : ByteArray) (c : UInt8) :
    (Lib.lastIndexByte s (c.toNat : Int) = -1 ∧ ∀ j : Nat, s.data.toList[j]? ≠ some c) ∨
    (∃ i : Nat, i < s.size ∧ Lib.lastIndexByte s (c.toNat : Int) = i ∧ s.data.toList[i]? = some c ∧ ∀ j, i < j → s.data.toList[j]? ≠ some c) := by
  have key : ∀ j : Nat, (j < s.size → ((s.data[j]!).toNat : Int) ≠ (c.toNat : Int)) → s.data.toList[j]? ≠ some c := by
    intro j hj h
    have hl : j < s.size := by
      have := (List.getElem?_eq_some_iff.mp h).1
      simpa using this
    rw [get_bang s j hl] at h
    exact hj hl (by rw [Option.some.inj h])
  rcases Lib.lastIndexByte_spec s (c.toNat : Int) with ⟨h, hn⟩ | ⟨i, hi, h, hc, hn⟩
  · exact .inl ⟨h, fun j => key j (hn j)⟩
  · exact .inr ⟨i, hi, h, by rw [get_bang s i hi, nat_u8 hc], fun j hj => key j (hn j hj)⟩

theorem split_of (s b dg : ByteArray) (has : Bool) (w : World) (hs : s.size ≤ 1048576) (hb : b.size ≤ s.size) (hc : CutTo s b dg has w)
    (hh : (Lib.indexByte s.data.toList 64 = -1 ∧ b = s ∧ has = false) ∨ (∃ i : Nat, i < s.size ∧ Lib.indexByte s.data.toList 64 = i ∧ b = s.extract 0 i)) :
    Calls Try.prog 16 #[.string s] w fun e w' => ∃ r v, e = .returned (.tuple #[.string r, .string v]) ∧ r.size ≤ s.size ∧ Spl s r v ∧ ∃ n, w' = w.drewN n := by
  have hf : Lib.indexByte s.data.toList 64 = -1 → has = false := by
    intro h
    rcases hh with ⟨_, _, h2⟩ | ⟨i, _, h1, _⟩
    · exact h2
    · omega
  have hh' : (Lib.indexByte s.data.toList 64 = -1 ∧ b = s) ∨ (∃ i : Nat, i < s.size ∧ Lib.indexByte s.data.toList 64 = i ∧ b = s.extract 0 i) := by
    rcases hh with ⟨h1, h2, _⟩ | h
    · exact .inl ⟨h1, h2⟩
    · exact .inr h
  have gt : ∀ (c : Nat) (y : Int), c < b.size → Lib.lastIndexByte b 58 = c → Lib.lastIndexByte b 47 = y → y < c → b.data.toList[c]? = some 58 → (∀ j, c < j → b.data.toList[j]? ≠ some 58 ∧ b.data.toList[j]? ≠ some 47) →
      Calls Try.prog 16 #[.string s] w fun e w' => ∃ r v, e = .returned (.tuple #[.string r, .string v]) ∧ r.size ≤ s.size ∧ Spl s r v ∧ ∃ n, w' = w.drewN n := by
    intro c y hcb h58 h47 hlt hat hno
    refine (split_gt s b dg has w c y (by omega) hc h58 h47 hlt hcb).mono ?_
    rintro e w' ⟨rfl, hw⟩
    exact ⟨_, _, rfl, by simp; omega, ⟨b, hb, hh', .inl ⟨c, hcb, hat, hno, rfl, fun h => by rw [hf h]; rfl⟩⟩, hw⟩
  have le : ∀ (x y : Int), Lib.lastIndexByte b 58 = x → Lib.lastIndexByte b 47 = y → x ≤ y → ((∀ j : Nat, b.data.toList[j]? ≠ some 58) ∨ ∃ c : Nat, b.data.toList[c]? = some 47 ∧ ∀ j, c < j → b.data.toList[j]? ≠ some 58) →
      Calls Try.prog 16 #[.string s] w fun e w' => ∃ r v, e = .returned (.tuple #[.string r, .string v]) ∧ r.size ≤ s.size ∧ Spl s r v ∧ ∃ n, w' = w.drewN n := by
    intro x y h58 h47 hle hno
    refine (split_le s b dg has w x y (by omega) hc h58 h47 hle).mono ?_
    rintro e w' ⟨rfl, hw⟩
    exact ⟨_, _, rfl, hb, ⟨b, hb, hh', .inr ⟨hno, rfl, fun h => by rw [hf h]; rfl⟩⟩, hw⟩
  rcases last_spec b 58 with ⟨h58, n58⟩ | ⟨c, hc1, h58, a58, n58⟩
  · rcases last_spec b 47 with ⟨h47, n47⟩ | ⟨d, hd1, h47, a47, n47⟩
    · exact le (-1) (-1) h58 h47 (by omega) (.inl n58)
    · exact le (-1) d h58 h47 (by omega) (.inl n58)
  · rcases last_spec b 47 with ⟨h47, n47⟩ | ⟨d, hd1, h47, a47, n47⟩
    · exact gt c (-1) hc1 h58 h47 (by omega) a58 (fun j hj => ⟨n58 j hj, n47 j⟩)
    · by_cases hcd : d < c
      · exact gt c d hc1 h58 h47 (by omega) a58 (fun j hj => ⟨n58 j hj, n47 j (by omega)⟩)
      · exact le c d h58 h47 (by omega) (.inr ⟨d, a47, fun j hj => n58 j (by omega)⟩)

theorem split_any (s : ByteArray) (m : Int) (w : World) (hs : s.size ≤ 1048576) (hm : w.cell? ⟨0, 0, none⟩ = some (.int .i64 m)) :
    Calls Try.prog 16 #[.string s] w fun e w' => ∃ r v, e = .returned (.tuple #[.string r, .string v]) ∧ r.size ≤ s.size ∧ Spl s r v ∧ ∃ n, w' = w.drewN n := by
  rcases cut_to s m w hs hm with ⟨h1, h2⟩ | ⟨i, hi, h1, h2⟩
  · exact split_of s s _ _ w hs (Nat.le_refl _) h2 (.inl ⟨h1, rfl, rfl⟩)
  · exact split_of s _ _ _ w hs (by simp; omega) h2 (.inr ⟨i, hi, h1, rfl⟩)
end Go.Proofs.Qxb6002792a
