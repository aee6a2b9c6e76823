import Derived.Test.Qxb6002792aWalkA
import Derived.Laws.Runes
import Derived.Lib.IndexBytes
import Derived.Laws.Strings3
import Derived.Laws.RangeAny
import Derived.Lib.OthersKept
import Derived.Deep.QuietTactic
import Derived.BigQuiet
import Derived.WalkMore
import Derived.Deep.LoopGhost
namespace Go.Proofs.Qxb6002792a
open Go.RowKit

theorem ret_bool {a b : Bool} (h : a = b) : Ending.returned (.bool a) = .returned (.bool b) := by rw [h]

def vrB (r : Int) : Bool := decide ((0 ≤ r ∧ r < 55296) ∨ (57343 < r ∧ r ≤ 1114111))

set_option maxHeartbeats 1000000 in
theorem validRune_any (r : Int) (w : World) :
    Calls Try.prog 37 #[.int .i32 r] w fun e w' => e = .returned (.bool (vrB r)) ∧ w' = w := by
  go_enter Try.func37, Try.ntmps37
  go_wp2
  all_goals (go_ret; refine ⟨ret_bool ?_, rfl⟩; unfold vrB; simp; omega)

theorem validRune_of (r : Int) (v : Bool) (w : World) (h : vrB r = v) :
    Calls Try.prog 37 #[.int .i32 r] w fun e w' => e = .returned (.bool v) ∧ w' = w := by
  subst h; exact validRune_any r w

set_option maxHeartbeats 1000000 in
set_option maxRecDepth 100000 in
theorem rune_bad (r : Int) (w : World) (h1 : 128 ≤ r) (hne : (r == 65533) = false) (hv : Hid (vrB r = false)) :
    Calls Try.prog 28 #[.string ⟨#[46, 58]⟩, .int .i32 r] w fun e w' => e = .returned (.int .i64 (-1)) ∧ Below w.heap.size w w' := by
  go_enter Try.func28, Try.ntmps28
  go_wp2_with fail
  refine (validRune_of r false _ hv.out).mono ?_
  rintro e w1 ⟨rfl, rfl⟩
  go_wp2_with fail
  go_ret
  exact ⟨rfl, Below.refl _ _⟩

set_option maxHeartbeats 1000000 in
set_option maxRecDepth 100000 in
theorem rune_err (w : World) :
    Calls Try.prog 28 #[.string ⟨#[46, 58]⟩, .int .i32 65533] w fun e w' => e = .returned (.int .i64 (-1)) ∧ Below w.heap.size w w' := by
  go_enter Try.func28, Try.ntmps28
  go_wp2_with fail
  go_loopg [5, 6] 2 (fun g _ _ wx => ∃ i : Nat, i + g = 2 ∧ wx = w.iter ⟨#[46, 58]⟩ i)
  case atStart => exact ⟨0, by omega, rfl⟩
  case round =>
    obtain ⟨i, hig, rfl⟩ := hrel
    match gk, i, hig with
    | 0, 2, _ =>
      have hnx := fun ty => run_next_end (P := Try.prog) w ⟨#[46, 58]⟩ 2 ty (by decide)
      go_wp2
      go_ret
      exact ⟨rfl, (Below.refl _ _).alloc (Nat.le_refl _) _⟩
    | 1, 1, _ =>
      have hnx := fun ty => run_next_ascii (P := Try.prog) w ⟨#[46, 58]⟩ 1 ty (by decide) (by decide)
      go_wp2
      go_roundg 0
      case measure => omega
      case rel => exact ⟨2, by omega, rfl⟩
    | 2, 0, _ =>
      have hnx := fun ty => run_next_ascii (P := Try.prog) w ⟨#[46, 58]⟩ 0 ty (by decide) (by decide)
      go_wp2
      go_roundg 1
      case measure => omega
      case rel => exact ⟨1, by omega, rfl⟩

set_option maxHeartbeats 1000000 in
theorem idxByte_empty (c : Int) (w : World) :
    Calls Try.prog 36 #[.string ByteArray.empty, .int .u8 c] w fun e w' => e = .returned (.int .i64 (-1)) ∧ w' = w := by
  go_enter Try.func36, Try.ntmps36
  go_wp2
  rw [run_callFunc_extern Try.func38 (by kernel_rfl) (by kernel_rfl) (by kernel_rfl) (e := Extern.BytealgIndexByte.indexByte) (by kernel_rfl), Lib.run_indexByteString]
  simp only [Result.andThen]
  rw [Oper.upon_value]
  go_wp2
  go_ret
  exact ⟨rfl, rfl⟩

theorem slice_dc (w : World) : (Instr.slice 9 (.string ⟨#[46, 58]⟩) (some (.int .i64 2)) none none).run Try.prog w = .ok (.string ByteArray.empty) w := by kernel_rfl

theorem enc_cases (r : Int) (hv : vrB r = true) (h1 : 128 ≤ r) :
    (∃ b0 b1 : UInt8, Utf8.encode r = ⟨#[b0, b1]⟩ ∧ 128 ≤ b1.toNat) ∨ (3 ≤ (Utf8.encode r).size ∧ (Utf8.encode r).size ≤ 4) := by
  have hv' : Utf8.valid r = true := by rw [validRune_eq]; exact hv
  have hf := encode_facts r hv' h1
  have hc : ¬ r.toNat < 128 := by omega
  by_cases h2 : r.toNat < 2048
  · left
    have e : Utf8.encode r = ⟨#[UInt8.ofNat (192 + r.toNat / 64), UInt8.ofNat (128 + r.toNat % 64)]⟩ := by
      unfold Utf8.encode
      simp only [hv', if_true, hc, if_false, h2]
    exact ⟨_, _, e, by simp; omega⟩
  · right
    refine ⟨?_, hf.2.1⟩
    unfold Utf8.encode
    simp only [hv', if_true, hc, if_false, h2]
    split
    · exact Nat.le_refl 3
    · show 3 ≤ 4; omega

set_option maxHeartbeats 1000000 in
set_option maxRecDepth 100000 in
theorem rune_good (r : Int) (w : World) (h1 : 128 ≤ r) (hne : (r == 65533) = false) (hv : Hid (vrB r = true)) :
    Calls Try.prog 28 #[.string ⟨#[46, 58]⟩, .int .i32 r] w fun e w' => e = .returned (.int .i64 (-1)) ∧ Below w.heap.size w w' := by
  go_enter Try.func28, Try.ntmps28
  go_wp2_with fail
  refine (validRune_of r true _ hv.out).mono ?_
  rintro e w1 ⟨rfl, rfl⟩
  go_wp2_with fail
  go_step3
  rcases enc_cases r hv.out h1 with ⟨b0, b1, he, hb⟩ | ⟨he1, he2⟩
  · go_wp2_with fail
    go_loopg [9] 0 (fun _ s9 wx => s9 = .int .i64 1 ∧ wx = w1)
    case atStart => exact ⟨rfl, rfl⟩
    case round =>
      obtain ⟨rfl, rfl⟩ := hrel
      go_wp2_with fail
      go_step3
      go_wp2_with fail
      have hne2 : ((((⟨#[46, 58]⟩ : ByteArray)[1]'(by decide)).toNat : Int) != (((⟨#[b0, b1]⟩ : ByteArray)[1]'(by show 1 < 2; decide)).toNat : Int)) = true := by
        show (((58 : UInt8).toNat : Int) != (b1.toNat : Int)) = true
        simp; omega
      have hw2 : IntKind.i64.wrap 2 = 2 := by decide
      have hsl := slice_dc
      go_quiet (fail)
      go_wp2_with fail
      generalize hz : wr.drewN nq = wz
      have HZ : Hid (wr.drewN nq = wz) := hz
      clear hz
      go_quiet ((go_at_call 36; exact Calls.quiet_of_same (idxByte_empty _ _)))
      go_wp2_with fail
      rw [Exit.noGoto_ret]
      simp only [Exit.inBlock, Exit.then]
      rw [Exit.noGoto_ret]
      go_ret
      have hz := HZ.out
      subst hz
      exact ⟨rfl, ⟨rfl, rfl, rfl, Nat.le_refl _, fun _ _ => rfl⟩⟩
  · have hlt : ¬ (((Utf8.encode r).size : Int) - 1 < 2) := by omega
    go_wp2_with fail
    go_loopg [9] 0 (fun _ s9 wx => s9 = .int .i64 (((Utf8.encode r).size : Int) - 1) ∧ wx = w1)
    case atStart => exact ⟨rfl, rfl⟩
    case round =>
      obtain ⟨rfl, rfl⟩ := hrel
      go_wp2_with fail
      rw [Exit.noGoto_ret]
      go_ret
      exact ⟨rfl, Below.refl _ _⟩

/-- strings.IndexRune at the set of dot and colon, and a rune beyond ASCII: not there. -/
theorem rune_high (r : Int) (w : World) (h1 : 128 ≤ r) :
    Calls Try.prog 28 #[.string ⟨#[46, 58]⟩, .int .i32 r] w fun e w' => e = .returned (.int .i64 (-1)) ∧ Below w.heap.size w w' := by
  by_cases he : r = 65533
  · subst he; exact rune_err w
  · have hne : (r == 65533) = false := by simpa using he
    cases hv : vrB r
    · exact rune_bad r w h1 hne hv
    · exact rune_good r w h1 hne hv
end Go.Proofs.Qxb6002792a
