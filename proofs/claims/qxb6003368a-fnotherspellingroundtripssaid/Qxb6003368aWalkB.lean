import Derived.Test.Qxb6003368aWalkA
import Derived.Laws.CopyOwn
import Derived.ArgAppend
import Derived.Laws.IdiomStrings
import Derived.Laws.OwnMore
namespace Go.Proofs.Qxb6003368a
open Go.RowKit

theorem info5 : (Try.prog.info? 5).map (fun i => (i.zero, i.size, i.bytes)) = some (some (.int .u8 0), 1, 1) := by kernel_rfl

def u8s (bs : List UInt8) : List Value := bs.map fun b => .int .u8 (b.toNat : Int)
theorem u8s_length (bs : List UInt8) : (u8s bs).length = bs.length := by simp [u8s]
theorem u8s_at {bs : List UInt8} {j : Nat} {v : Value} (h : (u8s bs)[j]? = some v) : ∃ b, bs[j]? = some b ∧ v = .int .u8 (b.toNat : Int) := by
  unfold u8s at h
  rw [List.getElem?_map] at h
  cases hb : bs[j]? with
  | none => rw [hb] at h; cases h
  | some b => rw [hb] at h; exact ⟨b, rfl, (Option.some.inj h).symm⟩
theorem u8s_one {bs : List UInt8} : ∀ v ∈ u8s bs, v.oneCell' = true := by
  intro v hv
  obtain ⟨b, _, rfl⟩ := List.mem_map.mp hv
  rfl

theorem eq_nil (w : World) (a : Option Addr) (n c n' c' : Nat) : (binOp .eql 28 (.slice a n c) (.slice none n' c')).run Try.prog w = .ok (.bool a.isNone) w :=
  Lib.run_eql_slice_nil w _ _ a n c n' c' Try.underlying28

theorem clone_nil (w : World) :
    Calls Try.prog 16 #[.slice none 0 0] w fun e w' => e = .returned (.slice none 0 0) ∧ w' = w := by
  have hq := eq_nil
  go_enter Try.func16, Try.ntmps16
  go_wp2
  go_ret
  exact ⟨rfl, rfl⟩

theorem own_cells {w : World} {B g n : Nat} {xs : List Value} (h : w.ownsRow B 5 1 (.slice (some ⟨g, 0, none⟩) n n) n xs) :
    ∃ cur : List Value, w.heap[g]? = some (.cells cur.toArray 5 (0, 0)) ∧ cur.length = n := by
  rcases h.2 with ⟨h, _⟩ | ⟨g', cap, cur, h1, _, h2, _, _, h3, _⟩
  · cases h
  · simp only [Value.slice.injEq, Option.some.injEq, Addr.mk.injEq] at h1
    obtain ⟨⟨rfl, _⟩, _, rfl⟩ := h1
    exact ⟨cur.toList, by rw [h2], by simp; omega⟩

theorem size5 : (Try.prog.info? 5).map (·.size) = some 1 := by kernel_rfl
theorem copy_len {bs : List UInt8} {n : Nat} (h : bs.length = n) : (u8s bs).length = Nat.min n n := by
  rw [u8s_length, h]; exact (Nat.min_self n).symm
theorem copy_fit {bs : List UInt8} {cur : List Value} {n : Nat} (h : bs.length = n) (h2 : cur.length = n) : 0 + (u8s bs).length ≤ cur.length := by
  rw [u8s_length]; omega
theorem copy_splice {bs : List UInt8} {cur : List Value} {n : Nat} (h : bs.length = n) (h2 : cur.length = n) : splice cur 0 (u8s bs) = u8s bs := by
  unfold splice
  rw [List.take_zero, List.nil_append, List.drop_of_length_le (by rw [u8s_length]; omega), List.append_nil]
theorem copy_src {bs : List UInt8} {x : Addr} {w w1 : World} (h : ∀ (j : Nat) b, bs[j]? = some b → w.cell? (x.add j) = some (.int .u8 (b.toNat : Int))) (hb : Below w.heap.size w w1) (hx : bs ≠ [] → x.block < w.heap.size) :
    ∀ (j : Nat) v, (u8s bs)[j]? = some v → w1.cell? (x.add j) = some v := by
  intro j v hj
  obtain ⟨b, hb1, rfl⟩ := u8s_at hj
  have hx := hx (by rintro rfl; simp at hb1)
  rw [hb.cell (p := x.add j) (by have : (x.add j).block = x.block := by unfold Addr.add; split <;> rfl
                                 omega)]
  exact h j b hb1

set_option maxHeartbeats 1000000 in
theorem clone_some (x : Addr) (n cap : Nat) (bs : List UInt8) (w : World) (hn : Hid (bs.length = n)) (hb : n ≤ 1048576)
    (hc : Hid (∀ (j : Nat) b, bs[j]? = some b → w.cell? (x.add j) = some (.int .u8 (b.toNat : Int)))) (hx : Hid (bs ≠ [] → x.block < w.heap.size)) :
    Calls Try.prog 16 #[.slice (some x) n cap] w fun e w' => e = .returned (.slice (some ⟨w.heap.size, 0, none⟩) n n) ∧
      Hid (w'.heap[w.heap.size]? = some (.cells (u8s bs).toArray 5 (0, 0))) ∧ Below w.heap.size w w' := by
  have hq := eq_nil
  obtain ⟨i0, hi, hz0, hz1, hz2⟩ := info_parts info5
  go_enter Try.func16, Try.ntmps16
  go_wp2_with (at_make; refine wpList_make_full _ rfl (.tmp 7) (.tmp 7) 28 rfl w.heap.size 5 i0 (.int .u8 0) 1 Try.underlying28 hi hz0 hz1 .i64 .i64 n n n rfl rfl rfl rfl (by rw [hz2]; omega) (by unfold maxLen; omega) (Nat.le_refl _) ?_)
  intro w1 hown hgrow
  obtain ⟨cur, hcur, hsz⟩ := own_cells hown
  have HC1 : Hid (w1.heap[w.heap.size]? = some (.cells cur.toArray 5 (0, 0))) := hcur
  have HB1 : Hid (Below w.heap.size w w1) := (Below.refl _ _).grown hgrow (Nat.le_refl _) (fun k h => by cases h)
  have HS : Hid (cur.length = n) := hsz
  clear hown hgrow hcur hsz
  go_wp2_with (refine wpList_copy_splice rfl (.tmp 9) (.tmp 10) 28 28 rfl 5 Try.underlying28 size5 (some ⟨w.heap.size, 0, none⟩) (some x) n n n cap rfl rfl w.heap.size 0 cur 5 HC1.out (u8s bs) (copy_len hn.out) (fun _ => ⟨rfl, x, rfl, copy_src hc.out HB1.out hx.out⟩) (copy_fit hn.out HS.out) u8s_one w.heap.size w HB1.out (Nat.le_refl _) ?_)
  intro w2 hg2 hb2
  have HB2 : Hid (Below w.heap.size w w2) := hb2
  clear hb2
  go_wp2
  go_ret
  refine ⟨rfl, ?_, HB2.out⟩
  have := hg2.out
  rw [copy_splice hn.out HS.out] at this
  exact this
end Go.Proofs.Qxb6003368a
