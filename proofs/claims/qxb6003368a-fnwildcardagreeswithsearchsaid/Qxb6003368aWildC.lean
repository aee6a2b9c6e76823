import Derived.Test.Qxb6003368aWildB
import Derived.Laws.CopyOwn
import Derived.Laws.OwnMore
namespace Go.Proofs.Qxb6003368a
open Go.RowKit

theorem info9 : (Try.prog.info? 9).map (fun i => (i.zero, i.size, i.bytes)) = some (some (.string ByteArray.empty), 1, 16) := by kernel_rfl
theorem size9 : (Try.prog.info? 9).map (·.size) = some 1 := by kernel_rfl

def strs' (ps : List ByteArray) : List Value := ps.map .string
theorem strs_at {ps : List ByteArray} {j : Nat} {v : Value} (h : (strs' ps)[j]? = some v) : ∃ p, ps[j]? = some p ∧ v = .string p := by
  unfold strs' at h
  rw [List.getElem?_map] at h
  cases hb : ps[j]? with
  | none => rw [hb] at h; cases h
  | some b => rw [hb] at h; exact ⟨b, rfl, (Option.some.inj h).symm⟩
theorem strs_one {ps : List ByteArray} : ∀ v ∈ strs' ps, v.oneCell' = true := by
  intro v hv
  obtain ⟨b, _, rfl⟩ := List.mem_map.mp hv
  rfl
theorem strs_length (ps : List ByteArray) : (strs' ps).length = ps.length := by simp [strs']

theorem eq_nil33 (w : World) (a : Option Addr) (n c n' c' : Nat) : (binOp .eql 33 (.slice a n c) (.slice none n' c')).run Try.prog w = .ok (.bool a.isNone) w :=
  Lib.run_eql_slice_nil w _ _ a n c n' c' Try.underlying33

theorem own_cells9 {w : World} {B g n : Nat} {xs : List Value} (h : w.ownsRow B 9 1 (.slice (some ⟨g, 0, none⟩) n n) n xs) :
    ∃ cur : List Value, w.heap[g]? = some (.cells cur.toArray 9 (0, 0)) ∧ cur.length = n := by
  rcases h.2 with ⟨h, _⟩ | ⟨g', cap, cur, h1, _, h2, _, _, h3, _⟩
  · cases h
  · simp only [Value.slice.injEq, Option.some.injEq, Addr.mk.injEq] at h1
    obtain ⟨⟨rfl, _⟩, _, rfl⟩ := h1
    exact ⟨cur.toList, by rw [h2], by simp; omega⟩
theorem scopy_len {bs : List ByteArray} {n : Nat} (h : bs.length = n) : (strs' bs).length = Nat.min n n := by
  rw [strs_length, h]; exact (Nat.min_self n).symm
theorem scopy_fit {bs : List ByteArray} {cur : List Value} {n : Nat} (h : bs.length = n) (h2 : cur.length = n) : 0 + (strs' bs).length ≤ cur.length := by
  rw [strs_length]; omega
theorem scopy_splice {bs : List ByteArray} {cur : List Value} {n : Nat} (h : bs.length = n) (h2 : cur.length = n) : splice cur 0 (strs' bs) = strs' bs := by
  unfold splice
  rw [List.take_zero, List.nil_append, List.drop_of_length_le (by rw [strs_length]; omega), List.append_nil]

/-- the pieces that came in. -/
def Row (w : World) (oa : Option Addr) (ss : List ByteArray) : Prop := ∀ (i : Nat) p, ss[i]? = some p → ∃ b off, oa = some ⟨b, off, none⟩ ∧ b < w.heap.size ∧ w.cell? ⟨b, off + i, none⟩ = some (.string p)

theorem scopy_src {ss : List ByteArray} {b off : Nat} {w w1 : World} (h : Row w (some ⟨b, off, none⟩) ss) (hb : Below w.heap.size w w1) :
    ∀ (j : Nat) v, (strs' ss)[j]? = some v → w1.cell? ((⟨b, off, none⟩ : Addr).add j) = some v := by
  intro j v hj
  obtain ⟨p, hp, rfl⟩ := strs_at hj
  obtain ⟨b', off', he, hlt, hc⟩ := h j p hp
  simp only [Option.some.injEq, Addr.mk.injEq] at he
  obtain ⟨rfl, rfl, _⟩ := he
  rw [Addr.add_lit, hb.cell (p := ⟨b, off + j, none⟩) hlt]
  exact hc

set_option maxHeartbeats 1000000 in
theorem sclone (b off n cap : Nat) (ss : List ByteArray) (w : World) (hn : Hid (ss.length = n)) (hb : n ≤ 5) (hc : Hid (Row w (some ⟨b, off, none⟩) ss)) :
    Calls Try.prog 19 #[.slice (some ⟨b, off, none⟩) n cap] w fun e w' => e = .returned (.slice (some ⟨w.heap.size, 0, none⟩) n n) ∧
      Hid (Lie w' w.heap.size ss) ∧ Below w.heap.size w w' := by
  have hq := eq_nil33
  obtain ⟨i0, hi, hz0, hz1, hz2⟩ := info_parts info9
  go_enter Try.func19, Try.ntmps19
  go_wp2_with (at_make; refine wpList_make_full _ rfl (.tmp 7) (.tmp 7) 33 rfl w.heap.size 9 i0 (.string ByteArray.empty) 1 Try.underlying33 hi hz0 hz1 .i64 .i64 n n n rfl rfl rfl rfl (by rw [hz2]; omega) (by unfold maxLen; omega) (Nat.le_refl _) ?_)
  intro w1 hown hgrow
  obtain ⟨cur, hcur, hsz⟩ := own_cells9 hown
  have HC1 : Hid (w1.heap[w.heap.size]? = some (.cells cur.toArray 9 (0, 0))) := hcur
  have HB1 : Hid (Below w.heap.size w w1) := (Below.refl _ _).grown hgrow (Nat.le_refl _) (fun k h => by cases h)
  have HS : Hid (cur.length = n) := hsz
  clear hown hgrow hcur hsz
  go_wp2_with (refine wpList_copy_splice rfl (.tmp 9) (.tmp 10) 33 33 rfl 9 Try.underlying33 size9 (some ⟨w.heap.size, 0, none⟩) (some ⟨b, off, none⟩) n n n cap rfl rfl w.heap.size 0 cur 9 HC1.out (strs' ss) (scopy_len hn.out) (fun _ => ⟨rfl, ⟨b, off, none⟩, rfl, scopy_src hc.out HB1.out⟩) (scopy_fit hn.out HS.out) strs_one w.heap.size w HB1.out (Nat.le_refl _) ?_)
  intro w2 hg2 hb2
  have HB2 : Hid (Below w.heap.size w w2) := hb2
  clear hb2
  go_wp2
  go_ret
  refine ⟨rfl, ?_, HB2.out⟩
  have hh := hg2.out
  rw [scopy_splice hn.out HS.out] at hh
  intro j p hp
  have hu : (strs' ss)[j]? = some (.string p) := by simp [strs', hp]
  simp [World.cell?, hh, hu]

def IsBool (e : Ending) : Prop := ∃ v, e = .returned (.bool v)

set_option maxHeartbeats 2000000 in
theorem wbytes (oa : Option Addr) (cap : Nat) (ss : List ByteArray) (s : ByteArray) (w : World) (hr : Hid (Row w oa ss)) (hl : ss.length ≤ maxLen) (hz : Hid (∀ p ∈ ss, p.size ≤ maxLen)) (hs : s.size ≤ maxLen) :
    Calls Try.prog 18 #[.slice oa ss.length cap, .string s] w fun e w' => IsBool e ∧ w' = w := by
  unfold maxLen at hl hs
  by_cases hn : (1048576 : Int) < (ss.length : Int)
  · go_enter Try.func18, Try.ntmps18
    go_wp2_with fail
    go_ret
    exact ⟨⟨false, rfl⟩, rfl⟩
  · go_enter Try.func18, Try.ntmps18
    go_wp2_with fail
    go_loop [5, 6] (fun z i => ∃ (k : Nat) (x : Nat), k ≤ ss.length ∧ i = .int .i64 k ∧ z = .int .i64 x ∧ x ≤ 1048576) (fun _ i => ss.length - (intOf i).toNat)
    case atStart => exact ⟨0, ss.length, Nat.zero_le _, rfl, by go_num, by omega⟩
    case round =>
      obtain ⟨k, x, hk, rfl, rfl, hx⟩ := hrel
      by_cases hlt : k < ss.length
      · obtain ⟨p, hp⟩ : ∃ p, ss[k]? = some p := ⟨ss[k], List.getElem?_eq_getElem hlt⟩
        obtain ⟨b, off, he, hb, hc⟩ := hr.out k p hp
        have hpz := hz.out p (List.mem_of_getElem? hp)
        unfold maxLen at hpz
        clear hp
        subst he
        have hlt' : (k : Int) < (ss.length : Int) := by omega
        by_cases hbig : (1048576 : Int) < (p.size : Int)
        · go_wp2_with fail
          go_ret
          exact ⟨⟨false, rfl⟩, rfl⟩
        · by_cases hsum : (1048576 : Int) < (x : Int) + (p.size : Int)
          · go_wp2_with fail
            go_ret
            exact ⟨⟨false, rfl⟩, rfl⟩
          · go_wp2_with fail
            go_round
            case rel => exact ⟨k + 1, x + p.size, by omega, by go_num, by go_num, by omega⟩
            case measure => simp [intOf]; omega
      · have hlt' : ¬ (k : Int) < (ss.length : Int) := by omega
        by_cases hbig : (1048576 : Int) < (s.size : Int)
        · go_wp2_with fail
          go_ret
          exact ⟨⟨false, rfl⟩, rfl⟩
        · by_cases hsum : (1048576 : Int) < (x : Int) + (s.size : Int)
          · go_wp2_with fail
            go_ret
            exact ⟨⟨false, rfl⟩, rfl⟩
          · go_wp2_with fail
            go_ret
            exact ⟨⟨true, rfl⟩, rfl⟩

theorem zmatch (g m : Nat) (ps mids : List ByteArray) (s first last : ByteArray) (w : World) (mx : Int) (hn : m ≤ 3) (hs : s.size ≤ 32) (hpl : Hid (mids.length = m)) (hc : Hid (Lie w g ps)) (hps : Hid (∀ p ∈ ps, p.size ≤ 8))
    (hf : Hid (ps[0]? = some first)) (hl : Hid (ps[m + 1]? = some last)) (hmid : Hid (∀ (k : Nat) p, mids[k]? = some p → ps[1 + k]? = some p)) (hmx : w.cell? ⟨0, 0, none⟩ = some (.int .i64 mx)) :
    Calls Try.prog 20 #[.slice (some ⟨g, 0, none⟩) (m + 2) (m + 2), .string s] w fun e w' => Says (MT s first last (bl mids)) e ∧ ∃ nn, w' = w.drewN nn := by
  have h := match_any g m ps mids s first last w mx hn hs hpl hc hps hf hl hmid hmx
  have H : Hid (Calls Try.prog 27 #[.slice (some ⟨g, 0, none⟩) (m + 2) (m + 2), .string s] w fun e w' => Says (MT s first last (bl mids)) e ∧ ∃ nn, w' = w.drewN nn) := h
  clear h hmx
  go_enter Try.func20, Try.ntmps20
  go_wp2_with fail
  refine H.out.mono ?_
  rintro e w2 ⟨⟨b, rfl, hb⟩, nn, rfl⟩
  have HB : Hid (b = true ↔ MT s first last (bl mids)) := hb
  clear hb
  go_wp2_with fail
  go_ret
  exact ⟨⟨b, rfl, HB.out⟩, nn, rfl⟩
end Go.Proofs.Qxb6003368a
