import Derived.Test.Qxb6003368aWalkE
namespace Go.Proofs.Qxb6003368a
open Go.RowKit

theorem walk_big (oa : Option Addr) (n cap : Nat) (s : ByteArray) (w : World) (h : ¬ n + s.size ≤ 1048576) (hn : n ≤ maxLen) (hs : s.size ≤ maxLen) :
    Calls Try.prog 4 #[.slice oa n cap, .string s] w fun e w' => e = .returned (.bool true) ∧ Below w.heap.size w w' := by
  go_enter Try.func4, Try.ntmps4
  go_wp2_with fail
  refine (bytes_no oa n cap s _ h hn hs).mono ?_
  rintro e w1 ⟨rfl, rfl⟩
  go_wp2
  go_ret
  exact ⟨rfl, Below.refl _ _⟩

theorem both_cells {w wr : World} {oa2 oa3 : Option Addr} {bs cs : List UInt8} {k : Nat} {b : UInt8} (hw : ∃ n, wr = w.drewN n) (h2 : Rd w oa2 bs) (h3 : Rd w oa3 (bs ++ cs)) (hb : bs[k]? = some b) :
    ∃ g2 g3, oa2 = some ⟨g2, 0, none⟩ ∧ oa3 = some ⟨g3, 0, none⟩ ∧ wr.cell? ⟨g2, k, none⟩ = some (.int .u8 (b.toNat : Int)) ∧ wr.cell? ⟨g3, k, none⟩ = some (.int .u8 (b.toNat : Int)) := by
  obtain ⟨n, rfl⟩ := hw
  have hl := (List.getElem?_eq_some_iff.mp hb).1
  rcases h2 with ⟨_, rfl⟩ | ⟨g2, rfl, _, c2⟩
  · simp at hl
  · rcases h3 with ⟨_, h⟩ | ⟨g3, rfl, _, c3⟩
    · simp at h; rw [h.1] at hl; simp at hl
    · exact ⟨g2, g3, rfl, rfl, c2 k b hb, c3 k b (by rw [List.getElem?_append_left hl]; exact hb)⟩

theorem more_drew {w wr : World} (h : ∃ n, wr = w.drewN n) (q : Nat) : ∃ n, wr.drewN q = w.drewN n := by
  obtain ⟨n, rfl⟩ := h
  exact ⟨n + q, World.drewN_drewN ..⟩
theorem bel_drew {w0 w wr : World} (h : ∃ n, wr = w.drewN n) (hb : Below w0.heap.size w0 w) : Below w0.heap.size w0 wr := by
  obtain ⟨n, rfl⟩ := h
  exact ⟨hb.os, hb.tape, hb.output, hb.size, hb.block⟩

theorem conv_some (w : World) (g off c : Nat) (l : List UInt8) (h : ∀ (j : Nat) b, l[j]? = some b → w.cell? ⟨g, off + j, none⟩ = some (.int .u8 (b.toNat : Int))) :
    (convert 28 9 (.slice (some ⟨g, off, none⟩) l.length c)).run Try.prog w = .ok (.string ⟨l.toArray⟩) w := by
  refine run_convert_bytes_back w 28 9 5 ⟨g, off, none⟩ c l Try.underlying28 Try.underlying5 Try.underlying9 fun j hj => ?_
  rw [Addr.add_lit]
  exact h j _ (List.getElem?_eq_getElem hj)

theorem conv_none (w : World) (n c : Nat) : (convert 28 9 (.slice none n c)).run Try.prog w = .ok (.string ByteArray.empty) w :=
  run_convert_bytes_nil w 28 5 Try.underlying28 Try.underlying5 n c 9 Try.underlying9

theorem conv_tail {w wr : World} {oa : Option Addr} {bs cs : List UInt8} {m : Nat} (hw : ∃ n, wr = w.drewN n) (hr : Rd w oa (bs ++ cs)) (hm : cs.length = m) (c : Nat) :
    ∃ ot : ByteArray, ot.data.toList = cs ∧ (convert 28 9 (.slice (Option.map (fun x => x.add bs.length) oa) m (c - bs.length))).run Try.prog wr = .ok (.string ot) wr ∧
      (m = 0 → (convert 28 9 (.slice oa m 0)).run Try.prog wr = .ok (.string ot) wr) := by
  obtain ⟨n, rfl⟩ := hw
  refine ⟨⟨cs.toArray⟩, rfl, ?_⟩
  subst hm
  rcases hr with ⟨rfl, h⟩ | ⟨g, rfl, _, hc⟩
  · have hcs : cs = [] := (List.append_eq_nil_iff.mp h).2
    subst hcs
    exact ⟨conv_none _ _ _, fun _ => conv_none _ _ _⟩
  · refine ⟨?_, fun h0 => ?_⟩
    · simp only [Option.map_some, add_lit]
      refine conv_some _ _ _ _ _ fun j b hj => ?_
      refine hc (bs.length + j) b ?_
      rw [List.getElem?_append_right (by omega), show bs.length + j - bs.length = j by omega]
      exact hj
    · have hcs : cs = [] := List.eq_nil_of_length_eq_zero h0
      subst hcs
      exact conv_some _ _ _ _ _ fun j b hj => by simp at hj

theorem conv_whole {w : World} {oa : Option Addr} {l : List UInt8} (hr : Rd w oa l) (c : Nat) : (convert 28 9 (.slice oa l.length c)).run Try.prog w = .ok (.string ⟨l.toArray⟩) w := by
  rcases hr with ⟨rfl, rfl⟩ | ⟨g, rfl, _, hc⟩
  · exact conv_none _ _ _
  · exact conv_some _ _ _ _ _ fun j b hj => by rw [Nat.zero_add]; exact hc j b hj

theorem len_data (s : ByteArray) : s.data.toList.length = s.size := by simp
theorem conv_back {w : World} {oa : Option Addr} {s : ByteArray} (hr : Rd w oa s.data.toList) (c : Nat) : (convert 28 9 (.slice oa s.size c)).run Try.prog w = .ok (.string s) w := by
  have := conv_whole hr c
  rw [len_data] at this
  exact this
theorem no_under {ot : ByteArray} {l : List UInt8} (ho : ot.data.toList = l) (h : ∀ c ∈ l, ¬ c = 95) : ∀ (j : Nat) (h : j < ot.size), ((ot[j].toNat : Int) == 95) = false := by
  intro j hj
  rw [beq_eq_false_iff_ne]
  intro e
  have hm : ot[j] ∈ l := by
    rw [← ho]
    exact List.mem_of_getElem? (at_get ot j hj)
  exact h _ hm (by rw [u8_of (a := ot[j]) (n := 95) e (by decide)]; rfl)

set_option maxHeartbeats 4000000 in
set_option maxRecDepth 100000 in
theorem walk_main (oa : Option Addr) (bs : List UInt8) (cap : Nat) (s : ByteArray) (w : World) (h : bs.length + s.size ≤ 1048576) (hsrc : Hid (Src w oa bs cap)) :
    Calls Try.prog 4 #[.slice oa bs.length cap, .string s] w fun e w' => e = .returned (.bool true) ∧ Below w.heap.size w w' := by
  have h3 : ¬ (1048576 : Int) < (bs.length : Int) + (s.size : Int) := by omega
  go_enter Try.func4, Try.ntmps4
  go_wp2_with fail
  refine (bytes_yes oa bs.length cap s _ h).mono ?_
  rintro e w0 ⟨rfl, rfl⟩
  go_wp2_with fail
  refine (alnum_any s _ (by omega)).mono ?_
  rintro e w0 ⟨⟨b, rfl, hb⟩, rfl⟩
  cases b
  case' false =>
    clear hb
    go_wp2_with fail
    refine (snake_any s _ (by omega)).mono ?_
    rintro e w0 ⟨⟨b2, rfl, hb2⟩, rfl⟩
    cases b2
    case' false =>
      go_wp2_with fail
      go_ret
      exact ⟨rfl, Below.refl _ _⟩
    case' true =>
      have HF : Hid ((∀ c ∈ sp s.data.toList, ¬ c = 95) ∧ sp (sp s.data.toList) = s.data.toList) := back_snake _ (hb2 rfl)
      clear hb2
      go_wp2_with fail
  case' true =>
    have HF : Hid (True ∧ sp (sp s.data.toList) = s.data.toList) := ⟨trivial, back_camel _ (hb rfl)⟩
    clear hb
    go_wp2_with fail
  all_goals
    refine (clone_any oa bs cap _ hsrc.out (by omega)).mono ?_
    rintro e w1 ⟨oa1, rfl, hr1, hb1⟩
    have HR1 : Hid (Rd w1 oa1 bs) := hr1
    have HB1 : Hid (Below w0.heap.size w0 w1) := hb1
    clear hr1 hb1
    go_wp2_with fail
    refine (clone_any oa1 bs bs.length _ (rd_src HR1.out) (by omega)).mono ?_
    rintro e w2 ⟨oa2, rfl, hr2, hb2⟩
    have HR2 : Hid (Rd w2 oa2 bs) := hr2
    have HR1' : Hid (Rd w2 oa1 bs) := rd_below HR1.out hb2
    have HB2 : Hid (Below w0.heap.size w0 w2) := HB1.out.trans (hb2.mono HB1.out.size)
    clear hr2 hb2 HR1 HB1
    go_wp2_with fail
    refine (zspell_any oa1 bs s _ (by omega) (by omega) HR1'.out).mono ?_
    rintro e w3 ⟨oa3, cap3, rfl, hle, hr3, hb3⟩
    have HR3 : Hid (Rd w3 oa3 (bs ++ sp s.data.toList)) := hr3
    have HK : Hid (Rd w3 oa2 bs) := rd_below HR2.out hb3
    have HB3 : Hid (Below w0.heap.size w0 w3) := HB2.out.trans (hb3.mono HB2.out.size)
    have hl0 : (bs ++ sp s.data.toList).length = bs.length + (sp s.data.toList).length := by simp
    have hl1 : (sp s.data.toList).length ≤ 2097152 := by have := sp_length s.data.toList; have : s.data.toList.length = s.size := by simp
                                                         omega
    rw [hl0] at hle ⊢
    clear hr3 hb3 HR2 HR1' HB2 hl0
    generalize hm : (sp s.data.toList).length = m at *
    have HM : Hid ((sp s.data.toList).length = m) := hm
    clear hm
    go_wp2_with fail
    go_loopw [8] (fun i wr => ∃ k : Nat, k ≤ bs.length ∧ i = .int .i64 k ∧ Hid (∃ nn, wr = w3.drewN nn)) (fun i _ => bs.length - (intOf i).toNat)
    case atStart => exact ⟨0, Nat.zero_le _, rfl, 0, rfl⟩
    case round =>
      obtain ⟨k, hk, rfl, HW⟩ := hrel
      by_cases hlt : k < bs.length
      · obtain ⟨b, hbk⟩ : ∃ b, bs[k]? = some b := ⟨bs[k], List.getElem?_eq_getElem hlt⟩
        obtain ⟨g2, g3, he2, he3, c2, c3⟩ := both_cells HW.out HK.out HR3.out hbk
        have C2 := c2
        have C3 := c3
        clear hbk
        subst he2 he3
        have hkm : (k : Int) < (bs.length : Int) + (m : Int) := by omega
        have hkn : (k : Int) < (bs.length : Int) := by omega
        go_wp2_with fail
        go_quiet (fail)
        go_wp2_with fail
        go_roundw
        case rel => exact ⟨k + 1, by omega, by go_num, more_drew HW.out nq⟩
        case measure => simp [intOf]; omega
      · have hk' : ¬ (k : Int) < (bs.length : Int) := by omega
        obtain ⟨ot, hot, hcv1, hcv2⟩ := conv_tail HW.out HR3.out HM.out cap3
        have HOT : Hid (ot.data.toList = sp s.data.toList) := hot
        have hos : ot.size ≤ 2097152 := by
          have := congrArg List.length hot
          have h2 := HM.out
          have h3 : ot.data.toList.length = ot.size := by simp
          omega
        have hbel : Below w0.heap.size w0 wr := bel_drew HW.out HB3.out
        have HBL : Hid (Below w0.heap.size w0 wr) := hbel
        clear hot hbel HB3 HR3 HK
        by_cases hcap : cap3 = bs.length
        case' pos =>
          have hcv := hcv2 (by omega)
          clear hcv1 hcv2
          go_wp2_with fail
        case' neg =>
          clear hcv2
          go_wp2_with fail
        all_goals first
          | (
            refine (zspell_any none [] ot _ hos (by simp) (.inl ⟨rfl, rfl⟩)).mono ?_
            rintro e w4 ⟨oa4, cap4, rfl, hle4, hr4, hb4⟩
            have e4 : ([] ++ sp ot.data.toList) = s.data.toList := by rw [HOT.out]; exact HF.out.2
            rw [e4] at hr4
            rw [e4, len_data]
            have hcv4 := conv_back hr4 cap4
            have HB4 : Hid (Below w0.heap.size w0 w4) := HBL.out.trans (hb4.mono HBL.out.size)
            clear hr4 hb4 e4 hle4
            go_wp2_with fail
            go_ret
            exact ⟨rfl, HB4.out⟩
            )
          | (
            have HNO : Hid (∀ (j : Nat) (h : j < ot.size), ((ot[j].toNat : Int) == 95) = false) := no_under HOT.out HF.out.1
            go_loop [10] (fun i => ∃ j : Nat, j ≤ ot.size ∧ i = .int .i64 j) (fun i => ot.size - (intOf i).toNat)
            case atStart => exact ⟨0, Nat.zero_le _, rfl⟩
            case round =>
              obtain ⟨j, hj, rfl⟩ := hrel
              by_cases hjl : j < ot.size
              · have hj95 := HNO.out j hjl
                go_wp2_with fail
                go_round
                case rel => exact ⟨j + 1, by omega, by go_num⟩
                case measure => simp [intOf]; omega
              · have hjl' : ¬ (j : Int) < (ot.size : Int) := by omega
                go_wp2_with fail
                refine (zspell_any none [] ot _ hos (by simp) (.inl ⟨rfl, rfl⟩)).mono ?_
                rintro e w4 ⟨oa4, cap4, rfl, hle4, hr4, hb4⟩
                have e4 : ([] ++ sp ot.data.toList) = s.data.toList := by rw [HOT.out]; exact HF.out.2
                rw [e4] at hr4
                rw [e4, len_data]
                have hcv4 := conv_back hr4 cap4
                have HB4 : Hid (Below w0.heap.size w0 w4) := HBL.out.trans (hb4.mono HBL.out.size)
                clear hr4 hb4 e4 hle4
                go_wp2_with fail
                go_ret
                exact ⟨rfl, HB4.out⟩
            )
end Go.Proofs.Qxb6003368a
