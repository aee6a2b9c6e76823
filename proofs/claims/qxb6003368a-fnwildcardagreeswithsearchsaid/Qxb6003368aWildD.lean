import Derived.Test.Qxb6003368aWildC
namespace Go.Proofs.Qxb6003368a
open Go.RowKit

theorem lie_below {w w' : World} {g : Nat} {ps : List ByteArray} (h : Lie w g ps) (hb : ∃ n, w' = w.drewN n) : Lie w' g ps := by
  obtain ⟨n, rfl⟩ := hb
  exact h

/-- the two answers are one. -/
theorem agree (s first last : ByteArray) (mids : List ByteArray) (b1 b2 : Bool) (h1 : b1 = true ↔ MT s first last (bl mids)) (h2 : b2 = true ↔ Top s first (bl (mids ++ [last]))) : b1 = b2 := by
  have hlaw := wild_law s.data.toList first.data.toList last.data.toList (bl mids)
  have e1 : bl (mids ++ [last]) = bl mids ++ [last.data.toList] := by simp [bl]
  have hiff : b1 = true ↔ b2 = true := by
    rw [h1, h2]
    unfold MT Top
    rw [e1]
    simp only [dl] at hlaw
    exact hlaw
  cases b1 <;> cases b2 <;> simp_all

theorem at_first {ss mids : List ByteArray} {first last : ByteArray} (h : ss = first :: (mids ++ [last])) : ss[0]? = some first := by rw [h]; rfl
theorem at_last {ss mids : List ByteArray} {first last : ByteArray} {m : Nat} (h : ss = first :: (mids ++ [last])) (hm : mids.length = m) : ss[m + 1]? = some last := by
  rw [h, List.getElem?_cons_succ, List.getElem?_append_right (by omega), hm]
  simp
theorem at_mid {ss mids : List ByteArray} {first last : ByteArray} (h : ss = first :: (mids ++ [last])) : ∀ (k : Nat) p, mids[k]? = some p → ss[1 + k]? = some p := by
  intro k p hp
  have := (List.getElem?_eq_some_iff.mp hp).1
  rw [h, Nat.add_comm 1 k, List.getElem?_cons_succ, List.getElem?_append_left this]
  exact hp
theorem at_rest {ss mids : List ByteArray} {first last : ByteArray} (h : ss = first :: (mids ++ [last])) : ss.drop 1 = mids ++ [last] := by rw [h]; rfl

theorem eight_succ {ss : List ByteArray} {q : Nat} {p : ByteArray} (h : ∀ (j : Nat) p, j < q → ss[j]? = some p → p.size ≤ 8) (hp : ss[q]? = some p) (h8 : p.size ≤ 8) : ∀ (j : Nat) p, j < q + 1 → ss[j]? = some p → p.size ≤ 8 := by
  intro j p' hj hp'
  by_cases e : j = q
  · subst e; rw [hp] at hp'; rw [← Option.some.inj hp']; exact h8
  · exact h j p' (by omega) hp'
theorem eight_all {ss : List ByteArray} {q : Nat} (h : ∀ (j : Nat) p, j < q → ss[j]? = some p → p.size ≤ 8) (hq : ss.length ≤ q) : ∀ p ∈ ss, p.size ≤ 8 := by
  intro p hp
  obtain ⟨j, hj⟩ := List.mem_iff_getElem?.mp hp
  exact h j p (by have := (List.getElem?_eq_some_iff.mp hj).1; omega) hj
theorem split3 (ss : List ByteArray) (h : 2 ≤ ss.length) : ∃ m first last mids, ss.length = m + 2 ∧ ss = first :: (mids ++ [last]) ∧ mids.length = m := by
  match ss, h with
  | first :: t, h =>
    have ht : t ≠ [] := by rintro rfl; simp at h
    refine ⟨t.length - 1, first, t.getLast ht, t.dropLast, ?_, ?_, by simp⟩
    · simp at h ⊢; omega
    · rw [List.dropLast_concat_getLast]

set_option maxHeartbeats 8000000 in
set_option maxRecDepth 100000 in
theorem wwalk (oa : Option Addr) (cap : Nat) (ss : List ByteArray) (s : ByteArray) (w : World) (mx : Int) (hr : Hid (Row w oa ss)) (hl : ss.length ≤ maxLen) (hz : Hid (∀ p ∈ ss, p.size ≤ maxLen)) (hs : s.size ≤ maxLen)
    (hmx : Hid (w.cell? ⟨0, 0, none⟩ = some (.int .i64 mx))) (h0 : 0 < w.heap.size) :
    Calls Try.prog 5 #[.slice oa ss.length cap, .string s] w fun e w' => e = .returned (.bool true) ∧ Below w.heap.size w w' := by
  unfold maxLen at hl hs
  go_enter Try.func5, Try.ntmps5
  go_wp2_with fail
  refine (wbytes oa cap ss s _ hr.out (by unfold maxLen; exact hl) hz.out (by unfold maxLen; exact hs)).mono ?_
  rintro e w0 ⟨⟨v, rfl⟩, rfl⟩
  cases v
  · go_wp2_with fail
    go_ret
    exact ⟨rfl, Below.refl _ _⟩
  · by_cases hsb : (1048576 : Int) < (s.size : Int)
    · go_wp2_with fail
      go_ret
      exact ⟨rfl, Below.refl _ _⟩
    · by_cases hnb : (65536 : Int) < (ss.length : Int)
      · go_wp2_with fail
        go_ret
        exact ⟨rfl, Below.refl _ _⟩
      · go_wp2_with fail
        go_loop [5, 6] (fun t i => ∃ (k : Nat) (x : Int), k ≤ ss.length ∧ i = .int .i64 k ∧ t = .int .i64 x) (fun _ i => ss.length - (intOf i).toNat)
        case atStart => exact ⟨0, _, Nat.zero_le _, rfl, rfl⟩
        case round =>
          obtain ⟨k, x, hk, rfl, rfl⟩ := hrel
          by_cases hlt : k < ss.length
          · obtain ⟨p, hp⟩ : ∃ p, ss[k]? = some p := ⟨ss[k], List.getElem?_eq_getElem hlt⟩
            obtain ⟨b, off, he, hb, hc⟩ := hr.out k p hp
            clear hp
            subst he
            have hlt' : (k : Int) < (ss.length : Int) := by omega
            go_wp2_with fail
            go_round
            case rel => exact ⟨k + 1, _, by omega, by go_num, rfl⟩
            case measure => simp [intOf]; omega
          · have hlt' : ¬ (k : Int) < (ss.length : Int) := by omega
            by_cases hx : (1048576 : Int) < x
            · go_wp2_with fail
              go_ret
              exact ⟨rfl, Below.refl _ _⟩
            · by_cases hn2 : (ss.length : Int) < 2
              · go_wp2_with fail
                go_ret
                exact ⟨rfl, Below.refl _ _⟩
              · by_cases hn5 : (5 : Int) < (ss.length : Int)
                · go_wp2_with fail
                  go_ret
                  exact ⟨rfl, Below.refl _ _⟩
                · by_cases hs32 : (32 : Int) < (s.size : Int)
                  · go_wp2_with fail
                    go_ret
                    exact ⟨rfl, Below.refl _ _⟩
                  · go_wp2_with fail
                    go_loop [7] (fun i => ∃ (q : Nat), q ≤ ss.length ∧ i = .int .i64 q ∧ Hid (∀ (j : Nat) p, j < q → ss[j]? = some p → p.size ≤ 8)) (fun i => ss.length - (intOf i).toNat)
                    case atStart => exact ⟨0, Nat.zero_le _, rfl, fun j p h => by omega⟩
                    case round =>
                      obtain ⟨q, hq, rfl, HQ⟩ := hrel
                      by_cases hqlt : q < ss.length
                      · obtain ⟨p, hp⟩ : ∃ p, ss[q]? = some p := ⟨ss[q], List.getElem?_eq_getElem hqlt⟩
                        obtain ⟨b, off, he, hb, hc⟩ := hr.out q p hp
                        have HP : Hid (ss[q]? = some p) := hp
                        clear hp
                        subst he
                        have hqlt' : (q : Int) < (ss.length : Int) := by omega
                        by_cases h8 : (8 : Int) < (p.size : Int)
                        · go_wp2_with fail
                          go_ret
                          exact ⟨rfl, Below.refl _ _⟩
                        · go_wp2_with fail
                          go_round
                          case rel => exact ⟨q + 1, by omega, by go_num, eight_succ HQ.out HP.out (by omega)⟩
                          case measure => simp [intOf]; omega
                      · have hqlt' : ¬ (q : Int) < (ss.length : Int) := by omega
                        obtain ⟨m, first, last, mids, hm, hsp, hml⟩ := split3 ss (by omega)
                        have HSP : Hid (ss = first :: (mids ++ [last])) := hsp
                        have H8 : Hid (∀ p ∈ ss, p.size ≤ 8) := eight_all HQ.out (by omega)
                        obtain ⟨b, off, he, hb, hc⟩ := hr.out 0 first (by rw [hsp]; rfl)
                        have HML : Hid (mids.length = m) := hml
                        have HLEN : Hid (ss.length = m + 2) := hm
                        clear hsp hml hc
                        subst he
                        generalize hN : ss.length = N at *
                        have HN : Hid (ss.length = N) := hN
                        clear hN
                        subst hm
                        have hm3 : m ≤ 3 := by omega
                        have hs32' : s.size ≤ 32 := by omega
                        clear hl hs HLEN hlt hlt' hk hnb hx hn2 hn5
                        go_wp2_with fail
                        refine (sclone b off (m + 2) cap ss _ HN.out (by omega) hr.out).mono ?_
                        rintro e w1 ⟨rfl, hlie, hbel⟩
                        have HB1 : Hid (Below w0.heap.size w0 w1) := hbel
                        have HM1 : Hid (w1.cell? ⟨0, 0, none⟩ = some (.int .i64 mx)) := (hbel.cell (p := ⟨0, 0, none⟩) h0).trans hmx.out
                        clear hbel
                        go_wp2_with fail
                        refine (zmatch w0.heap.size m ss mids s first last w1 mx hm3 hs32' HML.out hlie.out H8.out (at_first HSP.out) (at_last HSP.out HML.out) (at_mid HSP.out) HM1.out).mono ?_
                        rintro e w2 ⟨⟨b1, rfl, hb1⟩, nn, rfl⟩
                        go_wp2_with fail
                        refine (search_top w0.heap.size (m + 2) ss s (w1.drewN nn) first (by omega) (by omega) hs32' HN.out (lie_below hlie.out ⟨nn, rfl⟩) H8.out (at_first HSP.out)).mono ?_
                        rintro e w3 ⟨⟨b2, rfl, hb2⟩, rfl⟩
                        have hbb : b1 = b2 := agree s first last mids b1 b2 hb1 (by rw [at_rest HSP.out] at hb2; exact hb2)
                        subst hbb
                        clear hb1 hb2
                        go_wp2_with fail
                        go_ret
                        refine ⟨?_, ⟨HB1.out.os, HB1.out.tape, HB1.out.output, HB1.out.size, HB1.out.block⟩⟩
                        first | rfl | (cases b1 <;> rfl)
end Go.Proofs.Qxb6003368a
