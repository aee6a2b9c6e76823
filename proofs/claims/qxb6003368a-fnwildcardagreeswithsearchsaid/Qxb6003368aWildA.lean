import Derived.Test.Qxb6003368aRows
import Derived.Test.Qxb6003368aWildPlain
import Derived.WalkKit
import Derived.WalkSpells
import Derived.Outline
import Derived.Lib.IndexBytes
namespace Go.Proofs.Qxb6003368a
open Go.RowKit

/-- A yes or no that answers F. -/
def Says (F : Prop) (e : Ending) : Prop := ∃ b, e = .returned (.bool b) ∧ (b = true ↔ F)

/-- the pieces lie in block g, from its head. -/
def Lie (w : World) (g : Nat) (ps : List ByteArray) : Prop := ∀ (i : Nat) p, ps[i]? = some p → w.cell? ⟨g, i, none⟩ = some (.string p)

def bl (ps : List ByteArray) : List (List UInt8) := ps.map fun p => p.data.toList

theorem beq_extract (s p : ByteArray) (a b : Nat) : (((s.extract a b).toList == p.toList) = true) ↔ (s.data.toList.drop a).take (b - a) = p.data.toList := by
  rw [beq_iff_eq, Lib.extract_toList, Lib.toList_data]

theorem dl (s : ByteArray) : s.data.toList.length = s.size := by simp

theorem drop_ps (ps : List ByteArray) (k : Nat) (p : ByteArray) (h : ps[k]? = some p) : bl (ps.drop k) = p.data.toList :: bl (ps.drop (k + 1)) := by
  obtain ⟨hk, rfl⟩ := List.getElem?_eq_some_iff.mp h
  rw [List.drop_eq_getElem_cons hk]
  rfl

set_option maxHeartbeats 4000000 in
theorem search_last (g n : Nat) (ps : List ByteArray) (s : ByteArray) (w : World) (k pos : Nat) (p : ByteArray) (hn : n ≤ 5) (hs : s.size ≤ 32) (hp : Hid (ps[k]? = some p)) (hpl : Hid (ps.length = n))
    (hc : w.cell? ⟨g, k, none⟩ = some (.string p)) (hps : p.size ≤ 8) (hk : k + 1 = n) (hpos : pos ≤ 64) :
    Calls Try.prog 21 #[.slice (some ⟨g, 0, none⟩) n n, .string s, .int .i64 k, .int .i64 pos] w fun e w' => Says (SR s.data.toList (bl (ps.drop k)) pos) e ∧ w' = w := by
  subst hk
  have hSR : SR s.data.toList (bl (ps.drop k)) pos ↔ (pos + p.size ≤ s.size ∧ s.data.toList.drop (s.size - p.size) = p.data.toList) := by
    rw [drop_ps ps k p hp.out, List.drop_of_length_le (by rw [hpl.out]; exact Nat.le_refl _)]
    show _ + p.data.toList.length ≤ s.data.toList.length ∧ _ ↔ _
    rw [dl, dl]
  have HS : Hid (SR s.data.toList (bl (ps.drop k)) pos ↔ (pos + p.size ≤ s.size ∧ s.data.toList.drop (s.size - p.size) = p.data.toList)) := hSR
  clear hSR
  have hk1 : (((k : Int)) == ((k + 1 : Nat) : Int) - 1) = true := beq_iff_eq.mpr (by omega)
  have hkn : (k : Int) < ((k + 1 : Nat) : Int) := by omega
  by_cases hle : pos + p.size ≤ s.size
  · have hge : (pos : Int) ≤ (s.size : Int) - (p.size : Int) := by omega
    have h0 : (0 : Int) ≤ (s.size : Int) - (p.size : Int) := by omega
    go_enter Try.func21, Try.ntmps21
    go_wp2_with fail
    go_ret
    refine ⟨⟨(s.extract (s.size - p.size) s.size).toList == p.toList, rfl, ?_⟩, rfl⟩
    rw [HS.out, beq_extract, List.take_of_length_le (by rw [List.length_drop, dl]; exact Nat.le_refl _)]
    exact ⟨fun h => ⟨hle, h⟩, fun h => h.2⟩
  · have hge : ¬ ((pos : Int) ≤ (s.size : Int) - (p.size : Int)) := by omega
    go_enter Try.func21, Try.ntmps21
    go_wp2_with fail
    go_ret
    exact ⟨⟨false, rfl, by rw [HS.out]; simp; omega⟩, rfl⟩

/-- no hit among the places from pos to below j. -/
def NoHit (l p : List UInt8) (rest : List (List UInt8)) (pos j : Nat) : Prop := ∀ i, pos ≤ i → i < j → ¬ (i + p.length ≤ l.length ∧ (l.drop i).take p.length = p ∧ SR l rest (i + p.length))

theorem nohit_succ {l p : List UInt8} {rest : List (List UInt8)} {pos j : Nat} (h : NoHit l p rest pos j) (hj : ¬ (j + p.length ≤ l.length ∧ (l.drop j).take p.length = p ∧ SR l rest (j + p.length))) : NoHit l p rest pos (j + 1) := by
  intro i h1 h2
  by_cases e : i = j
  · subst e; exact hj
  · exact h i h1 (by omega)

set_option maxHeartbeats 8000000 in
theorem search_any (g n : Nat) (ps : List ByteArray) (s : ByteArray) (w : World) (hn : n ≤ 5) (hs : s.size ≤ 32) (hpl : Hid (ps.length = n)) (hc : Hid (Lie w g ps)) (hps : Hid (∀ p ∈ ps, p.size ≤ 8)) :
    ∀ (m k pos : Nat), n - k ≤ m → 1 ≤ k → k < n → pos ≤ 64 →
    Calls Try.prog 21 #[.slice (some ⟨g, 0, none⟩) n n, .string s, .int .i64 k, .int .i64 pos] w fun e w' => Says (SR s.data.toList (bl (ps.drop k)) pos) e ∧ w' = w := by
  intro m
  induction m with
  | zero => intro k pos h1 h2 h3; omega
  | succ m ih =>
    intro k pos hm hk1 hkn hpos
    obtain ⟨p, hp⟩ : ∃ p, ps[k]? = some p := ⟨ps[k]'(by rw [hpl.out]; exact hkn), List.getElem?_eq_getElem _⟩
    have hpsz : p.size ≤ 8 := hps.out p (List.mem_of_getElem? hp)
    have hcell : w.cell? ⟨g, k, none⟩ = some (.string p) := hc.out k p hp
    by_cases hlast : k + 1 = n
    · exact search_last g n ps s w k pos p hn hs hp hpl hcell hpsz hlast hpos
    · have HP : Hid (ps[k]? = some p) := hp
      have hb1 : ((k : Int) == (n : Int) - 1) = false := beq_eq_false_iff_ne.mpr (by omega)
      have hb0 : ((k : Int) == 0) = false := beq_eq_false_iff_ne.mpr (by omega)
      have hkn' : (k : Int) < (n : Int) := by omega
      have hSR : SR s.data.toList (bl (ps.drop k)) pos ↔ ∃ j, pos ≤ j ∧ j + p.size ≤ s.size ∧ (s.data.toList.drop j).take p.size = p.data.toList ∧ SR s.data.toList (bl (ps.drop (k + 1))) (j + p.size) := by
        rw [drop_ps ps k p hp, SR_cons _ _ _ _ (by
          have : (bl (ps.drop (k + 1))).length = n - (k + 1) := by rw [bl, List.length_map, List.length_drop, hpl.out]
          intro h0; rw [h0] at this; simp at this; omega)]
        rw [dl, dl]
      have HS : Hid (SR s.data.toList (bl (ps.drop k)) pos ↔ ∃ j, pos ≤ j ∧ j + p.size ≤ s.size ∧ (s.data.toList.drop j).take p.size = p.data.toList ∧ SR s.data.toList (bl (ps.drop (k + 1))) (j + p.size)) := hSR
      have IH : Hid (∀ (k pos : Nat), n - k ≤ m → 1 ≤ k → k < n → pos ≤ 64 →
        Calls Try.prog 21 #[.slice (some ⟨g, 0, none⟩) n n, .string s, .int .i64 k, .int .i64 pos] w fun e w' => Says (SR s.data.toList (bl (ps.drop k)) pos) e ∧ w' = w) := ih
      clear hSR hp ih
      go_enter Try.func21, Try.ntmps21
      go_wp2_with fail
      go_loop [12] (fun i => ∃ j : Nat, pos ≤ j ∧ j ≤ 64 ∧ i = .int .i64 j ∧ Hid (NoHit s.data.toList p.data.toList (bl (ps.drop (k + 1))) pos j)) (fun i => 64 - (intOf i).toNat)
      case atStart => exact ⟨pos, Nat.le_refl _, hpos, rfl, fun i h1 h2 => by omega⟩
      case round =>
        obtain ⟨j, hj, hj64, rfl, HN⟩ := hrel
        by_cases hfit : j + p.size ≤ s.size
        · have hfit' : (j : Int) + (p.size : Int) ≤ (s.size : Int) := by omega
          cases heq : ((s.extract j (j + p.size)).toList == p.toList)
          · have HE : Hid (¬ (s.data.toList.drop j).take p.size = p.data.toList) := fun h => by
              have := (beq_extract s p j (j + p.size)).mpr (by rw [Nat.add_sub_cancel_left]; exact h)
              rw [heq] at this; cases this
            go_wp2_with fail
            go_round
            case rel => exact ⟨j + 1, by omega, by omega, by go_num, nohit_succ HN.out fun h => HE.out (by rw [← dl p]; exact h.2.1)⟩
            case measure => simp [intOf]; omega
          · have HE : Hid ((s.data.toList.drop j).take p.size = p.data.toList) := by
              have := (beq_extract s p j (j + p.size)).mp heq
              rw [Nat.add_sub_cancel_left] at this; exact this
            go_wp2_with fail
            refine (by have := IH.out (k + 1) (j + p.size) (by omega) (by omega) (by omega) (by omega); push_cast at this; exact this : Calls Try.prog 21 #[.slice (some ⟨g, 0, none⟩) n n, .string s, .int .i64 ((k : Int) + 1), .int .i64 ((j : Int) + (p.size : Int))] w fun e w' => Says (SR s.data.toList (bl (ps.drop (k + 1))) (j + p.size)) e ∧ w' = w).mono ?_
            rintro e w2 ⟨⟨b, rfl, hb⟩, rfl⟩
            cases b
            · have HB : Hid (¬ SR s.data.toList (bl (ps.drop (k + 1))) (j + p.size)) := fun h => by
                have := hb.mpr h; cases this
              clear hb
              go_wp2_with fail
              go_round
              case rel => exact ⟨j + 1, by omega, by omega, by go_num, nohit_succ HN.out fun h => HB.out (by rw [← dl p]; exact h.2.2)⟩
              case measure => simp [intOf]; omega
            · have HB : Hid (SR s.data.toList (bl (ps.drop (k + 1))) (j + p.size)) := hb.mp rfl
              clear hb
              go_wp2_with fail
              go_ret
              exact ⟨⟨true, rfl, by rw [HS.out]; exact ⟨fun _ => ⟨j, hj, hfit, HE.out, HB.out⟩, fun _ => rfl⟩⟩, rfl⟩
        · have hfit' : ¬ (j : Int) + (p.size : Int) ≤ (s.size : Int) := by omega
          go_wp2_with fail
          go_ret
          refine ⟨⟨false, rfl, ?_⟩, rfl⟩
          rw [HS.out]
          constructor
          · intro h; cases h
          · rintro ⟨i, h1, h2, h3, h4⟩
            by_cases hij : i < j
            · exact absurd ⟨by rw [dl, dl]; exact h2, by rw [dl]; exact h3, by rw [dl]; exact h4⟩ (HN.out i h1 hij)
            · omega

/-- zzWildSearch at the first piece. -/
def Top (s p : ByteArray) (rest : List (List UInt8)) : Prop := p.size ≤ s.size ∧ s.data.toList.take p.size = p.data.toList ∧ SR s.data.toList rest p.size

set_option maxHeartbeats 4000000 in
theorem search_top (g n : Nat) (ps : List ByteArray) (s : ByteArray) (w : World) (p : ByteArray) (h2 : 2 ≤ n) (hn : n ≤ 5) (hs : s.size ≤ 32) (hpl : Hid (ps.length = n)) (hc : Hid (Lie w g ps)) (hps : Hid (∀ p ∈ ps, p.size ≤ 8)) (hp0 : Hid (ps[0]? = some p)) :
    Calls Try.prog 21 #[.slice (some ⟨g, 0, none⟩) n n, .string s, .int .i64 0, .int .i64 0] w fun e w' => Says (Top s p (bl (ps.drop 1))) e ∧ w' = w := by
  have hpsz : p.size ≤ 8 := hps.out p (List.mem_of_getElem? hp0.out)
  have hcell : w.cell? ⟨g, 0, none⟩ = some (.string p) := hc.out 0 p hp0.out
  have hb1 : ((0 : Int) == (n : Int) - 1) = false := beq_eq_false_iff_ne.mpr (by omega)
  have hkn' : (0 : Int) < (n : Int) := by omega
  have hcall := search_any g n ps s w hn hs hpl.out hc.out hps.out n 1 p.size (by omega) (by omega) (by omega) (by omega)
  have HC : Hid (Calls Try.prog 21 #[.slice (some ⟨g, 0, none⟩) n n, .string s, .int .i64 1, .int .i64 (p.size : Int)] w fun e w' => Says (SR s.data.toList (bl (ps.drop 1)) p.size) e ∧ w' = w) := hcall
  clear hcall
  by_cases hle : p.size ≤ s.size
  · have hle' : (p.size : Int) ≤ (s.size : Int) := by omega
    cases heq : ((s.extract 0 p.size).toList == p.toList)
    · have HE : Hid (¬ s.data.toList.take p.size = p.data.toList) := fun h => by
        have := (beq_extract s p 0 p.size).mpr (by simpa using h)
        rw [heq] at this; cases this
      go_enter Try.func21, Try.ntmps21
      go_wp2_with fail
      go_ret
      exact ⟨⟨false, rfl, ⟨fun h => (nomatch h), fun h => absurd h.2.1 HE.out⟩⟩, rfl⟩
    · have HE : Hid (s.data.toList.take p.size = p.data.toList) := by
        have := (beq_extract s p 0 p.size).mp heq
        show _ = _
        simpa using this
      go_enter Try.func21, Try.ntmps21
      go_wp2_with fail
      refine HC.out.mono ?_
      rintro e w2 ⟨⟨b, rfl, hb⟩, rfl⟩
      have HB : Hid (b = true ↔ SR s.data.toList (bl (ps.drop 1)) p.size) := hb
      clear hb
      go_wp2_with fail
      go_ret
      exact ⟨⟨b, rfl, by rw [HB.out]; exact ⟨fun h => ⟨hle, HE.out, h⟩, fun h => h.2.2⟩⟩, rfl⟩
  · have hle' : ¬ (p.size : Int) ≤ (s.size : Int) := by omega
    go_enter Try.func21, Try.ntmps21
    go_wp2_with fail
    go_ret
    exact ⟨⟨false, rfl, ⟨fun h => (nomatch h), fun h => absurd h.1 (by omega)⟩⟩, rfl⟩
end Go.Proofs.Qxb6003368a
