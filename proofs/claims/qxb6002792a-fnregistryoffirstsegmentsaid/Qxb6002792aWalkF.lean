import Derived.Test.Qxb6002792aWalkC
import Derived.Test.Qxb6002792aWalkE
namespace Go.Proofs.Qxb6002792a
open Go.RowKit

theorem zero43 : (Try.prog.info? 43).map (fun i => (i.zero, i.size)) = some (some (.agg (Array.replicate 256 (.bool false))), 256) := by kernel_rfl

theorem any_all (s : ByteArray) (w : World) (hs : s.size ≤ 1048576) :
    Calls Try.prog 25 #[.string s, .string ⟨#[46, 58]⟩] w fun e w' => e = .returned (.int .i64 (Lib.indexAny s.data.toList [46, 58])) ∧ Below w.heap.size w w' := by
  by_cases h8 : s.size ≤ 8
  · exact any_short s w h8
  · refine (Try.strings_IndexAny_long (zero_of_info zero43).1 s ⟨#[46, 58]⟩ w (Nat.le_refl 2) (by omega) (by omega) (by decide) ?_).mono ?_
    · intro j b hj
      have hm := List.mem_of_getElem? hj
      have hm' : b ∈ ([46, 58] : List UInt8) := hm
      simp at hm'
      rcases hm' with rfl | rfl <;> decide
    · rintro e w' ⟨rfl, rfl⟩
      exact ⟨rfl, ((Below.refl _ _).alloc (Nat.le_refl _) _).alloc (by simp) _⟩

def hasDC (s : ByteArray) : Bool := decide (0 ≤ Lib.indexAny s.data.toList [46, 58])

set_option maxHeartbeats 1000000 in
theorem contains_of (s : ByteArray) (v : Bool) (w : World) (hs : s.size ≤ 1048576) (hv : Hid (hasDC s = v)) :
    Calls Try.prog 21 #[.string s, .string ⟨#[46, 58]⟩] w fun e w' => e = .returned (.bool v) ∧ Below w.heap.size w w' := by
  go_enter Try.func21, Try.ntmps21
  go_wp2_with fail
  refine (any_all s _ hs).mono ?_
  rintro e w1 ⟨rfl, hb⟩
  go_wp2_with fail
  go_ret
  exact ⟨ret_bool hv.out, hb⟩

theorem cut_slash (s : ByteArray) (m : Int) (w : World) (hs : s.size ≤ 1048576) (hm : w.cell? ⟨0, 0, none⟩ = some (.int .i64 m)) :
    (Lib.indexByte s.data.toList 47 = -1 ∧ Calls Try.prog 19 #[.string s, .string ⟨#[47]⟩] w fun e w' => e = .returned (.tuple #[.string s, .string ByteArray.empty, .bool false]) ∧ ∃ n, w' = w.drewN n) ∨
    (∃ i : Nat, i < s.size ∧ Lib.indexByte s.data.toList 47 = i ∧ Calls Try.prog 19 #[.string s, .string ⟨#[47]⟩] w fun e w' => e = .returned (.tuple #[.string (s.extract 0 i), .string (s.extract (i + 1) s.size), .bool true]) ∧ ∃ n, w' = w.drewN n) := by
  have h := Try.strings_Cut s ⟨#[47]⟩ m w (by omega) hm
  have e1 : Lib.indexB s ⟨#[47]⟩ = Lib.indexByte s.data.toList 47 := Lib.index_one _ _
  rcases Lib.indexB_cases s ⟨#[47]⟩ with hi | ⟨i, hi, hb⟩
  · left
    obtain ⟨c1, c2, c3⟩ := Lib.cutB_miss s ⟨#[47]⟩ hi
    rw [c1, c2, c3] at h
    exact ⟨e1 ▸ hi, h⟩
  · right
    obtain ⟨c1, c2, c3⟩ := Lib.cutB_hit s ⟨#[47]⟩ i hi
    rw [c1, c2, c3] at h
    exact ⟨i, hb, e1 ▸ hi, h⟩

def hub : ByteArray := ⟨#[105, 110, 100, 101, 120, 46, 100, 111, 99, 107, 101, 114, 46, 105, 111]⟩

def regOf (h : ByteArray) : ByteArray :=
  if h.toList = [100, 111, 99, 107, 101, 114, 46, 105, 111] then hub
  else if hasDC h = true then h
  else if h.toList = [108, 111, 99, 97, 108, 104, 111, 115, 116] then h
  else hub

/-- 'left': the part ahead of the first '@'. -/
def Left (s b : ByteArray) : Prop := b.size ≤ s.size ∧
  ((Lib.indexByte s.data.toList 64 = -1 ∧ b = s) ∨ (∃ i : Nat, i < s.size ∧ Lib.indexByte s.data.toList 64 = i ∧ b = s.extract 0 i))

def Reg (s res : ByteArray) : Prop := ∃ b, Left s b ∧
  ((Lib.indexByte b.data.toList 47 = -1 ∧ res = hub) ∨ (∃ i : Nat, i < b.size ∧ Lib.indexByte b.data.toList 47 = i ∧ res = regOf (b.extract 0 i)))

theorem extract_extract (b : ByteArray) (c i : Nat) (h : i ≤ c) : (b.extract 0 c).extract 0 i = b.extract 0 i := by
  apply ba_ext
  rw [Lib.extract_data, Lib.extract_data, Lib.extract_data]
  simp [List.take_take, Nat.min_eq_left h]

theorem idx_some {l : List UInt8} {c : UInt8} {i : Nat} (h : Lib.indexByte l c = i) : l[i]? = some c ∧ ∀ k, k < i → l[k]? ≠ some c := Lib.indexByte_some h

theorem spl_host (s r v : ByteArray) (h : Spl s r v) : ∃ b, Left s b ∧
    ((Lib.indexByte b.data.toList 47 = -1 ∧ Lib.indexByte r.data.toList 47 = -1) ∨
     (∃ i : Nat, i < b.size ∧ Lib.indexByte b.data.toList 47 = i ∧ Lib.indexByte r.data.toList 47 = i ∧ r.extract 0 i = b.extract 0 i)) := by
  obtain ⟨b, hb, h1, h2⟩ := h
  refine ⟨b, ⟨hb, h1⟩, ?_⟩
  have hge := Lib.indexByte_ge b.data.toList 47
  rcases h2 with ⟨c, hc, h58, hn, hr, _⟩ | ⟨_, hr, _⟩
  · subst hr
    by_cases h47 : Lib.indexByte b.data.toList 47 = -1
    · refine .inl ⟨h47, idx_miss _ _ fun j hj => ?_⟩
      rw [Lib.extract_data] at hj ⊢
      simp only [List.drop_zero, Nat.sub_zero] at hj ⊢
      rw [List.length_take] at hj
      rw [List.getElem?_take_of_lt (by omega)]
      exact Lib.indexByte_none h47 j
    · obtain ⟨i, hi⟩ : ∃ i : Nat, Lib.indexByte b.data.toList 47 = i := ⟨(Lib.indexByte b.data.toList 47).toNat, by omega⟩
      obtain ⟨a1, a2⟩ := idx_some hi
      have hlt : i < b.data.toList.length := (List.getElem?_eq_some_iff.mp a1).1
      have hic : i < c := by
        by_cases e : i < c
        · exact e
        · by_cases e2 : i = c
          · subst e2; rw [h58] at a1; exact absurd (Option.some.inj a1) (by decide)
          · exact absurd a1 (hn i (by omega)).2
      refine .inr ⟨i, by simpa using hlt, hi, ?_, extract_extract b c i (by omega)⟩
      apply idx_hit
      · rw [Lib.extract_data]
        simp only [List.drop_zero, Nat.sub_zero]
        rw [List.getElem?_take_of_lt hic]
        exact a1
      · intro j hj
        rw [Lib.extract_data]
        simp only [List.drop_zero, Nat.sub_zero]
        rw [List.getElem?_take_of_lt (by omega)]
        exact a2 j hj
  · subst hr
    by_cases h47 : Lib.indexByte r.data.toList 47 = -1
    · exact .inl ⟨h47, h47⟩
    · obtain ⟨i, hi⟩ : ∃ i : Nat, Lib.indexByte r.data.toList 47 = i := ⟨(Lib.indexByte r.data.toList 47).toNat, by omega⟩
      have hlt : i < r.data.toList.length := (List.getElem?_eq_some_iff.mp (idx_some hi).1).1
      exact .inr ⟨i, by simpa using hlt, hi, hi, rfl⟩

theorem bel_drewN {w w' : World} {n : Nat} (h : Below (w.drewN n).heap.size (w.drewN n) w') : Below w.heap.size w w' := ⟨h.os, h.tape, h.output, h.size, h.block⟩

set_option maxHeartbeats 2000000 in
theorem reg_any (s : ByteArray) (m : Int) (w : World) (hs : s.size ≤ 1048576) (hm : w.cell? ⟨0, 0, none⟩ = some (.int .i64 m)) :
    Calls Try.prog 17 #[.string s] w fun e w' => ∃ res, e = .returned (.string res) ∧ Reg s res ∧ Below w.heap.size w w' := by
  have HM : Hid (w.cell? ⟨0, 0, none⟩ = some (.int .i64 m)) := hm
  clear hm
  go_enter Try.func17, Try.ntmps17
  go_wp2_with fail
  refine (split_any s m _ hs HM.out).mono ?_
  rintro e w1 ⟨r, v, rfl, hr, hsp, n, rfl⟩
  obtain ⟨b, hl, hh⟩ := spl_host s r v hsp
  have hls : b.size ≤ s.size := hl.1
  have HL : Hid (Left s b) := hl
  clear hsp hl
  rcases cut_slash r m (w.drewN n) (by omega) HM.out with ⟨h1, h2⟩ | ⟨i, hi, h1, h2⟩
  · have H2 : Hid (Calls Try.prog 19 #[.string r, .string ⟨#[47]⟩] (w.drewN n) fun e w' => e = .returned (.tuple #[.string r, .string ByteArray.empty, .bool false]) ∧ ∃ n', w' = (w.drewN n).drewN n') := h2
    have HR : Hid (Reg s hub) := by
      rcases hh with ⟨a, _⟩ | ⟨j, _, _, a, _⟩
      · exact ⟨b, HL.out, .inl ⟨a, rfl⟩⟩
      · omega
    clear h2 hh h1
    go_wp2_with fail
    refine H2.out.mono ?_
    rintro e w1 ⟨rfl, n2, rfl⟩
    go_wp2_with fail
    go_ret
    exact ⟨hub, rfl, HR.out, ⟨rfl, rfl, rfl, Nat.le_refl _, fun _ _ => rfl⟩⟩
  · have H2 : Hid (Calls Try.prog 19 #[.string r, .string ⟨#[47]⟩] (w.drewN n) fun e w' => e = .returned (.tuple #[.string (r.extract 0 i), .string (r.extract (i + 1) r.size), .bool true]) ∧ ∃ n', w' = (w.drewN n).drewN n') := h2
    have HR : Hid (Reg s (regOf (r.extract 0 i))) := by
      rcases hh with ⟨_, a⟩ | ⟨j, hj, a1, a2, a3⟩
      · omega
      · have : j = i := by omega
        subst this
        exact ⟨b, HL.out, .inr ⟨j, hj, a1, by rw [a3]⟩⟩
    have hz : (r.extract 0 i).size ≤ 1048576 := by simp; omega
    clear h2 hh h1
    generalize hg : r.extract 0 i = h at *
    generalize r.extract (i + 1) r.size = t at *
    clear hg
    by_cases hd : h.toList = [100, 111, 99, 107, 101, 114, 46, 105, 111]
    · have e0 : Hid (regOf h = hub) := by unfold regOf; rw [if_pos hd]; rfl
      go_wp2_with fail
      refine H2.out.mono ?_
      rintro e w1 ⟨rfl, n2, rfl⟩
      go_wp2_with fail
      go_ret
      exact ⟨hub, rfl, e0.out ▸ HR.out, ⟨rfl, rfl, rfl, Nat.le_refl _, fun _ _ => rfl⟩⟩
    · have hdb : (h.toList == [100, 111, 99, 107, 101, 114, 46, 105, 111]) = false := by simpa using hd
      cases hc : hasDC h
      · have HC : Hid (hasDC h = false) := hc
        by_cases hlo : h.toList = [108, 111, 99, 97, 108, 104, 111, 115, 116]
        · have e0 : Hid (regOf h = h) := by unfold regOf; rw [if_neg hd, if_neg (by rw [hc]; decide), if_pos hlo]; rfl
          clear hc
          go_wp2_with fail
          refine H2.out.mono ?_
          rintro e w1 ⟨rfl, n2, rfl⟩
          go_wp2_with fail
          refine (contains_of h false _ hz HC.out).mono ?_
          rintro e w1 ⟨rfl, hb1⟩
          go_wp2_with fail
          go_ret
          exact ⟨h, rfl, e0.out ▸ HR.out, bel_drewN hb1⟩
        · have hlb : (h.toList == [108, 111, 99, 97, 108, 104, 111, 115, 116]) = false := by simpa using hlo
          have e0 : Hid (regOf h = hub) := by unfold regOf; rw [if_neg hd, if_neg (by rw [hc]; decide), if_neg hlo]; rfl
          clear hc
          go_wp2_with fail
          refine H2.out.mono ?_
          rintro e w1 ⟨rfl, n2, rfl⟩
          go_wp2_with fail
          refine (contains_of h false _ hz HC.out).mono ?_
          rintro e w1 ⟨rfl, hb1⟩
          go_wp2_with fail
          go_ret
          exact ⟨hub, rfl, e0.out ▸ HR.out, bel_drewN hb1⟩
      · have HC : Hid (hasDC h = true) := hc
        have e0 : Hid (regOf h = h) := by unfold regOf; rw [if_neg hd, if_pos hc]; rfl
        clear hc
        go_wp2_with fail
        refine H2.out.mono ?_
        rintro e w1 ⟨rfl, n2, rfl⟩
        go_wp2_with fail
        refine (contains_of h true _ hz HC.out).mono ?_
        rintro e w1 ⟨rfl, hb1⟩
        go_wp2_with fail
        go_ret
        exact ⟨h, rfl, e0.out ▸ HR.out, bel_drewN hb1⟩
end Go.Proofs.Qxb6002792a
