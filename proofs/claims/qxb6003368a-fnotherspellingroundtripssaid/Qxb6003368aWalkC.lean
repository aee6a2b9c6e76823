import Derived.Test.Qxb6003368aWalkB
import Derived.Test.Qxb6003368aShelf
import Derived.Lib.IndexAny
namespace Go.Proofs.Qxb6003368a
open Go.RowKit

/-- dst, as the loop of appendOtherSpelling holds it. -/
def Dst (w0 : World) (v0 : Value) (xs : List UInt8) (k : Nat) (acc : List UInt8) (v : Value) (wr : World) : Prop :=
  (k = 0 ∧ acc = [] ∧ v = v0 ∧ wr = w0) ∨
  (1 ≤ k ∧ wr.ownsRow w0.heap.size 5 1 v (xs.length + acc.length) (u8s (xs ++ acc)) ∧ Below w0.heap.size w0 wr)

/-- the slice that comes in: full to its capacity. -/
structure Came (w0 : World) (ao : Option Addr) (xs : List UInt8) : Prop where
  none : ao = none → xs.length = 0
  cell : ∀ b, ao = some b → ∀ (j : Nat) u, (u8s xs)[j]? = some u → w0.cell? (b.add j) = some u
  block : ∀ b, ao = some b → b.block < w0.heap.size

theorem contains95 (s : ByteArray) (v : Bool) (w : World) (h : s.data.toList.contains 95 = v) :
    Calls Try.prog 30 #[.string s, .string ⟨#[95]⟩] w fun e w' => e = .returned (.bool v) ∧ w' = w := by
  have := Try.strings_Contains_one s 95 w
  rw [← Lib.contains_iff_indexByte, h] at this
  exact this

theorem came_none {w : World} {ao : Option Addr} {xs : List UInt8} (h : Came w ao xs) : ao = none → xs.length = 0 ∧ xs.length = 0 := fun e => ⟨h.none e, h.none e⟩
theorem came_alloc {w : World} {ao : Option Addr} {xs : List UInt8} (h : Came w ao xs) (o : Obj) : ∀ b, ao = some b → ∀ (j : Nat) u, (u8s xs)[j]? = some u → (w.alloc o).cell? (b.add j) = some u := by
  intro b hb j u hu
  have hbl := h.block b hb
  have he : (b.add j).block = b.block := by unfold Addr.add; split <;> rfl
  rw [World.cell?_of_block (w := w) (Below.heap_alloc w o _ (by omega))]
  exact h.cell b hb j u hu
theorem u8s_len1 (xs : List UInt8) : (u8s xs).length = xs.length * 1 := by rw [u8s_length]; omega
theorem one_cell (x : Int) : ∀ u ∈ [Value.int .u8 x], u.oneCell' = true := by intro u hu; simp at hu; subst hu; rfl

theorem own_mono {w : World} {B B' e size n : Nat} {v : Value} {xs : List Value} (h : w.ownsRow B e size v n xs) (hB : B' ≤ B) : w.ownsRow B' e size v n xs := by
  refine ⟨h.1, ?_⟩
  rcases h.2 with h | ⟨g, cap, cur, h1, h2, h3⟩
  · exact .inl h
  · exact .inr ⟨g, cap, cur, h1, by omega, h3⟩

/-- behind the first append: it has moved to a new row. -/
theorem dst_first {w w' : World} {o : Obj} {v0 v' : Value} {xs : List UInt8} {x : UInt8}
    (hown : w'.ownsRow (w.heap.size + 1) 5 1 v' (xs.length + 1) (u8s xs ++ [.int .u8 (x.toNat : Int)])) (hg : (w.alloc o).grownBy w' none) (k : Nat) (hk : 1 ≤ k) : Dst w v0 xs k [x] v' w' := by
  refine .inr ⟨hk, ?_, ?_⟩
  · have : u8s (xs ++ [x]) = u8s xs ++ [.int .u8 (x.toNat : Int)] := by simp [u8s]
    rw [this]
    exact own_mono hown (by omega)
  · exact ((Below.refl _ _).alloc (Nat.le_refl _) _).grown hg (by simp) (fun k h => by cases h)

/-- behind a later append. -/
theorem dst_later {w wr w' : World} {o : Obj} {v v0 v' : Value} {xs acc : List UInt8} {x : UInt8} {xi : Int} (hxi : (x.toNat : Int) = xi) (hbel : Below w.heap.size w wr) (hown : wr.ownsRow w.heap.size 5 1 v (xs.length + acc.length) (u8s (xs ++ acc)))
    (hown' : w'.ownsRow w.heap.size 5 1 v' (xs.length + acc.length + 1) (u8s (xs ++ acc) ++ [.int .u8 xi])) (hg : (wr.alloc o).grownBy w' v.ownBlock) (k : Nat) (hk : 1 ≤ k) :
    Dst w v0 xs k (acc ++ [x]) v' w' := by
  subst hxi
  refine .inr ⟨hk, ?_, ?_⟩
  · have : u8s (xs ++ (acc ++ [x])) = u8s (xs ++ acc) ++ [.int .u8 (x.toNat : Int)] := by simp [u8s]
    rw [this]
    have e : xs.length + (acc ++ [x]).length = xs.length + acc.length + 1 := by simp; omega
    rw [e]
    exact hown'
  · have hz := hbel.size
    exact (hbel.alloc hz _).grown hg (by simp; omega) (fun k h => (hown.lt k h).1)

def restS (l : List UInt8) (k : Nat) : List UInt8 := if k = 0 then toSnake l else snk (l.drop k)

theorem drop_cons (s : ByteArray) (k : Nat) (h : k < s.size) : s.data.toList.drop k = s[k] :: s.data.toList.drop (k + 1) := by
  rw [List.drop_eq_getElem_cons (by simpa using h)]; rfl
theorem rest_first (s : ByteArray) (h : 0 < s.size) : [s[0]] ++ restS s.data.toList 1 = toSnake s.data.toList := by
  have := drop_cons s 0 h
  rw [List.drop_zero] at this
  unfold restS
  rw [if_neg (by omega), this]
  rfl
theorem rest_up (s : ByteArray) (k : Nat) (h : k < s.size) (hk : 1 ≤ k) (hu : up s[k] = true) : restS s.data.toList k = 95 :: (s[k] + 32) :: restS s.data.toList (k + 1) := by
  unfold restS
  rw [if_neg (by omega), if_neg (by omega), drop_cons s k h, snk, if_pos hu]
theorem rest_same (s : ByteArray) (k : Nat) (h : k < s.size) (hk : 1 ≤ k) (hu : ¬ up s[k] = true) : restS s.data.toList k = s[k] :: restS s.data.toList (k + 1) := by
  unfold restS
  rw [if_neg (by omega), if_neg (by omega), drop_cons s k h, snk, if_neg hu]
theorem rest_end (s : ByteArray) : restS s.data.toList s.size = [] := by
  unfold restS
  split
  · rename_i h
    have : s.data.toList = [] := List.eq_nil_of_length_eq_zero (by simpa using h)
    rw [this]; rfl
  · rw [List.drop_of_length_le (by simp)]; rfl

theorem acc_le (s : ByteArray) (k : Nat) (acc : List UInt8) (h : acc ++ restS s.data.toList k = toSnake s.data.toList) : acc.length ≤ 2 * s.size := by
  have h1 := congrArg List.length h
  have h2 := toSnake_length s.data.toList
  rw [List.length_append] at h1
  have h3 : s.data.toList.length = s.size := by simp
  omega

set_option maxHeartbeats 4000000 in
set_option maxRecDepth 100000 in
theorem app_snake (ao : Option Addr) (xs : List UInt8) (s : ByteArray) (w : World) (hs : s.size ≤ 2097152) (hx : xs.length ≤ 1048576) (hc : Hid (Came w ao xs))
    (hno : Hid (s.data.toList.contains 95 = false)) :
    Calls Try.prog 26 #[.slice ao xs.length xs.length, .string s] w fun e w' => ∃ v acc k, e = .returned v ∧ acc = toSnake s.data.toList ∧ Dst w (.slice ao xs.length xs.length) xs k acc v w' := by
  obtain ⟨i0, hi, hz0, hz1, hz2⟩ := info_parts info5
  go_enter Try.func26, Try.ntmps26
  go_wp2_with fail
  refine (contains95 s false _ hno.out).mono ?_
  rintro e w1 ⟨rfl, rfl⟩
  go_wp2_with fail
  go_loopw [0, 7] (fun v i wr => ∃ (k : Nat) (acc : List UInt8), k ≤ s.size ∧ i = .int .i64 k ∧ Hid (Dst w1 (.slice ao xs.length xs.length) xs k acc v wr) ∧ Hid (acc ++ restS s.data.toList k = toSnake s.data.toList)) (fun _ i _ => s.size - (intOf i).toNat)
  case atStart => exact ⟨0, [], Nat.zero_le _, rfl, .inl ⟨rfl, rfl, rfl, rfl⟩, rfl⟩
  case round =>
    obtain ⟨k, acc, hk, rfl, HD, HA⟩ := hrel
    by_cases hlt : k < s.size
    · rcases HD.out with ⟨hk0, ha0, hv0, hw0⟩ | ⟨hk1, hown, hbel⟩
      · subst hk0 ha0 hv0 hw0
        go_wp2_with (at_builtin; refine wpList_append_grows _ rfl (.tmp 33) (.tmp 35) 28 rfl 5 i0 (.int .u8 0) 1 1 Try.underlying28 hi hz0 hz1 hz2 rfl (by decide) ao xs.length xs.length (u8s xs) rfl (came_none hc.out) (u8s_len1 xs) (came_alloc hc.out _) ⟨wr.heap.size, 0, none⟩ 1 1 [.int .u8 (s[0].toNat : Int)] rfl rfl (cell_one_new _ _ _) (one_cell _) (by omega) (by unfold maxLen; omega) (by omega) ?_)
        intro v1 w2 hown hgrow
        have HD2 : Hid (Dst wr (.slice ao xs.length xs.length) xs 1 [s[0]] v1 w2) := dst_first hown hgrow 1 (Nat.le_refl _)
        clear hown hgrow HD
        go_wp2
        go_roundw
        case rel => exact ⟨1, [s[0]], by omega, by go_num, HD2.out, rest_first s hlt⟩
        case measure => simp [intOf]; omega
      · clear HD
        by_cases hu : up s[k] = true
        · have hu1 : (65 : Int) ≤ (s[k].toNat : Int) := by have := up_iff.mp hu; omega
          have hu2 : (s[k].toNat : Int) ≤ 90 := by have := up_iff.mp hu; omega
          have HU : Hid (up s[k] = true) := hu
          clear hu
          have hkp : (0 : Int) < (k : Int) := by omega
          have HLA : Hid (acc.length ≤ 2 * s.size) := acc_le s k acc HA.out
          have hla := HLA.out
          go_wp2_with (at_builtin; refine wpList_append_own _ rfl (.tmp 28) (.tmp 29) 28 rfl w1.heap.size 5 i0 (.int .u8 0) 1 1 Try.underlying28 hi hz0 hz1 hz2 rfl (by decide) _ (xs.length + acc.length) (u8s (xs ++ acc)) rfl (hown.alloc _) ⟨wr.heap.size, 0, none⟩ 1 1 [.int .u8 95] rfl rfl (cell_one_new _ _ _) (one_cell _) (by unfold maxLen; omega) (by omega) (by have := hbel.size; simp; omega) ?_)
          intro v1 w2 hown2 hgrow2 _
          have HD2 : Dst w1 (.slice ao xs.length xs.length) xs k (acc ++ [95]) v1 w2 := dst_later rfl hbel hown hown2 hgrow2 k hk1
          clear hown2 hgrow2 hown hbel
          rcases HD2 with ⟨h, _⟩ | ⟨_, hown, hbel⟩
          · omega
          · have hl2 : (acc ++ [95]).length = acc.length + 1 := by simp
            rw [hl2] at hown
            go_wp2_with (at_builtin; refine wpList_append_own _ rfl (.tmp 33) (.tmp 35) 28 rfl w1.heap.size 5 i0 (.int .u8 0) 1 1 Try.underlying28 hi hz0 hz1 hz2 rfl (by decide) _ (xs.length + (acc.length + 1)) (u8s (xs ++ (acc ++ [95]))) rfl (hown.alloc _) ⟨w2.heap.size, 0, none⟩ 1 1 [.int .u8 ((s[k].toNat : Int) + 32)] rfl rfl (cell_one_new _ _ _) (one_cell _) (by unfold maxLen; omega) (by omega) (by have := hbel.size; simp; omega) ?_)
            intro v3 w3 hown3 hgrow3 _
            have hown' : w2.ownsRow w1.heap.size 5 1 v1 (xs.length + (acc ++ [95]).length) (u8s (xs ++ (acc ++ [95]))) := by rw [hl2]; exact hown
            have hown3' : w3.ownsRow w1.heap.size 5 1 v3 (xs.length + (acc ++ [95]).length + 1) (u8s (xs ++ (acc ++ [95])) ++ [.int .u8 ((s[k].toNat : Int) + 32)]) := by rw [hl2]; exact hown3
            have HD3 : Hid (Dst w1 (.slice ao xs.length xs.length) xs (k + 1) (acc ++ [95] ++ [s[k] + 32]) v3 w3) := dst_later (by have := add32_toNat (c := s[k]) (by omega); omega) hbel hown' hown3' hgrow3 (k + 1) (by omega)
            clear hown3 hgrow3 hown hbel hown' hown3'
            go_wp2
            go_roundw
            case rel => exact ⟨k + 1, acc ++ [95] ++ [s[k] + 32], by omega, by go_num, HD3.out, by show _ = _; rw [← HA.out, rest_up s k hlt hk1 HU.out]; simp⟩
            case measure => simp [intOf]; omega
        · have HU : Hid (¬ up s[k] = true) := hu
          have hu3 : ¬ ((65 : Int) ≤ (s[k].toNat : Int) ∧ (s[k].toNat : Int) ≤ 90) := fun h => hu (up_iff.mpr (by omega))
          clear hu
          have hkp : (0 : Int) < (k : Int) := by omega
          have HLA : Hid (acc.length ≤ 2 * s.size) := acc_le s k acc HA.out
          have hla := HLA.out
          have hsplit : ((s[k].toNat : Int) < 65) ∨ ((65 : Int) ≤ (s[k].toNat : Int) ∧ (90 : Int) < (s[k].toNat : Int)) := by omega
          clear hu3
          rcases hsplit with h65 | ⟨h65, h90⟩
          all_goals
            go_wp2_with (at_builtin; refine wpList_append_own _ rfl (.tmp 33) (.tmp 35) 28 rfl w1.heap.size 5 i0 (.int .u8 0) 1 1 Try.underlying28 hi hz0 hz1 hz2 rfl (by decide) _ (xs.length + acc.length) (u8s (xs ++ acc)) rfl (hown.alloc _) ⟨wr.heap.size, 0, none⟩ 1 1 [.int .u8 (s[k].toNat : Int)] rfl rfl (cell_one_new _ _ _) (one_cell _) (by unfold maxLen; omega) (by omega) (by have := hbel.size; simp; omega) ?_)
            intro v1 w2 hown2 hgrow2 _
            have HD2 : Hid (Dst w1 (.slice ao xs.length xs.length) xs (k + 1) (acc ++ [s[k]]) v1 w2) := dst_later rfl hbel hown hown2 hgrow2 (k + 1) (by omega)
            clear hown2 hgrow2 hown hbel
            go_wp2
            go_roundw
            case rel => exact ⟨k + 1, acc ++ [s[k]], by omega, by go_num, HD2.out, by show _ = _; rw [← HA.out, rest_same s k hlt hk1 HU.out]; simp⟩
            case measure => simp [intOf]; omega
    · obtain rfl : k = s.size := by omega
      go_wp2_with fail
      go_ret
      have ha := HA.out
      rw [rest_end, List.append_nil] at ha
      exact ⟨_, acc, s.size, rfl, ha, HD.out⟩
end Go.Proofs.Qxb6003368a
