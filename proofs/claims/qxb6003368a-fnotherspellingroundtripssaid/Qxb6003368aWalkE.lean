import Derived.Test.Qxb6003368aWalkD
import Derived.Deep.QuietTactic
import Derived.BigQuiet
namespace Go.Proofs.Qxb6003368a
open Go.RowKit

/-- the bytes of a slice, read in w; 'oa' its address. -/
def Rd (w : World) (oa : Option Addr) (bs : List UInt8) : Prop :=
  (oa = none ∧ bs = []) ∨ ∃ g, oa = some ⟨g, 0, none⟩ ∧ g < w.heap.size ∧ ∀ (j : Nat) b, bs[j]? = some b → w.cell? ⟨g, j, none⟩ = some (.int .u8 (b.toNat : Int))

theorem add_lit (g j : Nat) : (⟨g, 0, none⟩ : Addr).add j = ⟨g, j, none⟩ := by rw [Addr.add_lit, Nat.zero_add]

theorem u8s_get {bs : List UInt8} {j : Nat} {b : UInt8} (h : bs[j]? = some b) : (u8s bs)[j]? = some (.int .u8 (b.toNat : Int)) := by
  unfold u8s
  rw [List.getElem?_map, h]
  rfl

theorem rd_came {w : World} {oa : Option Addr} {bs : List UInt8} (h : Rd w oa bs) : Came w oa bs := by
  rcases h with ⟨rfl, rfl⟩ | ⟨g, rfl, hg, hc⟩
  · exact ⟨fun _ => rfl, fun b hb => (nomatch hb), fun b hb => (nomatch hb)⟩
  · refine ⟨fun e => (nomatch e), fun b hb j u hu => ?_, fun b hb => (by have := Option.some.inj hb; subst this; exact hg)⟩
    have := Option.some.inj hb
    subst this
    obtain ⟨x, hx, rfl⟩ := u8s_at hu
    rw [add_lit]
    exact hc j x hx

theorem rd_below {w w' : World} {oa : Option Addr} {bs : List UInt8} (h : Rd w oa bs) (hb : Below w.heap.size w w') : Rd w' oa bs := by
  rcases h with h | ⟨g, rfl, hg, hc⟩
  · exact .inl h
  · refine .inr ⟨g, rfl, by have := hb.size; omega, fun j b hj => ?_⟩
    rw [hb.cell (p := ⟨g, j, none⟩) hg]
    exact hc j b hj

/-- a slice argument: nil, or its cells. -/
def Src (w : World) (oa : Option Addr) (bs : List UInt8) (cap : Nat) : Prop :=
  (oa = none ∧ bs = [] ∧ cap = 0) ∨ ∃ x, oa = some x ∧ (bs ≠ [] → x.block < w.heap.size) ∧ ∀ (j : Nat) b, bs[j]? = some b → w.cell? (x.add j) = some (.int .u8 (b.toNat : Int))

theorem rd_src {w : World} {oa : Option Addr} {bs : List UInt8} (h : Rd w oa bs) : Src w oa bs bs.length := by
  rcases h with ⟨rfl, rfl⟩ | ⟨g, rfl, hg, hc⟩
  · exact .inl ⟨rfl, rfl, rfl⟩
  · exact .inr ⟨_, rfl, fun _ => hg, fun j b hj => by rw [add_lit]; exact hc j b hj⟩

theorem clone_any (oa : Option Addr) (bs : List UInt8) (cap : Nat) (w : World) (h : Src w oa bs cap) (hb : bs.length ≤ 1048576) :
    Calls Try.prog 16 #[.slice oa bs.length cap] w fun e w' => ∃ oa', e = .returned (.slice oa' bs.length bs.length) ∧ Rd w' oa' bs ∧ Below w.heap.size w w' := by
  rcases h with ⟨rfl, rfl, rfl⟩ | ⟨x, rfl, hx, hc⟩
  · refine (clone_nil w).mono ?_
    rintro e w' ⟨rfl, rfl⟩
    exact ⟨none, rfl, .inl ⟨rfl, rfl⟩, Below.refl _ _⟩
  · refine (clone_some x bs.length cap bs w rfl hb hc hx).mono ?_
    rintro e w' ⟨rfl, hg, hbel⟩
    have hg' := hg.out
    refine ⟨_, rfl, .inr ⟨w.heap.size, rfl, (Array.getElem?_eq_some_iff.1 hg').1, fun j b hj => ?_⟩, hbel⟩
    have hu : (u8s bs)[j]? = some (.int .u8 (b.toNat : Int)) := u8s_get hj
    simp [World.cell?, hg', hu]

theorem dst_rd {w w' : World} {oa : Option Addr} {xs acc : List UInt8} {k : Nat} {v : Value} (h : Dst w (.slice oa xs.length xs.length) xs k acc v w') (hr : Rd w oa xs) :
    ∃ oa' cap, v = .slice oa' (xs ++ acc).length cap ∧ (xs ++ acc).length ≤ cap ∧ Rd w' oa' (xs ++ acc) ∧ Below w.heap.size w w' := by
  rcases h with ⟨_, rfl, rfl, rfl⟩ | ⟨_, hown, hbel⟩
  · exact ⟨oa, xs.length, by simp, by simp, by simpa using hr, Below.refl _ _⟩
  · have hlen : (xs ++ acc).length = xs.length + acc.length := by simp
    have hown0 := hown
    rcases hown.2 with ⟨rfl, h0⟩ | ⟨g, cap, cur, rfl, _, hh, hle, _, hsz, htk⟩
    · have : xs ++ acc = [] := List.eq_nil_of_length_eq_zero (by omega)
      exact ⟨none, 0, by rw [this]; rfl, by rw [this]; exact Nat.le_refl _, .inl ⟨rfl, this⟩, hbel⟩
    · refine ⟨some ⟨g, 0, none⟩, cap, by rw [hlen], by omega, .inr ⟨g, rfl, (Array.getElem?_eq_some_iff.1 hh).1, fun j b hj => ?_⟩, hbel⟩
      have hjl := (List.getElem?_eq_some_iff.mp hj).1
      rw [hown0.cellAt j (by omega)]
      exact u8s_get hj

theorem spell_any (oa : Option Addr) (xs : List UInt8) (s : ByteArray) (w : World) (hs : s.size ≤ 2097152) (hx : xs.length ≤ 1048576) (hr : Rd w oa xs) :
    Calls Try.prog 26 #[.slice oa xs.length xs.length, .string s] w fun e w' => ∃ oa' cap, e = .returned (.slice oa' (xs ++ sp s.data.toList).length cap) ∧ (xs ++ sp s.data.toList).length ≤ cap ∧ Rd w' oa' (xs ++ sp s.data.toList) ∧ Below w.heap.size w w' := by
  cases h95 : s.data.toList.contains 95
  · have e : sp s.data.toList = toSnake s.data.toList := by unfold sp; rw [h95]; rfl
    rw [e]
    refine (app_snake oa xs s w hs hx (rd_came hr) h95).mono ?_
    rintro e w' ⟨v, acc, k, rfl, rfl, hd⟩
    obtain ⟨oa', cap, rfl, h⟩ := dst_rd hd hr
    exact ⟨oa', cap, rfl, h⟩
  · have e : sp s.data.toList = cam none s.data.toList := by unfold sp; rw [h95]; rfl
    rw [e]
    refine (app_camel oa xs s w hs hx (rd_came hr) h95).mono ?_
    rintro e w' ⟨v, acc, k, rfl, rfl, hd⟩
    obtain ⟨oa', cap, rfl, h⟩ := dst_rd hd hr
    exact ⟨oa', cap, rfl, h⟩

/-- What ZZappendOtherSpelling hands back. -/
def Spelt (w w' : World) (bs : List UInt8) (e : Ending) : Prop :=
  ∃ oa' cap, e = .returned (.slice oa' bs.length cap) ∧ bs.length ≤ cap ∧ Rd w' oa' bs ∧ Below w.heap.size w w'

theorem zspell_any (oa : Option Addr) (xs : List UInt8) (s : ByteArray) (w : World) (hs : s.size ≤ 2097152) (hx : xs.length ≤ 1048576) (hr : Hid (Rd w oa xs)) :
    Calls Try.prog 17 #[.slice oa xs.length xs.length, .string s] w fun e w' => Spelt w w' (xs ++ sp s.data.toList) e := by
  go_enter Try.func17, Try.ntmps17
  go_wp2_with fail
  refine (spell_any oa xs s _ hs hx hr.out).mono ?_
  rintro e w1 ⟨oa', cap, rfl, hle, hrd, hbel⟩
  have HR : Hid (Rd w1 oa' (xs ++ sp s.data.toList)) := hrd
  have HB : Hid (Below w.heap.size w w1) := hbel
  have HL : Hid ((xs ++ sp s.data.toList).length ≤ cap) := hle
  clear hrd hbel hle
  generalize hN : (xs ++ sp s.data.toList).length = N
  have HN : Hid ((xs ++ sp s.data.toList).length = N) := hN
  clear hN
  go_wp2
  go_ret
  exact ⟨oa', cap, by rw [HN.out]; rfl, HL.out, HR.out, HB.out⟩
end Go.Proofs.Qxb6003368a
