import Derived.Test.Qxb6003368aWildA
import Derived.Test.Qxb6003368aShelf
import Derived.Deep.QuietTactic
import Derived.BigQuiet
import Derived.Deep.LoopGhost
namespace Go.Proofs.Qxb6003368a
open Go.RowKit

/-- matches. -/
def MT (s first last : ByteArray) (mids : List (List UInt8)) : Prop :=
  first.size + last.size ≤ s.size ∧ Lib.hasPrefix s.data.toList first.data.toList = true ∧ Lib.hasSuffix s.data.toList last.data.toList = true ∧
  GR mids ((s.data.toList.drop first.size).take (s.size - last.size - first.size))

theorem pre_of (s p : ByteArray) (v : Bool) (w : World) (h : Lib.hasPrefix s.data.toList p.data.toList = v) :
    Calls Try.prog 31 #[.string s, .string p] w fun e w' => e = .returned (.bool v) ∧ w' = w := by
  subst h; exact Try.strings_HasPrefix s p w
theorem suf_of (s p : ByteArray) (v : Bool) (w : World) (hs : s.size ≤ 32) (h : Lib.hasSuffix s.data.toList p.data.toList = v) :
    Calls Try.prog 32 #[.string s, .string p] w fun e w' => e = .returned (.bool v) ∧ w' = w := by
  subst h; exact Try.strings_HasSuffix s p w (by omega)
theorem idx_of (s p : ByteArray) (x mx : Int) (w : World) (hs : s.size ≤ 32) (hm : w.cell? ⟨0, 0, none⟩ = some (.int .i64 mx)) (h : Lib.index s.data.toList p.data.toList = x) :
    Calls Try.prog 33 #[.string s, .string p] w fun e w' => e = .returned (.int .i64 x) ∧ w' = w := by
  subst h; exact Try.strings_Index s p mx w (by omega) hm

theorem gr_step (mids : List ByteArray) (k : Nat) (p t : ByteArray) (i : Nat) (hp : mids[k]? = some p) (hi : Lib.index t.data.toList p.data.toList = i) :
    GR (bl (mids.drop k)) t.data.toList ↔ GR (bl (mids.drop (k + 1))) (t.extract (i + p.size) t.size).data.toList := by
  rw [drop_ps mids k p hp, Lib.extract_to_end]
  show (∃ j : Nat, _) ↔ _
  constructor
  · rintro ⟨j, hj, h⟩
    have : j = i := by omega
    subst this
    rw [dl] at h
    exact h
  · intro h
    exact ⟨i, hi, by rw [dl]; exact h⟩
theorem gr_stop (mids : List ByteArray) (k : Nat) (p t : ByteArray) (hp : mids[k]? = some p) (hi : Lib.index t.data.toList p.data.toList = -1) : ¬ GR (bl (mids.drop k)) t.data.toList := by
  rw [drop_ps mids k p hp]
  rintro ⟨j, hj, h⟩
  omega

set_option maxHeartbeats 8000000 in
theorem match_any (g m : Nat) (ps mids : List ByteArray) (s first last : ByteArray) (w : World) (mx : Int) (hn : m ≤ 3) (hs : s.size ≤ 32) (hpl : Hid (mids.length = m)) (hc : Hid (Lie w g ps)) (hps : Hid (∀ p ∈ ps, p.size ≤ 8))
    (hf : Hid (ps[0]? = some first)) (hl : Hid (ps[m + 1]? = some last)) (hmid : Hid (∀ (k : Nat) p, mids[k]? = some p → ps[1 + k]? = some p)) (hmx : w.cell? ⟨0, 0, none⟩ = some (.int .i64 mx)) :
    Calls Try.prog 27 #[.slice (some ⟨g, 0, none⟩) (m + 2) (m + 2), .string s] w fun e w' => Says (MT s first last (bl mids)) e ∧ ∃ nn, w' = w.drewN nn := by
  have hfs : first.size ≤ 8 := hps.out first (List.mem_of_getElem? hf.out)
  have hls : last.size ≤ 8 := hps.out last (List.mem_of_getElem? hl.out)
  have hc0 : w.cell? ⟨g, 0, none⟩ = some (.string first) := hc.out 0 first hf.out
  have hc1 : w.cell? ⟨g, m + 1, none⟩ = some (.string last) := hc.out (m + 1) last hl.out
  have HM : Hid (w.cell? ⟨0, 0, none⟩ = some (.int .i64 mx)) := hmx
  clear hmx
  by_cases hfit : first.size + last.size ≤ s.size
  · have hfit' : ¬ (s.size : Int) < (first.size : Int) + (last.size : Int) := by omega
    cases hpre : Lib.hasPrefix s.data.toList first.data.toList
    · have HP : Hid (Lib.hasPrefix s.data.toList first.data.toList = false) := hpre
      clear hpre
      go_enter Try.func27, Try.ntmps27
      go_wp2_with fail
      go_quiet (fail)
      go_wp2_with fail
      refine (pre_of s first false _ HP.out).mono ?_
      rintro e w2 ⟨rfl, rfl⟩
      go_wp2_with fail
      go_ret
      exact ⟨⟨false, rfl, ⟨fun h => (nomatch h), fun h => by have := h.2.1; rw [HP.out] at this; cases this⟩⟩, _, rfl⟩
    · have HP : Hid (Lib.hasPrefix s.data.toList first.data.toList = true) := hpre
      clear hpre
      cases hsuf : Lib.hasSuffix s.data.toList last.data.toList
      · have HS : Hid (Lib.hasSuffix s.data.toList last.data.toList = false) := hsuf
        clear hsuf
        go_enter Try.func27, Try.ntmps27
        go_wp2_with fail
        go_quiet (fail)
        go_wp2_with fail
        refine (pre_of s first true _ HP.out).mono ?_
        rintro e w2 ⟨rfl, rfl⟩
        go_wp2_with fail
        refine (suf_of s last false _ hs HS.out).mono ?_
        rintro e w2 ⟨rfl, rfl⟩
        go_wp2_with fail
        go_ret
        exact ⟨⟨false, rfl, ⟨fun h => (nomatch h), fun h => by have := h.2.2.1; rw [HS.out] at this; cases this⟩⟩, _, rfl⟩
      · have HS : Hid (Lib.hasSuffix s.data.toList last.data.toList = true) := hsuf
        clear hsuf
        go_enter Try.func27, Try.ntmps27
        go_wp2_with fail
        go_quiet (fail)
        go_wp2_with fail
        refine (pre_of s first true _ HP.out).mono ?_
        rintro e w2 ⟨rfl, rfl⟩
        go_wp2_with fail
        refine (suf_of s last true _ hs HS.out).mono ?_
        rintro e w2 ⟨rfl, rfl⟩
        go_wp2_with fail
        obtain ⟨wz, hz⟩ : ∃ wz, wz = w.drewN nq := ⟨_, rfl⟩
        rw [← hz]
        have LZ : Hid (Lie wz g ps) := by subst hz; exact hc.out
        have MZ : Hid (wz.cell? ⟨0, 0, none⟩ = some (.int .i64 mx)) := by subst hz; exact HM.out
        have HZ : Hid (wz = w.drewN nq) := hz
        clear hz hc0 hc1
        have HT : Hid (MT s first last (bl mids) ↔ GR (bl (mids.drop 0)) (s.extract first.size (s.size - last.size)).data.toList) := by
          show _ ↔ _
          rw [Lib.extract_data, List.drop_zero]
          exact ⟨fun h => h.2.2.2, fun h => ⟨hfit, HP.out, HS.out, h⟩⟩
        have hsz0 : (s.extract first.size (s.size - last.size)).size ≤ 32 := by simp; omega
        generalize s.extract first.size (s.size - last.size) = t0 at *
        go_loopg [1, 54] m (fun gg t i wx => ∃ (k : Nat) (tb : ByteArray), k + gg = m ∧ i = .int .i64 k ∧ t = .string tb ∧ wx = wz ∧ tb.size ≤ 32 ∧ Hid (MT s first last (bl mids) ↔ GR (bl (mids.drop k)) tb.data.toList))
        case atStart => exact ⟨0, t0, by omega, rfl, rfl, rfl, hsz0, HT⟩
        case round =>
          clear HT hsz0
          obtain ⟨k, tb, hk, rfl, rfl, hwx, htb, HR⟩ := hrel
          subst hwx
          by_cases hkm : k < m
          · obtain ⟨p, hp⟩ : ∃ p, mids[k]? = some p := ⟨mids[k]'(by rw [hpl.out]; exact hkm), List.getElem?_eq_getElem _⟩
            have HPK : Hid (mids[k]? = some p) := hp
            have hpp := hmid.out k p hp
            have hpsz : p.size ≤ 8 := hps.out p (List.mem_of_getElem? hpp)
            have hck : wr.cell? ⟨g, 1 + k, none⟩ = some (.string p) := LZ.out (1 + k) p hpp
            have hkm' : (k : Int) < (m : Int) := by omega
            clear hp hpp
            rcases Lib.index_spec tb.data.toList p.data.toList with ⟨hx, _⟩ | ⟨i, hx, _, _, _⟩
            · have HX : Hid (Lib.index tb.data.toList p.data.toList = -1) := hx
              clear hx
              go_wp2_with fail
              refine (idx_of tb p (-1) mx _ htb MZ.out HX.out).mono ?_
              rintro e w2 ⟨rfl, hw2⟩
              rw [hw2]
              clear hw2
              go_wp2_with fail
              go_ret
              exact ⟨⟨false, rfl, by rw [HR.out]; exact ⟨fun h => (nomatch h), fun h => absurd h (gr_stop mids k p tb HPK.out HX.out)⟩⟩, _, HZ.out⟩
            · have HX : Hid (Lib.index tb.data.toList p.data.toList = i) := hx
              have hroom := Lib.index_room tb.data.toList p.data.toList (by omega)
              rw [hx, dl, dl] at hroom
              clear hx
              have hi0 : (0 : Int) ≤ (i : Int) := by omega
              go_wp2_with fail
              refine (idx_of tb p i mx _ htb MZ.out HX.out).mono ?_
              rintro e w2 ⟨rfl, hw2⟩
              rw [hw2]
              clear hw2
              go_wp2_with fail
              go_roundg (gk - 1)
              case rel => exact ⟨k + 1, tb.extract (i + p.size) tb.size, by omega, by go_num, rfl, rfl, by simp; omega, by show _ ↔ _; rw [HR.out]; exact gr_step mids k p tb i HPK.out HX.out⟩
              case measure => omega
          · obtain rfl : k = m := by omega
            have hkm' : ¬ (k : Int) < (k : Int) := by omega
            go_wp2_with fail
            go_ret
            exact ⟨⟨true, rfl, by rw [HR.out, List.drop_of_length_le (by rw [hpl.out]; exact Nat.le_refl _)]; exact ⟨fun _ => trivial, fun _ => rfl⟩⟩, _, HZ.out⟩
  · have hfit' : (s.size : Int) < (first.size : Int) + (last.size : Int) := by omega
    go_enter Try.func27, Try.ntmps27
    go_wp2_with fail
    go_quiet (fail)
    go_wp2_with fail
    go_ret
    exact ⟨⟨false, rfl, ⟨fun h => (nomatch h), fun h => absurd h.1 hfit⟩⟩, _, rfl⟩
end Go.Proofs.Qxb6003368a
