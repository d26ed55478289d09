/-
  value (23) where the lexer does not stand at a quote.
-/
import Derived.Test.Qxb6000614aNext
import Derived.Test.Qxb6000614aBuild
import Derived.Deep.LoopGhost
import Derived.Lib.IndexLaws
namespace Go.Proofs.Qxb6000614a
open Go.RowKit

/-- Is it a comma, a space or a tab? -/
def dl (c : UInt8) : Bool := c == 44 || c == 32 || c == 9
/-- Its first place among the three, or -1. -/
def ix3 (c : UInt8) : Int := Lib.indexByte [44, 32, 9] c

theorem ix3_neg {c : UInt8} (h : dl c = false) : ix3 c = -1 := by
  simp only [dl, Bool.or_eq_false_iff, beq_eq_false_iff_ne] at h
  obtain ⟨⟨h1, h2⟩, h3⟩ := h
  have g := Lib.indexByte_ge [44, 32, 9] c
  refine Decidable.byContradiction fun e => ?_
  have e2 : Lib.indexByte [44, 32, 9] c = ((Lib.indexByte [44, 32, 9] c).toNat : Int) := by unfold ix3 at e; omega
  obtain ⟨h4, _⟩ := Lib.indexByte_some e2
  have hm := List.mem_of_getElem? h4
  simp at hm
  rcases hm with rfl | rfl | rfl
  · exact h1 rfl
  · exact h2 rfl
  · exact h3 rfl

theorem ix3_pos {c : UInt8} (h : dl c = true) : 0 ≤ ix3 c := by
  have g := Lib.indexByte_ge [44, 32, 9] c
  refine Decidable.byContradiction fun e => ?_
  have e2 : Lib.indexByte [44, 32, 9] c = -1 := by unfold ix3 at e; omega
  have n0 := Lib.indexByte_none e2 0
  have n1 := Lib.indexByte_none e2 1
  have n2 := Lib.indexByte_none e2 2
  simp at n0 n1 n2
  simp only [dl, Bool.or_eq_true, beq_iff_eq] at h
  rcases h with (h | h) | h
  · exact n0 h.symm
  · exact n1 h.symm
  · exact n2 h.symm

theorem ix3_any (c : UInt8) (w : World) : Calls Try.prog 26 #[.string ⟨#[44, 32, 9]⟩, .int .u8 (c.toNat : Int)] w fun e w' => e = .returned (.int .i64 (ix3 c)) ∧ w' = w := by
  have h := sib_any ⟨#[44, 32, 9]⟩ (c.toNat : Int) w
  have e : ((c.toNat : Int)).toNat.toUInt8 = c := by simp
  rw [e] at h
  exact h

/-- What value answers off a quote: the longest run from i without a comma, a space or a tab. -/
def RunOf (s : ByteArray) (i j : Nat) : Prop := i ≤ j ∧ j ≤ s.size ∧ (∀ m, i ≤ m → (h : m < s.size) → m < j → dl s[m] = false) ∧ (j = s.size ∨ ∃ h : j < s.size, dl s[j] = true)

set_option maxHeartbeats 1000000 in
theorem value_plain (lb : Nat) (s : ByteArray) (i : Nat) (hi : i ≤ s.size) (hs : s.size ≤ 1048576) (hq : (h : i < s.size) → ((s[i].toNat : Int) == 34) = false) (w : World) (hx : Lex w lb s i) :
    Calls Try.prog 23 #[.pointer (some ⟨lb, 0, none⟩)] w fun e w' => ∃ j : Nat, RunOf s i j ∧ e = .returned (.tuple #[.string (s.extract i j), .bool true]) ∧ Lex w' lb s j ∧ Below lb w w' := by
  have N : Hid (Calls Try.prog 25 #[.pointer (some ⟨lb, 0, none⟩), .int .u8 34] w fun e w' => ∃ n, e = .returned (.bool false) ∧ w' = w.drewN n) := by
    by_cases h : i < s.size
    · exact next_no lb s i h (hq h) w hx
    · exact next_end lb s i h w hx
  have HX : Hid (Lex w lb s i) := hx
  have c1 := hx.c1
  clear hx hq
  go_enter Try.func23, Try.ntmps23
  go_wp2_with (go_at_call 25; refine N.out.mono ?_; rintro e w' ⟨n, rfl, rfl⟩; clear N)
  clear c1
  go_loopg [14] (s.size - i) (fun g _ wr => ∃ k : Nat, i ≤ k ∧ k ≤ s.size ∧ g = s.size - k ∧ Lex wr lb s k ∧ Below lb w wr ∧ Hid (∀ m, i ≤ m → (h : m < s.size) → m < k → dl s[m] = false))
  case atStart => exact ⟨i, Nat.le_refl _, hi, rfl, HX.out.drewN, below_drewN (Below.refl _ _), fun m h1 _ h2 => by omega⟩
  case round =>
    obtain ⟨k, hik, hks, hg, hx, hbel, hrun⟩ := hrel
    have HG : Hid (gk = s.size - k) := hg
    have c0 := hx.c0
    have c1 := hx.c1
    have f1 := hx.f1
    clear hg
    have HY : Hid (Lex wr lb s k) := hx
    clear hx
    by_cases hlt : k < s.size
    · have hd : (k : Int) < (s.size : Int) := by omega
      cases hdl : dl s[k]
      · -- no delimiter: one place on
        have hix : ix3 s[k] = -1 := ix3_neg hdl
        have HR : Hid (∀ m, i ≤ m → (h : m < s.size) → m < k + 1 → dl s[m] = false) := fun m h1 h2 h3 => by
          by_cases e : m = k
          · subst e; exact hdl
          · exact hrun.out m h1 h2 (by omega)
        clear hdl hrun
        go_wp2
        go_quiet ((go_at_call 26; exact Calls.quiet_of_same (ix3_any _ _)))
        go_wp2
        go_roundg (s.size - (k + 1))
        case measure => rw [HG.out]; omega
        case rel => exact ⟨k + 1, by omega, by omega, rfl, HY.out.drewN.set _, (below_drewN hbel).setCell (p := ⟨lb, 1, none⟩) (Nat.le_refl _) _, HR⟩
      · -- a delimiter
        have hix : decide (ix3 s[k] < 0) = false := decide_eq_false (by have := ix3_pos hdl; omega)
        have HR : Hid (RunOf s i k) := ⟨hik, hks, hrun.out, .inr ⟨hlt, hdl⟩⟩
        clear hdl hrun
        go_wp2
        go_quiet ((go_at_call 26; exact Calls.quiet_of_same (ix3_any _ _)))
        go_wp2
        go_quiet (fail)
        go_wp2
        go_ret2
        exact ⟨k, HR.out, rfl, HY.out.drewN.drewN, below_drewN (below_drewN hbel)⟩
    · -- the end
      have hd : decide ((k : Int) < (s.size : Int)) = false := by simpa using hlt
      have HR : Hid (RunOf s i k) := ⟨hik, hks, hrun.out, .inl (by omega)⟩
      clear hrun
      go_wp2
      go_quiet (fail)
      go_wp2
      go_quiet (fail)
      go_wp2
      go_ret2
      exact ⟨k, HR.out, rfl, HY.out.drewN.drewN, below_drewN (below_drewN hbel)⟩

end Go.Proofs.Qxb6000614a
