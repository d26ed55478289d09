/-
  ZZLexerValue (9), zzIsDelim (12).
-/
import Derived.Test.Qxb6000614aQuoted
namespace Go.Proofs.Qxb6000614a
open Go.RowKit

theorem lex_new (w : World) (s : ByteArray) (i : Int) : Lex (w.alloc (.cells #[.string s, .int .i64 i] 48)) w.heap.size s i := Deep.blk_alloc_new _ _

set_option maxHeartbeats 400000 in
theorem lexv_plain (s : ByteArray) (i : Nat) (hi : i ≤ s.size) (hs : s.size ≤ 1048576) (hq : (h : i < s.size) → ((s[i].toNat : Int) == 34) = false) (w : World) :
    Calls Try.prog 9 #[.string s, .int .i64 (i : Int)] w fun e w' => ∃ j : Nat, RunOf s i j ∧ e = .returned (.tuple #[.string (s.extract i j), .bool true, .int .i64 (j : Int)]) ∧ Below w.heap.size w w' := by
  have V : Hid (Calls Try.prog 23 #[.pointer (some ⟨w.heap.size, 0, none⟩)] (w.alloc (.cells #[.string s, .int .i64 i] 48)) _) := value_plain w.heap.size s i hi hs hq _ (lex_new w s i)
  clear hq
  go_enter Try.func9, Try.ntmps9
  go_wp2_with fail
  refine V.out.mono ?_
  rintro e w1 ⟨j, hr, rfl, hx, hb⟩
  have HR : Hid (RunOf s i j) := hr
  have c1 := hx.c1
  clear V hr hx
  go_wp2
  go_quiet (fail)
  go_wp2
  go_ret3
  exact ⟨j, HR.out, rfl, below_drewN (((Below.refl _ _).alloc (Nat.le_refl _) _).trans hb)⟩

set_option maxHeartbeats 400000 in
theorem lexv_quoted (s : ByteArray) (i : Nat) (hi : i < s.size) (hs : s.size ≤ 1048576) (hq : ((s[i].toNat : Int) == 34) = true) (w : World) :
    Calls Try.prog 9 #[.string s, .int .i64 (i : Int)] w fun e w' => ∃ (v : ByteArray) (ok : Bool) (j : Nat), QuoteOf s i v ok j ∧ e = .returned (.tuple #[.string v, .bool ok, .int .i64 (j : Int)]) ∧ Below w.heap.size w w' := by
  have V : Hid (Calls Try.prog 23 #[.pointer (some ⟨w.heap.size, 0, none⟩)] (w.alloc (.cells #[.string s, .int .i64 i] 48)) _) := value_quoted w.heap.size s i hi hs hq _ (lex_new w s i)
  clear hq
  go_enter Try.func9, Try.ntmps9
  go_wp2_with fail
  refine V.out.mono ?_
  rintro e w1 ⟨v, ok, j, hr, rfl, hx, hb⟩
  have HR : Hid (QuoteOf s i v ok j) := hr
  have c1 := hx.c1
  clear V hr hx
  go_wp2
  go_quiet (fail)
  go_wp2
  go_ret3
  exact ⟨v, ok, j, HR.out, rfl, below_drewN (((Below.refl _ _).alloc (Nat.le_refl _) _).trans hb)⟩

theorem dl_false {c : UInt8} (h : dl c = false) : ((c.toNat : Int) == 44) = false ∧ ((c.toNat : Int) == 32) = false ∧ ((c.toNat : Int) == 9) = false := by
  simp only [dl, Bool.or_eq_false_iff, beq_eq_false_iff_ne] at h
  obtain ⟨⟨h1, h2⟩, h3⟩ := h
  refine ⟨beq_eq_false_iff_ne.2 fun e => h1 ?_, beq_eq_false_iff_ne.2 fun e => h2 ?_, beq_eq_false_iff_ne.2 fun e => h3 ?_⟩
  · apply UInt8.toNat_inj.1; show c.toNat = 44; omega
  · apply UInt8.toNat_inj.1; show c.toNat = 32; omega
  · apply UInt8.toNat_inj.1; show c.toNat = 9; omega

set_option maxHeartbeats 400000 in
/-- zzIsDelim. -/
theorem delim_any (c : UInt8) (w : World) : Calls Try.prog 12 #[.int .u8 (c.toNat : Int)] w fun e w' => e = .returned (.bool (dl c)) ∧ w' = w := by
  cases h : dl c
  · obtain ⟨h1, h2, h3⟩ := dl_false h
    clear h
    go_enter Try.func12, Try.ntmps12
    go_wp2
    go_ret
    exact ⟨rfl, rfl⟩
  · simp only [dl, Bool.or_eq_true, beq_iff_eq] at h
    rcases h with (rfl | rfl) | rfl
    all_goals
      go_enter Try.func12, Try.ntmps12
      go_wp2
      go_ret
      exact ⟨rfl, rfl⟩

end Go.Proofs.Qxb6000614a
