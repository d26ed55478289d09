/-
  skipSpace at an empty text, ZZSkipSpace (21), zzCloneBytes (16), zzBytes (20), zzIsBlankStart (22).
-/
import Derived.Test.Qxb6001026aSkip
namespace Go.Proofs.Qxb6001026a
open Go.RowKit

set_option maxHeartbeats 400000 in
theorem skip_nil (lb : Nat) (a : Option Addr) (c : Nat) (w : World) (hx : LxAt w lb (.slice a 0 c) 0) :
    Calls Try.prog 26 #[.pointer (some ⟨lb, 0, none⟩)] w fun e w' => e = .returned (.tuple #[]) ∧ LxAt w' lb (.slice a 0 c) 0 ∧ Below lb w w' := by
  have c0 := hx.c0
  have c1 : w.cell? ⟨lb, 1, none⟩ = some (.int .i64 0) := hx.c1
  have HX : Hid (LxAt w lb (.slice a 0 c) 0) := hx
  clear hx
  go_enter Try.func26, Try.ntmps26
  go_wp2
  refine wp_loop_rounds 1 ?_
  rw [rounds_succ]
  go_wp2
  go_quiet (fail)
  go_wp2
  go_end0
  exact ⟨rfl, HX.out, below_drew (Below.refl _ _) _⟩

/-- The slice reads L. -/
def Src (w : World) (a : Option Addr) (c : Nat) (L : List UInt8) : Prop := L = [] ∨ (L.length ≤ c ∧ ∃ b o, a = some ⟨b, o, none⟩ ∧ b < w.heap.size ∧ Lies w b o L)

theorem Src.below {w w' : World} {a : Option Addr} {c : Nat} {L : List UInt8} (h : Src w a c L) (hb : Below w.heap.size w w') : Src w' a c L := by
  rcases h with h | ⟨hc, b, o, e, hlt, hl⟩
  · exact .inl h
  · exact .inr ⟨hc, b, o, e, Nat.lt_of_lt_of_le hlt hb.size, hl.below hb hlt⟩

theorem skip_src (a : Option Addr) (c : Nat) (L : List UInt8) (hL : L.length ≤ 4194304) (p : Nat) (hp : p ≤ L.length) (w : World) (hs : Src w a c L) :
    Calls Try.prog 26 #[.pointer (some ⟨w.heap.size, 0, none⟩)] (w.alloc (.cells #[.slice a L.length c, .int .i64 (p : Int)] 38)) fun e w' => e = .returned (.tuple #[]) ∧ LxAt w' w.heap.size (.slice a L.length c) (sk L p) ∧ Below w.heap.size (w.alloc (.cells #[.slice a L.length c, .int .i64 (p : Int)] 38)) w' := by
  have hx : LxAt (w.alloc (.cells #[.slice a L.length c, .int .i64 (p : Int)] 38)) w.heap.size (.slice a L.length c) p := Deep.blk_alloc_new w _
  rcases hs with rfl | ⟨hc, b, o, rfl, hlt, hl⟩
  · obtain rfl : p = 0 := by simpa using hp
    exact skip_nil _ a c _ hx
  · exact skip_any w.heap.size b o c L hc hL p hp hlt _ (hl.below ((Below.refl _ _).alloc (Nat.le_refl _) _) hlt) hx

set_option maxHeartbeats 400000 in
theorem zs_any (a : Option Addr) (c : Nat) (L : List UInt8) (hL : L.length ≤ 4194304) (p : Nat) (hp : p ≤ L.length) (w : World) (hs : Src w a c L) :
    Calls Try.prog 21 #[.slice a L.length c, .int .i64 (p : Int)] w fun e w' => e = .returned (.int .i64 (sk L p : Int)) ∧ Below w.heap.size w w' := by
  have HC : Hid (Calls Try.prog 26 #[.pointer (some ⟨w.heap.size, 0, none⟩)] (w.alloc (.cells #[.slice a L.length c, .int .i64 (p : Int)] 38)) fun e w' => e = .returned (.tuple #[]) ∧ LxAt w' w.heap.size (.slice a L.length c) (sk L p) ∧ Below w.heap.size (w.alloc (.cells #[.slice a L.length c, .int .i64 (p : Int)] 38)) w') := skip_src a c L hL p hp w hs
  clear hs
  go_enter Try.func21, Try.ntmps21
  go_wp2_with (first | (go_at_call 26; refine HC.out.mono ?_; rintro e w1 ⟨rfl, hx, hb⟩; have c1 := hx.c1; have HB : Hid (Below w.heap.size (w.alloc (.cells #[.slice a L.length c, .int .i64 (p : Int)] 38)) w1) := hb; clear hx hb))
  go_ret
  exact ⟨rfl, ((Below.refl _ _).alloc (Nat.le_refl _) _).trans HB.out⟩

theorem Try.info5 : (Try.prog.info? 5).map (fun i => (i.zero, i.size, i.bytes)) = some (some (.int .u8 0), 1, 1) := by kernel_rfl

theorem row_step {w : World} {b t n k : Nat} {f : Nat → Value} {z : Value} (h : w.rowIs b t n (fun j => if j < k then f j else z)) : (w.setCell ⟨b, k, none⟩ (f k)).rowIs b t n (fun j => if j < k + 1 then f j else z) := by
  refine (h.set k (f k)).congr fun i _ => ?_
  show (if i = k then f k else if i < k then f i else z) = if i < k + 1 then f i else z
  by_cases e : i = k
  · subst e; simp
  · rw [if_neg e]
    by_cases e2 : i < k
    · rw [if_pos e2, if_pos (by omega)]
    · rw [if_neg e2, if_neg (by omega)]

/-- What a copy is: some slice that reads L. -/
def Copied (w : World) (L : List UInt8) (e : Ending) (w' : World) : Prop := ∃ a c, e = .returned (.slice a L.length c) ∧ Src w' a c L ∧ Below w.heap.size w w'

set_option maxHeartbeats 400000 in
theorem clone_nil (w : World) : Calls Try.prog 16 #[.slice none 0 0] w (Copied w []) := by
  have q := fun (w : World) (a : Option Addr) (n c n' c' : Nat) => Lib.run_eql_slice_nil (P := Try.prog) w _ _ a n c n' c' Try.underlying25
  go_enter Try.func16, Try.ntmps16
  go_wp2
  go_ret
  exact ⟨none, 0, rfl, .inl rfl, Below.refl _ _⟩

set_option maxHeartbeats 400000 in
theorem clone_empty (x : Addr) (c : Nat) (w : World) : Calls Try.prog 16 #[.slice (some x) 0 c] w (Copied w []) := by
  have q := fun (w : World) (a : Option Addr) (n c n' c' : Nat) => Lib.run_eql_slice_nil (P := Try.prog) w _ _ a n c n' c' Try.underlying25
  have hmk : ∀ w, (Instr.makeSlice 25 (.int .i64 0) (.int .i64 0)).run Try.prog w = .ok (.slice (some ⟨w.heap.size, 0, none⟩) 0 0) (w.alloc (.cells (madeCells #[.int .u8 0] 0) 5)) := run_make_row' (P := Try.prog) 25 5 (.int .u8 0) 1 Try.underlying25 Try.info5 rfl .i64 .i64 0 (by omega) (by omega)
  go_enter Try.func16, Try.ntmps16
  go_wp2
  refine wp_loop_rounds 1 ?_
  rw [rounds_succ]
  go_wp2
  go_ret
  exact ⟨_, 0, rfl, .inl rfl, (Below.refl _ _).alloc (Nat.le_refl _) _⟩

set_option maxHeartbeats 400000 in
theorem clone_some (b o c : Nat) (L : List UInt8) (hL : L.length ≤ 1048576) (w : World) (hb : b < w.heap.size) (hl : Lies w b o L) : Calls Try.prog 16 #[.slice (some ⟨b, o, none⟩) L.length c] w (Copied w L) := by
  have q := fun (w : World) (a : Option Addr) (n c n' c' : Nat) => Lib.run_eql_slice_nil (P := Try.prog) w _ _ a n c n' c' Try.underlying25
  have hmk := run_make_row' (P := Try.prog) 25 5 (.int .u8 0) 1 Try.underlying25 Try.info5 rfl .i64 .i64 L.length (by omega) (by omega)
  have HL : Hid (Lies w b o L) := hl
  clear hl
  go_enter Try.func16, Try.ntmps16
  go_wp2
  clear hmk
  go_loopw [4] (fun i wr => ∃ k : Nat, k ≤ L.length ∧ i = .int .i64 k ∧ wr.rowIs w.heap.size 5 L.length (fun j => if j < k then .int .u8 ((L.getD j 0).toNat : Int) else .int .u8 0) ∧ Hid (Below w.heap.size w wr)) (fun i _ => L.length - (intOf i).toNat)
  case atStart => exact ⟨0, Nat.zero_le _, rfl, World.rowIs_made _ _ _ _, (Below.refl _ _).alloc (Nat.le_refl _) _⟩
  case round =>
    obtain ⟨k, hk, rfl, hrow, hbel⟩ := hrel
    by_cases hlt : k < L.length
    · have h1 : wr.cell? ⟨b, o + k, none⟩ = some (.int .u8 ((L.getD k 0).toNat : Int)) := (hbel.out.cell (p := ⟨b, o + k, none⟩) hb).trans (HL.out k _ (by simp [List.getD, List.getElem?_eq_getElem hlt]))
      obtain ⟨v, h2⟩ : ∃ v, wr.cell? ⟨w.heap.size, k, none⟩ = some v := ⟨_, hrow.cell hlt⟩
      have h3 : wr.frozen? ⟨w.heap.size, k, none⟩ = false := hrow.frozen k
      have H : Hid ((wr.setCell ⟨w.heap.size, k, none⟩ (.int .u8 ((L.getD k 0).toNat : Int))).rowIs w.heap.size 5 L.length (fun j => if j < k + 1 then .int .u8 ((L.getD j 0).toNat : Int) else .int .u8 0)) := row_step (f := fun j => .int .u8 ((L.getD j 0).toNat : Int)) hrow
      obtain ⟨d, hd⟩ : ∃ d, d = L.getD k 0 := ⟨_, rfl⟩
      rw [← hd] at h1 H
      clear hrow hd
      go_wp2
      go_roundw
      case rel => exact ⟨k + 1, by omega, by go_num, H.out, hbel.out.setCell (Nat.le_refl _) _⟩
      case measure => simp [intOf]; omega
    · go_wp2
      go_ret
      obtain rfl : k = L.length := by omega
      refine ⟨_, L.length, rfl, .inr ⟨Nat.le_refl _, w.heap.size, 0, rfl, ?_, fun i d hd => ?_⟩, hbel.out⟩
      · obtain ⟨cc, hh, _⟩ := hrow
        exact (Array.getElem?_eq_some_iff.1 hh).1
      · have hi : i < L.length := (List.getElem?_eq_some_iff.1 hd).1
        have h := hrow.cell hi
        rw [if_pos hi] at h
        rw [Nat.zero_add, h]
        simp [List.getD, hd]

theorem clone_any (a : Option Addr) (c : Nat) (L : List UInt8) (hL : L.length ≤ 1048576) (w : World) (hz : a = none → c = 0) (hs : Src w a c L) : Calls Try.prog 16 #[.slice a L.length c] w (Copied w L) := by
  rcases hs with rfl | ⟨hc, b, o, rfl, hlt, hl⟩
  · cases a with
    | none => rw [hz rfl]; exact clone_nil w
    | some x => exact clone_empty x c w
  · exact clone_some b o c L hL w hlt hl

def SomeBool (e : Ending) : Prop := ∃ b : Bool, e = .returned (.bool b)

set_option maxHeartbeats 400000 in
theorem zz20 (a : Option Addr) (n c : Nat) (x : Value) (hn : n ≤ 9223372036854775807) (w : World) : Calls Try.prog 20 #[.slice a n c, x] w fun e w' => SomeBool e ∧ w' = w := by
  by_cases h1 : n ≤ 1048576
  · have h1' : ¬ (1048576 : Int) < (n : Int) := by omega
    go_enter Try.func20, Try.ntmps20
    go_wp2
    go_ret
    exact ⟨⟨_, rfl⟩, rfl⟩
  · have h1' : (1048576 : Int) < (n : Int) := by omega
    go_enter Try.func20, Try.ntmps20
    go_wp2
    go_ret
    exact ⟨⟨_, rfl⟩, rfl⟩

set_option maxHeartbeats 400000 in
theorem ibs_any (ch : UInt8) (hb : blankC ch = false) (h35 : ch ≠ 35) (w : World) : Calls Try.prog 22 #[.int .u8 (ch.toNat : Int)] w fun e w' => e = .returned (.bool false) ∧ w' = w := by
  have ne : ∀ k : UInt8, ch ≠ k → ((ch.toNat : Int) == (k.toNat : Int)) = false := fun k hk => by
    have h : ch.toNat ≠ k.toNat := fun e => hk (UInt8.toNat_inj.1 e)
    simp
    omega
  unfold blankC at hb
  simp only [Bool.or_eq_false_iff, beq_eq_false_iff_ne] at hb
  obtain ⟨⟨⟨h1, h2⟩, h3⟩, h4⟩ := hb
  have n1 : ((ch.toNat : Int) == 32) = false := ne 32 h1
  have n2 : ((ch.toNat : Int) == 9) = false := ne 9 h2
  have n3 : ((ch.toNat : Int) == 10) = false := ne 10 h3
  have n4 : ((ch.toNat : Int) == 13) = false := ne 13 h4
  have n5 : ((ch.toNat : Int) == 35) = false := ne 35 h35
  clear ne h1 h2 h3 h4 h35
  go_enter Try.func22, Try.ntmps22
  go_wp2
  go_ret
  exact ⟨rfl, rfl⟩

end Go.Proofs.Qxb6001026a
