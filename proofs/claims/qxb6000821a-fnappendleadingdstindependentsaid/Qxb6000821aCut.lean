/-
  spellText in one contract; the closure cut (27).
-/
import Derived.Test.Qxb6000821aText3
namespace Go.Proofs.Qxb6000821a
open Go.RowKit

/-- spellText. -/
theorem st_any (B : Nat) (bf : Nat) (v : Value) (pre : List Value) (st : List UInt8 × Int) (nm text : ByteArray) (br : Bool) (T : UInt8 → UInt8) (sep opn cls : ByteArray) (p : Nat) (hf : Fine nm.data.toList st p) (hp : p + text.size ≤ nm.size) (hs : nm.size ≤ 1048576) (hpre : pre.length ≤ 1048576) (w : World) (hh : Holds B w v pre st.1) (hfm : Form w bf T sep opn cls) :
    Calls Try.prog 30 #[.pointer (some ⟨bf, 0, none⟩), v, .int .i64 st.2, .string nm, .agg #[.string text, .bool br]] w (SpelledT B pre w v (spT nm.data.toList T st text.data.toList br)) := by
  cases br with
  | true => exact st_bracket B bf v pre st nm text T p hf hp hs hpre w hh
  | false =>
    by_cases h0 : st.2 < 0
    · exact st_neg B bf v pre st h0 nm text T sep opn cls p hf hp hs hpre w hh hfm
    · obtain ⟨acc, a⟩ := st
      obtain ⟨a0, rfl⟩ : ∃ a0 : Nat, a = a0 := ⟨a.toNat, by simp at h0; omega⟩
      exact st_pos B bf v pre acc a0 nm text T sep opn cls p hf hp hs hpre w hh hfm

set_option maxHeartbeats 400000 in
theorem cut_same (bs bd bt bn : Nat) (ao : Option Addr) (len cap start : Nat) (n : Int) (whole : Bool) (hk : start ≤ cap) (w : World) (h1 : w.cell? ⟨bs, 0, none⟩ = some (.bool true)) (h2 : w.cell? ⟨bd, 0, none⟩ = some (.slice ao len cap)) (h3 : w.cell? ⟨bt, 0, none⟩ = some (.int .i64 (start : Int))) (h4 : w.cell? ⟨bn, 0, none⟩ = some (.int .i64 n)) :
    Calls Try.prog 27 #[.bool whole, .pointer (some ⟨bs, 0, none⟩), .pointer (some ⟨bd, 0, none⟩), .pointer (some ⟨bt, 0, none⟩), .pointer (some ⟨bn, 0, none⟩)] w fun e w' => ∃ m, e = .returned (.tuple #[.slice ao start cap, .int .i64 n, .bool true, .bool whole]) ∧ w' = w.drewN m := by
  have hk' : (start : Int) ≤ (cap : Int) := by omega
  go_enter Try.func27, Try.ntmps27
  go_wp2
  go_quiet (fail)
  go_wp2
  exact bodyPost_ret (v := .tuple #[.slice ao start cap, .int .i64 n, .bool true, .bool whole]) (by simp [results, Try.results27, go_sem]) rfl ⟨_, rfl, rfl⟩

set_option maxHeartbeats 400000 in
theorem cut_other (bs bd bt bn : Nat) (ao : Option Addr) (len cap start n : Nat) (whole : Bool) (hk : start + n ≤ cap) (hb : start + n ≤ 4194304) (w : World) (h1 : w.cell? ⟨bs, 0, none⟩ = some (.bool false)) (h2 : w.cell? ⟨bd, 0, none⟩ = some (.slice ao len cap)) (h3 : w.cell? ⟨bt, 0, none⟩ = some (.int .i64 (start : Int))) (h4 : w.cell? ⟨bn, 0, none⟩ = some (.int .i64 (n : Int))) :
    Calls Try.prog 27 #[.bool whole, .pointer (some ⟨bs, 0, none⟩), .pointer (some ⟨bd, 0, none⟩), .pointer (some ⟨bt, 0, none⟩), .pointer (some ⟨bn, 0, none⟩)] w fun e w' => ∃ m, e = .returned (.tuple #[.slice ao (start + n) cap, .int .i64 (n : Int), .bool false, .bool whole]) ∧ w' = w.drewN m := by
  have hk' : (start : Int) + (n : Int) ≤ (cap : Int) := by omega
  have hk2 : (0 : Int) ≤ (start : Int) + (n : Int) := by omega
  go_enter Try.func27, Try.ntmps27
  go_wp2
  go_quiet (fail)
  go_wp2
  exact bodyPost_ret (v := .tuple #[.slice ao (start + n) cap, .int .i64 (n : Int), .bool false, .bool whole]) (by simp [results, Try.results27, go_sem]) rfl ⟨_, rfl, rfl⟩

end Go.Proofs.Qxb6000821a
