/-
  zzBytes (7), ZZAppendLeading (9).
-/
import Derived.Test.Qxb6000821aSmall
import Derived.Laws.Tables
import Derived.Laws.Rows
import Derived.Great.FillDense
namespace Go.Proofs.Qxb6000821a
open Go.RowKit

def SomeBool (e : Ending) : Prop := ∃ b : Bool, e = .returned (.bool b)

set_option maxHeartbeats 800000 in
theorem zz_any (cs : Array Value) (x1 x2 x3 : Value) (ao : Option Addr) (n c : Nat) (nm : ByteArray) (aw : Value) (hn : n ≤ 9223372036854775807) (hm : nm.size ≤ 9223372036854775807) (w : World) :
    Calls Try.prog 7 #[.agg cs, x1, x2, x3, .slice ao n c, .string nm, aw] w fun e w' => SomeBool e ∧ Below w.heap.size w w' := by
  by_cases h1 : n ≤ 1048576
  · have h1' : ¬ (1048576 : Int) < (n : Int) := by omega
    by_cases h2 : nm.size ≤ 1048576
    · have h2' : ¬ (1048576 : Int) < (nm.size : Int) := by omega
      by_cases h3 : n + nm.size ≤ 1048576
      · have h3' : ¬ (1048576 : Int) < (n : Int) + (nm.size : Int) := by omega
        go_enter Try.func7, Try.ntmps7
        go_wp2
        go_ret
        exact ⟨⟨_, rfl⟩, (Below.refl _ _).alloc (Nat.le_refl _) _⟩
      · have h3' : (1048576 : Int) < (n : Int) + (nm.size : Int) := by omega
        go_enter Try.func7, Try.ntmps7
        go_wp2
        go_ret
        exact ⟨⟨_, rfl⟩, (Below.refl _ _).alloc (Nat.le_refl _) _⟩
    · have h2' : (1048576 : Int) < (nm.size : Int) := by omega
      go_enter Try.func7, Try.ntmps7
      go_wp2
      go_ret
      exact ⟨⟨_, rfl⟩, (Below.refl _ _).alloc (Nat.le_refl _) _⟩
  · have h1' : (1048576 : Int) < (n : Int) := by omega
    go_enter Try.func7, Try.ntmps7
    go_wp2
    go_ret
    exact ⟨⟨_, rfl⟩, (Below.refl _ _).alloc (Nat.le_refl _) _⟩

/-- One part of a built row. -/
theorem fill_part {place : Nat → Option (Nat × Nat)} {cells : Array Value} {i : Nat} {v : Value} {rest : List (Nat × Value)} {off size : Nat} (hp : place i = some (off, size)) (hs : v.cells.size = size) (hfit : off + size ≤ cells.size) :
    ∃ r : Array Value, r.size = cells.size ∧ (∀ k, r[k]? = if off ≤ k ∧ k < off + size then v.cells[k - off]? else cells[k]?) ∧ Instr.fill place cells ((i, v) :: rest) = Instr.fill place r rest := by
  obtain ⟨g1, g2⟩ := Great.foldl_set off v.cells.toList 0 cells
  refine ⟨_, g1, fun k => ?_, ?_⟩
  · rw [g2 k]
    simp only [Nat.add_zero, Array.length_toList, hs]
    by_cases h : off ≤ k ∧ k < off + size
    · rw [if_pos h, if_pos ⟨h.1, h.2, by omega⟩]
      simp
    · rw [if_neg h, if_neg (fun h2 => h ⟨h2.1, h2.2.1⟩)]
  · conv => lhs; unfold Instr.fill
    simp only [hp]
    rw [if_neg (by simp; omega)]
    congr 1
    rw [← Array.foldl_toList, Array.toList_zipIdx]

/-- The zero form's cells. -/
theorem built_is : Try.prog.built 40 = fun parts => Instr.fill (#[(0, 256), (256, 1), (257, 1), (258, 1)][·]?) (((Try.prog.info? 40).bind (·.zero)).getD undef).cells parts := by kernel_rfl
theorem built_size : (((Try.prog.info? 40).bind (·.zero)).getD undef).cells.size = 259 := by kernel_rfl

theorem built_form (cs : Array Value) (hcs : cs.size = 256) (sep opn cls : ByteArray) :
    ∃ X : Array Value, Try.prog.built 40 [(0, .agg cs), (1, .string sep), (2, .string opn), (3, .string cls)] = some X ∧ X.size = 259 ∧ (∀ j, j < 256 → X[j]? = cs[j]?) ∧ X[256]? = some (.string sep) ∧ X[257]? = some (.string opn) ∧ X[258]? = some (.string cls) := by
  rw [built_is]
  have hz := built_size
  generalize (((Try.prog.info? 40).bind (·.zero)).getD undef).cells = Z at hz ⊢
  obtain ⟨r1, s1, c1, e1⟩ := fill_part (place := (#[(0, 256), (256, 1), (257, 1), (258, 1)][·]?)) (cells := Z) (i := 0) (v := .agg cs) (rest := [(1, .string sep), (2, .string opn), (3, .string cls)]) (off := 0) (size := 256) rfl hcs (by omega)
  obtain ⟨r2, s2, c2, e2⟩ := fill_part (place := (#[(0, 256), (256, 1), (257, 1), (258, 1)][·]?)) (cells := r1) (i := 1) (v := .string sep) (rest := [(2, .string opn), (3, .string cls)]) (off := 256) (size := 1) rfl rfl (by omega)
  obtain ⟨r3, s3, c3, e3⟩ := fill_part (place := (#[(0, 256), (256, 1), (257, 1), (258, 1)][·]?)) (cells := r2) (i := 2) (v := .string opn) (rest := [(3, .string cls)]) (off := 257) (size := 1) rfl rfl (by omega)
  obtain ⟨r4, s4, c4, e4⟩ := fill_part (place := (#[(0, 256), (256, 1), (257, 1), (258, 1)][·]?)) (cells := r3) (i := 3) (v := .string cls) (rest := []) (off := 258) (size := 1) rfl rfl (by omega)
  refine ⟨r4, ?_, by omega, fun j hj => ?_, ?_, ?_, ?_⟩
  · show Instr.fill _ Z _ = _
    rw [e1, e2, e3, e4]
    rfl
  · rw [c4, if_neg (by omega), c3, if_neg (by omega), c2, if_neg (by omega), c1, if_pos (by omega)]
    rfl
  · rw [c4, if_neg (by omega), c3, if_neg (by omega), c2, if_pos (by omega)]
    rfl
  · rw [c4, if_neg (by omega), c3, if_pos (by omega)]
    rfl
  · rw [c4, if_pos (by omega)]
    rfl

end Go.Proofs.Qxb6000821a
