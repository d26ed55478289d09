/-
  ZZAppendLeading (9).
-/
import Derived.Test.Qxb6000821aZz
namespace Go.Proofs.Qxb6000821a
open Go.RowKit

theorem size22 : (Try.prog.info? 22).map (·.size) = some 256 := by kernel_rfl

theorem wpList_build_to {P : Program} {ops : Array Oper} {rest : List Oper} {o : Oper} {a : Act} {w : World} {Q : Exit → Act → World → Prop} (hg : o.guard = none) (t : TypeId) (parts : Array (Nat × Operand)) (ho : o.op = .build t parts) (L : List (Nat × Value)) (X : Array Value)
    (hL : (parts.toList.map fun (x : Nat × Operand) => (x.1, a.eval x.2)) = L) (hf : P.built t L = some X) (h : wpList P ops Q rest (a.put o.dst (.agg X)) w) : wpList P ops Q (o :: rest) a w := by
  have e : (parts.map fun (x : Nat × Operand) => (x.1, a.eval x.2)).toList = L := by rw [Array.toList_map]; exact hL
  have e2 : P.built t (parts.map fun (x : Nat × Operand) => (x.1, a.eval x.2)).toList = some X := by rw [e]; exact hf
  refine wpList_build hg t parts ho ?_ ?_
  · show (P.built t (parts.map fun (x : Nat × Operand) => (x.1, a.eval x.2)).toList).isSome = true
    rw [e2]; rfl
  · show wpList P ops Q rest (a.put o.dst (.agg ((P.built t (parts.map fun (x : Nat × Operand) => (x.1, a.eval x.2)).toList).getD #[]))) w
    rw [e2]; exact h

theorem moves_below {w w1 w2 : World} {v v2 : Value} (hb : Below w.heap.size w w1) (hm : Moves w1 v w2 v2) : Moves w v w2 v2 := by
  refine ⟨hm.os.trans hb.os, hm.tape.trans hb.tape, hm.output.trans hb.output, Nat.le_trans hb.size hm.size, fun k hk hne => (hm.block k (Nat.lt_of_lt_of_le hk hb.size) hne).trans (hb.block k hk), ?_⟩
  rcases hm.own with o | ⟨g, o, hg⟩
  · exact .inl o
  · exact .inr ⟨g, o, Nat.le_trans hb.size hg⟩

set_option maxHeartbeats 1000000 in
theorem za_any (B : Nat) (v : Value) (pre : List Value) (nm : ByteArray) (aw : Bool) (T : UInt8 → UInt8) (cs : Array Value) (hcs : cs.size = 256) (hT : ∀ c : UInt8, cs[c.toNat]? = some (.int .u8 ((T c).toNat : Int)))
    (sep opn cls : ByteArray) (h1 : sep.size ≤ 1) (h2 : opn.size ≤ 1) (h3 : cls.size ≤ 1) (hs : nm.size ≤ 1048576) (hpre : pre.length ≤ 1048576) (w : World) (hh : Holds B w v pre []) :
    Calls Try.prog 9 #[.agg cs, .string sep, .string opn, .string cls, v, .string nm, .bool aw] w (Led B pre w v (al nm.data.toList T sep.data.toList opn.data.toList cls.data.toList aw (nm.size + 1) ([], 0) true 0)) := by
  obtain ⟨X, hX, hXs, hXc, hX1, hX2, hX3⟩ := built_form cs hcs sep opn cls
  have hb : Below w.heap.size w ((w.alloc (.cells cs 22)).alloc (.cells X 40)) := ((Below.refl _ _).alloc (Nat.le_refl _) _).alloc (by simp) _
  have hfm : Form ((w.alloc (.cells cs 22)).alloc (.cells X 40)) (w.heap.size + 1) T sep opn cls := by
    refine ⟨X, ?_, fun c => (hXc c.toNat c.toNat_lt).trans (hT c), hX1, hX2, hX3⟩
    have h := Deep.blk_alloc_new (w.alloc (.cells cs 22)) (.cells X 40)
    simpa using h
  have hB : w.heap.size ≤ w.heap.size := Nat.le_refl _
  have HH : Hid (Holds B ((w.alloc (.cells cs 22)).alloc (.cells X 40)) v pre []) := hh.below hb
  have HL := al_any B (w.heap.size + 1) v pre nm aw T sep opn cls h1 h2 h3 hs hpre _ HH.out hfm
  obtain ⟨R, hR⟩ : ∃ R, al nm.data.toList T sep.data.toList opn.data.toList cls.data.toList aw (nm.size + 1) ([], 0) true 0 = R := ⟨_, rfl⟩
  rw [hR] at HL ⊢
  have HC : Hid (Calls Try.prog 23 #[.pointer (some ⟨w.heap.size + 1, 0, none⟩), v, .string nm, .bool aw] ((w.alloc (.cells cs 22)).alloc (.cells X 40)) (Led B pre ((w.alloc (.cells cs 22)).alloc (.cells X 40)) v R)) := HL
  have HX : Hid (Try.prog.built 40 [(0, .agg cs), (1, .string sep), (2, .string opn), (3, .string cls)] = some X) := hX
  have HS : Hid ((Try.prog.info? 22).map (·.size) = some cs.size) := by rw [hcs]; exact size22
  have HBl : Hid (Below w.heap.size w ((w.alloc (.cells cs 22)).alloc (.cells X 40)) ∧ B ≤ w.heap.size) := ⟨hb, hh.2⟩
  clear HL hX hXc hX1 hX2 hX3 hfm hb hR hh HH hB hcs hT
  go_enter Try.func9, Try.ntmps9
  go_wp2_with (first | (refine wpList_load_row rfl 22 (.tmp 7) rfl w.heap.size rfl 22 cs (0, 0) _ (Deep.blk_alloc_new w _) Try.underlying22 rfl HS.out ?_) | (refine wpList_build_to rfl 40 _ rfl _ X rfl HX.out ?_) | (go_at_call 23; refine HC.out.mono ?_; rintro e w2 ⟨v2, rfl, hh2, hm2⟩))
  refine bodyPost_ret (v := .tuple #[v2, .int .i64 (nOf R), .bool (sameOf R), .bool R.2]) (by simp [results, Try.results9, go_sem]) rfl ⟨v2, rfl, hh2, ?_⟩
  exact moves_below HBl.out.1 hm2

end Go.Proofs.Qxb6000821a
