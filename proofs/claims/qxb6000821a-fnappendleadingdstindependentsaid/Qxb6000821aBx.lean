/-
  appendLeading's variables in memory: what stands and what turns.
-/
import Derived.Test.Qxb6000821aCut
import Derived.Test.Qxb6000821aNext
namespace Go.Proofs.Qxb6000821a
open Go.RowKit

/-- From w, where dst was v, to wr, where it is v', H being w's size: nothing of w has turned but v's own row; v' lies in that row or behind the four boxes. -/
structure Fr (H : Nat) (w : World) (v : Value) (wr : World) (v' : Value) : Prop where
  os : wr.os = w.os
  tape : wr.tape = w.tape
  output : wr.output = w.output
  size : H + 4 ≤ wr.heap.size
  block : ∀ k, k < H → some k ≠ v.ownBlock → wr.heap[k]? = w.heap[k]?
  own : v'.ownBlock = v.ownBlock ∨ ∃ k, v'.ownBlock = some k ∧ H + 4 ≤ k

/-- The four boxes: dst holds v', n, same, start; v' holds the spelling; the form is there. -/
structure Bx (H B bf : Nat) (T : UInt8 → UInt8) (sep opn cls : ByteArray) (pre : List Value) (w : World) (v : Value) (wr : World) (v' : Value) (acc : List UInt8) (nn : Int) (sm : Bool) : Prop where
  dst : wr.heap[H]? = some (.cells #[v'] 23 (0, 0))
  n : wr.heap[H + 1]? = some (.cells #[.int .i64 nn] 3 (0, 0))
  same : wr.heap[H + 2]? = some (.cells #[.bool sm] 4 (0, 0))
  start : wr.heap[H + 3]? = some (.cells #[.int .i64 (pre.length : Int)] 3 (0, 0))
  holds : Holds B wr v' pre acc
  form : Form wr bf T sep opn cls
  fr : Fr H w v wr v'

section
variable {H B bf : Nat} {T : UInt8 → UInt8} {sep opn cls : ByteArray} {pre : List Value} {w : World} {v : Value} {wr w1 : World} {v' v1 : Value} {acc acc1 : List UInt8} {nn : Int} {sm : Bool}

theorem Holds.below (h : Holds B wr v' pre acc) (hb : Below wr.heap.size wr w1) : Holds B w1 v' pre acc := by
  refine ⟨⟨h.1.1, ?_⟩, Nat.le_trans h.2 hb.size⟩
  rcases h.1.2 with ⟨e, hn⟩ | ⟨g, cap, cur, e, hg, hh, r⟩
  · exact .inl ⟨e, hn⟩
  · exact .inr ⟨g, cap, cur, e, hg, (hb.block g (Array.getElem?_eq_some_iff.1 hh).1).trans hh, r⟩

theorem Bx.below (h : Bx H B bf T sep opn cls pre w v wr v' acc nn sm) (hb : Below wr.heap.size wr w1) : Bx H B bf T sep opn cls pre w v w1 v' acc nn sm := by
  have hs := h.fr.size
  refine ⟨(hb.block _ (by omega)).trans h.dst, (hb.block _ (by omega)).trans h.n, (hb.block _ (by omega)).trans h.same, (hb.block _ (by omega)).trans h.start, h.holds.below hb, h.form.of_block (hb.block _ h.form.lt), ?_⟩
  exact ⟨hb.os.trans h.fr.os, hb.tape.trans h.fr.tape, hb.output.trans h.fr.output, Nat.le_trans hs hb.size, fun k hk hne => (hb.block k (by omega)).trans (h.fr.block k hk hne), h.fr.own⟩

theorem Bx.alloc (h : Bx H B bf T sep opn cls pre w v wr v' acc nn sm) (o : Obj) : Bx H B bf T sep opn cls pre w v (wr.alloc o) v' acc nn sm :=
  h.below ((Below.refl _ _).alloc (Nat.le_refl _) _)

theorem Bx.drewN (h : Bx H B bf T sep opn cls pre w v wr v' acc nn sm) (m : Nat) : Bx H B bf T sep opn cls pre w v (wr.drewN m) v' acc nn sm :=
  h.below ⟨rfl, rfl, rfl, Nat.le_refl _, fun _ _ => rfl⟩

theorem Bx.drew (h : Bx H B bf T sep opn cls pre w v wr v' acc nn sm) : Bx H B bf T sep opn cls pre w v wr.drew v' acc nn sm := h.drewN 1

theorem heap_set_same {wr : World} {k : Nat} {x u : Value} {t : TypeId} (h : wr.heap[k]? = some (.cells #[x] t (0, 0))) : (wr.setCell ⟨k, 0, none⟩ u).heap[k]? = some (.cells #[u] t (0, 0)) := by
  simp [World.setCell, Array.getElem?_modify, h]

/-- Holds behind a store into a block of another type. -/
theorem Holds.set (h : Holds B wr v' pre acc) {k : Nat} {X : Array Value} {t : TypeId} {fr : Nat × Nat} (hb : wr.heap[k]? = some (.cells X t fr)) (ht : t ≠ 5) (o : Nat) (u : Value) : Holds B (wr.setCell ⟨k, o, none⟩ u) v' pre acc := by
  have hne := h.ne hb ht
  refine ⟨⟨h.1.1, ?_⟩, by have := h.2; simpa [World.setCell] using this⟩
  rcases h.1.2 with ⟨e, hn⟩ | ⟨g, cap, cur, rfl, hg, hh, r⟩
  · exact .inl ⟨e, hn⟩
  · refine .inr ⟨g, cap, cur, rfl, hg, ?_, r⟩
    rw [Below.heap_setCell _ _ _ _ (fun e => hne (by simp [Value.ownBlock, e]))]
    exact hh

theorem Form.set {t : TypeId} (h : Form wr bf T sep opn cls) {k : Nat} {X : Array Value} {fr : Nat × Nat} (hb : wr.heap[k]? = some (.cells X t fr)) (ht : t ≠ 40) (o : Nat) (u : Value) : Form (wr.setCell ⟨k, o, none⟩ u) bf T sep opn cls := by
  refine h.of_block (Below.heap_setCell _ _ _ _ fun e => ?_)
  obtain ⟨X', hx, _⟩ := h
  have e' : bf = k := e
  rw [e', hb] at hx
  simp at hx
  exact ht hx.2.1

/-- A slice grew or moved, and was laid into dst. -/
theorem Bx.stored (h : Bx H B bf T sep opn cls pre w v wr v' acc nn sm) (hv : ∀ k, some k = v.ownBlock → k < H) (hm : Moves wr v' w1 v1) (hh : Holds B w1 v1 pre acc1) : Bx H B bf T sep opn cls pre w v (w1.setCell ⟨H, 0, none⟩ v1) v1 acc1 nn sm := by
  have hs := h.fr.size
  have ne : ∀ k, k < wr.heap.size → H ≤ k → k < H + 4 → some k ≠ v'.ownBlock := by
    intro k _ h1 h2 e
    rcases h.fr.own with o | ⟨g, o, hg⟩
    · have := hv k (e.trans o); omega
    · rw [o] at e; cases e; omega
  have bd := (hm.block H (by omega) (ne H (by omega) (by omega) (by omega))).trans h.dst
  have bn := (hm.block (H + 1) (by omega) (ne _ (by omega) (by omega) (by omega))).trans h.n
  have bs := (hm.block (H + 2) (by omega) (ne _ (by omega) (by omega) (by omega))).trans h.same
  have bt := (hm.block (H + 3) (by omega) (ne _ (by omega) (by omega) (by omega))).trans h.start
  have bfm := h.form.moves hm (h.holds.form_ne h.form)
  refine ⟨heap_set_same bd, ?_, ?_, ?_, hh.set bd (by decide) 0 v1, bfm.set bd (by decide) 0 v1, ?_⟩
  · rw [Below.heap_setCell _ _ _ _ (by show H + 1 ≠ H; omega)]; exact bn
  · rw [Below.heap_setCell _ _ _ _ (by show H + 2 ≠ H; omega)]; exact bs
  · rw [Below.heap_setCell _ _ _ _ (by show H + 3 ≠ H; omega)]; exact bt
  · refine ⟨hm.os.trans h.fr.os, hm.tape.trans h.fr.tape, hm.output.trans h.fr.output, by have := hm.size; simp [World.setCell]; omega, fun k hk hne => ?_, ?_⟩
    · rw [Below.heap_setCell _ _ _ _ (by show k ≠ H; omega)]
      refine (hm.block k (by omega) fun e => ?_).trans (h.fr.block k hk hne)
      rcases h.fr.own with o | ⟨g, o, hg⟩
      · exact hne (e.trans o)
      · rw [o] at e; cases e; omega
    · rcases hm.own with o | ⟨g, o, hg⟩
      · rcases h.fr.own with o' | ⟨g, o', hg⟩
        · exact .inl (o.trans o')
        · exact .inr ⟨g, o.trans o', hg⟩
      · exact .inr ⟨g, o, by omega⟩

theorem Bx.setN (h : Bx H B bf T sep opn cls pre w v wr v' acc nn sm) (x : Int) : Bx H B bf T sep opn cls pre w v (wr.setCell ⟨H + 1, 0, none⟩ (.int .i64 x)) v' acc x sm := by
  have hs := h.fr.size
  refine ⟨?_, heap_set_same h.n, ?_, ?_, h.holds.set h.n (by decide) 0 _, h.form.set h.n (by decide) 0 _, ?_⟩
  · rw [Below.heap_setCell _ _ _ _ (by show H ≠ H + 1; omega)]; exact h.dst
  · rw [Below.heap_setCell _ _ _ _ (by show H + 2 ≠ H + 1; omega)]; exact h.same
  · rw [Below.heap_setCell _ _ _ _ (by show H + 3 ≠ H + 1; omega)]; exact h.start
  · exact ⟨h.fr.os, h.fr.tape, h.fr.output, by simp [World.setCell]; omega, fun k hk hne => by rw [Below.heap_setCell _ _ _ _ (by show k ≠ H + 1; omega)]; exact h.fr.block k hk hne, h.fr.own⟩

theorem Bx.setSame (h : Bx H B bf T sep opn cls pre w v wr v' acc nn sm) (x : Bool) : Bx H B bf T sep opn cls pre w v (wr.setCell ⟨H + 2, 0, none⟩ (.bool x)) v' acc nn x := by
  have hs := h.fr.size
  refine ⟨?_, ?_, heap_set_same h.same, ?_, h.holds.set h.same (by decide) 0 _, h.form.set h.same (by decide) 0 _, ?_⟩
  · rw [Below.heap_setCell _ _ _ _ (by show H ≠ H + 2; omega)]; exact h.dst
  · rw [Below.heap_setCell _ _ _ _ (by show H + 1 ≠ H + 2; omega)]; exact h.n
  · rw [Below.heap_setCell _ _ _ _ (by show H + 3 ≠ H + 2; omega)]; exact h.start
  · exact ⟨h.fr.os, h.fr.tape, h.fr.output, by simp [World.setCell]; omega, fun k hk hne => by rw [Below.heap_setCell _ _ _ _ (by show k ≠ H + 2; omega)]; exact h.fr.block k hk hne, h.fr.own⟩

/-- The slice written out. -/
theorem Holds.slice (h : Holds B wr v' pre acc) : ∃ ao cap, v' = .slice ao (pre.length + acc.length) cap ∧ pre.length + acc.length ≤ cap := by
  rcases h.1.2 with ⟨e, hn⟩ | ⟨g, cap, cur, e, hg, hh, hc, _⟩
  · exact ⟨none, 0, by rw [e, hn], by omega⟩
  · exact ⟨_, cap, e, hc⟩

/-- The slice cut to its first k elements. -/
theorem Holds.cut {ao : Option Addr} {cap m : Nat} (h : Holds B wr (.slice ao m cap) pre acc) {k : Nat} (hk : k ≤ acc.length) : Holds B wr (.slice ao (pre.length + k) cap) pre (acc.take k) := by
  have hl : (acc.take k).length = k := by rw [List.length_take]; omega
  refine ⟨⟨by rw [List.length_append, Lib.byteCells_length, hl]; omega, ?_⟩, h.2⟩
  rcases h.1.2 with ⟨e, hn⟩ | ⟨g, cap', cur, e, hg, hh, hc, hcm, hcs, ht⟩
  · simp only [Value.slice.injEq] at e
    obtain ⟨rfl, rfl, rfl⟩ := e
    exact .inl ⟨by rw [show pre.length + k = 0 by omega], by rw [hl]; omega⟩
  · simp only [Value.slice.injEq] at e
    obtain ⟨rfl, rfl, rfl⟩ := e
    refine .inr ⟨g, cap, cur, by rw [hl], hg, hh, by omega, hcm, hcs, ?_⟩
    have e1 : (pre.length + (acc.take k).length) * 1 = min ((pre.length + k) * 1) ((pre.length + acc.length) * 1) := by rw [hl]; omega
    rw [e1, ← List.take_take, ht, Nat.mul_one, List.take_append, List.take_of_length_le (by omega)]
    simp [Lib.byteCells, List.map_take]

theorem cell_one {wr : World} {k : Nat} {x : Value} {t : TypeId} (h : wr.heap[k]? = some (.cells #[x] t (0, 0))) : wr.cell? ⟨k, 0, none⟩ = some x := by simp [World.cell?, h]
theorem free_one {wr : World} {k : Nat} {x : Value} {t : TypeId} (h : wr.heap[k]? = some (.cells #[x] t (0, 0))) : wr.frozen? ⟨k, 0, none⟩ = false := by simp [World.frozen?, h]

/-- At the end nothing of w has turned but dst's own row. -/
theorem Bx.moves (h : Bx w.heap.size B bf T sep opn cls pre w v wr v' acc nn sm) {vr : Value} (e : vr.ownBlock = v'.ownBlock) : Moves w v wr vr :=
  ⟨h.fr.os, h.fr.tape, h.fr.output, by have := h.fr.size; omega, fun k hk hne => h.fr.block k hk hne, by
    rw [e]
    rcases h.fr.own with o | ⟨g, o, hg⟩
    · exact .inl o
    · exact .inr ⟨g, o, by omega⟩⟩

/-- The closure over the boxes: the slice cut to what is spelled whole. -/
theorem cut_bx (h : Bx H B bf T sep opn cls pre w v wr v' acc nn sm) (whole : Bool) (hn : sm = true ∨ (sm = false ∧ ∃ n : Nat, nn = (n : Int) ∧ n ≤ acc.length)) (hb : pre.length + acc.length ≤ 4194304) :
    Calls Try.prog 27 #[.bool whole, .pointer (some ⟨H + 1 + 1, 0, none⟩), .pointer (some ⟨H, 0, none⟩), .pointer (some ⟨H + 1 + 1 + 1, 0, none⟩), .pointer (some ⟨H + 1, 0, none⟩)] wr fun e w' =>
      ∃ (ao : Option Addr) (l cap m : Nat), e = .returned (.tuple #[.slice ao l cap, .int .i64 nn, .bool sm, .bool whole]) ∧ w' = wr.drewN m ∧ Holds B wr (.slice ao l cap) pre (if sm then [] else acc.take nn.toNat) ∧ (Value.slice ao l cap).ownBlock = v'.ownBlock := by
  obtain ⟨ao, cap, rfl, hc⟩ := h.holds.slice
  have c1 : wr.cell? ⟨H + 1 + 1, 0, none⟩ = some (.bool sm) := cell_one h.same
  have c2 := cell_one h.dst
  have c3 : wr.cell? ⟨H + 1 + 1 + 1, 0, none⟩ = some (.int .i64 (pre.length : Int)) := cell_one h.start
  have c4 := cell_one h.n
  rcases hn with rfl | ⟨rfl, n, rfl, hn⟩
  · refine (cut_same _ _ _ _ ao _ cap pre.length nn whole (by omega) wr c1 c2 c3 c4).mono ?_
    rintro e w' ⟨m, rfl, rfl⟩
    refine ⟨ao, _, cap, m, rfl, rfl, ?_, ?_⟩
    · have := h.holds.cut (k := 0) (Nat.zero_le _)
      simpa using this
    · cases ao <;> rfl
  · refine (cut_other _ _ _ _ ao _ cap pre.length n whole (by omega) (by omega) wr c1 c2 c3 c4).mono ?_
    rintro e w' ⟨m, rfl, rfl⟩
    refine ⟨ao, _, cap, m, rfl, rfl, ?_, ?_⟩
    · exact h.holds.cut hn
    · cases ao <;> rfl

end

/-- The boxes as they are laid. -/
theorem bx_start {B bf : Nat} {T : UInt8 → UInt8} {sep opn cls : ByteArray} {pre : List Value} {w : World} {ao : Option Addr} {cap : Nat} (hh : Holds B w (.slice ao pre.length cap) pre []) (hf : Form w bf T sep opn cls) :
    Bx w.heap.size B bf T sep opn cls pre w (.slice ao pre.length cap) ((((w.alloc (.cells #[.slice ao pre.length cap] 23)).alloc (.cells #[.int .i64 0] 3)).alloc (.cells #[.bool true] 4)).alloc (.cells #[.int .i64 (pre.length : Int)] 3)) (.slice ao pre.length cap) [] 0 true := by
  have hb : Below w.heap.size w ((((w.alloc (.cells #[.slice ao pre.length cap] 23)).alloc (.cells #[.int .i64 0] 3)).alloc (.cells #[.bool true] 4)).alloc (.cells #[.int .i64 (pre.length : Int)] 3)) :=
    ((((Below.refl _ _).alloc (Nat.le_refl _) _).alloc (by simp) _).alloc (by simp; omega) _).alloc (by simp; omega) _
  refine ⟨?_, ?_, ?_, ?_, hh.below hb, hf.of_block (hb.block _ hf.lt), ⟨rfl, rfl, rfl, by simp, fun k hk _ => hb.block k hk, .inl rfl⟩⟩
  · show ((((w.heap.push _).push _).push _).push _)[w.heap.size]? = _
    simp only [Array.getElem?_push, Array.size_push]
    rw [if_neg (by omega), if_neg (by omega), if_neg (by omega), if_pos trivial]
  · show ((((w.heap.push _).push _).push _).push _)[w.heap.size + 1]? = _
    simp only [Array.getElem?_push, Array.size_push]
    rw [if_neg (by omega), if_neg (by omega), if_pos trivial]
  · show ((((w.heap.push _).push _).push _).push _)[w.heap.size + 2]? = _
    simp only [Array.getElem?_push, Array.size_push]
    rw [if_neg (by omega), if_pos trivial]
  · show ((((w.heap.push _).push _).push _).push _)[w.heap.size + 3]? = _
    simp only [Array.getElem?_push, Array.size_push]
    rw [if_pos trivial]

end Go.Proofs.Qxb6000821a
