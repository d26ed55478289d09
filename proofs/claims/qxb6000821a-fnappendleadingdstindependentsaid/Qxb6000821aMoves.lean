/-
  A slice of bytes that grows: what else may turn meanwhile; append of a string, and where the new slice lies; spellByte (32).
-/
import Derived.Test.Qxb6000821aRows
import Derived.Test.Qxb6000821aPlain
import Derived.WalkKit
import Derived.WalkSpells
import Derived.WalkLawsBesides
import Derived.Maps.AppendAt
import Derived.Lib.AppendStr
import Derived.Deep.Draws
namespace Go.Proofs.Qxb6000821a
open Go.RowKit

theorem Try.info5 : (Try.prog.info? 5).map (fun i => (i.zero, i.size, i.bytes)) = some (some (.int .u8 0), 1, 1) := by kernel_rfl

/-- From w, where the slice was v, to w', where it is v': nothing of w has turned but v's own row; v' lies in that row or in a new one. -/
structure Moves (w : World) (v : Value) (w' : World) (v' : Value) : Prop where
  os : w'.os = w.os
  tape : w'.tape = w.tape
  output : w'.output = w.output
  size : w.heap.size ≤ w'.heap.size
  block : ∀ k, k < w.heap.size → some k ≠ v.ownBlock → w'.heap[k]? = w.heap[k]?
  own : v'.ownBlock = v.ownBlock ∨ ∃ k, v'.ownBlock = some k ∧ w.heap.size ≤ k

theorem Moves.refl (w : World) (v : Value) : Moves w v w v := ⟨rfl, rfl, rfl, Nat.le_refl _, fun _ _ _ => rfl, .inl rfl⟩

theorem Moves.trans {w w' w'' : World} {v v' v'' : Value} (h : Moves w v w' v') (k : Moves w' v' w'' v'') : Moves w v w'' v'' := by
  refine ⟨k.os.trans h.os, k.tape.trans h.tape, k.output.trans h.output, Nat.le_trans h.size k.size, fun j hj hne => ?_, ?_⟩
  · refine (k.block j (Nat.lt_of_lt_of_le hj h.size) fun e => ?_).trans (h.block j hj hne)
    rcases h.own with o | ⟨g, o, hg⟩
    · exact hne (e.trans o)
    · rw [o] at e
      cases e
      omega
  · rcases k.own with o | ⟨g, o, hg⟩
    · rcases h.own with o' | ⟨g, o', hg⟩
      · exact .inl (o.trans o')
      · exact .inr ⟨g, o.trans o', hg⟩
    · exact .inr ⟨g, o, Nat.le_trans h.size hg⟩

theorem Moves.alloc {w w' : World} {v v' : Value} (h : Moves w v w' v') (o : Obj) : Moves w v (w'.alloc o) v' :=
  ⟨h.os, h.tape, h.output, by have := h.size; simp; omega, fun k hk hne => (Below.heap_alloc w' o k (Nat.lt_of_lt_of_le hk h.size)).trans (h.block k hk hne), h.own⟩

theorem Moves.drewN {w w' : World} {v v' : Value} (h : Moves w v w' v') (n : Nat) : Moves w v (w'.drewN n) v' := ⟨h.os, h.tape, h.output, h.size, h.block, h.own⟩

/-- Another slice over the same row. -/
theorem Moves.same {w w' : World} {v v' v'' : Value} (h : Moves w v w' v') (e : v''.ownBlock = v'.ownBlock) : Moves w v w' v'' := ⟨h.os, h.tape, h.output, h.size, h.block, by rw [e]; exact h.own⟩

theorem Moves.of_grown {w w' : World} {v v' : Value} (h : w.grownBy w' v.ownBlock) (e : v'.ownBlock = v.ownBlock ∨ v'.ownBlock = some w.heap.size) : Moves w v w' v' :=
  ⟨h.os, h.tape, h.output, h.size, fun k hk hne => h.block k hk hne, e.elim .inl (fun o => .inr ⟨_, o, Nat.le_refl _⟩)⟩

/-- The slice v of w owns the bytes l behind pre. -/
def Holds (B : Nat) (w : World) (v : Value) (pre : List Value) (l : List UInt8) : Prop := w.ownsRow B 5 1 v (pre.length + l.length) (pre ++ Lib.byteCells l) ∧ B ≤ w.heap.size

theorem strCells_take (s : ByteArray) (k : Nat) : Lib.strCells (s.extract 0 k) = Lib.byteCells (s.data.toList.take k) := by
  rw [Lib.strCells_eq, Lib.extract_data]
  simp

/-- append(b, s...): where the new slice lies. -/
theorem append_string_at (w : World) (B : Nat) (ty : TypeId) (v : Value) (n : Nat) (xs : List Value) (hown : w.ownsRow B 5 1 v n xs) (s : ByteArray) (h : n + s.size ≤ 140737488355328) (hB : B ≤ w.heap.size) :
    ∃ v' w', (Builtin.append_ #[23, 9] ty #[v, .string s]).run Try.prog w = .ok v' w' ∧ w'.ownsRow B 5 1 v' (n + s.size) (xs ++ Lib.strCells s) ∧ w.grownBy w' v.ownBlock ∧ (v'.ownBlock = v.ownBlock ∨ v'.ownBlock = some w.heap.size) := by
  obtain ⟨i, hi, hz0, hz1, hz2⟩ := info_parts Try.info5
  obtain ⟨v', w', hr, h2, h3, h4⟩ := Lib.run_append_own_string (P := Try.prog) w B 23 9 ty 5 i Try.underlying23 Try.underlying9 hi hz0 hz1 hz2 v n xs hown s (by unfold maxLen; omega) h hB
  refine ⟨v', w', hr, h2, h3, ?_⟩
  rcases hown.2 with ⟨rfl, rfl⟩ | ⟨g, cap, cur, rfl, hbg, hg, hnc, hcm, hcs, htake⟩
  · by_cases hm : s.size = 0
    · rw [h4.2 ⟨rfl, hm⟩]
      exact .inl rfl
    · have hr2 := run_append_nil_string (P := Try.prog) w 23 9 ty 5 i (.int .u8 0) Try.underlying23 Try.underlying9 hi hz0 s (by omega) (by omega) (by rw [hz2]; omega)
      rw [hr] at hr2
      cases hr2
      exact .inr rfl
  · by_cases hroom : n + s.size ≤ cap
    · have hr2 := Lib.run_append_room_string (P := Try.prog) w 23 9 ty 5 i Try.underlying23 Try.underlying9 hi hz1 g n cap cur hg s hroom (by simp at hcs; omega)
      rw [hr] at hr2
      cases hr2
      exact .inl rfl
    · have hr2 := Lib.run_append_grow_string (P := Try.prog) w 23 9 ty 5 i (.int .u8 0) Try.underlying23 Try.underlying9 hi hz0 ⟨g, 0, none⟩ n cap xs (by rw [hz1]; exact hown.1) (hown.cells (g := g) rfl) s (by omega) (by omega) (by rw [hz2]; exact growslice_fits (by omega) (by omega))
      rw [hr] at hr2
      cases hr2
      exact .inr rfl

/-- The same at the operation. -/
theorem wpList_append_str (w : World) {ops : Array Oper} {rest : List Oper} {o : Oper} {a : Act} {Q : Exit → Act → World → Prop} (hgd : o.guard = none) (sl x : Operand)
    (ho : o.op = .call { callee := .builtin .append, args := #[sl, x], argTypes := #[23, 9] }) (B : Nat) (v : Value) (n : Nat) (xs : List Value) (hs : a.eval sl = v) (hown : w.ownsRow B 5 1 v n xs) (s : ByteArray) (hx : a.eval x = .string s)
    (hb : n + s.size ≤ 140737488355328) (hB : B ≤ w.heap.size)
    (h : ∀ v' w', w'.ownsRow B 5 1 v' (n + s.size) (xs ++ Lib.strCells s) → w.grownBy w' v.ownBlock → (v'.ownBlock = v.ownBlock ∨ v'.ownBlock = some w.heap.size) → wpList Try.prog ops Q rest (a.put o.dst v') w') : wpList Try.prog ops Q (o :: rest) a w := by
  refine wpList_plain hgd fun K hK => ?_
  obtain ⟨v', w', hr, h2, h3, h4⟩ := append_string_at w B o.type v n xs hown s hb hB
  unfold Oper.wp execOp
  simp only [ho, resolve, invoke, builtin, Sem.run_bind, Sem.run_pure, Result.andThen_ok, List.map_toArray, List.map_cons, List.map_nil, hs, hx, hr]
  exact hK _ _ (h v' w' h2 h3 h4)

theorem byte_eq {a b : UInt8} : ((a.toNat : Int) == (b.toNat : Int)) = (a == b) := by
  rw [Bool.eq_iff_iff]
  simp [← UInt8.toNat_inj]
  omega

/-- Some slice came back with the spelling's new place; the slice holds the spelling. -/
def Spelled (B : Nat) (pre : List Value) (w : World) (v : Value) (st : List UInt8 × Int) (e : Ending) (w' : World) : Prop :=
  ∃ v', e = .returned (.tuple #[v', .int .i64 st.2]) ∧ Holds B w' v' pre st.1 ∧ Moves w v w' v'

theorem holds_snoc {B : Nat} {w : World} {v : Value} {pre : List Value} {l : List UInt8} {c : UInt8} (h : w.ownsRow B 5 1 v (pre.length + l.length + 1) (pre ++ Lib.byteCells l ++ [.int .u8 (c.toNat : Int)])) (hB : B ≤ w.heap.size) : Holds B w v pre (l ++ [c]) := by
  refine ⟨?_, hB⟩
  have e : pre ++ Lib.byteCells l ++ [.int .u8 (c.toNat : Int)] = pre ++ Lib.byteCells (l ++ [c]) := by simp [Lib.byteCells]
  rw [e] at h
  have e2 : pre.length + (l ++ [c]).length = pre.length + l.length + 1 := by simp; omega
  rw [e2]
  exact h

set_option maxHeartbeats 400000 in
/-- spellByte behind a written spelling. -/
theorem sb_neg (B : Nat) (v : Value) (pre : List Value) (acc : List UInt8) (at' : Int) (h0 : at' < 0) (nm : ByteArray) (c : UInt8) (w : World) (hh : Holds B w v pre acc) (hb : pre.length + acc.length + 1 ≤ 140737488355328) :
    Calls Try.prog 32 #[v, .int .i64 at', .string nm, .int .u8 (c.toNat : Int)] w (Spelled B pre w v (acc ++ [c], at')) := by
  obtain ⟨i0, hi, hz0, hz1, hz2⟩ := info_parts Try.info5
  obtain ⟨hown, hB⟩ := hh
  go_enter Try.func32, Try.ntmps32
  go_wp2_with (at_builtin; refine wpList_append_own_at _ rfl _ _ 23 rfl B 5 i0 (.int .u8 0) 1 1 Try.underlying23 hi hz0 hz1 hz2 rfl (by decide) _ _ _ rfl (hown.alloc _) ⟨w.heap.size, 0, none⟩ 1 1 [.int .u8 (c.toNat : Int)] rfl rfl (cell_one_new _ _ _) (ints_oneCell .u8 [(c.toNat : Int)]) (by unfold maxLen; omega) (by omega) (by simp; omega) ?_; intro v' w1 hown' hgrow hnil hloc)
  go_ret2
  refine ⟨v', rfl, holds_snoc (by simpa using hown') (by have := hgrow.size; simp at this; omega), ?_⟩
  exact ((Moves.refl w v).alloc _).trans (Moves.of_grown hgrow hloc)

set_option maxHeartbeats 400000 in
/-- spellByte where the byte is the name's own next one. -/
theorem sb_hit (v : Value) (k : Nat) (nm : ByteArray) (hk : k < nm.size) (hs : nm.size ≤ 1048576) (c : UInt8) (hc : ((nm[k].toNat : Int) == (c.toNat : Int)) = true) (w : World) :
    Calls Try.prog 32 #[v, .int .i64 (k : Int), .string nm, .int .u8 (c.toNat : Int)] w fun e w' => e = .returned (.tuple #[v, .int .i64 ((k : Int) + 1)]) ∧ w' = w := by
  have hk' : (k : Int) < (nm.size : Int) := by omega
  go_enter Try.func32, Try.ntmps32
  go_wp2
  go_ret2
  exact ⟨rfl, rfl⟩

set_option maxHeartbeats 400000 in
/-- spellByte where the spelling leaves the name. -/
theorem sb_miss (B : Nat) (v : Value) (pre : List Value) (acc : List UInt8) (k : Nat) (nm : ByteArray) (hk : k ≤ nm.size) (c : UInt8) (hc : (h : k < nm.size) → ((nm[k].toNat : Int) == (c.toNat : Int)) = false) (w : World) (hh : Holds B w v pre acc) (hb : pre.length + acc.length + nm.size + 1 ≤ 140737488355328) :
    Calls Try.prog 32 #[v, .int .i64 (k : Int), .string nm, .int .u8 (c.toNat : Int)] w (Spelled B pre w v (acc ++ nm.data.toList.take k ++ [c], -1)) := by
  obtain ⟨i0, hi, hz0, hz1, hz2⟩ := info_parts Try.info5
  obtain ⟨hown, hB⟩ := hh
  have HC : Hid ((h : k < nm.size) → ((nm[k].toNat : Int) == (c.toNat : Int)) = false) := hc
  have hsz : (nm.extract 0 k).size = k := by simp; omega
  have hk' : (k : Int) ≤ (nm.size : Int) := by omega
  clear hc
  by_cases hlt : k < nm.size
  all_goals
    first
      | (have hc := HC.out hlt; have hd : (k : Int) < (nm.size : Int) := by omega)
      | have hd : decide ((k : Int) < (nm.size : Int)) = false := decide_eq_false (by omega)
    go_enter Try.func32, Try.ntmps32
    go_wp2_with (first
      | (at_builtin; refine wpList_append_str _ rfl (.tmp 26) (.tmp 29) rfl B _ _ _ rfl hown (nm.extract 0 k) rfl (by omega) hB ?_; intro v1 w1 hown1 hgrow1 hloc1)
      | (at_builtin; refine wpList_append_own_at _ rfl (.tmp 31) (.tmp 33) 23 rfl B 5 i0 (.int .u8 0) 1 1 Try.underlying23 hi hz0 hz1 hz2 rfl (by decide) _ _ _ rfl (hown1.alloc _) ⟨w1.heap.size, 0, none⟩ 1 1 [.int .u8 (c.toNat : Int)] rfl rfl (cell_one_new _ _ _) (ints_oneCell .u8 [(c.toNat : Int)]) (by unfold maxLen; omega) (by omega) (by have := hgrow1.size; simp; omega) ?_; intro v' w2 hown' hgrow hnil hloc))
    go_ret2
    refine ⟨v', rfl, ?_, (Moves.of_grown hgrow1 hloc1).trans (((Moves.refl w1 v1).alloc _).trans (Moves.of_grown hgrow hloc))⟩
    refine holds_snoc ?_ (by have := hgrow.size; have := hgrow1.size; simp at *; omega)
    have e1 : pre.length + (acc ++ List.take k nm.data.toList).length + 1 = pre.length + acc.length + (nm.extract 0 k).size + 1 := by
      rw [hsz, List.length_append, List.length_take, ← Lib.size_eq]; omega
    have e2 : pre ++ Lib.byteCells (acc ++ List.take k nm.data.toList) ++ [Value.int .u8 (c.toNat : Int)] = pre ++ Lib.byteCells acc ++ Lib.strCells (nm.extract 0 k) ++ [Value.int .u8 (c.toNat : Int)] := by
      rw [strCells_take, Lib.byteCells_append]; simp
    rw [e1, e2]
    exact hown'

/-- spellByte. -/
theorem sb_any (B : Nat) (v : Value) (pre : List Value) (st : List UInt8 × Int) (nm : ByteArray) (h1 : -1 ≤ st.2) (h2 : st.2 ≤ nm.size) (hs : nm.size ≤ 1048576) (c : UInt8) (w : World) (hh : Holds B w v pre st.1) (hb : pre.length + st.1.length + nm.size + 1 ≤ 140737488355328) :
    Calls Try.prog 32 #[v, .int .i64 st.2, .string nm, .int .u8 (c.toNat : Int)] w (Spelled B pre w v (spB nm.data.toList st c)) := by
  obtain ⟨acc, at'⟩ := st
  simp only at h1 h2 hh hb ⊢
  by_cases h0 : 0 ≤ at'
  · obtain ⟨k, rfl⟩ : ∃ k : Nat, at' = k := ⟨at'.toNat, by omega⟩
    have hk : k ≤ nm.size := by omega
    by_cases hit : nm.data.toList[k]? = some c
    · have e : spB nm.data.toList (acc, (k : Int)) c = (acc, (k : Int) + 1) := by
        unfold spB
        simp only [h0, if_true, Int.toNat_natCast, hit]
      rw [e]
      obtain ⟨hlt, hc⟩ := List.getElem?_eq_some_iff.1 hit
      rw [← Lib.size_eq] at hlt
      have hc' : nm[k] = c := hc
      refine (sb_hit v k nm hlt hs c (by rw [hc']; simp) w).mono ?_
      rintro e w' ⟨rfl, rfl⟩
      exact ⟨v, rfl, hh, Moves.refl _ _⟩
    · have e : spB nm.data.toList (acc, (k : Int)) c = (acc ++ nm.data.toList.take k ++ [c], -1) := by
        unfold spB
        simp only [h0, if_true, Int.toNat_natCast, hit, if_false]
      rw [e]
      refine sb_miss B v pre acc k nm hk c (fun hlt => ?_) w hh hb
      rw [byte_eq, beq_eq_false_iff_ne]
      intro hc
      exact hit (List.getElem?_eq_some_iff.2 ⟨by rw [← Lib.size_eq]; exact hlt, hc⟩)
  · have e : spB nm.data.toList (acc, at') c = (acc ++ [c], at') := by
      unfold spB
      simp only [h0, if_false]
    rw [e]
    exact sb_neg B v pre acc at' (by omega) nm c w hh (by omega)

end Go.Proofs.Qxb6000821a
