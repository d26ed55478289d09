/-
  A slice of bytes that grows; zzBytes (23).
-/
import Derived.Test.Qxb6001026aZz
import Derived.Laws.OwnMore
import Derived.Maps.AppendAt
import Derived.Lib.AppendStr
namespace Go.Proofs.Qxb6001026a
open Go.RowKit

/-- The slice lies in a row of its own at block B or behind it, and holds the bytes l. -/
def Hd (B : Nat) (w : World) (v : Value) (l : List UInt8) : Prop := w.ownsRow B 5 1 v l.length (Lib.byteCells l) ∧ B ≤ w.heap.size

/-- What may be appended: nil, or a run of cells that reads M. -/
def Cat (w : World) (sp : Option Addr) (M : List UInt8) : Prop := (sp = none ∧ M = []) ∨ ∃ ad, sp = some ad ∧ ∀ j u, (Lib.byteCells M)[j]? = some u → w.cell? (ad.add j) = some u

theorem byteCells_one (M : List UInt8) : ∀ u ∈ Lib.byteCells M, u.oneCell' = true := fun u hu => by
  obtain ⟨c, _, rfl⟩ := List.mem_map.1 hu
  rfl

theorem Hd.below {B : Nat} {w w' : World} {v : Value} {l : List UInt8} (h : Hd B w v l) (hb : Below w.heap.size w w') : Hd B w' v l := by
  refine ⟨⟨h.1.1, ?_⟩, Nat.le_trans h.2 hb.size⟩
  rcases h.1.2 with ⟨e, hn⟩ | ⟨g, cap, cur, e, hg, hh, r⟩
  · exact .inl ⟨e, hn⟩
  · exact .inr ⟨g, cap, cur, e, hg, (hb.block g (Array.getElem?_eq_some_iff.1 hh).1).trans hh, r⟩

theorem run_append_none {P : Program} (w : World) (base : Nat) (t ty e : TypeId) (i : TypeInfo) (size : Nat) (ht : P.underlying t = some (.slice e)) (hi : P.info? e = some i) (v : Value) (n : Nat) (xs : List Value) (hown : w.ownsRow base e size v n xs) (c : Nat) :
    (Builtin.append_ #[t, t] ty #[v, .slice none 0 c]).run P w = .ok v w := by
  rcases hown.2 with ⟨rfl, rfl⟩ | ⟨g, cap, cur, rfl, _, _, hnc, _⟩
  · simp [Builtin.append_, run_underlying ht, sizeOf, typeInfo, hi, Builtin.lenOf, Builtin.firstCells]
  · simp [Builtin.append_, run_underlying ht, sizeOf, typeInfo, hi, Builtin.lenOf, Builtin.firstCells, hnc, storeCells]

/-- The slice written out, and what appending it reads. -/
theorem Hd.cat {B : Nat} {w : World} {v : Value} {l : List UInt8} (h : Hd B w v l) : ∃ sp c, v = .slice sp l.length c ∧ Cat w sp l ∧ Src w sp c l := by
  rcases h.1.2 with ⟨e, hn⟩ | ⟨g, cap, cur, e, hg, hh, hc, _, _, ht⟩
  · have hl : l = [] := List.eq_nil_of_length_eq_zero hn
    exact ⟨none, 0, by rw [e, hn], .inl ⟨rfl, hl⟩, .inl hl⟩
  · have hcell : ∀ j u, (Lib.byteCells l)[j]? = some u → w.cell? ((⟨g, 0, none⟩ : Addr).add j) = some u := h.1.cells (g := g) (by rw [e]; rfl)
    refine ⟨_, cap, e, .inr ⟨_, rfl, hcell⟩, .inr ⟨hc, g, 0, rfl, (Array.getElem?_eq_some_iff.1 hh).1, fun i d hd => ?_⟩⟩
    have h2 := hcell i (.int .u8 (d.toNat : Int)) (by simp [Lib.byteCells, hd])
    have ea : (⟨g, 0, none⟩ : Addr).add i = ⟨g, 0 + i, none⟩ := by
      unfold Addr.add
      split
      · next h => rw [h]
      · rfl
    rw [ea] at h2
    exact h2

theorem Cat.below {w w' : World} {B : Nat} {sp : Option Addr} {M : List UInt8} (h : Cat w sp M) (hb : Below B w w') (hlt : ∀ ad, sp = some ad → M ≠ [] → ad.block < B) : Cat w' sp M := by
  rcases h with h | ⟨ad, e, hc⟩
  · exact .inl h
  · refine .inr ⟨ad, e, fun j u hu => ?_⟩
    have hM : M ≠ [] := fun hM => by rw [hM] at hu; simp [Lib.byteCells] at hu
    have ea : (ad.add j).block = ad.block := by unfold Addr.add; split <;> rfl
    exact (hb.cell (p := ad.add j) (by rw [ea]; exact hlt ad e hM)).trans (hc j u hu)

theorem cells_at {M : List UInt8} {j : Nat} {u : Value} (h : (Lib.byteCells M)[j]? = some u) : ∃ d, M[j]? = some d ∧ Value.int .u8 (d.toNat : Int) = u := by
  unfold Lib.byteCells at h
  rw [List.getElem?_map] at h
  exact Option.map_eq_some_iff.1 h

/-- The head of a text. -/
theorem Src.cat_take {w : World} {a : Option Addr} {c : Nat} {L : List UInt8} (h : Src w a c L) (p : Nat) : Cat w a (L.take p) := by
  rcases h with rfl | ⟨_, b, o, rfl, _, hl⟩
  · cases a with
    | none => exact .inl ⟨rfl, by simp⟩
    | some ad => exact .inr ⟨ad, rfl, fun j u hu => by simp [Lib.byteCells] at hu⟩
  · refine .inr ⟨_, rfl, fun j u hu => ?_⟩
    obtain ⟨d, hd, rfl⟩ : ∃ d, (L.take p)[j]? = some d ∧ Value.int .u8 (d.toNat : Int) = u := cells_at hu
    have hd2 : L[j]? = some d := by
      rw [List.getElem?_take] at hd
      split at hd
      · exact hd
      · cases hd
    have ea : (⟨b, o, none⟩ : Addr).add j = ⟨b, o + j, none⟩ := by
      unfold Addr.add
      split
      · next h => rw [h]; rfl
      · rfl
    rw [ea]
    exact hl j d hd2

/-- Its tail. -/
theorem Src.cat_drop {w : World} {a : Option Addr} {c : Nat} {L : List UInt8} (h : Src w a c L) (p : Nat) : Cat w (a.map (·.add p)) (L.drop p) := by
  rcases h with rfl | ⟨_, b, o, rfl, _, hl⟩
  · cases a with
    | none => exact .inl ⟨rfl, by simp⟩
    | some ad => exact .inr ⟨ad.add p, rfl, fun j u hu => by simp [Lib.byteCells] at hu⟩
  · refine .inr ⟨_, rfl, fun j u hu => ?_⟩
    obtain ⟨d, hd, rfl⟩ : ∃ d, (L.drop p)[j]? = some d ∧ Value.int .u8 (d.toNat : Int) = u := cells_at hu
    rw [List.getElem?_drop] at hd
    have ea : ((⟨b, o, none⟩ : Addr).add p).add j = ⟨b, o + (p + j), none⟩ := by
      rw [Addr.add_add]
      unfold Addr.add
      split
      · next h => rw [h]; rfl
      · rfl
    rw [ea]
    exact hl (p + j) d hd

theorem cat_empty (w : World) (a : Option Addr) : Cat w a [] := by
  cases a with
  | none => exact .inl ⟨rfl, rfl⟩
  | some ad => exact .inr ⟨ad, rfl, fun j u hu => by simp [Lib.byteCells] at hu⟩

theorem wpList_cat (w : World) {ops : Array Oper} {rest : List Oper} {o : Oper} {a : Act} {Q : Exit → Act → World → Prop} (hgd : o.guard = none) (sl x : Operand)
    (ho : o.op = .call { callee := .builtin .append, args := #[sl, x], argTypes := #[25, 25] }) (w0 : World) (B : Nat) (v : Value) (l : List UInt8) (hs : a.eval sl = v) (hh : Hd B w v l) (sp : Option Addr) (m c : Nat) (M : List UInt8) (hm : m = M.length)
    (hx : a.eval x = .slice sp m c) (hc : Cat w sp M) (hl : l.length + M.length ≤ 16777216) (hb : Below B w0 w)
    (h : ∀ v' w', Hid (Hd B w' v' (l ++ M)) → Hid (Below B w0 w') → wpList Try.prog ops Q rest (a.put o.dst v') w') : wpList Try.prog ops Q (o :: rest) a w := by
  subst hm
  obtain ⟨i, hi, hz0, hz1, hz2⟩ := info_parts Try.info5
  rcases hc with ⟨rfl, rfl⟩ | ⟨ad, rfl, hcell⟩
  · refine wpList_plain hgd fun K hK => ?_
    have hrun := run_append_none (P := Try.prog) w B 25 o.type 5 i 1 Try.underlying25 hi v _ _ hh.1 c
    unfold Oper.wp
    simp [execOp, ho, resolve, invoke, builtin, hs, hx, hrun, Result.andThen]
    exact hK _ _ (h v w (by rw [List.append_nil]; exact hh) hb)
  · refine wpList_append_own_at _ hgd sl x 25 ho B 5 i (.int .u8 0) 1 1 Try.underlying25 hi hz0 hz1 hz2 rfl (by decide) v _ _ hs hh.1 ad M.length c (Lib.byteCells M) hx (by rw [Lib.byteCells_length, Nat.mul_one]) hcell (byteCells_one M) (by unfold maxLen; omega) (by omega) hh.2 ?_
    intro v' w' hown hgrow _ _
    refine h v' w' ⟨by rw [List.length_append, Lib.byteCells_append]; exact hown, Nat.le_trans hh.2 hgrow.size⟩ ⟨hgrow.os.trans hb.os, hgrow.tape.trans hb.tape, hgrow.output.trans hb.output, Nat.le_trans hb.size hgrow.size, fun k hk => ?_⟩
    refine (hgrow.block k (Nat.lt_of_lt_of_le hk hh.2) fun e => ?_).trans (hb.block k hk)
    have := (hh.1.lt k e.symm).1
    omega

/-- One byte, as the literal of one element lays it. -/
theorem cat_one (w : World) (c : UInt8) : Cat (w.alloc (.cells #[.int .u8 (c.toNat : Int)] 5)) (some ⟨w.heap.size, 0, none⟩) [c] := by
  refine .inr ⟨_, rfl, fun j u hu => ?_⟩
  have hj : j = 0 := by
    have := (List.getElem?_eq_some_iff.1 hu).1
    simp [Lib.byteCells] at this
    omega
  subst hj
  have e : u = .int .u8 (c.toNat : Int) := by simpa [Lib.byteCells] using hu.symm
  rw [e]
  simp [Addr.add]

set_option maxHeartbeats 800000 in
theorem zz23 (a0 a1 a2 : Option Addr) (n0 c0 n1 c1 n2 c2 : Nat) (x : Value) (h0 : n0 ≤ 9223372036854775807) (h1 : n1 ≤ 9223372036854775807) (h2 : n2 ≤ 9223372036854775807) (w : World) : Calls Try.prog 23 #[.slice a0 n0 c0, .slice a1 n1 c1, .slice a2 n2 c2, x] w fun e w' => SomeBool e ∧ w' = w := by
  by_cases g0 : n0 ≤ 1048576
  · have g0' : ¬ (1048576 : Int) < (n0 : Int) := by omega
    by_cases g1 : n1 ≤ 1048576
    · have g1' : ¬ (1048576 : Int) < (n1 : Int) := by omega
      by_cases g2 : n0 + n1 ≤ 1048576
      · have g2' : ¬ (1048576 : Int) < (n0 : Int) + (n1 : Int) := by omega
        by_cases g3 : n2 ≤ 1048576
        · have g3' : ¬ (1048576 : Int) < (n2 : Int) := by omega
          by_cases g4 : n0 + n1 + n2 ≤ 1048576
          · have g4' : ¬ (1048576 : Int) < (n0 : Int) + (n1 : Int) + (n2 : Int) := by omega
            go_enter Try.func23, Try.ntmps23
            go_wp2
            go_ret
            exact ⟨⟨_, rfl⟩, rfl⟩
          · have g4' : (1048576 : Int) < (n0 : Int) + (n1 : Int) + (n2 : Int) := by omega
            go_enter Try.func23, Try.ntmps23
            go_wp2
            go_ret
            exact ⟨⟨_, rfl⟩, rfl⟩
        · have g3' : (1048576 : Int) < (n2 : Int) := by omega
          go_enter Try.func23, Try.ntmps23
          go_wp2
          go_ret
          exact ⟨⟨_, rfl⟩, rfl⟩
      · have g2' : (1048576 : Int) < (n0 : Int) + (n1 : Int) := by omega
        go_enter Try.func23, Try.ntmps23
        go_wp2
        go_ret
        exact ⟨⟨_, rfl⟩, rfl⟩
    · have g1' : (1048576 : Int) < (n1 : Int) := by omega
      go_enter Try.func23, Try.ntmps23
      go_wp2
      go_ret
      exact ⟨⟨_, rfl⟩, rfl⟩
  · have g0' : (1048576 : Int) < (n0 : Int) := by omega
    go_enter Try.func23, Try.ntmps23
    go_wp2
    go_ret
    exact ⟨⟨_, rfl⟩, rfl⟩

end Go.Proofs.Qxb6001026a
