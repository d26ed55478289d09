/-
  The form in memory; spellText (30).
-/
import Derived.Test.Qxb6000821aSpell
import Derived.Deep.QuietTactic
import Derived.BigQuiet
import Derived.Deep.OwnRows
namespace Go.Proofs.Qxb6000821a
open Go.RowKit

/-- Block bf holds a form: its table, its separator, its brackets. -/
def Form (w : World) (bf : Nat) (T : UInt8 → UInt8) (sep opn cls : ByteArray) : Prop :=
  ∃ X : Array Value, w.heap[bf]? = some (.cells X 40 (0, 0)) ∧ (∀ c : UInt8, X[c.toNat]? = some (.int .u8 ((T c).toNat : Int))) ∧ X[256]? = some (.string sep) ∧ X[257]? = some (.string opn) ∧ X[258]? = some (.string cls)

theorem Form.cell {w : World} {bf : Nat} {T : UInt8 → UInt8} {sep opn cls : ByteArray} (h : Form w bf T sep opn cls) (c : UInt8) : w.cell? ⟨bf, c.toNat, none⟩ = some (.int .u8 ((T c).toNat : Int)) := by
  obtain ⟨X, hb, hc, _⟩ := h
  simp [World.cell?, hb, hc c]
theorem Form.sep {w : World} {bf : Nat} {T : UInt8 → UInt8} {sep opn cls : ByteArray} (h : Form w bf T sep opn cls) : w.cell? ⟨bf, 256, none⟩ = some (.string sep) := by
  obtain ⟨X, hb, _, h1, _⟩ := h
  simp [World.cell?, hb, h1]
theorem Form.opn {w : World} {bf : Nat} {T : UInt8 → UInt8} {sep opn cls : ByteArray} (h : Form w bf T sep opn cls) : w.cell? ⟨bf, 257, none⟩ = some (.string opn) := by
  obtain ⟨X, hb, _, _, h1, _⟩ := h
  simp [World.cell?, hb, h1]
theorem Form.cls {w : World} {bf : Nat} {T : UInt8 → UInt8} {sep opn cls : ByteArray} (h : Form w bf T sep opn cls) : w.cell? ⟨bf, 258, none⟩ = some (.string cls) := by
  obtain ⟨X, hb, _, _, _, h1⟩ := h
  simp [World.cell?, hb, h1]
theorem Form.lt {w : World} {bf : Nat} {T : UInt8 → UInt8} {sep opn cls : ByteArray} (h : Form w bf T sep opn cls) : bf < w.heap.size := by
  obtain ⟨X, hb, _⟩ := h
  exact (Array.getElem?_eq_some_iff.1 hb).1
theorem Form.of_block {w w' : World} {bf : Nat} {T : UInt8 → UInt8} {sep opn cls : ByteArray} (h : Form w bf T sep opn cls) (e : w'.heap[bf]? = w.heap[bf]?) : Form w' bf T sep opn cls := by
  obtain ⟨X, hb, r⟩ := h
  exact ⟨X, e.trans hb, r⟩

/-- The slice's own row is a block that is there. -/
theorem Holds.lt {B : Nat} {w : World} {v : Value} {pre : List Value} {l : List UInt8} (h : Holds B w v pre l) {k : Nat} (hk : some k = v.ownBlock) : k < w.heap.size := by
  rcases h.1.2 with ⟨rfl, _⟩ | ⟨g, cap, cur, rfl, _, hg, _⟩
  · cases hk
  · cases hk
    exact (Array.getElem?_eq_some_iff.1 hg).1

/-- A block of another type is not the slice's own row. -/
theorem Holds.ne {B : Nat} {w : World} {v : Value} {pre : List Value} {l : List UInt8} (h : Holds B w v pre l) {k : Nat} {X : Array Value} {t : TypeId} {fr : Nat × Nat} (hb : w.heap[k]? = some (.cells X t fr)) (ht : t ≠ 5) : some k ≠ v.ownBlock := by
  intro hk
  rcases h.1.2 with ⟨rfl, _⟩ | ⟨g, cap, cur, rfl, _, hg, _⟩
  · cases hk
  · cases hk
    rw [hg] at hb
    simp at hb
    exact ht hb.2.1.symm

theorem Holds.form_ne {B : Nat} {w : World} {v : Value} {pre : List Value} {l : List UInt8} (h : Holds B w v pre l) {bf : Nat} {T : UInt8 → UInt8} {sep opn cls : ByteArray} (hf : Form w bf T sep opn cls) : some bf ≠ v.ownBlock := by
  obtain ⟨X, hb, _⟩ := hf
  exact h.ne hb (by decide)

theorem Form.moves {w w' : World} {v v' : Value} {bf : Nat} {T : UInt8 → UInt8} {sep opn cls : ByteArray} (h : Form w bf T sep opn cls) (hm : Moves w v w' v') (hne : some bf ≠ v.ownBlock) : Form w' bf T sep opn cls := h.of_block (hm.block bf h.lt hne)

theorem Holds.alloc {B : Nat} {w : World} {v : Value} {pre : List Value} {l : List UInt8} (h : Holds B w v pre l) (o : Obj) : Holds B (w.alloc o) v pre l := ⟨h.1.alloc o, by have := h.2; simp; omega⟩
theorem Holds.drewN {B : Nat} {w : World} {v : Value} {pre : List Value} {l : List UInt8} (h : Holds B w v pre l) (n : Nat) : Holds B (w.drewN n) v pre l := h
theorem Form.drewN {w : World} {bf : Nat} {T : UInt8 → UInt8} {sep opn cls : ByteArray} (h : Form w bf T sep opn cls) (n : Nat) : Form (w.drewN n) bf T sep opn cls := h

/-- Some slice came back with the spelling's new place and a word whether it went. -/
def SpelledT (B : Nat) (pre : List Value) (w : World) (v : Value) (r : (List UInt8 × Int) × Bool) (e : Ending) (w' : World) : Prop :=
  ∃ v', e = .returned (.tuple #[v', .int .i64 r.1.2, .bool r.2]) ∧ Holds B w' v' pre r.1.1 ∧ Moves w v w' v'

theorem ret_t {v : Value} {r r' : (List UInt8 × Int) × Bool} (h : r = r') : Ending.returned (.tuple #[v, .int .i64 r'.1.2, .bool r'.2]) = .returned (.tuple #[v, .int .i64 r.1.2, .bool r.2]) := by rw [h]

set_option maxHeartbeats 1000000 in
/-- spellText at an element in brackets. -/
theorem st_bracket (B : Nat) (bf : Nat) (v : Value) (pre : List Value) (st : List UInt8 × Int) (nm text : ByteArray) (T : UInt8 → UInt8) (p : Nat) (hf : Fine nm.data.toList st p) (hp : p + text.size ≤ nm.size) (hs : nm.size ≤ 1048576) (hpre : pre.length ≤ 1048576) (w : World) (hh : Holds B w v pre st.1) :
    Calls Try.prog 30 #[.pointer (some ⟨bf, 0, none⟩), v, .int .i64 st.2, .string nm, .agg #[.string text, .bool true]] w (SpelledT B pre w v (spT nm.data.toList T st text.data.toList true)) := by
  have D : ∀ w, Calls Try.prog 33 #[.string text] w fun e w' => e = .returned (.bool (digs text.data.toList)) ∧ w' = w := fun w => dig_any text (by omega) w
  have HS : Hid (Calls Try.prog 29 #[v, .int .i64 st.2, .string nm, .string text] (w.alloc (.cells #[.string text, .bool true] 45)) (Spelled B pre (w.alloc (.cells #[.string text, .bool true] 45)) v (spS nm.data.toList st text.data.toList))) := ss_any B v pre st nm text p hf hp hs hpre _ (hh.alloc _)
  have HH : Hid (Holds B w v pre st.1) := hh
  clear hf hh
  cases hd : digs text.data.toList
  · rw [hd] at D
    have HE : Hid (spT nm.data.toList T st text.data.toList true = (st, false)) := by show _ = _; unfold spT; rw [if_pos rfl, hd]; rfl
    have HD : Hid (∀ w, Calls Try.prog 33 #[.string text] w fun e w' => e = .returned (.bool false) ∧ w' = w) := D
    clear D hd
    go_enter Try.func30, Try.ntmps30
    go_wp2_with (go_at_call 33; refine (HD.out _).mono ?_; rintro e w' ⟨rfl, hw⟩; obtain rfl := hw.symm)
    go_ret3
    refine ⟨v, ret_t HE.out, ?_, (Moves.refl w v).alloc _⟩
    rw [HE.out]
    exact HH.out.alloc _
  · rw [hd] at D
    have HE : Hid (spT nm.data.toList T st text.data.toList true = (spS nm.data.toList st text.data.toList, true)) := by show _ = _; unfold spT; rw [if_pos rfl, hd]; rfl
    have HD : Hid (∀ w, Calls Try.prog 33 #[.string text] w fun e w' => e = .returned (.bool true) ∧ w' = w) := D
    clear D hd
    go_enter Try.func30, Try.ntmps30
    go_wp2_with (first | (go_at_call 33; refine (HD.out _).mono ?_; rintro e w' ⟨rfl, hw⟩; obtain rfl := hw.symm) | (go_at_call 29; refine HS.out.mono ?_; rintro e w1 ⟨v1, rfl, hh1, hm1⟩))
    go_ret3
    refine ⟨v1, ret_t HE.out, ?_, ((Moves.refl w v).alloc _).trans hm1⟩
    rw [HE.out]
    exact hh1

end Go.Proofs.Qxb6000821a
