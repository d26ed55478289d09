/-
  The plain law, and what stands beside dst's row.
-/
import Derived.Test.Qxb6000821aZa
namespace Go.Proofs.Qxb6000821a
open Go.RowKit

theorem cutE_length {N : List UInt8} {a b : Nat} (h : b ≤ N.length) : (cutE N (a, b)).length = b - a := by
  unfold cutE
  simp
  omega

theorem fine_one {N : List UInt8} {T : UInt8 → UInt8} {sep opn cls : List UInt8} (h1 : sep.length ≤ 1) (h2 : opn.length ≤ 1) (h3 : cls.length ≤ 1) {i a b next : Nat} {br : Bool} (hE : nextE N i = some ((a, b), br, next)) {st : List UInt8 × Int} (h : Fine N st i)
    {st1 : List UInt8 × Int} (e1 : st1 = (if br then spS N st opn else if 0 < i then spS N st sep else st)) {X : List UInt8} (eX : X = cutE N (a, b)) {st3 : List UInt8 × Int} (e3 : st3 = (if (spT N T st1 X br).2 then (spT N T st1 X br).1 else spS N st1 X)) :
    Fine N (if br then spS N st3 cls else st3) next := by
  obtain ⟨na, nb, nc, nd, ne, nf⟩ := nextE_fine hE
  have hX : X.length = b - a := by rw [eX]; exact cutE_length nb
  have hfa : Fine N st1 a := by
    rw [e1]
    cases br with
    | true =>
      simp only [if_true] at nf ⊢
      rw [if_pos nf.1] at ne
      exact fine_mono (fine_spS h (by omega)) (by omega) (by omega)
    | false =>
      simp only [Bool.false_eq_true, if_false]
      by_cases h0 : 0 < i
      · rw [if_pos h0] at ne ⊢
        exact fine_mono (fine_spS h (by omega)) (by omega) (by omega)
      · rw [if_neg h0] at ne ⊢
        exact fine_mono h (by omega) (by omega)
  have hf3 : Fine N st3 b := by
    rw [e3]
    split
    · exact fine_mono (fine_spT hfa (by omega)) (by omega) nb
    · exact fine_mono (fine_spS hfa (by omega)) (by omega) nb
  cases br with
  | true =>
    simp only [if_true] at nf ⊢
    exact fine_mono (fine_spS hf3 (by omega)) (by omega) nc
  | false =>
    simp only [Bool.false_eq_true, if_false] at nf ⊢
    exact fine_mono hf3 (by omega) nc

theorem al_fine {N : List UInt8} {T : UInt8 → UInt8} {sep opn cls : List UInt8} {aw : Bool} (h1 : sep.length ≤ 1) (h2 : opn.length ≤ 1) (h3 : cls.length ≤ 1) :
    ∀ (f : Nat) (st : List UInt8 × Int) (inForm : Bool) (i : Nat), Fine N st i → Fine N (al N T sep opn cls aw f st inForm i).1 N.length
  | 0, st, _, _, h => fine_mono h h.2.2.2 (Nat.le_refl _)
  | f + 1, st, inForm, i, h => by
    cases hE : nextE N i with
    | none =>
      unfold al
      rw [hE]
      exact fine_mono h h.2.2.2 (Nat.le_refl _)
    | some r =>
      obtain ⟨⟨a, b⟩, br, next⟩ := r
      obtain ⟨st1, e1⟩ : ∃ st1, st1 = (if br then spS N st opn else if 0 < i then spS N st sep else st) := ⟨_, rfl⟩
      obtain ⟨X, eX⟩ : ∃ X, X = cutE N (a, b) := ⟨_, rfl⟩
      obtain ⟨st3, e3⟩ : ∃ st3, st3 = (if (spT N T st1 X br).2 then (spT N T st1 X br).1 else spS N st1 X) := ⟨_, rfl⟩
      have h4 := fine_one (T := T) h1 h2 h3 hE h e1 eX e3
      obtain ⟨st4, e4⟩ : ∃ st4, st4 = (if br then spS N st3 cls else st3) := ⟨_, rfl⟩
      rw [← e4] at h4
      rw [al_step hE e1 eX, ← e3, ← e4]
      split
      · exact fine_mono h h.2.2.2 (Nat.le_refl _)
      · split
        · exact fine_mono h4 h4.2.2.2 (Nat.le_refl _)
        · exact al_fine h1 h2 h3 f _ _ _ h4

/-- The answer in plain words. -/
theorem al_plain {nm : ByteArray} {T : UInt8 → UInt8} {sep opn cls : ByteArray} {aw : Bool} (h1 : sep.size ≤ 1) (h2 : opn.size ≤ 1) (h3 : cls.size ≤ 1) {R : (List UInt8 × Int) × Bool}
    (hR : al nm.data.toList T sep.data.toList opn.data.toList cls.data.toList aw (nm.size + 1) ([], 0) true 0 = R) :
    (bodyOf R).length ≤ nm.size ∧ ((sameOf R = true ∧ bodyOf R = [] ∧ 0 ≤ nOf R ∧ nOf R ≤ (nm.size : Int)) ∨ (sameOf R = false ∧ nOf R = ((bodyOf R).length : Int))) := by
  have h := al_fine (T := T) (aw := aw) (sep := sep.data.toList) (opn := opn.data.toList) (cls := cls.data.toList) (by rw [← Lib.size_eq]; exact h1) (by rw [← Lib.size_eq]; exact h2) (by rw [← Lib.size_eq]; exact h3) (nm.size + 1) (([] : List UInt8), (0 : Int)) true 0 (N := nm.data.toList) ⟨by decide, fun _ => rfl, by simp, Nat.zero_le _⟩
  rw [hR, ← Lib.size_eq] at h
  obtain ⟨ha, hb, hc, _⟩ := h
  unfold sameOf bodyOf nOf
  by_cases h0 : 0 ≤ R.1.2
  · simp only [h0, decide_true, if_true, List.length_nil]
    exact ⟨Nat.zero_le _, .inl ⟨trivial, trivial, trivial, by omega⟩⟩
  · simp only [h0, decide_false, if_false]
    exact ⟨by omega, .inr ⟨trivial, trivial⟩⟩

theorem Holds.own {B : Nat} {w : World} {v : Value} {pre : List Value} {l : List UInt8} (h : Holds B w v pre l) {k : Nat} (hk : some k = v.ownBlock) : B ≤ k ∧ k < w.heap.size := by
  refine ⟨?_, h.lt hk⟩
  rcases h.1.2 with ⟨rfl, _⟩ | ⟨g, cap, cur, rfl, hB, hg, _⟩
  · cases hk
  · cases hk
    exact hB

theorem Holds.other {B : Nat} {w w' : World} {v u u' : Value} {pre : List Value} {l : List UInt8} (h : Holds B w v pre l) (hm : Moves w u w' u') (hne : ∀ k, some k = v.ownBlock → some k ≠ u.ownBlock) : Holds B w' v pre l := by
  refine ⟨⟨h.1.1, ?_⟩, Nat.le_trans h.2 hm.size⟩
  rcases h.1.2 with ⟨e, hn⟩ | ⟨g, cap, cur, rfl, hg, hh, r⟩
  · exact .inl ⟨e, hn⟩
  · exact .inr ⟨g, cap, cur, rfl, hg, (hm.block g (Array.getElem?_eq_some_iff.1 hh).1 (hne g rfl)).trans hh, r⟩

/-- A slice that grew leaves what lies below its own row. -/
theorem Moves.below {B : Nat} {w0 w w' : World} {v v' : Value} (hb : Below B w0 w) (hm : Moves w v w' v') (hB : B ≤ w.heap.size) (hv : ∀ k, some k = v.ownBlock → B ≤ k) : Below B w0 w' :=
  ⟨hm.os.trans hb.os, hm.tape.trans hb.tape, hm.output.trans hb.output, Nat.le_trans hb.size hm.size, fun k hk => (hm.block k (by omega) (fun e => by have := hv k e; omega)).trans (hb.block k hk)⟩

end Go.Proofs.Qxb6000821a
