/-
  value (23) where the lexer stands at a quote.
-/
import Derived.Test.Qxb6000614aPlainV
import Derived.Deep.RegionHeld3
import Derived.Deep.OwnRows
namespace Go.Proofs.Qxb6000614a
open Go.RowKit

theorem builder_fresh (w : World) : Lib.IsBuilder 55 5 w.heap.size w.heap.size (Lib.byteCells []) (w.alloc (.cells #[.pointer none, .slice none 0 0] 55)) :=
  .inl ⟨Nat.le_refl _, _, Deep.blk_alloc_new _ _, World.ownsRow_nil _ _ _ _, by simp [Value.ownBlock]⟩

/-- A store below the builder's blocks leaves it as it is. -/
theorem builder_set {T e : TypeId} {B b : Nat} {bs : List Value} {w : World} (h : Lib.IsBuilder T e B b bs w) {a : Addr} (ha : a.block < B) (u : Value) : Lib.IsBuilder T e B b bs (w.setCell a u) := by
  rcases h with ⟨hB, v, hb, hown, hne⟩ | ⟨hB, v, hb, hown, hne⟩
  · exact .inl ⟨hB, v, by rw [Below.heap_setCell _ _ _ _ (by omega)]; exact hb, ownsRow_setCell_below hown ha u, hne⟩
  · exact .inr ⟨hB, v, by rw [Below.heap_setCell _ _ _ _ (by omega)]; exact hb, ownsRow_setCell_below hown ha u, hne⟩

theorem builder_drewN {T e : TypeId} {B b n : Nat} {bs : List Value} {w : World} (h : Lib.IsBuilder T e B b bs w) : Lib.IsBuilder T e B b bs (w.drewN n) := h

theorem builder_drew {T e : TypeId} {B b : Nat} {bs : List Value} {w : World} (h : Lib.IsBuilder T e B b bs w) : Lib.IsBuilder T e B b bs w.drew := h

theorem size_setCell (w : World) (a : Addr) (u : Value) : (w.setCell a u).heap.size = w.heap.size := by simp [World.setCell]

theorem cells_snoc (l : List UInt8) (c : UInt8) : Lib.byteCells l ++ [.int .u8 (c.toNat : Int)] = Lib.byteCells (l ++ [c]) := by simp [Lib.byteCells]

theorem Lex.drew {w : World} {lb : Nat} {s : ByteArray} {i : Int} (h : Lex w lb s i) : Lex w.drew lb s i := h

theorem builder_snoc {T e : TypeId} {B b : Nat} {l : List UInt8} {c : UInt8} {w : World} (h : Lib.BuilderAt T e B b (.pointer (some ⟨b, 0, none⟩)) (Lib.byteCells l ++ [.int .u8 (c.toNat : Int)]) w) : Lib.IsBuilder T e B b (Lib.byteCells (l ++ [c])) w := by
  rw [cells_snoc] at h
  exact .inr h

theorem lexS {w : World} {lb : Nat} {s : ByteArray} {k : Int} (h : Lex w lb s k) : Lex w lb s k ∧ w.cell? ⟨lb, 0, none⟩ = some (.string s) ∧ w.cell? ⟨lb, 1, none⟩ = some (.int .i64 k) := ⟨h, h.c0, h.c1⟩

/-- What value answers at a quote. -/
def QuoteOf (s : ByteArray) (i : Nat) (v : ByteArray) (ok : Bool) (j : Nat) : Prop :=
  (ok = false ∧ v = ByteArray.empty ∧ j = s.size) ∨ (ok = true ∧ i + 2 ≤ j ∧ j ≤ s.size ∧ (∃ h : j - 1 < s.size, (s[j - 1].toNat : Int) = 34) ∧ v.size + i + 2 ≤ j)

set_option maxHeartbeats 2000000 in
set_option maxRecDepth 100000 in
theorem value_quoted (lb : Nat) (s : ByteArray) (i : Nat) (hi : i < s.size) (hs : s.size ≤ 1048576) (hq : ((s[i].toNat : Int) == 34) = true) (w : World) (hx : Lex w lb s i) :
    Calls Try.prog 23 #[.pointer (some ⟨lb, 0, none⟩)] w fun e w' => ∃ (v : ByteArray) (ok : Bool) (j : Nat), QuoteOf s i v ok j ∧ e = .returned (.tuple #[.string v, .bool ok]) ∧ Lex w' lb s j ∧ Below lb w w' := by
  have N : Hid (Calls Try.prog 25 #[.pointer (some ⟨lb, 0, none⟩), .int .u8 34] w fun e w' => e = .returned (.bool true) ∧ Lex w' lb s (i + 1) ∧ Below lb w w') := next_yes lb s i hi hs hq w hx
  clear hx hq
  go_enter Try.func23, Try.ntmps23
  go_wp2_with (go_at_call 25; refine N.out.mono ?_; rintro e w1 ⟨rfl, hx1, hb1⟩; clear N)
  have hlb := hx1.lt
  go_loopg [6] (s.size - (i + 1)) (fun g _ wr => ∃ (k : Nat) (l : List UInt8), i + 1 ≤ k ∧ k ≤ s.size ∧ g = s.size - k ∧ Lex wr lb s k ∧ Below lb w wr ∧ Lib.IsBuilder 55 5 w1.heap.size w1.heap.size (Lib.byteCells l) wr ∧ l.length + i + 1 ≤ k ∧ w1.heap.size ≤ wr.heap.size)
  case atStart => exact ⟨i + 1, [], Nat.le_refl _, hi, rfl, hx1.below ((Below.refl w1.heap.size w1).alloc (Nat.le_refl _) _) hlb, hb1.alloc (by omega) _, builder_fresh w1, by simp, by simp⟩
  case round =>
    obtain ⟨k, l, hik, hks, hg, hx, hbel, hbd, hll, hsz⟩ := hrel
    have HG : Hid (gk = s.size - k) := hg
    have HY : Hid (Lex wr lb s k) := hx
    have HB : Hid (Lib.IsBuilder 55 5 w1.heap.size w1.heap.size (Lib.byteCells l) wr) := hbd
    have c0 := hx.c0
    have c1 := hx.c1
    have f1 := hx.f1
    clear hg hx hbd hx1 hb1
    by_cases hlt : k < s.size
    · have hd : (k : Int) < (s.size : Int) := by omega
      by_cases h34 : (s[k].toNat : Int) = 34
      · have e34 : ((s[k].toNat : Int) == 34) = true := by simpa using h34
        have HQ : Hid ((s[k].toNat : Int) = 34) := h34
        clear h34
        go_wp2
        go_quiet (fail)
        go_wp2
        go_quiet (fail)
        go_wp2_with (go_at_call 27; refine (Try.Builder_String_any w1.heap.size w1.heap.size l _ ?_ ?_).mono ?_)
        · exact builder_set (builder_drewN HB.out) (by exact hlb) _
        · rw [size_setCell]; exact hsz
        rintro e w2 ⟨rfl, hb2⟩
        go_wp2
        go_ret2
        refine ⟨⟨l.toArray⟩, true, k + 1, .inr ⟨rfl, by omega, by omega, ⟨by omega, HQ.out⟩, ?_⟩, rfl, (HY.out.drewN.set _).below hb2 hlb, ((below_drewN hbel).setCell (p := ⟨lb, 1, none⟩) (Nat.le_refl _) _).trans (hb2.mono (by omega))⟩
        show l.length + i + 2 ≤ k + 1
        omega
      · have e34 : ((s[k].toNat : Int) == 34) = false := by simpa using h34
        clear h34
        by_cases h92 : (s[k].toNat : Int) = 92
        · have e92 : ((s[k].toNat : Int) == 92) = true := by simpa using h92
          clear h92
          by_cases hl2 : k + 1 < s.size
          · -- an escaped byte
            have hd2 : (k : Int) + 1 < (s.size : Int) := by omega
            have hp2 : (0 : Int) ≤ (k : Int) + 1 := by omega
            go_wp2
            go_quiet (fail)
            go_wp2
            go_quiet (fail)
            go_wp2
            go_quiet (fail)
            go_wp2
            go_region_held3 (fun w' => Lex w' lb s ((k : Int) + 1) ∧ w'.cell? ⟨lb, 0, none⟩ = some (.string s) ∧ w'.cell? ⟨lb, 1, none⟩ = some (.int .i64 ((k : Int) + 1))) (first | exact lexS (Lex.drew (HY.out.drewN.set _).drewN) | exact lexS (HY.out.drewN.set _).drewN | exact lexS (Lex.below (HY.out.drewN.set _).drewN (by assumption) (by exact hlb)) | exact lexS (Lex.below (Lex.drew (HY.out.drewN.set _).drewN) (by assumption) (by exact hlb)))
              ((go_at_call 28; refine (wb_any w1.heap.size w1.heap.size (Lib.byteCells l) _ _ (by first | exact builder_drewN (builder_set (builder_drewN HB.out) (by exact hlb) _) | exact builder_drew (builder_drewN (builder_set (builder_drewN HB.out) (by exact hlb) _))) (by rw [Lib.byteCells_length]; omega) (by simp; exact hsz)).mono ?_; rintro e w3 ⟨rfl, hbd3, hb3⟩))
            have hx3 : Lex w3 lb s ((k : Int) + 1) := Lex.below (HY.out.drewN.set _).drewN hb3 (by exact hlb)
            have hbw3 : Below lb w w3 := (below_drewN ((below_drewN hbel).setCell (p := ⟨lb, 1, none⟩) (Nat.le_refl _) _)).trans (hb3.mono (by omega))
            have hsz3 : w1.heap.size ≤ w3.heap.size := Nat.le_trans (by simp; exact hsz) hb3.size
            clear hb3 hbel c0 c1 f1
            have c0 := hx3.c0
            have c1 := hx3.c1
            have f1 := hx3.f1
            have HX3 : Hid (Lex w3 lb s ((k : Int) + 1)) := hx3
            clear hx3
            go_wp2
            go_roundg (s.size - (k + 2))
            case measure => rw [HG.out]; omega
            case rel =>
              exact ⟨k + 2, _, by omega, by omega, rfl, HX3.out.set _, hbw3.setCell (p := ⟨lb, 1, none⟩) (Nat.le_refl _) _, builder_set (builder_snoc hbd3) (by exact hlb) _, by simp; omega, by rw [size_setCell]; exact hsz3⟩
          · -- a lone backslash at the end
            have hd2 : decide ((k : Int) + 1 < (s.size : Int)) = false := decide_eq_false (by omega)
            go_wp2
            go_quiet (fail)
            go_wp2
            go_quiet (fail)
            go_wp2
            go_quiet (fail)
            go_wp2_with (go_at_call 28; refine (wb_any w1.heap.size w1.heap.size (Lib.byteCells l) _ _ ?_ ?_ ?_).mono ?_)
            · exact builder_drewN (builder_set (builder_drewN HB.out) (by exact hlb) _)
            · rw [Lib.byteCells_length]; omega
            · simp; exact hsz
            rintro e w3 ⟨rfl, hbd3, hb3⟩
            have hx3 : Lex w3 lb s ((k : Int) + 1) := Lex.below (HY.out.drewN.set _).drewN hb3 (by exact hlb)
            have hbw3 : Below lb w w3 := (below_drewN ((below_drewN hbel).setCell (p := ⟨lb, 1, none⟩) (Nat.le_refl _) _)).trans (hb3.mono (by omega))
            have hsz3 : w1.heap.size ≤ w3.heap.size := Nat.le_trans (by simp; exact hsz) hb3.size
            have HX3 : Hid (Lex w3 lb s ((k : Int) + 1)) := hx3
            clear hb3 hbel c0 c1 f1 hx3
            go_wp2
            go_roundg (s.size - (k + 1))
            case measure => rw [HG.out]; omega
            case rel => exact ⟨k + 1, _, by omega, by omega, rfl, HX3.out, hbw3, builder_snoc hbd3, by simp; omega, hsz3⟩
        · -- another byte
          have e92 : ((s[k].toNat : Int) == 92) = false := by simpa using h92
          clear h92
          go_wp2
          go_quiet (fail)
          go_wp2
          go_quiet (fail)
          go_wp2
          go_quiet (fail)
          go_wp2_with (go_at_call 28; refine (wb_any w1.heap.size w1.heap.size (Lib.byteCells l) _ _ ?_ ?_ ?_).mono ?_)
          · exact builder_drewN (builder_set (builder_drewN HB.out) (by exact hlb) _)
          · rw [Lib.byteCells_length]; omega
          · simp; exact hsz
          rintro e w3 ⟨rfl, hbd3, hb3⟩
          have hx3 : Lex w3 lb s ((k : Int) + 1) := Lex.below (HY.out.drewN.set _).drewN hb3 (by exact hlb)
          have hbw3 : Below lb w w3 := (below_drewN ((below_drewN hbel).setCell (p := ⟨lb, 1, none⟩) (Nat.le_refl _) _)).trans (hb3.mono (by omega))
          have hsz3 : w1.heap.size ≤ w3.heap.size := Nat.le_trans (by simp; exact hsz) hb3.size
          have HX3 : Hid (Lex w3 lb s ((k : Int) + 1)) := hx3
          clear hb3 hbel c0 c1 f1 hx3
          go_wp2
          go_roundg (s.size - (k + 1))
          case measure => rw [HG.out]; omega
          case rel => exact ⟨k + 1, _, by omega, by omega, rfl, HX3.out, hbw3, builder_snoc hbd3, by simp; omega, hsz3⟩
    · -- the end
      have hd : decide ((k : Int) < (s.size : Int)) = false := by simpa using hlt
      go_wp2
      go_quiet (fail)
      go_wp2
      go_ret2
      exact ⟨_, _, k, .inl ⟨rfl, rfl, by omega⟩, rfl, HY.out.drewN, below_drewN hbel⟩

end Go.Proofs.Qxb6000614a
