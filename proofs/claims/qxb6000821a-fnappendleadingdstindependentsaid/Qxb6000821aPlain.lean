/-
  The plain functions: what spellByte, spellString, spellText, nextElement and appendLeading reckon, over lists of bytes.
  A spelling under way: (what has been written behind dst's own bytes, at).
-/
import Derived.Lib.Bytealg
import Derived.Lib.IndexLaws
namespace Go.Proofs.Qxb6000821a

/-- spellByte. -/
def spB (N : List UInt8) (st : List UInt8 × Int) (c : UInt8) : List UInt8 × Int :=
  if 0 ≤ st.2 then (if N[st.2.toNat]? = some c then (st.1, st.2 + 1) else (st.1 ++ N.take st.2.toNat ++ [c], -1)) else (st.1 ++ [c], st.2)

/-- spellString. -/
def spS (N : List UInt8) (st : List UInt8 × Int) (s : List UInt8) : List UInt8 × Int := s.foldl (spB N) st

/-- A spelling that keeps its bounds: at is -1 or a place, nothing written while it is a place, and no more than p bytes spelled. -/
def Fine (N : List UInt8) (st : List UInt8 × Int) (p : Nat) : Prop := -1 ≤ st.2 ∧ (0 ≤ st.2 → st.1 = []) ∧ st.1.length + st.2.toNat ≤ p ∧ p ≤ N.length

theorem fine_spB {N : List UInt8} {st : List UInt8 × Int} {p : Nat} (h : Fine N st p) (hp : p + 1 ≤ N.length) (c : UInt8) : Fine N (spB N st c) (p + 1) := by
  obtain ⟨h1, h2, h3, h4⟩ := h
  unfold spB
  split
  · rename_i h0
    have e := h2 h0
    split
    · refine ⟨by show -1 ≤ st.2 + 1; omega, fun _ => e, ?_, hp⟩
      show st.1.length + (st.2 + 1).toNat ≤ p + 1
      omega
    · refine ⟨by show (-1 : Int) ≤ -1; omega, fun h => by (have h' : (0 : Int) ≤ -1 := h); omega, ?_, hp⟩
      show (st.1 ++ N.take st.2.toNat ++ [c]).length + (-1 : Int).toNat ≤ p + 1
      simp
      omega
  · rename_i h0
    refine ⟨h1, fun h => absurd h h0, ?_, hp⟩
    show (st.1 ++ [c]).length + st.2.toNat ≤ p + 1
    simp
    omega

theorem fine_mono {N : List UInt8} {st : List UInt8 × Int} {p q : Nat} (h : Fine N st p) (hq : p ≤ q) (hN : q ≤ N.length) : Fine N st q :=
  ⟨h.1, h.2.1, Nat.le_trans h.2.2.1 hq, hN⟩

theorem fine_spS {N : List UInt8} : ∀ {s : List UInt8} {st : List UInt8 × Int} {p : Nat}, Fine N st p → p + s.length ≤ N.length → Fine N (spS N st s) (p + s.length)
  | [], _, _, h, _ => h
  | c :: s, st, p, h, hp => by
    have h1 := fine_spB h (by simp at hp; omega) c
    have h2 := fine_spS (s := s) h1 (by simp at hp; omega)
    simpa [spS, Nat.add_assoc, Nat.add_comm 1] using h2

/-- Behind a written spelling all is appended. -/
theorem spB_grows {N : List UInt8} {st : List UInt8 × Int} (h : st.2 < 0) (c : UInt8) : spB N st c = (st.1 ++ [c], st.2) := by
  unfold spB
  rw [if_neg (by omega)]

/-- isDigits. -/
def digs (s : List UInt8) : Bool := !s.isEmpty && s.all (fun c => 48 ≤ c && c ≤ 57)

/-- Does the form spell t as itself? -/
def same1 (T : UInt8 → UInt8) (t : UInt8) : Bool := T t == t && !(t == 0)

/-- How many characters at the head the form spells as themselves. -/
def preN (T : UInt8 → UInt8) (s : List UInt8) : Nat := (s.takeWhile (same1 T)).length

theorem preN_le (T : UInt8 → UInt8) (s : List UInt8) : preN T s ≤ s.length := by
  unfold preN
  exact List.Sublist.length_le (List.takeWhile_sublist _)

/-- spellText's second loop. -/
def spR (N : List UInt8) (T : UInt8 → UInt8) : List UInt8 → (List UInt8 × Int) → Bool → (List UInt8 × Int) × Bool
  | [], st, wrote => (st, wrote)
  | t :: r, st, wrote => if T t = 255 then (st, false) else if T t = 0 then spR N T r st wrote else spR N T r (spB N st (T t)) true

/-- Where spellText's second loop begins, and with what. -/
def spJ (T : UInt8 → UInt8) (st : List UInt8 × Int) (s : List UInt8) : Nat := if 0 ≤ st.2 then preN T s else 0

/-- spellText. -/
def spT (N : List UInt8) (T : UInt8 → UInt8) (st : List UInt8 × Int) (s : List UInt8) (br : Bool) : (List UInt8 × Int) × Bool :=
  if br then (if digs s then (spS N st s, true) else (st, false))
  else spR N T (s.drop (spJ T st s)) (st.1, st.2 + spJ T st s) (decide (0 < spJ T st s))

theorem fine_spR {N : List UInt8} {T : UInt8 → UInt8} : ∀ {s : List UInt8} {st : List UInt8 × Int} {wrote : Bool} {p : Nat}, Fine N st p → p + s.length ≤ N.length → Fine N (spR N T s st wrote).1 (p + s.length)
  | [], _, _, _, h, _ => h
  | t :: r, st, wrote, p, h, hp => by
    have hp' : p + 1 + r.length ≤ N.length := by simp at hp; omega
    have e : p + (t :: r).length = p + 1 + r.length := by simp; omega
    rw [e]
    unfold spR
    split
    · exact fine_mono h (by omega) hp'
    · split
      · exact fine_spR (fine_mono h (by omega) (by omega)) hp'
      · exact fine_spR (fine_spB h (by omega) _) hp'

theorem spJ_le (T : UInt8 → UInt8) (st : List UInt8 × Int) (s : List UInt8) : spJ T st s ≤ s.length := by
  unfold spJ
  split
  · exact preN_le T s
  · omega

theorem fine_spJ {N : List UInt8} {T : UInt8 → UInt8} {s : List UInt8} {st : List UInt8 × Int} {p : Nat} (h : Fine N st p) (hp : p + s.length ≤ N.length) : Fine N (st.1, st.2 + spJ T st s) (p + spJ T st s) := by
  have hj := spJ_le T st s
  obtain ⟨h1, h2, h3, h4⟩ := h
  by_cases h0 : 0 ≤ st.2
  · refine ⟨by show -1 ≤ st.2 + _; omega, fun _ => h2 h0, ?_, by omega⟩
    show st.1.length + (st.2 + (spJ T st s : Int)).toNat ≤ _
    omega
  · have e : spJ T st s = 0 := by unfold spJ; rw [if_neg h0]
    rw [e]
    refine ⟨by show -1 ≤ st.2 + _; simpa using h1, fun h => absurd h (by show ¬ 0 ≤ st.2 + ((0 : Nat) : Int); simpa using h0), ?_, by omega⟩
    show st.1.length + (st.2 + ((0 : Nat) : Int)).toNat ≤ p + 0
    simpa using h3

theorem fine_spT {N : List UInt8} {T : UInt8 → UInt8} {s : List UInt8} {st : List UInt8 × Int} {br : Bool} {p : Nat} (h : Fine N st p) (hp : p + s.length ≤ N.length) : Fine N (spT N T st s br).1 (p + s.length) := by
  unfold spT
  split
  · split
    · exact fine_spS h hp
    · exact fine_mono h (by omega) hp
  · have hj := spJ_le T st s
    have h1 := fine_spJ (T := T) (s := s) h hp
    have h2 := fine_spR (T := T) (s := s.drop (spJ T st s)) (wrote := decide (0 < spJ T st s)) h1 (by simp; omega)
    have e : p + spJ T st s + (s.drop (spJ T st s)).length = p + s.length := by simp; omega
    rw [e] at h2
    exact h2

/-- Does an element's text end at c? -/
def stopE (c : UInt8) : Bool := c == 46 || c == 91

/-- How many characters from start on are an element's. -/
def runE (N : List UInt8) (start : Nat) : Nat := ((N.drop start).takeWhile (fun c => !stopE c)).length

/-- Where an element that starts at i begins its text. -/
def stE (i : Nat) : Nat := if 0 < i then i + 1 else i

/-- nextElement: where its text lies (from a to b), whether it is in brackets, where the next one starts. -/
def nextE (N : List UInt8) (i : Nat) : Option ((Nat × Nat) × Bool × Nat) :=
  if N.length ≤ i then none
  else if 0 < i ∧ N[i]? = some 91 then
    (if Lib.indexByte (N.drop (i + 1)) 93 ≤ 0 then none
     else some ((i + 1, i + 1 + (Lib.indexByte (N.drop (i + 1)) 93).toNat), true, i + 1 + (Lib.indexByte (N.drop (i + 1)) 93).toNat + 1))
  else if 0 < i ∧ N[i]? ≠ some 46 then none
  else if runE N (stE i) = 0 then none
  else some ((stE i, stE i + runE N (stE i)), false, stE i + runE N (stE i))

/-- The bytes from a to b. -/
def cutE (N : List UInt8) (r : Nat × Nat) : List UInt8 := (N.drop r.1).take (r.2 - r.1)

/-- appendLeading's loop: the spelling at its end, and whether it is all of the name. -/
def al (N : List UInt8) (T : UInt8 → UInt8) (sep opn cls : List UInt8) (aw : Bool) : Nat → (List UInt8 × Int) → Bool → Nat → (List UInt8 × Int) × Bool
  | 0, st, _, _ => (st, false)
  | f + 1, st, inForm, i =>
    match nextE N i with
    | none => (st, false)
    | some (r, br, next) =>
      let st1 := if br then spS N st opn else if 0 < i then spS N st sep else st
      let t := spT N T st1 (cutE N r) br
      if !t.2 && !aw then (st, false)
      else
        let st3 := if t.2 then t.1 else spS N st1 (cutE N r)
        let st4 := if br then spS N st3 cls else st3
        if next = N.length then (st4, inForm && t.2) else al N T sep opn cls aw f st4 (inForm && t.2) next

theorem runE_le (N : List UInt8) (start : Nat) : runE N start ≤ N.length - start := by
  unfold runE
  have h := List.Sublist.length_le (List.takeWhile_sublist (l := N.drop start) (fun c => !stopE c))
  simpa using h

/-- What nextElement's answer keeps. -/
theorem nextE_fine {N : List UInt8} {i a b next : Nat} {br : Bool} (h : nextE N i = some ((a, b), br, next)) :
    a < b ∧ b ≤ N.length ∧ next ≤ N.length ∧ i < next ∧ (if 0 < i then a = i + 1 else a = i) ∧ (if br then 0 < i ∧ next = b + 1 else next = b) := by
  unfold nextE at h
  split at h
  · cases h
  rename_i hi
  split at h
  · rename_i hb
    split at h
    · cases h
    rename_i hx
    simp only [Option.some.injEq, Prod.mk.injEq] at h
    obtain ⟨⟨rfl, rfl⟩, rfl, rfl⟩ := h
    have hge := Lib.indexByte_ge (N.drop (i + 1)) 93
    have e2 : Lib.indexByte (N.drop (i + 1)) 93 = ((Lib.indexByte (N.drop (i + 1)) 93).toNat : Int) := by omega
    obtain ⟨h1, _⟩ := Lib.indexByte_some e2
    have hl := (List.getElem?_eq_some_iff.1 h1).1
    rw [List.length_drop] at hl
    refine ⟨by omega, by omega, by omega, by omega, by rw [if_pos hb.1], by simp; exact hb.1⟩
  · split at h
    · cases h
    split at h
    · cases h
    rename_i hr
    have hl := runE_le N (stE i)
    simp only [Option.some.injEq, Prod.mk.injEq] at h
    obtain ⟨⟨rfl, rfl⟩, rfl, rfl⟩ := h
    have hs : i ≤ stE i := by unfold stE; split <;> omega
    refine ⟨by omega, by omega, by omega, by omega, ?_, by simp⟩
    unfold stE
    split <;> rfl

/-! ### What is written stays ahead of what is written later -/
theorem pre_spB {N : List UInt8} {st : List UInt8 × Int} (c : UInt8) : st.1 <+: (spB N st c).1 := by
  unfold spB
  split
  · split
    · exact List.prefix_refl _
    · show st.1 <+: st.1 ++ N.take st.2.toNat ++ [c]
      rw [List.append_assoc]
      exact List.prefix_append _ _
  · exact List.prefix_append _ _

theorem pre_spS {N : List UInt8} : ∀ {s : List UInt8} {st : List UInt8 × Int}, st.1 <+: (spS N st s).1
  | [], _ => List.prefix_refl _
  | c :: s, st => (pre_spB c).trans (pre_spS (s := s) (st := spB N st c))

theorem pre_spR {N : List UInt8} {T : UInt8 → UInt8} : ∀ {s : List UInt8} {st : List UInt8 × Int} {wrote : Bool}, st.1 <+: (spR N T s st wrote).1.1
  | [], _, _ => List.prefix_refl _
  | t :: r, st, wrote => by
    unfold spR
    split
    · exact List.prefix_refl _
    · split
      · exact pre_spR
      · exact (pre_spB (T t)).trans pre_spR

theorem pre_spT {N : List UInt8} {T : UInt8 → UInt8} {st : List UInt8 × Int} {s : List UInt8} {br : Bool} : st.1 <+: (spT N T st s br).1.1 := by
  unfold spT
  split
  · split
    · exact pre_spS
    · exact List.prefix_refl _
  · exact pre_spR (st := (st.1, st.2 + spJ T st s))

theorem take_of_pre {l m : List UInt8} (h : l <+: m) : m.take l.length = l := by
  obtain ⟨r, rfl⟩ := h
  exact List.take_left

/-- One round. -/
theorem al_step {N : List UInt8} {T : UInt8 → UInt8} {sep opn cls : List UInt8} {aw : Bool} {f : Nat} {st : List UInt8 × Int} {inForm : Bool} {i : Nat} {r : Nat × Nat} {br : Bool} {next : Nat} (h : nextE N i = some (r, br, next)) {st1 : List UInt8 × Int} (h1 : st1 = (if br then spS N st opn else if 0 < i then spS N st sep else st)) {X : List UInt8} (hX : X = cutE N r) :
    al N T sep opn cls aw (f + 1) st inForm i = (if !(spT N T st1 X br).2 && !aw then (st, false)
      else if next = N.length then ((if br then spS N (if (spT N T st1 X br).2 then (spT N T st1 X br).1 else spS N st1 X) cls else (if (spT N T st1 X br).2 then (spT N T st1 X br).1 else spS N st1 X)), inForm && (spT N T st1 X br).2)
      else al N T sep opn cls aw f (if br then spS N (if (spT N T st1 X br).2 then (spT N T st1 X br).1 else spS N st1 X) cls else (if (spT N T st1 X br).2 then (spT N T st1 X br).1 else spS N st1 X)) (inForm && (spT N T st1 X br).2) next) := by
  subst h1 hX
  conv => lhs; unfold al
  rw [h]

end Go.Proofs.Qxb6000821a
