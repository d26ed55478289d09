/-
  The plain laws on maps as read: a map filled, in whatever order, with those entries of another that pass a test.
-/
import Derived.Maps.Ext
namespace Go.Proofs.Qxb6000019a
open Go.Maps

/-- Dout holds just those entries of D0 that are no longer to come and pass p. -/
def Filt (p : Lit → Bool) (Dout D0 : DataW Unit) (left : Lit → Bool) : Prop := (∀ k, has Dout k = (has D0 k && !left k && p k)) ∧ ∀ k z, has Dout k = true → Dout.atKey k z = D0.atKey k z

theorem filt_start (p : Lit → Bool) (D0 : DataW Unit) : Filt p (.map []) D0 (has D0) := ⟨fun k => by cases has D0 k <;> rfl, fun k z h => by cases h⟩

theorem filt_put {p : Lit → Bool} {Dout D0 : DataW Unit} {left : Lit → Bool} {kl : Lit} {d : DataW Unit} (hA : Filt p Dout D0 left) (hm : IsMap Dout) (hk : WideAt.IsKeyLit kl) (hat : ∀ zd, D0.atKey kl zd = d) (hp : p kl = true) :
    Filt p (Dout.put kl d) D0 (fun z => left z && !z.sameKey kl) := by
  refine ⟨fun k => ?_, fun k z h => ?_⟩
  · by_cases e : k = kl
    · subst e
      show has (Dout.put k d) k = (has D0 k && !(left k && !k.sameKey k) && p k)
      rw [has_put_same hm hk, has_true_of_atKey hat, WideAt.sameKey_self hk, hp]
      simp
    · show has (Dout.put kl d) k = (has D0 k && !(left k && !k.sameKey kl) && p k)
      rw [has_put_other e, hA.1 k, sameKey_ne e]
      simp
  · by_cases e : k = kl
    · subst e
      rw [atKey_put_same hm hk, hat]
    · rw [has_put_other e] at h
      rw [atKey_put_other e, hA.2 k z h]

theorem filt_skip {p : Lit → Bool} {Dout D0 : DataW Unit} {left : Lit → Bool} {kl : Lit} (hA : Filt p Dout D0 left) (hp : p kl = false) :
    Filt p Dout D0 (fun z => left z && !z.sameKey kl) := by
  refine ⟨fun k => ?_, hA.2⟩
  show has Dout k = (has D0 k && !(left k && !k.sameKey kl) && p k)
  by_cases e : k = kl
  · subst e
    rw [hA.1 k, hp]
    simp
  · rw [hA.1 k, sameKey_ne e]
    simp

/-- D' is D0 less the entries that do not pass p. -/
def Kept (p : Lit → Bool) (D' D0 : DataW Unit) : Prop := (∀ k, has D' k = (has D0 k && p k)) ∧ ∀ k z, has D' k = true → D'.atKey k z = D0.atKey k z

theorem filt_end {p : Lit → Bool} {Dout D0 : DataW Unit} {left : Lit → Bool} (hA : Filt p Dout D0 left) (hl : ∀ k, left k = false) : Kept p Dout D0 :=
  ⟨fun k => by rw [hA.1, hl]; simp, hA.2⟩

/-- If every entry passes, nothing is left out. -/
theorem kept_all {p : Lit → Bool} {D' D0 : DataW Unit} (h : Kept p D' D0) (hp : ∀ k, has D0 k = true → p k = true) (c1 : Canon D') (c0 : Canon D0) : D' = D0 :=
  ext c1 c0 (fun k => by
    rw [h.1 k]
    cases e : has D0 k
    · rfl
    · rw [hp k e]; rfl) h.2

/-- An absent key's element is whatever is asked for; a present one's does not hang on it. -/
theorem atKey_any {D : DataW Unit} {k : Lit} (h : has D k = true) (z z' : DataW Unit) : D.atKey k z = D.atKey k z' := by
  cases D <;> simp only [has, Bool.false_eq_true] at h
  rename_i es
  obtain ⟨p, hp, hs⟩ := List.any_eq_true.1 h
  obtain ⟨x, hx⟩ := Option.isSome_iff_exists.1 ((List.find?_isSome (p := fun p : Lit × DataW Unit => p.1.sameKey k)).2 ⟨p, hp, hs⟩)
  simp only [DataW.atKey, hx]

end Go.Proofs.Qxb6000019a
