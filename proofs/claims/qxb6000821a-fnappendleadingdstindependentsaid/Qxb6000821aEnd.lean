/-
  The statement: from the walks to the row.
-/
import Derived.Test.Qxb6000821aMain
import Derived.ProofKit
import Derived.OpenShut
import Derived.ShutString
import Derived.ChangeOld
import Derived.Below
namespace Go.Proofs.Qxb6000821a
open Go.ChangeShapes Go.WideShapes Go.ChangeAt Go.RowKit
open Go.ChangeMaps (open_string shut_string)

theorem own : ownKnob Try.prog.godebug = none := by kernel_rfl
theorem laidOut : laidOutB Try.prog = true := by kernel_rfl

theorem byte_of {a : Int} (h : (Lit.int .u8 a).wf = true) : ∃ c : UInt8, (c.toNat : Int) = a := by
  have hb := bounds_u8 h
  refine ⟨UInt8.ofNat a.toNat, ?_⟩
  rw [UInt8.toNat_ofNat']
  omega

theorem table_of {H : Type} {enc : TypeId × Value → H} {W : World} {base : Nat} {spare : Nat → Bool} {held : Bool} {cs : Array Value} {d : DataW H} {p : List MemPlace} (h : DataW.Trod enc Try.prog W base spare held 22 (.agg cs) d p) :
    ∃ T : UInt8 → UInt8, ∀ c : UInt8, cs[c.toNat]? = some (.int .u8 ((T c).toNat : Int)) := by
  have hc : ∀ c : UInt8, ∃ u : UInt8, cs[c.toNat]? = some (.int .u8 (u.toNat : Int)) := by
    intro c
    obtain ⟨fuel, hf⟩ := h
    obtain ⟨xs, m, _, _, _, hl, hx⟩ := DataW.trod_array Try.underlying22 hf
    have hlt : c.toNat < 256 := c.toNat_lt
    have h1 := hx c.toNat hlt
    rw [show Try.prog.cellsOf 5 = 1 by kernel_rfl, Nat.mul_one, List.getElem?_eq_getElem (by omega)] at h1
    obtain ⟨a, ea, _, wa⟩ := DataW.trod_int Try.underlying5 h1
    obtain ⟨u, hu⟩ := byte_of wa
    refine ⟨u, ?_⟩
    rw [hu]
    have e2 : (cs.toList.drop c.toNat).take 1 = [.int .u8 a] := ea
    have e3 : (cs.toList.drop c.toNat)[0]? = some (.int .u8 a) := by
      have := congrArg (·[0]?) e2
      simpa [List.getElem?_take] using this
    simpa using e3
  exact ⟨fun c => Classical.choose (hc c), fun c => Classical.choose_spec (hc c)⟩

theorem reads_of {w : World} {x : Addr} {n c : Nat} {zs : List Int} (hl : n ≤ zs.length) (h : ∀ i, i < zs.length → w.cell? (x.add i) = some (.int .u8 (zs.getD i 0))) : Reads w (.slice (some x) n c) ((zs.take n).map (.int .u8)) := by
  have hlen : ((zs.take n).map (Value.int .u8)).length = n := by simp; omega
  refine ⟨some x, c, by rw [hlen], fun h0 => ?_⟩
  rw [hlen] at h0
  obtain ⟨b, off, spot⟩ := x
  have c0 := h 0 (by omega)
  have hspot : spot = none := by simpa [Addr.add] using World.cell?_spot c0
  subst hspot
  have ea : ∀ j, (⟨b, off, none⟩ : Addr).add j = ⟨b, off + j, none⟩ := fun j => by
    unfold Addr.add
    split
    · next h => rw [h]; rfl
    · rfl
  refine ⟨b, off, ?_, rfl, fun j v hv => ?_⟩
  · exact Decidable.byContradiction fun hlt => by
      have e : w.heap[b]? = none := Array.getElem?_eq_none (by omega)
      rw [ea] at c0
      simp [World.cell?, e] at c0
  · have hj : j < n := by have := (List.getElem?_eq_some_iff.1 hv).1; omega
    rw [← ea, h j (by omega), ← hv]
    simp [List.getElem?_take_of_lt hj, List.getElem?_eq_getElem (show j < zs.length by omega), List.getD]

set_option maxRecDepth 100000 in
theorem lifted (os : Os) (started : os.Started) (H : Type) (enc : TypeId × Value → H) :
    ReturnsInHanded {} Try.checked os 3 .any (Rows.fnAppendLeadingDstIndependentSpec.pre6 enc Try.prog Try.f3 Rows.fnAppendLeadingDstIndependentRow.domain false) (Rows.fnAppendLeadingDstIndependentSpec.post enc Try.prog Try.f3 false true false false) := by
  refine returnsInHanded_of_change (C := Try.checked) own started (by kernel_rfl) Try.func3
    (ChangeSpec.witness6 (enc := enc) (C := Try.checked) false ⟨#[], #[.agg (List.replicate 256 (.int .u8 0)).toArray, .int .u8 0, .int .u8 0, .int .u8 0, .slice none 0 0, .string ByteArray.empty, .bool false], []⟩ 8 (by kernel_rfl) (by kernel_rfl) (by kernel_rfl) (by kernel_rfl)) ?_
  intro W base args ds gs before hval0 hW hcnd _
  have hval : ∀ (j : Nat) t v, Try.f3.params[j]? = some t → args[j]? = some v → Value.okWide Try.prog W .any base t v := hval0
  have hW' := hW
  obtain ⟨p, q, hA0, hV, rfl, hfz, hnd⟩ := hW
  have hA : DataW.TrodAll enc Try.prog W 0 (fun _ => true) true Try.f3.params.toList args.toList ds p := hA0
  rw [Try.params3] at hA hval
  obtain ⟨v0, vs0, d0, ds0, p0, q0, hargs, rfl, rfl, h0, r0⟩ := trodAll_cons hA
  obtain ⟨v1, vs1, d1, ds1, p1, q1, rfl, rfl, rfl, h1, r1⟩ := trodAll_cons r0
  obtain ⟨v2, vs2, d2, ds2, p2, q2, rfl, rfl, rfl, h2, r2⟩ := trodAll_cons r1
  obtain ⟨v3, vs3, d3, ds3, p3, q3, rfl, rfl, rfl, h3, r3⟩ := trodAll_cons r2
  obtain ⟨v4, vs4, d4, ds4, p4, q4, rfl, rfl, rfl, h4, r4⟩ := trodAll_cons r3
  obtain ⟨v5, vs5, d5, ds5, p5, q5, rfl, rfl, rfl, h5, r5⟩ := trodAll_cons r4
  obtain ⟨v6, vs6, d6, ds6, p6, q6, rfl, rfl, rfl, h6, r6⟩ := trodAll_cons r5
  obtain ⟨rfl, rfl, rfl⟩ := trodAll_nil r6
  obtain rfl : args = #[v0, v1, v2, v3, v4, v5, v6] := by cases args; simp_all
  obtain ⟨rfl, rfl⟩ := trodVars_none hV
  obtain ⟨cs, rfl, hcs⟩ : ∃ cs : Array Value, v0 = .agg cs ∧ cs.size = 256 := by
    have h := hval 0 22 v0 rfl rfl
    simp only [Value.okWide, Try.underlying22] at h
    obtain ⟨cs, e, hs, _⟩ := h
    exact ⟨cs, e, hs.trans (by kernel_rfl)⟩
  have k0 := h0
  have lt0 : ∀ x ∈ p0, x.block < W.heap.size := by obtain ⟨m, hm⟩ := k0; exact DataW.trod_lt m _ _ _ hm
  obtain ⟨T, hT⟩ := table_of h0
  obtain ⟨L, rfl⟩ : ∃ L : List Value, cs = L.toArray := ⟨cs.toList, by simp⟩
  obtain ⟨a1, rfl, rfl, rfl, w1⟩ := open_int Try.underlying5 (hval 1 5 v1 rfl rfl) h1
  obtain ⟨a2, rfl, rfl, rfl, w2⟩ := open_int Try.underlying5 (hval 2 5 v2 rfl rfl) h2
  obtain ⟨a3, rfl, rfl, rfl, w3⟩ := open_int Try.underlying5 (hval 3 5 v3 rfl rfl) h3
  obtain ⟨c1, rfl⟩ := byte_of w1
  obtain ⟨c2, rfl⟩ := byte_of w2
  obtain ⟨c3, rfl⟩ := byte_of w3
  obtain ⟨a4, len4, cap4, rfl⟩ := okWide_slice Try.underlying23 (hval 4 23 v4 rfl rfl)
  have k4 := h4
  have lt4 : ∀ x ∈ p4, x.block < W.heap.size := by obtain ⟨m, hm⟩ := k4; exact DataW.trod_lt m _ _ _ hm
  obtain ⟨pre, hpl, hpm, hpo, hpr⟩ : ∃ pre : List Value, pre.length = len4 ∧ len4 ≤ maxLen ∧ Octets pre ∧ Reads W (.slice a4 len4 cap4) pre := by
    obtain ⟨fuel, hf⟩ := h4
    rcases open_ints Try.underlying23 Try.underlying5 (by kernel_rfl) hf with ⟨hcs, _⟩ | ⟨x, l, c, zs, hcs, _, hl, hm, hz, _, hcell, hwz⟩
    · simp [Value.cells] at hcs
      obtain ⟨rfl, rfl, rfl⟩ := hcs
      exact ⟨[], rfl, Nat.zero_le _, fun x hx => by (cases hx), none, 0, rfl, fun h => by (cases h)⟩
    · simp [Value.cells] at hcs
      obtain ⟨rfl, rfl, rfl⟩ := hcs
      have hz' : zs.length = cap4 := by simpa using hz
      refine ⟨(zs.take len4).map (.int .u8), by simp; omega, by omega, fun x hx => ?_, reads_of (by omega) hcell⟩
      obtain ⟨u, _, rfl⟩ := List.mem_map.1 hx
      exact ⟨_, rfl⟩
  subst hpl
  obtain ⟨nm, rfl, rfl, rfl, w5⟩ := open_string Try.underlying9 (hval 5 9 v5 rfl rfl) h5
  obtain ⟨aw, rfl, rfl, rfl⟩ := open_bool Try.underlying4 (hval 6 4 v6 rfl rfl) h6
  clear hA0 hval0
  refine (main_any L hcs T hT c1 c2 c3 a4 pre cap4 nm aw (by unfold maxLen at hpm; omega) (by unfold maxLen at w5; omega) W hpo hpr).mono fun e W' ⟨he, bel⟩ => ?_
  subst he
  exact ⟨_, rfl, _, _, _, [], _, [], hW', trodAll_mk1 (shut_bool Try.underlying4 _), (trodAll_cons_mk (Below.trod laidOut (by kernel_rfl) (of_decide_eq_true (by kernel_rfl)) k0 bel lt0) (trodAll_cons_mk (shut_int Try.underlying5 w1) (trodAll_cons_mk (shut_int Try.underlying5 w2) (trodAll_cons_mk (shut_int Try.underlying5 w3) (trodAll_cons_mk (Below.trod laidOut (by kernel_rfl) (of_decide_eq_true (by kernel_rfl)) k4 bel lt4) (trodAll_cons_mk (shut_string Try.underlying9 w5) (trodAll_cons_mk (shut_bool Try.underlying4 _) trodAll_mk0))))))), rfl, bel.frame _, fun h => by cases h⟩

theorem over : Rows.fnAppendLeadingDstIndependentRow.holds Try.pinned (OpenSpec.ofChange Rows.fnAppendLeadingDstIndependentSpec) :=
  OpenClaim.holds_of_wide 3 Try.f3 rfl rfl rfl rfl rfl rfl rfl ⟨rfl, rfl, rfl, rfl, rfl⟩ rfl rfl rfl rfl rfl (by kernel_rfl) Try.func3 (by kernel_rfl)
    (of_decide_eq_true (by kernel_rfl)) (by unfold Func.isWrapper; first | (rw [if_pos (by decide +kernel)]; kernel_rfl) | (rw [if_neg (by decide +kernel)]; exact ⟨rfl, rfl⟩))
    (fun os started H enc _ => lifted os started H enc)

/-- THE STATEMENT. -/
theorem proved : Rows.FnAppendLeadingDstIndependentSaid := over

end Go.Proofs.Qxb6000821a
