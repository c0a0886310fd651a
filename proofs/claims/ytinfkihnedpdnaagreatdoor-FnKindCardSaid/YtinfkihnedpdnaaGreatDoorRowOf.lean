/- The row of FnKind proved: for every input that the row admits, the law returns true and what it was given, and what the named variables hold, reads as before. -/
import Derived.Test.YtinfkihnedpdnaaGreatDoorRows
import Derived.Test.YtinfkihnedpdnaaGreatDoorMeets
import Derived.Test.YtinfkihnedpdnaaGreatDoorMet
import Derived.ProofKit
import Derived.LaidMore
import Derived.OpenShut
import Derived.OpenVars
import Derived.ChangeVars
import Derived.Stop.Joined
namespace Go.Proofs.YtinfkihnedpdnaaGreatDoor
open Go.ChangeShapes Go.WideShapes Go.ChangeAt Go.RowKit

theorem ownKnobNone : ownKnob Tryz.prog.godebug = none := by kernel_rfl
theorem laidOut : laidOutB Tryz.prog = true := by kernel_rfl

/-- The law, whatever the four numbers are. -/
theorem law_true (a0 a1 a2 a3 : Int) (w0 : (Lit.int .u8 a0).wf = true) (w1 : (Lit.int .u8 a1).wf = true) (w2 : (Lit.int .u8 a2).wf = true) (w3 : (Lit.int .u8 a3).wf = true) (W : World) (hV : Vars W) :
    Calls Tryz.prog 3 #[.int .u8 a0, .int .u8 a1, .int .u8 a2, .int .u8 a3] W fun e W' => Quiet W W' (.bool true) e := by
  cases hk : kindB a1 a0
  · exact law_no a0 a1 a2 a3 W hV (bounds_u8 w0).1 (bounds_u8 w0).2 (bounds_u8 w1).1 (bounds_u8 w1).2 (bounds_u8 w2).1 (bounds_u8 w2).2 (bounds_u8 w3).1 (bounds_u8 w3).2 hk
  · exact law_yes a0 a1 a2 a3 W (bounds_u8 w0).1 (bounds_u8 w0).2 (bounds_u8 w1).1 (bounds_u8 w1).2 hk

set_option maxRecDepth 100000 in
theorem lifted (os : Os) (started : os.Started) (H : Type) (enc : TypeId × Value → H) :
    ReturnsInHanded {} Tryz.checked os 3 .any (fun w args => (Rows.fnKindSpec.pre enc Tryz.prog Tryz.f3 [] false w args ∧ laidMetH Tryz.prog Rows.fnKindRow.laid w) ∧ sizedMet enc Tryz.prog Tryz.f3 (OpenSpec.ofChange Rows.fnKindSpec) false w args)
      (Rows.fnKindSpec.post enc Tryz.prog Tryz.f3 false true false false) := by
  refine returnsInHanded_of_change_and (C := Tryz.checked) (X := fun w _ => laidMetH Tryz.prog Rows.fnKindRow.laid w) (fun _ _ _ hh h => h.of_heap hh) ownKnobNone started (by kernel_rfl) Tryz.func3
    (ChangeSpec.witness_shaped (enc := enc) (C := Tryz.checked) (os := os) (X := fun w _ => laidMetH Tryz.prog Rows.fnKindRow.laid w) false (World.doorLaid Tryz.prog 205 os) #[.int .u8 0, .int .u8 0, .int .u8 0, .int .u8 0] 8 rfl (door_shaped os _) (by kernel_rfl) (by kernel_rfl) (by kernel_rfl) (door_met os _)) ?_
  intro W base args ds gs before hval0 hW _ _ hL _
  have hval : ∀ (j : Nat) t v, Tryz.f3.params[j]? = some t → args[j]? = some v → Value.okWide Tryz.prog W .any base t v := hval0
  have hW' := hW
  obtain ⟨p, q, hA0, hV, rfl, hfz, hnd⟩ := hW
  have hA : DataW.TrodAll enc Tryz.prog W 0 (fun _ => true) true Tryz.f3.params.toList args.toList ds p := hA0
  rw [Tryz.params3] at hA hval
  obtain ⟨v0, vs0, d0, ds0, p0, q0, hargs, rfl, rfl, h0, r0⟩ := trodAll_cons hA
  obtain ⟨v1, vs1, d1, ds1, p1, q1, rfl, rfl, rfl, h1, r1⟩ := trodAll_cons r0
  obtain ⟨v2, vs2, d2, ds2, p2, q2, rfl, rfl, rfl, h2, r2⟩ := trodAll_cons r1
  obtain ⟨v3, vs3, d3, ds3, p3, q3, rfl, rfl, rfl, h3, r3⟩ := trodAll_cons r2
  obtain ⟨rfl, rfl, rfl⟩ := trodAll_nil r3
  obtain rfl : args = #[v0, v1, v2, v3] := by cases args; simp_all
  obtain ⟨a0, rfl, rfl, rfl, w0⟩ := open_int Tryz.underlying5 (hval 0 5 v0 rfl rfl) h0
  obtain ⟨a1, rfl, rfl, rfl, w1⟩ := open_int Tryz.underlying5 (hval 1 5 v1 rfl rfl) h1
  obtain ⟨a2, rfl, rfl, rfl, w2⟩ := open_int Tryz.underlying5 (hval 2 5 v2 rfl rfl) h2
  obtain ⟨a3, rfl, rfl, rfl, w3⟩ := open_int Tryz.underlying5 (hval 3 5 v3 rfl rfl) h3
  have hV' : DataW.TrodVars enc Tryz.prog W (fun _ => true) Rows.fnKindSpec.vars gs q := hV
  clear hA0 hval0
  obtain ⟨g1, g2, g3, g4, g5, rfl⟩ : ∃ g1 g2 g3 g4 g5, gs = [g1, g2, g3, g4, g5] := by
    match gs, hV' with
    | [g1, g2, g3, g4, g5], _ => exact ⟨g1, g2, g3, g4, g5, rfl⟩
    | [], h => exact h.elim
    | [_], h => obtain ⟨_, _, _, _, _, _, _, _, _, _, hs, _⟩ := h; exact hs.elim
    | [_, _], h => obtain ⟨_, _, _, _, _, _, _, _, _, _, hs, _⟩ := h; obtain ⟨_, _, _, _, _, _, _, _, _, _, hs, _⟩ := hs; exact hs.elim
    | [_, _, _], h =>
      obtain ⟨_, _, _, _, _, _, _, _, _, _, hs, _⟩ := h
      obtain ⟨_, _, _, _, _, _, _, _, _, _, hs, _⟩ := hs
      obtain ⟨_, _, _, _, _, _, _, _, _, _, hs, _⟩ := hs
      exact hs.elim
    | [_, _, _, _], h =>
      obtain ⟨_, _, _, _, _, _, _, _, _, _, hs, _⟩ := h
      obtain ⟨_, _, _, _, _, _, _, _, _, _, hs, _⟩ := hs
      obtain ⟨_, _, _, _, _, _, _, _, _, _, hs, _⟩ := hs
      obtain ⟨_, _, _, _, _, _, _, _, _, _, hs, _⟩ := hs
      exact hs.elim
    | _ :: _ :: _ :: _ :: _ :: _ :: _, h =>
      obtain ⟨_, _, _, _, _, _, _, _, _, _, hs, _⟩ := h
      obtain ⟨_, _, _, _, _, _, _, _, _, _, hs, _⟩ := hs
      obtain ⟨_, _, _, _, _, _, _, _, _, _, hs, _⟩ := hs
      obtain ⟨_, _, _, _, _, _, _, _, _, _, hs, _⟩ := hs
      obtain ⟨_, _, _, _, _, _, _, _, _, _, hs, _⟩ := hs
      exact hs.elim
  refine (law_true a0 a1 a2 a3 w0 w1 w2 w3 W (vars_of_laid hL)).mono fun e W' ⟨he, hk⟩ => ?_
  subst he
  have hb : Below W.heap.size W W' := hk.below (fun _ f => f.elim) (Nat.le_refl _)
  have e1 : Rows.fnKindSpec.fn H ([.lit (.int .u8 a0), .lit (.int .u8 a1), .lit (.int .u8 a2), .lit (.int .u8 a3)] ++ [g1, g2, g3, g4, g5]) =
      { results := [.lit (.bool true)], args := [.lit (.int .u8 a0), .lit (.int .u8 a1), .lit (.int .u8 a2), .lit (.int .u8 a3)], vars := [g1, g2, g3, g4, g5] } := by simp [Rows.fnKindSpec]
  refine ⟨_, rfl, _, _, _, [], [], q, hW', ?_, ?_, ?_, hb.frame _, fun h => by cases h⟩
  · rw [e1]; exact trodAll_mk1 (shut_bool Tryz.underlying4 true)
  · rw [e1]; exact trodAll_cons_mk (shut_int Tryz.underlying5 w0) (trodAll_cons_mk (shut_int Tryz.underlying5 w1) (trodAll_cons_mk (shut_int Tryz.underlying5 w2) (trodAll_cons_mk (shut_int Tryz.underlying5 w3) trodAll_mk0)))
  · rw [e1]; exact Below.trodVars laidOut hb (by kernel_rfl) hV'

theorem fnKind_said : Rows.FnKindSaid :=
  OpenClaim.holds_of_wide 3 Tryz.f3 rfl rfl rfl rfl rfl rfl rfl ⟨rfl, rfl, rfl, rfl, rfl⟩ rfl rfl rfl rfl rfl (by kernel_rfl) Tryz.func3 (by kernel_rfl)
    (of_decide_eq_true (by kernel_rfl)) (by unfold Func.isWrapper; first | (rw [if_pos (by decide +kernel)]; kernel_rfl) | (rw [if_neg (by decide +kernel)]; exact ⟨rfl, rfl⟩))
    (fun os started H enc _ => lifted os started H enc)
#print axioms fnKind_said
end Go.Proofs.YtinfkihnedpdnaaGreatDoor
