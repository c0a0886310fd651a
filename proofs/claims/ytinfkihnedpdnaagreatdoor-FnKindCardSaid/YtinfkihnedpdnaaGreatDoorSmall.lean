/- The contracts of the small functions of the reference: IsKind, Four, Signature. No condition. -/
import Derived.Test.YtinfkihnedpdnaaGreatDoorProg
import Derived.Test.YtinfkihnedpdnaaGreatDoorWords
import Derived.WalkKit
import Derived.WalkSpells
import Derived.WalkLawsBesides
import Derived.KernelRfl
import Derived.Laws.BitsAllLaws
import Derived.Deep.QuietTactic
import Derived.BigQuiet
namespace Go.Proofs.YtinfkihnedpdnaaGreatDoor
open Go.RowKit

/-- Is a colour type with so many bits one of the fifteen kinds? -/
def kindB (c d : Int) : Bool :=
  if c = 0 then d == 1 || d == 2 || d == 4 || d == 8 || d == 16
  else if c = 3 then d == 1 || d == 2 || d == 4 || d == 8
  else if c = 2 ∨ c = 4 ∨ c = 6 then d == 8 || d == 16
  else false

set_option maxHeartbeats 400000 in
theorem isKind_any (c d : Int) (w : World) :
    Calls Tryz.prog 4 #[.int .i64 c, .int .i64 d] w fun e w' => e = .returned (.bool (kindB c d)) ∧ w' = w := by
  go_enter Tryz.func4, Tryz.ntmps4
  go_wp2
  all_goals
    go_ret
    refine ⟨?_, rfl⟩
    simp only [beq_iff_eq, beq_eq_false_iff_ne] at *
    first
      | (subst c; subst d; rfl)
      | (subst c; simp [kindB])
      | simp [kindB, *]

set_option maxHeartbeats 400000 in
theorem four_any (n : Int) (w : World) (h0 : 0 ≤ n) (h1 : n < 256) :
    Calls Tryz.prog 10 #[.int .u32 n] w fun e w' => e = .returned (.slice (some ⟨w.heap.size, 0, none⟩) 4 4) ∧ w' = w.alloc (.cells #[.int .u8 0, .int .u8 0, .int .u8 0, .int .u8 n] 5) := by
  go_enter Tryz.func10, Tryz.ntmps10
  go_wp2
  go_ret
  have e1 : n / 16777216 = 0 := by omega
  have e2 : n / 65536 = 0 := by omega
  have e3 : n / 256 = 0 := by omega
  exact ⟨rfl, by rw [e1, e2, e3]⟩

def FourBytes (w w' : World) (e : Ending) : Prop :=
  ∃ a b c d : Int, (0 ≤ a ∧ a ≤ 255) ∧ (0 ≤ b ∧ b ≤ 255) ∧ (0 ≤ c ∧ c ≤ 255) ∧ (0 ≤ d ∧ d ≤ 255) ∧
    e = .returned (.slice (some ⟨w.heap.size, 0, none⟩) 4 4) ∧ w' = w.alloc (.cells #[.int .u8 a, .int .u8 b, .int .u8 c, .int .u8 d] 5)

set_option maxHeartbeats 400000 in
theorem four_wide (n : Int) (w : World) (h0 : 0 ≤ n) (h1 : n < 4294967296) :
    Calls Tryz.prog 10 #[.int .u32 n] w fun e w' => FourBytes w w' e := by
  go_enter Tryz.func10, Tryz.ntmps10
  go_wp2
  go_ret
  exact ⟨n / 16777216, n / 65536 % 256, n / 256 % 256, n % 256, by omega, by omega, by omega, by omega, rfl, rfl⟩

set_option maxHeartbeats 400000 in
theorem signature_any (w : World) :
    Calls Tryz.prog 5 #[] w fun e w' => e = .returned (.slice (some ⟨w.heap.size, 0, none⟩) 8 8) ∧ w' = w.alloc (.cells #[.int .u8 137, .int .u8 80, .int .u8 78, .int .u8 71, .int .u8 13, .int .u8 10, .int .u8 26, .int .u8 10] 5) := by
  go_enter Tryz.func5, Tryz.ntmps5
  go_wp2
  go_ret
  exact ⟨rfl, rfl⟩


set_option maxHeartbeats 400000 in
theorem be_small (D off cap : Nat) (x : Int) (w : World) (h0 : 0 ≤ x) (h1 : x ≤ 255)
    (c0 : w.cell? ⟨D, off, none⟩ = some (.int .u8 0)) (c1 : w.cell? ⟨D, off + 1, none⟩ = some (.int .u8 0)) (c2 : w.cell? ⟨D, off + 2, none⟩ = some (.int .u8 0)) (c3 : w.cell? ⟨D, off + 3, none⟩ = some (.int .u8 x)) :
    Calls Tryz.prog 25 #[.slice (some ⟨D, off, none⟩) 4 cap] w fun e w' => e = .returned (.int .u32 x) ∧ ∃ n, w' = w.drewN n := by
  go_enter Tryz.func25, Tryz.ntmps25
  go_wp2
  go_quiet (fail)
  go_wp2
  go_ret
  have e : bits .or .u32 x 0 = x := by rw [u32_or x 0 (by omega) (by omega) (by omega) (by omega)]; simp; omega
  exact ⟨by rw [e, e, e]; rfl, _, rfl⟩

set_option maxHeartbeats 400000 in
theorem reset_any (C : Nat) (c : Value) (w : World) (h : w.cell? ⟨C, 0, none⟩ = some c) (hf : w.frozen? ⟨C, 0, none⟩ = false) :
    Calls Tryz.prog 26 #[.pointer (some ⟨C, 0, none⟩)] w fun e w' => e = .returned (.tuple #[]) ∧ w' = w.setCell ⟨C, 0, none⟩ (.int .u32 0) := by
  go_enter Tryz.func26, Tryz.ntmps26
  go_wp2
  go_end0
  exact ⟨rfl, rfl⟩

end Go.Proofs.YtinfkihnedpdnaaGreatDoor
