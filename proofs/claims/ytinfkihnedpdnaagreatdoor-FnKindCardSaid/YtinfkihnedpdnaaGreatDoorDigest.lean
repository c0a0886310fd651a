/- The contract of the program's crcDigest.Write: whatever bytes it is handed, it changes the digest alone. No condition. -/
import Derived.Test.YtinfkihnedpdnaaGreatDoorCrcs
namespace Go.Proofs.YtinfkihnedpdnaaGreatDoor
open Go.RowKit

theorem bits_u8 (op : BinOp) (x y : Int) : 0 ≤ bits op .u8 x y ∧ bits op .u8 x y ≤ 255 := by
  have := bounds_u8 (wf_bits op .u8 x y); omega

/-- The program's table: 256 numbers of 32 bits. -/
def Tab (w : World) : Prop := ∀ k, k < 256 → ∃ z : Int, w.cell? ⟨3, k, none⟩ = some (.int .u32 z) ∧ 0 ≤ z ∧ z < 4294967296

def Wrote (w w' : World) (C : Nat) (n : Nat) (e : Ending) : Prop :=
  ∃ c : Int, 0 ≤ c ∧ c < 4294967296 ∧ e = .returned (.tuple #[.int .i64 n, .nilIface]) ∧ w' = w.setCell ⟨C, 0, none⟩ (.int .u32 c)

set_option maxHeartbeats 1000000 in
theorem write_any (C A off n cap : Nat) (c : Int) (w : World) (hn : n ≤ 1000) (hb : Bytes w A off n) (ht : Tab w)
    (hc : w.cell? ⟨C, 0, none⟩ = some (.int .u32 c)) (hf : w.frozen? ⟨C, 0, none⟩ = false) :
    Calls Tryz.prog 27 #[.pointer (some ⟨C, 0, none⟩), .slice (some ⟨A, off, none⟩) n cap] w fun e w' => Wrote w w' C n e := by
  go_enter Tryz.func27, Tryz.ntmps27
  go_wp2
  go_loop [6, 16] (fun x i => ∃ (k : Nat) (z : Int), k ≤ n ∧ 0 ≤ z ∧ z < 4294967296 ∧ x = .int .u32 z ∧ i = .int .i64 k) (fun _ i => n - (intOf i).toNat)
  case atStart => exact ⟨0, _, by omega, (bits_u32 _ _ _).1, (bits_u32 _ _ _).2, rfl, rfl⟩
  case round =>
    obtain ⟨k, z, hk, hz0, hz1, rfl, rfl⟩ := hrel
    by_cases hlt : k < n
    · obtain ⟨b, hcb, hb0, hb1⟩ := hb k hlt
      obtain ⟨hx0, hx1⟩ := bits_u8 .xor (z % 256) b
      obtain ⟨t, hct, ht0, ht1⟩ := ht (bits .xor .u8 (z % 256) b).toNat (by omega)
      go_wp2
      go_round
      case rel => exact ⟨k + 1, _, by omega, (bits_u32 _ _ _).1, (bits_u32 _ _ _).2, rfl, by go_num⟩
      case measure => simp [intOf]; omega
    · go_wp2
      go_ret2
      exact ⟨_, (bits_u32 _ _ _).1, (bits_u32 _ _ _).2, rfl, rfl⟩

end Go.Proofs.YtinfkihnedpdnaaGreatDoor
