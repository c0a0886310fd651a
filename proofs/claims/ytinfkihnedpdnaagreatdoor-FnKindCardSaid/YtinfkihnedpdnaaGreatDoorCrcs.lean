/- The contracts of the two checksums: the reference's Crc returns some 32-bit number and writes nothing; the program's Write only changes the digest. No condition. -/
import Derived.Test.YtinfkihnedpdnaaGreatDoorSmall
import Derived.OpenShut
import Derived.Lib.Hide
namespace Go.Proofs.YtinfkihnedpdnaaGreatDoor
open Go.RowKit

theorem bits_u32 (op : BinOp) (x y : Int) : 0 ≤ bits op .u32 x y ∧ bits op .u32 x y < 4294967296 := by
  have := bounds_u32 (wf_bits op .u32 x y); omega

/-- The slice from address (A, off) on reads as n bytes. -/
def Bytes (w : World) (A off n : Nat) : Prop := ∀ j, j < n → ∃ b : Int, w.cell? ⟨A, off + j, none⟩ = some (.int .u8 b) ∧ 0 ≤ b ∧ b ≤ 255

def SomeU32 (w w' : World) (e : Ending) : Prop := ∃ n : Int, 0 ≤ n ∧ n < 4294967296 ∧ e = .returned (.int .u32 n) ∧ w' = w

set_option maxHeartbeats 1000000 in
theorem crc_any (A off n cap : Nat) (w : World) (hn : n ≤ 1000) (hb : Bytes w A off n) :
    Calls Tryz.prog 11 #[.slice (some ⟨A, off, none⟩) n cap] w fun e w' => SomeU32 w w' e := by
  have HB := Lib.hid hb; clear hb
  go_enter Tryz.func11, Tryz.ntmps11
  go_wp2
  go_loop [3, 5, 8] (fun x _ i => ∃ (k : Nat) (z : Int), k ≤ n ∧ 0 ≤ z ∧ z < 4294967296 ∧ x = .int .u32 z ∧ i = .int .i64 k) (fun _ _ i => n - (intOf i).toNat)
  case atStart => exact ⟨0, 4294967295, by omega, by omega, by omega, rfl, rfl⟩
  case round =>
    obtain ⟨k, z, hk, hz0, hz1, rfl, rfl⟩ := hrel
    by_cases hlt : k < n
    · obtain ⟨b, hc, hb0, hb1⟩ := HB.out k hlt
      go_wp2
      go_loop [3, 16] (fun x j => ∃ (m : Nat) (y : Int), m ≤ 8 ∧ 0 ≤ y ∧ y < 4294967296 ∧ x = .int .u32 y ∧ j = .int .i64 m) (fun _ j => 8 - (intOf j).toNat)
      case atStart => exact ⟨0, _, by omega, (bits_u32 _ _ _).1, (bits_u32 _ _ _).2, rfl, rfl⟩
      case round =>
        obtain ⟨m, y, hm, hy0, hy1, rfl, rfl⟩ := hrel
        by_cases hlm : m < 8
        · go_wp2
          · go_round
            case rel => exact ⟨m + 1, _, by omega, (bits_u32 _ _ _).1, (bits_u32 _ _ _).2, rfl, by go_num⟩
            case measure => simp [intOf]; omega
          · go_round
            case rel => exact ⟨m + 1, y / 2, by omega, by omega, by omega, rfl, by go_num⟩
            case measure => simp [intOf]; omega
        · go_wp2
          go_round
          case rel => exact ⟨k + 1, y, by omega, hy0, hy1, rfl, by go_num⟩
          case measure => simp [intOf]; omega
    · go_wp2
      go_ret
      exact ⟨_, (bits_u32 _ _ _).1, (bits_u32 _ _ _).2, rfl, rfl⟩

end Go.Proofs.YtinfkihnedpdnaaGreatDoor
