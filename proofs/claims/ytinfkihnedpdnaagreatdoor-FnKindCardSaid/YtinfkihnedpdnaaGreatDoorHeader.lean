/- The contract of checkHeader over a file that begins as a PNG file does: no error, eight bytes read. -/
import Derived.Test.YtinfkihnedpdnaaGreatDoorFull
namespace Go.Proofs.YtinfkihnedpdnaaGreatDoor
open Go.RowKit

def sig8 : List Value := [.int .u8 137, .int .u8 80, .int .u8 78, .int .u8 71, .int .u8 13, .int .u8 10, .int .u8 26, .int .u8 10]

theorem add_lit (b o j : Nat) : (⟨b, o, none⟩ : Addr).add j = ⟨b, o + j, none⟩ := by unfold Addr.add; split <;> simp_all

/-- A slice of bytes as a string, by the bytes of its block. -/
theorem conv_back (D off cap : Nat) (l : List UInt8) (w : World) (h : ∀ j (hj : j < l.length), w.cell? ⟨D, off + j, none⟩ = some (.int .u8 (l[j].toNat : Int))) :
    (convert 23 9 (.slice (some ⟨D, off, none⟩) l.length cap)).run Tryz.prog w = .ok (.string ⟨l.toArray⟩) w :=
  run_convert_bytes_back w 23 9 5 ⟨D, off, none⟩ cap l Tryz.underlying23 Tryz.underlying5 Tryz.underlying9 fun j hj => by rw [add_lit]; exact h j hj

/-- Bytes as values. -/
def bvals (l : List UInt8) : List Value := l.map fun b => .int .u8 (b.toNat : Int)
theorem bvals_at (l : List UInt8) (j : Nat) (hj : j < l.length) : (bvals l)[j]? = some (.int .u8 (l[j].toNat : Int)) := by simp [bvals, hj]

def HeadPost (w w' : World) (D R A len cap : Nat) (L : List Value) (e : Ending) : Prop :=
  e = .returned .nilIface ∧ RdAt w' R A len cap 8 (-1) ∧ Blk w' D 67 (splice L 10 sig8).toArray ∧ Kept (fun k => k = D ∨ k = R) w w'

set_option maxRecDepth 100000 in
set_option maxHeartbeats 1000000 in
theorem header_any (D R A len cap : Nat) (p : Int) (L : List Value) (w : World) (hin : 8 ≤ len) (hlen : len ≤ 1000) (hcap : len ≤ cap)
    (hR : RdAt w R A len cap (0 : Nat) p) (hD : Blk w D 67 L.toArray) (hL : L.length = 786) (hL0 : L[0]? = some (.iface 45 (.pointer (some ⟨R, 0, none⟩))))
    (hsrc : ∀ j v, sig8[j]? = some v → w.cell? ⟨A, 0 + j, none⟩ = some v) (hAR : A ≠ R) :
    Calls Tryz.prog 19 #[.pointer (some ⟨D, 0, none⟩)] w fun e w' => HeadPost w w' D R A len cap L e := by
  have d0 : w.cell? ⟨D, 0, none⟩ = some (.iface 45 (.pointer (some ⟨R, 0, none⟩))) := by rw [hD.cell 0]; simpa using hL0
  have HR : Hid (RdAt w.drew R A len cap (0 : Nat) p) := hR; have HD : Hid (Blk w.drew D 67 L.toArray) := hD; have HL := Lib.hid hL; have HS : Hid (∀ j v, sig8[j]? = some v → w.drew.cell? ⟨A, 0 + j, none⟩ = some v) := hsrc
  clear hR hD hL hL0 hsrc
  go_enter Tryz.func19, Tryz.ntmps19
  go_wp2
  go_region_with (go_at_call 24; (refine (full_any D R A len cap 8 0 768 p L sig8 w.drew (by decide) (by omega) hlen hcap (by decide) HR.out HD.out (by rw [HL.out]; decide) rfl (by decide) HS.out hAR).mono ?_); rintro e w' ⟨rfl, h1, h2, h3⟩)
  have H1 := Lib.hid h1; have H2 := Lib.hid h2; have H3 := Lib.hid h3; clear h1 h2 h3
  have cv : (convert 23 9 (.slice (some ⟨D, 10, none⟩) 8 768)).run Tryz.prog w' = .ok (.string ⟨#[137, 80, 78, 71, 13, 10, 26, 10]⟩) w' :=
    conv_back D 10 768 [137, 80, 78, 71, 13, 10, 26, 10] w' fun j hj => by
      rw [H2.out.cell, List.getElem?_toArray, splice_in (cs := sig8) (by rw [HL.out]; decide) hj]
      exact bvals_at _ j hj
  go_wp2
  go_ret
  exact ⟨rfl, H1.out, H2.out, ((Kept.refl _ w).drew).trans H3.out⟩

end Go.Proofs.YtinfkihnedpdnaaGreatDoor
