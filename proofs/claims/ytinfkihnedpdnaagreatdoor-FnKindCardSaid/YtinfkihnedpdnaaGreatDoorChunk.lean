/- The contract of parseChunk over a head whose colour type and bits are none of the fifteen kinds: an UnsupportedError. -/
import Derived.Test.YtinfkihnedpdnaaGreatDoorIhdr
namespace Go.Proofs.YtinfkihnedpdnaaGreatDoor
open Go.RowKit

def name8 : List Value := [.int .u8 0, .int .u8 0, .int .u8 0, .int .u8 13, .int .u8 73, .int .u8 72, .int .u8 68, .int .u8 82]

set_option maxRecDepth 100000 in
set_option maxHeartbeats 2000000 in
theorem chunk_any (b : Bool) (D R C A len cap : Nat) (p c0 : Int) (v5 v7 v778 : Value) (W H d c : Int) (L : List Value) (w : World) (hin : 16 + 13 ≤ len) (hlen : len ≤ 1000) (hcap : len ≤ cap)
    (hR : RdAt w R A len cap (8 : Nat) p) (hD : Blk w D 67 L.toArray) (hC : Blk w C 61 #[.int .u32 c0]) (hT : Tab w) (hL : L.length = 786) (hL0 : L[0]? = some (.iface 45 (.pointer (some ⟨R, 0, none⟩))))
    (hL2 : L[2]? = some (.pointer (some ⟨C, 0, none⟩))) (hL8 : L[8]? = some (.int .i64 0)) (hL5 : L[5]? = some v5) (hL7 : L[7]? = some v7) (hL778 : L[778]? = some v778)
    (hsrc : ∀ j v, (name8)[j]? = some v → w.cell? ⟨A, 8 + j, none⟩ = some v) (hsrc2 : ∀ j v, (head13 W H d c)[j]? = some v → w.cell? ⟨A, 16 + j, none⟩ = some v) (hAR : A ≠ R) (hAD : A ≠ D) (hAC : A ≠ C) (h3D : D ≠ 3) (h3R : R ≠ 3) (h3C : C ≠ 3)
    (hW0 : 1 ≤ W) (hW1 : W ≤ 20) (hH0 : 1 ≤ H) (hH1 : H ≤ 20) (hd0 : 0 ≤ d) (hd1 : d ≤ 255) (hc0 : 0 ≤ c) (hc1 : c ≤ 255) (hk : kindB c d = false) :
    Calls Tryz.prog 20 #[.pointer (some ⟨D, 0, none⟩), .bool b] w fun e w' => Unsup w w' D R C e := by
  have d0 : w.cell? ⟨D, 0, none⟩ = some (.iface 45 (.pointer (some ⟨R, 0, none⟩))) := by rw [hD.cell 0]; simpa using hL0
  have HR : Hid (RdAt w.drew R A len cap (8 : Nat) p) := hR; have HD : Hid (Blk w.drew D 67 L.toArray) := hD; have HL := Lib.hid hL
  have HS : Hid (∀ j v, (name8)[j]? = some v → w.drew.cell? ⟨A, 8 + j, none⟩ = some v) := hsrc
  have HS2 := Lib.hid hsrc2
  have HC := Lib.hid hC; have HT := Lib.hid hT; have HK := Lib.hid hk
  have hDR : D ≠ R := hD.ne_ hR (by decide)
  have hDC : D ≠ C := hD.ne_ hC (by decide)
  have hRC : R ≠ C := hR.ne_ hC (by decide)
  have K0 := Lib.hid hL0; have K2 := Lib.hid hL2; have K5 := Lib.hid hL5; have K7 := Lib.hid hL7; have K8 := Lib.hid hL8; have K778 := Lib.hid hL778
  clear hR hD hC hT hL hsrc hsrc2 hk hL0 hL2 hL5 hL7 hL8 hL778
  go_enter Tryz.func20, Tryz.ntmps20
  go_wp2
  go_region_with (go_at_call 24; (refine (full_any D R A len cap 8 8 768 p L name8 w.drew (by decide) (by omega) hlen hcap (by decide) HR.out HD.out (by rw [HL.out]; decide) rfl (by simp [name8, Value.oneCell']) HS.out hAR).mono ?_); rintro e w1 ⟨rfl, h1, h2, h3⟩)
  have k1 : Kept (fun k => k = D ∨ k = R) w w1 := ((Kept.refl _ w).drew).trans h3
  have hc : Blk w1 C 61 #[.int .u32 c0] := HC.out.kept k1 (by rintro (h | h); exact hDC h.symm; exact hRC h.symm)
  have HR1 := Lib.hid h1
  have H2 := Lib.hid h2; have H3 := Lib.hid k1; have HCC := Lib.hid hc; clear h1 h2 h3 k1 hc HR HD HS d0
  have hIn : ∀ j, j < 8 → w1.cell? ⟨D, 10 + j, none⟩ = name8[j]? := fun j hj => by
    rw [H2.out.cell, List.getElem?_toArray, splice_in (by rw [HL.out]; simp [name8]) (by simpa [name8] using hj)]
  have hOut : ∀ k, k < 10 ∨ 18 ≤ k → w1.cell? ⟨D, k, none⟩ = L[k]? := fun k hk => by
    rw [H2.out.cell, List.getElem?_toArray, splice_out (by rw [HL.out]; simp [name8]) (by simpa [name8] using hk)]
  have hb1 : BeAt w1 D 10 13 := ⟨hIn 0 (by decide), hIn 1 (by decide), hIn 2 (by decide), hIn 3 (by decide)⟩
  have e2 : w1.cell? ⟨D, 2, none⟩ = some (.pointer (some ⟨C, 0, none⟩)) := (hOut 2 (by decide)).trans K2.out
  have HIn := Lib.hid hIn; have HOut := Lib.hid hOut; clear hIn hOut
  go_wp2_with fail
  (with_reducible refine (be_at D 10 768 13 _ (by decide) (by decide) hb1).mono ?_)
  rintro e w3 ⟨rfl, n1, rfl⟩
  go_wp2_with fail
  (with_reducible refine (reset_any C (.int .u32 c0) _ ?_ ?_).mono ?_)
  · exact HCC.out.cell 0
  · exact HCC.out.frozen 0
  rintro e w2 ⟨rfl, hw2⟩
  have a1 : Blk w2 D 67 (splice L 10 name8).toArray := by rw [hw2]; exact (H2.out.drewN n1).far (p := ⟨C, 0, none⟩) hDC _
  have a2 : Blk w2 C 61 #[.int .u32 0] := by rw [hw2]; exact (HCC.out.drewN n1).set_ 0 _
  have a3 : RdAt w2 R A len cap (16 : Nat) (-1) := by rw [hw2]; exact (Blk.drewN HR1.out n1).far (p := ⟨C, 0, none⟩) hRC _
  have a4 : Kept (fun k => k = D ∨ k = R ∨ k = C) w w2 := by
    rw [hw2]; exact ((H3.out.mono (by rintro k (h | h); exact .inl h; exact .inr (.inl h))).drewN n1).setCell (p := ⟨C, 0, none⟩) (.inr (.inr rfl)) _
  have e2 : w2.cell? ⟨D, 2, none⟩ = some (.pointer (some ⟨C, 0, none⟩)) := by
    rw [a1.cell, List.getElem?_toArray, splice_out (by rw [HL.out]; simp [name8]) (.inl (by decide))]; exact K2.out
  have a5 : Bytes w2.drew D 14 4 := by
    intro j hj
    have e := a1.cell (10 + (4 + j))
    rw [List.getElem?_toArray, splice_in (by rw [HL.out]; simp [name8]) (by simp [name8]; omega)] at e
    rw [show 14 + j = 10 + (4 + j) from by omega]
    match j, hj with
    | 0, _ => exact ⟨73, e, by omega, by omega⟩
    | 1, _ => exact ⟨72, e, by omega, by omega⟩
    | 2, _ => exact ⟨68, e, by omega, by omega⟩
    | 3, _ => exact ⟨82, e, by omega, by omega⟩
    | n + 4, h => exact absurd h (by omega)
  have a6 : Tab w2.drew := fun k hk => by
    obtain ⟨z, hz, h0, h1⟩ := HT.out k hk
    exact ⟨z, a4.cell hz (by rintro (h | h | h); exact h3D h.symm; exact h3R h.symm; exact h3C h.symm), h0, h1⟩
  have A1 := Lib.hid a1; have A2 := Lib.hid a2; have A3 := Lib.hid a3; have A4 := Lib.hid a4; have A5 := Lib.hid a5; have A6 := Lib.hid a6
  clear hw2 a1 a2 a3 a4 a5 a6 HR1 H2 H3 HCC HC HT hb1 HIn HOut
  go_wp2
  go_region_with (go_at_call 27; (refine (write_any C D 14 4 764 0 w2.drew (by decide) A5.out A6.out (A2.out.cell 0) (A2.out.frozen 0)).mono ?_); rintro e w3 ⟨c', hc'0, hc'1, rfl, rfl⟩)
  have b1 : Blk (w2.setCell ⟨C, 0, none⟩ (.int .u32 c')).drew D 67 (splice L 10 name8).toArray := A1.out.far (p := ⟨C, 0, none⟩) hDC _
  have b2 : Blk (w2.setCell ⟨C, 0, none⟩ (.int .u32 c')).drew C 61 #[.int .u32 c'] := A2.out.set_ 0 _
  have b3 : RdAt (w2.setCell ⟨C, 0, none⟩ (.int .u32 c')).drew R A len cap (16 : Nat) (-1) := Blk.far A3.out (p := ⟨C, 0, none⟩) hRC _
  have b4 : Kept (fun k => k = D ∨ k = R ∨ k = C) w (w2.setCell ⟨C, 0, none⟩ (.int .u32 c')).drew := (A4.out.setCell (p := ⟨C, 0, none⟩) (.inr (.inr rfl)) _).drew
  have b6 : Tab (w2.setCell ⟨C, 0, none⟩ (.int .u32 c')).drew := fun k hk => by
    obtain ⟨z, hz, h0, h1⟩ := A6.out k hk
    exact ⟨z, by rw [World.cell?_drew, World.cell?_setCell_other _ _ _ _ (by simp [h3C, Ne.symm h3C])]; exact hz, h0, h1⟩
  generalize (w2.setCell ⟨C, 0, none⟩ (.int .u32 c')).drew = w3 at b1 b2 b3 b4 b6 ⊢
  have cv : (convert 23 9 (.slice (some ⟨D, 14, none⟩) 4 764)).run Tryz.prog w3 = .ok (.string ⟨#[73, 72, 68, 82]⟩) w3 :=
    conv_back D 14 764 [73, 72, 68, 82] w3 fun j hj => by
      have e := b1.cell (10 + (4 + j))
      rw [List.getElem?_toArray, splice_in (by rw [HL.out]; simp [name8]) (by simp at hj; simp [name8]; omega)] at e
      rw [show 14 + j = 10 + (4 + j) from by omega, e]
      match j, hj with
      | 0, _ => rfl
      | 1, _ => rfl
      | 2, _ => rfl
      | 3, _ => rfl
      | n + 4, h => exact absurd h (by simp)
  have e8 : w3.cell? ⟨D, 8, none⟩ = some (.int .i64 0) := by
    rw [b1.cell, List.getElem?_toArray, splice_out (by rw [HL.out]; simp [name8]) (.inl (by decide))]; exact K8.out
  have f8 := b1.frozen 8
  have B1 := Lib.hid b1; have B2 := Lib.hid b2; have B3 := Lib.hid b3; have B4 := Lib.hid b4; have B6 := Lib.hid b6
  clear b1 b2 b3 b4 b6 A1 A2 A3 A4 A5 A6 e2
  go_wp2_with fail
  have sl : 10 + name8.length ≤ L.length := by rw [HL.out]; simp [name8]
  have g1 : Blk (w3.setCell ⟨D, 8, none⟩ (.int .i64 1)) D 67 ((splice L 10 name8).set 8 (.int .i64 1)).toArray := by
    have e := B1.out.set_ 8 (.int .i64 1)
    rwa [List.setIfInBounds_toArray] at e
  have mk : ∀ k, k ≠ 8 → (k < 10 ∨ 18 ≤ k) → ((splice L 10 name8).set 8 (.int .i64 1))[k]? = L[k]? := fun k hk h => by
    rw [List.getElem?_set_ne (Ne.symm hk), splice_out sl (by simpa [name8] using h)]
  have g6 : Tab (w3.setCell ⟨D, 8, none⟩ (.int .i64 1)) := fun k hk => by
    obtain ⟨z, hz, h0, h1⟩ := B6.out k hk
    exact ⟨z, by rw [World.cell?_setCell_other _ _ _ _ (by simp [h3D, Ne.symm h3D])]; exact hz, h0, h1⟩
  have gs : ∀ j v, (head13 W H d c)[j]? = some v → (w3.setCell ⟨D, 8, none⟩ (.int .i64 1)).cell? ⟨A, 16 + j, none⟩ = some v := fun j v hj => by
    rw [World.cell?_setCell_other _ _ _ _ (by simp [hAD, Ne.symm hAD])]
    exact B4.out.cell (HS2.out j v hj) (by rintro (h | h | h); exact hAD h; exact hAR h; exact hAC h)
  refine (ihdr_any D R C A len cap (-1) c' v5 v7 v778 W H d c ((splice L 10 name8).set 8 (.int .i64 1)) (w3.setCell ⟨D, 8, none⟩ (.int .i64 1)) hin hlen hcap
    (B3.out.far (p := ⟨D, 8, none⟩) (Ne.symm hDR) _) g1 (B2.out.far (p := ⟨D, 8, none⟩) (Ne.symm hDC) _) g6 (by rw [List.length_set, length_splice _ _ _ sl, HL.out])
    ((mk 0 (by decide) (by decide)).trans K0.out) ((mk 2 (by decide) (by decide)).trans K2.out) ((mk 5 (by decide) (by decide)).trans K5.out) ((mk 7 (by decide) (by decide)).trans K7.out) ((mk 778 (by decide) (by decide)).trans K778.out)
    gs hAR h3D h3R h3C hW0 hW1 hH0 hH1 hd0 hd1 hc0 hc1 HK.out).mono ?_
  rintro e w4 ⟨s, rfl, h4⟩
  have H4 := Lib.hid h4; clear h4 sl g1 mk g6 gs
  go_wp2
  go_ret
  exact ⟨s, rfl, (B4.out.setCell (p := ⟨D, 8, none⟩) (.inl rfl) _).trans H4.out⟩

end Go.Proofs.YtinfkihnedpdnaaGreatDoor
