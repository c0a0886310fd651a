/- The contract of parseIHDR over a head whose colour type and bits are none of the fifteen kinds: an UnsupportedError. -/
import Derived.Test.YtinfkihnedpdnaaGreatDoorHeader
namespace Go.Proofs.YtinfkihnedpdnaaGreatDoor
open Go.RowKit

def head13 (W H d c : Int) : List Value := [.int .u8 0, .int .u8 0, .int .u8 0, .int .u8 W, .int .u8 0, .int .u8 0, .int .u8 0, .int .u8 H, .int .u8 d, .int .u8 c, .int .u8 0, .int .u8 0, .int .u8 0]

theorem head13_byte (W H d c : Int) (hW0 : 1 ≤ W) (hW1 : W ≤ 20) (hH0 : 1 ≤ H) (hH1 : H ≤ 20) (hd0 : 0 ≤ d) (hd1 : d ≤ 255) (hc0 : 0 ≤ c) (hc1 : c ≤ 255) (j : Nat) (hj : j < 13) :
    ∃ b : Int, (head13 W H d c)[j]? = some (.int .u8 b) ∧ 0 ≤ b ∧ b ≤ 255 := by
  match j, hj with
  | 0, _ => exact ⟨0, rfl, by omega, by omega⟩
  | 1, _ => exact ⟨0, rfl, by omega, by omega⟩
  | 2, _ => exact ⟨0, rfl, by omega, by omega⟩
  | 3, _ => exact ⟨W, rfl, by omega, by omega⟩
  | 4, _ => exact ⟨0, rfl, by omega, by omega⟩
  | 5, _ => exact ⟨0, rfl, by omega, by omega⟩
  | 6, _ => exact ⟨0, rfl, by omega, by omega⟩
  | 7, _ => exact ⟨H, rfl, by omega, by omega⟩
  | 8, _ => exact ⟨d, rfl, by omega, by omega⟩
  | 9, _ => exact ⟨c, rfl, by omega, by omega⟩
  | 10, _ => exact ⟨0, rfl, by omega, by omega⟩
  | 11, _ => exact ⟨0, rfl, by omega, by omega⟩
  | 12, _ => exact ⟨0, rfl, by omega, by omega⟩
  | n + 13, h => exact absurd h (by omega)

theorem kind_no (c d : Int) (h : kindB c d = false) :
    (d = 1 ∧ (c == 0) = false ∧ (c == 3) = false) ∨ (d = 2 ∧ (c == 0) = false ∧ (c == 3) = false) ∨ (d = 4 ∧ (c == 0) = false ∧ (c == 3) = false) ∨
    (d = 8 ∧ (c == 0) = false ∧ (c == 2) = false ∧ (c == 3) = false ∧ (c == 4) = false ∧ (c == 6) = false) ∨
    (d = 16 ∧ (c == 0) = false ∧ (c == 2) = false ∧ (c == 4) = false ∧ (c == 6) = false) ∨
    ((d == 1) = false ∧ (d == 2) = false ∧ (d == 4) = false ∧ (d == 8) = false ∧ (d == 16) = false) := by
  unfold kindB at h
  simp only [beq_eq_false_iff_ne]
  split at h
  · simp at h; omega
  · split at h
    · simp at h; omega
    · split at h
      · simp at h; omega
      · omega

def BeAt (w : World) (D off : Nat) (x : Int) : Prop :=
  w.cell? ⟨D, off, none⟩ = some (.int .u8 0) ∧ w.cell? ⟨D, off + 1, none⟩ = some (.int .u8 0) ∧ w.cell? ⟨D, off + 2, none⟩ = some (.int .u8 0) ∧ w.cell? ⟨D, off + 3, none⟩ = some (.int .u8 x)

theorem be_at (D off cap : Nat) (x : Int) (w : World) (h0 : 0 ≤ x) (h1 : x ≤ 255) (h : BeAt w D off x) :
    Calls Tryz.prog 25 #[.slice (some ⟨D, off, none⟩) 4 cap] w fun e w' => e = .returned (.int .u32 x) ∧ ∃ n, w' = w.drewN n := be_small D off cap x w h0 h1 h.1 h.2.1 h.2.2.1 h.2.2.2

/-- Some UnsupportedError; of what was there only the three blocks may have turned. -/
def Unsup (w w' : World) (D R C : Nat) (e : Ending) : Prop :=
  ∃ s : ByteArray, e = .returned (.iface 74 (.string s)) ∧ Kept (fun k => k = D ∨ k = R ∨ k = C) w w'

set_option maxRecDepth 100000 in
set_option maxHeartbeats 2000000 in
theorem ihdr_any (D R C A len cap : Nat) (p c0 : Int) (v5 v7 v778 : Value) (W H d c : Int) (L : List Value) (w : World) (hin : 16 + 13 ≤ len) (hlen : len ≤ 1000) (hcap : len ≤ cap)
    (hR : RdAt w R A len cap (16 : Nat) p) (hD : Blk w D 67 L.toArray) (hC : Blk w C 61 #[.int .u32 c0]) (hT : Tab w) (hL : L.length = 786) (hL0 : L[0]? = some (.iface 45 (.pointer (some ⟨R, 0, none⟩))))
    (hL2 : L[2]? = some (.pointer (some ⟨C, 0, none⟩))) (hL5 : L[5]? = some v5) (hL7 : L[7]? = some v7) (hL778 : L[778]? = some v778)
    (hsrc : ∀ j v, (head13 W H d c)[j]? = some v → w.cell? ⟨A, 16 + j, none⟩ = some v) (hAR : A ≠ R) (h3D : D ≠ 3) (h3R : R ≠ 3) (h3C : C ≠ 3)
    (hW0 : 1 ≤ W) (hW1 : W ≤ 20) (hH0 : 1 ≤ H) (hH1 : H ≤ 20) (hd0 : 0 ≤ d) (hd1 : d ≤ 255) (hc0 : 0 ≤ c) (hc1 : c ≤ 255) (hk : kindB c d = false) :
    Calls Tryz.prog 28 #[.pointer (some ⟨D, 0, none⟩), .int .u32 13] w fun e w' => Unsup w w' D R C e := by
  have d0 : w.cell? ⟨D, 0, none⟩ = some (.iface 45 (.pointer (some ⟨R, 0, none⟩))) := by rw [hD.cell 0]; simpa using hL0
  have HR : Hid (RdAt w.drew R A len cap (16 : Nat) p) := hR; have HD : Hid (Blk w.drew D 67 L.toArray) := hD; have HL := Lib.hid hL
  have HS : Hid (∀ j v, (head13 W H d c)[j]? = some v → w.drew.cell? ⟨A, 16 + j, none⟩ = some v) := hsrc
  have HC := Lib.hid hC; have HT := Lib.hid hT; have HK := Lib.hid hk
  have hDR : D ≠ R := hD.ne_ hR (by decide)
  have hDC : D ≠ C := hD.ne_ hC (by decide)
  have hRC : R ≠ C := hR.ne_ hC (by decide)
  have K0 := Lib.hid hL0; have K2 := Lib.hid hL2; have K5 := Lib.hid hL5; have K7 := Lib.hid hL7; have K778 := Lib.hid hL778
  clear hR hD hC hT hL hsrc hk hL0 hL2 hL5 hL7 hL778
  go_enter Tryz.func28, Tryz.ntmps28
  go_wp2
  go_region_with (go_at_call 24; (refine (full_any D R A len cap 13 16 768 p L (head13 W H d c) w.drew (by decide) (by omega) hlen hcap (by decide) HR.out HD.out (by rw [HL.out]; decide) rfl (by simp [head13, Value.oneCell']) HS.out hAR).mono ?_); rintro e w1 ⟨rfl, h1, h2, h3⟩)
  have k1 : Kept (fun k => k = D ∨ k = R) w w1 := ((Kept.refl _ w).drew).trans h3
  have hc : Blk w1 C 61 #[.int .u32 c0] := HC.out.kept k1 (by rintro (h | h); exact hDC h.symm; exact hRC h.symm)
  have H2 := Lib.hid h2; have H3 := Lib.hid k1; have HCC := Lib.hid hc; clear h1 h2 h3 k1 hc HR HD HS d0
  have e2 : w1.cell? ⟨D, 2, none⟩ = some (.pointer (some ⟨C, 0, none⟩)) := by
    rw [H2.out.cell, List.getElem?_toArray, splice_out (by rw [HL.out]; simp [head13]) (.inl (by decide))]; exact K2.out
  go_wp2
  have hb : Bytes w1.drew D 10 13 := by
    intro j hj
    have e := H2.out.cell (10 + j)
    rw [List.getElem?_toArray, splice_in (by rw [HL.out]; simp [head13]) (by simpa [head13] using hj)] at e
    obtain ⟨b, hb, h0, h1⟩ := head13_byte W H d c hW0 hW1 hH0 hH1 hd0 hd1 hc0 hc1 j hj
    exact ⟨b, e.trans hb, h0, h1⟩
  have ht : Tab w1.drew := fun k hk => by
    obtain ⟨z, hz, h0, h1⟩ := HT.out k hk
    exact ⟨z, H3.out.cell hz (by rintro (h | h); exact h3D h.symm; exact h3R h.symm), h0, h1⟩
  have HBy := Lib.hid hb; have HTa := Lib.hid ht; clear hb ht
  go_region_with (go_at_call 27; (refine (write_any C D 10 13 768 c0 w1.drew (by decide) HBy.out HTa.out (HCC.out.cell 0) (HCC.out.frozen 0)).mono ?_); rintro e w2 ⟨c', hc'0, hc'1, rfl, rfl⟩)
  have hD2 : Blk ((w1.setCell ⟨C, 0, none⟩ (.int .u32 c')).drew) D 67 (splice L 10 (head13 W H d c)).toArray := H2.out.far (p := ⟨C, 0, none⟩) hDC (.int .u32 c')
  have k2 : Kept (fun k => k = D ∨ k = R ∨ k = C) w ((w1.setCell ⟨C, 0, none⟩ (.int .u32 c')).drew) :=
    ((H3.out.mono (by rintro k (h | h); exact .inl h; exact .inr (.inl h))).setCell (p := ⟨C, 0, none⟩) (.inr (.inr rfl)) _).drew
  generalize (w1.setCell ⟨C, 0, none⟩ (.int .u32 c')).drew = w2 at hD2 k2 ⊢
  have hIn : ∀ j, j < 13 → w2.cell? ⟨D, 10 + j, none⟩ = (head13 W H d c)[j]? := fun j hj => by
    rw [hD2.cell, List.getElem?_toArray, splice_in (by rw [HL.out]; simp [head13]) (by simpa [head13] using hj)]
  have hOut : ∀ k, k < 10 ∨ 23 ≤ k → w2.cell? ⟨D, k, none⟩ = L[k]? := fun k hk => by
    rw [hD2.cell, List.getElem?_toArray, splice_out (by rw [HL.out]; simp [head13]) (by simpa [head13] using hk)]
  have c10 : w2.cell? ⟨D, 10, none⟩ = some (.int .u8 0) := (hIn 0 (by decide)).trans rfl
  have c11 : w2.cell? ⟨D, 11, none⟩ = some (.int .u8 0) := (hIn 1 (by decide)).trans rfl
  have c12 : w2.cell? ⟨D, 12, none⟩ = some (.int .u8 0) := (hIn 2 (by decide)).trans rfl
  have c13 : w2.cell? ⟨D, 13, none⟩ = some (.int .u8 W) := (hIn 3 (by decide)).trans rfl
  have c14 : w2.cell? ⟨D, 14, none⟩ = some (.int .u8 0) := (hIn 4 (by decide)).trans rfl
  have c15 : w2.cell? ⟨D, 15, none⟩ = some (.int .u8 0) := (hIn 5 (by decide)).trans rfl
  have c16 : w2.cell? ⟨D, 16, none⟩ = some (.int .u8 0) := (hIn 6 (by decide)).trans rfl
  have c17 : w2.cell? ⟨D, 17, none⟩ = some (.int .u8 H) := (hIn 7 (by decide)).trans rfl
  have c18 : w2.cell? ⟨D, 18, none⟩ = some (.int .u8 d) := (hIn 8 (by decide)).trans rfl
  have c19 : w2.cell? ⟨D, 19, none⟩ = some (.int .u8 c) := (hIn 9 (by decide)).trans rfl
  have c20 : w2.cell? ⟨D, 20, none⟩ = some (.int .u8 0) := (hIn 10 (by decide)).trans rfl
  have c21 : w2.cell? ⟨D, 21, none⟩ = some (.int .u8 0) := (hIn 11 (by decide)).trans rfl
  have c22 : w2.cell? ⟨D, 22, none⟩ = some (.int .u8 0) := (hIn 12 (by decide)).trans rfl
  have c5 : w2.cell? ⟨D, 5, none⟩ = some v5 := (hOut 5 (by decide)).trans K5.out
  have c7 : w2.cell? ⟨D, 7, none⟩ = some v7 := (hOut 7 (by decide)).trans K7.out
  have c778 : w2.cell? ⟨D, 778, none⟩ = some v778 := (hOut 778 (by decide)).trans K778.out
  have f5 := hD2.frozen 5
  have f7 := hD2.frozen 7
  have f778 := hD2.frozen 778
  have HK2 := Lib.hid k2
  clear hIn hOut hD2 k2 H2 H3 HCC e2 HBy HTa HC HT K0 K2 K5 K7 K778
  have p0 : 1 ≤ W * H := by have := Int.mul_le_mul hW0 hH0 (by omega) (by omega); omega
  have p1 : W * H ≤ 400 := by have := Int.mul_le_mul hW1 hH1 (by omega) (by omega); omega
  have hb1 : BeAt (w2.setCell ⟨D, 778, none⟩ (.int .i64 0)) D 10 W := ⟨by rw [World.cell?_setCell_other _ _ _ _ (by simp)]; exact c10, by rw [World.cell?_setCell_other _ _ _ _ (by simp)]; exact c11, by rw [World.cell?_setCell_other _ _ _ _ (by simp)]; exact c12, by rw [World.cell?_setCell_other _ _ _ _ (by simp)]; exact c13⟩
  have hb2 : BeAt (w2.setCell ⟨D, 778, none⟩ (.int .i64 0)) D 14 H := ⟨by rw [World.cell?_setCell_other _ _ _ _ (by simp)]; exact c14, by rw [World.cell?_setCell_other _ _ _ _ (by simp)]; exact c15, by rw [World.cell?_setCell_other _ _ _ _ (by simp)]; exact c16, by rw [World.cell?_setCell_other _ _ _ _ (by simp)]; exact c17⟩
  go_wp2_with fail
  (with_reducible refine (be_at D 10 768 W _ (by omega) (by omega) hb1).mono ?_)
  rintro e w3 ⟨rfl, n1, rfl⟩
  go_wp2_with fail
  (with_reducible refine (be_at D 14 764 H _ (by omega) (by omega) ?_).mono ?_)
  · exact hb2
  rintro e w3 ⟨rfl, n2, rfl⟩
  rcases kind_no c d HK.out with ⟨rfl, g0, g3⟩ | ⟨rfl, g0, g3⟩ | ⟨rfl, g0, g3⟩ | ⟨rfl, g0, g2, g3, g4, g6⟩ | ⟨rfl, g0, g2, g4, g6⟩ | ⟨g1, g2, g4, g8, g16⟩
  all_goals
    go_wp2
    go_ret
    exact ⟨_, rfl, by repeat (first | exact HK2.out | refine Kept.setCell ?_ (.inl rfl) _ | refine Kept.drewN ?_ _)⟩

end Go.Proofs.YtinfkihnedpdnaaGreatDoor
