/- The contracts of impl.decoded, impl.Decode and the law's told over a file whose head has none of the fifteen kinds: the code 2 beside no picture. Their conditions are what the variables io.EOF, errors.errorType and ieeeTable hold. -/
import Derived.Test.YtinfkihnedpdnaaGreatDoorImpl
namespace Go.Proofs.YtinfkihnedpdnaaGreatDoor
open Go.RowKit

/-- The cells of no picture. -/
abbrev pic0 : Array Value := #[.int .i64 0, .int .i64 0, .int .i64 0, .int .i64 0, .int .i64 0, .int .i64 0, .slice none 0 0, .slice none 0 0]

def Decoded (w w' : World) (R : Nat) (e : Ending) : Prop := e = .returned (.tuple #[.agg pic0, .int .i64 2]) ∧ Kept (fun k => k = R) w w'

set_option maxRecDepth 100000 in
set_option maxHeartbeats 2000000 in
theorem decoded_any (R A len cap : Nat) (p : Int) (W H d c : Int) (w : World) (hin : 29 ≤ len) (hlen : len ≤ 1000) (hcap : len ≤ cap)
    (hR : RdAt w R A len cap (0 : Nat) p) (hF : FileAt w A W H d c) (hV : Vars w) (hAR : A ≠ R) (h3R : 3 < R)
    (hW0 : 1 ≤ W) (hW1 : W ≤ 20) (hH0 : 1 ≤ H) (hH1 : H ≤ 20) (hd0 : 0 ≤ d) (hd1 : d ≤ 255) (hc0 : 0 ≤ c) (hc1 : c ≤ 255) (hk : kindB c d = false) :
    Calls Tryz.prog 23 #[.iface 45 (.pointer (some ⟨R, 0, none⟩))] w fun e w' => Decoded w w' R e := by
  have lR : R < w.heap.size := hR.lt
  have HR := Lib.hid hR; have HF := Lib.hid hF; have HV := Lib.hid hV; have HK := Lib.hid hk
  clear hR hF hV hk
  go_enter Tryz.func23, Tryz.ntmps23
  go_wp2_with fail
  have kA : Kept (fun _ => False) w (w.alloc (.cells #[.int .i64 0, .int .i64 0, .int .i64 0, .int .i64 0, .int .i64 0, .int .i64 0, .slice none 0 0, .slice none 0 0] 52)) := (Kept.refl _ w).alloc _
  have bA : Blk (w.alloc (.cells #[.int .i64 0, .int .i64 0, .int .i64 0, .int .i64 0, .int .i64 0, .int .i64 0, .slice none 0 0, .slice none 0 0] 52)) w.heap.size 52 #[.int .i64 0, .int .i64 0, .int .i64 0, .int .i64 0, .int .i64 0, .int .i64 0, .slice none 0 0, .slice none 0 0] := Blk.new w 52 _
  refine (decode_any R A len cap p W H d c _ hin hlen hcap (HR.out.kept kA id) (HF.out.kept kA id) (HV.out.kept kA (fun _ _ h => h)).tab (HV.out.kept kA (fun _ _ h => h)).eof hAR h3R hW0 hW1 hH0 hH1 hd0 hd1 hc0 hc1 HK.out).mono ?_
  rintro e w1 ⟨s, rfl, k1⟩
  have B1 : Hid (Blk w1 w.heap.size 52 #[.int .i64 0, .int .i64 0, .int .i64 0, .int .i64 0, .int .i64 0, .int .i64 0, .slice none 0 0, .slice none 0 0]) := bA.kept k1 (by omega)
  have V1 : Hid (Vars w1) := (HV.out.kept kA (fun _ _ h => h)).kept k1 (fun i hi h => by omega)
  have K1 : Hid (Kept (fun k => k = R) w w1) := kept_after (kA.mono (fun _ h => h.elim)) k1 (fun i h => .inr h)
  clear kA bA k1
  go_wp2_with fail
  refine (codeOf_unsup s _ V1.out.handle).mono ?_
  rintro e w2 ⟨rfl, k2⟩
  have B : Blk w2 w.heap.size 52 #[.int .i64 0, .int .i64 0, .int .i64 0, .int .i64 0, .int .i64 0, .int .i64 0, .slice none 0 0, .slice none 0 0] := B1.out.kept k2 id
  have z0 := B.cell 0
  have y0 := B.frozen 0
  have z1 := B.cell 1
  have y1 := B.frozen 1
  have z2 := B.cell 2
  have y2 := B.frozen 2
  have z3 := B.cell 3
  have y3 := B.frozen 3
  have z4 := B.cell 4
  have y4 := B.frozen 4
  have z5 := B.cell 5
  have y5 := B.frozen 5
  have z6 := B.cell 6
  have y6 := B.frozen 6
  have z7 := B.cell 7
  have y7 := B.frozen 7
  have K2 : Hid (Kept (fun k => k = R) w w2) := kept_after K1.out k2 (fun i h => h.elim)
  clear B k2 B1 V1 K1
  go_wp2
  refine bodyPost_ret (v := .tuple #[.agg pic0, .int .i64 2]) (by simp [results, Tryz.results23, go_sem, z0, z1, z2, z3, z4, z5, z6, z7]) rfl ⟨rfl, ?_⟩
  refine kept_after (T := fun k => k = w.heap.size) K2.out ?_ (by rintro i rfl; exact .inl (Nat.le_refl _))
  exact (((((((((Kept.refl (fun k => k = w.heap.size) w2).setCell (p := ⟨w.heap.size, 0, none⟩) rfl _).setCell (p := ⟨w.heap.size, 1, none⟩) rfl _).setCell (p := ⟨w.heap.size, 2, none⟩) rfl _).setCell (p := ⟨w.heap.size, 3, none⟩) rfl _).setCell (p := ⟨w.heap.size, 4, none⟩) rfl _).setCell (p := ⟨w.heap.size, 5, none⟩) rfl _).setCell (p := ⟨w.heap.size, 6, none⟩) rfl _).setCell (p := ⟨w.heap.size, 7, none⟩) rfl _)

end Go.Proofs.YtinfkihnedpdnaaGreatDoor
