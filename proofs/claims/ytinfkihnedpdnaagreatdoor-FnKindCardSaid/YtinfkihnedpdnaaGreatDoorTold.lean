/- The contracts of impl.Decode and the law's told over a file whose head has none of the fifteen kinds: the code 2 beside no picture. Their conditions are what the variables io.EOF, errors.errorType and ieeeTable hold. -/
import Derived.Test.YtinfkihnedpdnaaGreatDoorDecoded
namespace Go.Proofs.YtinfkihnedpdnaaGreatDoor
open Go.RowKit

set_option maxRecDepth 100000 in
set_option maxHeartbeats 2000000 in
theorem implDecode_any (base n : Nat) (v : Value) (fs : List Value) (W H d c : Int) (w : World) (hrow : RowC w base n v fs) (hn0 : 29 ≤ n) (hn1 : n ≤ 1000) (hf : FileOf fs W H d c) (hV : Vars w)
    (hW0 : 1 ≤ W) (hW1 : W ≤ 20) (hH0 : 1 ≤ H) (hH1 : H ≤ 20) (hd0 : 0 ≤ d) (hd1 : d ≤ 255) (hc0 : 0 ≤ c) (hc1 : c ≤ 255) (hk : kindB c d = false) :
    Calls Tryz.prog 18 #[v] w fun e w' => Quiet w w' (.tuple #[.agg pic0, .int .i64 2]) e := by
  obtain ⟨g, gcap, rfl, hg1, hg2, hg3, hg4, hg5⟩ := hrow
  have HG := Lib.hid hg5; have HL := Lib.hid hg4; have HF := Lib.hid hf; have HV := Lib.hid hV; have HK := Lib.hid hk
  have l3 := hV.tab.lt
  clear hg4 hg5 hf hV hk
  go_enter Tryz.func18, Tryz.ntmps18
  go_wp2_with fail
  have kA : Kept (fun _ => False) w (w.alloc (.cells #[.int .i64 0, .int .i64 0, .int .i64 0, .int .i64 0, .int .i64 0, .int .i64 0, .slice none 0 0, .slice none 0 0] 52)) := (Kept.refl _ w).alloc _
  have bA : Blk (w.alloc (.cells #[.int .i64 0, .int .i64 0, .int .i64 0, .int .i64 0, .int .i64 0, .int .i64 0, .slice none 0 0, .slice none 0 0] 52)) w.heap.size 52 #[.int .i64 0, .int .i64 0, .int .i64 0, .int .i64 0, .int .i64 0, .int .i64 0, .slice none 0 0, .slice none 0 0] := Blk.new w 52 _
  refine (clone_any g n gcap fs _ hn1 HL.out (fun j u hj => kA.cell (HG.out j u hj) id) HF.out.one).mono ?_
  rintro e w2 ⟨v1, rfl, own2, k2⟩
  obtain ⟨A, cap2, rfl, hA1, hA2, hA3, hA4, hA5⟩ := row_form own2 (by omega)
  have k2' : Kept (fun _ => False) w w2 := kA.trans k2
  have B2 : Hid (Blk w2 w.heap.size 52 #[.int .i64 0, .int .i64 0, .int .i64 0, .int .i64 0, .int .i64 0, .int .i64 0, .slice none 0 0, .slice none 0 0]) := bA.kept k2 id
  have K2 := Lib.hid k2'; have HA := Lib.hid hA5
  have l2 : w.heap.size + 1 ≤ w2.heap.size := by have := k2.size; rwa [World.size_alloc] at this
  rw [World.size_alloc] at hA1
  clear kA bA own2 k2 k2' hA4 hA5
  go_wp2_with fail
  refine (newReader_any _ _ _ _ rfl _).mono ?_
  rintro e w3 ⟨rfl, rfl⟩
  have kB : Kept (fun _ => False) w2 (w2.alloc (.cells #[.slice (some ⟨A, 0, none⟩) n cap2, .int .i64 0, .int .i64 (-1)] 72)) := (Kept.refl _ w2).alloc _
  have bB : RdAt (w2.alloc (.cells #[.slice (some ⟨A, 0, none⟩) n cap2, .int .i64 0, .int .i64 (-1)] 72)) w2.heap.size A n cap2 (0 : Nat) (-1) := Blk.new w2 72 _
  have vB : Vars (w2.alloc (.cells #[.slice (some ⟨A, 0, none⟩) n cap2, .int .i64 0, .int .i64 (-1)] 72)) := HV.out.kept (K2.out.trans kB) (fun _ _ h => h)
  have fB : FileAt (w2.alloc (.cells #[.slice (some ⟨A, 0, none⟩) n cap2, .int .i64 0, .int .i64 (-1)] 72)) A W H d c := HF.out.at (fun j u hj => kB.cell (HA.out j u hj) id)
  have B3 : Hid (Blk (w2.alloc (.cells #[.slice (some ⟨A, 0, none⟩) n cap2, .int .i64 0, .int .i64 (-1)] 72)) w.heap.size 52 #[.int .i64 0, .int .i64 0, .int .i64 0, .int .i64 0, .int .i64 0, .int .i64 0, .slice none 0 0, .slice none 0 0]) := B2.out.kept kB id
  have K3 := Lib.hid (K2.out.trans kB); have HR := Lib.hid bB; have VB := Lib.hid vB; have FB := Lib.hid fB
  clear kB bB vB fB B2 HA
  go_wp2_with fail
  refine (decoded_any w2.heap.size A n cap2 (-1) W H d c _ hn0 hn1 hA3 HR.out FB.out VB.out (by omega) (by omega) hW0 hW1 hH0 hH1 hd0 hd1 hc0 hc1 HK.out).mono ?_
  rintro e w4 ⟨rfl, k4⟩
  have B : Blk w4 w.heap.size 52 #[.int .i64 0, .int .i64 0, .int .i64 0, .int .i64 0, .int .i64 0, .int .i64 0, .slice none 0 0, .slice none 0 0] := B3.out.kept k4 (by omega)
  have z0 := B.cell 0
  have y0 := B.frozen 0
  have z1 := B.cell 1
  have y1 := B.frozen 1
  have z2 := B.cell 2
  have y2 := B.frozen 2
  have z3 := B.cell 3
  have y3 := B.frozen 3
  have z4 := B.cell 4
  have y4 := B.frozen 4
  have z5 := B.cell 5
  have y5 := B.frozen 5
  have z6 := B.cell 6
  have y6 := B.frozen 6
  have z7 := B.cell 7
  have y7 := B.frozen 7
  have K4 : Hid (Kept (fun _ => False) w w4) := kept_after K3.out k4 (by rintro i rfl; exact .inl (by omega))
  clear B k4 B3 K3 HR VB FB
  go_wp2
  refine bodyPost_ret (v := .tuple #[.agg pic0, .int .i64 2]) (by simp [results, Tryz.results18, go_sem, z0, z1, z2, z3, z4, z5, z6, z7]) rfl ⟨rfl, ?_⟩
  refine kept_after (T := fun k => k = w.heap.size) K4.out ?_ (by rintro i rfl; exact .inl (Nat.le_refl _))
  exact (((((((((Kept.refl (fun k => k = w.heap.size) w4).setCell (p := ⟨w.heap.size, 0, none⟩) rfl _).setCell (p := ⟨w.heap.size, 1, none⟩) rfl _).setCell (p := ⟨w.heap.size, 2, none⟩) rfl _).setCell (p := ⟨w.heap.size, 3, none⟩) rfl _).setCell (p := ⟨w.heap.size, 4, none⟩) rfl _).setCell (p := ⟨w.heap.size, 5, none⟩) rfl _).setCell (p := ⟨w.heap.size, 6, none⟩) rfl _).setCell (p := ⟨w.heap.size, 7, none⟩) rfl _)

set_option maxRecDepth 100000 in
set_option maxHeartbeats 2000000 in
theorem told_any (base n : Nat) (v : Value) (fs : List Value) (W H d c : Int) (w : World) (hrow : RowC w base n v fs) (hn0 : 29 ≤ n) (hn1 : n ≤ 1000) (hf : FileOf fs W H d c) (hV : Vars w)
    (hW0 : 1 ≤ W) (hW1 : W ≤ 20) (hH0 : 1 ≤ H) (hH1 : H ≤ 20) (hd0 : 0 ≤ d) (hd1 : d ≤ 255) (hc0 : 0 ≤ c) (hc1 : c ≤ 255) (hk : kindB c d = false) :
    Calls Tryz.prog 9 #[v, .int .i64 2] w fun e w' => Quiet w w' (.bool true) e := by
  have HROW := Lib.hid hrow; have HF := Lib.hid hf; have HV := Lib.hid hV; have HK := Lib.hid hk
  clear hrow hf hV hk
  go_enter Tryz.func9, Tryz.ntmps9
  go_wp2_with fail
  refine (implDecode_any base n v fs W H d c _ HROW.out hn0 hn1 HF.out HV.out hW0 hW1 hH0 hH1 hd0 hd1 hc0 hc1 HK.out).mono ?_
  rintro e w1 ⟨rfl, k1⟩
  have K1 := Lib.hid k1; clear k1
  go_wp2
  go_ret
  exact ⟨rfl, K1.out.alloc _⟩

end Go.Proofs.YtinfkihnedpdnaaGreatDoor
