/- The contracts of impl.DecodeConfig, impl.decoded and impl.Decode over a file whose head has none of the fifteen kinds: the code 2 beside zero values. Their conditions are what the variables io.EOF, errors.errorType and ieeeTable hold. -/
import Derived.Test.YtinfkihnedpdnaaGreatDoorChunkOf
import Derived.Test.YtinfkihnedpdnaaGreatDoorWhole
namespace Go.Proofs.YtinfkihnedpdnaaGreatDoor
open Go.RowKit

set_option maxHeartbeats 400000 in
theorem newReader_any (v : Value) (a : Addr) (n cap : Nat) (hv : v = .slice (some a) n cap) (w : World) :
    Calls Tryz.prog 13 #[v] w fun e w' => e = .returned (.pointer (some ⟨w.heap.size, 0, none⟩)) ∧ w' = w.alloc (.cells #[.slice (some a) n cap, .int .i64 0, .int .i64 (-1)] 72) := by
  subst hv
  go_enter Tryz.func13, Tryz.ntmps13
  go_wp2
  go_ret
  exact ⟨rfl, rfl⟩

/-- The bytes of a file: the signature, the head's chunk, and whatever else. -/
structure FileOf (fs : List Value) (W H d c : Int) : Prop where
  sig : ∀ j v, sig8[j]? = some v → fs[0 + j]? = some v
  name : ∀ j v, name8[j]? = some v → fs[8 + j]? = some v
  head : ∀ j v, (head13 W H d c)[j]? = some v → fs[16 + j]? = some v
  one : ∀ u ∈ fs, u.oneCell' = true

theorem FileOf.at {fs : List Value} {W H d c : Int} (h : FileOf fs W H d c) {w : World} {A : Nat} (hc : ∀ j u, fs[j]? = some u → w.cell? ⟨A, j, none⟩ = some u) : FileAt w A W H d c :=
  ⟨fun j v hj => hc _ _ (h.sig j v hj), fun j v hj => hc _ _ (h.name j v hj), fun j v hj => hc _ _ (h.head j v hj)⟩

/-- What the variables hold that the program reads. -/
structure Vars (w : World) : Prop where
  tab : Tab w
  eof : Eof w
  handle : Handle w
theorem Vars.kept {S : Nat → Prop} {a b : World} (h : Vars a) (k : Kept S a b) (hs : ∀ i, i < 4 → ¬ S i) : Vars b :=
  ⟨h.tab.kept k (hs 3 (by decide)), h.eof.kept k (hs 0 (by decide)), handle_kept h.handle k (hs 2 (by decide))⟩

set_option maxRecDepth 100000 in
set_option maxHeartbeats 2000000 in
theorem implConfig_any (base n : Nat) (v : Value) (fs : List Value) (W H d c : Int) (w : World) (hrow : RowC w base n v fs) (hn0 : 29 ≤ n) (hn1 : n ≤ 1000) (hf : FileOf fs W H d c) (hV : Vars w)
    (hW0 : 1 ≤ W) (hW1 : W ≤ 20) (hH0 : 1 ≤ H) (hH1 : H ≤ 20) (hd0 : 0 ≤ d) (hd1 : d ≤ 255) (hc0 : 0 ≤ c) (hc1 : c ≤ 255) (hk : kindB c d = false) :
    Calls Tryz.prog 8 #[v] w fun e w' => Quiet w w' (.tuple #[.agg #[.int .i64 0, .int .i64 0, .int .i64 0, .slice none 0 0], .int .i64 2]) e := by
  obtain ⟨g, gcap, rfl, hg1, hg2, hg3, hg4, hg5⟩ := hrow
  have HG := Lib.hid hg5; have HL := Lib.hid hg4; have HF := Lib.hid hf; have HV := Lib.hid hV; have HK := Lib.hid hk
  have l3 := hV.tab.lt
  clear hg4 hg5 hf hV hk
  go_enter Tryz.func8, Tryz.ntmps8
  go_wp2_with fail
  have kA : Kept (fun _ => False) w (w.alloc (.cells #[.int .i64 0, .int .i64 0, .int .i64 0, .slice none 0 0] 30)) := (Kept.refl _ w).alloc _
  have bA : Blk (w.alloc (.cells #[.int .i64 0, .int .i64 0, .int .i64 0, .slice none 0 0] 30)) w.heap.size 30 #[.int .i64 0, .int .i64 0, .int .i64 0, .slice none 0 0] := Blk.new w 30 _
  refine (clone_any g n gcap fs _ hn1 HL.out (fun j u hj => kA.cell (HG.out j u hj) id) HF.out.one).mono ?_
  rintro e w2 ⟨v1, rfl, own2, k2⟩
  obtain ⟨A, cap2, rfl, hA1, hA2, hA3, hA4, hA5⟩ := row_form own2 (by omega)
  have k2' : Kept (fun _ => False) w w2 := kA.trans k2
  have B2 : Hid (Blk w2 w.heap.size 30 #[.int .i64 0, .int .i64 0, .int .i64 0, .slice none 0 0]) := bA.kept k2 id
  have K2 := Lib.hid k2'; have HA := Lib.hid hA5
  have l2 : w.heap.size + 1 ≤ w2.heap.size := by have := k2.size; rwa [World.size_alloc] at this
  rw [World.size_alloc] at hA1
  clear kA bA own2 k2 k2' hA4 hA5
  go_wp2_with fail
  refine (newReader_any _ _ _ _ rfl _).mono ?_
  rintro e w3 ⟨rfl, rfl⟩
  have kB : Kept (fun _ => False) w2 (w2.alloc (.cells #[.slice (some ⟨A, 0, none⟩) n cap2, .int .i64 0, .int .i64 (-1)] 72)) := (Kept.refl _ w2).alloc _
  have bB : RdAt (w2.alloc (.cells #[.slice (some ⟨A, 0, none⟩) n cap2, .int .i64 0, .int .i64 (-1)] 72)) w2.heap.size A n cap2 (0 : Nat) (-1) := Blk.new w2 72 _
  have vB : Vars (w2.alloc (.cells #[.slice (some ⟨A, 0, none⟩) n cap2, .int .i64 0, .int .i64 (-1)] 72)) := HV.out.kept (K2.out.trans kB) (fun _ _ h => h)
  have fB : FileAt (w2.alloc (.cells #[.slice (some ⟨A, 0, none⟩) n cap2, .int .i64 0, .int .i64 (-1)] 72)) A W H d c := HF.out.at (fun j u hj => kB.cell (HA.out j u hj) id)
  have B3 : Hid (Blk (w2.alloc (.cells #[.slice (some ⟨A, 0, none⟩) n cap2, .int .i64 0, .int .i64 (-1)] 72)) w.heap.size 30 #[.int .i64 0, .int .i64 0, .int .i64 0, .slice none 0 0]) := B2.out.kept kB id
  have K3 := Lib.hid (K2.out.trans kB); have HR := Lib.hid bB; have VB := Lib.hid vB; have FB := Lib.hid fB
  have l3' : (w2.alloc (.cells #[.slice (some ⟨A, 0, none⟩) n cap2, .int .i64 0, .int .i64 (-1)] 72)).heap.size = w2.heap.size + 1 := World.size_alloc _ _
  have L3 := Lib.hid l3'
  clear kB bB vB fB B2 HA l3'
  go_wp2_with fail
  refine (config_any w2.heap.size A n cap2 (-1) W H d c _ hn0 hn1 hA3 HR.out FB.out VB.out.tab VB.out.eof (by omega) (by omega) hW0 hW1 hH0 hH1 hd0 hd1 hc0 hc1 HK.out).mono ?_
  rintro e w4 ⟨s, rfl, k4⟩
  have b4 : Blk w4 w.heap.size 30 #[.int .i64 0, .int .i64 0, .int .i64 0, .slice none 0 0] := B3.out.kept k4 (by omega)
  have v4 : Vars w4 := VB.out.kept k4 (fun i hi h => by omega)
  have k4' : Kept (fun _ => False) w w4 := kept_after K3.out k4 (by rintro i rfl; exact .inl (by omega))
  have B4 := Lib.hid b4; have V4 := Lib.hid v4; have K4 := Lib.hid k4'
  clear b4 v4 k4 k4' B3 K3 HR VB FB L3
  go_wp2_with fail
  have kC : Kept (fun _ => False) w4 (w4.alloc (.cells #[.int .i64 0, .slice none 0 0, .int .i64 0, .int .i64 0] 40)) := (Kept.refl _ w4).alloc _
  refine (codeOf_unsup s _ (V4.out.kept kC (fun _ _ h => h)).handle).mono ?_
  rintro e w5 ⟨rfl, k5⟩
  have b5 : Blk w5 w.heap.size 30 #[.int .i64 0, .int .i64 0, .int .i64 0, .slice none 0 0] := (B4.out.kept kC id).kept k5 id
  have z0 := b5.cell 0
  have z1 := b5.cell 1
  have z2 := b5.cell 2
  have z3 := b5.cell 3
  have y0 := b5.frozen 0
  have y1 := b5.frozen 1
  have y2 := b5.frozen 2
  have y3 := b5.frozen 3
  have K5 := Lib.hid ((K4.out.trans kC).trans k5)
  clear b5 k5 kC B4 V4 K4
  go_wp2
  refine bodyPost_ret (v := .tuple #[.agg #[.int .i64 0, .int .i64 0, .int .i64 0, .slice none 0 0], .int .i64 2]) (by simp [results, Tryz.results8, go_sem, z0, z1, z2, z3]) rfl ⟨rfl, ?_⟩
  refine kept_after (T := fun k => k = w.heap.size) K5.out ?_ (by rintro i rfl; exact .inl (Nat.le_refl _))
  exact ((((Kept.refl (fun k => k = w.heap.size) w5).setCell (p := ⟨w.heap.size, 0, none⟩) rfl _).setCell (p := ⟨w.heap.size, 1, none⟩) rfl _).setCell (p := ⟨w.heap.size, 2, none⟩) rfl _).setCell (p := ⟨w.heap.size, 3, none⟩) rfl _

end Go.Proofs.YtinfkihnedpdnaaGreatDoor
