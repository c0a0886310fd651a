/- The contracts of png.DecodeConfig and png.Decode over a file whose head has none of the fifteen kinds: an UnsupportedError. Their conditions are what the variables io.EOF and ieeeTable hold. -/
import Derived.Test.YtinfkihnedpdnaaGreatDoorChunk
import Derived.Test.YtinfkihnedpdnaaGreatDoorCode
namespace Go.Proofs.YtinfkihnedpdnaaGreatDoor
open Go.RowKit

theorem zero67_size : Tryz.zeroCells67.size = 786 := by kernel_rfl
theorem zero67_5 : Tryz.zeroCells67[5]? = some (.int .i64 0) := by kernel_rfl
theorem zero67_7 : Tryz.zeroCells67[7]? = some (.int .i64 0) := by kernel_rfl
theorem zero67_8 : Tryz.zeroCells67[8]? = some (.int .i64 0) := by kernel_rfl
theorem zero67_778 : Tryz.zeroCells67[778]? = some (.int .i64 0) := by kernel_rfl

/-- A new decoder's cells. -/
noncomputable def dec0 (r c : Value) : List Value := ((Tryz.zeroCells67.setIfInBounds 0 r).setIfInBounds 2 c).toList
theorem dec0_arr (r c : Value) : (dec0 r c).toArray = (Tryz.zeroCells67.setIfInBounds 0 r).setIfInBounds 2 c := by unfold dec0; exact Array.toArray_toList
theorem dec0_len (r c : Value) : (dec0 r c).length = 786 := by simp [dec0, zero67_size]
theorem dec0_0 (r c : Value) : (dec0 r c)[0]? = some r := by simp [dec0, Array.getElem?_setIfInBounds, zero67_size]
theorem dec0_2 (r c : Value) : (dec0 r c)[2]? = some c := by simp [dec0, Array.getElem?_setIfInBounds, zero67_size]
theorem dec0_5 (r c : Value) : (dec0 r c)[5]? = some (.int .i64 0) := by unfold dec0; rw [Array.getElem?_toList, Array.getElem?_setIfInBounds_ne (by decide), Array.getElem?_setIfInBounds_ne (by decide)]; exact zero67_5
theorem dec0_7 (r c : Value) : (dec0 r c)[7]? = some (.int .i64 0) := by unfold dec0; rw [Array.getElem?_toList, Array.getElem?_setIfInBounds_ne (by decide), Array.getElem?_setIfInBounds_ne (by decide)]; exact zero67_7
theorem dec0_8 (r c : Value) : (dec0 r c)[8]? = some (.int .i64 0) := by unfold dec0; rw [Array.getElem?_toList, Array.getElem?_setIfInBounds_ne (by decide), Array.getElem?_setIfInBounds_ne (by decide)]; exact zero67_8
theorem dec0_778 (r c : Value) : (dec0 r c)[778]? = some (.int .i64 0) := by unfold dec0; rw [Array.getElem?_toList, Array.getElem?_setIfInBounds_ne (by decide), Array.getElem?_setIfInBounds_ne (by decide)]; exact zero67_778

/-- The first bytes of the file in block A. -/
structure FileAt (w : World) (A : Nat) (W H d c : Int) : Prop where
  sig : ∀ j v, sig8[j]? = some v → w.cell? ⟨A, 0 + j, none⟩ = some v
  name : ∀ j v, name8[j]? = some v → w.cell? ⟨A, 8 + j, none⟩ = some v
  head : ∀ j v, (head13 W H d c)[j]? = some v → w.cell? ⟨A, 16 + j, none⟩ = some v

theorem FileAt.kept {S : Nat → Prop} {a b : World} {A : Nat} {W H d c : Int} (h : FileAt a A W H d c) (k : Kept S a b) (hs : ¬ S A) : FileAt b A W H d c :=
  ⟨fun j v hj => k.cell (h.sig j v hj) hs, fun j v hj => k.cell (h.name j v hj) hs, fun j v hj => k.cell (h.head j v hj) hs⟩
theorem FileAt.lt {a : World} {A : Nat} {W H d c : Int} (h : FileAt a A W H d c) : A < a.heap.size := World.block_lt_of_cell? a ⟨A, 0 + 0, none⟩ (h.sig 0 _ rfl)
theorem Tab.kept {S : Nat → Prop} {a b : World} (h : Tab a) (k : Kept S a b) (hs : ¬ S 3) : Tab b := fun i hi => by
  obtain ⟨z, hz, h0, h1⟩ := h i hi
  exact ⟨z, k.cell hz hs, h0, h1⟩
theorem Tab.lt {a : World} (h : Tab a) : 3 < a.heap.size := by
  obtain ⟨z, hz, _⟩ := h 0 (by decide)
  exact World.block_lt_of_cell? a ⟨3, 0, none⟩ hz

/-- The variable io.EOF holds an error of errors.New's make. -/
def Eof (w : World) : Prop := ∃ a : Addr, w.cell? ⟨0, 0, none⟩ = some (.iface 253 (.pointer (some a)))
theorem Eof.kept {S : Nat → Prop} {a b : World} (h : Eof a) (k : Kept S a b) (hs : ¬ S 0) : Eof b := by
  obtain ⟨x, hx⟩ := h
  exact ⟨x, k.cell hx hs⟩

theorem eql_eof (s : ByteArray) (a : Addr) (w : World) : (binOp .eql 42 (.iface 74 (.string s)) (.iface 253 (.pointer (some a)))).run Tryz.prog w = .ok (.bool false) w := by kernel_rfl

/-- An UnsupportedError beside the value r; of what was there only block R may have turned. -/
def Refused (w w' : World) (R : Nat) (r : Value) (e : Ending) : Prop := ∃ s : ByteArray, e = .returned (.tuple #[r, .iface 74 (.string s)]) ∧ Kept (fun k => k = R) w w'

set_option maxRecDepth 100000 in
set_option maxHeartbeats 2000000 in
theorem config_any (R A len cap : Nat) (p : Int) (W H d c : Int) (w : World) (hin : 29 ≤ len) (hlen : len ≤ 1000) (hcap : len ≤ cap)
    (hR : RdAt w R A len cap (0 : Nat) p) (hF : FileAt w A W H d c) (hT : Tab w) (hE : Eof w) (hAR : A ≠ R) (h3R : 3 < R)
    (hW0 : 1 ≤ W) (hW1 : W ≤ 20) (hH0 : 1 ≤ H) (hH1 : H ≤ 20) (hd0 : 0 ≤ d) (hd1 : d ≤ 255) (hc0 : 0 ≤ c) (hc1 : c ≤ 255) (hk : kindB c d = false) :
    Calls Tryz.prog 12 #[.iface 45 (.pointer (some ⟨R, 0, none⟩))] w fun e w' => Refused w w' R (.agg #[.int .i64 0, .slice none 0 0, .int .i64 0, .int .i64 0]) e := by
  have lR : R < w.heap.size := hR.lt
  have lA : A < w.heap.size := hF.lt
  have l3 : 3 < w.heap.size := hT.lt
  have HR := Lib.hid hR; have HF := Lib.hid hF; have HT := Lib.hid hT; have HE := Lib.hid hE; have HK := Lib.hid hk
  clear hR hF hT hE hk
  go_enter Tryz.func12, Tryz.ntmps12
  go_wp2_with fail
  have k0 : Kept (fun _ => False) w (((w.alloc (.cells #[.int .i64 0, .slice none 0 0, .int .i64 0, .int .i64 0] 40)).alloc (.cells #[.int .u32 0] 61)).alloc (.cells ((Tryz.zeroCells67.setIfInBounds 0 (.iface 45 (.pointer (some ⟨R, 0, none⟩)))).setIfInBounds 2 (.pointer (some ⟨w.heap.size + 1, 0, none⟩))) 67)) :=
    (((Kept.refl _ w).alloc _).alloc _).alloc _
  have b4 : Blk (((w.alloc (.cells #[.int .i64 0, .slice none 0 0, .int .i64 0, .int .i64 0] 40)).alloc (.cells #[.int .u32 0] 61)).alloc (.cells ((Tryz.zeroCells67.setIfInBounds 0 (.iface 45 (.pointer (some ⟨R, 0, none⟩)))).setIfInBounds 2 (.pointer (some ⟨w.heap.size + 1, 0, none⟩))) 67)) w.heap.size 40 #[.int .i64 0, .slice none 0 0, .int .i64 0, .int .i64 0] :=
    ((Blk.new w 40 _).alloc _).alloc _
  have bC : Blk (((w.alloc (.cells #[.int .i64 0, .slice none 0 0, .int .i64 0, .int .i64 0] 40)).alloc (.cells #[.int .u32 0] 61)).alloc (.cells ((Tryz.zeroCells67.setIfInBounds 0 (.iface 45 (.pointer (some ⟨R, 0, none⟩)))).setIfInBounds 2 (.pointer (some ⟨w.heap.size + 1, 0, none⟩))) 67)) (w.heap.size + 1) 61 #[.int .u32 0] := by
    have e := (Blk.new (w.alloc (.cells #[.int .i64 0, .slice none 0 0, .int .i64 0, .int .i64 0] 40)) 61 #[.int .u32 0])
    rw [World.size_alloc] at e
    exact e.alloc _
  have bD : Blk (((w.alloc (.cells #[.int .i64 0, .slice none 0 0, .int .i64 0, .int .i64 0] 40)).alloc (.cells #[.int .u32 0] 61)).alloc (.cells ((Tryz.zeroCells67.setIfInBounds 0 (.iface 45 (.pointer (some ⟨R, 0, none⟩)))).setIfInBounds 2 (.pointer (some ⟨w.heap.size + 1, 0, none⟩))) 67)) (w.heap.size + 1 + 1) 67 (dec0 (.iface 45 (.pointer (some ⟨R, 0, none⟩))) (.pointer (some ⟨w.heap.size + 1, 0, none⟩))).toArray := by
    have e := (Blk.new ((w.alloc (.cells #[.int .i64 0, .slice none 0 0, .int .i64 0, .int .i64 0] 40)).alloc (.cells #[.int .u32 0] 61)) 67 ((Tryz.zeroCells67.setIfInBounds 0 (.iface 45 (.pointer (some ⟨R, 0, none⟩)))).setIfInBounds 2 (.pointer (some ⟨w.heap.size + 1, 0, none⟩))))
    rw [World.size_alloc, World.size_alloc] at e
    rw [dec0_arr]
    exact e
  generalize (((w.alloc (.cells #[.int .i64 0, .slice none 0 0, .int .i64 0, .int .i64 0] 40)).alloc (.cells #[.int .u32 0] 61)).alloc (.cells ((Tryz.zeroCells67.setIfInBounds 0 (.iface 45 (.pointer (some ⟨R, 0, none⟩)))).setIfInBounds 2 (.pointer (some ⟨w.heap.size + 1, 0, none⟩))) 67)) = w0 at k0 b4 bC bD ⊢
  have q0 := dec0_0 (.iface 45 (.pointer (some ⟨R, 0, none⟩))) (.pointer (some ⟨w.heap.size + 1, 0, none⟩))
  have q2 := dec0_2 (.iface 45 (.pointer (some ⟨R, 0, none⟩))) (.pointer (some ⟨w.heap.size + 1, 0, none⟩))
  have q5 := dec0_5 (.iface 45 (.pointer (some ⟨R, 0, none⟩))) (.pointer (some ⟨w.heap.size + 1, 0, none⟩))
  have q7 := dec0_7 (.iface 45 (.pointer (some ⟨R, 0, none⟩))) (.pointer (some ⟨w.heap.size + 1, 0, none⟩))
  have q8 := dec0_8 (.iface 45 (.pointer (some ⟨R, 0, none⟩))) (.pointer (some ⟨w.heap.size + 1, 0, none⟩))
  have q778 := dec0_778 (.iface 45 (.pointer (some ⟨R, 0, none⟩))) (.pointer (some ⟨w.heap.size + 1, 0, none⟩))
  have ql := dec0_len (.iface 45 (.pointer (some ⟨R, 0, none⟩))) (.pointer (some ⟨w.heap.size + 1, 0, none⟩))
  generalize dec0 (.iface 45 (.pointer (some ⟨R, 0, none⟩))) (.pointer (some ⟨w.heap.size + 1, 0, none⟩)) = L at bD q0 q2 q5 q7 q8 q778 ql
  have r0 : RdAt w0 R A len cap (0 : Nat) p := HR.out.kept k0 id
  have f0 : FileAt w0 A W H d c := HF.out.kept k0 id
  refine (header_any (w.heap.size + 1 + 1) R A len cap p L w0 (by omega) hlen hcap r0 bD ql q0 f0.sig hAR).mono ?_
  rintro e w1 ⟨rfl, h1, h2, h3⟩
  have sl : 10 + sig8.length ≤ L.length := by rw [ql]; decide
  have mk : ∀ k, (k < 10 ∨ 18 ≤ k) → (splice L 10 sig8)[k]? = L[k]? := fun k h => splice_out sl h
  have B4 : Hid (Blk w1 w.heap.size 40 #[.int .i64 0, .slice none 0 0, .int .i64 0, .int .i64 0]) := b4.kept h3 (by omega)
  have BC : Hid (Blk w1 (w.heap.size + 1) 61 #[.int .u32 0]) := bC.kept h3 (by omega)
  have BD : Hid (Blk w1 (w.heap.size + 1 + 1) 67 (splice L 10 sig8).toArray) := h2
  have R1 : Hid (RdAt w1 R A len cap (8 : Nat) (-1)) := h1
  have F1 : Hid (FileAt w1 A W H d c) := f0.kept h3 (by omega)
  have T1 : Hid (Tab w1) := (HT.out.kept k0 id).kept h3 (by omega)
  have E1 : Hid (Eof w1) := (HE.out.kept k0 id).kept h3 (by omega)
  have K1 : Hid (Kept (fun k => k = R) w w1) := kept_after (k0.mono (fun _ h => h.elim)) h3 (by rintro i (h | h); exact .inl (by omega); exact .inr h)
  have QL : Hid ((splice L 10 sig8).length = 786) := by show _ = _; rw [length_splice _ _ _ sl, ql]
  have Q0 : Hid ((splice L 10 sig8)[0]? = some (.iface 45 (.pointer (some ⟨R, 0, none⟩)))) := (mk 0 (by decide)).trans q0
  have Q2 : Hid ((splice L 10 sig8)[2]? = some (.pointer (some ⟨w.heap.size + 1, 0, none⟩))) := (mk 2 (by decide)).trans q2
  have Q5 : Hid ((splice L 10 sig8)[5]? = some (.int .i64 0)) := (mk 5 (by decide)).trans q5
  have Q7 : Hid ((splice L 10 sig8)[7]? = some (.int .i64 0)) := (mk 7 (by decide)).trans q7
  have Q8 : Hid ((splice L 10 sig8)[8]? = some (.int .i64 0)) := (mk 8 (by decide)).trans q8
  have Q778 : Hid ((splice L 10 sig8)[778]? = some (.int .i64 0)) := (mk 778 (by decide)).trans q778
  clear h1 h2 h3 sl mk b4 bC bD r0 f0 k0 q0 q2 q5 q7 q8 q778 ql
  go_wp2_with fail
  refine wp_loop_rounds 1 ?_
  rw [rounds_succ]
  go_wp2_with fail
  refine (chunk_any true (w.heap.size + 1 + 1) R (w.heap.size + 1) A len cap (-1) 0 (.int .i64 0) (.int .i64 0) (.int .i64 0) W H d c (splice L 10 sig8) w1 hin hlen hcap R1.out BD.out BC.out T1.out QL.out Q0.out Q2.out Q8.out Q5.out Q7.out Q778.out F1.out.name F1.out.head
    hAR (by omega) (by omega) (by omega) (by omega) (by omega) hW0 hW1 hH0 hH1 hd0 hd1 hc0 hc1 HK.out).mono ?_
  rintro e w2 ⟨s, rfl, h4⟩
  have b4 : Blk w2 w.heap.size 40 #[.int .i64 0, .slice none 0 0, .int .i64 0, .int .i64 0] := B4.out.kept h4 (by omega)
  obtain ⟨ea, he⟩ : Eof w2 := E1.out.kept h4 (by omega)
  have k2 : Kept (fun k => k = R) w w2 := kept_after K1.out h4 (by rintro i (h | h | h); exact .inl (by omega); exact .inr h; exact .inl (by omega))
  have z0 := b4.cell 0
  have z1 := b4.cell 1
  have z2 := b4.cell 2
  have z3 := b4.cell 3
  have y0 := b4.frozen 0
  have y1 := b4.frozen 1
  have y2 := b4.frozen 2
  have y3 := b4.frozen 3
  have ee := eql_eof s ea
  have K2 := Lib.hid k2
  clear b4 k2 h4 B4 BC BD R1 F1 T1 E1 K1 QL Q0 Q2 Q5 Q7 Q8 Q778
  go_wp2
  refine bodyPost_ret (v := .tuple #[.agg #[.int .i64 0, .slice none 0 0, .int .i64 0, .int .i64 0], .iface 74 (.string s)]) (by simp [results, Tryz.results12, go_sem, z0, z1, z2, z3]) rfl ⟨s, rfl, ?_⟩
  refine kept_after (T := fun k => k = w.heap.size) K2.out ?_ (by rintro i rfl; exact .inl (Nat.le_refl _))
  exact ((((Kept.refl (fun k => k = w.heap.size) w2).setCell (p := ⟨w.heap.size, 0, none⟩) rfl _).setCell (p := ⟨w.heap.size, 1, none⟩) rfl _).setCell (p := ⟨w.heap.size, 2, none⟩) rfl _).setCell (p := ⟨w.heap.size, 3, none⟩) rfl _

end Go.Proofs.YtinfkihnedpdnaaGreatDoor
