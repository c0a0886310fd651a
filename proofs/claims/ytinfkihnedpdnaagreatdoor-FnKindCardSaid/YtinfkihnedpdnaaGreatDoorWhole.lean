/- The contract of png.Decode over a file whose head has none of the fifteen kinds: an UnsupportedError beside no picture. Its conditions are what the variables io.EOF and ieeeTable hold. -/
import Derived.Test.YtinfkihnedpdnaaGreatDoorDecode
namespace Go.Proofs.YtinfkihnedpdnaaGreatDoor
open Go.RowKit

set_option maxRecDepth 100000 in
set_option maxHeartbeats 2000000 in
theorem decode_any (R A len cap : Nat) (p : Int) (W H d c : Int) (w : World) (hin : 29 ≤ len) (hlen : len ≤ 1000) (hcap : len ≤ cap)
    (hR : RdAt w R A len cap (0 : Nat) p) (hF : FileAt w A W H d c) (hT : Tab w) (hE : Eof w) (hAR : A ≠ R) (h3R : 3 < R)
    (hW0 : 1 ≤ W) (hW1 : W ≤ 20) (hH0 : 1 ≤ H) (hH1 : H ≤ 20) (hd0 : 0 ≤ d) (hd1 : d ≤ 255) (hc0 : 0 ≤ c) (hc1 : c ≤ 255) (hk : kindB c d = false) :
    Calls Tryz.prog 39 #[.iface 45 (.pointer (some ⟨R, 0, none⟩))] w fun e w' => Refused w w' R .nilIface e := by
  have lR : R < w.heap.size := hR.lt
  have lA : A < w.heap.size := hF.lt
  have l3 : 3 < w.heap.size := hT.lt
  have HR := Lib.hid hR; have HF := Lib.hid hF; have HT := Lib.hid hT; have HE := Lib.hid hE; have HK := Lib.hid hk
  clear hR hF hT hE hk
  go_enter Tryz.func39, Tryz.ntmps39
  go_wp2_with fail
  have k0 : Kept (fun _ => False) w ((w.alloc (.cells #[.int .u32 0] 61)).alloc (.cells ((Tryz.zeroCells67.setIfInBounds 0 (.iface 45 (.pointer (some ⟨R, 0, none⟩)))).setIfInBounds 2 (.pointer (some ⟨w.heap.size, 0, none⟩))) 67)) :=
    ((Kept.refl _ w).alloc _).alloc _
  have bC : Blk ((w.alloc (.cells #[.int .u32 0] 61)).alloc (.cells ((Tryz.zeroCells67.setIfInBounds 0 (.iface 45 (.pointer (some ⟨R, 0, none⟩)))).setIfInBounds 2 (.pointer (some ⟨w.heap.size, 0, none⟩))) 67)) w.heap.size 61 #[.int .u32 0] := (Blk.new w 61 #[.int .u32 0]).alloc _
  have bD : Blk ((w.alloc (.cells #[.int .u32 0] 61)).alloc (.cells ((Tryz.zeroCells67.setIfInBounds 0 (.iface 45 (.pointer (some ⟨R, 0, none⟩)))).setIfInBounds 2 (.pointer (some ⟨w.heap.size, 0, none⟩))) 67)) (w.heap.size + 1) 67 (dec0 (.iface 45 (.pointer (some ⟨R, 0, none⟩))) (.pointer (some ⟨w.heap.size, 0, none⟩))).toArray := by
    have e := (Blk.new (w.alloc (.cells #[.int .u32 0] 61)) 67 ((Tryz.zeroCells67.setIfInBounds 0 (.iface 45 (.pointer (some ⟨R, 0, none⟩)))).setIfInBounds 2 (.pointer (some ⟨w.heap.size, 0, none⟩))))
    rw [World.size_alloc] at e
    rw [dec0_arr]
    exact e
  generalize ((w.alloc (.cells #[.int .u32 0] 61)).alloc (.cells ((Tryz.zeroCells67.setIfInBounds 0 (.iface 45 (.pointer (some ⟨R, 0, none⟩)))).setIfInBounds 2 (.pointer (some ⟨w.heap.size, 0, none⟩))) 67)) = w0 at k0 bC bD ⊢
  have q0 := dec0_0 (.iface 45 (.pointer (some ⟨R, 0, none⟩))) (.pointer (some ⟨w.heap.size, 0, none⟩))
  have q2 := dec0_2 (.iface 45 (.pointer (some ⟨R, 0, none⟩))) (.pointer (some ⟨w.heap.size, 0, none⟩))
  have q5 := dec0_5 (.iface 45 (.pointer (some ⟨R, 0, none⟩))) (.pointer (some ⟨w.heap.size, 0, none⟩))
  have q7 := dec0_7 (.iface 45 (.pointer (some ⟨R, 0, none⟩))) (.pointer (some ⟨w.heap.size, 0, none⟩))
  have q8 := dec0_8 (.iface 45 (.pointer (some ⟨R, 0, none⟩))) (.pointer (some ⟨w.heap.size, 0, none⟩))
  have q778 := dec0_778 (.iface 45 (.pointer (some ⟨R, 0, none⟩))) (.pointer (some ⟨w.heap.size, 0, none⟩))
  have ql := dec0_len (.iface 45 (.pointer (some ⟨R, 0, none⟩))) (.pointer (some ⟨w.heap.size, 0, none⟩))
  generalize dec0 (.iface 45 (.pointer (some ⟨R, 0, none⟩))) (.pointer (some ⟨w.heap.size, 0, none⟩)) = L at bD q0 q2 q5 q7 q8 q778 ql
  have r0 : RdAt w0 R A len cap (0 : Nat) p := HR.out.kept k0 id
  have f0 : FileAt w0 A W H d c := HF.out.kept k0 id
  refine (header_any (w.heap.size + 1) R A len cap p L w0 (by omega) hlen hcap r0 bD ql q0 f0.sig hAR).mono ?_
  rintro e w1 ⟨rfl, h1, h2, h3⟩
  have sl : 10 + sig8.length ≤ L.length := by rw [ql]; decide
  have mk : ∀ k, (k < 10 ∨ 18 ≤ k) → (splice L 10 sig8)[k]? = L[k]? := fun k h => splice_out sl h
  have BC : Hid (Blk w1 w.heap.size 61 #[.int .u32 0]) := bC.kept h3 (by omega)
  have BD : Hid (Blk w1 (w.heap.size + 1) 67 (splice L 10 sig8).toArray) := h2
  have R1 : Hid (RdAt w1 R A len cap (8 : Nat) (-1)) := h1
  have F1 : Hid (FileAt w1 A W H d c) := f0.kept h3 (by omega)
  have T1 : Hid (Tab w1) := (HT.out.kept k0 id).kept h3 (by omega)
  have E1 : Hid (Eof w1) := (HE.out.kept k0 id).kept h3 (by omega)
  have K1 : Hid (Kept (fun k => k = R) w w1) := kept_after (k0.mono (fun _ h => h.elim)) h3 (by rintro i (h | h); exact .inl (by omega); exact .inr h)
  have QL : Hid ((splice L 10 sig8).length = 786) := by show _ = _; rw [length_splice _ _ _ sl, ql]
  have Q0 : Hid ((splice L 10 sig8)[0]? = some (.iface 45 (.pointer (some ⟨R, 0, none⟩)))) := (mk 0 (by decide)).trans q0
  have Q2 : Hid ((splice L 10 sig8)[2]? = some (.pointer (some ⟨w.heap.size, 0, none⟩))) := (mk 2 (by decide)).trans q2
  have Q5 : Hid ((splice L 10 sig8)[5]? = some (.int .i64 0)) := (mk 5 (by decide)).trans q5
  have Q7 : Hid ((splice L 10 sig8)[7]? = some (.int .i64 0)) := (mk 7 (by decide)).trans q7
  have Q8 : Hid ((splice L 10 sig8)[8]? = some (.int .i64 0)) := (mk 8 (by decide)).trans q8
  have Q778 : Hid ((splice L 10 sig8)[778]? = some (.int .i64 0)) := (mk 778 (by decide)).trans q778
  clear h1 h2 h3 sl mk bC bD r0 f0 k0 q0 q2 q5 q7 q8 q778 ql
  go_wp2_with fail
  have c8 : w1.cell? ⟨w.heap.size + 1, 8, none⟩ = some (.int .i64 0) := by rw [BD.out.cell, List.getElem?_toArray]; exact Q8.out
  refine wp_loop_rounds 1 ?_
  rw [rounds_succ]
  go_wp2_with fail
  refine (chunk_any false (w.heap.size + 1) R w.heap.size A len cap (-1) 0 (.int .i64 0) (.int .i64 0) (.int .i64 0) W H d c (splice L 10 sig8) w1 hin hlen hcap R1.out BD.out BC.out T1.out QL.out Q0.out Q2.out Q8.out Q5.out Q7.out Q778.out F1.out.name F1.out.head
    hAR (by omega) (by omega) (by omega) (by omega) (by omega) hW0 hW1 hH0 hH1 hd0 hd1 hc0 hc1 HK.out).mono ?_
  rintro e w2 ⟨s, rfl, h4⟩
  obtain ⟨ea, he⟩ : Eof w2 := E1.out.kept h4 (by omega)
  have k2 : Kept (fun k => k = R) w w2 := kept_after K1.out h4 (by rintro i (h | h | h); exact .inl (by omega); exact .inr h; exact .inl (by omega))
  have ee := eql_eof s ea
  have K2 := Lib.hid k2
  clear c8 k2 h4 BC BD R1 F1 T1 E1 K1 QL Q0 Q2 Q5 Q7 Q8 Q778
  go_wp2
  go_ret2
  exact ⟨s, rfl, K2.out⟩

end Go.Proofs.YtinfkihnedpdnaaGreatDoor
