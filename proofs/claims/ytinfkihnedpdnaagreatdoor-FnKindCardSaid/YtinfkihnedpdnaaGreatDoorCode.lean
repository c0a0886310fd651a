/- The contract of impl.codeOf at an UnsupportedError: the code 2, and nothing that was there turns. Its one condition is what the variable errors.errorType holds. -/
import Derived.Test.YtinfkihnedpdnaaGreatDoorAs
namespace Go.Proofs.YtinfkihnedpdnaaGreatDoor
open Go.RowKit

theorem kept_after {S T : Nat → Prop} {a b c : World} (h : Kept S a b) (k : Kept T b c) (hT : ∀ i, T i → a.heap.size ≤ i ∨ S i) : Kept S a c :=
  ⟨k.os.trans h.os, k.tape.trans h.tape, k.output.trans h.output, Nat.le_trans h.size k.size, fun i hi hs => (k.block i (Nat.lt_of_lt_of_le hi h.size) (fun e => by rcases hT i e with h1 | h1; omega; exact hs h1)).trans (h.block i hi hs)⟩
theorem kept_frozen {S : Nat → Prop} {a b : World} (h : Kept S a b) {p : Addr} (hlt : p.block < a.heap.size) (hs : ¬ S p.block) : b.frozen? p = a.frozen? p := World.frozen?_of_block (w := a) (h.block p.block hlt hs)
theorem handle_lt {w : World} (h : Handle w) : 2 < w.heap.size := by
  rcases Nat.lt_or_ge 2 w.heap.size with h1 | h1
  · exact h1
  · exact absurd h (by unfold Handle; simp [World.cell?, Array.getElem?_eq_none h1])
theorem handle_kept {S : Nat → Prop} {a b : World} (h : Handle a) (k : Kept S a b) (hs : ¬ S 2) : Handle b := k.cell h hs

/-- The result r; of what was there nothing has turned. -/
def Quiet (w w' : World) (r : Value) (e : Ending) : Prop := e = .returned r ∧ Kept (fun _ => False) w w'

set_option maxRecDepth 100000 in
set_option maxHeartbeats 1000000 in
theorem codeOf_unsup (s : ByteArray) (w : World) (hg : Handle w) :
    Calls Tryz.prog 15 #[.iface 74 (.string s)] w fun e w' => Quiet w w' (.int .i64 2) e := by
  have hlt := handle_lt hg
  have k0 : Kept (fun _ => False) w ((w.alloc (.cells #[.string ⟨#[]⟩] 73)).alloc (.cells #[.string ⟨#[]⟩] 74)) := ((Kept.refl _ w).alloc _).alloc _
  have g0 : Handle ((w.alloc (.cells #[.string ⟨#[]⟩] 73)).alloc (.cells #[.string ⟨#[]⟩] 74)) := handle_kept hg k0 id
  have b1 : Blk ((w.alloc (.cells #[.string ⟨#[]⟩] 73)).alloc (.cells #[.string ⟨#[]⟩] 74)) w.heap.size 73 #[.string ⟨#[]⟩] := (Blk.new w 73 _).alloc _
  have b2 : Blk ((w.alloc (.cells #[.string ⟨#[]⟩] 73)).alloc (.cells #[.string ⟨#[]⟩] 74)) (w.heap.size + 1) 74 #[.string ⟨#[]⟩] := by
    have e := Blk.new (w.alloc (.cells #[.string ⟨#[]⟩] 73)) 74 #[.string ⟨#[]⟩]
    simpa using e
  have K0 := Lib.hid k0; have G0 := Lib.hid g0; have B1 := Lib.hid b1; have B2 := Lib.hid b2; clear hg k0 g0 b1 b2
  go_enter Tryz.func15, Tryz.ntmps15
  go_wp2_with fail
  refine (as_miss s ⟨w.heap.size, 0, none⟩ (.string ⟨#[]⟩) _ G0.out (B1.out.cell 0)).mono ?_
  rintro e w2 ⟨rfl, k1⟩
  have g1 : Handle w2 := handle_kept G0.out k1 (by simp; omega)
  have b2 : Blk w2 (w.heap.size + 1) 74 #[.string ⟨#[]⟩] := B2.out.kept k1 (by simp)
  have k2 : Kept (fun _ => False) w w2 := kept_after K0.out k1 (by rintro i rfl; exact .inl (Nat.le_refl _))
  have G1 := Lib.hid g1; have B3 := Lib.hid b2; have K2 := Lib.hid k2; clear k1 g1 b2 k2
  go_wp2_with fail
  refine (as_hit s ⟨w.heap.size + 1, 0, none⟩ (.string ⟨#[]⟩) _ G1.out (B3.out.cell 0) (B3.out.frozen 0)).mono ?_
  rintro e w3 ⟨rfl, k3⟩
  have k4 : Kept (fun _ => False) w w3 := kept_after K2.out k3 (by rintro i rfl; exact .inl (by simp))
  have K4 := Lib.hid k4; clear k3 k4
  go_wp2
  go_ret
  exact ⟨rfl, K4.out⟩

end Go.Proofs.YtinfkihnedpdnaaGreatDoor
