/- The contracts of reading: bytes.Reader.Read, io.ReadAtLeast and io.ReadFull hand over the next n bytes where there are as many. -/
import Derived.Test.YtinfkihnedpdnaaGreatDoorDigest
import Derived.StillTailTactics
namespace Go.Proofs.YtinfkihnedpdnaaGreatDoor
open Go.RowKit

/-- A region that draws its order, of whose operations the last ones come in one forced order. -/
theorem region_tail {P : Program} {id : Nat} {Q : Exit → Act → World → Prop} {a : Act} {w : World} {l : List Oper} (n : Nat) (hm : P.follows .mixedOrders = true) (hB : Region.lexTailB .any l.toArray n = true)
    (h : wpStill P l.toArray w.drew (fun a' => wpList P l.toArray Q (l.drop n) a' w.drew) (l.take n) a) : (Code.region id l.toArray true).wp P Q a w := wp_region_still_tail n hm hB h

/-- The reader's block R stands at byte i of len bytes that lie in block A. -/
def RdAt (w : World) (R A : Nat) (len cap : Nat) (i p : Int) : Prop := Blk w R 72 #[.slice (some ⟨A, 0, none⟩) len cap, .int .i64 i, .int .i64 p]

def ReadPost (w w' : World) (D R A len cap n : Nat) (i : Nat) (L cs : List Value) (e : Ending) : Prop :=
  e = .returned (.tuple #[.int .i64 n, .nilIface]) ∧ RdAt w' R A len cap ((i : Int) + n) (-1) ∧ Blk w' D 67 (splice L 10 cs).toArray ∧ Kept (fun k => k = D ∨ k = R) w w'

set_option maxRecDepth 100000 in
set_option maxHeartbeats 400000 in
theorem read_any (D R A len cap n i dcap : Nat) (p : Int) (L cs : List Value) (w : World) (hn : 0 < n) (hin : i + n ≤ len) (hlen : len ≤ 1000) (hcap : len ≤ cap)
    (hR : RdAt w R A len cap i p) (hD : Blk w D 67 L.toArray) (hL : 10 + n ≤ L.length) (hcs : cs.length = n) (hone : ∀ v ∈ cs, v.oneCell' = true)
    (hsrc : ∀ j v, cs[j]? = some v → w.cell? ⟨A, i + j, none⟩ = some v) (hAR : A ≠ R) :
    Calls Tryz.prog 136 #[.pointer (some ⟨R, 0, none⟩), .slice (some ⟨D, 10, none⟩) n dcap] w fun e w' => ReadPost w w' D R A len cap n i L cs e := by
  have r0 : w.cell? ⟨R, 0, none⟩ = some (.slice (some ⟨A, 0, none⟩) len cap) := hR.cell 0
  have r1 : w.cell? ⟨R, 1, none⟩ = some (.int .i64 i) := hR.cell 1
  have r2 : w.cell? ⟨R, 2, none⟩ = some (.int .i64 p) := hR.cell 2
  have f1 : w.frozen? ⟨R, 1, none⟩ = false := hR.frozen 1
  have f2 : w.frozen? ⟨R, 2, none⟩ = false := hR.frozen 2
  have HR := Lib.hid hR; have HD := Lib.hid hD; have HC := Lib.hid hcs; have HO := Lib.hid hone; have HS := Lib.hid hsrc
  have hil : i ≤ len := by omega
  have hci : ¬ cap = i := by omega
  have hDR : D ≠ R := hD.ne_ hR (by decide)
  clear hR hD hcs hone hsrc
  go_enter Tryz.func136, Tryz.ntmps136
  go_wp2
  go_quiet (fail)
  go_wp2_with fail
  refine region_tail 10 (by kernel_rfl) (by kernel_rfl) ?_
  simp only [List.take_succ_cons, List.take_zero, List.drop_succ_cons, List.drop_zero]
  repeat still_step
  refine wpStill_nil ?_
  have hgD : (((w.drewN nq).setCell ⟨R, 2, none⟩ (.int .i64 (-1))).drew).heap[D]? = some (.cells L.toArray 67 (0, 0)) := (HD.out.far (p := ⟨R, 2, none⟩) hDR (.int .i64 (-1)) : Blk (w.setCell ⟨R, 2, none⟩ (.int .i64 (-1))) D 67 L.toArray)
  refine wpList_copy_own rfl (.tmp 20) (.tmp 29) 23 23 rfl 5 Tryz.underlying23 (by kernel_rfl) D 10 n dcap ⟨A, i, none⟩ (len - i) (cap - i) rfl rfl L.toArray 67 hgD cs (by rw [HC.out]; exact (Nat.min_eq_right (by omega)).symm) ?_ (by rw [HC.out]; simpa using hL) HO.out ?_
  · intro j v hj
    rw [show (⟨A, i, none⟩ : Addr).add j = ⟨A, i + j, none⟩ from by unfold Addr.add; split <;> simp_all]
    have := HS.out j v hj
    rw [World.cell?_drew, World.cell?_setCell_other _ _ _ _ (by simp [hAR])]
    exact this
  rw [HC.out]
  obtain ⟨L', hL'⟩ : ∃ L' : Array Value, L' = (L.toArray.toList.take 10 ++ (cs ++ L.toArray.toList.drop (10 + n))).toArray := ⟨_, rfl⟩
  rw [← hL']
  have HL' := Lib.hid hL'; clear hL'
  have hb : Blk ((((w.drewN nq).setCell ⟨R, 2, none⟩ (.int .i64 (-1))).drew).setRow D L') R 72 #[.slice (some ⟨A, 0, none⟩) len cap, .int .i64 i, .int .i64 (-1)] :=
    Blk.farRow (a := ((w.drewN nq).setCell ⟨R, 2, none⟩ (.int .i64 (-1))).drew) (HR.out.set_ 2 (.int .i64 (-1))) (Ne.symm hDR) L'
  have hd : Blk ((((w.drewN nq).setCell ⟨R, 2, none⟩ (.int .i64 (-1))).drew).setRow D L') D 67 L' := Blk.setRow (a := ((w.drewN nq).setCell ⟨R, 2, none⟩ (.int .i64 (-1))).drew) hgD L'
  have q1 : ((((w.drewN nq).setCell ⟨R, 2, none⟩ (.int .i64 (-1))).drew).setRow D L').cell? ⟨R, 1, none⟩ = some (.int .i64 i) := hb.cell 1
  have q2 : ((((w.drewN nq).setCell ⟨R, 2, none⟩ (.int .i64 (-1))).drew).setRow D L').frozen? ⟨R, 1, none⟩ = false := hb.frozen 1
  have HB := Lib.hid hb; have HDD := Lib.hid hd
  clear hgD hb hd
  go_wp2
  go_ret2
  refine ⟨rfl, HB.out.set_ 1 _, ?_, ?_⟩
  · have e := HDD.out.far (p := ⟨R, 1, none⟩) hDR (.int .i64 ((i : Int) + n))
    rw [HL'.out] at e
    rw [HL'.out]
    unfold splice
    rw [HC.out]
    exact e
  · refine Kept.setCell ?_ (.inr rfl) _
    refine Kept.setRow ?_ (.inl rfl) _
    exact (((Kept.refl _ w).drewN nq).setCell (.inr rfl) _).drew

end Go.Proofs.YtinfkihnedpdnaaGreatDoor
