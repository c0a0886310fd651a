/- The contracts of what makes bytes: slices.Clone, the reference's WriteHead and Chunk. No condition but that lengths are small. -/
import Derived.Test.YtinfkihnedpdnaaGreatDoorHeader
import Derived.Test.YtinfkihnedpdnaaGreatDoorIhdr
import Derived.Laws.AppendOwn
namespace Go.Proofs.YtinfkihnedpdnaaGreatDoor
open Go.RowKit

theorem info5 : (Tryz.prog.info? 5).map (fun i => (i.zero, i.size, i.bytes)) = some (some (.int .u8 0), 1, 1) := by kernel_rfl

/-- New bytes xs behind the slice value that is returned; of what was there nothing has turned. -/
def NewRow (w w' : World) (n : Nat) (xs : List Value) (e : Ending) : Prop := ∃ v, e = .returned v ∧ w'.ownsRow w.heap.size 5 1 v n xs ∧ Kept (fun _ => False) w w'

set_option maxRecDepth 100000 in
set_option maxHeartbeats 1000000 in
theorem clone_any (A n cap : Nat) (xs : List Value) (w : World) (hn : n ≤ 1000) (hl : xs.length = n) (hx : ∀ j v, xs[j]? = some v → w.cell? ⟨A, j, none⟩ = some v) (hone : ∀ v ∈ xs, v.oneCell' = true) :
    Calls Tryz.prog 14 #[.slice (some ⟨A, 0, none⟩) n cap] w fun e w' => NewRow w w' n xs e := by
  obtain ⟨i0, hi, hz0, hz1, hz2⟩ := info_parts info5
  have HL := Lib.hid hl; have HX := Lib.hid hx; have HO := Lib.hid hone; have HI := Lib.hid hi; clear hl hx hone
  have hnil := fun (wx : World) => Lib.run_eql_slice_nil (P := Tryz.prog) wx 23 5 (some ⟨A, 0, none⟩) n cap 0 0 Tryz.underlying23
  have own0 : (w.alloc (.cells #[] 5)).ownsRow w.heap.size 5 1 (.slice (some ⟨w.heap.size, 0, none⟩) 0 0) 0 [] := World.ownsRow_made w #[] 0 (Nat.le_refl _) (by decide) rfl
  have HOwn := Lib.hid own0; clear own0
  go_enter Tryz.func14, Tryz.ntmps14
  go_wp2_with (at_builtin; refine Hid.out ?_)
  show wpList _ _ _ _ _ _
  refine wpList_append_own _ rfl (.tmp 5) (.tmp 6) 23 rfl w.heap.size 5 i0 (.int .u8 0) 1 1 Tryz.underlying23 HI.out hz0 hz1 hz2 rfl (by decide) (.slice (some ⟨w.heap.size, 0, none⟩) 0 0) 0 [] rfl HOwn.out ⟨A, 0, none⟩ n cap xs rfl ?c1 ?c2 ?c3 ?c4 ?c5 ?c6 ?_
  case c1 => rw [HL.out]; omega
  case c2 =>
    intro j u hj
    rw [add_lit, Nat.zero_add]
    have := HX.out j u hj
    rw [World.cell?_alloc_lt _ _ _ (World.block_lt_of_cell? w _ this)]
    exact this
  case c3 => exact HO.out
  case c4 => unfold maxLen; omega
  case c5 => omega
  case c6 => simp
  intro v' w1 hown hgrow _
  have H1 := Lib.hid hown; have H2 := Lib.hid hgrow; clear hown hgrow
  go_wp2
  go_ret
  refine ⟨v', rfl, ?_, ((Kept.refl _ w).alloc _).grown H2.out ?_⟩
  · have := H1.out; simpa using this
  · intro k hk; simp [Value.ownBlock] at hk; exact .inl (by omega)

/-- A row of n > 0 bytes is a slice value. -/
theorem row_form {w : World} {base n : Nat} {v : Value} {xs : List Value} (h : w.ownsRow base 5 1 v n xs) (hn : 0 < n) :
    ∃ g cap, v = .slice (some ⟨g, 0, none⟩) n cap ∧ base ≤ g ∧ g < w.heap.size ∧ n ≤ cap ∧ xs.length = n ∧ ∀ j u, xs[j]? = some u → w.cell? ⟨g, j, none⟩ = some u := by
  rcases h.2 with ⟨_, h0⟩ | ⟨g, cap, cur, rfl, hb, hg, hnc, _, _, _⟩
  · omega
  · refine ⟨g, cap, rfl, hb, (Array.getElem?_eq_some_iff.1 hg).1, hnc, by have := h.1; omega, fun j u hj => ?_⟩
    have e := h.cells (g := g) rfl j u hj
    rwa [add_lit, Nat.zero_add] at e

/-- append of a row of bytes onto a row of the call's own. -/
theorem append_row {w : World} {ops : Array Oper} {rest : List Oper} {o : Oper} {a : Act} {Q : Exit → Act → World → Prop} (hgd : o.guard = none) (s x : Operand)
    (ho : o.op = .call { callee := .builtin .append, args := #[s, x], argTypes := #[23, 23] }) (base : Nat) (v : Value) (n : Nat) (xs : List Value) (hs : a.eval s = v) (hown : w.ownsRow base 5 1 v n xs)
    (base2 : Nat) (y : Value) (m : Nat) (ys : List Value) (hx : a.eval x = y) (hrow : w.ownsRow base2 5 1 y m ys) (hm : 0 < m) (hone : ∀ u ∈ ys, u.oneCell' = true) (hnm : n + m ≤ 1000) (hbase : base ≤ w.heap.size)
    (h : ∀ v' w', w'.ownsRow base 5 1 v' (n + m) (xs ++ ys) → w.grownBy w' v.ownBlock → wpList Tryz.prog ops Q rest (a.put o.dst v') w') : wpList Tryz.prog ops Q (o :: rest) a w := by
  obtain ⟨i0, hi, hz0, hz1, hz2⟩ := info_parts info5
  obtain ⟨g, cap, rfl, _, _, _, hl, hc⟩ := row_form hrow hm
  exact wpList_append_own _ hgd s x 23 ho base 5 i0 (.int .u8 0) 1 1 Tryz.underlying23 hi hz0 hz1 hz2 rfl (by decide) v n xs hs hown ⟨g, 0, none⟩ m cap ys hx (by omega) (fun j u hj => by rw [add_lit, Nat.zero_add]; exact hc j u hj) hone
    (by unfold maxLen; omega) (by omega) hbase (fun v' w' h1 h2 _ => h v' w' h1 h2)

theorem row_mono {w : World} {base base' n : Nat} {v : Value} {xs : List Value} (h : w.ownsRow base 5 1 v n xs) (hb : base' ≤ base) : w.ownsRow base' 5 1 v n xs := by
  refine ⟨h.1, ?_⟩
  rcases h.2 with h0 | ⟨g, cap, cur, hv, hg, r⟩
  · exact .inl h0
  · exact .inr ⟨g, cap, cur, hv, by omega, r⟩
theorem row_kept {S : Nat → Prop} {a b : World} {base n : Nat} {v : Value} {xs : List Value} (h : a.ownsRow base 5 1 v n xs) (k : Kept S a b) (hs : ∀ i, v.ownBlock = some i → ¬ S i) : b.ownsRow base 5 1 v n xs := by
  refine ⟨h.1, ?_⟩
  rcases h.2 with h0 | ⟨g, cap, cur, rfl, hb, hg, r⟩
  · exact .inl h0
  · exact .inr ⟨g, cap, cur, rfl, hb, (k.block g (Array.getElem?_eq_some_iff.1 hg).1 (hs g rfl)).trans hg, r⟩

/-- A row that a literal has just made. -/
theorem row_new (w : World) (base n : Nat) (xs : List Value) (hb : base ≤ w.heap.size) (hl : xs.length = n) (hn : n ≤ 1000) :
    (w.alloc (.cells xs.toArray 5)).ownsRow base 5 1 (.slice (some ⟨w.heap.size, 0, none⟩) n n) n xs :=
  ⟨by omega, .inr ⟨w.heap.size, n, xs.toArray, rfl, hb, heap_alloc_new w _, Nat.le_refl _, by unfold maxLen; omega, by simp [hl], by rw [Nat.mul_one]; exact List.take_of_length_le (by simp [hl])⟩⟩

set_option maxRecDepth 100000 in
set_option maxHeartbeats 1000000 in
theorem writeHead_any (W H d c : Int) (w : World) (hW0 : 0 ≤ W) (hW1 : W < 256) (hH0 : 0 ≤ H) (hH1 : H < 256) :
    Calls Tryz.prog 7 #[.int .u32 W, .int .u32 H, .int .u8 d, .int .u8 c, .int .u8 0, .int .u8 0, .int .u8 0] w fun e w' => NewRow w w' 13 (head13 W H d c) e := by
  go_enter Tryz.func7, Tryz.ntmps7
  go_wp2_with fail
  refine (four_any W _ hW0 hW1).mono ?_
  rintro e w1 ⟨rfl, rfl⟩
  go_wp2_with fail
  refine (four_any H _ hH0 hH1).mono ?_
  rintro e w2 ⟨rfl, rfl⟩
  go_wp2_with (at_builtin; refine Hid.out ?_)
  show wpList _ _ _ _ _ _
  have o1 : ((w.alloc (.cells #[.int .u8 0, .int .u8 0, .int .u8 0, .int .u8 W] 5)).alloc (.cells #[.int .u8 0, .int .u8 0, .int .u8 0, .int .u8 H] 5)).ownsRow w.heap.size 5 1 (.slice (some ⟨w.heap.size, 0, none⟩) 4 4) 4 [.int .u8 0, .int .u8 0, .int .u8 0, .int .u8 W] :=
    (row_new w w.heap.size 4 [.int .u8 0, .int .u8 0, .int .u8 0, .int .u8 W] (Nat.le_refl _) rfl (by decide)).alloc _
  have o2 : ((w.alloc (.cells #[.int .u8 0, .int .u8 0, .int .u8 0, .int .u8 W] 5)).alloc (.cells #[.int .u8 0, .int .u8 0, .int .u8 0, .int .u8 H] 5)).ownsRow w.heap.size 5 1 (.slice (some ⟨w.heap.size + 1, 0, none⟩) 4 4) 4 [.int .u8 0, .int .u8 0, .int .u8 0, .int .u8 H] := by
    have e := row_new (w.alloc (.cells #[.int .u8 0, .int .u8 0, .int .u8 0, .int .u8 W] 5)) w.heap.size 4 [.int .u8 0, .int .u8 0, .int .u8 0, .int .u8 H] (by simp) rfl (by decide)
    rw [World.size_alloc] at e
    exact e
  refine append_row rfl (.tmp 16) (.tmp 18) rfl w.heap.size _ 4 _ rfl o1 w.heap.size _ 4 _ rfl o2 (by decide) (by simp [Value.oneCell']) (by decide) (by simp; omega) ?_
  intro v1 w3 own1 gr1
  have k3 : Kept (fun _ => False) w w3 := Kept.grown (((Kept.refl _ w).alloc _).alloc _) gr1 (fun k hk => .inl (o1.lt k hk).1)
  have l3 : w.heap.size ≤ w3.heap.size := k3.size
  have O1 := Lib.hid own1; have K3 := Lib.hid k3; clear own1 gr1 k3 o1 o2
  go_wp2_with (at_builtin; refine Hid.out ?_)
  show wpList _ _ _ _ _ _
  refine append_row rfl (.tmp 19) (.tmp 25) rfl w.heap.size v1 8 _ rfl (O1.out.alloc _) w.heap.size (.slice (some ⟨w3.heap.size, 0, none⟩) 5 5) 5 [.int .u8 d, .int .u8 c, .int .u8 0, .int .u8 0, .int .u8 0] rfl (row_new w3 w.heap.size 5 [.int .u8 d, .int .u8 c, .int .u8 0, .int .u8 0, .int .u8 0] l3 rfl (by decide)) (by decide) (by simp [Value.oneCell']) (by decide) (by simp; omega) ?_
  intro v2 w4 own2 gr2
  have k4 : Kept (fun _ => False) w w4 := Kept.grown (K3.out.alloc _) gr2 (fun k hk => .inl (O1.out.lt k hk).1)
  have O2 := Lib.hid own2; have K4 := Lib.hid k4; clear own2 gr2 k4
  go_wp2
  go_ret
  exact ⟨v2, rfl, O2.out, K4.out⟩

end Go.Proofs.YtinfkihnedpdnaaGreatDoor
