/- The contract of the reference's Chunk at the name IHDR and thirteen bytes of data: a new row of twenty-five bytes, of which the first twenty-one are known. No condition. -/
import Derived.Test.YtinfkihnedpdnaaGreatDoorRowsOf
import Derived.Test.YtinfkihnedpdnaaGreatDoorCode
import Derived.ArgAppend
namespace Go.Proofs.YtinfkihnedpdnaaGreatDoor
open Go.RowKit

/-- A slice value that reads as the bytes xs. -/
def RowC (w : World) (base n : Nat) (v : Value) (xs : List Value) : Prop :=
  ∃ g cap, v = .slice (some ⟨g, 0, none⟩) n cap ∧ base ≤ g ∧ g < w.heap.size ∧ n ≤ cap ∧ xs.length = n ∧ ∀ j u, xs[j]? = some u → w.cell? ⟨g, j, none⟩ = some u
theorem RowC.of_row {w : World} {base n : Nat} {v : Value} {xs : List Value} (h : w.ownsRow base 5 1 v n xs) (hn : 0 < n) : RowC w base n v xs := row_form h hn
theorem RowC.kept {S : Nat → Prop} {a b : World} {base n : Nat} {v : Value} {xs : List Value} (h : RowC a base n v xs) (k : Kept S a b) (hs : ∀ g, base ≤ g → g < a.heap.size → ¬ S g) : RowC b base n v xs := by
  obtain ⟨g, cap, hv, hb, hl, hc, hx, hcell⟩ := h
  exact ⟨g, cap, hv, hb, Nat.lt_of_lt_of_le hl k.size, hc, hx, fun j u hj => k.cell (hcell j u hj) (hs g hb hl)⟩

theorem kept_setCells {S : Nat → Prop} {a : World} (g : Nat) (hg : S g) : ∀ (vs : List Value) (o : Nat) (b : World), Kept S a b → Kept S a (b.setCells g o vs)
  | [], _, _, h => h
  | v :: r, o, b, h => kept_setCells g hg r (o + 1) (b.setCell ⟨g, o, none⟩ v) (h.setCell (p := ⟨g, o, none⟩) hg v)

/-- append of a row of bytes onto a row of the call's own, as 'append_row', the bytes told by their cells. -/
theorem append_rowC {w : World} {ops : Array Oper} {rest : List Oper} {o : Oper} {a : Act} {Q : Exit → Act → World → Prop} (hgd : o.guard = none) (s x : Operand)
    (ho : o.op = .call { callee := .builtin .append, args := #[s, x], argTypes := #[23, 23] }) (base : Nat) (v : Value) (n : Nat) (xs : List Value) (hs : a.eval s = v) (hown : w.ownsRow base 5 1 v n xs)
    (base2 : Nat) (y : Value) (m : Nat) (ys : List Value) (hx : a.eval x = y) (hrow : RowC w base2 m y ys) (hone : ∀ u ∈ ys, u.oneCell' = true) (hnm : n + m ≤ 1000) (hbase : base ≤ w.heap.size)
    (h : ∀ v' w', w'.ownsRow base 5 1 v' (n + m) (xs ++ ys) → w.grownBy w' v.ownBlock → wpList Tryz.prog ops Q rest (a.put o.dst v') w') : wpList Tryz.prog ops Q (o :: rest) a w := by
  obtain ⟨i0, hi, hz0, hz1, hz2⟩ := info_parts info5
  obtain ⟨g, cap, rfl, _, _, _, hl, hc⟩ := hrow
  exact wpList_append_own _ hgd s x 23 ho base 5 i0 (.int .u8 0) 1 1 Tryz.underlying23 hi hz0 hz1 hz2 rfl (by decide) v n xs hs hown ⟨g, 0, none⟩ m cap ys hx (by omega) (fun j u hj => by rw [add_lit, Nat.zero_add]; exact hc j u hj) hone
    (by unfold maxLen; omega) (by omega) hbase (fun v' w' h1 h2 _ => h v' w' h1 h2)

/-- append of a row of bytes onto a slice at the head of block b, whose spare cells may be written. -/
theorem append_spare {w : World} {ops : Array Oper} {rest : List Oper} {o : Oper} {a : Act} {Q : Exit → Act → World → Prop} (hgd : o.guard = none) (s x : Operand)
    (ho : o.op = .call { callee := .builtin .append, args := #[s, x], argTypes := #[23, 23] }) (base b n cap : Nat) (xs : List Value) (hs : a.eval s = .slice (some ⟨b, 0, none⟩) n cap) (hl : xs.length = n)
    (hb : base ≤ b) (hbl : b < w.heap.size) (hold : ∀ j u, xs[j]? = some u → w.cell? ⟨b, j, none⟩ = some u) (hsp : ∀ j, j < cap → (w.cell? ⟨b, j, none⟩).isSome = true ∧ w.frozen? ⟨b, j, none⟩ = false)
    (base2 : Nat) (y : Value) (m : Nat) (ys : List Value) (hx : a.eval x = y) (hrow : RowC w base2 m y ys) (hone : ∀ u ∈ ys, u.oneCell' = true) (hnm : n + m ≤ 1000)
    (h : ∀ v' w', RowC w' base (n + m) v' (xs ++ ys) → Kept (fun k => k = b) w w' → wpList Tryz.prog ops Q rest (a.put o.dst v') w') : wpList Tryz.prog ops Q (o :: rest) a w := by
  obtain ⟨i0, hi, hz0, hz1, hz2⟩ := info_parts info5
  obtain ⟨g, gc, rfl, _, _, _, hyl, hc⟩ := hrow
  refine wpList_append_arg w hgd s x 23 ho 5 i0 (.int .u8 0) 1 1 Tryz.underlying23 hi hz0 hz1 hz2 rfl (by decide) b 0 n cap xs hs (by omega) (fun j u hj => by rw [Nat.zero_add]; exact hold j u hj) ⟨g, 0, none⟩ m gc ys hx (by omega)
    (fun j u hj => by rw [add_lit, Nat.zero_add]; exact hc j u hj) hone (fun hr j hj => hsp (0 + n * 1 + j) (by omega)) (by unfold maxLen; omega) (by omega) (fun hr => ?_) (fun hg v' w' h1 h2 => ?_)
  · refine h _ _ ⟨b, cap, rfl, hb, ?_, hr, by rw [List.length_append]; omega, fun j u hj => ?_⟩ (kept_setCells (S := fun k => k = b) b rfl ys (0 + n * 1) w (Kept.refl _ w))
    · exact Nat.lt_of_lt_of_le hbl (kept_setCells (S := fun k => k = b) b rfl ys (0 + n * 1) w (Kept.refl _ w)).size
    · by_cases hjn : j < n
      · rw [World.cell?_setCells_out b ys (0 + n * 1) w _ (fun _ _ => .inl (by show j < 0 + n * 1; omega))]
        rw [List.getElem?_append_left (by omega)] at hj
        exact hold j u hj
      · rw [List.getElem?_append_right (by omega)] at hj
        have hjl : j - xs.length < ys.length := (List.getElem?_eq_some_iff.1 hj).1
        have e := World.cell?_setCells_in b ys (0 + n * 1) w (fun i hi => (hsp (0 + n * 1 + i) (by omega)).1) (j - xs.length) hjl
        rw [show 0 + n * 1 + (j - xs.length) = j from by omega] at e
        rw [e, ← hj, List.getElem?_eq_getElem hjl]
  · exact h v' w' (by
      obtain ⟨g', c', e1, e2, e3, e4, e5, e6⟩ := row_form h1 (by omega)
      exact ⟨g', c', e1, by omega, e3, e4, e5, e6⟩) ((Kept.refl _ w).grown h2 (by intro k hk; cases hk))

def ihdr4 : List Value := [.int .u8 73, .int .u8 72, .int .u8 68, .int .u8 82]

theorem mark_cell (w : World) (row : Array Value) (t : TypeId) (fr : Nat × Nat) (j : Nat) : (w.alloc (.cells row t fr)).cell? ⟨w.heap.size, j, none⟩ = row[j]? :=
  cell_of_row (w.alloc (.cells row t fr)) w.heap.size j row t fr (heap_alloc_new w _)
theorem mark_frozen (w : World) (row : Array Value) (t : TypeId) (cap j : Nat) (hj : j < cap) : (w.alloc (.cells row t (cap, cap + 1))).frozen? ⟨w.heap.size, j, none⟩ = false := by
  have h : (w.alloc (.cells row t (cap, cap + 1))).heap[w.heap.size]? = some (.cells row t (cap, cap + 1)) := heap_alloc_new w _
  unfold World.frozen?
  rw [h]
  show (decide (cap ≤ j) && decide (j < cap + 1)) = false
  rw [decide_eq_false (by omega)]
  rfl

theorem ihdr4_one : ∀ u ∈ ihdr4, u.oneCell' = true := by simp [ihdr4, Value.oneCell']

/-- What '[]byte(name)' lays: the four bytes, some spare behind them. -/
theorem conv_name (w : World) : ∃ (cap : Nat) (row : Array Value), 4 ≤ cap ∧ cap ≤ maxLen ∧ row.size = cap ∧ (∀ (j : Nat) (u : Value), ihdr4[j]? = some u → row[j]? = some u) ∧
    (convert 9 23 (.string ⟨#[73, 72, 68, 82]⟩)).run Tryz.prog w = .ok (.slice (some ⟨w.heap.size, 0, none⟩) 4 cap) ((w.alloc (.cells row 5 (cap, cap + 1))).drew) := by
  have h := run_bytes_of_string (P := Tryz.prog) w 9 23 5 ⟨#[73, 72, 68, 82]⟩ Tryz.underlying9 Tryz.underlying23 Tryz.underlying5
  have hs : (bytesRow ⟨#[73, 72, 68, 82]⟩ (grownCap w 4 0 5)).size = grownCap w 4 0 5 := by
    have hge := grownCap_ge w 4 0 5
    simp [bytesRow]
    show 4 + (grownCap w 4 0 5 - 4) = _
    omega
  refine ⟨grownCap w 4 0 5, bytesRow ⟨#[73, 72, 68, 82]⟩ (grownCap w 4 0 5), grownCap_ge w 4 0 5, grownCap_le_maxLen w 4 0 5 (by decide), hs, ?_, ?_⟩
  · intro j u hj
    have hjl : j < 4 := (List.getElem?_eq_some_iff.1 hj).1
    unfold bytesRow
    rw [Array.getElem?_append_left (by simpa using hjl)]
    match j, hjl with
    | 0, _ => simpa [ihdr4] using hj
    | 1, _ => simpa [ihdr4] using hj
    | 2, _ => simpa [ihdr4] using hj
    | 3, _ => simpa [ihdr4] using hj
    | n + 4, h => exact absurd h (by omega)
  · rw [h]
    show Result.ok _ _ = _
    have e : (⟨#[73, 72, 68, 82]⟩ : ByteArray).size = 4 := rfl
    rw [e, hs]
    rfl

/-- The chunk that is returned: all but its last four bytes are known. -/
def ChunkPost (w w' : World) (hs : List Value) (e : Ending) : Prop :=
  ∃ (v : Value) (ks : List Value), ks.length = 4 ∧ (∀ u ∈ ks, u.oneCell' = true) ∧ e = .returned v ∧
    w'.ownsRow w.heap.size 5 1 v 25 (([.int .u8 0, .int .u8 0, .int .u8 0, .int .u8 13] ++ (ihdr4 ++ hs)) ++ ks) ∧ Kept (fun _ => False) w w'

set_option maxRecDepth 100000 in
set_option maxHeartbeats 1000000 in
theorem chunkOf_any (base2 : Nat) (v : Value) (hs : List Value) (w : World) (hrow : RowC w base2 13 v hs) (hby : ∀ j, j < 13 → ∃ b : Int, hs[j]? = some (.int .u8 b) ∧ 0 ≤ b ∧ b ≤ 255) (hone : ∀ u ∈ hs, u.oneCell' = true) :
    Calls Tryz.prog 6 #[.string ⟨#[73, 72, 68, 82]⟩, v] w fun e w' => ChunkPost w w' hs e := by
  obtain ⟨g, gcap, rfl, hg1, hg2, hg3, hg4, hg5⟩ := hrow
  obtain ⟨cap, row, hc4, hcm, hrs, hrow4, hconv⟩ := conv_name w
  have HY := Lib.hid hby; have HO := Lib.hid hone; have HG := Lib.hid hg5; have HL := Lib.hid hg4; have HRS := Lib.hid hrs; have HR4 := Lib.hid hrow4
  clear hby hone hg5 hg4 hrs hrow4
  go_enter Tryz.func6, Tryz.ntmps6
  go_wp2_with (at_builtin; refine Hid.out ?_)
  show wpList _ _ _ _ _ _
  have hy : RowC ((w.alloc (.cells row 5 (cap, cap + 1))).drew) base2 13 (.slice (some ⟨g, 0, none⟩) 13 gcap) hs :=
    RowC.kept (a := w) ⟨g, gcap, rfl, hg1, hg2, hg3, HL.out, HG.out⟩ (((Kept.refl (fun _ => False) w).alloc _).drew) (fun _ _ _ h => h)
  have hcell : ∀ j, ((w.alloc (.cells row 5 (cap, cap + 1))).drew).cell? ⟨w.heap.size, j, none⟩ = row[j]? := fun j => mark_cell w row 5 (cap, cap + 1) j
  refine append_spare rfl (.tmp 7) (.tmp 8) rfl w.heap.size w.heap.size 4 cap ihdr4 rfl rfl (Nat.le_refl _) (by simp) (fun j u hj => (hcell j).trans (HR4.out j u hj))
    (fun j hj => ⟨by rw [hcell j, Array.getElem?_eq_getElem (by rw [HRS.out]; exact hj)]; rfl, mark_frozen w row 5 cap j hj⟩) base2 _ 13 hs rfl hy HO.out (by decide) ?_
  intro v1 w1 hr1 k1
  have k1' : Kept (fun _ => False) w w1 := kept_after (((Kept.refl (fun _ => False) w).alloc _).drew) k1 (by rintro i rfl; exact .inl (Nat.le_refl _))
  clear hy hcell hconv k1
  have l1 : w.heap.size ≤ w1.heap.size := k1'.size
  obtain ⟨g', c', rfl, hb1, hb2, hb3, hb4, hb5⟩ := hr1
  have hby2 : Bytes w1 g' 0 17 := by
    intro j hj
    rw [Nat.zero_add]
    by_cases h4 : j < 4
    · have e : (ihdr4 ++ hs)[j]? = ihdr4[j]? := List.getElem?_append_left (by simpa [ihdr4] using h4)
      match j, h4 with
      | 0, _ => exact ⟨73, hb5 0 _ e, by omega, by omega⟩
      | 1, _ => exact ⟨72, hb5 1 _ e, by omega, by omega⟩
      | 2, _ => exact ⟨68, hb5 2 _ e, by omega, by omega⟩
      | 3, _ => exact ⟨82, hb5 3 _ e, by omega, by omega⟩
      | n + 4, h => exact absurd h (by omega)
    · obtain ⟨b, hb, h0, h1⟩ := HY.out (j - 4) (by omega)
      have e : (ihdr4 ++ hs)[j]? = hs[j - 4]? := List.getElem?_append_right (by simpa [ihdr4] using h4)
      exact ⟨b, hb5 j _ (e.trans hb), h0, h1⟩
  have HB2 := Lib.hid hby2; have HB4 := Lib.hid hb4; have HB5 := Lib.hid hb5; have K1 := Lib.hid k1'; clear hby2 hb4 hb5 k1'
  go_wp2_with fail
  refine (four_any 13 _ (by decide) (by decide)).mono ?_
  rintro e w2 ⟨rfl, rfl⟩
  go_wp2_with (at_builtin; refine Hid.out ?_)
  show wpList _ _ _ _ _ _
  have kA : Kept (fun _ => False) w1 (w1.alloc (.cells #[.int .u8 0, .int .u8 0, .int .u8 0, .int .u8 13] 5)) := (Kept.refl _ w1).alloc _
  have o1 := row_new w1 w1.heap.size 4 [.int .u8 0, .int .u8 0, .int .u8 0, .int .u8 13] (Nat.le_refl _) rfl (by decide)
  have rB : RowC w1 w.heap.size 17 (.slice (some ⟨g', 0, none⟩) 17 c') (ihdr4 ++ hs) := ⟨g', c', rfl, hb1, hb2, hb3, HB4.out, HB5.out⟩
  refine append_rowC rfl (.tmp 13) (.tmp 14) rfl w1.heap.size (.slice (some ⟨w1.heap.size, 0, none⟩) 4 4) 4 [.int .u8 0, .int .u8 0, .int .u8 0, .int .u8 13] rfl o1 w.heap.size (.slice (some ⟨g', 0, none⟩) 17 c') 17 (ihdr4 ++ hs) rfl (rB.kept kA (fun _ _ _ h => h))
    (by intro u hu; rcases List.mem_append.1 hu with h | h; exact ihdr4_one u h; exact HO.out u h) (by decide) (by simp) ?_
  intro v3 w3 own3 gr3
  have k3 : Kept (fun _ => False) w1 w3 := Kept.grown kA gr3 (fun k hk => .inl (o1.lt k hk).1)
  have hb3' : Bytes w3 g' 0 17 := fun j hj => by
    obtain ⟨b, hb, h0, h1⟩ := HB2.out j hj
    exact ⟨b, k3.cell hb id, h0, h1⟩
  have l3 : w1.heap.size ≤ w3.heap.size := k3.size
  have HB3 := Lib.hid hb3'; have O3 := Lib.hid own3; have K3 := Lib.hid (K1.out.trans k3); clear kA o1 rB own3 gr3 k3 hb3'
  go_wp2_with fail
  refine (crc_any g' 0 17 c' _ (by decide) HB3.out).mono ?_
  rintro e w4 ⟨n, hn0, hn1, rfl, rfl⟩
  go_wp2_with fail
  refine (four_wide n _ hn0 hn1).mono ?_
  rintro e w5 ⟨a, b, c, d, ha, hb, hc, hd, rfl, rfl⟩
  go_wp2_with (at_builtin; refine Hid.out ?_)
  show wpList _ _ _ _ _ _
  refine append_row rfl (.tmp 15) (.tmp 18) rfl w1.heap.size v3 21 _ rfl (O3.out.alloc _) w1.heap.size (.slice (some ⟨w4.heap.size, 0, none⟩) 4 4) 4 [.int .u8 a, .int .u8 b, .int .u8 c, .int .u8 d] rfl
    (row_new w4 w1.heap.size 4 [.int .u8 a, .int .u8 b, .int .u8 c, .int .u8 d] l3 rfl (by decide)) (by decide) (by simp [Value.oneCell']) (by decide) (by simp; omega) ?_
  intro v5 w5 own5 gr5
  have k5 : Kept (fun _ => False) w w5 := Kept.grown (K3.out.alloc _) gr5 (fun k hk => .inl (Nat.le_trans l1 (O3.out.lt k hk).1))
  have O5 := Lib.hid (row_mono own5 l1); have K5 := Lib.hid k5; clear own5 gr5 k5
  go_wp2
  go_ret
  exact ⟨v5, [.int .u8 a, .int .u8 b, .int .u8 c, .int .u8 d], rfl, by simp [Value.oneCell'], rfl, O5.out, K5.out⟩

end Go.Proofs.YtinfkihnedpdnaaGreatDoor
