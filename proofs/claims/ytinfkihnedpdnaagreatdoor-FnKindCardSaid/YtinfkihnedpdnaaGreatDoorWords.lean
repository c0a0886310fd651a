/- Small words for memory: a block that is known whole, a slice that reads as a list, and what a copy leaves of a row. No condition. -/
import Derived.Below
import Derived.Laws.OwnMore
import Derived.Laws.CopyOwn
import Derived.Deep.AppendLies
import Derived.Deep.Draws
import Derived.Laws.Rows
namespace Go.Proofs.YtinfkihnedpdnaaGreatDoor
open Go.RowKit

def Blk (w : World) (g : Nat) (t : TypeId) (cs : Array Value) : Prop := w.heap[g]? = some (.cells cs t (0, 0))

section
variable {w w' : World} {g : Nat} {t : TypeId} {cs : Array Value}
theorem Blk.lt (h : Blk w g t cs) : g < w.heap.size := by
  rcases Nat.lt_or_ge g w.heap.size with hlt | hge
  · exact hlt
  · unfold Blk at h; rw [Array.getElem?_eq_none hge] at h; cases h
theorem Blk.cell (h : Blk w g t cs) (i : Nat) : w.cell? ⟨g, i, none⟩ = cs[i]? := cell_of_row w g i cs t (0, 0) h
theorem Blk.frozen (h : Blk w g t cs) (i : Nat) : w.frozen? ⟨g, i, none⟩ = false := by
  unfold Blk at h
  simp [World.frozen?, h]
theorem Blk.new (w : World) (t : TypeId) (cs : Array Value) : Blk (w.alloc (.cells cs t)) w.heap.size t cs := heap_alloc_new w _
theorem Blk.drew (h : Blk w g t cs) : Blk w.drew g t cs := h
theorem Blk.drewN (h : Blk w g t cs) (n : Nat) : Blk (w.drewN n) g t cs := h
theorem Blk.alloc (h : Blk w g t cs) (o : Obj) : Blk (w.alloc o) g t cs := (Below.heap_alloc w o g h.lt).trans h
theorem Blk.set_ (h : Blk w g t cs) (i : Nat) (u : Value) : Blk (w.setCell ⟨g, i, none⟩ u) g t (cs.setIfInBounds i u) := by
  unfold Blk at h ⊢
  simp [World.setCell, Array.getElem?_modify, h]
theorem Blk.far (h : Blk w g t cs) {p : Addr} (hp : g ≠ p.block) (u : Value) : Blk (w.setCell p u) g t cs := (Below.heap_setCell w p u g hp).trans h
theorem Blk.below {B : Nat} (h : Blk w g t cs) (hb : Below B w w') (hg : g < B) : Blk w' g t cs := (hb.block g hg).trans h
theorem Blk.grown {row : Option Nat} (h : Blk w g t cs) (hb : w.grownBy w' row) (hg : some g ≠ row) : Blk w' g t cs := (hb.block g h.lt hg).trans h
theorem Blk.ne_ {g' : Nat} {t' : TypeId} {cs' : Array Value} (h : Blk w g t cs) (h' : Blk w g' t' cs') (hne : t ≠ t') : g ≠ g' := by
  rintro rfl
  unfold Blk at h h'
  rw [h] at h'
  injection h' with h'
  injection h' with _ ht
  exact hne ht
end

/-- Cell k of a row over which 'cs' has been laid from 'off' on. -/
theorem getElem?_splice {α : Type} (L : List α) (off : Nat) (cs : List α) (h : off + cs.length ≤ L.length) (k : Nat) :
    (splice L off cs)[k]? = if k < off then L[k]? else if k < off + cs.length then cs[k - off]? else L[k]? := by
  unfold splice
  have hl : (L.take off).length = off := by rw [List.length_take]; omega
  by_cases h1 : k < off
  · rw [if_pos h1, List.getElem?_append_left (by omega), List.getElem?_take_of_lt h1]
  · rw [if_neg h1, List.getElem?_append_right (by omega), hl]
    by_cases h2 : k < off + cs.length
    · rw [if_pos h2, List.getElem?_append_left (by omega)]
    · rw [if_neg h2, List.getElem?_append_right (by omega), List.getElem?_drop]
      congr 1
      omega

theorem splice_in {α : Type} {L : List α} {off : Nat} {cs : List α} (h : off + cs.length ≤ L.length) {j : Nat} (hj : j < cs.length) : (splice L off cs)[off + j]? = cs[j]? := by
  rw [getElem?_splice L off cs h, if_neg (by omega), if_pos (by omega)]
  congr 1
  omega
theorem splice_out {α : Type} {L : List α} {off : Nat} {cs : List α} (h : off + cs.length ≤ L.length) {k : Nat} (hk : k < off ∨ off + cs.length ≤ k) : (splice L off cs)[k]? = L[k]? := by
  rw [getElem?_splice L off cs h]
  by_cases h1 : k < off
  · rw [if_pos h1]
  · rw [if_neg h1, if_neg (by omega)]

/-- Of the blocks that are there in w only those of S may hold other things in w'. -/
structure Kept (S : Nat → Prop) (w w' : World) : Prop where
  os : w'.os = w.os
  tape : w'.tape = w.tape
  output : w'.output = w.output
  size : w.heap.size ≤ w'.heap.size
  block : ∀ k, k < w.heap.size → ¬ S k → w'.heap[k]? = w.heap[k]?

section
variable {S : Nat → Prop} {a b c : World}
theorem Kept.refl (S : Nat → Prop) (w : World) : Kept S w w := ⟨rfl, rfl, rfl, Nat.le_refl _, fun _ _ _ => rfl⟩
theorem Kept.trans (h : Kept S a b) (k : Kept S b c) : Kept S a c :=
  ⟨k.os.trans h.os, k.tape.trans h.tape, k.output.trans h.output, Nat.le_trans h.size k.size, fun i hi hs => (k.block i (Nat.lt_of_lt_of_le hi h.size) hs).trans (h.block i hi hs)⟩
theorem Kept.mono {T : Nat → Prop} (h : Kept S a b) (hT : ∀ k, S k → T k) : Kept T a b := ⟨h.os, h.tape, h.output, h.size, fun k hk ht => h.block k hk fun hs => ht (hT k hs)⟩
theorem Kept.drew (h : Kept S a b) : Kept S a b.drew := ⟨h.os, h.tape, h.output, h.size, h.block⟩
theorem Kept.drewN (h : Kept S a b) (n : Nat) : Kept S a (b.drewN n) := ⟨h.os, h.tape, h.output, h.size, h.block⟩
theorem Kept.alloc (h : Kept S a b) (o : Obj) : Kept S a (b.alloc o) :=
  ⟨h.os, h.tape, h.output, by have := h.size; simp; omega, fun k hk hs => (Below.heap_alloc b o k (Nat.lt_of_lt_of_le hk h.size)).trans (h.block k hk hs)⟩
theorem Kept.setCell (h : Kept S a b) {p : Addr} (hp : S p.block) (u : Value) : Kept S a (b.setCell p u) :=
  ⟨h.os, h.tape, h.output, by have := h.size; simp [World.setCell]; omega, fun k hk hs => (Below.heap_setCell b p u k (fun e => hs (e ▸ hp))).trans (h.block k hk hs)⟩
theorem Kept.setRow (h : Kept S a b) {g : Nat} (hg : S g) (cs : Array Value) : Kept S a (b.setRow g cs) :=
  ⟨h.os, h.tape, h.output, by have := h.size; simp [World.setRow]; omega, fun k hk hs => (setRow_other b g k cs (fun e => hs (e ▸ hg))).trans (h.block k hk hs)⟩
theorem Kept.grown {row : Option Nat} (h : Kept S a b) (hg : b.grownBy c row) (hr : ∀ k, row = some k → a.heap.size ≤ k ∨ S k) : Kept S a c :=
  ⟨hg.os.trans h.os, hg.tape.trans h.tape, hg.output.trans h.output, Nat.le_trans h.size hg.size, fun k hk hs => by
    refine (hg.block k (Nat.lt_of_lt_of_le hk h.size) (fun e => ?_)).trans (h.block k hk hs)
    rcases hr k e.symm with h1 | h1
    · omega
    · exact hs h1⟩
theorem Kept.below {B : Nat} (h : Kept S a b) (hB : ∀ k, S k → B ≤ k) (hs : B ≤ a.heap.size) : Below B a b :=
  ⟨h.os, h.tape, h.output, h.size, fun k hk => h.block k (Nat.lt_of_lt_of_le hk hs) (fun e => by have := hB k e; omega)⟩
theorem Kept.of_below {B : Nat} (h : Below B a b) : Kept (fun k => B ≤ k) a b := ⟨h.os, h.tape, h.output, h.size, fun k _ hs => h.block k (by omega)⟩
theorem Kept.cell (h : Kept S a b) {p : Addr} {v : Value} (hp : a.cell? p = some v) (hs : ¬ S p.block) : b.cell? p = some v :=
  (World.cell?_of_block (w := a) (h.block p.block (World.block_lt_of_cell? a p hp) hs)).trans hp
theorem Blk.kept {g : Nat} {t : TypeId} {cs : Array Value} (h : Blk a g t cs) (hk : Kept S a b) (hs : ¬ S g) : Blk b g t cs := (hk.block g h.lt hs).trans h
theorem Blk.setRow {g : Nat} {t : TypeId} {cs : Array Value} (h : Blk a g t cs) (ds : Array Value) : Blk (a.setRow g ds) g t ds := setRow_heap a g cs ds t _ h
theorem Blk.farRow {g g' : Nat} {t : TypeId} {cs : Array Value} (h : Blk a g t cs) (hne : g ≠ g') (ds : Array Value) : Blk (a.setRow g' ds) g t cs := (setRow_other a g' g ds hne).trans h
end

end Go.Proofs.YtinfkihnedpdnaaGreatDoor
