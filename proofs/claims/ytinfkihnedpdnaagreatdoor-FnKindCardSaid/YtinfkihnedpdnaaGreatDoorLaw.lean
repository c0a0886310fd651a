/- The walk of the law FnKind: whatever the four numbers are, it returns true, and nothing that was there turns. Its conditions are what the variables io.EOF, errors.errorType and ieeeTable hold. -/
import Derived.Test.YtinfkihnedpdnaaGreatDoorTold
namespace Go.Proofs.YtinfkihnedpdnaaGreatDoor
open Go.RowKit

theorem isKind_yes (c d : Int) (w : World) (h : kindB c d = true) : Calls Tryz.prog 4 #[.int .i64 c, .int .i64 d] w fun e w' => e = .returned (.bool true) ∧ w' = w :=
  (isKind_any c d w).mono fun e w' ⟨he, hw⟩ => ⟨by rw [he, h], hw⟩
theorem isKind_no (c d : Int) (w : World) (h : kindB c d = false) : Calls Tryz.prog 4 #[.int .i64 c, .int .i64 d] w fun e w' => e = .returned (.bool false) ∧ w' = w :=
  (isKind_any c d w).mono fun e w' ⟨he, hw⟩ => ⟨by rw [he, h], hw⟩

theorem fileOf (W H d c : Int) (ks : List Value) (hks : ∀ u ∈ ks, u.oneCell' = true) :
    FileOf (sig8 ++ (([.int .u8 0, .int .u8 0, .int .u8 0, .int .u8 13] ++ (ihdr4 ++ head13 W H d c)) ++ ks)) W H d c := by
  refine ⟨fun j v hj => ?_, fun j v hj => ?_, fun j v hj => ?_, ?_⟩
  · have hjl : j < 8 := (List.getElem?_eq_some_iff.1 hj).1
    match j, hjl with
    | 0, _ => exact hj
    | 1, _ => exact hj
    | 2, _ => exact hj
    | 3, _ => exact hj
    | 4, _ => exact hj
    | 5, _ => exact hj
    | 6, _ => exact hj
    | 7, _ => exact hj
    | k + 8, h => exact absurd h (by omega)
  · have hjl : j < 8 := (List.getElem?_eq_some_iff.1 hj).1
    match j, hjl with
    | 0, _ => exact hj
    | 1, _ => exact hj
    | 2, _ => exact hj
    | 3, _ => exact hj
    | 4, _ => exact hj
    | 5, _ => exact hj
    | 6, _ => exact hj
    | 7, _ => exact hj
    | k + 8, h => exact absurd h (by omega)
  · have hjl : j < 13 := (List.getElem?_eq_some_iff.1 hj).1
    match j, hjl with
    | 0, _ => exact hj
    | 1, _ => exact hj
    | 2, _ => exact hj
    | 3, _ => exact hj
    | 4, _ => exact hj
    | 5, _ => exact hj
    | 6, _ => exact hj
    | 7, _ => exact hj
    | 8, _ => exact hj
    | 9, _ => exact hj
    | 10, _ => exact hj
    | 11, _ => exact hj
    | 12, _ => exact hj
    | k + 13, h => exact absurd h (by omega)
  · intro u hu
    rcases List.mem_append.1 hu with h | h
    · exact (by decide : ∀ u ∈ sig8, u.oneCell' = true) u h
    · rcases List.mem_append.1 h with h | h
      · rcases List.mem_append.1 h with h | h
        · exact (by simp [Value.oneCell'] : ∀ u ∈ [Value.int .u8 0, .int .u8 0, .int .u8 0, .int .u8 13], u.oneCell' = true) u h
        · rcases List.mem_append.1 h with h | h
          · exact ihdr4_one u h
          · exact (by simp [head13, Value.oneCell'] : ∀ u ∈ head13 W H d c, u.oneCell' = true) u h
      · exact hks u h

set_option maxHeartbeats 1000000 in
theorem law_yes (d c wd hg : Int) (w : World) (hd0 : 0 ≤ d) (hd1 : d ≤ 255) (hc0 : 0 ≤ c) (hc1 : c ≤ 255) (hk : kindB c d = true) :
    Calls Tryz.prog 3 #[.int .u8 d, .int .u8 c, .int .u8 wd, .int .u8 hg] w fun e w' => Quiet w w' (.bool true) e := by
  have HK := Lib.hid hk; clear hk
  go_enter Tryz.func3, Tryz.ntmps3
  go_wp2_with fail
  refine (isKind_yes c d _ HK.out).mono ?_
  rintro e w1 ⟨rfl, rfl⟩
  go_wp2_with fail
  go_ret
  exact ⟨rfl, Kept.refl _ _⟩

set_option maxRecDepth 100000 in
set_option maxHeartbeats 1000000 in
theorem law_no (d c wd hg : Int) (w : World) (hV : Vars w) (hd0 : 0 ≤ d) (hd1 : d ≤ 255) (hc0 : 0 ≤ c) (hc1 : c ≤ 255) (hw0 : 0 ≤ wd) (hw1 : wd ≤ 255) (hh0 : 0 ≤ hg) (hh1 : hg ≤ 255) (hk : kindB c d = false) :
    Calls Tryz.prog 3 #[.int .u8 d, .int .u8 c, .int .u8 wd, .int .u8 hg] w fun e w' => Quiet w w' (.bool true) e := by
  have HK := Lib.hid hk; have HV := Lib.hid hV; clear hk hV
  go_enter Tryz.func3, Tryz.ntmps3
  go_wp2_with fail
  refine (isKind_no c d _ HK.out).mono ?_
  rintro e w1 ⟨rfl, rfl⟩
  go_wp2_with fail
  refine (signature_any _).mono ?_
  rintro e w2 ⟨rfl, rfl⟩
  go_wp2_with fail
  have oS : (w1.alloc (.cells #[.int .u8 137, .int .u8 80, .int .u8 78, .int .u8 71, .int .u8 13, .int .u8 10, .int .u8 26, .int .u8 10] 5)).ownsRow w1.heap.size 5 1 (.slice (some ⟨w1.heap.size, 0, none⟩) 8 8) 8 sig8 := row_new w1 w1.heap.size 8 sig8 (Nat.le_refl _) rfl (by decide)
  have kS : Kept (fun _ => False) w1 (w1.alloc (.cells #[.int .u8 137, .int .u8 80, .int .u8 78, .int .u8 71, .int .u8 13, .int .u8 10, .int .u8 26, .int .u8 10] 5)) := (Kept.refl _ w1).alloc _
  have OS := Lib.hid oS; have KS := Lib.hid kS; clear oS kS
  have hW0 : 1 ≤ 1 + wd % 20 := by omega
  have hW1 : 1 + wd % 20 ≤ 20 := by omega
  have hH0 : 1 ≤ 1 + hg % 20 := by omega
  have hH1 : 1 + hg % 20 ≤ 20 := by omega
  generalize 1 + wd % 20 = W at hW0 hW1 ⊢
  generalize 1 + hg % 20 = H at hH0 hH1 ⊢
  refine (writeHead_any W H d c _ (by omega) (by omega) (by omega) (by omega)).mono ?_
  rintro e w2 ⟨v2, rfl, own2, k2⟩
  have R2 := Lib.hid (RowC.of_row own2 (by decide)); have K2 := Lib.hid k2; clear own2 k2
  go_wp2_with fail
  refine (chunkOf_any _ v2 (head13 W H d c) _ R2.out (head13_byte W H d c hW0 hW1 hH0 hH1 hd0 hd1 hc0 hc1) (by simp [head13, Value.oneCell'])).mono ?_
  rintro e w3 ⟨v3, ks, hks, hko, rfl, own3, k3⟩
  have hf := fileOf W H d c ks hko
  have hone3 : ∀ u ∈ (([Value.int .u8 0, .int .u8 0, .int .u8 0, .int .u8 13] ++ (ihdr4 ++ head13 W H d c)) ++ ks), u.oneCell' = true := fun u hu => hf.one u (List.mem_append.2 (.inr hu))
  have o3 : w3.ownsRow w1.heap.size 5 1 (.slice (some ⟨w1.heap.size, 0, none⟩) 8 8) 8 sig8 := row_kept (row_kept OS.out K2.out (fun _ _ h => h)) k3 (fun _ _ h => h)
  have k13 : Kept (fun _ => False) w1 w3 := (KS.out.trans K2.out).trans k3
  have l3 : w1.heap.size ≤ w3.heap.size := k13.size
  have O3 := Lib.hid o3; have X3 := Lib.hid own3; have K3 := Lib.hid k13; have HF := Lib.hid hf; have H1 := Lib.hid hone3
  clear o3 own3 k13 hf hone3 k3 hks hko OS KS R2 K2
  go_wp2_with (at_builtin; refine Hid.out ?_)
  show wpList _ _ _ _ _ _
  refine append_row rfl (.tmp 17) (.tmp 29) rfl w1.heap.size _ 8 sig8 rfl O3.out _ v3 25 _ rfl X3.out (by decide) H1.out (by decide) l3 ?_
  intro v4 w4 own4 gr4
  have k14 : Kept (fun _ => False) w1 w4 := Kept.grown K3.out gr4 (fun k hk => .inl (O3.out.lt k hk).1)
  have R4 := Lib.hid (RowC.of_row own4 (by decide)); have K4 := Lib.hid k14; clear own4 gr4 k14 O3 X3 K3 H1
  go_wp2_with fail
  refine (implConfig_any w1.heap.size 33 v4 _ W H d c _ R4.out (by decide) (by decide) HF.out (HV.out.kept K4.out (fun _ _ h => h)) hW0 hW1 hH0 hH1 hd0 hd1 hc0 hc1 HK.out).mono ?_
  rintro e w5 ⟨rfl, k5⟩
  have k15 : Kept (fun _ => False) w1 w5 := K4.out.trans k5
  have R5 := Lib.hid (R4.out.kept k5 (fun _ _ _ h => h)); have K5 := Lib.hid k15; clear k5 k15 R4 K4
  go_wp2_with fail
  have kC : Kept (fun _ => False) w5 (w5.alloc (.cells #[.int .i64 0, .int .i64 0, .int .i64 0, .slice none 0 0] 30)) := (Kept.refl _ w5).alloc _
  refine (told_any w1.heap.size 33 v4 _ W H d c _ (R5.out.kept kC (fun _ _ _ h => h)) (by decide) (by decide) HF.out (HV.out.kept (K5.out.trans kC) (fun _ _ h => h)) hW0 hW1 hH0 hH1 hd0 hd1 hc0 hc1 HK.out).mono ?_
  rintro e w6 ⟨rfl, k6⟩
  have K6 := Lib.hid ((K5.out.trans kC).trans k6); clear k6 kC R5 K5
  go_wp2
  go_ret
  exact ⟨rfl, K6.out⟩

end Go.Proofs.YtinfkihnedpdnaaGreatDoor
