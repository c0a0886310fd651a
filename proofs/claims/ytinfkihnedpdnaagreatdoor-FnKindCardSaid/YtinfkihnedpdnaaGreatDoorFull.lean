/- The contracts of io.ReadAtLeast and io.ReadFull over a bytes.Reader that holds enough bytes. -/
import Derived.Test.YtinfkihnedpdnaaGreatDoorReader
import Derived.Deep.RegionWith
namespace Go.Proofs.YtinfkihnedpdnaaGreatDoor
open Go.RowKit

theorem read_ahead (a : Addr) (w : World) : (nilAhead 407 45 (.pointer (some a)) "Read").run Tryz.prog w = .ok (some false) w := by kernel_rfl
theorem read_method (a : Addr) (w : World) : (method 407 45 (.pointer (some a)) "Read").run Tryz.prog w = .ok (136, .pointer (some a)) w := by kernel_rfl

set_option maxRecDepth 100000 in
set_option maxHeartbeats 1000000 in
theorem atLeast_any (D R A len cap n i dcap : Nat) (p : Int) (L cs : List Value) (w : World) (hn : 0 < n) (hin : i + n ≤ len) (hlen : len ≤ 1000) (hcap : len ≤ cap) (hdc : n ≤ dcap)
    (hR : RdAt w R A len cap i p) (hD : Blk w D 67 L.toArray) (hL : 10 + n ≤ L.length) (hcs : cs.length = n) (hone : ∀ v ∈ cs, v.oneCell' = true)
    (hsrc : ∀ j v, cs[j]? = some v → w.cell? ⟨A, i + j, none⟩ = some v) (hAR : A ≠ R) :
    Calls Tryz.prog 41 #[.iface 45 (.pointer (some ⟨R, 0, none⟩)), .slice (some ⟨D, 10, none⟩) n dcap, .int .i64 n] w fun e w' => ReadPost w w' D R A len cap n i L cs e := by
  have HR := Lib.hid hR; have HD := Lib.hid hD; have HC := Lib.hid hcs; have HO := Lib.hid hone; have HS := Lib.hid hsrc
  clear hR hD hcs hone hsrc
  have HR' : Hid (RdAt w.drew R A len cap i p) := HR.out
  have HD' : Hid (Blk w.drew D 67 L.toArray) := HD.out
  have HS' : Hid (∀ j v, cs[j]? = some v → w.drew.cell? ⟨A, i + j, none⟩ = some v) := HS.out
  have na := read_ahead
  have me := read_method
  go_enter Tryz.func41, Tryz.ntmps41
  go_wp2
  refine wp_loop_rounds 2 ?_
  rw [rounds_succ]
  go_wp2
  go_region_with (go_at_call 136; (refine (read_any D R A len cap n i dcap p L cs w.drew hn hin hlen hcap HR'.out HD'.out hL HC.out HO.out HS'.out hAR).mono ?_); rintro e w' ⟨rfl, h1, h2, h3⟩)
  have H1 := Lib.hid h1; have H2 := Lib.hid h2; have H3 := Lib.hid h3; clear h1 h2 h3
  go_wp2
  rw [rounds_succ]
  go_wp2
  go_ret2
  exact ⟨rfl, H1.out, H2.out, ((Kept.refl _ w).drew).trans H3.out⟩

set_option maxHeartbeats 1000000 in
theorem full_any (D R A len cap n i dcap : Nat) (p : Int) (L cs : List Value) (w : World) (hn : 0 < n) (hin : i + n ≤ len) (hlen : len ≤ 1000) (hcap : len ≤ cap) (hdc : n ≤ dcap)
    (hR : RdAt w R A len cap i p) (hD : Blk w D 67 L.toArray) (hL : 10 + n ≤ L.length) (hcs : cs.length = n) (hone : ∀ v ∈ cs, v.oneCell' = true)
    (hsrc : ∀ j v, cs[j]? = some v → w.cell? ⟨A, i + j, none⟩ = some v) (hAR : A ≠ R) :
    Calls Tryz.prog 24 #[.iface 45 (.pointer (some ⟨R, 0, none⟩)), .slice (some ⟨D, 10, none⟩) n dcap] w fun e w' => ReadPost w w' D R A len cap n i L cs e := by
  have HR := Lib.hid hR; have HD := Lib.hid hD; have HC := Lib.hid hcs; have HO := Lib.hid hone; have HS := Lib.hid hsrc
  clear hR hD hcs hone hsrc
  go_enter Tryz.func24, Tryz.ntmps24
  go_wp2_with fail
  refine (atLeast_any D R A len cap n i dcap p L cs w hn hin hlen hcap hdc HR.out HD.out hL HC.out HO.out HS.out hAR).mono ?_
  rintro e w' ⟨rfl, h1, h2, h3⟩
  have H1 := Lib.hid h1; have H2 := Lib.hid h2; have H3 := Lib.hid h3; clear h1 h2 h3
  go_wp2
  go_ret2
  exact ⟨rfl, H1.out, H2.out, H3.out⟩

end Go.Proofs.YtinfkihnedpdnaaGreatDoor
