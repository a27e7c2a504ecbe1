import Derived.Test.Qxb6616311aDoorProg
import Derived.WalkKit
import Derived.WalkSpells
import Derived.WalkLawsBesides
namespace Go.Proofs.Qxb6616311aDoor
open Go.RowKit

set_option maxHeartbeats 400000 in
theorem bytes5 (a : Option Addr) (n c : Nat) (last : Bool) (k : Int) (w : World) (h : n ≤ 1048576) :
    Calls Tryd.prog 5 #[.slice a n c, .bool last, .int .i64 k] w fun e w' => e = .returned (.bool true) ∧ w' = w := by
  go_enter Tryd.func5, Tryd.ntmps5
  go_wp2
  go_ret
  exact ⟨rfl, rfl⟩

set_option maxHeartbeats 400000 in
theorem bytes5_no (a : Option Addr) (n c : Nat) (last : Bool) (k : Int) (w : World) (h : 1048576 < n) :
    Calls Tryd.prog 5 #[.slice a n c, .bool last, .int .i64 k] w fun e w' => e = .returned (.bool false) ∧ w' = w := by
  go_enter Tryd.func5, Tryd.ntmps5
  go_wp2
  go_ret
  exact ⟨rfl, rfl⟩

set_option maxHeartbeats 400000 in
theorem bytes12 (a : Option Addr) (n c : Nat) (last : Bool) (k : Int) (w : World) (h : n ≤ 1048576) :
    Calls Tryd.prog 12 #[.slice a n c, .bool last, .int .i64 k] w fun e w' => e = .returned (.bool true) ∧ w' = w := by
  go_enter Tryd.func12, Tryd.ntmps12
  go_wp2
  go_ret
  exact ⟨rfl, rfl⟩

set_option maxHeartbeats 400000 in
theorem bytes12_no (a : Option Addr) (n c : Nat) (last : Bool) (k : Int) (w : World) (h : 1048576 < n) :
    Calls Tryd.prog 12 #[.slice a n c, .bool last, .int .i64 k] w fun e w' => e = .returned (.bool false) ∧ w' = w := by
  go_enter Tryd.func12, Tryd.ntmps12
  go_wp2
  go_ret
  exact ⟨rfl, rfl⟩

/-- The inflater's struct as a block of six cells. -/
def zCells (a : Option Addr) (n c : Nat) (last : Bool) : Array Value :=
  #[.slice a n c, .bool last, .func (.func 13) #[] #[], .nilFunc, .nilFunc, .nilIface]

set_option maxHeartbeats 400000 in
theorem new7 (a : Option Addr) (n c : Nat) (last : Bool) (w : World) :
    Calls Tryd.prog 7 #[.slice a n c, .bool last] w fun e w' => e = .returned (.pointer (some ⟨w.heap.size, 0, none⟩)) ∧ w' = w.alloc (.cells (zCells a n c last) 38) := by
  go_enter Tryd.func7, Tryd.ntmps7
  go_wp2
  go_ret
  exact ⟨rfl, rfl⟩

set_option maxHeartbeats 400000 in
theorem wait14_some (zb : Nat) (a : Option Addr) (n c : Nat) (w : World) (h0 : w.cell? ⟨zb, 0, none⟩ = some (.slice a n c)) (hn : 0 < n) :
    Calls Tryd.prog 14 #[.pointer (some ⟨zb, 0, none⟩)] w fun e w' => e = .returned .nilIface ∧ w' = w := by
  have hb : ((n : Int) == 0) = false := by simp; omega
  go_enter Tryd.func14, Tryd.ntmps14
  go_wp2
  refine wp_loop_rounds 1 ?_; rw [rounds_succ]; go_wp2
  go_ret
  exact ⟨rfl, rfl⟩

set_option maxHeartbeats 400000 in
theorem wait14_last (zb : Nat) (a : Option Addr) (c t : Nat) (x : Addr) (w : World) (h0 : w.cell? ⟨zb, 0, none⟩ = some (.slice a 0 c)) (h1 : w.cell? ⟨zb, 1, none⟩ = some (.bool true))
    (he : w.cell? ⟨0, 0, none⟩ = some (.iface t (.pointer (some x)))) :
    Calls Tryd.prog 14 #[.pointer (some ⟨zb, 0, none⟩)] w fun e w' => e = .returned (.iface t (.pointer (some x))) ∧ w' = w := by
  go_enter Tryd.func14, Tryd.ntmps14
  go_wp2
  refine wp_loop_rounds 1 ?_; rw [rounds_succ]; go_wp2
  go_ret
  exact ⟨rfl, rfl⟩

set_option maxHeartbeats 400000 in
theorem wait14_drop (zb : Nat) (a : Option Addr) (c t : Nat) (x : Addr) (w : World) (h0 : w.cell? ⟨zb, 0, none⟩ = some (.slice a 0 c)) (h1 : w.cell? ⟨zb, 1, none⟩ = some (.bool false))
    (h2 : w.cell? ⟨zb, 2, none⟩ = some (.func (.func 13) #[] #[])) (hz : 1 < w.heap.size)
    (he : w.cell? ⟨1, 0, none⟩ = some (.iface t (.pointer (some x)))) :
    Calls Tryd.prog 14 #[.pointer (some ⟨zb, 0, none⟩)] w fun e w' => e = .returned (.iface t (.pointer (some x))) ∧ ∃ o, w' = w.alloc o := by
  go_enter Tryd.func14, Tryd.ntmps14
  go_wp2
  refine wp_loop_rounds 1 ?_; rw [rounds_succ]; go_wp2
  go_ret
  exact ⟨rfl, _, rfl⟩

set_option maxHeartbeats 400000 in
theorem part11 (zb : Nat) (v : Value) (w : World) (h0 : w.cell? ⟨zb, 0, none⟩ = some v) :
    Calls Tryd.prog 11 #[.pointer (some ⟨zb, 0, none⟩)] w fun e w' => e = .returned v ∧ w' = w := by
  go_enter Tryd.func11, Tryd.ntmps11
  go_wp2
  go_ret
  exact ⟨rfl, rfl⟩

end Go.Proofs.Qxb6616311aDoor
