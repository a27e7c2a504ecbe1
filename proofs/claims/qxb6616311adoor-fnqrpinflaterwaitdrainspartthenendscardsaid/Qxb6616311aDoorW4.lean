import Derived.Test.Qxb6616311aDoorW3
namespace Go.Proofs.Qxb6616311aDoor
open Go.RowKit
set_option linter.unusedVariables false

/-- Block zb is the inflater: its part the slice (a, n, n). -/
def IsZ (w : World) (zb : Nat) (a : Option Addr) (n c : Nat) (last : Bool) : Prop := w.heap[zb]? = some (.cells (zCells a n c last) 38 (0, 0))

theorem IsZ.c0 {w : World} {zb : Nat} {a : Option Addr} {n c : Nat} {last : Bool} (h : IsZ w zb a n c last) : w.cell? ⟨zb, 0, none⟩ = some (.slice a n c) := by
  unfold IsZ at h; simp [World.cell?, h, zCells]
theorem IsZ.c1 {w : World} {zb : Nat} {a : Option Addr} {n c : Nat} {last : Bool} (h : IsZ w zb a n c last) : w.cell? ⟨zb, 1, none⟩ = some (.bool last) := by
  unfold IsZ at h; simp [World.cell?, h, zCells]
theorem IsZ.c2 {w : World} {zb : Nat} {a : Option Addr} {n c : Nat} {last : Bool} (h : IsZ w zb a n c last) : w.cell? ⟨zb, 2, none⟩ = some (.func (.func 13) #[] #[]) := by
  unfold IsZ at h; simp [World.cell?, h, zCells]
theorem IsZ.f0 {w : World} {zb : Nat} {a : Option Addr} {n c : Nat} {last : Bool} (h : IsZ w zb a n c last) : w.frozen? ⟨zb, 0, none⟩ = false := by
  unfold IsZ at h; simp [World.frozen?, h]
theorem IsZ.set {w : World} {zb : Nat} {a : Option Addr} {n c : Nat} {last : Bool} (h : IsZ w zb a n c last) (a' : Option Addr) (n' c' : Nat) : IsZ (w.setCell ⟨zb, 0, none⟩ (.slice a' n' c')) zb a' n' c' last := by
  unfold IsZ at h ⊢
  have hlt := lt_of_block h
  have h' : w.heap[zb] = .cells (zCells a n c last) 38 (0, 0) := by simpa [Array.getElem?_eq_getElem hlt] using h
  show (w.heap.modify zb _)[zb]? = _
  rw [Array.getElem?_eq_getElem (by simpa using hlt), Array.getElem_modify_self, h']
  rfl
theorem Kept.isZ {S : Nat → Prop} {w w' : World} (h : Kept S w w') {zb : Nat} {a : Option Addr} {n c : Nat} {last : Bool} (hz : IsZ w zb a n c last) (hs : ¬ S zb) : IsZ w' zb a n c last := by
  unfold IsZ at hz ⊢
  rw [h.block zb (lt_of_block hz) hs]; exact hz
theorem Kept.setCell (w : World) (zb : Nat) (v : Value) : Kept (fun k => k = zb) w (w.setCell ⟨zb, 0, none⟩ v) :=
  ⟨rfl, rfl, rfl, by simp, fun k _ hk => Below.heap_setCell _ _ _ _ hk⟩

/-- What a Read of n bytes out of a part of m bytes leaves. -/
def ReadEnd (zb pb bb k m n : Nat) (last : Bool) (ys bs : List Int) (w w' : World) : Prop :=
  ∃ a', IsZ w' zb a' (m - n) (m - n) last ∧ (n < m → a' = some ⟨pb, k + n, none⟩) ∧ Row w' bb (ys.take n ++ bs.drop n) ∧ Kept (fun j => j = zb ∨ j = bb) w w' ∧ w'.heap.size = w.heap.size

theorem readEnd_of {zb pb bb k m n : Nat} {last : Bool} {ys bs : List Int} {w w2 : World} {a0 a' : Option Addr} {r : Nat} (hz2 : IsZ w2 zb a0 m m last) (hr2 : Row w2 bb (ys.take n ++ bs.drop n))
    (hk2 : Kept (fun k => k = bb) w w2) (hs : w2.heap.size = w.heap.size) (hzb : zb ≠ bb) (ha : n < m → a' = some ⟨pb, k + n, none⟩) (hr : r = m - n) :
    ReadEnd zb pb bb k m n last ys bs w (w2.setCell ⟨zb, 0, none⟩ (.slice a' r r)) := by
  subst hr
  refine ⟨a', hz2.set _ _ _, ha, (Kept.setCell w2 zb _).row hr2 (fun h => hzb h.symm), (hk2.mono (fun _ _ h => .inr h)).trans ((Kept.setCell w2 zb _).mono (fun _ _ h => .inl h)), by simpa using hs⟩

set_option maxHeartbeats 400000 in
theorem read15_some (zb pb bb k m c n : Nat) (last : Bool) (ys bs : List Int) (w : World) (hz : IsZ w zb (some ⟨pb, k, none⟩) m m last) (hm : 0 < m)
    (hp : IsB w (some ⟨pb, k, none⟩) m ys) (hb : Row w bb bs) (hbl : bs.length = c) (hzb : zb ≠ bb) (hn : n = min m c) (hm' : m ≤ 1048576) :
    Calls Tryd.prog 15 #[.pointer (some ⟨zb, 0, none⟩), .slice (some ⟨bb, 0, none⟩) c c] w fun e w' => e = .returned (.tuple #[.int .i64 n, .nilIface]) ∧ ReadEnd zb pb bb k m n last ys bs w w' := by
  have hyl := hp.1
  have hs : IsB w (some ⟨pb, k, none⟩) (ys.take n).length (ys.take n) := by
    refine ⟨rfl, fun h0 => ?_⟩
    obtain ⟨b, off, he, h⟩ := hp.2 hm
    refine ⟨b, off, he, fun i hi => ?_⟩
    have hi' : i < n := by simp at hi; omega
    rw [h i (by omega)]
    simp [hi']
  have hl : (ys.take n).length = n := by simp; omega
  obtain ⟨w2, hrun, hr2, hk2, hs2⟩ := copy_row w (some ⟨bb, 0, none⟩) (some ⟨pb, k, none⟩) c c m m bb bs (ys.take n) hb (by rw [hl]; exact hn) (fun _ => rfl) hs (by omega)
  rw [hl] at hrun hr2
  have hz2 : IsZ w2 zb (some ⟨pb, k, none⟩) m m last := hk2.isZ hz hzb
  have c0 := hz.c0
  have d0 := hz2.c0
  have f0 := hz2.f0
  have hnm : n ≤ m := by omega
  have hnm' : (n : Int) ≤ (m : Int) := by omega
  have HS : Hid (w2.heap.size = w.heap.size) := hs2
  clear hs hl hp hyl hbl hn hs2
  go_enter Tryd.func15, Tryd.ntmps15
  go_wp2_with (go_at_call 14; refine (wait14_some zb (some ⟨pb, k, none⟩) m m _ c0 hm).mono ?_; rintro e w' ⟨rfl, rfl⟩)
  · have he : m = n := by assumption
    subst he
    go_ret2
    exact ⟨rfl, readEnd_of hz2 hr2 hk2 HS.out hzb (fun h => absurd h (Nat.lt_irrefl _)) (by omega)⟩
  · go_ret2
    exact ⟨rfl, readEnd_of hz2 hr2 hk2 HS.out hzb (fun _ => rfl) rfl⟩

set_option maxHeartbeats 400000 in
theorem read15_last (zb c : Nat) (a : Option Addr) (v : Value) (t : Nat) (x : Addr) (w : World) (hz : IsZ w zb a 0 c true) (he : w.cell? ⟨0, 0, none⟩ = some (.iface t (.pointer (some x)))) :
    Calls Tryd.prog 15 #[.pointer (some ⟨zb, 0, none⟩), v] w fun e w' => e = .returned (.tuple #[.int .i64 0, .iface t (.pointer (some x))]) ∧ w' = w := by
  have c0 := hz.c0
  have c1 := hz.c1
  go_enter Tryd.func15, Tryd.ntmps15
  go_wp2_with (go_at_call 14; refine (wait14_last zb a c t x _ c0 c1 he).mono ?_; rintro e w' ⟨rfl, rfl⟩)
  go_ret2
  exact ⟨rfl, rfl⟩

set_option maxHeartbeats 400000 in
theorem read15_drop (zb c : Nat) (a : Option Addr) (v : Value) (t : Nat) (x : Addr) (w : World) (hz : IsZ w zb a 0 c false) (hsz : 1 < w.heap.size) (he : w.cell? ⟨1, 0, none⟩ = some (.iface t (.pointer (some x)))) :
    Calls Tryd.prog 15 #[.pointer (some ⟨zb, 0, none⟩), v] w fun e w' => e = .returned (.tuple #[.int .i64 0, .iface t (.pointer (some x))]) ∧ ∃ o, w' = w.alloc o := by
  have c0 := hz.c0
  have c1 := hz.c1
  have c2 := hz.c2
  go_enter Tryd.func15, Tryd.ntmps15
  go_wp2_with (go_at_call 14; refine (wait14_drop zb a c t x _ c0 c1 c2 hsz he).mono ?_; rintro e w' ⟨rfl, o, rfl⟩)
  go_ret2
  exact ⟨rfl, o, rfl⟩

/-- The two sentinels lie where start-up code laid them: both are errors that are not nil. -/
def Errs (w : World) : Prop := 1 < w.heap.size ∧ (∃ t x, w.cell? ⟨0, 0, none⟩ = some (.iface t (.pointer (some x)))) ∧ ∃ t x, w.cell? ⟨1, 0, none⟩ = some (.iface t (.pointer (some x)))

theorem Kept.errs {S : Nat → Prop} {w w' : World} (h : Kept S w w') (he : Errs w) (h0 : ¬ S 0) (h1 : ¬ S 1) : Errs w' := by
  obtain ⟨hs, ⟨t, x, c0⟩, ⟨t', x', c1⟩⟩ := he
  have := h.size
  exact ⟨by omega, ⟨t, x, (World.cell?_of_block (h.block 0 (by omega) h0)).trans c0⟩, ⟨t', x', (World.cell?_of_block (h.block 1 (by omega) h1)).trans c1⟩⟩

set_option maxHeartbeats 400000 in
theorem wait8_some (zb : Nat) (a : Option Addr) (n c : Nat) (last : Bool) (w : World) (hz : IsZ w zb a n c last) (hn : 0 < n) :
    Calls Tryd.prog 8 #[.pointer (some ⟨zb, 0, none⟩)] w fun e w' => e = .returned .nilIface ∧ w' = w := by
  have c0 := hz.c0
  go_enter Tryd.func8, Tryd.ntmps8
  go_wp2_with (go_at_call 14; refine (wait14_some zb a n c _ c0 hn).mono ?_; rintro e w' ⟨rfl, rfl⟩)
  go_ret
  exact ⟨rfl, rfl⟩

set_option maxHeartbeats 400000 in
theorem wait8_end (zb : Nat) (a : Option Addr) (c : Nat) (last : Bool) (w : World) (hz : IsZ w zb a 0 c last) (hE : Errs w) :
    Calls Tryd.prog 8 #[.pointer (some ⟨zb, 0, none⟩)] w fun e w' => (∃ t x, e = .returned (.iface t (.pointer (some x)))) ∧ Kept (fun _ => False) w w' := by
  obtain ⟨hsz, ⟨t0, x0, e0⟩, ⟨t1, x1, e1⟩⟩ := hE
  have c0 := hz.c0
  have c1 := hz.c1
  have c2 := hz.c2
  cases last
  · go_enter Tryd.func8, Tryd.ntmps8
    go_wp2_with (go_at_call 14; refine (wait14_drop zb a c t1 x1 _ c0 c1 c2 hsz e1).mono ?_; rintro e w' ⟨rfl, o, rfl⟩)
    go_ret
    exact ⟨⟨t1, x1, rfl⟩, Kept.alloc _ _ _⟩
  · go_enter Tryd.func8, Tryd.ntmps8
    go_wp2_with (go_at_call 14; refine (wait14_last zb a c t0 x0 _ c0 c1 e0).mono ?_; rintro e w' ⟨rfl, rfl⟩)
    go_ret
    exact ⟨⟨t0, x0, rfl⟩, Kept.refl _ _⟩

set_option maxHeartbeats 400000 in
theorem read9_some (zb pb bb k m c n : Nat) (last : Bool) (ys bs : List Int) (w : World) (hz : IsZ w zb (some ⟨pb, k, none⟩) m m last) (hm : 0 < m)
    (hp : IsB w (some ⟨pb, k, none⟩) m ys) (hb : Row w bb bs) (hbl : bs.length = c) (hzb : zb ≠ bb) (hn : n = min m c) (hm' : m ≤ 1048576) :
    Calls Tryd.prog 9 #[.pointer (some ⟨zb, 0, none⟩), .slice (some ⟨bb, 0, none⟩) c c] w fun e w' => e = .returned (.tuple #[.int .i64 n, .nilIface]) ∧ ReadEnd zb pb bb k m n last ys bs w w' := by
  have H : Hid (Calls Tryd.prog 15 #[.pointer (some ⟨zb, 0, none⟩), .slice (some ⟨bb, 0, none⟩) c c] w fun e w' => e = .returned (.tuple #[.int .i64 n, .nilIface]) ∧ ReadEnd zb pb bb k m n last ys bs w w') := read15_some zb pb bb k m c n last ys bs w hz hm hp hb hbl hzb hn hm'
  clear hz hm hp hb hbl hzb hn hm'
  go_enter Tryd.func9, Tryd.ntmps9
  go_wp2_with (go_at_call 15; refine H.out.mono ?_; rintro e w' ⟨rfl, hr⟩)
  go_ret2
  exact ⟨rfl, hr⟩

set_option maxHeartbeats 400000 in
theorem read9_end (zb c : Nat) (a : Option Addr) (v : Value) (last : Bool) (w : World) (hz : IsZ w zb a 0 c last) (hE : Errs w) :
    Calls Tryd.prog 9 #[.pointer (some ⟨zb, 0, none⟩), v] w fun e w' => (∃ t x, e = .returned (.tuple #[.int .i64 0, .iface t (.pointer (some x))])) ∧ Kept (fun _ => False) w w' := by
  obtain ⟨hsz, ⟨t0, x0, e0⟩, ⟨t1, x1, e1⟩⟩ := hE
  cases last
  · go_enter Tryd.func9, Tryd.ntmps9
    go_wp2_with (go_at_call 15; refine (read15_drop zb c a v t1 x1 _ hz hsz e1).mono ?_; rintro e w' ⟨rfl, o, rfl⟩)
    go_ret2
    exact ⟨⟨t1, x1, rfl⟩, Kept.alloc _ _ _⟩
  · go_enter Tryd.func9, Tryd.ntmps9
    go_wp2_with (go_at_call 15; refine (read15_last zb c a v t0 x0 _ hz e0).mono ?_; rintro e w' ⟨rfl, rfl⟩)
    go_ret2
    exact ⟨⟨t0, x0, rfl⟩, Kept.refl _ _⟩

end Go.Proofs.Qxb6616311aDoor
