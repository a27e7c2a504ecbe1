/-
  THE WALKS of seat b6616331aZD, q: slices.Concat of two; view.with.
-/
import Derived.Test.Qxb6616331aGreatDoorZp
import Derived.Test.Qxb6616331aGreatDoorZ7
import Derived.Test.Qxb6616331aGreatDoorZ5
namespace Go.Proofs.Qxb6616331aGreatDoor
open Go.RowKit
set_option linter.unusedVariables false
set_option linter.unusedSimpArgs false
set_option linter.unnecessarySimpa false
set_option maxRecDepth 40000

set_option maxHeartbeats 3200000 in
theorem concat61 (b cc : Nat) (a1 : Option Addr) (n1 c1 : Nat) (xs : List Str) (a2 : Option Addr) (n2 c2 : Nat) (ys : List Str) (w : World) (h1 : w.cell? ⟨b, 0, none⟩ = some (.slice a1 n1 c1)) (h2 : w.cell? ⟨b, 1, none⟩ = some (.slice a2 n2 c2))
    (hn12 : n1 + n2 ≤ 4398046511104) (hL1 : IsL w a1 n1 xs) (hL2 : IsL w a2 n2 ys) :
    Calls Tryz.prog 61 #[.slice (some ⟨b, 0, none⟩) 2 cc] w fun e w' => RetL w w' e (xs ++ ys) ∧ Kept w w' := by
  have E1 : Hid (xs.length = n1) := hL1.len
  have E2 : Hid (ys.length = n2) := hL2.len
  have HL1 : Hid (IsL w a1 n1 xs) := hL1
  have HL2 : Hid (IsL w a2 n2 ys) := hL2
  have C1 : Hid (∀ w', Kept w w' → w'.cell? ⟨b, 0, none⟩ = some (.slice a1 n1 c1) ∧ w'.cell? ⟨b, 1, none⟩ = some (.slice a2 n2 c2)) := fun w' q => ⟨q.cell h1, q.cell h2⟩
  clear hL1 hL2
  go_enter Tryz.func61, Tryz.ntmps61
  go_wp2
  go_loopw [3, 11] (fun s i wr => w = wr ∧ ∃ k : Nat, k ≤ 2 ∧ i = .int .i64 k ∧ ((k = 0 ∧ s = .int .i64 0) ∨ (k = 1 ∧ s = .int .i64 n1) ∨ (k = 2 ∧ s = .int .i64 ((n1 : Int) + n2)))) (fun _ i _ => 2 - (intOf i).toNat)
  case atStart => exact ⟨rfl, 0, by omega, rfl, .inl ⟨rfl, rfl⟩⟩
  case round =>
    obtain ⟨rfl, k, hk, rfl, h⟩ := hrel
    rcases h with ⟨rfl, rfl⟩ | ⟨rfl, rfl⟩ | ⟨rfl, rfl⟩
    · have hp : ¬ (n1 : Int) < 0 := by omega
      go_wp2
      go_roundw
      case rel => exact ⟨trivial, 1, by omega, by go_num, .inr (.inl ⟨rfl, by go_num⟩)⟩
      case measure => simp [intOf]
    · have hp : ¬ (n1 : Int) + n2 < 0 := by omega
      go_wp2
      go_roundw
      case rel => exact ⟨trivial, 2, by omega, by go_num, .inr (.inr ⟨rfl, by go_num⟩)⟩
      case measure => simp [intOf]
    · clear h1 h2
      have hg := fun w0 => grow72 (n1 + n2) w0 (by omega)
      have HG : Hid (∀ w0, Calls Tryz.prog 72 #[.slice none 0 0, .int .i64 ((n1 + n2 : Nat) : Int)] w0 fun e w' => (∃ v, e = .returned v ∧ OwnS w' w0.heap.size v []) ∧ Kept w0 w') := hg
      clear hg
      go_wp2_with fail
      have e0 : ((n1 : Int) + n2) = ((n1 + n2 : Nat) : Int) := by simp
      rw [e0]
      refine (HG.out _).mono ?_
      rintro e w1 ⟨⟨v, rfl, O1⟩, k1⟩
      have HO1 : Hid (OwnS w1 w.heap.size v []) := O1
      have K1 : Hid (Kept w w1) := k1
      clear O1 k1 e0
      go_wp2
      go_loopw [6, 27] (fun v i ws => ∃ k : Nat, k ≤ 2 ∧ i = .int .i64 k ∧ Hid (OwnS ws w.heap.size v (if k = 0 then [] else if k = 1 then xs else xs ++ ys)) ∧ Hid (Kept w ws)) (fun _ i _ => 2 - (intOf i).toNat)
      case atStart => exact ⟨0, by omega, rfl, HO1.out, K1.out⟩
      case round =>
        obtain ⟨k2, hk2, rfl, OV, KR⟩ := hrel
        obtain ⟨d1, d2⟩ := C1.out _ KR.out
        have hs := KR.out.size
        have hk3 : k2 = 0 ∨ k2 = 1 ∨ k2 = 2 := by omega
        rcases hk3 with rfl | rfl | rfl
        · have OV : Hid (OwnS _ _ _ []) := OV
          go_wp2_with (at_builtin; refine wpList_appN rfl _ _ rfl rfl _ w.heap.size _ [] a1 n1 c1 xs OV.out (HL1.out.kept KR.out) (by show 0 + n1 ≤ 4398046511104; omega) hs rfl rfl ?_; intro a' c' w2 HO2 B2; have K2 : Hid (Kept w w2) := KR.out.own B2.out (Nat.le_refl _))
          go_roundw
          case rel =>
            have hO := HO2.out
            first | exact ⟨1, by omega, by go_num, hO, K2⟩ | exact ⟨1, by omega, by go_num, hO⟩ | (simp at hO; exact ⟨1, by omega, by go_num, hO, K2⟩) | (simp at hO; exact ⟨1, by omega, by go_num, hO⟩)
          case measure => simp [intOf]
        · have OV : Hid (OwnS _ _ _ xs) := OV
          go_wp2_with (at_builtin; refine wpList_appN rfl _ _ rfl rfl _ w.heap.size _ xs a2 n2 c2 ys OV.out (HL2.out.kept KR.out) (by rw [E1.out]; omega) hs rfl rfl ?_; intro a' c' w2 HO2 B2; have K2 : Hid (Kept w w2) := KR.out.own B2.out (Nat.le_refl _))
          go_roundw
          case rel =>
            have hO := HO2.out
            first | exact ⟨2, by omega, by go_num, hO, K2⟩ | exact ⟨2, by omega, by go_num, hO⟩
          case measure => simp [intOf]
        · go_wp2
          go_ret
          refine ⟨?_, KR.out⟩
          have this : OwnS _ _ _ (xs ++ ys) := OV.out
          exact this.retL

/-- The slice reads as xs, and does not lie in a block of G. -/
structure RL (w : World) (G : Nat → Prop) (a : Option Addr) (n : Nat) (xs : List Str) : Prop where
  is : IsL w a n xs
  off : 0 < n → ∀ x, a = some x → ¬ G x.block
theorem RL.kept {w w' : World} {G : Nat → Prop} {a : Option Addr} {n : Nat} {xs : List Str} (h : RL w G a n xs) (q : Kept w w') : RL w' G a n xs := ⟨h.is.kept q, h.off⟩
theorem RL.mono {w : World} {G G' : Nat → Prop} {a : Option Addr} {n : Nat} {xs : List Str} (h : RL w G a n xs) (hG : ∀ k, k < w.heap.size → G' k → G k) : RL w G' a n xs :=
  ⟨h.is, fun h0 x e g => by
    obtain ⟨b, off, ha, hc⟩ := h.is.row h0
    have hlt := World.block_lt_of_cell? w ⟨b, off + 0, none⟩ (hc 0 h0)
    refine h.off h0 x e (hG _ ?_ g)
    rw [ha] at e; cases e
    exact hlt⟩
theorem RL.of_old {w w' : World} {G : Nat → Prop} {a : Option Addr} {n : Nat} {xs : List Str} (h : IsL w a n xs) (q : Kept w w') (hG : ∀ k, G k → w.heap.size ≤ k) : RL w' G a n xs :=
  ⟨h.kept q, fun h0 x e g => by
    obtain ⟨b, off, ha, hc⟩ := h.row h0
    have hlt := World.block_lt_of_cell? w ⟨b, off + 0, none⟩ (hc 0 h0)
    have := hG _ g
    rw [ha] at e; cases e
    simp at hlt this
    omega⟩
theorem RL.of_fresh {w : World} {G : Nat → Prop} {hi : Nat} {a : Option Addr} {n : Nat} {xs : List Str} (h : IsL w a n xs) (f : Fresh hi a) (hG : ∀ k, G k → k < hi) : RL w G a n xs :=
  ⟨h, fun _ x e g => by have := f x e; have := hG _ g; omega⟩
/-- What lies outside of G stands as it was. -/
def Outer (G : Nat → Prop) (w w' : World) : Prop := ∀ b, b < w.heap.size → ¬ G b → w'.heap[b]? = w.heap[b]?
theorem RL.outer {w w' : World} {G : Nat → Prop} {a : Option Addr} {n : Nat} {xs : List Str} (h : RL w G a n xs) (ho : Outer G w w') : RL w' G a n xs :=
  ⟨⟨h.is.len, fun h0 => by
    obtain ⟨b, off, ha, hc⟩ := h.is.row h0
    refine ⟨b, off, ha, fun i hi => ?_⟩
    have hlt := World.block_lt_of_cell? w ⟨b, off + i, none⟩ (hc i hi)
    rw [World.cell?_of_block (w := w) (ho b hlt (h.off h0 _ ha))]
    exact hc i hi⟩, h.off⟩
theorem outer_set {G : Nat → Prop} (w : World) (k o : Nat) (v : Value) (hk : G k) : Outer G w (w.setCell ⟨k, o, none⟩ v) := fun b _ hb => Below.heap_setCell _ _ _ _ (fun e => hb (by rw [e]; exact hk))
theorem RL.set {w : World} {G : Nat → Prop} {a : Option Addr} {n : Nat} {xs : List Str} (h : RL w G a n xs) (k o : Nat) (v : Value) (hk : G k) : RL (w.setCell ⟨k, o, none⟩ v) G a n xs := h.outer (outer_set w k o v hk)
/-- The view reads as V, and its slices do not lie in blocks of G. -/
structure RV (w : World) (G : Nat → Prop) (v : Value) (V : View) : Prop where
  ex : ∃ ab nb cb al nl cl ac nc cc, v = .agg #[.int .u64 V.count, .slice ab nb cb, .slice al nl cl, .slice ac nc cc] ∧ RL w G ab nb V.base ∧ RL w G al nl V.last ∧ RL w G ac nc V.changes
  lo0 : 0 ≤ V.count
  hi0 : V.count < 18446744073709551616
theorem RV.isV {w : World} {G : Nat → Prop} {v : Value} {V : View} (h : RV w G v V) : IsV w v V := by
  obtain ⟨ab, nb, cb, al, nl, cl, ac, nc, cc, e, h1, h2, h3⟩ := h.ex
  exact ⟨⟨ab, nb, cb, al, nl, cl, ac, nc, cc, e, h1.is, h2.is, h3.is⟩, h.lo0, h.hi0⟩
theorem RV.kept {w w' : World} {G : Nat → Prop} {v : Value} {V : View} (h : RV w G v V) (q : Kept w w') : RV w' G v V := by
  obtain ⟨ab, nb, cb, al, nl, cl, ac, nc, cc, e, h1, h2, h3⟩ := h.ex
  exact ⟨⟨ab, nb, cb, al, nl, cl, ac, nc, cc, e, h1.kept q, h2.kept q, h3.kept q⟩, h.lo0, h.hi0⟩
theorem RV.outer {w w' : World} {G : Nat → Prop} {v : Value} {V : View} (h : RV w G v V) (q : Outer G w w') : RV w' G v V := by
  obtain ⟨ab, nb, cb, al, nl, cl, ac, nc, cc, e, h1, h2, h3⟩ := h.ex
  exact ⟨⟨ab, nb, cb, al, nl, cl, ac, nc, cc, e, h1.outer q, h2.outer q, h3.outer q⟩, h.lo0, h.hi0⟩
theorem RV.mono {w : World} {G G' : Nat → Prop} {v : Value} {V : View} (h : RV w G v V) (hG : ∀ k, k < w.heap.size → G' k → G k) : RV w G' v V := by
  obtain ⟨ab, nb, cb, al, nl, cl, ac, nc, cc, e, h1, h2, h3⟩ := h.ex
  exact ⟨⟨ab, nb, cb, al, nl, cl, ac, nc, cc, e, h1.mono hG, h2.mono hG, h3.mono hG⟩, h.lo0, h.hi0⟩
theorem RV.of_old {w w' : World} {G : Nat → Prop} {v : Value} {V : View} (h : IsV w v V) (q : Kept w w') (hG : ∀ k, G k → w.heap.size ≤ k) : RV w' G v V := by
  obtain ⟨ab, nb, cb, al, nl, cl, ac, nc, cc, e, h1, h2, h3⟩ := h.ex
  exact ⟨⟨ab, nb, cb, al, nl, cl, ac, nc, cc, e, RL.of_old h1 q hG, RL.of_old h2 q hG, RL.of_old h3 q hG⟩, h.lo, h.hi⟩
/-- A view is returned. -/
def RetV (G : Nat → Prop) (w' : World) (e : Ending) (V : View) : Prop := ∃ v, e = .returned v ∧ RV w' G v V
/-- V with more changes. -/
def withP (V : View) (cs : List Str) : View := ⟨V.count, V.base, V.last, setP (V.changes ++ cs)⟩

/-- A view is returned whose changes alone are new. -/
def RetW (N : Int) (ab al : Option Addr) (nb cb nl cl : Nat) (w w' : World) (e : Ending) (zs : List Str) : Prop :=
  ∃ a c, e = .returned (.agg #[.int .u64 N, .slice ab nb cb, .slice al nl cl, .slice a zs.length c]) ∧ IsL w' a zs.length zs ∧ Fresh w.heap.size a

set_option maxHeartbeats 3200000 in
theorem with52 (N : Int) (ab al ac : Option Addr) (nb cb nl cl nc cc : Nat) (xc : List Str) (a2 : Option Addr) (n2 c2 : Nat) (ys : List Str) (w : World) (h3 : IsL w ac nc xc) (hn12 : nc + n2 ≤ 4398046511104) (hL2 : IsL w a2 n2 ys) :
    Calls Tryz.prog 52 #[.agg #[.int .u64 N, .slice ab nb cb, .slice al nl cl, .slice ac nc cc], .slice a2 n2 c2] w fun e w' => RetW N ab al nb cb nl cl w w' e (setP (xc ++ ys)) ∧ Kept w w' := by
  have H3 : Hid (∀ w', Kept w w' → IsL w' ac nc xc) := fun w' q => h3.kept q
  have H4 : Hid (∀ w', Kept w w' → IsL w' a2 n2 ys) := fun w' q => hL2.kept q
  have E3 : Hid (xc.length = nc) := h3.len
  have E4 : Hid (ys.length = n2) := hL2.len
  clear h3 hL2
  go_enter Tryz.func52, Tryz.ntmps52
  go_wp2_with fail
  obtain ⟨W, hW⟩ : ∃ W, W = ((w.alloc (.cells #[.int .u64 N, .slice ab nb cb, .slice al nl cl, .slice ac nc cc] 42)).alloc (.cells #[.int .u64 0, .slice none 0 0, .slice none 0 0, .slice none 0 0] 42)) := ⟨_, rfl⟩
  have KW : Hid (Kept w W) := by rw [hW]; exact (Kept.alloc _ _).more _
  have TW : Hid (∀ w', Kept W w' → Two4 w.heap.size (.int .u64 N) (.slice ab nb cb) (.slice al nl cl) (.slice ac nc cc) (.int .u64 0) (.slice none 0 0) (.slice none 0 0) (.slice none 0 0) w') := fun w' q => two4 w w' _ _ _ _ _ _ _ _ 42 42 (by rw [hW] at q; exact q)
  have sW0 : W.heap.size = w.heap.size + 2 := by rw [hW]; simp
  have SW : Hid (W.heap.size = w.heap.size + 2) := sW0
  have FB : Hid (∀ w', Kept W w' → w'.frozen? ⟨w.heap.size, 3, none⟩ = false) := fun w' q => by
    have h1 := q.blk (by rw [hW]; exact new1 w _ _)
    simp [World.frozen?, h1]
  have e2 : w.heap.size + 1 + 1 = W.heap.size := by omega
  rw [← hW, e2]
  clear hW e2 sW0
  have K3 : Hid (Kept W (W.alloc (.cells #[.slice ac nc cc, .slice a2 n2 c2] 23))) := Kept.alloc _ _
  have HC : Hid (Calls Tryz.prog 61 #[.slice (some ⟨W.heap.size, 0, none⟩) 2 2] (W.alloc (.cells #[.slice ac nc cc, .slice a2 n2 c2] 23)) fun e w' => RetL (W.alloc (.cells #[.slice ac nc cc, .slice a2 n2 c2] 23)) w' e (xc ++ ys) ∧ Kept (W.alloc (.cells #[.slice ac nc cc, .slice a2 n2 c2] 23)) w') :=
    concat61 W.heap.size 2 ac nc cc xc a2 n2 c2 ys _ (World.cell?_alloc_mark W _ _ (0, 0) 0) (World.cell?_alloc_mark W _ _ (0, 0) 1) hn12 (H3.out _ (KW.out.trans K3.out)) (H4.out _ (KW.out.trans K3.out))
  refine HC.out.mono ?_
  rintro e w1 ⟨⟨a3, c3, rfl, L3, -⟩, q1⟩
  have Q1 : Hid (Kept W w1) := K3.out.trans q1
  have HL3 : Hid (IsL w1 a3 (xc ++ ys).length (xc ++ ys)) := L3
  clear L3 q1 HC
  have hle : (xc ++ ys).length ≤ 4398046511104 := by rw [List.length_append, E3.out, E4.out]; omega
  obtain ⟨zs, hzs⟩ : ∃ zs, zs = xc ++ ys := ⟨_, rfl⟩
  rw [← hzs] at hle HL3 ⊢
  have HZ : Hid (zs = xc ++ ys) := hzs
  clear hzs
  have HC2 : Hid (Calls Tryz.prog 44 #[.slice a3 zs.length c3] w1 fun e w' => RetL w1 w' e (setP zs) ∧ Kept w1 w') := setOf44 a3 zs.length c3 zs w1 hle HL3.out
  clear hle HL3 H4 E3 E4
  obtain ⟨m, hm⟩ : ∃ m, m = zs.length := ⟨_, rfl⟩
  rw [← hm] at HC2 ⊢
  clear hm
  go_wp2_with fail
  refine HC2.out.mono ?_
  rintro e w2 ⟨⟨a4, c4, rfl, L4, F4⟩, q2⟩
  have Q2 : Hid (Kept W w2) := Q1.out.trans q2
  have HL4 : Hid (IsL w2 a4 (setP zs).length (setP zs)) := L4
  obtain ⟨t0, t1, t2, t3⟩ := (TW.out _ Q2.out).a
  obtain ⟨g0, g1, g2, g3⟩ := (TW.out _ Q2.out).b
  obtain ⟨f0, f1, f2, f3⟩ := (TW.out _ Q2.out).f
  have fb := FB.out _ Q2.out
  have hs4 : w.heap.size + 2 ≤ w1.heap.size := by have := Q1.out.size; rw [SW.out] at this; exact this
  have HF4 : Hid (Fresh (w.heap.size + 2) a4) := F4.mono hs4
  clear L4 q2 F4
  obtain ⟨m4, hm4⟩ : ∃ m4, m4 = (setP zs).length := ⟨_, rfl⟩
  have M4 : Hid (m4 = (setP zs).length) := hm4
  rw [← hm4]
  clear hm4
  go_wp2
  obtain ⟨X, hX⟩ : ∃ X, X = w2.setCell ⟨w.heap.size, 3, none⟩ (.slice a4 m4 c4) := ⟨_, rfl⟩
  have y0 : X.cell? ⟨w.heap.size + 1, 0, none⟩ = some (.int .u64 0) := by rw [hX]; exact far _ _ _ _ _ _ _ (by omega) g0
  have y1 : X.cell? ⟨w.heap.size + 1, 1, none⟩ = some (.slice none 0 0) := by rw [hX]; exact far _ _ _ _ _ _ _ (by omega) g1
  have y2 : X.cell? ⟨w.heap.size + 1, 2, none⟩ = some (.slice none 0 0) := by rw [hX]; exact far _ _ _ _ _ _ _ (by omega) g2
  have y3 : X.cell? ⟨w.heap.size + 1, 3, none⟩ = some (.slice none 0 0) := by rw [hX]; exact far _ _ _ _ _ _ _ (by omega) g3
  have KX : Kept w X := by rw [hX]; exact (KW.out.trans Q2.out).setNew _ (Nat.le_refl _) _
  have LX : IsL X a4 m4 (setP zs) := by rw [hX, M4.out]; exact HL4.out.set _ _ _ (HF4.out.mono (by omega))
  rw [← hX]
  obtain ⟨r0, r1, r2, r3⟩ := set4 y0 y1 y2 y3 (.int .u64 N) (.slice ab nb cb) (.slice al nl cl) (.slice a4 m4 c4)
  have KY : Kept w ((((X.setCell ⟨w.heap.size + 1, 0, none⟩ (.int .u64 N)).setCell ⟨w.heap.size + 1, 1, none⟩ (.slice ab nb cb)).setCell ⟨w.heap.size + 1, 2, none⟩ (.slice al nl cl)).setCell ⟨w.heap.size + 1, 3, none⟩ (.slice a4 m4 c4)) :=
    (((KX.setNew _ (by simp) _).setNew _ (by simp) _).setNew _ (by simp) _).setNew _ (by simp) _
  refine bodyPost_ret (v := .agg #[.int .u64 N, .slice ab nb cb, .slice al nl cl, .slice a4 m4 c4]) (by simp [results, Tryz.results52, go_sem, r0, r1, r2, r3]) rfl ⟨⟨a4, c4, ?_, ?_, HF4.out.mono (by omega)⟩, KY⟩
  · rw [← HZ.out, ← M4.out]
  · rw [← HZ.out, ← M4.out]
    exact (((LX.set _ _ _ (HF4.out.mono (by omega))).set _ _ _ (HF4.out.mono (by omega))).set _ _ _ (HF4.out.mono (by omega))).set _ _ _ (HF4.out.mono (by omega))

end Go.Proofs.Qxb6616331aGreatDoor
