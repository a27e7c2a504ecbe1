/-
  THE WALKS of seat b6616331aZD, Y6: ZZtally.
-/
import Derived.Test.Qxb6616331aGreatDoorY4
import Derived.Test.Qxb6616331aGreatDoorY5
namespace Go.Proofs.Qxb6616331aGreatDoor
open Go.RowKit
set_option linter.unusedVariables false
set_option linter.unusedSimpArgs false
set_option linter.unnecessarySimpa false
set_option maxRecDepth 40000

/-- The block holds no string. -/
def NoStr (w : World) (b : Nat) : Prop := ∀ o s, w.cell? ⟨b, o, none⟩ ≠ some (sv s)
theorem noStr_blk {w : World} {b : Nat} {c : Array Value} {t : TypeId} {z : Nat × Nat} (e : w.heap[b]? = some (.cells c t z)) (h : ∀ v ∈ c, ∀ s, v ≠ sv s) : NoStr w b := by
  intro o s hc
  simp only [World.cell?, e] at hc
  exact h _ (Array.mem_of_getElem? hc) s rfl
/-- Two blocks of cells without strings apart, all stands as it was. -/
structure Aside (w Y : World) (x y : Nat) : Prop where
  same : ∀ b, b ≠ x → b ≠ y → Y.heap[b]? = w.heap[b]?
  nx : NoStr w x
  ny : NoStr w y
  mx : ∀ es k, w.heap[x]? ≠ some (.map es k)
  my : ∀ es k, w.heap[y]? ≠ some (.map es k)
theorem Aside.str {w Y : World} {x y : Nat} (h : Aside w Y x y) {b o : Nat} {s : Str} (hc : w.cell? ⟨b, o, none⟩ = some (sv s)) : Y.cell? ⟨b, o, none⟩ = some (sv s) :=
  (World.cell?_of_block (h.same b (fun e => h.nx o s (e ▸ hc)) (fun e => h.ny o s (e ▸ hc)))).trans hc
theorem IsL.aside {w Y : World} {x y : Nat} {a : Option Addr} {n : Nat} {xs : List Str} (H : IsL w a n xs) (h : Aside w Y x y) : IsL Y a n xs :=
  ⟨H.len, fun h0 => by
    obtain ⟨b, off, ha, hc⟩ := H.row h0
    exact ⟨b, off, ha, fun i hi => h.str (hc i hi)⟩⟩
theorem IsV.aside {w Y : World} {x y : Nat} {v : Value} {V : View} (H : IsV w v V) (h : Aside w Y x y) : IsV Y v V := by
  obtain ⟨ab, nb, cb, al, nl, cl, ac, nc, cc, e, h1, h2, h3⟩ := H.ex
  exact ⟨⟨ab, nb, cb, al, nl, cl, ac, nc, cc, e, h1.aside h, h2.aside h, h3.aside h⟩, H.lo, H.hi⟩
theorem RV.aside {w Y : World} {x y : Nat} {G : Nat → Prop} {v : Value} {V : View} (H : RV w G v V) (h : Aside w Y x y) : RV Y G v V := by
  obtain ⟨ab, nb, cb, al, nl, cl, ac, nc, cc, e, h1, h2, h3⟩ := H.ex
  exact ⟨⟨ab, nb, cb, al, nl, cl, ac, nc, cc, e, ⟨h1.is.aside h, h1.off⟩, ⟨h2.is.aside h, h2.off⟩, ⟨h3.is.aside h, h3.off⟩⟩, H.lo0, H.hi0⟩
theorem AllV.aside {w Y : World} {x y : Nat} {G : Nat → Prop} {us : List Value} {Vs : List View} (H : AllV w G us Vs) (h : Aside w Y x y) : AllV Y G us Vs := ⟨H.1, fun i hi => (H.2 i hi).aside h⟩
theorem IsMp.aside {w Y : World} {x y : Nat} {m : Nat} {ps : List (Str × Str)} (H : IsMp w m ps) (h : Aside w Y x y) : IsMp Y m ps := by
  have H0 := H
  obtain ⟨es, k, hb, -⟩ := H0
  exact H.block (h.same m (fun e => h.mx es k (e ▸ hb)) (fun e => h.my es k (e ▸ hb)))
theorem FrzIs.aside {w Y : World} {x y B : Nat} {v : Value} {T : Tal} (H : FrzIs B w v T) (h : Aside w Y x y) (hx : x < B) (hy : y < B) : FrzIs B Y v T := by
  obtain ⟨az, cz, m, vb, us, vu, ut, l0, l1, l2, l3, e, f1, f2, f3, f4, f5, f6, f7⟩ := H
  exact ⟨az, cz, m, vb, us, vu, ut, l0, l1, l2, l3, e, f1.aside h, f2.aside h, f3.blocks (fun b hb => h.same b (by omega) (by omega)), f4.aside h, f5.blocks (fun b hb => h.same b (by omega) (by omega)), f6.aside h, f7.aside h⟩
theorem FrzIs.mono {w : World} {B B' : Nat} {v : Value} {T : Tal} (H : FrzIs B w v T) (h : B' ≤ B) : FrzIs B' w v T := by
  obtain ⟨az, cz, m, vb, us, vu, ut, l0, l1, l2, l3, e, f1, f2, f3, f4, f5, f6, f7⟩ := H
  exact ⟨az, cz, m, vb, us, vu, ut, l0, l1, l2, l3, e, f1, f2, f3.mono h, f4, f5.mono h, f6, f7⟩
theorem FrzIs.kept {w w' : World} {B : Nat} {v : Value} {T : Tal} (H : FrzIs B w v T) (q : Kept w w') : FrzIs B w' v T := by
  obtain ⟨az, cz, m, vb, us, vu, ut, l0, l1, l2, l3, e, f1, f2, f3, f4, f5, f6, f7⟩ := H
  exact ⟨az, cz, m, vb, us, vu, ut, l0, l1, l2, l3, e, f1.kept q, f2.kept q, f3.below q, f4.kept q, f5.below q, f6.kept q, f7.kept q⟩

/-- The two values that tally gives. -/
def RetT2 (B : Nat) (w' : World) (v v' : Value) : Tal ⊕ View → Prop
  | .inl T => v' = zeroVw ∧ FrzIs B w' v T
  | .inr V => v = zeroFrz ∧ IsV w' v' V
theorem RetT.two {B : Nat} {w' : World} {e : Ending} {R : Tal ⊕ View} (h : RetT B w' e R) : ∃ v v', e = .returned (.tuple #[v, v']) ∧ RetT2 B w' v v' R := by
  cases R with
  | inl T => obtain ⟨v, e, h⟩ := h; exact ⟨_, _, e, rfl, h⟩
  | inr V => obtain ⟨v, e, h⟩ := h; exact ⟨_, _, e, rfl, h⟩
theorem RetT2.kept {B : Nat} {w w' : World} {v v' : Value} {R : Tal ⊕ View} (h : RetT2 B w v v' R) (q : Kept w w') : RetT2 B w' v v' R := by
  cases R with
  | inl T => exact ⟨h.1, h.2.kept q⟩
  | inr V => exact ⟨h.1, h.2.kept q⟩
theorem RetT2.aside {B : Nat} {w Y : World} {x y : Nat} {v v' : Value} {R : Tal ⊕ View} (H : RetT2 B w v v' R) (h : Aside w Y x y) (hx : x < B) (hy : y < B) : RetT2 B Y v v' R := by
  cases R with
  | inl T => exact ⟨H.1, H.2.aside h hx hy⟩
  | inr V => exact ⟨H.1, H.2.aside h⟩
theorem RetT2.mono {B B' : Nat} {w : World} {v v' : Value} {R : Tal ⊕ View} (H : RetT2 B w v v' R) (h : B' ≤ B) : RetT2 B' w v v' R := by
  cases R with
  | inl T => exact ⟨H.1, H.2.mono h⟩
  | inr V => exact H
theorem RetT2.shape {B : Nat} {w : World} {v v' : Value} {R : Tal ⊕ View} (H : RetT2 B w v v' R) : ∃ a0 n0 c0 m1 a2 n2 c2 b3 a4 n4 c4 N a6 n6 c6 a7 n7 c7 a8 n8 c8 N' a1' n1' c1' a2' n2' c2' a3' n3' c3',
    v = .agg #[.slice a0 n0 c0, .map m1, .slice a2 n2 c2, .bool b3, .slice a4 n4 c4, .int .u64 N, .slice a6 n6 c6, .slice a7 n7 c7, .slice a8 n8 c8] ∧ v' = .agg #[.int .u64 N', .slice a1' n1' c1', .slice a2' n2' c2', .slice a3' n3' c3'] := by
  cases R with
  | inl T =>
    obtain ⟨rfl, az, cz, m, vb, us, vu, ut, l0, l1, l2, l3, rfl, f1, f2, f3, f4, f5, f6, f7⟩ := H
    obtain ⟨x1, y1, rfl⟩ := f3.shape
    obtain ⟨x2, y2, rfl⟩ := f5.shape
    obtain ⟨ab, nb, cb, al, nl, cl, ac, nc, cc, e, -⟩ := f7.ex
    have e' : #[l0, l1, l2, l3] = _ := Value.agg.inj e
    simp only [Array.mk.injEq, List.cons.injEq, and_true] at e'
    obtain ⟨rfl, rfl, rfl, rfl⟩ := e'
    exact ⟨_, _, _, _, _, _, _, _, _, _, _, _, _, _, _, _, _, _, _, _, _, _, _, _, _, _, _, _, _, _, _, rfl, rfl⟩
  | inr V =>
    obtain ⟨rfl, f⟩ := H
    obtain ⟨ab, nb, cb, al, nl, cl, ac, nc, cc, rfl, -⟩ := f.ex
    exact ⟨_, _, _, _, _, _, _, _, _, _, _, _, _, _, _, _, _, _, _, _, _, _, _, _, _, _, _, _, _, _, _, rfl, rfl⟩

set_option maxHeartbeats 3200000 in
theorem ztally13_in (N : Int) (ab al ac : Option Addr) (nb cb nl cl nc cc : Nat) (N' : Int) (ab' al' ac' : Option Addr) (nb' cb' nl' cl' nc' cc' : Nat) (w : World) (at_ : Option Addr) (nt ct : Nat) (a : Option Addr) (n cp : Nat) (R : Tal ⊕ View)
    (H32 : ∀ w', Kept w w' → Calls Tryz.prog 32 #[.agg #[.int .u64 N, .slice ab nb cb, .slice al nl cl, .slice ac nc cc], .slice at_ nt ct, .agg #[.int .u64 N', .slice ab' nb' cb', .slice al' nl' cl', .slice ac' nc' cc'], .slice a n cp] w' fun e w2 => RetT w'.heap.size w2 e R ∧ Kept w' w2) :
    Calls Tryz.prog 13 #[.agg #[.int .u64 N, .slice ab nb cb, .slice al nl cl, .slice ac nc cc], .slice at_ nt ct, .agg #[.int .u64 N', .slice ab' nb' cb', .slice al' nl' cl', .slice ac' nc' cc'], .slice a n cp] w fun e w' => ∃ v v', e = .returned (.tuple #[v, v']) ∧ RetT2 w.heap.size w' v v' R ∧ Kept w w' := by
  have HH := hid_of H32
  clear H32
  go_enter Tryz.func13, Tryz.ntmps13
  go_wp2_with fail
  obtain ⟨W1, hW1⟩ : ∃ W1, W1 = ((w.alloc (.cells #[.int .u64 N, .slice ab nb cb, .slice al nl cl, .slice ac nc cc] 42)).alloc (.cells #[.int .u64 N', .slice ab' nb' cb', .slice al' nl' cl', .slice ac' nc' cc'] 42)) := ⟨_, rfl⟩
  have k1 : Kept w W1 := hW1 ▸ (Kept.alloc _ _).more _
  have s1 : W1.heap.size = w.heap.size + 1 + 1 := by rw [hW1]; simp
  rw [← hW1]
  clear hW1
  obtain ⟨W2, hW2⟩ : ∃ W2, W2 = W1.alloc (.cells #[.slice none 0 0, .map none, .slice none 0 0, .bool false, .slice none 0 0, .int .u64 0, .slice none 0 0, .slice none 0 0, .slice none 0 0] 44) := ⟨_, rfl⟩
  have k2 : Kept W1 W2 := hW2 ▸ Kept.alloc _ _
  have b2 : W2.heap[W1.heap.size]? = _ := hW2 ▸ heap_alloc_new W1 (.cells #[.slice none 0 0, .map none, .slice none 0 0, .bool false, .slice none 0 0, .int .u64 0, .slice none 0 0, .slice none 0 0, .slice none 0 0] 44)
  have s2 : W2.heap.size = w.heap.size + 1 + 1 + 1 := by rw [hW2]; simp [s1]
  rw [← hW2]
  clear hW2
  obtain ⟨W, hW⟩ : ∃ W, W = W2.alloc (.cells #[.int .u64 0, .slice none 0 0, .slice none 0 0, .slice none 0 0] 42) := ⟨_, rfl⟩
  have k3 : Kept W2 W := hW ▸ Kept.alloc _ _
  have b3 : W.heap[W2.heap.size]? = _ := hW ▸ heap_alloc_new W2 (.cells #[.int .u64 0, .slice none 0 0, .slice none 0 0, .slice none 0 0] 42)
  have s3 : W.heap.size = w.heap.size + 4 := by rw [hW]; simp [s2]
  rw [← hW]
  clear hW
  rw [s1] at b2
  rw [s2] at b3
  have hK : Kept w W := k1.trans (k2.trans k3)
  refine (HH.out W hK).mono ?_
  rintro e w1 ⟨hR, q1⟩
  obtain ⟨v, v', rfl, h2⟩ := hR.two
  have B2 := q1.blk (k3.blk b2)
  have B3 := q1.blk b3
  have hKw : Hid (Kept w w1) := hid_of (hK.trans q1)
  have hS : Hid (w.heap.size + 4 ≤ w1.heap.size) := hid_of (by have := q1.size; omega)
  have hR2 : Hid (RetT2 (w.heap.size + 4) w1 v v' R) := hid_of (by rw [← s3]; exact h2)
  obtain ⟨a0, n0, c0, m1, a2, n2, c2, b3', a4, n4, c4, M, a6, n6, c6, a7, n7, c7, a8, n8, c8, M', a1', n1', c1', a2', n2', c2', a3', n3', c3', rfl, rfl⟩ := h2.shape
  clear h2 hR q1 k1 k2 k3 b2 b3 s1 s2 s3 hK HH W1 W2 W
  have HB2 := hid_of B2
  have HB3 := hid_of B3
  have x0 : w1.cell? ⟨w.heap.size + 1 + 1, 0, none⟩ = some (.slice none 0 0) := by simp [World.cell?, B2]
  have x1 : w1.cell? ⟨w.heap.size + 1 + 1, 1, none⟩ = some (.map none) := by simp [World.cell?, B2]
  have x2 : w1.cell? ⟨w.heap.size + 1 + 1, 2, none⟩ = some (.slice none 0 0) := by simp [World.cell?, B2]
  have x3 : w1.cell? ⟨w.heap.size + 1 + 1, 3, none⟩ = some (.bool false) := by simp [World.cell?, B2]
  have x4 : w1.cell? ⟨w.heap.size + 1 + 1, 4, none⟩ = some (.slice none 0 0) := by simp [World.cell?, B2]
  have x5 : w1.cell? ⟨w.heap.size + 1 + 1, 5, none⟩ = some (.int .u64 0) := by simp [World.cell?, B2]
  have x6 : w1.cell? ⟨w.heap.size + 1 + 1, 6, none⟩ = some (.slice none 0 0) := by simp [World.cell?, B2]
  have x7 : w1.cell? ⟨w.heap.size + 1 + 1, 7, none⟩ = some (.slice none 0 0) := by simp [World.cell?, B2]
  have x8 : w1.cell? ⟨w.heap.size + 1 + 1, 8, none⟩ = some (.slice none 0 0) := by simp [World.cell?, B2]
  have y0 : w1.cell? ⟨w.heap.size + 1 + 1 + 1, 0, none⟩ = some (.int .u64 0) := by simp [World.cell?, B3]
  have y1 : w1.cell? ⟨w.heap.size + 1 + 1 + 1, 1, none⟩ = some (.slice none 0 0) := by simp [World.cell?, B3]
  have y2 : w1.cell? ⟨w.heap.size + 1 + 1 + 1, 2, none⟩ = some (.slice none 0 0) := by simp [World.cell?, B3]
  have y3 : w1.cell? ⟨w.heap.size + 1 + 1 + 1, 3, none⟩ = some (.slice none 0 0) := by simp [World.cell?, B3]
  have fx : ∀ o, w1.frozen? ⟨w.heap.size + 1 + 1, o, none⟩ = false := fun o => by simp [World.frozen?, B2]
  have fy : ∀ o, w1.frozen? ⟨w.heap.size + 1 + 1 + 1, o, none⟩ = false := fun o => by simp [World.frozen?, B3]
  have fx0 := fx 0
  have fx1 := fx 1
  have fx2 := fx 2
  have fx3 := fx 3
  have fx4 := fx 4
  have fx5 := fx 5
  have fx6 := fx 6
  have fx7 := fx 7
  have fx8 := fx 8
  have fy0 := fy 0
  have fy1 := fy 1
  have fy2 := fy 2
  have fy3 := fy 3
  clear fx fy B2 B3
  go_wp2_with fail
  clear x0 x1 x2 x3 x4 x5 x6 x7 x8 y0 y1 y2 y3 fx0 fx1 fx2 fx3 fx4 fx5 fx6 fx7 fx8 fy0 fy1 fy2 fy3
  obtain ⟨Y, hY⟩ : ∃ Y, Y = put4 (put9 w1 (w.heap.size + 1 + 1) (.slice a0 n0 c0) (.map m1) (.slice a2 n2 c2) (.bool b3') (.slice a4 n4 c4) (.int .u64 M) (.slice a6 n6 c6) (.slice a7 n7 c7) (.slice a8 n8 c8)) (w.heap.size + 1 + 1 + 1) (.int .u64 M') (.slice a1' n1' c1') (.slice a2' n2' c2') (.slice a3' n3' c3') := ⟨_, rfl⟩
  have hA : Aside w1 Y (w.heap.size + 1 + 1) (w.heap.size + 1 + 1 + 1) :=
    ⟨fun b h1 h2 => by rw [hY, put4_other _ _ _ _ _ _ _ h2, put9_other _ _ _ _ _ _ _ _ _ _ _ _ h1], noStr_blk HB2.out (by simp), noStr_blk HB3.out (by simp), fun es k => by rw [HB2.out]; simp, fun es k => by rw [HB3.out]; simp⟩
  have hK : Kept w Y := by
    rw [hY]
    exact (hKw.out.put9 _ (by omega) _ _ _ _ _ _ _ _ _).put4 _ (by omega) _ _ _ _
  have C9 := put9_blk HB2.out (.slice a0 n0 c0) (.map m1) (.slice a2 n2 c2) (.bool b3') (.slice a4 n4 c4) (.int .u64 M) (.slice a6 n6 c6) (.slice a7 n7 c7) (.slice a8 n8 c8)
  have D3 : (put9 w1 (w.heap.size + 1 + 1) (.slice a0 n0 c0) (.map m1) (.slice a2 n2 c2) (.bool b3') (.slice a4 n4 c4) (.int .u64 M) (.slice a6 n6 c6) (.slice a7 n7 c7) (.slice a8 n8 c8)).heap[w.heap.size + 1 + 1 + 1]? = _ := (put9_other _ _ _ _ _ _ _ _ _ _ _ _ (by omega)).trans HB3.out
  have C4 := put4_blk D3 (.int .u64 M') (.slice a1' n1' c1') (.slice a2' n2' c2') (.slice a3' n3' c3')
  have C9' : (put4 (put9 w1 (w.heap.size + 1 + 1) (.slice a0 n0 c0) (.map m1) (.slice a2 n2 c2) (.bool b3') (.slice a4 n4 c4) (.int .u64 M) (.slice a6 n6 c6) (.slice a7 n7 c7) (.slice a8 n8 c8)) (w.heap.size + 1 + 1 + 1) (.int .u64 M') (.slice a1' n1' c1') (.slice a2' n2' c2') (.slice a3' n3' c3')).heap[w.heap.size + 1 + 1]? = _ := (put4_other _ _ _ _ _ _ _ (by omega)).trans C9
  rw [← hY] at C4 C9'
  clear C9 D3
  change bodyPost Tryz.prog Tryz.f13 _ _ _ (put4 (put9 w1 (w.heap.size + 1 + 1) (.slice a0 n0 c0) (.map m1) (.slice a2 n2 c2) (.bool b3') (.slice a4 n4 c4) (.int .u64 M) (.slice a6 n6 c6) (.slice a7 n7 c7) (.slice a8 n8 c8)) (w.heap.size + 1 + 1 + 1) (.int .u64 M') (.slice a1' n1' c1') (.slice a2' n2' c2') (.slice a3' n3' c3'))
  rw [← hY]
  clear hY
  refine bodyPost_ret (v := .tuple #[.agg #[.slice a0 n0 c0, .map m1, .slice a2 n2 c2, .bool b3', .slice a4 n4 c4, .int .u64 M, .slice a6 n6 c6, .slice a7 n7 c7, .slice a8 n8 c8], .agg #[.int .u64 M', .slice a1' n1' c1', .slice a2' n2' c2', .slice a3' n3' c3']]) (by simp [results, Tryz.results13, go_sem, World.cell?, C9', C4]) rfl ⟨_, _, rfl, ?_, hK⟩
  exact (hR2.out.aside hA (by omega) (by omega)).mono (by omega)

theorem ztally13 (f x : Value) (F X : View) (w : World) (at_ : Option Addr) (nt ct : Nat) (tos : List Str) (a : Option Addr) (n cp : Nat) (As : List Ans)
    (hV : IsV w f F) (hO : IsV w x X) (hM : Mid F) (hMO : Mid X) (hXc : X.changes.length ≤ 3145729)
    (hT : IsL w at_ nt tos) (hnt : nt ≤ 1048576) (hTs : ∀ i, i < nt → (tos.getD i []).length ≤ 1048577)
    (hL : IsA w a n As) (hn : n ≤ 1048577) (hS : ∀ i, i < n → OkA nt (As.getD i noAns)) (hE : Errs w) :
    Calls Tryz.prog 13 #[f, .slice at_ nt ct, x, .slice a n cp] w fun e w' => ∃ v v', e = .returned (.tuple #[v, v']) ∧ RetT2 w.heap.size w' v v' (tGo F X tos As (tZero X)) ∧ Kept w w' := by
  obtain ⟨ab, nb, cb, al, nl, cl, ac, nc, cc, rfl, -, -, -⟩ := hV.ex
  obtain ⟨ab', nb', cb', al', nl', cl', ac', nc', cc', rfl, -, -, -⟩ := hO.ex
  exact ztally13_in _ ab al ac nb cb nl cl nc cc _ ab' al' ac' nb' cb' nl' cl' nc' cc' w at_ nt ct a n cp _ (fun w' q => tally32 _ _ F X w' at_ nt ct tos a n cp As (hV.kept q) (hO.kept q) hM hMO hXc (hT.kept q) hnt hTs (hL.kept q) hn hS (hE.kept q))

end Go.Proofs.Qxb6616331aGreatDoor
