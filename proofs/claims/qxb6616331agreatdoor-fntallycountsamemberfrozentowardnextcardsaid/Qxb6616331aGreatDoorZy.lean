/-
  THE WALKS of seat b6616331aZD, y: newView.
-/
import Derived.Test.Qxb6616331aGreatDoorZx
namespace Go.Proofs.Qxb6616331aGreatDoor
open Go.RowKit
set_option linter.unusedVariables false
set_option linter.unusedSimpArgs false
set_option linter.unnecessarySimpa false
set_option maxRecDepth 40000

/-- The state of newView's loop. -/
structure NVSt (w wr : World) (vb vl vc : Value) (R : View) : Prop where
  nv : NV wr w.heap.size R.count
  ob : OwnS wr (w.heap.size + 2) vb R.base
  ol : OwnS wr (w.heap.size + 2) vl R.last
  oc : OwnS wr (w.heap.size + 2) vc R.changes
  bl : Apt vb vl
  bc : Apt vb vc
  lc : Apt vl vc
  k : Kept w wr
  sz : w.heap.size + 2 ≤ wr.heap.size

theorem NVSt.kept {w wr w' : World} {vb vl vc : Value} {R : View} (h : NVSt w wr vb vl vc R) (q : Kept wr w') : NVSt w w' vb vl vc R :=
  ⟨h.nv.other (q.block _ (by have := h.sz; omega)) (q.block _ (by have := h.sz; omega)), h.ob.below q, h.ol.below q, h.oc.below q, h.bl, h.bc, h.lc, h.k.trans q, Nat.le_trans h.sz q.size⟩
theorem NVSt.low {w wr w1 : World} {B : Nat} (hB : B = w.heap.size + 2) {vb vl vc : Value} {R : View} (h : NVSt w wr vb vl vc R) (hb : Below B wr w1) : NV w1 w.heap.size R.count ∧ Kept w w1 ∧ w.heap.size + 2 ≤ w1.heap.size :=
  ⟨h.nv.other (hb.block _ (by omega)) (hb.block _ (by omega)), h.k.own hb (by omega), Nat.le_trans h.sz hb.size⟩
theorem NVSt.base {w wr w1 : World} {vb vl vc : Value} {R : View} (h : NVSt w wr vb vl vc R) (t : Str) {g c : Nat} (O : OwnS w1 (w.heap.size + 2) (.slice (some ⟨g, 0, none⟩) (R.base.length + 1) c) (R.base ++ [t])) (hb : Below (w.heap.size + 2) wr w1)
    (hblk : ∀ b, b < wr.heap.size → some b ≠ vb.ownBlock → w1.heap[b]? = wr.heap[b]?) (hg : vb.ownBlock = some g ∨ wr.heap.size ≤ g) : NVSt w w1 (.slice (some ⟨g, 0, none⟩) (R.base.length + 1) c) vl vc ⟨R.count, R.base ++ [t], R.last, R.changes⟩ := by
  obtain ⟨n, k, z⟩ := h.low rfl hb
  exact ⟨n, O, h.ol.beside h.bl hblk, h.oc.beside h.bc hblk, h.bl.grown h.ol hg, h.bc.grown h.oc hg, h.lc, k, z⟩
theorem NVSt.last {w wr w1 : World} {vb vl vc : Value} {R : View} (h : NVSt w wr vb vl vc R) (t : Str) {g c : Nat} (O : OwnS w1 (w.heap.size + 2) (.slice (some ⟨g, 0, none⟩) (R.last.length + 1) c) (R.last ++ [t])) (hb : Below (w.heap.size + 2) wr w1)
    (hblk : ∀ b, b < wr.heap.size → some b ≠ vl.ownBlock → w1.heap[b]? = wr.heap[b]?) (hg : vl.ownBlock = some g ∨ wr.heap.size ≤ g) : NVSt w w1 vb (.slice (some ⟨g, 0, none⟩) (R.last.length + 1) c) vc ⟨R.count, R.base, R.last ++ [t], R.changes⟩ := by
  obtain ⟨n, k, z⟩ := h.low rfl hb
  exact ⟨n, h.ob.beside h.bl.symm hblk, O, h.oc.beside h.lc hblk, (h.bl.symm.grown h.ob hg).symm, h.bc, h.lc.grown h.oc hg, k, z⟩
theorem NVSt.chg {w wr w1 : World} {vb vl vc : Value} {R : View} (h : NVSt w wr vb vl vc R) (t : Str) {g c : Nat} (O : OwnS w1 (w.heap.size + 2) (.slice (some ⟨g, 0, none⟩) (R.changes.length + 1) c) (R.changes ++ [t])) (hb : Below (w.heap.size + 2) wr w1)
    (hblk : ∀ b, b < wr.heap.size → some b ≠ vc.ownBlock → w1.heap[b]? = wr.heap[b]?) (hg : vc.ownBlock = some g ∨ wr.heap.size ≤ g) : NVSt w w1 vb vl (.slice (some ⟨g, 0, none⟩) (R.changes.length + 1) c) ⟨R.count, R.base, R.last, R.changes ++ [t]⟩ := by
  obtain ⟨n, k, z⟩ := h.low rfl hb
  exact ⟨n, h.ob.beside h.bc.symm hblk, h.ol.beside h.lc.symm hblk, O, h.bl, (h.bc.symm.grown h.ob hg).symm, (h.lc.symm.grown h.ol hg).symm, k, z⟩
theorem OwnS.setCell {w : World} {B : Nat} {v : Value} {ys : List Str} (h : OwnS w B v ys) (p : Addr) (hp : p.block < B) (u : Value) : OwnS (w.setCell p u) B v ys := by
  refine ⟨h.1, ?_⟩
  rcases h.2 with h' | ⟨g, cap, cur, rfl, hb, hg, h1, h2, h3, h4⟩
  · exact .inl h'
  · exact .inr ⟨g, cap, cur, rfl, hb, (Below.heap_setCell _ _ _ _ (by omega)).trans hg, h1, h2, h3, h4⟩
theorem NVSt.cnt {w wr : World} {vb vl vc : Value} {R : View} (h : NVSt w wr vb vl vc R) (N : Int) : NVSt w (wr.setCell ⟨w.heap.size + 1, 0, none⟩ (.int .u64 N)) vb vl vc ⟨N, R.base, R.last, R.changes⟩ :=
  ⟨h.nv.set N, h.ob.setCell _ (by simp) _, h.ol.setCell _ (by simp) _, h.oc.setCell _ (by simp) _, h.bl, h.bc, h.lc, h.k.setNew _ (by simp) _, by simpa using h.sz⟩

theorem pre_nil (p : UInt8) : Lib.hasPrefix ([] : Str) [p] = false := rfl
theorem pre_cons (p c : UInt8) (t : Str) : Lib.hasPrefix (c :: t) [p] = (p == c) := by simp [Lib.hasPrefix, List.isPrefixOf]

theorem ext1 (c : UInt8) (t : Str) : (⟨(c :: t).toArray⟩ : ByteArray).extract 1 (t.length + 1) = ⟨t.toArray⟩ := by
  apply ByteArray.ext
  rw [ByteArray.data_extract]
  apply Array.ext'
  simp

set_option maxHeartbeats 6400000 in
theorem newView36 (a : Option Addr) (n cp : Nat) (xs : List Str) (w : World) (hn : n ≤ 8388608) (hL : IsL w a n xs) (hS : ∀ i, i < n → (xs.getD i []).length ≤ 1048577) (hE : Errs w) :
    Calls Tryz.prog 36 #[.slice a n cp] w fun e w' => RetV (fun k => k < w.heap.size) w' e (newViewP xs) ∧ Kept w w' := by
  have HL := hid_of hL
  have HS := hid_of hS
  have HE := hid_of hE
  have EN := hid_of hL.len
  clear hL hS hE
  go_enter Tryz.func36, Tryz.ntmps36
  go_wp2
  go_loopw [4, 5, 6, 11] (fun vb vl vc i wr => ∃ (k : Nat), k ≤ n ∧ i = .int .i64 k ∧ Hid (NVSt w wr vb vl vc (rawP (xs.take k)))) (fun _ _ _ i _ => n - (intOf i).toNat)
  case atStart => exact ⟨0, by omega, rfl, NVSt.mk ⟨new1 w _ _, new2 w _ _⟩ (ownS_nil _ _) (ownS_nil _ _) (ownS_nil _ _) (apt_nil _) (apt_nil _) (apt_nil _) ((Kept.alloc _ _).more _) (by simp)⟩
  case round =>
    obtain ⟨k, hk, rfl, ST⟩ := hrel
    obtain ⟨R, hR⟩ : ∃ R, R = rawP (xs.take k) := ⟨_, rfl⟩
    have hlens := rawP_len (xs.take k)
    rw [← hR] at ST hlens
    have HRk := hid_of hR
    have hl1 : R.base.length ≤ 4398046511104 := by have := hlens.1; simp at this; omega
    have hl2 : R.last.length ≤ 4398046511104 := by have := hlens.2.1; simp at this; omega
    have hl3 : R.changes.length ≤ 4398046511104 := by have := hlens.2.2; simp at this; omega
    clear hR hlens
    by_cases hlt : k < n
    · obtain ⟨b, off, rfl, hc⟩ := HL.out.row (by omega)
      have cx := ST.out.k.cell (hc k hlt)
      have hl : (k : Int) < (n : Int) := by omega
      clear hc
      have hsn := rawP_snoc xs k (by rw [EN.out]; exact hlt)
      rw [← HRk.out] at hsn
      have hxl := HS.out k hlt
      obtain ⟨x, hx⟩ : ∃ x, x = xs.getD k [] := ⟨_, rfl⟩
      rw [← hx] at cx hsn hxl
      have SN := hid_of hsn
      clear hx hsn
      have hsz := ST.out.sz
      cases x with
      | nil =>
        go_wp2_with fail
        refine (Tryz.strings_HasPrefix ⟨([] : Str).toArray⟩ ⟨#[64]⟩ _).mono ?_
        rintro r w9 ⟨rfl, rfl⟩
        rw [show Lib.hasPrefix (⟨([] : Str).toArray⟩ : ByteArray).data.toList (⟨#[64]⟩ : ByteArray).data.toList = false from pre_nil 64]
        go_wp2_with fail
        refine (Tryz.strings_HasPrefix ⟨([] : Str).toArray⟩ ⟨#[61]⟩ _).mono ?_
        rintro r w9 ⟨rfl, rfl⟩
        rw [show Lib.hasPrefix (⟨([] : Str).toArray⟩ : ByteArray).data.toList (⟨#[61]⟩ : ByteArray).data.toList = false from pre_nil 61]
        go_wp2_with fail
        refine (Tryz.strings_HasPrefix ⟨([] : Str).toArray⟩ ⟨#[126]⟩ _).mono ?_
        rintro r w9 ⟨rfl, rfl⟩
        rw [show Lib.hasPrefix (⟨([] : Str).toArray⟩ : ByteArray).data.toList (⟨#[126]⟩ : ByteArray).data.toList = false from pre_nil 126]
        go_wp2_with (at_builtin; refine wpList_app1x rfl _ _ rfl rfl _ (w.heap.size + 2) _ R.changes [] ST.out.oc hl3 hsz rfl rfl ?_; intro g cg w1 HO1 HB1 HK1 HG1)
        go_roundw
        case rel =>
          have hO : Hid (NVSt w w1 _ _ _ (rawP (xs.take (k + 1)))) := hid_of (by rw [SN.out]; exact ST.out.chg [] HO1.out HB1.out HK1.out HG1.out)
          exact ⟨k + 1, by omega, by go_num, hO⟩
        case measure => simp [intOf]; omega
      | cons c t =>
        have htl : t.length ≤ 1048576 := by simp at hxl; omega
        have h1x : (1 : Int) ≤ ((c :: t).length : Int) := by simp; omega
        have hex := ext1 c t
        by_cases h64 : c = 64
        · subst h64
          go_wp2_with fail
          refine (Tryz.strings_HasPrefix ⟨(64 :: t : Str).toArray⟩ ⟨#[64]⟩ _).mono ?_
          rintro r w9 ⟨rfl, rfl⟩
          rw [show Lib.hasPrefix (⟨(64 :: t : Str).toArray⟩ : ByteArray).data.toList (⟨#[64]⟩ : ByteArray).data.toList = true from (pre_cons 64 64 t).trans (by simp)]
          go_wp2_with fail
          refine (parse43 t _ htl (HE.out.kept ST.out.k)).mono ?_
          rintro r w1 ⟨⟨ev, rfl⟩, k1⟩
          have ST1 := hid_of (ST.out.kept k1)
          obtain ⟨y0, y1, y2, y3, f0, f1, f2, f3⟩ := ST1.out.nv.cells
          clear y1 y2 y3 f1 f2 f3 k1
          go_wp2
          go_roundw
          case rel =>
            have hO : Hid (NVSt w (w1.setCell ⟨w.heap.size + 1, 0, none⟩ (.int .u64 (parseP t : Nat))) _ _ _ (rawP (xs.take (k + 1)))) := hid_of (by rw [SN.out]; exact ST1.out.cnt (parseP t : Nat))
            exact ⟨k + 1, by omega, by go_num, hO⟩
          case measure => simp [intOf]; omega
        · by_cases h61 : c = 61
          · subst h61
            go_wp2_with fail
            refine (Tryz.strings_HasPrefix ⟨(61 :: t : Str).toArray⟩ ⟨#[64]⟩ _).mono ?_
            rintro r w9 ⟨rfl, rfl⟩
            rw [show Lib.hasPrefix (⟨(61 :: t : Str).toArray⟩ : ByteArray).data.toList (⟨#[64]⟩ : ByteArray).data.toList = false from (pre_cons 64 61 t).trans (by simp)]
            go_wp2_with fail
            refine (Tryz.strings_HasPrefix ⟨(61 :: t : Str).toArray⟩ ⟨#[61]⟩ _).mono ?_
            rintro r w9 ⟨rfl, rfl⟩
            rw [show Lib.hasPrefix (⟨(61 :: t : Str).toArray⟩ : ByteArray).data.toList (⟨#[61]⟩ : ByteArray).data.toList = true from (pre_cons 61 61 t).trans (by simp)]
            go_wp2_with (at_builtin; refine wpList_app1x rfl _ _ rfl rfl _ (w.heap.size + 2) _ R.base t ST.out.ob hl1 hsz rfl rfl ?_; intro g cg w1 HO1 HB1 HK1 HG1)
            go_roundw
            case rel =>
              have hO : Hid (NVSt w w1 _ _ _ (rawP (xs.take (k + 1)))) := hid_of (by rw [SN.out]; exact ST.out.base t HO1.out HB1.out HK1.out HG1.out)
              exact ⟨k + 1, by omega, by go_num, hO⟩
            case measure => simp [intOf]; omega
          · by_cases h126 : c = 126
            · subst h126
              go_wp2_with fail
              refine (Tryz.strings_HasPrefix ⟨(126 :: t : Str).toArray⟩ ⟨#[64]⟩ _).mono ?_
              rintro r w9 ⟨rfl, rfl⟩
              rw [show Lib.hasPrefix (⟨(126 :: t : Str).toArray⟩ : ByteArray).data.toList (⟨#[64]⟩ : ByteArray).data.toList = false from (pre_cons 64 126 t).trans (by simp)]
              go_wp2_with fail
              refine (Tryz.strings_HasPrefix ⟨(126 :: t : Str).toArray⟩ ⟨#[61]⟩ _).mono ?_
              rintro r w9 ⟨rfl, rfl⟩
              rw [show Lib.hasPrefix (⟨(126 :: t : Str).toArray⟩ : ByteArray).data.toList (⟨#[61]⟩ : ByteArray).data.toList = false from (pre_cons 61 126 t).trans (by simp)]
              go_wp2_with fail
              refine (Tryz.strings_HasPrefix ⟨(126 :: t : Str).toArray⟩ ⟨#[126]⟩ _).mono ?_
              rintro r w9 ⟨rfl, rfl⟩
              rw [show Lib.hasPrefix (⟨(126 :: t : Str).toArray⟩ : ByteArray).data.toList (⟨#[126]⟩ : ByteArray).data.toList = true from (pre_cons 126 126 t).trans (by simp)]
              go_wp2_with (at_builtin; refine wpList_app1x rfl _ _ rfl rfl _ (w.heap.size + 2) _ R.last t ST.out.ol hl2 hsz rfl rfl ?_; intro g cg w1 HO1 HB1 HK1 HG1)
              go_roundw
              case rel =>
                have hO : Hid (NVSt w w1 _ _ _ (rawP (xs.take (k + 1)))) := hid_of (by rw [SN.out]; exact ST.out.last t HO1.out HB1.out HK1.out HG1.out)
                exact ⟨k + 1, by omega, by go_num, hO⟩
              case measure => simp [intOf]; omega
            · go_wp2_with fail
              refine (Tryz.strings_HasPrefix ⟨(c :: t : Str).toArray⟩ ⟨#[64]⟩ _).mono ?_
              rintro r w9 ⟨rfl, rfl⟩
              rw [show Lib.hasPrefix (⟨(c :: t : Str).toArray⟩ : ByteArray).data.toList (⟨#[64]⟩ : ByteArray).data.toList = false from (pre_cons 64 c t).trans (by simp; exact fun e => h64 e.symm)]
              go_wp2_with fail
              refine (Tryz.strings_HasPrefix ⟨(c :: t : Str).toArray⟩ ⟨#[61]⟩ _).mono ?_
              rintro r w9 ⟨rfl, rfl⟩
              rw [show Lib.hasPrefix (⟨(c :: t : Str).toArray⟩ : ByteArray).data.toList (⟨#[61]⟩ : ByteArray).data.toList = false from (pre_cons 61 c t).trans (by simp; exact fun e => h61 e.symm)]
              go_wp2_with fail
              refine (Tryz.strings_HasPrefix ⟨(c :: t : Str).toArray⟩ ⟨#[126]⟩ _).mono ?_
              rintro r w9 ⟨rfl, rfl⟩
              rw [show Lib.hasPrefix (⟨(c :: t : Str).toArray⟩ : ByteArray).data.toList (⟨#[126]⟩ : ByteArray).data.toList = false from (pre_cons 126 c t).trans (by simp; exact fun e => h126 e.symm)]
              go_wp2_with (at_builtin; refine wpList_app1x rfl _ _ rfl rfl _ (w.heap.size + 2) _ R.changes (c :: t) ST.out.oc hl3 hsz rfl rfl ?_; intro g cg w1 HO1 HB1 HK1 HG1)
              go_roundw
              case rel =>
                have hO : Hid (NVSt w w1 _ _ _ (rawP (xs.take (k + 1)))) := hid_of (by rw [SN.out]; simp only [rawStep, if_neg h64, if_neg h61, if_neg h126]; exact ST.out.chg (c :: t) HO1.out HB1.out HK1.out HG1.out)
                exact ⟨k + 1, by omega, by go_num, hO⟩
              case measure => simp [intOf]; omega
    · obtain rfl : n = k := by omega
      have hl : ¬ (n : Int) < (n : Int) := by omega
      have HRn : Hid (R = rawP xs) := hid_of (by rw [HRk.out, List.take_of_length_le (by rw [EN.out]; exact Nat.le_refl _)])
      obtain ⟨a1, c1, e1, L1, -, -⟩ := ST.out.ob.isL
      obtain ⟨a2, c2, e2, L2, -, -⟩ := ST.out.ol.isL
      obtain ⟨a3, c3, e3, L3, -, -⟩ := ST.out.oc.isL
      subst e1
      subst e2
      subst e3
      have HL1 := hid_of L1
      have HL2 := hid_of L2
      have HL3 := hid_of L3
      clear L1 L2 L3
      go_wp2_with fail
      refine (setOf44 a1 _ c1 R.base _ hl1 HL1.out).mono ?_
      rintro r w1 ⟨⟨b1, d1, rfl, M1, F1⟩, k1⟩
      have Q1 := hid_of k1
      have HM1 := hid_of M1
      have HF1 := hid_of F1
      clear k1 M1 F1
      go_wp2_with fail
      refine (setOf44 a2 _ c2 R.last _ hl2 (HL2.out.kept Q1.out)).mono ?_
      rintro r w2 ⟨⟨b2, d2, rfl, M2, F2⟩, k2⟩
      have Q2 := hid_of (Q1.out.trans k2)
      have HM1' := hid_of (HM1.out.kept k2)
      have HM2 := hid_of M2
      have HF2 := hid_of (F2.mono Q1.out.size)
      clear k2 M2 F2 HM1
      go_wp2_with fail
      refine (setOf44 a3 _ c3 R.changes _ hl3 (HL3.out.kept Q2.out)).mono ?_
      rintro r w3 ⟨⟨b3, d3, rfl, M3, F3⟩, k3⟩
      have Q3 := hid_of (Q2.out.trans k3)
      have HM1 := hid_of (HM1'.out.kept k3)
      have HM2' := hid_of (HM2.out.kept k3)
      have HM3 := hid_of M3
      have HF3 := hid_of (F3.mono Q2.out.size)
      clear k3 M3 F3 HM2 HM1'
      have ST3 := hid_of (ST.out.kept Q3.out)
      obtain ⟨y0, y1, y2, y3, f0, f1, f2, f3⟩ := ST3.out.nv.cells
      obtain ⟨x0, x1, x2, x3, g0, g1, g2, g3⟩ := ST3.out.nv.cellsA
      have hsz := ST.out.sz
      obtain ⟨N, hN⟩ : ∃ N, N = R.count := ⟨_, rfl⟩
      rw [← hN] at y0
      have HN := hid_of hN
      obtain ⟨m1, hm1⟩ : ∃ m1, m1 = (setP R.base).length := ⟨_, rfl⟩
      obtain ⟨m2, hm2⟩ : ∃ m2, m2 = (setP R.last).length := ⟨_, rfl⟩
      obtain ⟨m3, hm3⟩ : ∃ m3, m3 = (setP R.changes).length := ⟨_, rfl⟩
      rw [← hm1] at HM1 ⊢
      rw [← hm2] at HM2' ⊢
      rw [← hm3] at HM3 ⊢
      have HM := hid_of (And.intro hm1 (And.intro hm2 hm3))
      clear hN hm1 hm2 hm3
      go_wp2
      obtain ⟨X, hX⟩ : ∃ X, X = (((w3.setCell ⟨w.heap.size + 1, 1, none⟩ (.slice b1 m1 d1)).setCell ⟨w.heap.size + 1, 2, none⟩ (.slice b2 m2 d2)).setCell ⟨w.heap.size + 1, 3, none⟩ (.slice b3 m3 d3)) := ⟨_, rfl⟩
      have far3 : ∀ i v, w3.cell? ⟨w.heap.size, i, none⟩ = some v → X.cell? ⟨w.heap.size, i, none⟩ = some v := fun i v hc => by
        rw [hX]; exact far _ _ _ _ _ _ _ (by omega) (far _ _ _ _ _ _ _ (by omega) (far _ _ _ _ _ _ _ (by omega) hc))
      have G1 : Fresh (w.heap.size + 1 + 1) b1 := HF1.out.mono (by omega)
      have G2 : Fresh (w.heap.size + 1 + 1) b2 := HF2.out.mono (by omega)
      have G3 : Fresh (w.heap.size + 1 + 1) b3 := HF3.out.mono (by omega)
      have H0 : Fresh (w.heap.size + 1) b1 := G1.mono (by omega)
      have H1 : Fresh (w.heap.size + 1) b2 := G2.mono (by omega)
      have H2 : Fresh (w.heap.size + 1) b3 := G3.mono (by omega)
      have KX : Kept w X := by rw [hX]; exact ((ST3.out.k.setNew _ (by simp) _).setNew _ (by simp) _).setNew _ (by simp) _
      have LX1 : IsL X b1 m1 (setP R.base) := by rw [hX]; exact ((HM1.out.set _ _ _ G1).set _ _ _ G1).set _ _ _ G1
      have LX2 : IsL X b2 m2 (setP R.last) := by rw [hX]; exact ((HM2'.out.set _ _ _ G2).set _ _ _ G2).set _ _ _ G2
      have LX3 : IsL X b3 m3 (setP R.changes) := by rw [hX]; exact ((HM3.out.set _ _ _ G3).set _ _ _ G3).set _ _ _ G3
      rw [← hX]
      obtain ⟨r0, r1, r2, r3⟩ := set4 (far3 _ _ x0) (far3 _ _ x1) (far3 _ _ x2) (far3 _ _ x3) (.int .u64 N) (.slice b1 m1 d1) (.slice b2 m2 d2) (.slice b3 m3 d3)
      have KY : Kept w ((((X.setCell ⟨w.heap.size, 0, none⟩ (.int .u64 N)).setCell ⟨w.heap.size, 1, none⟩ (.slice b1 m1 d1)).setCell ⟨w.heap.size, 2, none⟩ (.slice b2 m2 d2)).setCell ⟨w.heap.size, 3, none⟩ (.slice b3 m3 d3)) :=
        (((KX.setNew _ (by simp) _).setNew _ (by simp) _).setNew _ (by simp) _).setNew _ (by simp) _
      refine bodyPost_ret (v := .agg #[.int .u64 N, .slice b1 m1 d1, .slice b2 m2 d2, .slice b3 m3 d3]) (by simp [results, Tryz.results36, go_sem, r0, r1, r2, r3]) rfl ⟨⟨_, rfl, ?_⟩, KY⟩
      have hcnt := rawP_count xs
      have hRx := HRn.out
      have hNN := HN.out
      unfold newViewP
      rw [← hRx] at hcnt ⊢
      refine ⟨⟨b1, m1, d1, b2, m2, d2, b3, m3, d3, by rw [hNN], RL.of_fresh ?_ H0 (fun k (hk : k < w.heap.size) => by omega), RL.of_fresh ?_ H1 (fun k (hk : k < w.heap.size) => by omega), RL.of_fresh ?_ H2 (fun k (hk : k < w.heap.size) => by omega)⟩, hcnt.1, hcnt.2⟩
      · exact (((LX1.set _ _ _ H0).set _ _ _ H0).set _ _ _ H0).set _ _ _ H0
      · exact (((LX2.set _ _ _ H1).set _ _ _ H1).set _ _ _ H1).set _ _ _ H1
      · exact (((LX3.set _ _ _ H2).set _ _ _ H2).set _ _ _ H2).set _ _ _ H2

end Go.Proofs.Qxb6616331aGreatDoor
