/-
  THE WALKS of seat b6616331aZD, Xd: the law looks at what ZZtally says of the further answer alone.
-/
import Derived.Test.Qxb6616331aGreatDoorXc
namespace Go.Proofs.Qxb6616331aGreatDoor
open Go.RowKit
set_option linter.unusedVariables false
set_option linter.unusedSimpArgs false
set_option linter.unnecessarySimpa false
set_option maxRecDepth 40000

/-- What a value of type freezing reads as. -/
structure FRd (w : World) (f : FL) (T : Tal) (m : Nat) : Prop where
  fr : IsL w f.a0 f.n0 (setP (T.pairs.map (·.1)))
  em : f.m = some m
  mp : IsMp w m T.pairs
  b : f.b = T.forgot
  bf : IsVL w f.a2 f.n2 T.before
  un : IsVL w f.a4 f.n4 T.unsure
  lg : IsV w f.l.val T.larger
theorem FrzIn.rd {w : World} {B E : Nat} {f : FL} {T : Tal} (H : FrzIn B E w f.val T) : ∃ m, FRd w f T m := by
  obtain ⟨az, cz, m, vb, us, vu, ut, l0, l1, l2, l3, e, f1, f2, f3, f4, f5, f6, f7, -, -⟩ := H
  obtain ⟨x1, y1, rfl⟩ := f3.shape
  obtain ⟨x2, y2, rfl⟩ := f5.shape
  have e' := Value.agg.inj e
  simp only [FL.arr, Array.mk.injEq, List.cons.injEq, Value.slice.injEq, Value.map.injEq, Value.bool.injEq, and_true] at e'
  obtain ⟨⟨rfl, en, rfl⟩, rm, ⟨rfl, rn2, rfl⟩, rb, ⟨rfl, rn4, rfl⟩, rfl, rfl, rfl, rfl⟩ := e'
  refine ⟨m, ⟨en ▸ f1, rm, f2, rb, ?_, ?_, f7⟩⟩
  · rw [rn2]; exact f3.isVL f4 rfl
  · rw [rn4]; exact f5.isVL f6 rfl
theorem FRd.kept {w w' : World} {f : FL} {T : Tal} {m : Nat} (h : FRd w f T m) (q : Kept w w') : FRd w' f T m := ⟨h.fr.kept q, h.em, h.mp.kept q, h.b, h.bf.kept q, h.un.kept q, h.lg.kept q⟩
theorem setP_one (x : Str) : setP [x] = [x] := rfl
theorem hasM_one (k m : Str) : hasM [(k, m)] k = true := by simp [hasM]
theorem getM_one (k m : Str) : getM [(k, m)] k = m := by simp [getM]

section
variable {w : World} {lF lX : VL} {F X : View} {at_ : Option Addr} {nt ct : Nat} {tos : List Str} {a3 : Option Addr} {n c3 : Nat} {As : List Ans} {jn : Nat} {mark member : Str} {fz kn : Bool} {b20 : Nat} {ax : Option Addr} {nx cx : Nat} {xl : List Str} {Q : Exit → Act → World → Prop}
set_option maxHeartbeats 3200000 in
theorem st15 (B0 : Mid X) (hmem : member.length ≤ 1048576) {B E b4 b2 : Nat} {f : FL} {l2 : VL} {a : Act} {W w1 : World} (H : SB w F X tos As nt n jn mark member fz kn lF lX at_ ct a3 c3 b20 ax nx cx xl W) (q1 : Kept W w1) (h0 : Fr 373 a ((21, .pointer (some ⟨b4, 0, none⟩)) :: (22, .pointer (some ⟨b2, 0, none⟩)) :: [(1, .slice at_ nt ct), (3, .slice a3 n c3), (4, .int .i64 (jn : Int)), (5, sv mark), (6, .bool fz), (7, .bool kn), (8, .pointer (some ⟨w.heap.size, 0, none⟩)), (10, .pointer (some ⟨(w.heap.size + 1), 0, none⟩)), (19, sv member), (20, .pointer (some ⟨b20, 0, none⟩))]))
    (hb4 : w1.heap[b4]? = some (.cells (FL.arr f) 44 (0, 0))) (hb2 : w1.heap[b2]? = some (.cells (VL.arr l2) 42 (0, 0))) (hf : FrzIn B E w1 f.val ⟨[(member, mark)], [], false || (fz && !kn), [], X⟩) (hl : l2.val = zeroVw)
    (next : ∀ a w2, Kept w1 w2 → Fr 373 a [(1, .slice at_ nt ct), (3, .slice a3 n c3), (4, .int .i64 (jn : Int)), (5, sv mark), (6, .bool fz), (7, .bool kn), (8, .pointer (some ⟨w.heap.size, 0, none⟩)), (10, .pointer (some ⟨(w.heap.size + 1), 0, none⟩)), (19, sv member), (20, .pointer (some ⟨b20, 0, none⟩))] → (restC 20).wp Tryz.prog Q a w2) : (restC 15).wp Tryz.prog Q a w1 := by
  obtain ⟨m, hr⟩ := hf.rd
  obtain ⟨f_n0, hn0⟩ : ∃ k, k = f.n0 := ⟨_, rfl⟩
  have e0 : f.n0 = 1 := by have := hr.fr.len; simpa [setP_one] using this.symm
  have e2 : f.n2 = 0 := by have := hr.bf.len; simpa using this.symm
  have e4 : f.n4 = 0 := by have := hr.un.len; simpa using this.symm
  have em := hr.em
  have eb : f.b = (fz && !kn) := by have := hr.b; simpa using this
  obtain ⟨b0, off0, ea, hc0⟩ := hr.fr.row (by rw [e0]; decide)
  have c0 : w1.cell? ⟨b0, off0, none⟩ = some (sv member) := by have := hc0 0 (by rw [e0]; decide); simpa [setP_one] using this
  refine wp_seq (wp_region_list ?_)
  refine wl_valF (wanted_none rfl) (run_load44 rfl (h0.at 0 rfl) hb4) h0 rfl (by decide) rfl (fun a h1 => ?_)
  refine wl_callF (wanted_none rfl) (run_enter1 (en16 _) rfl (h1.at 0 rfl)) (frzFields16 w1 f.a0 f.n0 f.c0 f.m f.a2 f.n2 f.c2 f.b f.a4 f.n4 f.c4 f.l.N f.l.ab f.l.nb f.l.cb f.l.al f.l.nl f.l.cl f.l.ac f.l.nc f.l.cc) h1 rfl (by decide) rfl ?_
  rintro e w2a ⟨rfl, qw2⟩
  refine ⟨_, rfl, fun a h2 => ?_⟩
  refine wl_valF (wanted_none rfl) (run_move' rfl (h2.at 0 rfl)) h2 rfl (by decide) rfl (fun a h3 => ?_)
  refine wl_valF (wanted_none rfl) (run_extract rfl (h3.at 0 rfl) rfl) h3 rfl (by decide) rfl (fun a h4 => ?_)
  refine wl_valF (wanted_none rfl) (run_extract rfl (h4.at 1 rfl) rfl) h4 rfl (by decide) rfl (fun a h5 => ?_)
  refine wl_valF (wanted_none rfl) (run_extract rfl (h5.at 2 rfl) rfl) h5 rfl (by decide) rfl (fun a h6 => ?_)
  refine wl_valF (wanted_none rfl) (run_extract rfl (h6.at 3 rfl) rfl) h6 rfl (by decide) rfl (fun a h7 => ?_)
  refine wl_valF (wanted_none rfl) (run_extract rfl (h7.at 4 rfl) rfl) h7 rfl (by decide) rfl (fun a h8 => ?_)
  refine wl_valF (wanted_none rfl) (run_extract rfl (h8.at 5 rfl) rfl) h8 rfl (by decide) rfl (fun a h9 => ?_)
  refine wl_valF (wanted_none rfl) (run_alloc42 rfl) h9 rfl (by decide) rfl (fun a h10 => ?_)
  refine wl_valF (wanted_none rfl) (run_assign' rfl (h10.at 6 rfl)) h10 rfl (by decide) rfl (fun a h11 => ?_)
  refine wl_valF (wanted_none rfl) (run_assign' rfl (h11.at 6 rfl)) h11 rfl (by decide) rfl (fun a h12 => ?_)
  refine wl_valF (wanted_none rfl) (run_assign' rfl (h12.at 6 rfl)) h12 rfl (by decide) rfl (fun a h13 => ?_)
  refine wl_valF (wanted_none rfl) (run_assign' rfl (h13.at 6 rfl)) h13 rfl (by decide) rfl (fun a h14 => ?_)
  refine wl_valF (wanted_none rfl) (run_assign' rfl (h14.at 6 rfl)) h14 rfl (by decide) rfl (fun a h15 => ?_)
  have nbw2 := heap_alloc_new w2a (.cells #[.int .u64 0, .slice none 0 0, .slice none 0 0, .slice none 0 0] 42)
  refine wl_skip (wanted_none rfl) rfl (run_store42 rfl (h15.at 5 rfl) (h15.at 6 rfl) nbw2) ?_
  show Code.wp _ _ _ _ _
  have kpw2 := (Kept.alloc w2a (.cells #[.int .u64 0, .slice none 0 0, .slice none 0 0, .slice none 0 0] 42)).put4 w2a.heap.size (Nat.le_refl _) (.int .u64 f.l.N) (.slice f.l.ab f.l.nb f.l.cb) (.slice f.l.al f.l.nl f.l.cl) (.slice f.l.ac f.l.nc f.l.cc)
  have bkw2 := put4_blk nbw2 (.int .u64 f.l.N) (.slice f.l.ab f.l.nb f.l.cb) (.slice f.l.al f.l.nl f.l.cl) (.slice f.l.ac f.l.nc f.l.cc)
  refine world_abs (F := fun w5 => Kept w1 w5 ∧ w5.heap[w2a.heap.size]? = some (.cells f.l.arr 42 (0, 0))) ⟨qw2.trans kpw2, bkw2⟩ (fun w2 hw2 => ?_)
  obtain ⟨Kw2, Cw2⟩ := hw2
  have g0 := (h15.sub (Has.cons (h15.at 4 rfl) (Has.cons (h15.at 3 rfl) (Has.cons (h15.at 2 rfl) (Has.cons (h15.at 1 rfl) (Has.cons (h15.at 0 rfl) (Has.cons (h15.at 5 rfl) (Has.cons (h15.at 16 rfl) (Has.cons (h15.at 17 rfl) (Has.cons (h15.at 18 rfl) (Has.cons (h15.at 19 rfl) (Has.cons (h15.at 20 rfl) (Has.cons (h15.at 21 rfl) (Has.cons (h15.at 22 rfl) (Has.cons (h15.at 23 rfl) (Has.cons (h15.at 24 rfl) (Has.cons (h15.at 25 rfl) (Has.cons (h15.at 26 rfl) (Has.nil _)))))))))))))))))))
  rw [ea, em] at g0
  refine wp_seq (wp_seq (wp_region_list ?_))
  have c0 := Kw2.cell c0
  have mp2 := hr.mp.kept Kw2
  refine wl_valF (wanted_none rfl) (run_move' rfl (g0.at 0 rfl)) g0 rfl (by decide) rfl (fun a h16 => ?_)
  refine wl_valF (wanted_none rfl) (run_lenS rfl (by decide) (h16.at 0 rfl)) h16 rfl (by decide) rfl (fun a h17 => ?_)
  refine wl_valF (wanted_none rfl) (run_bool (b := (((f.n0 : Nat) : Int) != (1 : Int))) (c := false) (run_neqC rfl (h17.at 0 rfl)) (by simp [e0])) h17 rfl (by decide) rfl (fun a h18 => ?_)
  refine wl_valF (wanted_none rfl) (run_move' rfl (h18.at 0 rfl)) h18 rfl (by decide) rfl (fun a h19 => ?_)
  refine wl_valF (wanted_fr rfl rfl h19 (by decide) (h19.at 0 rfl) rfl) (run_move' rfl (h19.at 4 rfl)) h19 rfl (by decide) rfl (fun a h20 => ?_)
  refine wl_valF (wanted_fr rfl rfl h20 (by decide) (h20.at 1 rfl) rfl) (run_index23C rfl (h20.at 0 rfl) (by rw [e0]; decide)) h20 rfl (by decide) rfl (fun a h21 => ?_)
  refine wl_valF (wanted_fr rfl rfl h21 (by decide) (h21.at 2 rfl) rfl) (run_load9 rfl (h21.at 0 rfl) c0) h21 rfl (by decide) rfl (fun a h22 => ?_)
  refine wl_valF (wanted_fr rfl rfl h22 (by decide) (h22.at 3 rfl) rfl) (run_move' rfl (h22.at 22 rfl)) h22 rfl (by decide) rfl (fun a h23 => ?_)
  refine wl_valF (wanted_fr rfl rfl h23 (by decide) (h23.at 4 rfl) rfl) (run_bool (b := (member != member)) (c := false) (run_neqS rfl (h23.at 1 rfl) (h23.at 0 rfl)) (by simp)) h23 rfl (by decide) rfl (fun a h24 => ?_)
  refine wl_valF (wanted_none rfl) (run_pick (v := .bool true) (v' := .bool false) rfl (h24.at 5 rfl) rfl (h24.at 0 rfl)) h24 rfl (by decide) rfl (fun a h25 => ?_)
  refine wl_valF (wanted_none rfl) (run_move' rfl (h25.at 0 rfl)) h25 rfl (by decide) rfl (fun a h26 => ?_)
  refine wl_valF (wanted_fr rfl rfl h26 (by decide) (h26.at 0 rfl) rfl) (run_move' rfl (h26.at 12 rfl)) h26 rfl (by decide) rfl (fun a h27 => ?_)
  refine wl_valF (wanted_fr rfl rfl h27 (by decide) (h27.at 1 rfl) rfl) (run_len39 rfl (h27.at 0 rfl) mp2) h27 rfl (by decide) rfl (fun a h28 => ?_)
  refine wl_valF (wanted_fr rfl rfl h28 (by decide) (h28.at 2 rfl) rfl) (run_bool (b := ((((setP ([(member, mark)].map (·.1))).length : Nat) : Int) != (1 : Int))) (c := false) (run_neqC rfl (h28.at 0 rfl)) (by simp [setP_one])) h28 rfl (by decide) rfl (fun a h29 => ?_)
  refine wl_valF (wanted_none rfl) (run_pick (v := .bool true) (v' := .bool false) rfl (h29.at 3 rfl) rfl (h29.at 0 rfl)) h29 rfl (by decide) rfl (fun a h30 => ?_)
  show Code.wp _ _ _ _ _
  refine cond_ret (h30.at 0 rfl) h30 rfl rfl rfl (fun h => by cases h) (fun _ => ?_)
  have g1 := (h30.sub (Has.cons (h30.at 15 rfl) (Has.cons (h30.at 16 rfl) (Has.cons (h30.at 17 rfl) (Has.cons (h30.at 18 rfl) (Has.cons (h30.at 19 rfl) (Has.cons (h30.at 20 rfl) (Has.cons (h30.at 21 rfl) (Has.cons (h30.at 22 rfl) (Has.cons (h30.at 23 rfl) (Has.cons (h30.at 24 rfl) (Has.cons (h30.at 25 rfl) (Has.cons (h30.at 26 rfl) (Has.cons (h30.at 27 rfl) (Has.cons (h30.at 28 rfl) (Has.cons (h30.at 29 rfl) (Has.cons (h30.at 30 rfl) (Has.cons (h30.at 31 rfl) (Has.nil _)))))))))))))))))))
  refine wp_seq (wp_seq (wp_region_list ?_))
  refine wl_valF (wanted_none rfl) (run_move' rfl (g1.at 1 rfl)) g1 rfl (by decide) rfl (fun a h31 => ?_)
  refine wl_valF (wanted_none rfl) (run_move' rfl (h31.at 16 rfl)) h31 rfl (by decide) rfl (fun a h32 => ?_)
  refine wl_valF (wanted_none rfl) (run_look rfl (h32.at 1 rfl) (h32.at 0 rfl) mp2 (by omega)) h32 rfl (by decide) rfl (fun a h33 => ?_)
  refine wl_valF (wanted_none rfl) (run_move' rfl (h33.at 0 rfl)) h33 rfl (by decide) rfl (fun a h34 => ?_)
  refine wl_valF (wanted_none rfl) (run_extract rfl (h34.at 0 rfl) rfl) h34 rfl (by decide) rfl (fun a h35 => ?_)
  refine wl_valF (wanted_none rfl) (run_bool (b := (hasM [(member, mark)] member)) (c := true) (run_extract rfl (h35.at 1 rfl) rfl) (hasM_one _ _)) h35 rfl (by decide) rfl (fun a h36 => ?_)
  refine wl_valF (wanted_none rfl) (run_assign' rfl (h36.at 1 rfl)) h36 rfl (by decide) rfl (fun a h37 => ?_)
  refine wl_valF (wanted_none rfl) (run_assign' rfl (h37.at 1 rfl)) h37 rfl (by decide) rfl (fun a h38 => ?_)
  show Code.wp _ _ _ _ _
  refine wp_seq (wp_region_list ?_)
  refine wl_valF (wanted_none rfl) (run_move' rfl (h38.at 0 rfl)) h38 rfl (by decide) rfl (fun a h39 => ?_)
  refine wl_valF (wanted_none rfl) (run_not rfl (h39.at 0 rfl)) h39 rfl (by decide) rfl (fun a h40 => ?_)
  refine wl_valF (wanted_none rfl) (run_move' rfl (h40.at 0 rfl)) h40 rfl (by decide) rfl (fun a h41 => ?_)
  refine wl_valF (wanted_fr rfl rfl h41 (by decide) (h41.at 0 rfl) rfl) (run_move' rfl (h41.at 4 rfl)) h41 rfl (by decide) rfl (fun a h42 => ?_)
  refine wl_valF (wanted_fr rfl rfl h42 (by decide) (h42.at 1 rfl) rfl) (run_move' rfl (h42.at 22 rfl)) h42 rfl (by decide) rfl (fun a h43 => ?_)
  refine wl_valF (wanted_fr rfl rfl h43 (by decide) (h43.at 2 rfl) rfl) (run_bool (b := ((getM [(member, mark)] member) != mark)) (c := false) (run_neqS rfl (h43.at 1 rfl) (h43.at 0 rfl)) (by rw [getM_one]; simp)) h43 rfl (by decide) rfl (fun a h44 => ?_)
  refine wl_valF (wanted_none rfl) (run_pick (v := .bool true) (v' := .bool false) rfl (h44.at 3 rfl) rfl (h44.at 0 rfl)) h44 rfl (by decide) rfl (fun a h45 => ?_)
  show Code.wp _ _ _ _ _
  refine cond_ret (h45.at 0 rfl) h45 rfl rfl rfl (fun h => by cases h) (fun _ => ?_)
  have g2 := (h45.sub (Has.cons (h45.at 15 rfl) (Has.cons (h45.at 16 rfl) (Has.cons (h45.at 17 rfl) (Has.cons (h45.at 18 rfl) (Has.cons (h45.at 19 rfl) (Has.cons (h45.at 20 rfl) (Has.cons (h45.at 21 rfl) (Has.cons (h45.at 22 rfl) (Has.cons (h45.at 23 rfl) (Has.cons (h45.at 24 rfl) (Has.cons (h45.at 25 rfl) (Has.cons (h45.at 26 rfl) (Has.cons (h45.at 27 rfl) (Has.cons (h45.at 28 rfl) (Has.cons (h45.at 29 rfl) (Has.cons (h45.at 30 rfl) (Has.cons (h45.at 31 rfl) (Has.nil _)))))))))))))))))))
  suffices h19 : ∀ a, Fr 373 a [(23, .slice (some ⟨b0, off0, none⟩) f.n0 f.c0), (24, .map (some m)), (25, .slice f.a2 f.n2 f.c2), (26, .bool f.b), (27, .slice f.a4 f.n4 f.c4), (28, .pointer (some ⟨w2a.heap.size, 0, none⟩)), (22, .pointer (some ⟨b2, 0, none⟩)), (1, .slice at_ nt ct), (3, .slice a3 n c3), (4, .int .i64 (jn : Int)), (5, sv mark), (6, .bool fz), (7, .bool kn), (8, .pointer (some ⟨w.heap.size, 0, none⟩)), (10, .pointer (some ⟨(w.heap.size + 1), 0, none⟩)), (19, sv member), (20, .pointer (some ⟨b20, 0, none⟩))] → (restC 19).wp Tryz.prog Q a w2 by
    refine wp_seq (wp_seq (wp_region_list ?_))
    cases fz
    · skip
      refine wl_valF (wanted_none rfl) (run_move' rfl (g2.at 2 rfl)) g2 rfl (by decide) rfl (fun a h46 => ?_)
      refine wl_valF (wanted_none rfl) (run_len40 rfl (h46.at 0 rfl)) h46 rfl (by decide) rfl (fun a h47 => ?_)
      refine wl_valF (wanted_none rfl) (run_bool (b := (((f.n2 : Nat) : Int) != (0 : Int))) (c := false) (run_neqC rfl (h47.at 0 rfl)) (by simp [e2])) h47 rfl (by decide) rfl (fun a h48 => ?_)
      refine wl_valF (wanted_none rfl) (run_move' rfl (h48.at 0 rfl)) h48 rfl (by decide) rfl (fun a h49 => ?_)
      refine wl_valF (wanted_fr rfl rfl h49 (by decide) (h49.at 0 rfl) rfl) (run_move' rfl (h49.at 8 rfl)) h49 rfl (by decide) rfl (fun a h50 => ?_)
      refine wl_valF (wanted_fr rfl rfl h50 (by decide) (h50.at 1 rfl) rfl) (run_len40 rfl (h50.at 0 rfl)) h50 rfl (by decide) rfl (fun a h51 => ?_)
      refine wl_valF (wanted_fr rfl rfl h51 (by decide) (h51.at 2 rfl) rfl) (run_bool (b := (((f.n4 : Nat) : Int) != (0 : Int))) (c := false) (run_neqC rfl (h51.at 0 rfl)) (by simp [e4])) h51 rfl (by decide) rfl (fun a h52 => ?_)
      refine wl_valF (wanted_none rfl) (run_pick (v := .bool true) (v' := .bool false) rfl (h52.at 3 rfl) rfl (h52.at 0 rfl)) h52 rfl (by decide) rfl (fun a h53 => ?_)
      refine wl_valF (wanted_none rfl) (run_move' rfl (h53.at 0 rfl)) h53 rfl (by decide) rfl (fun a h54 => ?_)
      refine wl_valF (wanted_fr rfl rfl h54 (by decide) (h54.at 0 rfl) rfl) (run_move' rfl (h54.at 12 rfl)) h54 rfl (by decide) rfl (fun a h55 => ?_)
      refine wl_valF (wanted_fr rfl rfl h55 (by decide) (h55.at 1 rfl) rfl) (run_move' rfl (h55.at 21 rfl)) h55 rfl (by decide) rfl (fun a h56 => ?_)
      refine wl_valF (wanted_fr rfl rfl h56 (by decide) (h56.at 2 rfl) rfl) (run_move' rfl (h56.at 0 rfl)) h56 rfl (by decide) rfl (fun a h57 => ?_)
      refine wl_notF (wanted_fr rfl rfl h57 (by decide) (h57.at 0 rfl) rfl) h57 rfl (by decide) rfl (fun a h58 => ?_)
      refine wl_notF (wanted_fr rfl rfl h58 (by decide) (h58.at 1 rfl) rfl) h58 rfl (by decide) rfl (fun a h59 => ?_)
      refine wl_valF (wanted_fr rfl rfl h59 (by decide) (h59.at 5 rfl) rfl) (run_pick (v := undef) (v' := .bool false) rfl (h59.at 2 rfl) (h59.at 0 rfl) rfl) h59 rfl (by decide) rfl (fun a h60 => ?_)
      refine wl_valF (wanted_fr rfl rfl h60 (by decide) (h60.at 6 rfl) rfl) (run_bool (b := (f.b != false)) (c := false) (run_neqB rfl (h60.at 5 rfl) (h60.at 0 rfl)) (by rw [eb]; simp)) h60 rfl (by decide) rfl (fun a h61 => ?_)
      refine wl_valF (wanted_none rfl) (run_pick (v := .bool true) (v' := .bool false) rfl (h61.at 7 rfl) rfl (h61.at 0 rfl)) h61 rfl (by decide) rfl (fun a h62 => ?_)
      show Code.wp _ _ _ _ _
      exact cond_ret (h62.at 0 rfl) h62 rfl rfl rfl (fun h => by cases h) (fun _ => h19 _ (h62.sub (Has.cons (h62.at 17 rfl) (Has.cons (h62.at 18 rfl) (Has.cons (h62.at 19 rfl) (Has.cons (h62.at 20 rfl) (Has.cons (h62.at 21 rfl) (Has.cons (h62.at 22 rfl) (Has.cons (h62.at 23 rfl) (Has.cons (h62.at 24 rfl) (Has.cons (h62.at 25 rfl) (Has.cons (h62.at 26 rfl) (Has.cons (h62.at 27 rfl) (Has.cons (h62.at 28 rfl) (Has.cons (h62.at 29 rfl) (Has.cons (h62.at 30 rfl) (Has.cons (h62.at 31 rfl) (Has.cons (h62.at 32 rfl) (Has.cons (h62.at 33 rfl) (Has.nil _))))))))))))))))))))
    · skip
      refine wl_valF (wanted_none rfl) (run_move' rfl (g2.at 2 rfl)) g2 rfl (by decide) rfl (fun a h46 => ?_)
      refine wl_valF (wanted_none rfl) (run_len40 rfl (h46.at 0 rfl)) h46 rfl (by decide) rfl (fun a h47 => ?_)
      refine wl_valF (wanted_none rfl) (run_bool (b := (((f.n2 : Nat) : Int) != (0 : Int))) (c := false) (run_neqC rfl (h47.at 0 rfl)) (by simp [e2])) h47 rfl (by decide) rfl (fun a h48 => ?_)
      refine wl_valF (wanted_none rfl) (run_move' rfl (h48.at 0 rfl)) h48 rfl (by decide) rfl (fun a h49 => ?_)
      refine wl_valF (wanted_fr rfl rfl h49 (by decide) (h49.at 0 rfl) rfl) (run_move' rfl (h49.at 8 rfl)) h49 rfl (by decide) rfl (fun a h50 => ?_)
      refine wl_valF (wanted_fr rfl rfl h50 (by decide) (h50.at 1 rfl) rfl) (run_len40 rfl (h50.at 0 rfl)) h50 rfl (by decide) rfl (fun a h51 => ?_)
      refine wl_valF (wanted_fr rfl rfl h51 (by decide) (h51.at 2 rfl) rfl) (run_bool (b := (((f.n4 : Nat) : Int) != (0 : Int))) (c := false) (run_neqC rfl (h51.at 0 rfl)) (by simp [e4])) h51 rfl (by decide) rfl (fun a h52 => ?_)
      refine wl_valF (wanted_none rfl) (run_pick (v := .bool true) (v' := .bool false) rfl (h52.at 3 rfl) rfl (h52.at 0 rfl)) h52 rfl (by decide) rfl (fun a h53 => ?_)
      refine wl_valF (wanted_none rfl) (run_move' rfl (h53.at 0 rfl)) h53 rfl (by decide) rfl (fun a h54 => ?_)
      refine wl_valF (wanted_fr rfl rfl h54 (by decide) (h54.at 0 rfl) rfl) (run_move' rfl (h54.at 12 rfl)) h54 rfl (by decide) rfl (fun a h55 => ?_)
      refine wl_valF (wanted_fr rfl rfl h55 (by decide) (h55.at 1 rfl) rfl) (run_move' rfl (h55.at 21 rfl)) h55 rfl (by decide) rfl (fun a h56 => ?_)
      refine wl_valF (wanted_fr rfl rfl h56 (by decide) (h56.at 2 rfl) rfl) (run_move' rfl (h56.at 0 rfl)) h56 rfl (by decide) rfl (fun a h57 => ?_)
      refine wl_valF (wanted_fr rfl rfl h57 (by decide) (h57.at 0 rfl) rfl) (run_move' rfl (h57.at 24 rfl)) h57 rfl (by decide) rfl (fun a h58 => ?_)
      refine wl_valF (wanted_fr rfl rfl h58 (by decide) (h58.at 1 rfl) rfl) (run_not rfl (h58.at 0 rfl)) h58 rfl (by decide) rfl (fun a h59 => ?_)
      refine wl_valF (wanted_fr rfl rfl h59 (by decide) (h59.at 5 rfl) rfl) (run_pick (v := .bool (!kn)) (v' := .bool false) rfl (h59.at 2 rfl) (h59.at 0 rfl) rfl) h59 rfl (by decide) rfl (fun a h60 => ?_)
      refine wl_valF (wanted_fr rfl rfl h60 (by decide) (h60.at 6 rfl) rfl) (run_bool (b := (f.b != (!kn))) (c := false) (run_neqB rfl (h60.at 5 rfl) (h60.at 0 rfl)) (by rw [eb]; simp)) h60 rfl (by decide) rfl (fun a h61 => ?_)
      refine wl_valF (wanted_none rfl) (run_pick (v := .bool true) (v' := .bool false) rfl (h61.at 7 rfl) rfl (h61.at 0 rfl)) h61 rfl (by decide) rfl (fun a h62 => ?_)
      show Code.wp _ _ _ _ _
      exact cond_ret (h62.at 0 rfl) h62 rfl rfl rfl (fun h => by cases h) (fun _ => h19 _ (h62.sub (Has.cons (h62.at 17 rfl) (Has.cons (h62.at 18 rfl) (Has.cons (h62.at 19 rfl) (Has.cons (h62.at 20 rfl) (Has.cons (h62.at 21 rfl) (Has.cons (h62.at 22 rfl) (Has.cons (h62.at 23 rfl) (Has.cons (h62.at 24 rfl) (Has.cons (h62.at 25 rfl) (Has.cons (h62.at 26 rfl) (Has.cons (h62.at 27 rfl) (Has.cons (h62.at 28 rfl) (Has.cons (h62.at 29 rfl) (Has.cons (h62.at 30 rfl) (Has.cons (h62.at 31 rfl) (Has.cons (h62.at 32 rfl) (Has.cons (h62.at 33 rfl) (Has.nil _))))))))))))))))))))
  intro a g3
  refine wp_seq (wp_seq (wp_region_list ?_))
  have K2 := q1.trans Kw2
  refine wl_valF (wanted_none rfl) (run_load42 rfl (g3.at 5 rfl) Cw2) g3 rfl (by decide) rfl (fun a h146 => ?_)
  refine wl_valF (wanted_none rfl) (run_load25 rfl (h146.at 15 rfl) (K2.blk H.b10)) h146 rfl (by decide) rfl (fun a h147 => ?_)
  refine wl_callF (wanted_none rfl) (run_enter2 (en17 _) rfl (h147.at 1 rfl) (h147.at 0 rfl)) (viewIs17 f.l.val lX.val X w2 (hr.lg.kept Kw2) (H.x.kept K2) B0) h147 rfl (by decide) rfl ?_
  rintro e w3 ⟨rfl, q3⟩
  refine ⟨_, rfl, fun a h148 => ?_⟩
  refine wl_valF (wanted_none rfl) (run_not rfl (h148.at 0 rfl)) h148 rfl (by decide) rfl (fun a h149 => ?_)
  refine wl_valF (wanted_none rfl) (run_move' rfl (h149.at 0 rfl)) h149 rfl (by decide) rfl (fun a h150 => ?_)
  refine wl_valF (wanted_fr rfl rfl h150 (by decide) (h150.at 0 rfl) rfl) (run_load42 rfl (h150.at 11 rfl) (q3.blk (Kw2.blk hb2))) h150 rfl (by decide) rfl (fun a h151 => ?_)
  refine wl_callF (wanted_fr rfl rfl h151 (by decide) (h151.at 1 rfl) rfl) (run_enter1 (en18 _) rfl (h151.at 0 rfl)) (viewIsZero18 l2.val w3 (hl ▸ isZero w3)) h151 rfl (by decide) rfl ?_
  rintro e w4 ⟨rfl, q4⟩
  refine ⟨_, rfl, fun a h152 => ?_⟩
  refine wl_valF (wanted_fr rfl rfl h152 (by decide) (h152.at 2 rfl) rfl) (run_not rfl (h152.at 0 rfl)) h152 rfl (by decide) rfl (fun a h153 => ?_)
  refine wl_valF (wanted_none rfl) (run_pick (v := .bool true) (v' := .bool false) rfl (h153.at 3 rfl) rfl (h153.at 0 rfl)) h153 rfl (by decide) rfl (fun a h154 => ?_)
  show Code.wp _ _ _ _ _
  exact cond_ret (h154.at 0 rfl) h154 rfl rfl rfl (fun h => by cases h) (fun _ => next _ _ (Kw2.trans (q3.trans q4)) (h154.sub (Has.cons (h154.at 16 rfl) (Has.cons (h154.at 17 rfl) (Has.cons (h154.at 18 rfl) (Has.cons (h154.at 19 rfl) (Has.cons (h154.at 20 rfl) (Has.cons (h154.at 21 rfl) (Has.cons (h154.at 22 rfl) (Has.cons (h154.at 23 rfl) (Has.cons (h154.at 24 rfl) (Has.cons (h154.at 25 rfl) (Has.nil _)))))))))))))
end

end Go.Proofs.Qxb6616331aGreatDoor
