/-
  THE WALKS of seat b6616331aZD, Y1: viewsBetween.
-/
import Derived.Test.Qxb6616331aGreatDoorY0
import Derived.Test.Qxb6616331aGreatDoorZt
namespace Go.Proofs.Qxb6616331aGreatDoor
open Go.RowKit
set_option linter.unusedVariables false
set_option linter.unusedSimpArgs false
set_option linter.unnecessarySimpa false
set_option maxRecDepth 40000

theorem length_foldl_mid (l : List Str) (h : l.length ≤ 4194304) : Mid (newViewP l) := by
  have := rawP_len l
  have h1 := length_setP_le (rawP l).base
  have h2 := length_setP_le (rawP l).last
  have h3 := length_setP_le (rawP l).changes
  exact ⟨by simp [newViewP]; omega, by simp [newViewP]; omega, by simp [newViewP]; omega⟩

def okB (F N v : View) : Bool := newerP v F && !equalP v N
/-- The views of the lists that are newer than F and other than N. -/
def betweenP (F N : View) (ls : List (List Str)) : List View := (ls.map newViewP).filter (okB F N)
theorem between_yes (F N : View) (ls : List (List Str)) (k : Nat) (h : k < ls.length) (hb : okB F N (newViewP (ls.getD k [])) = true) : betweenP F N (ls.take k) ++ [newViewP (ls.getD k [])] = betweenP F N (ls.take (k + 1)) := by
  have e : ls.take (k + 1) = ls.take k ++ [ls.getD k []] := by
    rw [List.take_add_one, List.getD_eq_getElem?_getD, List.getElem?_eq_getElem h]; rfl
  rw [e]
  simp only [betweenP, List.map_append, List.filter_append, List.map_cons, List.map_nil]
  rw [List.filter_cons, if_pos hb]
  simp
theorem between_no (F N : View) (ls : List (List Str)) (k : Nat) (h : k < ls.length) (hb : okB F N (newViewP (ls.getD k [])) = false) : betweenP F N (ls.take k) = betweenP F N (ls.take (k + 1)) := by
  have e : ls.take (k + 1) = ls.take k ++ [ls.getD k []] := by
    rw [List.take_add_one, List.getD_eq_getElem?_getD, List.getElem?_eq_getElem h]; rfl
  rw [e]
  simp only [betweenP, List.map_append, List.filter_append, List.map_cons, List.map_nil]
  rw [List.filter_cons, if_neg (by rw [hb]; decide)]
  simp
theorem between_le (F N : View) (ls : List (List Str)) : (betweenP F N ls).length ≤ ls.length := by
  have := List.length_filter_le (okB F N) (ls.map newViewP)
  simpa [betweenP] using this

/-- Rows of views are returned. -/
def RetVs (w w' : World) (e : Ending) (Vs : List View) : Prop := ∃ a c us, e = .returned (.slice a us.length c) ∧ OwnV w' w.heap.size (.slice a us.length c) us ∧ AllV w' (fun k => k < w.heap.size) us Vs

/-- The state of viewsBetween's loop. -/
structure BSt (w wr : World) (v : Value) (Vs : List View) : Prop where
  ex : ∃ us G, OwnV wr (w.heap.size + 2) v us ∧ AllV wr G us Vs ∧ (∀ k, k < w.heap.size + 2 → G k) ∧ (∀ g, v.ownBlock = some g → G g)

theorem BSt.kept {w wr w' : World} {v : Value} {Vs : List View} (h : BSt w wr v Vs) (q : Kept wr w') : BSt w w' v Vs := by
  obtain ⟨us, G, h1, h2, h3, h4⟩ := h.ex
  exact ⟨us, G, h1.below q, h2.kept q, h3, h4⟩

/-- One view more. -/
theorem BSt.add {w wr : World} {v : Value} {Vs : List View} (h : BSt w wr v Vs) (u : Value) (V : View) (hu : RV wr (fun k => k < w.heap.size + 2 ∨ v.ownBlock = some k) u V) (hsz : w.heap.size + 2 ≤ wr.heap.size) (hn : Vs.length ≤ 1048576) :
    ∃ a' n' c' w', (Builtin.append_ #[40, 40] 40 #[v, .slice (some ⟨wr.heap.size, 0, none⟩) 1 1]).run Tryz.prog (wr.alloc (.cells (cellsOf u).toArray 42)) = .ok (.slice a' n' c') w' ∧ BSt w w' (.slice a' n' c') (Vs ++ [V]) ∧ Below (w.heap.size + 2) wr w' := by
  obtain ⟨us, G, h1, h2, h3, h4⟩ := h.ex
  have hl := h2.1
  obtain ⟨c4, c1, cu⟩ := hu.cells4
  have hKA : Kept wr (wr.alloc (.cells (cellsOf u).toArray 42)) := Kept.alloc _ _
  obtain ⟨a', c', w', hr, r1, r2, r3, r4⟩ := appV (wr.alloc (.cells (cellsOf u).toArray 42)) (w.heap.size + 2) v us (h1.below hKA) (some ⟨wr.heap.size, 0, none⟩) 1 1 [u] rfl (by simp [c4]) (by simpa using c1) (fun e => by cases e)
    (fun ad e j x hj => by
      cases e
      rw [Addr.add_lit, World.cell?_alloc_mark]
      simp at hj
      simp [hj]) (by omega) (by simp; omega)
  refine ⟨a', _, c', w', hr, ?_, (((Below.refl _ wr).alloc hsz _).trans r2)⟩
  have hG : ∀ k, k < (wr.alloc (.cells (cellsOf u).toArray 42)).heap.size → (k < w.heap.size + 2 ∨ v.ownBlock = some k ∨ k = wr.heap.size + 1) → (k < w.heap.size + 2 ∨ v.ownBlock = some k) := fun k hk h => by
    simp at hk
    rcases h with h | h | h
    · exact .inl h
    · exact .inr h
    · omega
  have hO : Outer (fun k => k < w.heap.size + 2 ∨ v.ownBlock = some k ∨ k = wr.heap.size + 1) (wr.alloc (.cells (cellsOf u).toArray 42)) w' := fun b hb hg => r3 b hb (fun e => hg (.inr (.inl e.symm)))
  have h2' : AllV wr (fun k => k < w.heap.size + 2 ∨ v.ownBlock = some k) us Vs := h2.mono (fun k _ hk => by
    rcases hk with hk | hk
    · exact h3 k hk
    · exact h4 k hk)
  refine ⟨us ++ [u], (fun k => k < w.heap.size + 2 ∨ v.ownBlock = some k ∨ k = wr.heap.size + 1), by simpa using r1, ?_, fun k hk => .inl hk, fun g hg => ?_⟩
  · exact ((h2'.kept hKA).grow hG hO).append ((AllV.one (hu.kept hKA)).grow hG hO)
  · rcases r4 with e | e
    · exact .inr (.inl (by rw [← e]; exact hg))
    · rw [e] at hg
      simp at hg
      exact .inr (.inr hg.symm)

set_option maxHeartbeats 6400000 in
theorem between39_in (N : Int) (ab al ac : Option Addr) (nb cb nl cl nc cc : Nat) (N' : Int) (ab' al' ac' : Option Addr) (nb' cb' nl' cl' nc' cc' : Nat) (F X : View) (w : World) (a : Option Addr) (n cp : Nat) (xss : List (List Str))
    (hV : IsV w (.agg #[.int .u64 N, .slice ab nb cb, .slice al nl cl, .slice ac nc cc]) F) (hO : IsV w (.agg #[.int .u64 N', .slice ab' nb' cb', .slice al' nl' cl', .slice ac' nc' cc']) X) (hM : Mid F) (hMO : Mid X)
    (hL : IsLL w a n xss) (hn : n ≤ 1048576) (hS : ∀ i, i < n → (xss.getD i []).length ≤ 4194304 ∧ ∀ j, j < (xss.getD i []).length → ((xss.getD i []).getD j []).length ≤ 1048577) (hE : Errs w) :
    Calls Tryz.prog 39 #[.agg #[.int .u64 N, .slice ab nb cb, .slice al nl cl, .slice ac nc cc], .agg #[.int .u64 N', .slice ab' nb' cb', .slice al' nl' cl', .slice ac' nc' cc'], .slice a n cp] w fun e w' => RetVs w w' e (betweenP F X xss) ∧ Kept w w' := by
  have HV := hid_of hV
  have HX := hid_of hO
  have HM := hid_of hM
  have HMO := hid_of hMO
  have HL := hid_of hL
  have HS := hid_of hS
  have HE := hid_of hE
  have EN := hid_of hL.len
  clear hV hO hM hMO hL hS hE
  go_enter Tryz.func39, Tryz.ntmps39
  go_wp2
  obtain ⟨W, hW⟩ : ∃ W, W = ((w.alloc (.cells #[.int .u64 N, .slice ab nb cb, .slice al nl cl, .slice ac nc cc] 42)).alloc (.cells #[.int .u64 N', .slice ab' nb' cb', .slice al' nl' cl', .slice ac' nc' cc'] 42)) := ⟨_, rfl⟩
  have KW : Hid (Kept w W) := by rw [hW]; exact (Kept.alloc _ _).more _
  have TW : Hid (∀ w', Kept W w' → Two4 w.heap.size (.int .u64 N) (.slice ab nb cb) (.slice al nl cl) (.slice ac nc cc) (.int .u64 N') (.slice ab' nb' cb') (.slice al' nl' cl') (.slice ac' nc' cc') w') := fun w' q => two4 w w' _ _ _ _ _ _ _ _ 42 42 (by rw [hW] at q; exact q)
  have SW : Hid (W.heap.size = w.heap.size + 2) := by rw [hW]; exact hid_of (by simp)
  rw [← hW]
  clear hW
  go_loopw [7, 13] (fun v i wr => ∃ (k : Nat), k ≤ n ∧ i = .int .i64 k ∧ Hid (BSt w wr v (betweenP F X (xss.take k))) ∧ Hid (Kept W wr)) (fun _ i _ => n - (intOf i).toNat)
  case atStart => exact ⟨0, by omega, rfl, BSt.mk ⟨[], (fun k => k < w.heap.size + 2), ownV_nil _ _, AllV.nil _ _, fun k hk => hk, fun g e => by cases e⟩, Kept.refl _⟩
  case round =>
    obtain ⟨k, hk, rfl, ST, KR⟩ := hrel
    have hsz : w.heap.size + 2 ≤ wr.heap.size := by have := KR.out.size; rw [SW.out] at this; exact this
    by_cases hlt : k < n
    · obtain ⟨b, off, rfl, hc⟩ := (HL.out.kept (KW.out.trans KR.out)).row (by omega)
      obtain ⟨ai, ni, ci, cx, Li⟩ := hc k hlt
      have hl : (k : Int) < (n : Int) := by omega
      have hSk := HS.out k hlt
      clear hc
      obtain ⟨ls, hls⟩ : ∃ ls, ls = xss.getD k [] := ⟨_, rfl⟩
      rw [← hls] at Li hSk
      have HLs := hid_of hls
      have hni : ls.length = ni := Li.len
      have HLi := hid_of Li
      have HSk := hid_of hSk
      have HNI := hid_of hni
      clear hls Li hni hSk
      go_wp2_with fail
      refine (newView36 ai ni ci ls wr (by have := HSk.out.1; rw [HNI.out] at this; omega) HLi.out (fun i hi => HSk.out.2 i (by rw [HNI.out]; exact hi)) (HE.out.kept (KW.out.trans KR.out))).mono ?_
      rintro e w1 ⟨⟨v1, rfl, R1⟩, k1⟩
      obtain ⟨xb, mb, db, xl, ml, dl, xc, mc, dc, rfl, -, -, -⟩ := R1.ex
      have HR1 := hid_of R1
      have Q1 := hid_of (KR.out.trans k1)
      have ST1 := hid_of (ST.out.kept k1)
      have hsz1 := k1.size
      clear R1 k1
      obtain ⟨Nv, hNv⟩ : ∃ Nv, Nv = (newViewP ls).count := ⟨_, rfl⟩
      rw [← hNv] at HR1 ⊢
      clear hNv
      have QA := hid_of (Q1.out.trans (Kept.alloc w1 (.cells #[.int .u64 Nv, .slice xb mb db, .slice xl ml dl, .slice xc mc dc] 42)))
      obtain ⟨t0, t1, t2, t3⟩ := (TW.out _ QA.out).a
      have CN : ∃ nw, nw = newerP (newViewP ls) F := ⟨_, rfl⟩
      obtain ⟨nw, hnw⟩ := CN
      obtain ⟨eq, heq⟩ : ∃ eq, eq = equalP (newViewP ls) X := ⟨_, rfl⟩
      have HNw := hid_of (newer51 _ _ _ _ _ (HR1.out.isV.kept (Kept.alloc w1 (.cells #[.int .u64 Nv, .slice xb mb db, .slice xl ml dl, .slice xc mc dc] 42))) (HV.out.kept (KW.out.trans QA.out)) (length_foldl_mid ls HSk.out.1) HM.out)
      rw [← hnw] at HNw
      have HEQ : Hid (∀ w', Kept (w1.alloc (.cells #[.int .u64 Nv, .slice xb mb db, .slice xl ml dl, .slice xc mc dc] 42)) w' → Calls Tryz.prog 38 #[.agg #[.int .u64 Nv, .slice xb mb db, .slice xl ml dl, .slice xc mc dc], .agg #[.int .u64 N', .slice ab' nb' cb', .slice al' nl' cl', .slice ac' nc' cc']] w' fun e w2 => e = .returned (.bool eq) ∧ Kept w' w2) := fun w' q => by
        rw [heq]
        exact equal38 _ _ _ _ _ ((HR1.out.isV.kept (Kept.alloc _ _)).kept q) (HX.out.kept (KW.out.trans (QA.out.trans q))) (length_foldl_mid ls HSk.out.1) HMO.out
      have HOK : Hid (okB F X (newViewP ls) = (nw && !eq)) := hid_of (by rw [hnw, heq]; rfl)
      clear hnw heq
      go_wp2_with fail
      refine HNw.out.mono ?_
      rintro e w3 ⟨rfl, k3⟩
      have Q3 := hid_of (QA.out.trans k3)
      have ST3 := hid_of ((ST1.out.kept (Kept.alloc _ _)).kept k3)
      have BX := hid_of (k3.box4 (heap_alloc_new w1 _))
      have K3 := hid_of k3
      clear t0 t1 t2 t3 k3
      cases nw
      · go_wp2
        go_roundw
        case rel =>
          have hO : Hid (BSt w w3 _ (betweenP F X (xss.take (k + 1)))) := hid_of (by
            rw [← between_no F X xss k (by rw [EN.out]; exact hlt) (by rw [← HLs.out, HOK.out]; rfl)]
            exact ST3.out)
          first | exact ⟨k + 1, by omega, by go_num, hO, Q3⟩ | exact ⟨k + 1, by omega, by go_num, hO⟩
        case measure => simp [intOf]; omega
      · obtain ⟨b0, b1, b2, b3⟩ := BX.out
        obtain ⟨g0, g1, g2, g3⟩ := (TW.out _ Q3.out).b
        go_wp2_with fail
        refine (HEQ.out _ K3.out).mono ?_
        rintro e w4 ⟨rfl, k4⟩
        have Q4 := hid_of (Q3.out.trans k4)
        have ST4 := hid_of (ST3.out.kept k4)
        have R4 := hid_of (HR1.out.kept ((Kept.alloc _ _).trans (K3.out.trans k4)))
        have c0 := k4.cell b0
        have c1 := k4.cell b1
        have c2 := k4.cell b2
        have c3 := k4.cell b3
        clear g0 g1 g2 g3 b0 b1 b2 b3 k4
        cases eq
        · obtain ⟨an, nn, cn, w5, hr, S5, B5⟩ := ST4.out.add _ (newViewP ls) (R4.out.mono (fun k hk hg => by
            rcases hg with hg | hg
            · show k < wr.heap.size
              omega
            · obtain ⟨us, G, h1, -, -, -⟩ := ST.out.ex
              exact (h1.lt k hg).2)) (by have := Q4.out.size; rw [SW.out] at this; exact this) (by
              have := between_le F X (xss.take k)
              simp at this
              omega)
          have HR5 := hid_of hr
          have HS5 := hid_of S5
          have HB5 := hid_of B5
          clear hr S5 B5
          go_wp2_with (at_builtin; refine Lib.wpList_append_run _ rfl _ _ _ _ rfl _ _ rfl rfl _ _ HR5.out ?_)
          go_roundw
          case rel =>
            have hO : Hid (BSt w w5 (.slice an nn cn) (betweenP F X (xss.take (k + 1)))) := hid_of (by
              rw [← between_yes F X xss k (by rw [EN.out]; exact hlt) (by rw [← HLs.out, HOK.out]; rfl), ← HLs.out]
              exact HS5.out)
            have Q5 : Hid (Kept W w5) := hid_of (Q4.out.own HB5.out (by rw [SW.out]; exact Nat.le_refl _))
            first | exact ⟨k + 1, by omega, by go_num, hO, Q5⟩ | exact ⟨k + 1, by omega, by go_num, hO⟩
          case measure => simp [intOf]; omega
        · go_wp2
          go_roundw
          case rel =>
            have hO : Hid (BSt w w4 _ (betweenP F X (xss.take (k + 1)))) := hid_of (by
              rw [← between_no F X xss k (by rw [EN.out]; exact hlt) (by rw [← HLs.out, HOK.out]; rfl)]
              exact ST4.out)
            first | exact ⟨k + 1, by omega, by go_num, hO, Q4⟩ | exact ⟨k + 1, by omega, by go_num, hO⟩
          case measure => simp [intOf]; omega
    · have hl : ¬ (k : Int) < (n : Int) := by omega
      go_wp2
      go_ret
      refine ⟨?_, KW.out.trans KR.out⟩
      obtain ⟨us, G, h1, h2, h3, h4⟩ := ST.out.ex
      have e : xss.take k = xss := List.take_of_length_le (by rw [EN.out]; omega)
      rw [e] at h2
      obtain ⟨a9, c9, e9⟩ := h1.shape
      rw [e9] at h1
      refine ⟨a9, c9, us, by rw [← e9]; rfl, h1.mono (by omega), h2.mono (fun k _ hk => h3 k (by omega))⟩

theorem between39 (f x : Value) (F X : View) (w : World) (a : Option Addr) (n cp : Nat) (xss : List (List Str)) (hV : IsV w f F) (hO : IsV w x X) (hM : Mid F) (hMO : Mid X)
    (hL : IsLL w a n xss) (hn : n ≤ 1048576) (hS : ∀ i, i < n → (xss.getD i []).length ≤ 4194304 ∧ ∀ j, j < (xss.getD i []).length → ((xss.getD i []).getD j []).length ≤ 1048577) (hE : Errs w) :
    Calls Tryz.prog 39 #[f, x, .slice a n cp] w fun e w' => RetVs w w' e (betweenP F X xss) ∧ Kept w w' := by
  obtain ⟨ab, nb, cb, al, nl, cl, ac, nc, cc, rfl, -, -, -⟩ := hV.ex
  obtain ⟨ab', nb', cb', al', nl', cl', ac', nc', cc', rfl, -, -, -⟩ := hO.ex
  exact between39_in _ ab al ac nb cb nl cl nc cc _ ab' al' ac' nb' cb' nl' cl' nc' cc' F X w a n cp xss hV hO hM hMO hL hn hS hE

end Go.Proofs.Qxb6616331aGreatDoor
