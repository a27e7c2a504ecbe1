/-
  THE WALKS of seat b6616331aZD, 13: zzCopyAnswers, zzAnswers.
-/
import Derived.Test.Qxb6616331aGreatDoorZc
namespace Go.Proofs.Qxb6616331aGreatDoor
open Go.RowKit
set_option linter.unusedVariables false
set_option linter.unusedSimpArgs false

/-- An answer's eleven cells stored over ⟨b, o⟩ .. -/
def setAns (w : World) (b o : Nat) (A : Ans) (x1 x2 x4 x7 : Option Addr) (n1 d1 n2 d2 n4 d4 n7 d7 : Nat) : World := (((((((((((w.setCell ⟨b, o, none⟩ (.int .i64 A.sender)).setCell ⟨b, o + 1, none⟩ (.slice x1 n1 d1)).setCell ⟨b, o + 2, none⟩ (.slice x2 n2 d2)).setCell ⟨b, o + 3, none⟩ (.bool A.frozen)).setCell ⟨b, o + 4, none⟩ (.slice x4 n4 d4)).setCell ⟨b, o + 5, none⟩ (.bool A.known)).setCell ⟨b, o + 6, none⟩ (sv A.mark)).setCell ⟨b, o + 7, none⟩ (.slice x7 n7 d7)).setCell ⟨b, o + 8, none⟩ (.bool A.prepare)).setCell ⟨b, o + 9, none⟩ (.bool A.announce)).setCell ⟨b, o + 10, none⟩ (.bool A.commit))

theorem setAns_new {w : World} {h b o : Nat} {A : Ans} {x1 x2 x4 x7 : Option Addr} {n1 d1 n2 d2 n4 d4 n7 d7 : Nat} (hb : b < h) (hc : ∀ j, j < 11 → (w.cell? ⟨b, o + j, none⟩).isSome = true)
    (g1 : IsL w x1 n1 A.view) (f1 : Fresh h x1) (g2 : IsL w x2 n2 A.next) (f2 : Fresh h x2) (g4 : NewLL w h x4 n4 A.before) (g7 : NewLL w h x7 n7 A.unsure) :
    NewAns (setAns w b o A x1 x2 x4 x7 n1 d1 n2 d2 n4 d4 n7 d7) h b o A := by
  have oth : ∀ (w : World) (i j : Nat) (v u : Value), i ≠ j → w.cell? ⟨b, j, none⟩ = some u → (w.setCell ⟨b, i, none⟩ v).cell? ⟨b, j, none⟩ = some u := fun w i j v u hne hc => by
    rw [World.cell?_setCell_other w _ _ _ (fun e => hne (by cases e; rfl))]; exact hc
  obtain ⟨u0, e0⟩ := Option.isSome_iff_exists.1 (hc 0 (by omega))
  obtain ⟨u1, e1⟩ := Option.isSome_iff_exists.1 (hc 1 (by omega))
  obtain ⟨u2, e2⟩ := Option.isSome_iff_exists.1 (hc 2 (by omega))
  obtain ⟨u3, e3⟩ := Option.isSome_iff_exists.1 (hc 3 (by omega))
  obtain ⟨u4, e4⟩ := Option.isSome_iff_exists.1 (hc 4 (by omega))
  obtain ⟨u5, e5⟩ := Option.isSome_iff_exists.1 (hc 5 (by omega))
  obtain ⟨u6, e6⟩ := Option.isSome_iff_exists.1 (hc 6 (by omega))
  obtain ⟨u7, e7⟩ := Option.isSome_iff_exists.1 (hc 7 (by omega))
  obtain ⟨u8, e8⟩ := Option.isSome_iff_exists.1 (hc 8 (by omega))
  obtain ⟨u9, e9⟩ := Option.isSome_iff_exists.1 (hc 9 (by omega))
  obtain ⟨u10, e10⟩ := Option.isSome_iff_exists.1 (hc 10 (by omega))
  rw [Nat.add_zero] at e0
  unfold setAns
  refine ⟨(oth _ _ _ _ _ (by omega) (oth _ _ _ _ _ (by omega) (oth _ _ _ _ _ (by omega) (oth _ _ _ _ _ (by omega) (oth _ _ _ _ _ (by omega) (oth _ _ _ _ _ (by omega) (oth _ _ _ _ _ (by omega) (oth _ _ _ _ _ (by omega) (oth _ _ _ _ _ (by omega) (oth _ _ _ _ _ (by omega) (World.cell?_setCell_same _ _ _ e0))))))))))), ⟨x1, n1, d1, (oth _ _ _ _ _ (by omega) (oth _ _ _ _ _ (by omega) (oth _ _ _ _ _ (by omega) (oth _ _ _ _ _ (by omega) (oth _ _ _ _ _ (by omega) (oth _ _ _ _ _ (by omega) (oth _ _ _ _ _ (by omega) (oth _ _ _ _ _ (by omega) (oth _ _ _ _ _ (by omega) (World.cell?_setCell_same _ _ _ (oth _ _ _ _ _ (by omega) e1))))))))))), (((((((((((g1.set _ _ _ (f1.mono hb)).set _ _ _ (f1.mono hb)).set _ _ _ (f1.mono hb)).set _ _ _ (f1.mono hb)).set _ _ _ (f1.mono hb)).set _ _ _ (f1.mono hb)).set _ _ _ (f1.mono hb)).set _ _ _ (f1.mono hb)).set _ _ _ (f1.mono hb)).set _ _ _ (f1.mono hb)).set _ _ _ (f1.mono hb)), f1⟩, ⟨x2, n2, d2, (oth _ _ _ _ _ (by omega) (oth _ _ _ _ _ (by omega) (oth _ _ _ _ _ (by omega) (oth _ _ _ _ _ (by omega) (oth _ _ _ _ _ (by omega) (oth _ _ _ _ _ (by omega) (oth _ _ _ _ _ (by omega) (oth _ _ _ _ _ (by omega) (World.cell?_setCell_same _ _ _ (oth _ _ _ _ _ (by omega) (oth _ _ _ _ _ (by omega) e2))))))))))), (((((((((((g2.set _ _ _ (f2.mono hb)).set _ _ _ (f2.mono hb)).set _ _ _ (f2.mono hb)).set _ _ _ (f2.mono hb)).set _ _ _ (f2.mono hb)).set _ _ _ (f2.mono hb)).set _ _ _ (f2.mono hb)).set _ _ _ (f2.mono hb)).set _ _ _ (f2.mono hb)).set _ _ _ (f2.mono hb)).set _ _ _ (f2.mono hb)), f2⟩, (oth _ _ _ _ _ (by omega) (oth _ _ _ _ _ (by omega) (oth _ _ _ _ _ (by omega) (oth _ _ _ _ _ (by omega) (oth _ _ _ _ _ (by omega) (oth _ _ _ _ _ (by omega) (oth _ _ _ _ _ (by omega) (World.cell?_setCell_same _ _ _ (oth _ _ _ _ _ (by omega) (oth _ _ _ _ _ (by omega) (oth _ _ _ _ _ (by omega) e3))))))))))), ⟨x4, n4, d4, (oth _ _ _ _ _ (by omega) (oth _ _ _ _ _ (by omega) (oth _ _ _ _ _ (by omega) (oth _ _ _ _ _ (by omega) (oth _ _ _ _ _ (by omega) (oth _ _ _ _ _ (by omega) (World.cell?_setCell_same _ _ _ (oth _ _ _ _ _ (by omega) (oth _ _ _ _ _ (by omega) (oth _ _ _ _ _ (by omega) (oth _ _ _ _ _ (by omega) e4))))))))))), (((((((((((g4.set _ _ _ hb).set _ _ _ hb).set _ _ _ hb).set _ _ _ hb).set _ _ _ hb).set _ _ _ hb).set _ _ _ hb).set _ _ _ hb).set _ _ _ hb).set _ _ _ hb).set _ _ _ hb)⟩, (oth _ _ _ _ _ (by omega) (oth _ _ _ _ _ (by omega) (oth _ _ _ _ _ (by omega) (oth _ _ _ _ _ (by omega) (oth _ _ _ _ _ (by omega) (World.cell?_setCell_same _ _ _ (oth _ _ _ _ _ (by omega) (oth _ _ _ _ _ (by omega) (oth _ _ _ _ _ (by omega) (oth _ _ _ _ _ (by omega) (oth _ _ _ _ _ (by omega) e5))))))))))), (oth _ _ _ _ _ (by omega) (oth _ _ _ _ _ (by omega) (oth _ _ _ _ _ (by omega) (oth _ _ _ _ _ (by omega) (World.cell?_setCell_same _ _ _ (oth _ _ _ _ _ (by omega) (oth _ _ _ _ _ (by omega) (oth _ _ _ _ _ (by omega) (oth _ _ _ _ _ (by omega) (oth _ _ _ _ _ (by omega) (oth _ _ _ _ _ (by omega) e6))))))))))), ⟨x7, n7, d7, (oth _ _ _ _ _ (by omega) (oth _ _ _ _ _ (by omega) (oth _ _ _ _ _ (by omega) (World.cell?_setCell_same _ _ _ (oth _ _ _ _ _ (by omega) (oth _ _ _ _ _ (by omega) (oth _ _ _ _ _ (by omega) (oth _ _ _ _ _ (by omega) (oth _ _ _ _ _ (by omega) (oth _ _ _ _ _ (by omega) (oth _ _ _ _ _ (by omega) e7))))))))))), (((((((((((g7.set _ _ _ hb).set _ _ _ hb).set _ _ _ hb).set _ _ _ hb).set _ _ _ hb).set _ _ _ hb).set _ _ _ hb).set _ _ _ hb).set _ _ _ hb).set _ _ _ hb).set _ _ _ hb)⟩, (oth _ _ _ _ _ (by omega) (oth _ _ _ _ _ (by omega) (World.cell?_setCell_same _ _ _ (oth _ _ _ _ _ (by omega) (oth _ _ _ _ _ (by omega) (oth _ _ _ _ _ (by omega) (oth _ _ _ _ _ (by omega) (oth _ _ _ _ _ (by omega) (oth _ _ _ _ _ (by omega) (oth _ _ _ _ _ (by omega) (oth _ _ _ _ _ (by omega) e8))))))))))), (oth _ _ _ _ _ (by omega) (World.cell?_setCell_same _ _ _ (oth _ _ _ _ _ (by omega) (oth _ _ _ _ _ (by omega) (oth _ _ _ _ _ (by omega) (oth _ _ _ _ _ (by omega) (oth _ _ _ _ _ (by omega) (oth _ _ _ _ _ (by omega) (oth _ _ _ _ _ (by omega) (oth _ _ _ _ _ (by omega) (oth _ _ _ _ _ (by omega) e9))))))))))), (World.cell?_setCell_same _ _ _ (oth _ _ _ _ _ (by omega) (oth _ _ _ _ _ (by omega) (oth _ _ _ _ _ (by omega) (oth _ _ _ _ _ (by omega) (oth _ _ _ _ _ (by omega) (oth _ _ _ _ _ (by omega) (oth _ _ _ _ _ (by omega) (oth _ _ _ _ _ (by omega) (oth _ _ _ _ _ (by omega) (oth _ _ _ _ _ (by omega) e10)))))))))))⟩
theorem setAns_other {w : World} {h b o p : Nat} {A B : Ans} {x1 x2 x4 x7 : Option Addr} {n1 d1 n2 d2 n4 d4 n7 d7 : Nat} (hb : b < h) (H : NewAns w h b p B) (hp : o + 11 ≤ p ∨ p + 11 ≤ o) :
    NewAns (setAns w b o A x1 x2 x4 x7 n1 d1 n2 d2 n4 d4 n7 d7) h b p B := by
  unfold setAns
  exact (((((((((((H.set hb _ _ (by omega)).set hb _ _ (by omega)).set hb _ _ (by omega)).set hb _ _ (by omega)).set hb _ _ (by omega)).set hb _ _ (by omega)).set hb _ _ (by omega)).set hb _ _ (by omega)).set hb _ _ (by omega)).set hb _ _ (by omega)).set hb _ _ (by omega))

end Go.Proofs.Qxb6616331aGreatDoor
