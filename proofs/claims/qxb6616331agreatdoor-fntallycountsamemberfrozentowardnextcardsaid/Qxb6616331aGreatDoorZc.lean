/-
  THE WALKS of seat b6616331aZD, 12: answers in new blocks.
-/
import Derived.Test.Qxb6616331aGreatDoorZb
namespace Go.Proofs.Qxb6616331aGreatDoor
open Go.RowKit
set_option linter.unusedVariables false
set_option linter.unusedSimpArgs false

/-- As IsAns, every block that it leads to at or beyond h. -/
structure NewAns (w : World) (h b o : Nat) (A : Ans) : Prop where
  c0 : w.cell? ⟨b, o, none⟩ = some (.int .i64 A.sender)
  c1 : ∃ a n c, w.cell? ⟨b, o + 1, none⟩ = some (.slice a n c) ∧ IsL w a n A.view ∧ Fresh h a
  c2 : ∃ a n c, w.cell? ⟨b, o + 2, none⟩ = some (.slice a n c) ∧ IsL w a n A.next ∧ Fresh h a
  c3 : w.cell? ⟨b, o + 3, none⟩ = some (.bool A.frozen)
  c4 : ∃ a n c, w.cell? ⟨b, o + 4, none⟩ = some (.slice a n c) ∧ NewLL w h a n A.before
  c5 : w.cell? ⟨b, o + 5, none⟩ = some (.bool A.known)
  c6 : w.cell? ⟨b, o + 6, none⟩ = some (sv A.mark)
  c7 : ∃ a n c, w.cell? ⟨b, o + 7, none⟩ = some (.slice a n c) ∧ NewLL w h a n A.unsure
  c8 : w.cell? ⟨b, o + 8, none⟩ = some (.bool A.prepare)
  c9 : w.cell? ⟨b, o + 9, none⟩ = some (.bool A.announce)
  c10 : w.cell? ⟨b, o + 10, none⟩ = some (.bool A.commit)
theorem NewAns.isAns {w : World} {h b o : Nat} {A : Ans} (H : NewAns w h b o A) : IsAns w b o A := by
  obtain ⟨a1, n1, k1, h1, g1, _⟩ := H.c1
  obtain ⟨a2, n2, k2, h2, g2, _⟩ := H.c2
  obtain ⟨a4, n4, k4, h4, g4⟩ := H.c4
  obtain ⟨a7, n7, k7, h7, g7⟩ := H.c7
  exact ⟨H.c0, ⟨a1, n1, k1, h1, g1⟩, ⟨a2, n2, k2, h2, g2⟩, H.c3, ⟨a4, n4, k4, h4, g4.isLL⟩, H.c5, H.c6, ⟨a7, n7, k7, h7, g7.isLL⟩, H.c8, H.c9, H.c10⟩
theorem NewAns.kept {w w' : World} {h b o : Nat} {A : Ans} (H : NewAns w h b o A) (q : Kept w w') : NewAns w' h b o A := by
  obtain ⟨a1, n1, k1, h1, g1, f1⟩ := H.c1
  obtain ⟨a2, n2, k2, h2, g2, f2⟩ := H.c2
  obtain ⟨a4, n4, k4, h4, g4⟩ := H.c4
  obtain ⟨a7, n7, k7, h7, g7⟩ := H.c7
  exact ⟨q.cell H.c0, ⟨a1, n1, k1, q.cell h1, g1.kept q, f1⟩, ⟨a2, n2, k2, q.cell h2, g2.kept q, f2⟩, q.cell H.c3, ⟨a4, n4, k4, q.cell h4, g4.kept q⟩, q.cell H.c5, q.cell H.c6, ⟨a7, n7, k7, q.cell h7, g7.kept q⟩, q.cell H.c8, q.cell H.c9, q.cell H.c10⟩
/-- A store into block b, before or behind the answer's own cells. -/
theorem NewAns.set {w : World} {h b o : Nat} {A : Ans} (H : NewAns w h b o A) (hb : b < h) (p : Nat) (v : Value) (hp : p < o ∨ o + 11 ≤ p) : NewAns (w.setCell ⟨b, p, none⟩ v) h b o A := by
  have oth : ∀ (j : Nat) (u : Value), j ≠ p → w.cell? ⟨b, j, none⟩ = some u → (w.setCell ⟨b, p, none⟩ v).cell? ⟨b, j, none⟩ = some u := fun j u hne hc => by
    rw [World.cell?_setCell_other w _ _ _ (fun e => hne (by cases e; rfl))]; exact hc
  obtain ⟨a1, n1, k1, h1, g1, f1⟩ := H.c1
  obtain ⟨a2, n2, k2, h2, g2, f2⟩ := H.c2
  obtain ⟨a4, n4, k4, h4, g4⟩ := H.c4
  obtain ⟨a7, n7, k7, h7, g7⟩ := H.c7
  exact ⟨oth _ _ (by omega) H.c0, ⟨a1, n1, k1, oth _ _ (by omega) h1, g1.set _ _ _ (f1.mono hb), f1⟩, ⟨a2, n2, k2, oth _ _ (by omega) h2, g2.set _ _ _ (f2.mono hb), f2⟩, oth _ _ (by omega) H.c3, ⟨a4, n4, k4, oth _ _ (by omega) h4, g4.set _ _ _ hb⟩, oth _ _ (by omega) H.c5, oth _ _ (by omega) H.c6, ⟨a7, n7, k7, oth _ _ (by omega) h7, g7.set _ _ _ hb⟩, oth _ _ (by omega) H.c8, oth _ _ (by omega) H.c9, oth _ _ (by omega) H.c10⟩

end Go.Proofs.Qxb6616331aGreatDoor
