/-
  A LAW FOR THE WALK: a region in the text's order whose operations only read may be walked as a quiet one (cheap steps).
-/
import Derived.WalkKit
import Derived.Deep.QuietTactic
import Derived.BigQuiet
namespace Go.Proofs.Qxb6616614a

theorem wpList_of_quiet {P : Program} {ops : Array Oper} {C : World → Prop} {Q : Act → Prop} {Q' : Exit → Act → World → Prop} (hQ : ∀ a w, C w → Q a → Q' .normal a w) :
    ∀ (l : List Oper) (a : Act) (w : World), C w → wpQuiet P ops C Q l a → wpList P ops Q' l a w
  | [], a, w, hw, h => hQ a w hw h
  | o :: rest, a, w, hw, h => by
    unfold wpQuiet at h
    unfold wpList
    split
    · rename_i hwant
      rw [if_pos hwant] at h
      exact .inl (Oper.wp_of_quiet hw (fun a' w' hw' h' => wpList_of_quiet hQ rest a' w' hw' h') h)
    · rename_i hwant
      rw [if_neg hwant] at h
      exact wpList_of_quiet hQ rest _ w hw h

theorem wp_region_quietS {P : Program} {id : Nat} {Q : Exit → Act → World → Prop} {a : Act} {w : World} {l : List Oper}
    (h : wpQuiet P l.toArray (fun w' => ∃ n, w' = w.drewN n) (fun a' => ∀ w', (∃ n, w' = w.drewN n) → Q .normal a' w') l a) : (Code.region id l.toArray false).wp P Q a w :=
  wp_region_lit (wpList_of_quiet (fun _ w' hw' h' => h' w' hw') l a w ⟨0, rfl⟩ h)

end Go.Proofs.Qxb6616614a
