/-
  THE WALKS of seat b6616331aZD, Y2: the map of marks.
-/
import Derived.Test.Qxb6616331aGreatDoorZh
import Derived.Maps.OwnSet
import Derived.Maps.StringElems
import Derived.Maps.Views
import Derived.StringKeys
namespace Go.Proofs.Qxb6616331aGreatDoor
open Go.RowKit Go.Maps
set_option linter.unusedVariables false
set_option linter.unusedSimpArgs false
set_option linter.unnecessarySimpa false

theorem Tryz.underlying39' : Tryz.prog.underlying 39 = some (.map 9 9) := by kernel_rfl
theorem Tryz.zero9 (w : World) : (zeroValue 9).run Tryz.prog w = .ok (sv []) w := by kernel_rfl
theorem law9 : Keyed Tryz.prog 9 := string_keyed Tryz.underlying9

/-- What the map holds when these pairs have been laid, one by one. -/
def mapD (ps : List (Str × Str)) : DataW Unit := ps.foldl (fun D p => D.put (.string p.1) (.lit (.string p.2))) (.map [])
theorem mapD_snoc (ps : List (Str × Str)) (p : Str × Str) : mapD (ps ++ [p]) = (mapD ps).put (.string p.1) (.lit (.string p.2)) := by simp [mapD, List.foldl_append]

def hasM (ps : List (Str × Str)) (k : Str) : Bool := ps.any (fun p => p.1 == k)
def getM (ps : List (Str × Str)) (k : Str) : Str := ps.foldl (fun r p => if p.1 = k then p.2 else r) []
theorem hasM_snoc (ps : List (Str × Str)) (p : Str × Str) (k : Str) : hasM (ps ++ [p]) k = (hasM ps k || p.1 == k) := by simp [hasM]
theorem getM_snoc (ps : List (Str × Str)) (p : Str × Str) (k : Str) : getM (ps ++ [p]) k = if p.1 = k then p.2 else getM ps k := by simp [getM, List.foldl_append]

theorem snocInd {α : Type} {P : List α → Prop} (h0 : P []) (h1 : ∀ l x, P l → P (l ++ [x])) : ∀ l, P l := by
  intro l
  have key : ∀ n (l : List α), l.length = n → P l := by
    intro n
    induction n with
    | zero => intro l hl; rw [List.eq_nil_of_length_eq_zero hl]; exact h0
    | succ n ih =>
      intro l hl
      have hne : l ≠ [] := fun e => by rw [e] at hl; simp at hl
      have e := List.dropLast_concat_getLast hne
      rw [← e]
      exact h1 _ _ (ih _ (by simp [hl]))
  exact key _ l rfl

theorem isKeyS (k : Str) : WideAt.IsKeyLit (.string k) := by simp [WideAt.IsKeyLit]

theorem mapD_tidy : ∀ ps, Tidy (mapD ps) := snocInd tidy_empty (fun l x h => by rw [mapD_snoc]; exact h.put (isKeyS _) _)
theorem mapD_has (k : Str) : ∀ ps, Maps.has (mapD ps) (.string k) = hasM ps k := snocInd rfl (fun l x h => by
  rw [mapD_snoc, hasM_snoc]
  by_cases e : x.1 = k
  · subst e
    rw [has_put_same (mapD_tidy l).isMap (isKeyS _)]
    simp
  · rw [has_put_other (fun h => e (by cases h; rfl)), h]
    simp [e])
theorem mapD_at (k : Str) : ∀ ps, (mapD ps).atKey (.string k) (.lit (.string [])) = .lit (.string (getM ps k)) := snocInd rfl (fun l x h => by
  rw [mapD_snoc, getM_snoc]
  by_cases e : x.1 = k
  · subst e
    rw [atKey_put_same (mapD_tidy l).isMap (isKeyS _)]
    simp
  · rw [atKey_put_other (fun h => e (by cases h; rfl)), h]
    simp [e])
theorem hasM_mem (ps : List (Str × Str)) (k : Str) : hasM ps k = true ↔ k ∈ ps.map (·.1) := by
  simp only [hasM, List.any_eq_true, List.mem_map, beq_iff_eq]
theorem ins_mem_len (e : Str) : ∀ xs : List Str, Up xs → (ins e xs).length = if e ∈ xs then xs.length else xs.length + 1
  | [], _ => by simp [ins]
  | x :: xs, h => by
    obtain ⟨h1, h2⟩ := List.pairwise_cons.1 h
    unfold ins
    split
    · rename_i hlt
      have hne : e ≠ x := fun h => by subst h; exact List.lt_irrefl _ hlt
      rw [List.length_cons, ins_mem_len e xs h2]
      simp only [List.mem_cons, hne, false_or, List.length_cons]
      split <;> rfl
    · rename_i hlt
      split
      · rename_i he
        subst he
        simp
      · rename_i he
        have hex : e < x := by
          by_cases h' : e < x
          · exact h'
          · exact absurd (lt_tri hlt h') he
        have hne : ¬ e ∈ x :: xs := by
          intro hm
          rcases List.mem_cons.1 hm with rfl | hm
          · exact he rfl
          · exact List.lt_irrefl e (List.lt_trans hex (h1 e hm))
        rw [if_neg hne]
        rfl
theorem mapD_size : ∀ ps, Maps.size (mapD ps) = (setP (ps.map (·.1))).length := snocInd rfl (fun l x h => by
  rw [mapD_snoc, size_put (mapD_tidy l), mapD_has, h, List.map_append, List.map_cons, List.map_nil, setP_snoc, ins_mem_len _ _ (setP_up _)]
  by_cases hm : x.1 ∈ l.map (·.1)
  · rw [if_pos ((mem_setP _ _).2 hm), (hasM_mem l x.1).2 hm]
    simp
  · have hf : hasM l x.1 = false := by
      cases hh : hasM l x.1
      · rfl
      · exact absurd ((hasM_mem l x.1).1 hh) hm
    rw [if_neg (fun h => hm ((mem_setP _ _).1 h)), hf]
    simp)

/-- Block b is a map that holds these pairs. -/
def IsMp (w : World) (b : Nat) (ps : List (Str × Str)) : Prop := w.ownsMap Tryz.prog 9 (plainElem (H := Unit) Tryz.prog 9) b ps.length (mapD ps)
theorem isMp_made (w : World) : IsMp (w.alloc (.map #[] 0)) w.heap.size [] := World.ownsMap_made w _ _ _
theorem IsMp.block {w w' : World} {b : Nat} {ps : List (Str × Str)} (h : IsMp w b ps) (e : w'.heap[b]? = w.heap[b]?) : IsMp w' b ps := by
  obtain ⟨es, clock, hb, F, hs, hD⟩ := h
  exact ⟨es, clock, e.trans hb, F, hs, hD⟩
theorem IsMp.kept {w w' : World} {b : Nat} {ps : List (Str × Str)} (h : IsMp w b ps) (q : Kept w w') : IsMp w' b ps := h.block (q.block b h.lt)
theorem key9 (k : Str) (hk : k.length ≤ 1073741824) : keyOf Tryz.prog 9 (sv k) = some (.string k) := Go.WideMaps.keyOf_string_mk Tryz.underlying9 (by simp [ByteArray.size, maxLen]; omega)
theorem elem9 (k : Str) (hk : k.length ≤ 1073741824) : plainElem (H := Unit) Tryz.prog 9 (sv k) = some (.lit (.string k), []) := plainElem_string Tryz.underlying9 (by simp [ByteArray.size, maxLen]; omega)
theorem IsMp.store {w : World} {b : Nat} {ps : List (Str × Str)} (h : IsMp w b ps) (hn : ps.length ≤ 1073741824) (k m : Str) (hk : k.length ≤ 1073741824) (hm : m.length ≤ 1073741824) :
    ∃ w', (Instr.mapUpdate 39 (.map (some b)) (sv k) (sv m)).run Tryz.prog w = .ok () w' ∧ IsMp w' b (ps ++ [(k, m)]) ∧ w.mapTurned w' b := by
  obtain ⟨w', h1, h2, h3⟩ := World.ownsMap.store h law9 Tryz.underlying39' (by unfold maxLen; omega) (key9 k hk) (elem9 m hm)
  exact ⟨w', h1, by unfold IsMp; rw [mapD_snoc, List.length_append]; exact h2, h3⟩
theorem IsMp.look {w : World} {b : Nat} {ps : List (Str × Str)} (h : IsMp w b ps) (k : Str) (hk : k.length ≤ 1073741824) :
    (Instr.lookup 39 (.map (some b)) (sv k) true).run Tryz.prog w = .ok (.tuple #[sv (getM ps k), .bool (hasM ps k)]) w := by
  obtain ⟨v, q, h1, h2⟩ := World.ownsMap.look_ok h law9 Tryz.underlying39' (Tryz.zero9 w) (elem9 [] (by simp)) (key9 k hk)
  rw [mapD_at] at h2
  rw [mapD_has] at h1
  obtain ⟨s, rfl, hz, -⟩ := plainElem_string_inv Tryz.underlying9 h2
  have hs : s.data.toList = getM ps k := by
    simp at hz
    exact hz.1.symm
  rw [h1]
  have : s = ⟨(getM ps k).toArray⟩ := by
    apply ByteArray.ext
    rw [← hs]
  rw [this]
theorem IsMp.len {w : World} {b : Nat} {ps : List (Str × Str)} (h : IsMp w b ps) (ty : TypeId) : (Builtin.len_ #[39] ty #[.map (some b)]).run Tryz.prog w = .ok (.int .i64 ((setP (ps.map (·.1))).length : Nat)) w := by
  rw [← mapD_size]
  exact World.ownsMap.len h Tryz.underlying39' ty

end Go.Proofs.Qxb6616331aGreatDoor
