import Derived.Test.Qxb6616311aDoorW5
namespace Go.Proofs.Qxb6616311aDoor
open Go.RowKit
set_option linter.unusedVariables false
set_option linter.unusedSimpArgs false

theorem Kept.owns {S : Nat → Prop} {w w' : World} (h : Kept S w w') {base : Nat} {v : Value} {n : Nat} {xs : List Value} (ho : w.ownsRow base 5 1 v n xs) (hs : ∀ g, base ≤ g → ¬ S g) : w'.ownsRow base 5 1 v n xs := by
  obtain ⟨h1, h2⟩ := ho
  refine ⟨h1, ?_⟩
  rcases h2 with h2 | ⟨g, cap, cur, hv, hg, hh, r⟩
  · exact .inl h2
  · exact .inr ⟨g, cap, cur, hv, hg, by rw [h.block g (lt_of_block hh) (hs g hg)]; exact hh, r⟩

theorem Kept.trans' {S T : Nat → Prop} {a b c d : World} (h : Kept S a b) (k : Kept S b c) (l : Kept T c d) (hT : ∀ i, i < a.heap.size → ¬ T i) : Kept S a d :=
  ⟨l.os.trans (k.os.trans h.os), l.tape.trans (k.tape.trans h.tape), l.output.trans (k.output.trans h.output), Nat.le_trans h.size (Nat.le_trans k.size l.size),
    fun i hi hs => (l.block i (by have := h.size; have := k.size; omega) (hT i hi)).trans ((h.trans k).block i hi hs)⟩

/-- What the loop gathers: the slice 'got' holds the first k bytes. -/
def Got (w : World) (base : Nat) (ga : Option Addr) (k gc : Nat) (xs : List Int) : Prop := w.ownsRow base 5 1 (.slice ga k gc) k ((xs.take k).map (Value.int .u8))

theorem Got.isB {w : World} {base k gc : Nat} {ga : Option Addr} {xs : List Int} (h : Got w base ga k gc xs) : IsB w ga k (xs.take k) := by
  obtain ⟨h1, h2⟩ := h
  refine ⟨by simpa using h1, fun h0 => ?_⟩
  rcases h2 with ⟨_, h2⟩ | ⟨g, cap, cur, hv, hg, hh, hn, hcap, hsz, htake⟩
  · omega
  · simp at hv
    obtain ⟨rfl, rfl⟩ := hv
    refine ⟨g, 0, rfl, fun i hi => ?_⟩
    have hlen : k ≤ xs.length := by simp at h1; omega
    have e1 : cur[i]? = some (.int .u8 ((xs.take k).getD i 0)) := by
      have e2 : (cur.toList.take (k * 1))[i]? = cur[i]? := by simp [hi]
      rw [← e2, htake]
      have : i < xs.length := by omega
      simp [hi, this]
    simp [World.cell?, hh, e1]

/-- The state at the head of a round. -/
structure St (w3 wr : World) (zb g1 N c j k : Nat) (last : Bool) (xs : List Int) (ga : Option Addr) (gc : Nat) : Prop where
  kN : k ≤ N
  jk : k < N → k = j * c
  jq : j ≤ N / c + 1
  z : ∃ az, IsZ wr zb az (N - k) (N - k) last ∧ (k < N → az = some ⟨g1, k, none⟩)
  b : ∃ bs : List Int, Row wr w3.heap.size bs ∧ bs.length = c
  got : Got wr (w3.heap.size + 1) ga k gc xs
  kept : Kept (fun i => i = zb ∨ i = w3.heap.size) w3 wr
  size : w3.heap.size + 1 ≤ wr.heap.size

theorem St.step {w3 wr w6 w7 : World} {zb g1 N c j k n : Nat} {last : Bool} {xs bs : List Int} {ga : Option Addr} {gc : Nat} {v' : Value} (h : St w3 wr zb g1 N c j k last xs ga gc) (hc : 0 < c) (hk : k < N) (hl : xs.length = N) (hn : n = min (N - k) c) (hbl : bs.length = c)
    (hzb : zb < w3.heap.size)
    (hr : ReadEnd zb g1 w3.heap.size k (N - k) n last (xs.drop k) bs wr w6) (ho : w7.ownsRow (w3.heap.size + 1) 5 1 v' (k + n) ((xs.take k).map (Value.int .u8) ++ ((xs.drop k).take n).map (Value.int .u8)))
    (hg : w6.grownBy w7 (Value.slice ga k gc).ownBlock) (hgb : ∀ b, (Value.slice ga k gc).ownBlock = some b → w3.heap.size + 1 ≤ b) :
    ∃ ga' gc', v' = .slice ga' (k + n) gc' ∧ St w3 w7 zb g1 N c (j + 1) (k + n) last xs ga' gc' := by
  obtain ⟨az, hz6, haz, hb6, hk6, hs6⟩ := hr
  have hsz := h.size
  have kg := Kept.grown hg
  have e : (xs.take k).map (Value.int .u8) ++ ((xs.drop k).take n).map (Value.int .u8) = (xs.take (k + n)).map (Value.int .u8) := by
    rw [← List.map_append, ← List.take_add]
  rw [e] at ho
  have hjk := h.jk hk
  have hdiv : j ≤ N / c := (Nat.le_div_iff_mul_le hc).2 (by omega)
  obtain ⟨ga', gc', rfl⟩ : ∃ ga' gc', v' = .slice ga' (k + n) gc' := by
    obtain ⟨_, h2⟩ := ho
    rcases h2 with ⟨h2, h3⟩ | ⟨g, cap, cur, hv, _⟩
    · exact ⟨none, 0, by rw [h2, h3]⟩
    · exact ⟨_, _, hv⟩
  refine ⟨ga', gc', rfl, ⟨by omega, fun h' => ?_, by omega, ⟨az, ?_, fun h' => ?_⟩, ⟨(xs.drop k).take n ++ bs.drop n, ?_, by simp; omega⟩, ho, ?_, ?_⟩⟩
  · have : n = c := by omega
    subst this
    rw [Nat.add_mul, ← hjk]; omega
  · have := kg.isZ hz6 (fun h' => by have := hgb _ h'; omega)
    rwa [Nat.sub_sub] at this
  · have := haz (by omega); exact this
  · exact kg.row hb6 (fun h' => by have := hgb _ h'; omega)
  · refine h.kept.trans' hk6 kg ?_
    intro i hi h'
    have := hgb _ h'; omega
  · have := kg.size; omega

/-- Ahead of the append: what is owned, and the cells that are appended. -/
theorem St.ready {w3 wr w6 : World} {zb g1 N c j k n : Nat} {last : Bool} {xs bs : List Int} {ga : Option Addr} {gc : Nat} (h : St w3 wr zb g1 N c j k last xs ga gc) (hl : xs.length = N) (hkn : k + n ≤ N) (hzb : zb < w3.heap.size)
    (hr : ReadEnd zb g1 w3.heap.size k (N - k) n last (xs.drop k) bs wr w6) :
    ∃ os ns : List Value, os = (xs.take k).map (Value.int .u8) ∧ ns = ((xs.drop k).take n).map (Value.int .u8) ∧ w6.ownsRow (w3.heap.size + 1) 5 1 (.slice ga k gc) k os ∧ ns.length = n * 1 ∧
      (∀ j u, ns[j]? = some u → w6.cell? ((⟨w3.heap.size, 0, none⟩ : Addr).add j) = some u) ∧ (∀ u ∈ ns, u.oneCell' = true) ∧ w3.heap.size + 1 ≤ w6.heap.size := by
  obtain ⟨az, hz6, haz, hb6, hk6, hs6⟩ := hr
  refine ⟨_, _, rfl, rfl, hk6.owns h.got (by omega), by simp; omega, fun j u hj => ?_, ints_oneCell _ _, by have := h.size; omega⟩
  have hj' : j < n := by have := (List.getElem?_eq_some_iff.1 hj).1; simp at this; omega
  rw [Addr.add_lit, Nat.zero_add, hb6.cell j (by simp; omega)]
  have hj2 : k + j < xs.length := by omega
  have hj3 : j < min n (xs.length - k) := by omega
  simp [hj', hj2] at hj
  simp [List.getElem?_append, hj3, hj', hj2, hj]

end Go.Proofs.Qxb6616311aDoor
