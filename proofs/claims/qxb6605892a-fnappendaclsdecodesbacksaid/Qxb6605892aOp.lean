import Derived.Test.Qxb6605892aL7
import Derived.ProofKit
import Derived.OpenShut
import Derived.Deep.Strs
namespace Go.Proofs.Qxb6605892a
open Go.ChangeShapes Go.WideShapes Go.ChangeAt Go.RowKit
set_option linter.unusedVariables false

theorem und46 : ∃ f0 f1 f2 : Field, Try.prog.underlying 46 = some (.struct #[f0, f1, f2]) ∧ f0.type = 21 ∧ f1.type = 9 ∧ f2.type = 9 ∧ f0.offset = 0 ∧ f1.offset = 1 ∧ f2.offset = 2 :=
  ⟨_, _, _, Try.underlying46, rfl, rfl, rfl, rfl, rfl, rfl⟩
theorem cells46 : Try.prog.cellsOf 46 = 3 := by kernel_rfl
theorem cells21 : Try.prog.cellsOf 21 = 1 := by kernel_rfl
theorem cells9 : Try.prog.cellsOf 9 = 1 := by kernel_rfl

theorem gather (q : Nat → Ent → Prop) : ∀ len : Nat, (∀ i, i < len → ∃ e : Ent, q i e) → ∃ es : List Ent, es.length = len ∧ ∀ i, i < len → q i (es.getD i Ent.no)
  | 0, _ => ⟨[], rfl, fun i hi => absurd hi (Nat.not_lt_zero _)⟩
  | k + 1, each => by
    obtain ⟨es, h1, h2⟩ := gather q k (fun i hi => each i (by omega))
    obtain ⟨e, h3⟩ := each k (by omega)
    refine ⟨es ++ [e], by simp [h1], fun i hi => ?_⟩
    by_cases hik : i < k
    · have : (es ++ [e]).getD i Ent.no = es.getD i Ent.no := by simp [List.getD, List.getElem?_append_left (show i < es.length by omega)]
      rw [this]
      exact h2 i hik
    · obtain rfl : i = k := by omega
      have : (es ++ [e]).getD i Ent.no = e := by simp [List.getD, ← h1]
      rw [this]
      exact h3

section
variable {H : Type} {enc : TypeId × Value → H} {w : World} {base : Nat} {spare : Nat → Bool} {held : Bool}

theorem ent_open {n : Nat} {cs : List Value} {x : DataW H × List MemPlace} (h : DataW.trod enc Try.prog w base spare held n 46 cs = some x) : ∃ e : Ent, e.ok ∧ cs = e.cells := by
  obtain ⟨f0, f1, f2, hu, t0, t1, t2, o0, o1, o2⟩ := und46
  obtain ⟨y0, y1, y2, m, _, hl, h0, h1, h2⟩ := Deep.trod_struct3 hu h
  rw [t0, o0, cells21] at h0
  rw [t1, o1, cells9] at h1
  rw [t2, o2, cells9] at h2
  rw [cells46] at hl
  match cs, hl with
  | [c0, c1, c2], _ =>
    obtain ⟨p, e0, _, wp⟩ := DataW.trod_int Try.underlying21 h0
    obtain ⟨s, e1, _, ws⟩ := DataW.trod_string Try.underlying9 h1
    obtain ⟨i, e2, _, wi⟩ := DataW.trod_string Try.underlying9 h2
    simp at e0 e1 e2
    subst e0 e1 e2
    have := bounds_i32 wp
    exact ⟨⟨p, s, i⟩, ⟨this.1, this.2, ws, wi⟩, rfl⟩

theorem sees3_open {n len cap : Nat} {a1 : Option Addr} {x : DataW H × List MemPlace} (h : DataW.trod enc Try.prog w base spare held n 39 (Value.slice a1 len cap).cells.toList = some x) : ∃ es, Sees3 w a1 len es ∧ len ≤ maxLen := by
  rcases Deep.open_slice Try.underlying39 h with ⟨hcs, _⟩ | ⟨a, len', cap', m, n', D, Pl, hcs, _, hl, hm, hmm, _, hel⟩
  · simp [Value.cells] at hcs
    obtain ⟨rfl, rfl, rfl⟩ := hcs
    exact ⟨[], ⟨rfl, fun _ => rfl, fun e he => (by cases he), fun a ha => (by cases ha), fun a ha => (by cases ha), fun a ha => (by cases ha)⟩, Nat.zero_le _⟩
  · simp [Value.cells] at hcs
    obtain ⟨rfl, rfl, rfl⟩ := hcs
    have hlm : len ≤ m := by rw [hmm]; split <;> omega
    have each : ∀ i, i < len → ∃ e : Ent, e.ok ∧ w.cells? base (a.add (i * 3)) 3 = some e.cells := by
      intro i hi
      obtain ⟨cs', h1, h2⟩ := hel i (by omega)
      obtain ⟨e, he, rfl⟩ := ent_open h2
      rw [cells46] at h1
      exact ⟨e, he, h1⟩
    obtain ⟨es, h1, h2⟩ := gather _ len each
    have cell : ∀ i, i < len → ∀ j, j < 3 → w.cell? (a.add (i * 3 + j)) = (es.getD i Ent.no).cells[j]? := by
      intro i hi j hj
      have := (World.cells?_some (h2 i hi).2).2.2 j hj
      rw [Deep.add_add] at this
      exact this
    refine ⟨es, ⟨h1, fun h => (by cases h), ?_, ?_, ?_, ?_⟩, by omega⟩
    · intro e he
      obtain ⟨i, hi, rfl⟩ := List.getElem_of_mem he
      have := (h2 i (by omega)).1
      simpa [List.getD, hi] using this
    · intro b hb i hi; cases hb; simpa [Ent.cells] using cell i hi 0 (by omega)
    · intro b hb i hi; cases hb; simpa [Ent.cells] using cell i hi 1 (by omega)
    · intro b hb i hi; cases hb; simpa [Ent.cells] using cell i hi 2 (by omega)
end
end Go.Proofs.Qxb6605892a
