/-
  Rows of cells that a call owns, several of them at once, and what an append leaves. No program in it.
-/
import Derived.WalkKit
import Derived.Maps.AppendAt
import Derived.Deep.AppendSrc
import Derived.Deep.Draws
import Derived.Laws.IdiomCopy
import Derived.Deep.Upon
namespace Go.Proofs.Qxb6613684a
open Go.RowKit

/-- One row: the element's type, its cells, the slice value, its length, the cells. -/
structure Rw where
  e : TypeId
  size : Nat
  v : Value
  n : Nat
  xs : List Value

def Rw.lies (r : Rw) (w : World) (B : Nat) : Prop := w.ownsRow B r.e r.size r.v r.n r.xs
/-- A row of bytes. -/
def bts (v : Value) (zs : List Int) : Rw := ⟨5, 1, v, zs.length, zs.map (Value.int .u8)⟩

def Apart (r s : Rw) : Prop := r.v.ownBlock = none ∨ r.v.ownBlock ≠ s.v.ownBlock
theorem Apart.symm {r s : Rw} (h : Apart r s) : Apart s r := by
  unfold Apart at *
  cases hr : r.v.ownBlock <;> cases hs : s.v.ownBlock <;> simp_all
  exact fun e => h e.symm

theorem ownsRow_mono {w : World} {B B' : Nat} {e : TypeId} {size : Nat} {v : Value} {n : Nat} {xs : List Value} (h : w.ownsRow B e size v n xs) (hB : B' ≤ B) : w.ownsRow B' e size v n xs := by
  obtain ⟨h1, h2⟩ := h
  refine ⟨h1, ?_⟩
  rcases h2 with h2 | ⟨g, cap, cur, hv, hg, r⟩
  · exact .inl h2
  · exact .inr ⟨g, cap, cur, hv, Nat.le_trans hB hg, r⟩

/-- What an append leaves. -/
structure Grew (B : Nat) (w : World) (v : Value) (w' : World) (r : Rw) : Prop where
  row : r.lies w' B
  grown : w.grownBy w' v.ownBlock
  spot : r.v.ownBlock = v.ownBlock ∨ ∃ g, r.v.ownBlock = some g ∧ w.heap.size ≤ g

theorem Grew.trans {B : Nat} {w w1 w2 : World} {v : Value} {r s : Rw} (h : Grew B w v w1 r) (k : Grew B w1 r.v w2 s) : Grew B w v w2 s := by
  refine ⟨k.row, ⟨k.grown.os.trans h.grown.os, k.grown.tape.trans h.grown.tape, k.grown.output.trans h.grown.output, Nat.le_trans h.grown.size k.grown.size, fun i hi hne => ?_⟩, ?_⟩
  · refine (k.grown.block i (Nat.lt_of_lt_of_le hi h.grown.size) ?_).trans (h.grown.block i hi hne)
    rcases h.spot with e | ⟨g, e, hg⟩
    · rw [e]; exact hne
    · rw [e]; intro e2; cases e2; omega
  · rcases k.spot with e | ⟨g, e, hg⟩
    · rcases h.spot with e' | ⟨g, e', hg⟩
      · exact .inl (e.trans e')
      · exact .inr ⟨g, e.trans e', hg⟩
    · exact .inr ⟨g, e, Nat.le_trans h.grown.size hg⟩

theorem grownBy_trans_none {w w1 w2 : World} {row : Option Nat} (h : w.grownBy w1 none) (k : w1.grownBy w2 row) : w.grownBy w2 row :=
  ⟨k.os.trans h.os, k.tape.trans h.tape, k.output.trans h.output, Nat.le_trans h.size k.size, fun i hi hne => (k.block i (Nat.lt_of_lt_of_le hi h.size) hne).trans (h.block i hi (by simp))⟩

theorem grownBy_weak {w w1 : World} {row : Option Nat} (h : w.grownBy w1 none) : w.grownBy w1 row :=
  ⟨h.os, h.tape, h.output, h.size, fun i hi _ => h.block i hi (by simp)⟩

theorem grownBy_drewN (w : World) (n : Nat) : w.grownBy (w.drewN n) none := ⟨rfl, rfl, rfl, Nat.le_refl _, fun _ _ _ => rfl⟩
theorem grownBy_drew (w : World) : w.grownBy w.drew none := ⟨rfl, rfl, rfl, Nat.le_refl _, fun _ _ _ => rfl⟩

/-- Behind something that only reads or makes new memory. -/
theorem Rw.lies.read {r : Rw} {w w' : World} {B : Nat} (h : r.lies w B) (hg : w.grownBy w' none) : r.lies w' B :=
  World.ownsRow.kept h hg (by cases hv : r.v.ownBlock <;> simp)

theorem Grew.before {B : Nat} {w w1 w2 : World} {v : Value} {s : Rw} (h : w.grownBy w1 none) (k : Grew B w1 v w2 s) : Grew B w v w2 s := by
  refine ⟨k.row, grownBy_trans_none h k.grown, ?_⟩
  rcases k.spot with e | ⟨g, e, hg⟩
  · exact .inl e
  · exact .inr ⟨g, e, Nat.le_trans h.size hg⟩

theorem Grew.after {B : Nat} {w w1 w2 : World} {v : Value} {s : Rw} (h : Grew B w v w1 s) (k : w1.grownBy w2 none) : Grew B w v w2 s :=
  ⟨h.row.read k, ⟨k.os.trans h.grown.os, k.tape.trans h.grown.tape, k.output.trans h.grown.output, Nat.le_trans h.grown.size k.size, fun i hi hne => (k.block i (Nat.lt_of_lt_of_le hi h.grown.size) (by simp)).trans (h.grown.block i hi hne)⟩, h.spot⟩

/-! ### The state: what was there is as it was; the rows lie, no two in one block -/
structure St (w0 w : World) (rs : List Rw) : Prop where
  below : Below w0.heap.size w0 w
  rows : ∀ r ∈ rs, r.lies w w0.heap.size
  apart : rs.Pairwise Apart

theorem St.start (w0 : World) : St w0 w0 [] := ⟨Below.refl _ _, fun _ h => (by cases h), List.Pairwise.nil⟩
theorem St.size {w0 w : World} {rs : List Rw} (h : St w0 w rs) : w0.heap.size ≤ w.heap.size := h.below.size

theorem St.read {w0 w w' : World} {rs : List Rw} (h : St w0 w rs) (hg : w.grownBy w' none) : St w0 w' rs :=
  ⟨h.below.grown hg h.below.size (fun k e => by cases e), fun r hr => (h.rows r hr).read hg, h.apart⟩

/-- A new row. -/
theorem St.new {w0 w w' : World} {rs : List Rw} {r : Rw} (h : St w0 w rs) (hg : w.grownBy w' none) (hr : r.lies w' w.heap.size) : St w0 w' (r :: rs) := by
  have h' := h.read hg
  refine ⟨h'.below, ?_, List.Pairwise.cons ?_ h'.apart⟩
  · intro s hs
    rcases List.mem_cons.1 hs with rfl | hs
    · exact ownsRow_mono hr h.below.size
    · exact h'.rows s hs
  · intro s hs
    unfold Apart
    cases hv : r.v.ownBlock with
    | none => exact .inl rfl
    | some g =>
      right
      intro e
      have h1 := (World.ownsRow.lt hr g hv).1
      have h2 := (World.ownsRow.lt (h.rows s hs) g e.symm).2
      omega

/-- The row at the head is appended to. -/
theorem St.grew {w0 w w' : World} {rs : List Rw} {r s : Rw} (h : St w0 w (r :: rs)) (hg : Grew w0.heap.size w r.v w' s) : St w0 w' (s :: rs) := by
  obtain ⟨ha, hp⟩ := List.pairwise_cons.1 h.apart
  have hr := h.rows r (List.mem_cons_self ..)
  refine ⟨h.below.grown hg.grown h.below.size (fun k e => (World.ownsRow.lt hr k e).1), ?_, List.Pairwise.cons ?_ hp⟩
  · intro u hu
    rcases List.mem_cons.1 hu with rfl | hu
    · exact hg.row
    · exact World.ownsRow.kept (h.rows u (List.mem_cons_of_mem _ hu)) hg.grown (Apart.symm (ha u hu))
  · intro u hu
    have hau := ha u hu
    unfold Apart at hau ⊢
    rcases hg.spot with e | ⟨g, e, hge⟩
    · rw [e]; exact hau
    · right
      rw [e]
      intro e2
      have h2 := (World.ownsRow.lt (h.rows u (List.mem_cons_of_mem _ hu)) g e2.symm).2
      omega

theorem St.perm {w0 w : World} {rs ss : List Rw} (h : St w0 w rs) (hp : rs.Perm ss) : St w0 w ss :=
  ⟨h.below, fun r hr => h.rows r (hp.mem_iff.2 hr), (hp.pairwise_iff (fun h => Apart.symm h)).1 h.apart⟩
theorem St.tail {w0 w : World} {rs : List Rw} {r : Rw} (h : St w0 w (r :: rs)) : St w0 w rs :=
  ⟨h.below, fun s hs => h.rows s (List.mem_cons_of_mem _ hs), (List.pairwise_cons.1 h.apart).2⟩
theorem St.swap {w0 w : World} {rs : List Rw} {r s : Rw} (h : St w0 w (r :: s :: rs)) : St w0 w (s :: r :: rs) := h.perm (List.Perm.swap ..)
theorem St.rot3 {w0 w : World} {rs : List Rw} {r s t : Rw} (h : St w0 w (r :: s :: t :: rs)) : St w0 w (t :: r :: s :: rs) :=
  h.perm (((List.Perm.swap t s rs).cons r).trans (List.Perm.swap t r (s :: rs)))
theorem St.head {w0 w : World} {rs : List Rw} {r : Rw} (h : St w0 w (r :: rs)) : r.lies w w0.heap.size := h.rows r (List.mem_cons_self ..)
theorem St.second {w0 w : World} {rs : List Rw} {r s : Rw} (h : St w0 w (r :: s :: rs)) : s.lies w w0.heap.size := h.tail.head
theorem St.third {w0 w : World} {rs : List Rw} {r s t : Rw} (h : St w0 w (r :: s :: t :: rs)) : t.lies w w0.heap.size := h.tail.tail.head

/-! ### append, whatever the source -/
section
variable {P : Program} (w : World)

theorem run_append_grew (B : Nat) (t tx ty e : TypeId) (i : TypeInfo) (z : Value) (ht : P.underlying t = some (.slice e)) (hi : P.info? e = some i) (hz : i.zero = some z)
    (hsize : i.size = 1) (hby : i.bytes = 1) (hzs : z.cells.size = 1) (ao : Option Addr) (n cap : Nat) (xs : List Value) (hown : w.ownsRow B e 1 (.slice ao n cap) n xs)
    (x : Value) (m : Nat) (news : List Value) (hs : Src P 1 tx x m news w) (hlim : n + m ≤ 1099511627776) (hB : B ≤ w.heap.size) :
    ∃ ao' cap' w', (Builtin.append_ #[t, tx] ty #[.slice ao n cap, x]).run P w = .ok (.slice ao' (n + m) cap') w' ∧ Grew B w (.slice ao n cap) w' ⟨e, 1, .slice ao' (n + m) cap', n + m, xs ++ news⟩ := by
  have hs' : Src P i.size tx x m news w := by rw [hsize]; exact hs
  have hnl : news.length = m := by simpa using hs.newsLen
  have hxl : xs.length = n := by simpa using hown.1
  have hlen : (xs ++ news).length = (n + m) * 1 := by simp [hxl, hnl]
  have h63 : n + m ≤ maxLen := by unfold maxLen; omega
  have grown : ∀ (old : Nat), old < n + m → ∀ (row : Option Nat),
      (w.drew.alloc (.cells ((xs ++ news).toArray ++ Builtin.zeroCells z.cells (grownCap w (n + m) old e - (n + m))) e)).ownsRow B e 1
        (.slice (some ⟨w.heap.size, 0, none⟩) (n + m) (grownCap w (n + m) old e)) (n + m) (xs ++ news) ∧
      w.grownBy (w.drew.alloc (.cells ((xs ++ news).toArray ++ Builtin.zeroCells z.cells (grownCap w (n + m) old e - (n + m))) e)) row := by
    intro old ho row
    have hge := grownCap_ge w (n + m) old e
    have hcm : grownCap w (n + m) old e ≤ maxLen := grownCap_le_maxLen w (n + m) old e h63
    refine ⟨⟨hlen, .inr ⟨w.heap.size, _, _, rfl, hB, heap_alloc_new w.drew _, hge, hcm, ?_, ?_⟩⟩, ⟨rfl, rfl, rfl, by simp, fun k hk _ => Below.heap_alloc w.drew _ k hk⟩⟩
    · simp only [Array.size_append, List.size_toArray, size_zeroCells, hzs, List.length_append, hxl, hnl]
      omega
    · simp only [Array.toList_append, ← hlen]
      exact List.take_left
  by_cases hroom : n + m ≤ cap
  · rcases hown.2 with ⟨hv, hn0⟩ | ⟨g, cap', cur, hv, hbg, hg, hnc, hcm, hcs, htake⟩
    · simp only [Value.slice.injEq] at hv
      obtain ⟨rfl, rfl, rfl⟩ := hv
      have hm0 : m = 0 := by omega
      subst hm0
      have hne : news = [] := List.eq_nil_of_length_eq_zero hnl
      subst hne
      refine ⟨none, 0, w, ?_, ⟨by simpa [Rw.lies] using hown, World.grownBy.refl _ _, .inl rfl⟩⟩
      rcases hs.kind with ⟨e', hk⟩ | hk <;> simp [Builtin.append_, run_underlying ht, run_underlying hk, sizeOf, typeInfo, hi, hs'.len, hs'.cells]
    · simp only [Value.slice.injEq] at hv
      obtain ⟨rfl, _, rfl⟩ := hv
      have hcs' : cur.size = cap := by simpa using hcs
      have hcell : ∀ j, j < news.length → (w.cell? ⟨g, 0 + n * i.size + j, none⟩).isSome = true := by
        intro j hj
        rw [cell_of_row w g _ cur e (0, 0) hg, hsize]
        simp only [Array.getElem?_eq_getElem (show 0 + n * 1 + j < cur.size by omega), Option.isSome_some]
      have hfr : ∀ j, j < news.length → w.frozen? ⟨g, 0 + n * i.size + j, none⟩ = false := fun j _ => frozen_of_row w g _ cur e hg
      have hr := run_append_room_src (P := P) w t tx ty e i ht hi g 0 n cap x m news hs' hroom hcell hfr
      have hst : w.setCells g (0 + n * i.size) news = w.setRow g (cur.toList.take n ++ news ++ cur.toList.drop (n + news.length)).toArray := by
        rw [hsize]
        have key : ∀ (vs : List Value) (o : Nat) (cur : Array Value) (w : World), w.heap[g]? = some (.cells cur e (0, 0)) → o + vs.length ≤ cur.size →
            w.setCells g o vs = w.setRow g (cur.toList.take o ++ vs ++ cur.toList.drop (o + vs.length)).toArray := by
          intro vs
          induction vs with
          | nil =>
            intro o cur w hg _
            have : (cur.toList.take o ++ [] ++ cur.toList.drop (o + ([] : List Value).length)).toArray = cur := by simp
            rw [this]
            have hv : w.heap[g]'((Array.getElem?_eq_some_iff.1 hg).1) = .cells cur e (0, 0) := (Array.getElem?_eq_some_iff.1 hg).2
            show w = w.setRow g cur
            unfold World.setRow
            cases w with
            | mk heap tape drawn os output =>
            simp only [World.mk.injEq, and_true]
            apply Array.ext
            · simp
            · intro k h1 h2
              simp only [Array.getElem_modify]
              split
              · rename_i hk; subst hk; simp [hv]
              · rfl
          | cons u us ih =>
            intro o cur w hg hl
            simp only [List.length_cons] at hl
            have h1 := setCell_eq_setRow w g o cur e (0, 0) u hg
            have h2 : (w.setCell ⟨g, o, none⟩ u).heap[g]? = some (.cells (cur.setIfInBounds o u) e (0, 0)) := heap_setCell_same w g o cur e u hg
            show (w.setCell ⟨g, o, none⟩ u).setCells g (o + 1) us = _
            rw [ih (o + 1) _ _ h2 (by simp; omega), h1, setRow_setRow]
            congr 2
            rw [Array.toList_setIfInBounds, List.take_set, List.drop_set]
            have hlo : o < cur.toList.length := by simp; omega
            rw [if_pos (by omega), List.take_succ_eq_append_getElem hlo]
            have hl2 : (cur.toList.take o).length = o := by simp; omega
            rw [List.set_append_right _ _ (by omega)]
            simp only [hl2, Nat.sub_self, List.set_cons_zero, List.append_assoc, List.cons_append, List.nil_append, List.length_cons]
            rw [show o + 1 + us.length = o + (us.length + 1) from by omega]
        simpa using key news n cur w hg (by omega)
      rw [hst] at hr
      refine ⟨_, _, _, hr, ⟨⟨by simpa using hlen, .inr ⟨g, cap, _, rfl, hbg, setRow_heap w g cur _ e _ hg, hroom, hcm, ?_, ?_⟩⟩, ⟨rfl, rfl, rfl, by simp, fun k _ hk => setRow_other w g k _ (fun e => hk (by simp [Value.ownBlock, e]))⟩, .inl rfl⟩⟩
      · simp only [List.size_toArray, List.length_append, List.length_take, List.length_drop, Array.length_toList]
        omega
      · have ht2 : cur.toList.take n = xs := by simpa using htake
        show List.take ((n + m) * 1) (cur.toList.take n ++ news ++ cur.toList.drop (n + news.length)) = xs ++ news
        rw [ht2, ← hlen]
        exact List.take_left
  · have hold : (Builtin.firstCells i.size n (.slice ao n cap)).run P w.drew = .ok xs.toArray w.drew := by
      rcases hown.2 with ⟨hv, hn0⟩ | ⟨g, cap', cur, hv, hbg, hg, hnc, hcm, hcs, htake⟩
      · simp only [Value.slice.injEq] at hv
        obtain ⟨rfl, rfl, rfl⟩ := hv
        have : xs = [] := List.eq_nil_of_length_eq_zero hxl
        subst this
        exact run_firstCells_none w.drew _ _ _ _
      · simp only [Value.slice.injEq] at hv
        obtain ⟨rfl, _, rfl⟩ := hv
        refine run_firstCells_some w.drew i.size n ⟨g, 0, none⟩ n cap xs (by rw [hsize, hxl, Nat.mul_one]) ?_
        exact World.ownsRow.cells (g := g) (v := .slice (some ⟨g, 0, none⟩) n cap) hown rfl
    have hr := run_append_grow_src (P := P) w t tx ty e i z ht hi hz ao n cap xs hold x m news hs' (by omega) (by omega) (growslice_fits (by omega) (by rw [hby]; omega))
    have hgr := grown cap (by omega) (Value.ownBlock (.slice ao n cap))
    exact ⟨_, _, _, hr, ⟨hgr.1, hgr.2, .inr ⟨w.heap.size, rfl, Nat.le_refl _⟩⟩⟩

/-- At the list of a plain region's operations. -/
theorem wpList_append_grew {ops : Array Oper} {rest : List Oper} {o : Oper} {a : Act} {Q : Exit → Act → World → Prop} (hgd : o.guard = none) (s x : Operand) (t tx : TypeId)
    (ho : o.op = .call { callee := .builtin .append, args := #[s, x], argTypes := #[t, tx] })
    (B : Nat) (e : TypeId) (i : TypeInfo) (z : Value) (ht : P.underlying t = some (.slice e)) (hi : P.info? e = some i) (hz : i.zero = some z)
    (hsize : i.size = 1) (hby : i.bytes = 1) (hzs : z.cells.size = 1) (ao : Option Addr) (n cap : Nat) (xs : List Value) (hev : a.eval s = .slice ao n cap) (hown : w.ownsRow B e 1 (.slice ao n cap) n xs)
    (xv : Value) (hx : a.eval x = xv) (m : Nat) (news : List Value) (hs : Src P 1 tx xv m news w) (hlim : n + m ≤ 1099511627776) (hB : B ≤ w.heap.size)
    (h : ∀ ao' cap' w', Grew B w (.slice ao n cap) w' ⟨e, 1, .slice ao' (n + m) cap', n + m, xs ++ news⟩ → wpList P ops Q rest (a.put o.dst (.slice ao' (n + m) cap')) w') : wpList P ops Q (o :: rest) a w := by
  refine wpList_plain hgd fun K hK => ?_
  obtain ⟨ao', cap', w', hr, h2⟩ := run_append_grew (P := P) w B t tx o.type e i z ht hi hz hsize hby hzs ao n cap xs hown xv m news hs hlim hB
  unfold Oper.wp execOp
  simp only [ho, resolve, invoke, builtin, Sem.run_bind, Sem.run_pure, Result.andThen_ok, List.map_toArray, List.map_cons, List.map_nil, hev, hx, hr]
  exact hK _ _ (h ao' cap' w' h2)
end

end Go.Proofs.Qxb6613684a
