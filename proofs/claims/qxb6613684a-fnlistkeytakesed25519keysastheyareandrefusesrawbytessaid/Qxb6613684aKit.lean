import Derived.Test.Qxb6613684aRows
import Derived.Test.Qxb6613684aBase
import Derived.WalkSpells
import Derived.RegionTactic
import Derived.Deep.QuietTactic
import Derived.BigQuiet
namespace Go.Proofs.Qxb6613684a
open Go.RowKit
set_option linter.unusedVariables false

/-- What is known of a byte row's value. -/
theorem row_len {w : World} {B : Nat} {ao : Option Addr} {n cap : Nat} {zs : List Int} (h : (bts (.slice ao n cap) zs).lies w B) : n = zs.length ∧ n ≤ cap ∧ cap ≤ maxLen := by
  rcases h.2 with ⟨hv, h0⟩ | ⟨g, cap', cur, hv, _, _, hn, hm, _⟩
  · simp only [bts, Value.slice.injEq] at hv h0
    obtain ⟨_, rfl, rfl⟩ := hv
    exact ⟨h0.symm, Nat.le_refl _, Nat.zero_le _⟩
  · simp only [bts, Value.slice.injEq] at hv hn
    obtain ⟨_, rfl, rfl⟩ := hv
    exact ⟨rfl, hn, hm⟩

theorem row_some {w : World} {B : Nat} {ao : Option Addr} {n cap : Nat} {zs : List Int} (h : (bts (.slice ao n cap) zs).lies w B) (hp : 0 < zs.length) :
    ∃ g, ao = some ⟨g, 0, none⟩ ∧ B ≤ g ∧ g < w.heap.size ∧ (∀ i, i < zs.length → w.cell? ⟨g, i, none⟩ = some (.int .u8 (zs.getD i 0))) ∧ ∀ i, w.frozen? ⟨g, i, none⟩ = false := by
  have h' := h
  rcases h.2 with ⟨hv, h0⟩ | ⟨g, cap', cur, hv, hb, hg, hn, hm, _⟩
  · simp only [bts] at h0
    omega
  · simp only [bts, Value.slice.injEq] at hv
    obtain ⟨rfl, rfl, rfl⟩ := hv
    refine ⟨g, rfl, hb, (Array.getElem?_eq_some_iff.1 hg).1, fun i hi => ?_, fun i => World.ownsRow.frozenAt (n := zs.length) h' i⟩
    have := World.ownsRow.cellAt (n := zs.length) h' i (by simpa [bts] using hi)
    rw [this]
    simp [bts, List.getD, hi]

set_option maxHeartbeats 1000000 in
theorem eq_pos (g cap g2 m cap2 : Nat) (ys : List Int) (w : World) (hn : m ≤ 1099511627776)
    (hc : ∀ i, i < m → w.cell? ⟨g, i, none⟩ = some (.int .u8 (ys.getD i 0))) (hc2 : ∀ i, i < m → w.cell? ⟨g2, i, none⟩ = some (.int .u8 (ys.getD i 0))) :
    Calls Try.prog 11 #[.slice (some ⟨g, 0, none⟩) m cap, .slice (some ⟨g2, 0, none⟩) m cap2] w fun e w' => e = .returned (.bool true) ∧ w.grownBy w' none := by
  go_enter Try.func11, Try.ntmps11
  go_wp2
  go_loopw [5] (fun i wr => ∃ k : Nat, k ≤ m ∧ i = .int .i64 k ∧ ∃ q, wr = w.drewN q) (fun i _ => m - (intOf i).toNat)
  case atStart => exact ⟨0, Nat.zero_le _, rfl, 0, rfl⟩
  case round =>
    obtain ⟨k, hk, rfl, q, rfl⟩ := hrel
    by_cases hlt : k < m
    · have d1 := hc k hlt
      have d2 := hc2 k hlt
      have q2 : (k : Int) < (m : Int) := by omega
      clear hc hc2
      go_wp2
      go_quiet (fail)
      go_wp2
      go_roundw
      case rel => exact ⟨k + 1, by omega, by go_num, _, rfl⟩
      case measure => simp [intOf]; omega
    · go_wp2
      go_ret
      exact ⟨rfl, grownBy_drewN _ _⟩

set_option maxHeartbeats 1000000 in
theorem eq_zero (ao bo : Option Addr) (cap cap2 : Nat) (w : World) :
    Calls Try.prog 11 #[.slice ao 0 cap, .slice bo 0 cap2] w fun e w' => e = .returned (.bool true) ∧ w.grownBy w' none := by
  go_enter Try.func11, Try.ntmps11
  go_wp2
  go_loopw [5] (fun i wr => i = .int .i64 ((0 : Nat) : Int) ∧ wr = w) (fun i _ => 0)
  case atStart => exact ⟨rfl, rfl⟩
  case round =>
    obtain ⟨rfl, rfl⟩ := hrel
    go_wp2
    go_ret
    exact ⟨rfl, World.grownBy.refl _ _⟩

/-- sameBytes where it is so. -/
theorem eq_any (ao bo : Option Addr) (n cap m cap2 B : Nat) (zs ys : List Int) (w : World) (h : (bts (.slice ao n cap) zs).lies w B) (h2 : (bts (.slice bo m cap2) ys).lies w B) (hz : zs = ys) (hN : zs.length ≤ 1099511627776) :
    Calls Try.prog 11 #[.slice ao n cap, .slice bo m cap2] w fun e w' => e = .returned (.bool true) ∧ w.grownBy w' none := by
  subst hz
  obtain ⟨hn, _, _⟩ := row_len h
  obtain ⟨hm, _, _⟩ := row_len h2
  obtain rfl : n = m := by omega
  by_cases h0 : n = 0
  · subst h0
    exact eq_zero ao bo cap cap2 w
  · obtain ⟨g, rfl, _, _, hc, _⟩ := row_some h (by omega)
    obtain ⟨g2, rfl, _, _, hc2, _⟩ := row_some h2 (by omega)
    exact eq_pos g cap g2 n cap2 zs w (by omega) (fun i hi => hc i (by omega)) (fun i hi => hc2 i (by omega))

theorem info5 : (Try.prog.info? 5).map (fun i => (i.zero, i.size, i.bytes)) = some (some (.int .u8 0), 1, 1) := by kernel_rfl

theorem addr_eta {a : Addr} {w : World} {v : Value} (h : w.cell? (a.add 0) = some v) : a = ⟨a.block, a.off, none⟩ := by
  have := World.cell?_spot h
  cases a with
  | mk b o s => simp [Addr.add] at this; simp [this]

theorem clone_nil (cap : Nat) (w : World) :
    Calls Try.prog 8 #[.slice none 0 cap] w fun e w' => e = .returned (.slice none 0 0) ∧ w.grownBy w' none := by
  have hq := Lib.run_eql_slice_nil (P := Try.prog) w 22 5 none 0 cap 0 0 Try.underlying22
  go_enter Try.func8, Try.ntmps8
  go_wp2
  go_ret
  exact ⟨rfl, World.grownBy.refl _ _⟩

/-- The cells at the head of round k. -/
def cl (zs : List Int) (k : Nat) : List Value := (zs.take k).map (Value.int .u8) ++ List.replicate (zs.length - k) (.int .u8 0)
theorem cl_step (zs : List Int) (k : Nat) (h : k < zs.length) : (cl zs k).set k (.int .u8 (zs.getD k 0)) = cl zs (k + 1) := by
  unfold cl
  have hl : ((zs.take k).map (Value.int .u8)).length = k := by simp; omega
  rw [List.set_append_right _ _ (by omega), hl, Nat.sub_self, show zs.length - k = (zs.length - (k + 1)) + 1 from by omega, List.replicate_succ, List.set_cons_zero, List.take_succ_eq_append_getElem h, List.map_append, List.append_assoc]
  simp only [List.getD, List.getElem?_eq_getElem h, Option.getD_some, List.map_cons, List.map_nil, List.cons_append, List.nil_append]
theorem cl_all (zs : List Int) : cl zs zs.length = zs.map (Value.int .u8) := by simp [cl]
theorem cl_at (zs : List Int) (k : Nat) (h : k < zs.length) : (cl zs k)[k]? = some (.int .u8 0) := by
  unfold cl
  have hl : ((zs.take k).map (Value.int .u8)).length = k := by simp; omega
  rw [List.getElem?_append_right (by omega), hl, Nat.sub_self, show zs.length - k = (zs.length - (k + 1)) + 1 from by omega, List.replicate_succ]
  rfl

theorem grownBy_store {w wr w' : World} {g : Nat} (h : w.grownBy wr none) (hg : w.heap.size ≤ g) (k : wr.grownBy w' (some g)) : w.grownBy w' none :=
  ⟨k.os.trans h.os, k.tape.trans h.tape, k.output.trans h.output, Nat.le_trans h.size k.size, fun i hi hne => (k.block i (Nat.lt_of_lt_of_le hi h.size) (by intro e; cases e; omega)).trans (h.block i hi hne)⟩

set_option maxHeartbeats 1000000 in
theorem clone_pos (b off len cap : Nat) (zs : List Int) (w : World) (hlen : zs.length = len) (hl : len ≤ 1099511627776)
    (hc : ∀ i, i < len → w.cell? ⟨b, off + i, none⟩ = some (.int .u8 (zs.getD i 0))) :
    Calls Try.prog 8 #[.slice (some ⟨b, off, none⟩) len cap] w fun e w' =>
      e = .returned (.slice (some ⟨w.heap.size, 0, none⟩) len len) ∧ (bts (.slice (some ⟨w.heap.size, 0, none⟩) len len) zs).lies w' w.heap.size ∧ w.grownBy w' none := by
  obtain ⟨i0, hi, hz0, hz1, hz2⟩ := info_parts info5
  have hq := Lib.run_eql_slice_nil (P := Try.prog) w 22 5 (some ⟨b, off, none⟩) len cap 0 0 Try.underlying22
  go_enter Try.func8, Try.ntmps8
  go_wp2_with (at_make; refine wpList_make_full _ rfl _ _ 22 rfl w.heap.size 5 i0 (.int .u8 0) 1 Try.underlying22 hi hz0 hz1 .i64 .i64 _ _ len rfl rfl rfl rfl ?c1 ?c2 ?c3 ?_)
  case c1 => rw [hz2]; omega
  case c2 => unfold maxLen; omega
  case c3 => exact Nat.le_refl _
  intro w1 hown hgrow
  have hown1 : w1.ownsRow w.heap.size 5 1 (.slice (some ⟨w.heap.size, 0, none⟩) len len) len (cl zs 0) := by
    have : (madeCells #[Value.int IntKind.u8 0] len).toList = cl zs 0 := by
      rw [toList_madeCells_one]
      simp [cl, hlen]
    rw [this] at hown
    exact hown
  clear hown hq
  go_wp2
  go_loopw [4] (fun i wr => ∃ k : Nat, k ≤ len ∧ i = .int .i64 k ∧ wr.ownsRow w.heap.size 5 1 (.slice (some ⟨w.heap.size, 0, none⟩) len len) len (cl zs k) ∧ w.grownBy wr none) (fun i _ => len - (intOf i).toNat)
  case atStart => exact ⟨0, Nat.zero_le _, rfl, hown1, hgrow⟩
  case round =>
    obtain ⟨k, hk, rfl, hown, hgr⟩ := hrel
    clear hown1 hgrow
    by_cases hlt : k < len
    · have d2 : wr.cell? ⟨w.heap.size, k, none⟩ = some (.int .u8 0) := by rw [World.ownsRow.cellAt hown k (by omega)]; exact cl_at zs k (by omega)
      have d3 := World.ownsRow.frozenAt hown k
      obtain ⟨x, d1, d5, d7⟩ : ∃ x, wr.cell? ⟨b, off + k, none⟩ = some (.int .u8 x) ∧ (wr.setCell ⟨w.heap.size, k, none⟩ (.int .u8 x)).ownsRow w.heap.size 5 1 (.slice (some ⟨w.heap.size, 0, none⟩) len len) len (cl zs (k + 1)) ∧
          w.grownBy (wr.setCell ⟨w.heap.size, k, none⟩ (.int .u8 x)) none := by
        have d4 := World.ownsRow.stored hown k (.int .u8 (zs.getD k 0))
        rw [cl_step zs k (by omega)] at d4
        exact ⟨zs.getD k 0, World.grownBy.cell hgr (hc k hlt) (by simp), d4.1, grownBy_store hgr (Nat.le_refl _) d4.2⟩
      clear hc hown hgr hlen
      go_wp2
      go_roundw
      case rel => exact ⟨k + 1, by omega, by go_num, d5, d7⟩
      case measure => simp [intOf]; omega
    · obtain rfl : k = len := by omega
      go_wp2
      go_ret
      refine ⟨rfl, ?_, hgr⟩
      rw [← hlen, cl_all] at hown
      show wr.ownsRow w.heap.size 5 1 _ zs.length _
      rw [← hlen]
      exact hown

set_option maxHeartbeats 1000000 in
theorem clone_zero (a : Addr) (cap : Nat) (w : World) :
    Calls Try.prog 8 #[.slice (some a) 0 cap] w fun e w' =>
      e = .returned (.slice (some ⟨w.heap.size, 0, none⟩) 0 0) ∧ (bts (.slice (some ⟨w.heap.size, 0, none⟩) 0 0) []).lies w' w.heap.size ∧ w.grownBy w' none := by
  obtain ⟨i0, hi, hz0, hz1, hz2⟩ := info_parts info5
  have hq := Lib.run_eql_slice_nil (P := Try.prog) w 22 5 (some a) 0 cap 0 0 Try.underlying22
  go_enter Try.func8, Try.ntmps8
  go_wp2_with (at_make; refine wpList_make_full _ rfl _ _ 22 rfl w.heap.size 5 i0 (.int .u8 0) 1 Try.underlying22 hi hz0 hz1 .i64 .i64 _ _ 0 rfl rfl rfl rfl ?c1 ?c2 ?c3 ?_)
  case c1 => rw [hz2]; omega
  case c2 => unfold maxLen; omega
  case c3 => exact Nat.le_refl _
  intro w1 hown hgrow
  clear hq
  go_wp2
  go_loopw [4] (fun i wr => i = .int .i64 ((0 : Nat) : Int) ∧ wr = w1) (fun i _ => 0)
  case atStart => exact ⟨rfl, rfl⟩
  case round =>
    obtain ⟨rfl, rfl⟩ := hrel
    go_wp2
    go_ret
    refine ⟨rfl, ?_, hgrow⟩
    have : (madeCells #[Value.int IntKind.u8 0] 0).toList = [] := by
      rw [toList_madeCells_one]
      rfl
    rw [this] at hown
    exact hown

/-- cloneBytes: whatever it is handed, a row of the call's own that holds the same bytes. -/
theorem clone_any (ao : Option Addr) (len cap : Nat) (zs : List Int) (w : World) (hlen : zs.length = len) (hl : len ≤ 1099511627776) (hn : ao = none → len = 0)
    (hc : ∀ a, ao = some a → ∀ i, i < len → w.cell? (a.add i) = some (.int .u8 (zs.getD i 0))) :
    Calls Try.prog 8 #[.slice ao len cap] w fun e w' => ∃ ao' cap', e = .returned (.slice ao' len cap') ∧ (bts (.slice ao' len cap') zs).lies w' w.heap.size ∧ w.grownBy w' none ∧ ao'.isNone = ao.isNone := by
  cases ao with
  | none =>
    obtain rfl := hn rfl
    obtain rfl : zs = [] := List.eq_nil_of_length_eq_zero hlen
    exact (clone_nil cap w).mono fun e w' he => ⟨none, 0, he.1, World.ownsRow_nil _ _ _ _, he.2, rfl⟩
  | some a =>
    by_cases h0 : len = 0
    · subst h0
      obtain rfl : zs = [] := List.eq_nil_of_length_eq_zero hlen
      exact (clone_zero a cap w).mono fun e w' he => ⟨_, _, he.1, he.2.1, he.2.2, rfl⟩
    · have ha := addr_eta (hc a rfl 0 (by omega))
      obtain ⟨b, off, sp⟩ := a
      simp only [Addr.mk.injEq, true_and] at ha
      subst ha
      refine (clone_pos b off len cap zs w hlen hl fun i hi => ?_).mono fun e w' he => ⟨_, _, he.1, he.2.1, he.2.2, rfl⟩
      have := hc _ rfl i hi
      rwa [Addr.add_lit] at this

/-- A slice of bytes as it can be read. -/
def Sees (w : World) (ao : Option Addr) (len : Nat) (ys : List Int) : Prop :=
  ys.length = len ∧ (ao = none → len = 0) ∧ ∀ a, ao = some a → ∀ i, i < len → w.cell? (a.add i) = some (.int .u8 (ys.getD i 0))
theorem Sees.read {w w' : World} {ao : Option Addr} {len : Nat} {ys : List Int} (h : Sees w ao len ys) (hg : w.grownBy w' none) : Sees w' ao len ys :=
  ⟨h.1, h.2.1, fun a ha i hi => World.grownBy.cell hg (h.2.2 a ha i hi) (by simp)⟩
theorem sees_row {w : World} {B : Nat} {ao : Option Addr} {n cap : Nat} {zs : List Int} (h : (bts (.slice ao n cap) zs).lies w B) : Sees w ao n zs := by
  obtain ⟨rfl, _, _⟩ := row_len h
  refine ⟨rfl, fun h0 => ?_, fun a ha i hi => ?_⟩
  · by_cases hp : 0 < zs.length
    · obtain ⟨g, hg, _⟩ := row_some h hp
      rw [h0] at hg
      cases hg
    · omega
  · obtain ⟨g, hg, _, _, hc, _⟩ := row_some h (by omega)
    rw [hg] at ha
    cases ha
    rw [Addr.add_lit, Nat.zero_add]
    exact hc i hi
/-- Out of what the opener hands over. -/
theorem sees_arg {w : World} {a : Option Addr} {len cap : Nat} {zs : List Int}
    (h : (a = none ∧ len = 0 ∧ cap = 0 ∧ zs = []) ∨
      ∃ x, a = some x ∧ len ≤ cap ∧ cap ≤ maxLen ∧ zs.length = cap ∧ (∀ i, i < zs.length → w.cell? (x.add i) = some (.int .u8 (zs.getD i 0))) ∧ ∀ n ∈ zs, (Lit.int .u8 n).wf = true) : ∃ ys, Sees w a len ys := by
  rcases h with ⟨rfl, rfl, rfl, rfl⟩ | ⟨x, rfl, hl, hm, hz, hc, _⟩
  · exact ⟨[], rfl, fun _ => rfl, fun a ha => by cases ha⟩
  · refine ⟨zs.take len, by simp; omega, fun h => (by cases h), fun a ha i hi => ?_⟩
    cases ha
    rw [hc i (by omega)]
    simp [List.getD, hi]

theorem clone_sees (ao : Option Addr) (len cap : Nat) (zs : List Int) (w : World) (h : Sees w ao len zs) (hl : len ≤ 1099511627776) :
    Calls Try.prog 8 #[.slice ao len cap] w fun e w' => ∃ ao' cap', e = .returned (.slice ao' len cap') ∧ (bts (.slice ao' len cap') zs).lies w' w.heap.size ∧ w.grownBy w' none ∧ ao'.isNone = ao.isNone :=
  clone_any ao len cap zs w h.1 hl h.2.1 h.2.2

end Go.Proofs.Qxb6613684a
