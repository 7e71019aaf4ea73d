import Derived.Test.Qxb6605892aAcl
namespace Go.Proofs.Qxb6605892a
open Go.RowKit
set_option linter.unusedVariables false

theorem info46 : (Try.prog.info? 46).map (fun i => (i.zero, i.size, i.bytes)) = some (some (.agg #[.int .i32 0, .string ByteArray.empty, .string ByteArray.empty]), 3, 40) := by kernel_rfl
theorem info53 : (Try.prog.info? 53).map (fun i => (i.zero, i.size, i.bytes)) = some (some (.agg #[.int .i32 0, .string ByteArray.empty, .string ByteArray.empty]), 3, 40) := by kernel_rfl

/-- The cells of all entries. -/
def ecs (es : List Ent) : List Value := es.flatMap Ent.cells
theorem ecs_length (es : List Ent) : (ecs es).length = es.length * 3 := by
  induction es with
  | nil => rfl
  | cons e es ih => simp [ecs, Ent.cells] at ih ⊢; omega

/-- The cells at the head of round k. -/
def cl3 (es : List Ent) (k : Nat) : List Value := ecs (es.take k ++ List.replicate (es.length - k) Ent.no)
theorem cl3_all (es : List Ent) : cl3 es es.length = ecs es := by simp [cl3]
theorem cl3_length (es : List Ent) (k : Nat) (h : k ≤ es.length) : (cl3 es k).length = es.length * 3 := by
  unfold cl3
  rw [ecs_length]
  simp
  congr 1
  omega

theorem ecs_split (es : List Ent) (k : Nat) (e : Ent) (h : es[k]? = some e) : ecs es = ecs (es.take k) ++ (e.cells ++ ecs (es.drop (k + 1))) := by
  obtain ⟨hk, he⟩ := List.getElem?_eq_some_iff.1 h
  have : es = es.take k ++ (e :: es.drop (k + 1)) := by rw [← he, List.getElem_cons_drop, List.take_append_drop]
  conv => lhs; rw [this]
  simp [ecs]

theorem set3 (x0 x1 x2 a b c : Value) (R : List Value) : ∀ L : List Value,
    (((L ++ (a :: b :: c :: R)).set L.length x0).set (L.length + 1) x1).set (L.length + 2) x2 = L ++ (x0 :: x1 :: x2 :: R)
  | [] => rfl
  | y :: L => by
    have := set3 x0 x1 x2 a b c R L
    simp only [List.cons_append, List.length_cons, List.set_cons_succ, Nat.add_right_comm L.length 1]
    rw [this]

theorem cl3_step (es : List Ent) (k : Nat) (e : Ent) (h : es[k]? = some e) : (((cl3 es k).set (k * 3) (.int .i32 e.p)).set (k * 3 + 1) (.string e.s)).set (k * 3 + 2) (.string e.i) = cl3 es (k + 1) := by
  obtain ⟨hk, he⟩ := List.getElem?_eq_some_iff.1 h
  have e1 : cl3 es k = ecs (es.take k) ++ (.int .i32 0 :: .string ByteArray.empty :: .string ByteArray.empty :: ecs (List.replicate (es.length - (k + 1)) Ent.no)) := by
    unfold cl3
    rw [show es.length - k = (es.length - (k + 1)) + 1 from by omega, List.replicate_succ]
    simp [ecs, Ent.cells, Ent.no]
  have e2 : cl3 es (k + 1) = ecs (es.take k) ++ (.int .i32 e.p :: .string e.s :: .string e.i :: ecs (List.replicate (es.length - (k + 1)) Ent.no)) := by
    unfold cl3
    rw [List.take_succ_eq_append_getElem hk, he]
    simp [ecs, Ent.cells]
  have hl : (ecs (es.take k)).length = k * 3 := by rw [ecs_length]; simp; omega
  rw [e1, e2, ← hl]
  exact set3 _ _ _ _ _ _ _ _

theorem made3 (a b c : Value) : ∀ n : Nat, (madeCells #[a, b, c] (n * 3)).toList = (List.replicate n [a, b, c]).flatten
  | 0 => by simp [madeCells]
  | n + 1 => by
    have ih := made3 a b c n
    simp only [madeCells, Array.toList_map, Array.toList_range] at ih ⊢
    rw [show (n + 1) * 3 = n * 3 + 1 + 1 + 1 from by omega, List.range_succ, List.range_succ, List.range_succ]
    simp only [List.map_append, ih, List.map_cons, List.map_nil]
    rw [List.replicate_succ']
    have m0 : n * 3 % 3 = 0 := by omega
    have m1 : (n * 3 + 1) % 3 = 1 := by omega
    have m2 : (n * 3 + 1 + 1) % 3 = 2 := by omega
    simp [m0, m1, m2]

theorem made_cl3 (es : List Ent) (n : Nat) (h : es.length = n) : (madeCells #[Value.int .i32 0, .string ByteArray.empty, .string ByteArray.empty] (n * 3)).toList = cl3 es 0 := by
  rw [made3]
  subst h
  simp [cl3, ecs, List.flatMap_def, Ent.cells, Ent.no]

set_option maxHeartbeats 2000000 in
theorem cloneA_pos (b off len cap : Nat) (es : List Ent) (w : World) (hlen : es.length = len) (hl : len ≤ 65536)
    (hc : ∀ k, k < len → ∃ e, es[k]? = some e ∧ w.cell? ⟨b, off + k * 3, none⟩ = some (.int .i32 e.p) ∧ w.cell? ⟨b, off + k * 3 + 1, none⟩ = some (.string e.s) ∧ w.cell? ⟨b, off + k * 3 + 2, none⟩ = some (.string e.i)) :
    Calls Try.prog 24 #[.slice (some ⟨b, off, none⟩) len cap] w fun e w' =>
      e = .returned (.slice (some ⟨w.heap.size, 0, none⟩) len len) ∧ w'.ownsRow w.heap.size 46 3 (.slice (some ⟨w.heap.size, 0, none⟩) len len) len (ecs es) ∧ w.grownBy w' none := by
  obtain ⟨i0, hi, hz0, hz1, hz2⟩ := info_parts info46
  have hq := Lib.run_eql_slice_nil (P := Try.prog) w 39 46 (some ⟨b, off, none⟩) len cap 0 0 Try.underlying39
  have Hc : Hid _ := hc
  have Hlen : Hid _ := hlen
  clear hc hlen
  go_enter Try.func24, Try.ntmps24
  go_wp2_with (at_make; refine wpList_make_full _ rfl _ _ 39 rfl w.heap.size 46 i0 (.agg #[.int .i32 0, .string ByteArray.empty, .string ByteArray.empty]) 3 Try.underlying39 hi hz0 hz1 .i64 .i64 _ _ len rfl rfl rfl rfl ?c1 ?c2 ?c3 ?_)
  case c1 => rw [hz2]; omega
  case c2 => unfold maxLen; omega
  case c3 => exact Nat.le_refl _
  intro w1 hown hgrow
  have hown1 : w1.ownsRow w.heap.size 46 3 (.slice (some ⟨w.heap.size, 0, none⟩) len len) len (cl3 es 0) := by
    rw [made_cl3 es len Hlen.out] at hown
    exact hown
  clear hown hq
  go_wp2
  go_loopw [4] (fun i wr => ∃ k : Nat, k ≤ len ∧ i = .int .i64 k ∧ wr.ownsRow w.heap.size 46 3 (.slice (some ⟨w.heap.size, 0, none⟩) len len) len (cl3 es k) ∧ w.grownBy wr none) (fun i _ => len - (intOf i).toNat)
  case atStart => exact ⟨0, Nat.zero_le _, rfl, hown1, hgrow⟩
  case round =>
    obtain ⟨k, hk, rfl, hown, hgr⟩ := hrel
    clear hown1 hgrow
    by_cases hlt : k < len
    · obtain ⟨e, he, c1, c2, c3⟩ := Hc.out k hlt
      have hbl := World.block_lt_of_cell? w _ c1
      have hne : ¬ b = w.heap.size := by simp at hbl; omega
      have hne2 : ¬ w.heap.size = b := by simp at hbl; omega
      have d1 := World.grownBy.cell hgr c1 (by simp)
      have d2 := World.grownBy.cell hgr c2 (by simp)
      have d3 := World.grownBy.cell hgr c3 (by simp)
      have hll := cl3_length es k (by have := Hlen.out; omega)
      have hbd : (cl3 es k).length = len * 3 := by rw [hll, Hlen.out]
      have e1 : ∃ x, wr.cell? ⟨w.heap.size, k * 3, none⟩ = some x := ⟨(cl3 es k)[k * 3]'(by omega), by rw [World.ownsRow.cellAt hown (k * 3) (by omega)]; simp⟩
      have e2 : ∃ x, wr.cell? ⟨w.heap.size, k * 3 + 1, none⟩ = some x := ⟨(cl3 es k)[k * 3 + 1]'(by omega), by rw [World.ownsRow.cellAt hown (k * 3 + 1) (by omega)]; simp⟩
      have e3 : ∃ x, wr.cell? ⟨w.heap.size, k * 3 + 2, none⟩ = some x := ⟨(cl3 es k)[k * 3 + 2]'(by omega), by rw [World.ownsRow.cellAt hown (k * 3 + 2) (by omega)]; simp⟩
      obtain ⟨x1, e1⟩ := e1
      obtain ⟨x2, e2⟩ := e2
      obtain ⟨x3, e3⟩ := e3
      have f1 := World.ownsRow.frozenAt hown (k * 3)
      have f2 := World.ownsRow.frozenAt hown (k * 3 + 1)
      have f3 := World.ownsRow.frozenAt hown (k * 3 + 2)
      have s1 := World.ownsRow.stored hown (k * 3) (.int .i32 e.p)
      have s2 := World.ownsRow.stored s1.1 (k * 3 + 1) (.string e.s)
      have s3 := World.ownsRow.stored s2.1 (k * 3 + 2) (.string e.i)
      have s4 := s3.1
      rw [cl3_step es k e he] at s4
      have s5 := grownBy_store (grownBy_store (grownBy_store hgr (Nat.le_refl _) s1.2) (Nat.le_refl _) s2.2) (Nat.le_refl _) s3.2
      have q3 : (k : Int) < (len : Int) := by omega
      have q4 : (0 : Int) ≤ (k : Int) := by omega
      have S4 : Hid (World.ownsRow _ _ _ _ _ _ _) := s4
      have S5 : Hid (World.grownBy _ _ _) := s5
      clear s1 s2 s3 s4 s5 hbd hll he c1 c2 c3 Hc hown hgr
      go_wp2
      go_region_held3 (fun w' => w'.cell? ⟨b, off + k * 3, none⟩ = some (.int .i32 e.p) ∧ w'.cell? ⟨b, off + k * 3 + 1, none⟩ = some (.string e.s) ∧ w'.cell? ⟨b, off + k * 3 + 2, none⟩ = some (.string e.i)) (go_keep) (fail)
      all_goals go_wp2
      go_roundw
      case rel => exact ⟨k + 1, by omega, by go_num, World.ownsRow.drew S4.out, S5.out.os, S5.out.tape, S5.out.output, S5.out.size, S5.out.block⟩
      case measure => simp [intOf]; omega
    · obtain rfl : k = len := by omega
      have hE : cl3 es k = ecs es := by rw [← Hlen.out]; exact cl3_all es
      rw [hE] at hown
      clear hE
      go_wp2
      go_ret
      exact ⟨rfl, hown, hgr⟩

theorem cloneA_nil (cap : Nat) (w : World) :
    Calls Try.prog 24 #[.slice none 0 cap] w fun e w' => e = .returned (.slice none 0 0) ∧ w.grownBy w' none := by
  have hq := Lib.run_eql_slice_nil (P := Try.prog) w 39 46 none 0 cap 0 0 Try.underlying39
  go_enter Try.func24, Try.ntmps24
  go_wp2
  go_ret
  exact ⟨rfl, World.grownBy.refl _ _⟩

set_option maxHeartbeats 1000000 in
theorem cloneA_zero (a : Addr) (cap : Nat) (w : World) :
    Calls Try.prog 24 #[.slice (some a) 0 cap] w fun e w' =>
      e = .returned (.slice (some ⟨w.heap.size, 0, none⟩) 0 0) ∧ w'.ownsRow w.heap.size 46 3 (.slice (some ⟨w.heap.size, 0, none⟩) 0 0) 0 [] ∧ w.grownBy w' none := by
  obtain ⟨i0, hi, hz0, hz1, hz2⟩ := info_parts info46
  have hq := Lib.run_eql_slice_nil (P := Try.prog) w 39 46 (some a) 0 cap 0 0 Try.underlying39
  go_enter Try.func24, Try.ntmps24
  go_wp2_with (at_make; refine wpList_make_full _ rfl _ _ 39 rfl w.heap.size 46 i0 (.agg #[.int .i32 0, .string ByteArray.empty, .string ByteArray.empty]) 3 Try.underlying39 hi hz0 hz1 .i64 .i64 _ _ 0 rfl rfl rfl rfl ?c1 ?c2 ?c3 ?_)
  case c1 => rw [hz2]; omega
  case c2 => unfold maxLen; omega
  case c3 => exact Nat.le_refl _
  intro w1 hown hgrow
  clear hq
  go_wp2
  go_loopw [4] (fun i wr => i = .int .i64 ((0 : Nat) : Int) ∧ wr = w1) (fun i _ => 0)
  case atStart => exact ⟨rfl, rfl⟩
  case round =>
    obtain ⟨rfl, rfl⟩ := hrel
    go_wp2
    go_ret
    refine ⟨rfl, ?_, hgrow⟩
    have : (madeCells #[Value.int IntKind.i32 0, .string ByteArray.empty, .string ByteArray.empty] 0).toList = [] := by simp [madeCells]
    rw [this] at hown
    exact hown

/-- zzCloneACLs: a row of the call's own that holds the same entries. -/
theorem cloneA_any (ao : Option Addr) (len cap : Nat) (es : List Ent) (w : World) (h : Sees3 w ao len es) (hl : len ≤ 65536) :
    Calls Try.prog 24 #[.slice ao len cap] w fun e w' => ∃ ao', e = .returned (.slice ao' len len) ∧ (⟨46, 3, .slice ao' len len, len, ecs es⟩ : Rw).lies w' w.heap.size ∧ w.grownBy w' none := by
  by_cases hp : 0 < len
  · obtain ⟨b, off, rfl, hc⟩ := h.at hp
    refine (cloneA_pos b off len cap es w h.count hl fun k hk => ?_).mono fun e w' he => ⟨_, he⟩
    obtain ⟨e, he, _, d0, d1, d2⟩ := hc k hk
    exact ⟨e, he, d0, d1, d2⟩
  · obtain rfl : len = 0 := by omega
    obtain rfl : es = [] := List.eq_nil_of_length_eq_zero h.count
    cases ao with
    | none => exact (cloneA_nil cap w).mono fun e w' he => ⟨none, he.1, World.ownsRow_nil _ _ _ _, he.2⟩
    | some a => exact (cloneA_zero a cap w).mono fun e w' he => ⟨_, he⟩

set_option maxHeartbeats 2000000 in
theorem toWire_pos (b off len cap : Nat) (es : List Ent) (w : World) (hlen : es.length = len) (hl : len ≤ 65536)
    (hc : ∀ k, k < len → ∃ e, es[k]? = some e ∧ w.cell? ⟨b, off + k * 3, none⟩ = some (.int .i32 e.p) ∧ w.cell? ⟨b, off + k * 3 + 1, none⟩ = some (.string e.s) ∧ w.cell? ⟨b, off + k * 3 + 2, none⟩ = some (.string e.i)) :
    Calls Try.prog 25 #[.slice (some ⟨b, off, none⟩) len cap] w fun e w' =>
      e = .returned (.slice (some ⟨w.heap.size, 0, none⟩) len len) ∧ w'.ownsRow w.heap.size 53 3 (.slice (some ⟨w.heap.size, 0, none⟩) len len) len (ecs es) ∧ w.grownBy w' none := by
  obtain ⟨i0, hi, hz0, hz1, hz2⟩ := info_parts info53
  have hq := Lib.run_eql_slice_nil (P := Try.prog) w 39 46 (some ⟨b, off, none⟩) len cap 0 0 Try.underlying39
  have Hc : Hid _ := hc
  have Hlen : Hid _ := hlen
  clear hc hlen
  go_enter Try.func25, Try.ntmps25
  go_wp2_with (at_make; refine wpList_make_full _ rfl _ _ 42 rfl w.heap.size 53 i0 (.agg #[.int .i32 0, .string ByteArray.empty, .string ByteArray.empty]) 3 Try.underlying42 hi hz0 hz1 .i64 .i64 _ _ len rfl rfl rfl rfl ?c1 ?c2 ?c3 ?_)
  case c1 => rw [hz2]; omega
  case c2 => unfold maxLen; omega
  case c3 => exact Nat.le_refl _
  intro w1 hown hgrow
  have hown1 : w1.ownsRow w.heap.size 53 3 (.slice (some ⟨w.heap.size, 0, none⟩) len len) len (cl3 es 0) := by
    rw [made_cl3 es len Hlen.out] at hown
    exact hown
  clear hown hq
  go_wp2
  go_loopw [4] (fun i wr => ∃ k : Nat, k ≤ len ∧ i = .int .i64 k ∧ wr.ownsRow w.heap.size 53 3 (.slice (some ⟨w.heap.size, 0, none⟩) len len) len (cl3 es k) ∧ w.grownBy wr none) (fun i _ => len - (intOf i).toNat)
  case atStart => exact ⟨0, Nat.zero_le _, rfl, hown1, hgrow⟩
  case round =>
    obtain ⟨k, hk, rfl, hown, hgr⟩ := hrel
    clear hown1 hgrow
    by_cases hlt : k < len
    · obtain ⟨e, he, c1, c2, c3⟩ := Hc.out k hlt
      have hbl := World.block_lt_of_cell? w _ c1
      have hne : ¬ b = w.heap.size := by simp at hbl; omega
      have hne2 : ¬ w.heap.size = b := by simp at hbl; omega
      have d1 := World.grownBy.cell hgr c1 (by simp)
      have d2 := World.grownBy.cell hgr c2 (by simp)
      have d3 := World.grownBy.cell hgr c3 (by simp)
      have hll := cl3_length es k (by have := Hlen.out; omega)
      have hbd : (cl3 es k).length = len * 3 := by rw [hll, Hlen.out]
      have e1 : ∃ x, wr.cell? ⟨w.heap.size, k * 3, none⟩ = some x := ⟨(cl3 es k)[k * 3]'(by omega), by rw [World.ownsRow.cellAt hown (k * 3) (by omega)]; simp⟩
      have e2 : ∃ x, wr.cell? ⟨w.heap.size, k * 3 + 1, none⟩ = some x := ⟨(cl3 es k)[k * 3 + 1]'(by omega), by rw [World.ownsRow.cellAt hown (k * 3 + 1) (by omega)]; simp⟩
      have e3 : ∃ x, wr.cell? ⟨w.heap.size, k * 3 + 2, none⟩ = some x := ⟨(cl3 es k)[k * 3 + 2]'(by omega), by rw [World.ownsRow.cellAt hown (k * 3 + 2) (by omega)]; simp⟩
      obtain ⟨x1, e1⟩ := e1
      obtain ⟨x2, e2⟩ := e2
      obtain ⟨x3, e3⟩ := e3
      have f1 := World.ownsRow.frozenAt hown (k * 3)
      have f2 := World.ownsRow.frozenAt hown (k * 3 + 1)
      have f3 := World.ownsRow.frozenAt hown (k * 3 + 2)
      have s1 := World.ownsRow.stored hown (k * 3) (.int .i32 e.p)
      have s2 := World.ownsRow.stored s1.1 (k * 3 + 1) (.string e.s)
      have s3 := World.ownsRow.stored s2.1 (k * 3 + 2) (.string e.i)
      have s4 := s3.1
      rw [cl3_step es k e he] at s4
      have s5 := grownBy_store (grownBy_store (grownBy_store hgr (Nat.le_refl _) s1.2) (Nat.le_refl _) s2.2) (Nat.le_refl _) s3.2
      have q3 : (k : Int) < (len : Int) := by omega
      have q4 : (0 : Int) ≤ (k : Int) := by omega
      have S4 : Hid (World.ownsRow _ _ _ _ _ _ _) := s4
      have S5 : Hid (World.grownBy _ _ _) := s5
      clear s1 s2 s3 s4 s5 hbd hll he c1 c2 c3 Hc hown hgr
      go_wp2
      go_region_held3 (fun w' => w'.cell? ⟨b, off + k * 3, none⟩ = some (.int .i32 e.p) ∧ w'.cell? ⟨b, off + k * 3 + 1, none⟩ = some (.string e.s) ∧ w'.cell? ⟨b, off + k * 3 + 2, none⟩ = some (.string e.i)) (go_keep) (fail)
      all_goals go_wp2
      go_roundw
      case rel => exact ⟨k + 1, by omega, by go_num, World.ownsRow.drew S4.out, S5.out.os, S5.out.tape, S5.out.output, S5.out.size, S5.out.block⟩
      case measure => simp [intOf]; omega
    · obtain rfl : k = len := by omega
      have hE : cl3 es k = ecs es := by rw [← Hlen.out]; exact cl3_all es
      rw [hE] at hown
      clear hE
      go_wp2
      go_ret
      exact ⟨rfl, hown, hgr⟩

theorem toWire_nil (cap : Nat) (w : World) :
    Calls Try.prog 25 #[.slice none 0 cap] w fun e w' => e = .returned (.slice none 0 0) ∧ w.grownBy w' none := by
  have hq := Lib.run_eql_slice_nil (P := Try.prog) w 39 46 none 0 cap 0 0 Try.underlying39
  go_enter Try.func25, Try.ntmps25
  go_wp2
  go_ret
  exact ⟨rfl, World.grownBy.refl _ _⟩

set_option maxHeartbeats 1000000 in
theorem toWire_zero (a : Addr) (cap : Nat) (w : World) :
    Calls Try.prog 25 #[.slice (some a) 0 cap] w fun e w' =>
      e = .returned (.slice (some ⟨w.heap.size, 0, none⟩) 0 0) ∧ w'.ownsRow w.heap.size 53 3 (.slice (some ⟨w.heap.size, 0, none⟩) 0 0) 0 [] ∧ w.grownBy w' none := by
  obtain ⟨i0, hi, hz0, hz1, hz2⟩ := info_parts info53
  have hq := Lib.run_eql_slice_nil (P := Try.prog) w 39 46 (some a) 0 cap 0 0 Try.underlying39
  go_enter Try.func25, Try.ntmps25
  go_wp2_with (at_make; refine wpList_make_full _ rfl _ _ 42 rfl w.heap.size 53 i0 (.agg #[.int .i32 0, .string ByteArray.empty, .string ByteArray.empty]) 3 Try.underlying42 hi hz0 hz1 .i64 .i64 _ _ 0 rfl rfl rfl rfl ?c1 ?c2 ?c3 ?_)
  case c1 => rw [hz2]; omega
  case c2 => unfold maxLen; omega
  case c3 => exact Nat.le_refl _
  intro w1 hown hgrow
  clear hq
  go_wp2
  go_loopw [4] (fun i wr => i = .int .i64 ((0 : Nat) : Int) ∧ wr = w1) (fun i _ => 0)
  case atStart => exact ⟨rfl, rfl⟩
  case round =>
    obtain ⟨rfl, rfl⟩ := hrel
    go_wp2
    go_ret
    refine ⟨rfl, ?_, hgrow⟩
    have : (madeCells #[Value.int IntKind.i32 0, .string ByteArray.empty, .string ByteArray.empty] 0).toList = [] := by simp [madeCells]
    rw [this] at hown
    exact hown

/-- zzToWire: a row of the call's own that holds the same entries. -/
theorem toWire_any (ao : Option Addr) (len cap : Nat) (es : List Ent) (w : World) (h : Sees3 w ao len es) (hl : len ≤ 65536) :
    Calls Try.prog 25 #[.slice ao len cap] w fun e w' => ∃ ao', e = .returned (.slice ao' len len) ∧ (⟨53, 3, .slice ao' len len, len, ecs es⟩ : Rw).lies w' w.heap.size ∧ w.grownBy w' none := by
  by_cases hp : 0 < len
  · obtain ⟨b, off, rfl, hc⟩ := h.at hp
    refine (toWire_pos b off len cap es w h.count hl fun k hk => ?_).mono fun e w' he => ⟨_, he⟩
    obtain ⟨e, he, _, d0, d1, d2⟩ := hc k hk
    exact ⟨e, he, d0, d1, d2⟩
  · obtain rfl : len = 0 := by omega
    obtain rfl : es = [] := List.eq_nil_of_length_eq_zero h.count
    cases ao with
    | none => exact (toWire_nil cap w).mono fun e w' he => ⟨none, he.1, World.ownsRow_nil _ _ _ _, he.2⟩
    | some a => exact (toWire_zero a cap w).mono fun e w' he => ⟨_, he⟩

end Go.Proofs.Qxb6605892a
