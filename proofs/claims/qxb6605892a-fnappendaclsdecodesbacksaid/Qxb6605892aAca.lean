import Derived.Test.Qxb6605892aAcw
namespace Go.Proofs.Qxb6605892a
open Go.RowKit
set_option linter.unusedVariables false

/-- An entry's bytes. -/
def enc (e : Ent) : List Int := be4 (e.p % 4294967296) ++ (be4 e.s.size ++ (sby e.s ++ (be4 e.i.size ++ sby e.i)))
def encs (es : List Ent) : List Int := es.flatMap enc
theorem enc_length (e : Ent) : (enc e).length = 12 + (e.s.size + e.i.size) := by
  simp [enc, be4, sby_length]
  omega
theorem encs_length (es : List Ent) : (encs es).length = 12 * es.length + wt es := by
  induction es with
  | nil => rfl
  | cons e es ih =>
    simp only [encs, List.flatMap_cons, List.length_append, enc_length] at ih ⊢
    rw [ih]
    simp [wt]
    omega
theorem encs_snoc (es : List Ent) (k : Nat) (e : Ent) (h : es[k]? = some e) : encs (es.take (k + 1)) = encs (es.take k) ++ enc e := by
  obtain ⟨hk, he⟩ := List.getElem?_eq_some_iff.1 h
  rw [List.take_succ_eq_append_getElem hk, he]
  simp [encs]
theorem encs_append (a b : List Ent) : encs (a ++ b) = encs a ++ encs b := by simp [encs]
theorem wt_take (es : List Ent) : ∀ k, wt (es.take k) ≤ wt es := by
  intro k
  have : wt es = wt (es.take k) + wt (es.drop k) := by
    conv => lhs; rw [← List.take_append_drop k es]
    unfold wt
    rw [List.map_append, List.sum_append_nat]
  omega
theorem wt_at (es : List Ent) (k : Nat) (e : Ent) (h : es[k]? = some e) : e.s.size + e.i.size ≤ wt es := by
  have h1 := wt_snoc es k e h
  have h2 := wt_take es (k + 1)
  omega

theorem Grew.keep {B : Nat} {w w' : World} {v : Value} {r : Rw} (h : Grew B w v w' r) {a : Addr} {x : Value} (hc : w.cell? a = some x) (hne : some a.block ≠ v.ownBlock) : w'.cell? a = some x ∧ some a.block ≠ r.v.ownBlock := by
  refine ⟨h.grown.cell hc hne, ?_⟩
  rcases h.spot with e | ⟨g, e, hg⟩
  · rw [e]; exact hne
  · rw [e]
    intro e2
    cases e2
    have := World.block_lt_of_cell? w a hc
    omega

/-- A row's block lies below the heap's end. -/
theorem row_ne {w : World} {B : Nat} {r : Rw} (h : r.lies w B) : some w.heap.size ≠ r.v.ownBlock := by
  intro e
  have := (World.ownsRow.lt h w.heap.size e.symm).2
  omega

theorem Grew.refl {B : Nat} {w : World} {r : Rw} (h : r.lies w B) : Grew B w r.v w r := ⟨h, World.grownBy.refl _ _, .inl rfl⟩

set_option maxHeartbeats 2000000 in
theorem acls_pos (bo : Option Addr) (n cap B b off len cap2 : Nat) (zs : List Int) (es : List Ent) (w : World) (h : (bts (.slice bo n cap) zs).lies w B) (hB : B ≤ w.heap.size) (hN : zs.length ≤ 1048576) (hlen : es.length = len) (hl : len ≤ 65536) (hw : wt es ≤ 1048576)
    (hfar : some b ≠ (Value.slice bo n cap).ownBlock)
    (hc : ∀ k, k < len → ∃ e, es[k]? = some e ∧ w.cell? ⟨b, off + k * 3, none⟩ = some (.int .i32 e.p) ∧ w.cell? ⟨b, off + k * 3 + 1, none⟩ = some (.string e.s) ∧ w.cell? ⟨b, off + k * 3 + 2, none⟩ = some (.string e.i)) :
    Calls Try.prog 34 #[.slice bo n cap, .slice (some ⟨b, off, none⟩) len cap2] w fun e w' => ∃ ao' m cap', e = .returned (.slice ao' m cap') ∧ Grew B w (.slice bo n cap) w' (bts (.slice ao' m cap') (zs ++ (be4 len ++ encs es))) := by
  have Hc : Hid _ := hc
  have Hlen : Hid _ := hlen
  have Hf : Hid (some b ≠ (Value.slice bo n cap).ownBlock) := hfar
  clear hc hlen hfar
  have hc1 := appInt32_any bo n cap B zs (len : Int) w h hB (by omega)
  have hm : ((len : Int) % 4294967296) = (len : Int) := by omega
  rw [hm] at hc1
  clear hm
  go_enter Try.func34, Try.ntmps34
  go_wp2_with fail
  refine hc1.mono ?_
  rintro e w1 ⟨a1, k1, rfl, g1⟩
  clear hc1
  go_wp2
  go_loopw [0, 14] (fun v i wr => ∃ k : Nat, k ≤ len ∧ i = .int .i64 k ∧ ∃ ao' m cap', v = .slice ao' m cap' ∧ Grew B w (.slice bo n cap) wr (bts (.slice ao' m cap') (zs ++ (be4 len ++ encs (es.take k))))) (fun _ i _ => len - (intOf i).toNat)
  case atStart => exact ⟨0, Nat.zero_le _, rfl, a1, _, k1, rfl, by simpa [encs] using g1⟩
  case round =>
    obtain ⟨k, hk, rfl, ao', m, cap', rfl, g⟩ := hrel
    clear g1
    by_cases hlt : k < len
    · obtain ⟨e, he, c1, c2, c3⟩ := Hc.out k hlt
      have d1 := (g.keep c1 Hf.out).1
      have d2 := (g.keep c2 Hf.out).1
      have d3 := (g.keep c3 Hf.out).1
      have q3 : (k : Int) < (len : Int) := by omega
      have hle := wt_at es k e he
      have hwt := wt_take es k
      have hel : (encs (es.take k)).length ≤ 2000000 := by
        rw [encs_length]
        have : (es.take k).length ≤ k := by simp; omega
        omega
      have He : Hid _ := encs_snoc es k e he
      have hro := g.row
      have hr1 := hro.read (World.grownBy_alloc wr (.cells #[.int .i32 e.p, .string e.s, .string e.i] 53) none)
      have hz := g.grown.size
      have hne : some wr.heap.size ≠ (Value.slice ao' m cap').ownBlock := row_ne hro
      have Hne : Hid (some wr.heap.size ≠ (Value.slice ao' m cap').ownBlock) := hne
      have x2 : (wr.alloc (.cells #[.int .i32 e.p, .string e.s, .string e.i] 53)).cell? ⟨wr.heap.size, 1, none⟩ = some (.string e.s) := by simp
      have x3 : (wr.alloc (.cells #[.int .i32 e.p, .string e.s, .string e.i] 53)).cell? ⟨wr.heap.size, 2, none⟩ = some (.string e.i) := by simp
      have X2 : Hid _ := x2
      have X3 : Hid _ := x3
      clear hne x2 x3 he c1 c2 c3 Hc hro
      go_wp2_with fail
      refine (appInt32_any ao' m cap' B _ e.p _ hr1 (by simp; omega) (by simp [be4]; omega)).mono ?_
      rintro e1 w2 ⟨a2, k2, rfl, g2⟩
      obtain ⟨y2, n2⟩ := g2.keep X2.out Hne.out
      obtain ⟨y3, _⟩ := g2.keep X3.out Hne.out
      have z2 := g2.grown.size
      have hz2 : w.heap.size ≤ w2.heap.size := by simp at z2; omega
      have N2 : Hid _ := n2
      clear z2 hr1 X2 X3 n2 d1 d2 d3
      go_wp2_with fail
      refine (appStr_any _ _ _ B _ e.s _ g2.row (by omega) (by simp [be4]; omega) (by omega)).mono ?_
      rintro e1 w3 ⟨a3, k3, rfl, g3⟩
      obtain ⟨v3, n3⟩ := g3.keep y3 N2.out
      have z3 := g3.grown.size
      have N3 : Hid _ := n3
      have g23 := Grew.trans g2 g3
      clear n3 y2 y3 g2 g3
      go_wp2_with fail
      refine (appStr_any _ _ _ B _ e.i _ g23.row (by omega) (by simp [be4, sby_length]; omega) (by omega)).mono ?_
      rintro e1 w4 ⟨a4, k4, rfl, g4⟩
      have g24 := Grew.trans g (Grew.before (World.grownBy_alloc wr _ none) (Grew.trans g23 g4))
      have hlist : zs ++ (be4 ↑len ++ encs (List.take k es)) ++ be4 (e.p % 4294967296) ++ be4 ↑e.s.size ++ sby e.s ++ be4 ↑e.i.size ++ sby e.i = zs ++ (be4 ↑len ++ encs (List.take (k + 1) es)) := by
        rw [He.out]
        simp only [enc, List.append_assoc]
      rw [hlist] at g24
      clear hlist g23 g4 g v3
      go_wp2
      go_roundw
      case rel => exact ⟨k + 1, by omega, by go_num, a4, _, k4, rfl, g24⟩
      case measure => simp [intOf]; omega
    · have hT : es.take k = es := List.take_of_length_le (by rw [Hlen.out]; omega)
      rw [hT] at g
      clear hT
      go_wp2
      go_ret
      exact ⟨ao', m, cap', rfl, g⟩

set_option maxHeartbeats 2000000 in
theorem acls_zero (bo ao : Option Addr) (n cap B cap2 : Nat) (zs : List Int) (w : World) (h : (bts (.slice bo n cap) zs).lies w B) (hB : B ≤ w.heap.size) (hN : zs.length ≤ 1048576) :
    Calls Try.prog 34 #[.slice bo n cap, .slice ao 0 cap2] w fun e w' => ∃ ao' m cap', e = .returned (.slice ao' m cap') ∧ Grew B w (.slice bo n cap) w' (bts (.slice ao' m cap') (zs ++ be4 0)) := by
  have hc1 := appInt32_any bo n cap B zs 0 w h hB (by omega)
  have hm : ((0 : Int) % 4294967296) = 0 := by omega
  rw [hm] at hc1
  clear hm
  go_enter Try.func34, Try.ntmps34
  go_wp2_with fail
  refine hc1.mono ?_
  rintro e w1 ⟨a1, k1, rfl, g1⟩
  clear hc1
  go_wp2
  go_loopw [0, 14] (fun v i wr => i = .int .i64 ((0 : Nat) : Int) ∧ v = .slice a1 (n + 4) k1 ∧ wr = w1) (fun _ _ _ => 0)
  case atStart => exact ⟨rfl, rfl, rfl⟩
  case round =>
    obtain ⟨rfl, rfl, rfl⟩ := hrel
    go_wp2
    go_ret
    exact ⟨a1, _, k1, rfl, g1⟩

/-- appendACLs. -/
theorem acls_any (bo ao : Option Addr) (n cap B len cap2 : Nat) (zs : List Int) (es : List Ent) (w : World) (h : (bts (.slice bo n cap) zs).lies w B) (hB : B ≤ w.heap.size) (hN : zs.length ≤ 1048576) (hl : len ≤ 65536) (hw : wt es ≤ 1048576)
    (hs : Sees3 w ao len es) (hfar : ∀ a, ao = some a → some a.block ≠ (Value.slice bo n cap).ownBlock) :
    Calls Try.prog 34 #[.slice bo n cap, .slice ao len cap2] w fun e w' => ∃ ao' m cap', e = .returned (.slice ao' m cap') ∧ Grew B w (.slice bo n cap) w' (bts (.slice ao' m cap') (zs ++ (be4 len ++ encs es))) := by
  by_cases hp : 0 < len
  · obtain ⟨b, off, rfl, hc⟩ := hs.at hp
    refine acls_pos bo n cap B b off len cap2 zs es w h hB hN hs.count hl hw (hfar _ rfl) fun k hk => ?_
    obtain ⟨e, he, _, d0, d1, d2⟩ := hc k hk
    exact ⟨e, he, d0, d1, d2⟩
  · obtain rfl : len = 0 := by omega
    obtain rfl : es = [] := List.eq_nil_of_length_eq_zero hs.count
    refine (acls_zero bo ao n cap B cap2 zs w h hB hN).mono fun e w' he => ?_
    obtain ⟨a, m, c, h1, h2⟩ := he
    exact ⟨a, m, c, h1, by simpa [encs] using h2⟩

set_option maxHeartbeats 1000000 in
theorem zzacls_any (bo ao : Option Addr) (n cap B len cap2 : Nat) (zs : List Int) (es : List Ent) (w : World) (h : (bts (.slice bo n cap) zs).lies w B) (hB : B ≤ w.heap.size) (hN : zs.length ≤ 1048576) (hl : len ≤ 65536) (hw : wt es ≤ 1048576)
    (hs : Sees3 w ao len es) (hfar : ∀ a, ao = some a → some a.block ≠ (Value.slice bo n cap).ownBlock) :
    Calls Try.prog 26 #[.slice bo n cap, .slice ao len cap2] w fun e w' => ∃ ao' m cap', e = .returned (.slice ao' m cap') ∧ Grew B w (.slice bo n cap) w' (bts (.slice ao' m cap') (zs ++ (be4 len ++ encs es))) := by
  have hc := acls_any bo ao n cap B len cap2 zs es w h hB hN hl hw hs hfar
  clear hfar hs
  go_enter Try.func26, Try.ntmps26
  go_wp2_with fail
  refine hc.mono ?_
  rintro e w1 ⟨ao', m, cap', rfl, hg⟩
  clear hc
  go_wp2
  go_ret
  exact ⟨ao', m, cap', rfl, hg⟩

theorem ecs_at (es : List Ent) (k j : Nat) (e : Ent) (h : es[k]? = some e) (hj : j < 3) : (ecs es)[k * 3 + j]? = e.cells[j]? := by
  obtain ⟨hk, he⟩ := List.getElem?_eq_some_iff.1 h
  have hl : (ecs (es.take k)).length = k * 3 := by rw [ecs_length]; simp; omega
  rw [ecs_split es k e h, List.getElem?_append_right (by omega), hl, show k * 3 + j - k * 3 = j from by omega, List.getElem?_append_left (by simp [Ent.cells]; omega)]

/-- A row of entries can be read. -/
theorem sees3_row {w : World} {B len cap : Nat} {t : TypeId} {ao : Option Addr} {es : List Ent} (h : (⟨t, 3, .slice ao len cap, len, ecs es⟩ : Rw).lies w B) (hl : es.length = len) (ok : ∀ e ∈ es, e.ok) : Sees3 w ao len es := by
  have key : ∀ a, ao = some a → ∀ i, i < len → ∀ j, j < 3 → w.cell? (a.add (i * 3 + j)) = (es.getD i Ent.no).cells[j]? := by
    intro a ha i hi j hj
    have h' := h
    rcases h.2 with ⟨hv, _⟩ | ⟨g, cap', cur, hv, _⟩
    · simp only [Value.slice.injEq] at hv
      rw [hv.1] at ha
      cases ha
    · simp only [Value.slice.injEq] at hv
      obtain ⟨hao, _, rfl⟩ := hv
      subst hao
      cases ha
      rw [Addr.add_lit, Nat.zero_add]
      have hil : i < es.length := by omega
      have hc : w.cell? ⟨g, i * 3 + j, none⟩ = (ecs es)[i * 3 + j]? := World.ownsRow.cellAt (n := len) h' (i * 3 + j) (by show _ < len * 3; omega)
      rw [hc, ecs_at es i j es[i] (by simp [hil]) hj]
      simp [List.getD, hil]
  refine ⟨hl, fun h0 => ?_, ok, fun a ha i hi => by simpa [Ent.cells] using key a ha i hi 0 (by omega), fun a ha i hi => by simpa [Ent.cells] using key a ha i hi 1 (by omega), fun a ha i hi => by simpa [Ent.cells] using key a ha i hi 2 (by omega)⟩
  rcases h.2 with ⟨_, hv⟩ | ⟨g, cap', cur, hv, _⟩
  · exact hv
  · simp only [Value.slice.injEq] at hv
    rw [h0] at hv
    cases hv.1

theorem Sees3.takes {w : World} {ao : Option Addr} {len : Nat} {es : List Ent} (h : Sees3 w ao len es) (k : Nat) (hk : k ≤ len) : Sees3 w ao k (es.take k) := by
  have e : ∀ i, i < k → (es.take k).getD i Ent.no = es.getD i Ent.no := by
    intro i hi
    simp [List.getD, hi]
  refine ⟨by have := h.count; simp; omega, fun h0 => by have := h.void h0; omega, fun x hx => h.ok x (List.mem_of_mem_take hx), ?_, ?_, ?_⟩
  · intro a ha i hi; rw [e i hi]; exact h.perms a ha i (by omega)
  · intro a ha i hi; rw [e i hi]; exact h.scheme a ha i (by omega)
  · intro a ha i hi; rw [e i hi]; exact h.ident a ha i (by omega)

theorem Sees3.drops {w : World} {g o : Nat} {len : Nat} {es : List Ent} (h : Sees3 w (some ⟨g, o, none⟩) len es) (k : Nat) (hk : k ≤ len) : Sees3 w (some ⟨g, o + k * 3, none⟩) (len - k) (es.drop k) := by
  have e : ∀ i, (es.drop k).getD i Ent.no = es.getD (k + i) Ent.no := by
    intro i
    simp [List.getD]
  refine ⟨by have := h.count; simp; omega, fun h0 => (by cases h0), fun x hx => h.ok x (List.mem_of_mem_drop hx), ?_, ?_, ?_⟩
  · intro a ha i hi
    cases ha
    have := h.perms _ rfl (k + i) (by omega)
    rw [Addr.add_lit] at this ⊢
    rw [e i, ← this]
    congr 2; omega
  · intro a ha i hi
    cases ha
    have := h.scheme _ rfl (k + i) (by omega)
    rw [Addr.add_lit] at this ⊢
    rw [e i, ← this]
    congr 2; omega
  · intro a ha i hi
    cases ha
    have := h.ident _ rfl (k + i) (by omega)
    rw [Addr.add_lit] at this ⊢
    rw [e i, ← this]
    congr 2; omega

end Go.Proofs.Qxb6605892a
