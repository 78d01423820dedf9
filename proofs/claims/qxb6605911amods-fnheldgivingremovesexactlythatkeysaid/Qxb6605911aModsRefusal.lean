/-
  ZZsetGiven and (*alikeResult).refusal. Proof text of this seat.
-/
import Derived.Test.Qxb6605911aModsPut
import Derived.Deep.Cut
namespace Go.Proofs.Qxb6605911aMods
open Go.RowKit Go.Maps

def setB (g : Nat → Bool) (j i : Nat) : Bool := if i = j then true else g i

theorem given_state {w : World} {B A M : Nat} {d : Recs} {g : Nat → Bool} {c : Nat} {S Rb : Nat → Nat} {kv : Value} (h : AState w B A M d g c S Rb kv) {j : Nat} (hj : j < c) :
    AState (w.setCell ⟨S j, 2, none⟩ (.bool true)) B A M d (setB g j) c S Rb kv := by
  have hS := h.recS j hj
  refine ⟨h.rowA.setOther (rowIs_ne h.rowA hS (by decide)) _, ownsMap_block h.map (Below.heap_setCell w _ _ _ (fun e => rowIs_ne_map hS h.map e.symm)), ownsRow_block h.keys (fun b hb => Below.heap_setCell w _ _ _ (fun e => ?_)), fun i hi => ?_, fun i hi => (h.recR i hi).setOther (rowIs_ne (h.recR i hi) hS (by decide)) _, h.loA, h.loM, h.loS, h.inj⟩
  · subst e
    exact rowIs_ne_own hS h.keys (by decide) hb.symm
  · by_cases e : i = j
    · subst e
      refine (hS.set 2 _).congr (fun k hk => ?_)
      have hf : k = 0 ∨ k = 1 ∨ k = 2 ∨ k = 3 := by omega
      rcases hf with rfl | rfl | rfl | rfl <;> simp [alikeF, setB]
    · refine ((h.recS i hi).setOther (fun e2 => e (h.inj i hi j hj e2)) _).congr (fun k hk => ?_)
      simp only [alikeF, setB, if_neg e]

set_option maxHeartbeats 400000 in
theorem given_any (B A M : Nat) (d : Recs) (g : Nat → Bool) (S Rb : Nat → Nat) (kv : Value) (j : Nat) (w : World) (hj : j < d.n) (hap : Apart d d.n) (hK : ∀ i, i < d.n → (d.K i).size ≤ maxLen) (h : AState w B A M d g d.n S Rb kv) :
    Calls Trym.prog 12 #[.pointer (some ⟨A, 0, none⟩), .string (d.K j)] w fun e w' => e = .returned (.tuple #[]) ∧ AState w' B A M d (setB g j) d.n S Rb kv ∧ Below B w w' ∧ w' = w.setCell ⟨S j, 2, none⟩ (.bool true) := by
  have hlook := h.look hap (Nat.le_refl _) hK hj
  have a0 : w.cell? ⟨A, 0, none⟩ = some (.map (some M)) := h.rowA.cell (by omega)
  have s2 := (h.recS j hj).cell (i := 2) (by omega)
  have f2 := (h.recS j hj).frozen 2
  have hfin := given_state h hj
  have hlo := h.loS j hj
  clear hap hK
  go_enter Trym.func12, Trym.ntmps12
  go_wp2
  go_end0
  exact ⟨rfl, hfin, (Below.refl _ _).setCell hlo _, rfl⟩

theorem results_one {fn : Func} {p : Tmp} {ty : TypeId} (h : fn.results = #[.cell p ty]) (tmps : Array Value) (P : Program) (w : World) :
    (results fn tmps).run P w = ((asAddr (tmps.getD p undef)).run P w).andThen fun a w₁ => (loadVar ty a).run P w₁ := by
  simp only [results, h]
  simp [Sem.run_bind, Result.andThen]

def alV (r L : Nat) : Value := if 1 < L then .slice (some ⟨r, 16, none⟩) (L - 1) (L - 1) else .slice none 0 0

theorem res_range {w : World} {r L : Nat} {R : Nat → ByteArray} (h : w.rowIs r 52 (L * 16) (resRow R L)) {m : Nat} (hm : m < L) : w.rangeAt r (m * 16) (resCells (R m) (.slice none 0 0)) := by
  intro j v hv
  have hj : j < 16 := (List.getElem?_eq_some_iff.1 hv).1
  rw [h.cell (by omega)]
  have e1 : (m * 16 + j) / 16 = m := by omega
  have e2 : (m * 16 + j) % 16 = j := by omega
  simp only [resRow, e1, e2, if_pos hm]
  rw [List.getD_eq_getElem?_getD, hv]
  rfl

theorem row_range {w : World} {b t : Nat} {cs : List Value} {n : Nat} {f : Nat → Value} (h : w.rowIs b t n f) (hn : n = cs.length) (hf : ∀ j v, cs[j]? = some v → f j = v) : w.rangeAt b 0 cs := by
  intro j v hv
  have hj : j < cs.length := (List.getElem?_eq_some_iff.1 hv).1
  rw [Nat.zero_add, h.cell (by omega), hf j v hv]

def zeroRow : Array Value := #[Value.string ⟨#[]⟩, .string ⟨#[]⟩, .string ⟨#[]⟩, .bool false, .string ⟨#[]⟩, .string ⟨#[]⟩, .string ⟨#[]⟩, .string ⟨#[]⟩, .string ⟨#[]⟩, .string ⟨#[]⟩, .string ⟨#[]⟩, .pointer none, .pointer none, .nilIface, .slice none 0 0, .slice none 0 0]
theorem alloc52 (W : World) : (Instr.alloc 52 true (.tuple #[])).run Trym.prog W = .ok (.pointer (some ⟨W.heap.size, 0, none⟩)) (W.alloc (.cells zeroRow 52)) := by kernel_rfl

/-- 'var x T' boxed, at the operation; the world behind it is a variable. -/
theorem wpList_alloc_row {P : Program} {ops : Array Oper} {rest : List Oper} {o : Oper} {a : Act} {w : World} {Q : Exit → Act → World → Prop} (hg : o.guard = none) (ty : TypeId) (hop : o.op = .alloc ty) (cs : Array Value)
    (hrun : ∀ W : World, (Instr.alloc ty true (.tuple #[])).run P W = .ok (.pointer (some ⟨W.heap.size, 0, none⟩)) (W.alloc (.cells cs ty)))
    (hK : ∀ w', w'.rowIs w.heap.size ty cs.size (fun j => cs.getD j undef) → Below w.heap.size w w' → w'.heap.size = w.heap.size + 1 → wpList P ops Q rest (a.put o.dst (.pointer (some ⟨w.heap.size, 0, none⟩))) w') : wpList P ops Q (o :: rest) a w := by
  refine wpList_plain hg fun K' hK' => ?_
  unfold Oper.wp
  simp [execOp, hop, hrun, Result.andThen]
  exact hK' _ _ (hK _ (World.rowIs_alloc w cs ty _ (fun i hi => by simp [hi])) ((Below.refl _ _).alloc (Nat.le_refl _) _) (by simp))

theorem splice_at {f : Nat → Value} {vs : List Value} {j : Nat} {v : Value} (hv : vs[j]? = some v) : splice f 0 vs j = v := by
  have hj : j < vs.length := (List.getElem?_eq_some_iff.1 hv).1
  rw [splice_in (by omega), Nat.sub_zero, List.getD_eq_getElem?_getD, hv]
  rfl

set_option maxHeartbeats 1000000 in
set_option maxRecDepth 100000 in
theorem refusal_one (s r : Nat) (R : Nat → ByteArray) (f : Nat → Value) (w : World) (hf : f 1 = .slice (some ⟨r, 0, none⟩) 1 1) (hs : w.rowIs s 55 4 f) (hr : w.rowIs r 52 (1 * 16) (resRow R 1)) :
    Calls Trym.prog 19 #[.pointer (some ⟨s, 0, none⟩)] w fun e w' => e = .returned (.agg (resCells (R 0) (.slice none 0 0)).toArray) ∧ Below w.heap.size w w' := by
  have c1 : ∀ W, Below w.heap.size w W → W.cell? ⟨s, 1, none⟩ = some (.slice (some ⟨r, 0, none⟩) 1 1) := fun W hb => by rw [← hf]; exact (rowIs_below hs hb (Nat.le_refl _)).cell (by omega)
  have C1 := hide c1
  have hrange : ∀ W, Below w.heap.size w W → W.rangeAt r 0 (resCells (R 0) (.slice none 0 0)) := fun W hb => by
    have := res_range (rowIs_below hr hb (Nat.le_refl _)) (m := 0) (by omega)
    rwa [Nat.zero_mul] at this
  have HR := hide hrange
  have Hone : Hid ((resCells (R 0) (.slice none 0 0)).toArray.all (·.oneCell') = true) := hide (by simp [resCells, Value.oneCell'])
  clear hf c1 hrange
  go_enter Trym.func19, Trym.ntmps19
  go_upto_region 1 with (refine wpList_alloc_row rfl 52 rfl zeroRow alloc52 ?_; intro w1 r1 b1 z1)
  have C2 := C1.out w1 b1
  have R2 := HR.out w1 b1
  go_upto_region 2 with (first | (refine wpList_alloc_row rfl 52 rfl zeroRow alloc52 ?_; intro w2 r2 b2 z2) | (refine wpList_load_mid rfl 52 _ rfl r 0 rfl (resCells (R 0) (.slice none 0 0)) _ R2 Trym.underlying52 rfl Trym.sz52 ?_) | (refine wpList_store_rowIs rfl 52 _ _ rfl w1.heap.size 0 (resCells (R 0) (.slice none 0 0)).toArray rfl rfl 52 16 _ r2 (by simp [resCells]) Trym.sz52 Hone ?_; intro w3 r3 g3 z3))
  go_frame
  have b3 : Below w.heap.size w w3 := ((b1.trans (b2.mono (by omega))).grown g3 (by omega) (fun k e => by cases e; omega))
  have C3 := C1.out w3 b3
  have q3 : w3.rowIs w.heap.size 52 16 (fun j => zeroRow.getD j undef) := (rowIs_below r1 b2 (Nat.le_refl _)).of_block (g3.block _ (by omega) (by simp; omega))
  have R3 : w3.rangeAt w1.heap.size 0 (resCells (R 0) (.slice none 0 0)) := row_range r3 rfl (fun j v hv => splice_at hv)
  go_wp2_with (first | (refine wpList_load_mid rfl 52 _ rfl w1.heap.size 0 rfl (resCells (R 0) (.slice none 0 0)) _ R3 Trym.underlying52 rfl Trym.sz52 ?_) | (refine wpList_store_rowIs rfl 52 _ _ rfl w.heap.size 0 (resCells (R 0) (.slice none 0 0)).toArray rfl rfl 52 16 _ q3 (by simp [resCells]) Trym.sz52 Hone ?_; intro w4 r4 g4 z4))
  have fin := run_loadVar_mid (P := Trym.prog) w4 w.heap.size 0 52 (resCells (R 0) (.slice none 0 0)) _ (row_range r4 rfl (fun j v hv => splice_at hv)) Trym.underlying52 rfl Trym.sz52
  refine bodyPost_ret (v := .agg (resCells (R 0) (.slice none 0 0)).toArray) ?_ rfl ⟨rfl, b3.grown g4 b3.size (fun k e => by cases e; exact Nat.le_refl _)⟩
  rw [results_one Trym.results19]
  exact fin

theorem res_at15 {f : Nat → Value} {nm : ByteArray} {al x : Value} {j : Nat} {v : Value} (hv : (resCells nm x)[j]? = some v) : (if j = 15 then x else splice f 0 (resCells nm al) j) = v := by
  have hj : j < 16 := (List.getElem?_eq_some_iff.1 hv).1
  by_cases e : j = 15
  · subst e
    rw [if_pos rfl]
    simpa [resCells] using hv
  · rw [if_neg e, splice_in (vs := resCells nm al) ⟨Nat.zero_le _, by show j < 0 + 16; omega⟩, Nat.sub_zero]
    have hf : j = 0 ∨ j = 1 ∨ j = 2 ∨ j = 3 ∨ j = 4 ∨ j = 5 ∨ j = 6 ∨ j = 7 ∨ j = 8 ∨ j = 9 ∨ j = 10 ∨ j = 11 ∨ j = 12 ∨ j = 13 ∨ j = 14 := by omega
    rcases hf with rfl | rfl | rfl | rfl | rfl | rfl | rfl | rfl | rfl | rfl | rfl | rfl | rfl | rfl | rfl <;> simpa [resCells] using hv

set_option maxHeartbeats 1000000 in
set_option maxRecDepth 100000 in
theorem refusal_more (s r L : Nat) (R : Nat → ByteArray) (f : Nat → Value) (w : World) (hL1 : 1 < L) (hL : L ≤ 65536) (hf : f 1 = .slice (some ⟨r, 0, none⟩) L L) (hs : w.rowIs s 55 4 f) (hr : w.rowIs r 52 (L * 16) (resRow R L)) :
    Calls Trym.prog 19 #[.pointer (some ⟨s, 0, none⟩)] w fun e w' => e = .returned (.agg (resCells (R 0) (.slice (some ⟨r, 16, none⟩) (L - 1) (L - 1))).toArray) ∧ Below w.heap.size w w' := by
  have c1 : ∀ W, Below w.heap.size w W → W.cell? ⟨s, 1, none⟩ = some (.slice (some ⟨r, 0, none⟩) L L) := fun W hb => by rw [← hf]; exact (rowIs_below hs hb (Nat.le_refl _)).cell (by omega)
  have C1 := hide c1
  have hrange : ∀ W, Below w.heap.size w W → W.rangeAt r 0 (resCells (R 0) (.slice none 0 0)) := fun W hb => by
    have := res_range (rowIs_below hr hb (Nat.le_refl _)) (m := 0) (by omega)
    rwa [Nat.zero_mul] at this
  have HR := hide hrange
  have Hone : Hid ((resCells (R 0) (.slice none 0 0)).toArray.all (·.oneCell') = true) := hide (by simp [resCells, Value.oneCell'])
  clear hf c1 hrange
  go_enter Trym.func19, Trym.ntmps19
  go_upto_region 1 with (refine wpList_alloc_row rfl 52 rfl zeroRow alloc52 ?_; intro w1 r1 b1 z1)
  have C2 := C1.out w1 b1
  have R2 := HR.out w1 b1
  go_upto_region 2 with (first | (refine wpList_alloc_row rfl 52 rfl zeroRow alloc52 ?_; intro w2 r2 b2 z2) | (refine wpList_load_mid rfl 52 _ rfl r 0 rfl (resCells (R 0) (.slice none 0 0)) _ R2 Trym.underlying52 rfl Trym.sz52 ?_) | (refine wpList_store_rowIs rfl 52 _ _ rfl w1.heap.size 0 (resCells (R 0) (.slice none 0 0)).toArray rfl rfl 52 16 _ r2 (by simp [resCells]) Trym.sz52 Hone ?_; intro w3 r3 g3 z3))
  go_frame
  have b3 : Below w.heap.size w w3 := ((b1.trans (b2.mono (by omega))).grown g3 (by omega) (fun k e => by cases e; omega))
  have C3 := C1.out w3 b3
  have q3 : w3.rowIs w.heap.size 52 16 (fun j => zeroRow.getD j undef) := (rowIs_below r1 b2 (Nat.le_refl _)).of_block (g3.block _ (by omega) (by simp; omega))
  have hne : w.heap.size ≠ w1.heap.size := by omega
  have hle : w.heap.size ≤ w1.heap.size := by omega
  have c15 := r3.cell (i := 15) (by omega)
  have f15 := r3.frozen 15
  clear z1 z2 z3
  go_upto_region 4 with fail
  have r4 := r3.set 15 (.slice (some ⟨r, 16, none⟩) (L - 1) (L - 1))
  have q4 := q3.setOther (a := ⟨w1.heap.size, 15, none⟩) hne (.slice (some ⟨r, 16, none⟩) (L - 1) (L - 1))
  have b4 := b3.setCell (p := ⟨w1.heap.size, 15, none⟩) hle (.slice (some ⟨r, 16, none⟩) (L - 1) (L - 1))
  generalize hw4 : w3.setCell ⟨w1.heap.size, 15, none⟩ (.slice (some ⟨r, 16, none⟩) (L - 1) (L - 1)) = w4 at *
  clear hw4
  have R4 : w4.rangeAt w1.heap.size 0 (resCells (R 0) (.slice (some ⟨r, 16, none⟩) (L - 1) (L - 1))) := row_range r4 rfl (fun j v hv => res_at15 hv)
  have Hone2 : Hid ((resCells (R 0) (.slice (some ⟨r, 16, none⟩) (L - 1) (L - 1))).toArray.all (·.oneCell') = true) := hide (by simp [resCells, Value.oneCell'])
  go_wp2_with (first | (refine wpList_load_mid rfl 52 _ rfl w1.heap.size 0 rfl (resCells (R 0) (.slice (some ⟨r, 16, none⟩) (L - 1) (L - 1))) _ R4 Trym.underlying52 rfl Trym.sz52 ?_) | (refine wpList_store_rowIs rfl 52 _ _ rfl w.heap.size 0 (resCells (R 0) (.slice (some ⟨r, 16, none⟩) (L - 1) (L - 1))).toArray rfl rfl 52 16 _ q4 (by simp [resCells]) Trym.sz52 Hone2 ?_; intro w5 r5 g5 z5))
  have fin := run_loadVar_mid (P := Trym.prog) w5 w.heap.size 0 52 (resCells (R 0) (.slice (some ⟨r, 16, none⟩) (L - 1) (L - 1))) _ (row_range r5 rfl (fun j v hv => splice_at hv)) Trym.underlying52 rfl Trym.sz52
  refine bodyPost_ret (v := .agg (resCells (R 0) (.slice (some ⟨r, 16, none⟩) (L - 1) (L - 1))).toArray) ?_ rfl ⟨rfl, b4.grown g5 b4.size (fun k e => by cases e; exact Nat.le_refl _)⟩
  rw [results_one Trym.results19]
  exact fin

/-- a key's refusal, in new memory of its own -/
theorem refusal_any (s r L : Nat) (R : Nat → ByteArray) (f : Nat → Value) (w : World) (hL1 : 0 < L) (hL : L ≤ 65536) (hf : f 1 = .slice (some ⟨r, 0, none⟩) L L) (hs : w.rowIs s 55 4 f) (hr : w.rowIs r 52 (L * 16) (resRow R L)) :
    Calls Trym.prog 19 #[.pointer (some ⟨s, 0, none⟩)] w fun e w' => e = .returned (.agg (resCells (R 0) (alV r L)).toArray) ∧ Below w.heap.size w w' := by
  by_cases h : 1 < L
  · have := refusal_more s r L R f w h hL hf hs hr
    rwa [show alV r L = .slice (some ⟨r, 16, none⟩) (L - 1) (L - 1) from if_pos h]
  · obtain rfl : L = 1 := by omega
    have := refusal_one s r R f w hf hs hr
    rwa [show alV r 1 = .slice none 0 0 from if_neg (by omega)]
end Go.Proofs.Qxb6605911aMods
