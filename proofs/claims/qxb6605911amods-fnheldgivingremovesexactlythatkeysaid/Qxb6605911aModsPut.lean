/-
  ZZnewAlikeResults and ZZputAlike. Proof text of this seat.
-/
import Derived.Test.Qxb6605911aModsState
namespace Go.Proofs.Qxb6605911aMods
open Go.RowKit Go.Maps

theorem new_state (w : World) (d : Recs) (g : Nat → Bool) (S Rb : Nat → Nat) :
    AState ((w.alloc (.map #[] 0)).alloc (.cells #[.map (some w.heap.size), .slice none 0 0] 43)) w.heap.size (w.heap.size + 1) w.heap.size d g 0 S Rb (.slice none 0 0) := by
  have hr := World.rowIs_alloc (w.alloc (.map #[] 0)) #[.map (some w.heap.size), .slice none 0 0] 43 (fun j => if j = 0 then .map (some w.heap.size) else .slice none 0 0) (fun i hi => by
    have hf : i = 0 ∨ i = 1 := by simp at hi; omega
    rcases hf with rfl | rfl <;> rfl)
  simp at hr
  exact ⟨hr, (World.ownsMap_made w _ _ _).alloc _, World.ownsRow_nil _ _ _ _, fun i hi => absurd hi (Nat.not_lt_zero _), fun i hi => absurd hi (Nat.not_lt_zero _), Nat.le_succ _, Nat.le_refl _, fun i hi => absurd hi (Nat.not_lt_zero _), fun i hi => absurd hi (Nat.not_lt_zero _)⟩

set_option maxHeartbeats 400000 in
theorem new_any (d : Recs) (w : World) :
    Calls Trym.prog 9 #[] w fun e w' => e = .returned (.pointer (some ⟨w.heap.size + 1, 0, none⟩)) ∧ AState w' w.heap.size (w.heap.size + 1) w.heap.size d d.G 0 (fun _ => 0) (fun _ => 0) (.slice none 0 0) ∧ Below w.heap.size w w' := by
  have hmm := @run_makeMap Trym.prog
  go_enter Trym.func9, Trym.ntmps9
  go_wp2
  go_ret
  exact ⟨rfl, new_state w d _ _ _, ((Below.refl _ _).alloc (Nat.le_refl _) _).alloc (by simp) _⟩

theorem resRow_step (R : Nat → ByteArray) (m j : Nat) : splice (resRow R m) (m * 16) (resCells (R m) (.slice none 0 0)).toArray.toList j = resRow R (m + 1) j := by
  by_cases h1 : m * 16 ≤ j ∧ j < m * 16 + 16
  · rw [splice_in (vs := resCells (R m) (.slice none 0 0)) h1]
    have e1 : j / 16 = m := by omega
    have e2 : j % 16 = j - m * 16 := by omega
    simp only [resRow]
    rw [e1, e2, if_pos (by omega)]
  · rw [splice_out (vs := resCells (R m) (.slice none 0 0)) h1]
    simp only [resRow]
    by_cases h2 : j / 16 < m
    · rw [if_pos h2, if_pos (by omega)]
    · rw [if_neg h2, if_neg (by omega)]

theorem put_rowA {wr w1 : World} {B A M : Nat} {d : Recs} {g : Nat → Bool} {c : Nat} {S Rb : Nat → Nat} {kv : Value} (h : AState wr B A M d g c S Rb kv) {o : Obj} (hg : (wr.alloc o).grownBy w1 (some M)) :
    w1.rowIs A 43 2 (fun j => if j = 0 then .map (some M) else kv) :=
  (h.rowA.alloc o).of_block (hg.block A (h.rowA.alloc o).lt (fun e => rowIs_ne_map h.rowA h.map (by simpa using e)))

theorem put_keys {wr w1 : World} {B A M : Nat} {d : Recs} {g : Nat → Bool} {c : Nat} {S Rb : Nat → Nat} {kv : Value} (h : AState wr B A M d g c S Rb kv) {o : Obj} (hg : (wr.alloc o).grownBy w1 (some M)) :
    w1.ownsRow B 9 1 kv c (keyCells d c) :=
  ownsRow_block (h.keys.alloc o) (fun b hb => hg.block b ((h.keys.alloc o).lt b hb).2 (fun e => map_ne_own h.map h.keys (by rw [hb]; simpa using e.symm)))

theorem own_shape {w : World} {base : Nat} {e : TypeId} {size : Nat} {v : Value} {n : Nat} {xs : List Value} (h : w.ownsRow base e size v (n + 1) xs) : ∃ g cap, v = .slice (some ⟨g, 0, none⟩) (n + 1) cap := by
  rcases h.2 with ⟨_, h0⟩ | ⟨g, cap, _, rfl, _⟩
  · omega
  · exact ⟨g, cap, rfl⟩

theorem put_rowA2 {w1 w2 : World} {B A M : Nat} {kv : Value} {c : Nat} {xs : List Value} (h : w1.rowIs A 43 2 (fun j => if j = 0 then .map (some M) else kv)) (hk : w1.ownsRow B 9 1 kv c xs) {o : Obj} (hg : (w1.alloc o).grownBy w2 kv.ownBlock) :
    w2.rowIs A 43 2 (fun j => if j = 0 then .map (some M) else kv) :=
  (h.alloc o).of_block (hg.block A (h.alloc o).lt (rowIs_ne_own h hk (by decide)))

def updN (S : Nat → Nat) (c v i : Nat) : Nat := if i = c then v else S i
theorem updN_same (S : Nat → Nat) (c v : Nat) : updN S c v c = v := if_pos rfl
theorem updN_lt {S : Nat → Nat} {c v i : Nat} (h : i < c) : updN S c v i = S i := if_neg (by omega)

theorem blk_alloc_old (w : World) (o : Obj) (b : Nat) (h : b < w.heap.size) : (w.alloc o).heap[b]? = w.heap[b]? := Below.heap_alloc w o b h

theorem put_state {wr w1 w2 : World} {B A M Rk : Nat} {d : Recs} {c : Nat} {S Rb : Nat → Nat} {kv v' : Value} (h : AState wr B A M d d.G c S Rb kv) (hrow : wr.rowIs Rk 52 (d.L c * 16) (resRow (d.R c) (d.L c)))
    (hg1 : (wr.alloc (.cells #[.int .i64 (d.C c), .slice (some ⟨Rk, 0, none⟩) (d.L c) (d.L c), .bool (d.G c), .bool (d.V c)] 55)).grownBy w1 (some M))
    (ho1 : w1.ownsMap Trym.prog 9 ptrElem M (c + 1) ((mapD d S c).put (keyLit d c) (.lit (.int .i64 wr.heap.size))))
    (ho2 : w2.ownsRow B 9 1 v' (c + 1) (keyCells d c ++ [.string (d.K c)])) {o2 : Obj} (hg2 : (w1.alloc o2).grownBy w2 kv.ownBlock) :
    AState (w2.setCell ⟨A, 1, none⟩ v') B A M d d.G (c + 1) (updN S c wr.heap.size) (updN Rb c Rk) v' := by
  have hk1 := put_keys h hg1
  have hs : (wr.alloc (.cells #[.int .i64 (d.C c), .slice (some ⟨Rk, 0, none⟩) (d.L c) (d.L c), .bool (d.G c), .bool (d.V c)] 55)).rowIs wr.heap.size 55 4 (alikeF d d.G (updN Rb c Rk) c) :=
    World.rowIs_alloc wr _ 55 _ (fun i hi => by
      have hf : i = 0 ∨ i = 1 ∨ i = 2 ∨ i = 3 := by simp at hi; omega
      rcases hf with rfl | rfl | rfl | rfl <;> simp [alikeF, updN])
  -- a row of wr (or the new record) that is no string row, in the last world
  have carry : ∀ {b : Nat} {t : TypeId} {n : Nat} {f : Nat → Value}, (wr.alloc (.cells #[.int .i64 (d.C c), .slice (some ⟨Rk, 0, none⟩) (d.L c) (d.L c), .bool (d.G c), .bool (d.V c)] 55)).rowIs b t n f → t ≠ 9 → t ≠ 43 → (w2.setCell ⟨A, 1, none⟩ v').rowIs b t n f := by
    intro b t n f hb h9 h43
    have b1 : w1.rowIs b t n f := hb.of_block (hg1.block b hb.lt (fun e => rowIs_ne_map hb (h.map.alloc _) (by simpa using e)))
    have b2 : w2.rowIs b t n f := (b1.alloc o2).of_block (hg2.block b (b1.alloc o2).lt (rowIs_ne_own b1 hk1 h9))
    have hA2 := put_rowA2 (put_rowA h hg1) hk1 hg2
    exact b2.setOther (rowIs_ne b2 hA2 h43) _
  have hA2 := put_rowA2 (put_rowA h hg1) hk1 hg2
  refine ⟨(hA2.set 1 v').congr (fun j hj => ?_), ?_, ?_, fun i hi => ?_, fun i hi => ?_, h.loA, h.loM, fun i hi => ?_, fun i hi j hj e => ?_⟩
  · have hf : j = 0 ∨ j = 1 := by omega
    rcases hf with rfl | rfl <;> simp
  · rw [mapD, updN_same, mapD_congr c (S' := S) (fun i hi => updN_lt hi)]
    have m2 : w2.ownsMap Trym.prog 9 ptrElem M (c + 1) _ := ownsMap_block (ho1.alloc o2) (hg2.block M (ho1.alloc o2).lt (map_ne_own ho1 hk1))
    refine ownsMap_block m2 (Below.heap_setCell w2 _ _ _ (fun e => ?_))
    exact rowIs_ne_map hA2 m2 e.symm
  · have e : keyCells d (c + 1) = keyCells d c ++ [.string (d.K c)] := by simp [keyCells, List.range_succ]
    rw [e]
    refine ownsRow_block ho2 (fun b hb => Below.heap_setCell w2 _ _ _ (fun e => ?_))
    subst e
    exact rowIs_ne_own hA2 ho2 (by decide) hb.symm
  · by_cases e : i = c
    · subst e
      rw [updN_same]
      exact carry hs (by decide) (by decide)
    · rw [updN_lt (by omega)]
      refine carry (((h.recS i (by omega)).alloc _).congr (fun j _ => ?_)) (by decide) (by decide)
      simp only [alikeF, updN_lt (show i < c from by omega)]
  · by_cases e : i = c
    · subst e
      rw [updN_same]
      exact carry (hrow.alloc _) (by decide) (by decide)
    · rw [updN_lt (by omega)]
      exact carry ((h.recR i (by omega)).alloc _) (by decide) (by decide)
  · by_cases e : i = c
    · subst e; rw [updN_same]; have := h.loA; have := h.rowA.lt; omega
    · rw [updN_lt (by omega)]; exact h.loS i (by omega)
  · by_cases e1 : i = c
    · by_cases e2 : j = c
      · omega
      · subst e1
        rw [updN_same, updN_lt (by omega)] at e
        have := (h.recS j (by omega)).lt
        omega
    · by_cases e2 : j = c
      · subst e2
        rw [updN_same, updN_lt (by omega)] at e
        have := (h.recS i (by omega)).lt
        omega
      · rw [updN_lt (by omega), updN_lt (by omega)] at e
        exact h.inj i (by omega) j (by omega) e

theorem put_below {w wr w1 w2 : World} {B A M : Nat} {d : Recs} {c : Nat} {S Rb : Nat → Nat} {kv v' : Value} (hb : Below B w wr) (h : AState wr B A M d d.G c S Rb kv) {o1 o2 : Obj}
    (hg1 : (wr.alloc o1).grownBy w1 (some M)) {n : Nat} {xs : List Value} (_ho2 : w2.ownsRow B 9 1 v' n xs) (hg2 : (w1.alloc o2).grownBy w2 kv.ownBlock) : Below B w (w2.setCell ⟨A, 1, none⟩ v') := by
  have hB : B ≤ wr.heap.size := by have := h.loA; have := h.rowA.lt; omega
  have b1 := (hb.alloc hB o1).grown hg1 (by simp; omega) (fun k e => by cases e; exact h.loM)
  have hB1 : B ≤ w1.heap.size := by have := hg1.size; simp at this; omega
  have hk1 := put_keys h hg1
  exact ((b1.alloc hB1 o2).grown hg2 (by simp; omega) (fun k e => (hk1.lt k e).1)).setCell h.loA _

set_option maxHeartbeats 1000000 in
set_option maxRecDepth 100000 in
theorem put_any (B A M : Nat) (d : Recs) (c : Nat) (S Rb : Nat → Nat) (kv : Value) (ra : Option Addr) (rc : Nat) (w : World)
    (hc : c < d.n) (hn : d.n ≤ 4096) (hL : d.L c ≤ 65536) (hK : (d.K c).size ≤ maxLen) (hs : Strs w ra (d.L c) (d.R c)) (h : AState w B A M d d.G c S Rb kv) :
    Calls Trym.prog 10 #[.pointer (some ⟨A, 0, none⟩), .string (d.K c), .int .i64 (d.C c), .bool (d.G c), .bool (d.V c), .slice ra (d.L c) rc] w fun e w' =>
      e = .returned (.tuple #[]) ∧ (∃ S' Rb' kv', AState w' B A M d d.G (c + 1) S' Rb' kv') ∧ Below B w w' := by
  have hmk := fun W => make_eq (P := Trym.prog) Trym.underlying44 Trym.info52 (d.L c) (by omega) (by omega) W
  simp only [Value.cells] at hmk
  go_enter Trym.func10, Trym.ntmps10
  go_wp2
  clear hmk
  go_loopw [13, 19] (fun _ i wr => ∃ m : Nat, m ≤ d.L c ∧ i = .int .i64 m ∧ Below w.heap.size w wr ∧ wr.rowIs w.heap.size 52 (d.L c * 16) (resRow (d.R c) m)) (fun _ i _ => d.L c - (intOf i).toNat)
  case atStart => exact ⟨0, Nat.zero_le _, rfl, (Below.refl _ _).alloc (Nat.le_refl _) _, (rowIs_madeN _ _ _ _).congr (fun j _ => by simp [resRow, zeroRes])⟩
  case round =>
    obtain ⟨m, hm, rfl, hbel, hrow⟩ := hrel
    by_cases hlm : m < d.L c
    · obtain ⟨b1, o1, rfl, g1⟩ := hs.below hbel (Nat.le_refl _) m hlm
      have Hfit : Hid (m * 16 + (resCells (d.R c m) (.slice none 0 0)).toArray.size ≤ d.L c * 16) := hide (by simp [resCells]; omega)
      have Hone : Hid ((resCells (d.R c m) (.slice none 0 0)).toArray.all (·.oneCell') = true) := hide (by simp [resCells, Value.oneCell'])
      go_wp2_with (refine wpList_store_rowIs rfl 52 _ _ rfl w.heap.size (m * 16) (resCells (d.R c m) (.slice none 0 0)).toArray rfl rfl 52 (d.L c * 16) (resRow (d.R c) m) hrow Hfit Trym.sz52 Hone ?_; intro W hrow2 hgr hsz; clear hsz)
      go_roundw
      case rel => exact ⟨m + 1, by omega, by go_num, hbel.grown hgr hbel.size (fun k e => by cases e; exact Nat.le_refl _), hrow2.congr (fun j _ => resRow_step _ _ _)⟩
      case measure => simp [intOf]; omega
    · have e : m = d.L c := by omega
      subst e
      have h1 := h.keep (fun b hb => hbel.block b hb)
      have a0 : wr.cell? ⟨A, 0, none⟩ = some (.map (some M)) := h1.rowA.cell (by omega)
      have hkey := WideMaps.keyOf_string_mk (P := Trym.prog) Trym.underlying9 hK
      obtain ⟨i0, hi, hz0, hz1, hz2⟩ := info_parts Trym.info9
      have Hs := hide hs
      clear hs
      go_wp2_with (first | (at_mapUpdate; refine wpList_mapUpdate_own _ rfl _ _ _ 41 rfl 9 53 law9 Trym.underlying41 ptrElem M c _ rfl (h1.map.alloc _) (by unfold maxLen; omega) _ _ _ rfl rfl hkey _ [] rfl ?_; intro w1 hown1 hgrow1; have a1 := put_rowA h1 hgrow1; have a2 := a1.cell (i := 1) (by omega); have hk1 := put_keys h1 hgrow1; have hB1 : B ≤ w1.heap.size := Nat.le_trans h1.loA (Nat.le_of_lt a1.lt)) | (at_builtin; refine wpList_append_own_at _ rfl _ _ 29 rfl B 9 i0 (.string ⟨#[]⟩) 1 16 Trym.underlying29 hi hz0 hz1 hz2 rfl (by decide) _ _ _ rfl (hk1.alloc _) ⟨w1.heap.size, 0, none⟩ 1 1 [.string (d.K c)] rfl rfl (cell_one_new _ _ _) (by simp [Value.oneCell']) (by unfold maxLen; omega) (by omega) (by simp; omega) ?_; intro v' w2 hown2 hgrow2 hnil hloc; obtain ⟨gg, cp, hv'⟩ := own_shape hown2; subst hv'; have hA2 := put_rowA2 a1 hk1 hgrow2; have c2 := hA2.cell (i := 1) (by omega); have f2 := hA2.frozen 1))
      go_end0
      exact ⟨rfl, ⟨_, _, _, put_state h1 hrow hgrow1 hown1 hown2 hgrow2⟩, put_below (hbel.mono (by have := h.rowA.lt; have := h.loA; omega)) h1 hgrow1 hown2 hgrow2⟩
end Go.Proofs.Qxb6605911aMods
