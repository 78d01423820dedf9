/-
  Small laws on memory that this seat's walks want: make of elements of several cells, a store of several cells into a row, what stays as it was. Proof text of this seat; no Go function in sight.
-/
import Derived.Test.Qxb6605911aModsView
import Derived.Deep.OwnRows
import Derived.Deep.MidRow
import Derived.Deep.Upon
namespace Go.Proofs.Qxb6605911aMods
open Go.RowKit

theorem hide {p : Prop} (h : p) : Hid p := h

/-- 'make([]T, n)' as an equation, for a type of any number of cells. -/
theorem make_eq {P : Program} {t e : TypeId} {z : Value} {size bytes : Nat} (ht : P.underlying t = some (.slice e)) (hinfo : (P.info? e).map (fun i => (i.zero, i.size, i.bytes)) = some (some z, size, bytes))
    (n : Nat) (hb : bytes * n ≤ 281474976710656) (h63 : n ≤ 9223372036854775807) (w : World) :
    (Instr.makeSlice t (.int .i64 (n : Int)) (.int .i64 (n : Int))).run P w = .ok (.slice (some ⟨w.heap.size, 0, none⟩) n n) (w.alloc (.cells (madeCells z.cells (n * size)) e)) := by
  obtain ⟨i, hi, hzz⟩ := Option.map_eq_some_iff.1 hinfo
  simp only [Prod.mk.injEq] at hzz
  obtain ⟨hz, hs, hbb⟩ := hzz
  subst hs hbb
  have hb' : (i.bytes : Int) * (n : Int) ≤ 281474976710656 := by
    have h : ((i.bytes * n : Nat) : Int) ≤ 281474976710656 := by omega
    rwa [Int.natCast_mul] at h
  have hr := run_make (P := P) w t e i z ht hi hz .i64 .i64 n n (by omega) (Int.le_refl _) hb' (by omega)
  simp only [Int.toNat_natCast] at hr
  exact hr

/-- what make lays, elements of several cells -/
theorem rowIs_madeN (w : World) (z : Array Value) (n : Nat) (t : TypeId) : (w.alloc (.cells (madeCells z n) t)).rowIs w.heap.size t n (fun j => z[j % z.size]!) :=
  ⟨_, Go.Deep.blk_alloc_new _ _, size_madeCells _ _, fun i hi => by simp [madeCells, hi]⟩

/-- the content of a row behind a store of several cells -/
def splice (f : Nat → Value) (o : Nat) (vs : List Value) (j : Nat) : Value := if o ≤ j ∧ j < o + vs.length then vs.getD (j - o) undef else f j

theorem splice_in {f : Nat → Value} {o : Nat} {vs : List Value} {j : Nat} (h : o ≤ j ∧ j < o + vs.length) : splice f o vs j = vs.getD (j - o) undef := if_pos h
theorem splice_out {f : Nat → Value} {o : Nat} {vs : List Value} {j : Nat} (h : ¬ (o ≤ j ∧ j < o + vs.length)) : splice f o vs j = f j := if_neg h

theorem rowIs_setCells {b : Nat} {t : TypeId} {n : Nat} : ∀ (vs : List Value) (o : Nat) {w : World} {f : Nat → Value}, w.rowIs b t n f → (w.setCells b o vs).rowIs b t n (splice f o vs)
  | [], o, w, f, h => h.congr (fun i _ => by simp only [splice]; rw [if_neg (by simp)])
  | v :: r, o, w, f, h => by
    rw [World.setCells]
    refine (rowIs_setCells r (o + 1) (h.set o v)).congr (fun j _ => ?_)
    simp only [splice, List.length_cons]
    by_cases e : j = o
    · subst e
      rw [if_neg (by omega), if_pos rfl, if_pos (by omega)]
      simp
    · by_cases h1 : o + 1 ≤ j ∧ j < o + 1 + r.length
      · rw [if_pos h1, if_pos (by omega)]
        obtain ⟨k, rfl⟩ : ∃ k, j = o + 1 + k := ⟨j - (o + 1), by omega⟩
        rw [show o + 1 + k - (o + 1) = k from by omega, show o + 1 + k - o = k + 1 from by omega]
        simp
      · rw [if_neg h1, if_neg e, if_neg (by omega)]

theorem grownBy_setCells (w : World) (b o : Nat) (vs : List Value) : w.grownBy (w.setCells b o vs) (some b) := by
  have hs : ∀ (vs : List Value) (o : Nat) (w : World), (w.setCells b o vs).heap.size = w.heap.size ∧ (w.setCells b o vs).tape = w.tape := by
    intro vs
    induction vs with
    | nil => intro o w; exact ⟨rfl, rfl⟩
    | cons v r ih => intro o w; rw [World.setCells]; exact ⟨(ih _ _).1.trans (by simp [World.setCell]), (ih _ _).2⟩
  exact ⟨World.os_setCells .., (hs vs o w).2, World.output_setCells .., by rw [(hs vs o w).1]; exact Nat.le_refl _, fun i hi hne => World.heap_setCells_other w b o vs hi (fun e => hne (by rw [e]))⟩

theorem size_setCells (b : Nat) : ∀ (vs : List Value) (o : Nat) (w : World), (w.setCells b o vs).heap.size = w.heap.size
  | [], _, _ => rfl
  | v :: r, o, w => by rw [World.setCells, size_setCells b r]; simp [World.setCell]

/-- A STORE OF SEVERAL CELLS INTO A ROW, at the operation; the world behind it is a variable. -/
theorem wpList_store_rowIs {P : Program} {ops : Array Oper} {rest : List Oper} {op : Oper} {a : Act} {w : World} {Q : Exit → Act → World → Prop} (hgd : op.guard = none) (ty : TypeId) (x y : Operand) (ho : op.op = .store ty x y)
    (b o : Nat) (cells : Array Value) (hx : a.eval x = .pointer (some ⟨b, o, none⟩)) (hy : a.eval y = .agg cells)
    (t : TypeId) (n : Nat) (f : Nat → Value) (hr : w.rowIs b t n f) (hn : o + cells.size ≤ n) (hi : (P.info? ty).map (·.size) = some cells.size) (h1 : cells.all (·.oneCell') = true)
    (h : ∀ w', w'.rowIs b t n (splice f o cells.toList) → w.grownBy w' (some b) → w'.heap.size = w.heap.size → wpList P ops Q rest (a.put op.dst undef) w') : wpList P ops Q (op :: rest) a w := by
  refine wpList_store_mid hgd ty x y ho b o cells hx hy (fun j hj => ⟨?_, hr.frozen _⟩) hi h1 (h _ (rowIs_setCells _ _ hr) (grownBy_setCells ..) (size_setCells ..))
  rw [hr.cell (by omega)]; rfl

theorem Strs.below {w w' : World} {a : Option Addr} {n : Nat} {S : Nat → ByteArray} (h : Strs w a n S) {B : Nat} (hb : Below B w w') (hB : w.heap.size ≤ B) : Strs w' a n S := fun i hi => by
  obtain ⟨b, o, e, hc⟩ := h i hi
  exact ⟨b, o, e, (hb.cell (by have := World.block_lt_of_cell? _ _ hc; simp at this ⊢; omega)).trans hc⟩

theorem Strs.draw {w : World} {a : Option Addr} {n : Nat} {S : Nat → ByteArray} (h : Strs w a n S) (q : Nat) : Strs (w.drewN q) a n S := h

theorem rowIs_below {w w' : World} {b : Nat} {t : TypeId} {n : Nat} {f : Nat → Value} (h : w.rowIs b t n f) {B : Nat} (hb : Below B w w') (hB : w.heap.size ≤ B) : w'.rowIs b t n f :=
  h.of_block (hb.block _ (by have := h.lt; omega))

theorem RecAt.below {w w' : World} {b o : Nat} {d : Recs} {i : Nat} {ra : Option Addr} {rc : Nat} (h : RecAt w b o d i ra rc) {B : Nat} (hb : Below B w w') (hB : w.heap.size ≤ B) : RecAt w' b o d i ra rc := by
  have k : ∀ (p : Addr) (v : Value), w.cell? p = some v → w'.cell? p = some v := fun p v hc => (hb.cell (by have := World.block_lt_of_cell? _ _ hc; omega)).trans hc
  exact ⟨k _ _ h.key, k _ _ h.checked, k _ _ h.given, k _ _ h.verified, k _ _ h.refs, h.strs.below hb hB⟩

theorem RecsAt.below {w w' : World} {a : Option Addr} {d : Recs} (h : RecsAt w a d) {B : Nat} (hb : Below B w w') (hB : w.heap.size ≤ B) : RecsAt w' a d := fun i hi => by
  obtain ⟨b, o, ra, rc, e, hr⟩ := h i hi
  exact ⟨b, o, ra, rc, e, hr.below hb hB⟩

theorem RecsAt.draw {w : World} {a : Option Addr} {d : Recs} (h : RecsAt w a d) (q : Nat) : RecsAt (w.drewN q) a d := fun i hi => by
  obtain ⟨b, o, ra, rc, e, hr⟩ := h i hi
  exact ⟨b, o, ra, rc, e, hr.key, hr.checked, hr.given, hr.verified, hr.refs, hr.strs⟩

theorem below_grown {B : Nat} {w w' : World} {row : Option Nat} (hg : w.grownBy w' row) (hB : B ≤ w.heap.size) (hr : ∀ k, row = some k → B ≤ k) : Below B w w' := (Below.refl B w).grown hg hB hr
end Go.Proofs.Qxb6605911aMods
