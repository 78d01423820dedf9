/-
  ZZheldNames: the names of held's results and of each one's AlikeRefusals, in new memory. Proof text of this seat.
-/
import Derived.Test.Qxb6605911aModsHeld
namespace Go.Proofs.Qxb6605911aMods
open Go.RowKit Go.Maps

theorem Trym.info29 : (Trym.prog.info? 29).map (fun i => (i.zero, i.size, i.bytes)) = some (some (.slice none 0 0), 1, 24) := by kernel_rfl

def alA (r L : Nat) : Option Addr := if 1 < L then some ⟨r, 16, none⟩ else none
theorem alV_eq (r L : Nat) : alV r L = .slice (alA r L) (L - 1) (L - 1) := by
  unfold alV alA
  split
  · rfl
  · rw [show L - 1 = 0 from by omega]

theorem flat16 {α : Type} {f : Nat → List α} (hf : ∀ i, (f i).length = 16) : ∀ (l : List Nat) (i r : Nat), r < 16 → ∀ (hi : i < l.length), (l.flatMap f)[i * 16 + r]? = (f l[i])[r]?
  | [], i, r, _, hi => absurd hi (Nat.not_lt_zero _)
  | x :: t, 0, r, hr, _ => by
    rw [List.flatMap_cons, List.getElem?_append_left (by rw [hf]; omega)]
    simp
  | x :: t, i + 1, r, hr, hi => by
    rw [List.flatMap_cons, List.getElem?_append_right (by rw [hf]; omega), hf, show (i + 1) * 16 + r - 16 = i * 16 + r from by omega, flat16 hf t i r hr (by simpa using hi)]
    simp

/-- held's results, as the caller reads them -/
def HeldAt (w : World) (a : Option Addr) (n : Nat) (d : Recs) (Rb ix : Nat → Nat) : Prop :=
  ∀ i, i < n → ∃ gb, a = some ⟨gb, 0, none⟩ ∧ w.cell? ⟨gb, i * 16, none⟩ = some (.string (d.R (ix i) 0)) ∧ w.cell? ⟨gb, i * 16 + 15, none⟩ = some (.slice (alA (Rb (ix i)) (d.L (ix i))) (d.L (ix i) - 1) (d.L (ix i) - 1))

theorem HeldAt.below {w w' : World} {a : Option Addr} {n : Nat} {d : Recs} {Rb ix : Nat → Nat} (h : HeldAt w a n d Rb ix) {B : Nat} (hb : Below B w w') (hB : w.heap.size ≤ B) : HeldAt w' a n d Rb ix := fun i hi => by
  obtain ⟨gb, e, h1, h2⟩ := h i hi
  have k : ∀ (p : Addr) (v : Value), w.cell? p = some v → w'.cell? p = some v := fun p v hc => (hb.cell (by have := World.block_lt_of_cell? _ _ hc; omega)).trans hc
  exact ⟨gb, e, k _ _ h1, k _ _ h2⟩

def ixOf (l : List Nat) (i : Nat) : Nat := l.getD i 0

theorem kept_ix (d : Recs) (g : Nat → Bool) (k : Nat) : ∀ i, i < (kept d g k).length → ixOf (kept d g k) i < k ∧ isKept d g (ixOf (kept d g k) i) = true := fun i hi => by
  have e : ixOf (kept d g k) i = (kept d g k)[i] := by simp [ixOf, hi]
  have hm : (kept d g k)[i] ∈ kept d g k := List.getElem_mem hi
  rw [e]
  generalize (kept d g k)[i] = x at hm
  unfold kept at hm
  rw [List.mem_filter, List.mem_range] at hm
  exact hm

theorem held_view {w W : World} {d : Recs} {g : Nat → Bool} {Rb : Nat → Nat} {k : Nat} {v : Value} (h : HeldInv w W d g Rb k v) : ∃ a cap, v = .slice a (kept d g k).length cap ∧ HeldAt W a (kept d g k).length d Rb (ixOf (kept d g k)) := by
  have ho := h.own
  rcases h.own.2 with ⟨rfl, h0⟩ | ⟨gb, cap, cur, rfl, _⟩
  · rw [h0]
    exact ⟨none, 0, rfl, fun i hi => absurd hi (Nat.not_lt_zero _)⟩
  · refine ⟨_, _, rfl, fun i hi => ⟨gb, rfl, ?_, ?_⟩⟩
    · have e := flat16 (f := fun i => resCells (d.R i 0) (alV (Rb i) (d.L i))) (fun _ => rfl) (kept d g k) i 0 (by omega) hi
      rw [Nat.add_zero] at e
      rw [ho.cellAt (i * 16) (by omega), heldCells, e]
      simp [resCells, ixOf, hi]
    · have e := flat16 (f := fun i => resCells (d.R i 0) (alV (Rb i) (d.L i))) (fun _ => rfl) (kept d g k) i 15 (by omega) hi
      rw [ho.cellAt (i * 16 + 15) (by omega), heldCells, e]
      simp [resCells, ixOf, hi, alV_eq]

/-- what ZZheldNames hands out -/
structure NamesAt (w : World) (bn bg n : Nat) (d : Recs) (ix : Nat → Nat) : Prop where
  names : ∀ i, i < n → w.cell? ⟨bn, i, none⟩ = some (.string (d.R (ix i) 0))
  groups : ∀ i, i < n → ∃ x, w.cell? ⟨bg, i, none⟩ = some (.slice x (d.L (ix i) - 1) (d.L (ix i) - 1)) ∧ Strs w x (d.L (ix i) - 1) (fun m => d.R (ix i) (m + 1))

structure NInv (w1 wr : World) (n : Nat) (d : Recs) (ix : Nat → Nat) (G : Nat → Nat) (kn kg : Nat) : Prop where
  below : Below w1.heap.size w1 wr
  rown : wr.rowIs w1.heap.size 9 n (fun j => if j < kn then .string (d.R (ix j) 0) else .string ⟨#[]⟩)
  rowg : wr.rowIs (w1.heap.size + 1) 29 n (fun j => if j < kg then .slice (some ⟨G j, 0, none⟩) (d.L (ix j) - 1) (d.L (ix j) - 1) else .slice none 0 0)
  rows : ∀ i, i < kg → w1.heap.size + 1 < G i ∧ wr.rowIs (G i) 9 (d.L (ix i) - 1) (fun m => .string (d.R (ix i) (m + 1)))

theorem n_start (w1 : World) (n : Nat) (d : Recs) (ix : Nat → Nat) (G : Nat → Nat) : NInv w1 ((w1.alloc (.cells (madeCells #[.string ⟨#[]⟩] n) 9)).alloc (.cells (madeCells #[.slice none 0 0] n) 29)) n d ix G 0 0 := by
  have h2 := World.rowIs_made (w1.alloc (.cells (madeCells #[.string ⟨#[]⟩] n) 9)) (.slice none 0 0) n 29
  rw [World.size_alloc] at h2
  exact ⟨((Below.refl _ _).alloc (Nat.le_refl _) _).alloc (by simp) _, ((World.rowIs_made w1 _ n 9).alloc _).congr (fun j _ => by simp), h2.congr (fun j _ => by simp), fun i hi => absurd hi (Nat.not_lt_zero _)⟩

/-- 'names[k] = rs[k].Name' -/
theorem n_name {w1 wr : World} {n : Nat} {d : Recs} {ix G : Nat → Nat} {k : Nat} (h : NInv w1 wr n d ix G k k) : NInv w1 (wr.setCell ⟨w1.heap.size, k, none⟩ (.string (d.R (ix k) 0))) n d ix G (k + 1) k := by
  refine ⟨h.below.setCell (Nat.le_refl _) _, (h.rown.set k _).congr (fun j _ => ?_), h.rowg.setOther (by show w1.heap.size + 1 ≠ w1.heap.size; omega) _, fun i hi => ?_⟩
  · by_cases e : j = k
    · subst e; simp
    · simp only [if_neg e]
      by_cases hj : j < k
      · rw [if_pos hj, if_pos (by omega)]
      · rw [if_neg hj, if_neg (by omega)]
  · obtain ⟨h1, h2⟩ := h.rows i hi
    exact ⟨h1, h2.setOther (by show G i ≠ w1.heap.size; omega) _⟩

/-- 'groups[k] = group' -/
theorem n_group {w1 W0 W : World} {n : Nat} {d : Recs} {ix G : Nat → Nat} {k : Nat} (h : NInv w1 W0 n d ix G (k + 1) k) (hb : Below W0.heap.size W0 W) (hr : W.rowIs W0.heap.size 9 (d.L (ix k) - 1) (fun m => .string (d.R (ix k) (m + 1)))) :
    NInv w1 (W.setCell ⟨w1.heap.size + 1, k, none⟩ (.slice (some ⟨W0.heap.size, 0, none⟩) (d.L (ix k) - 1) (d.L (ix k) - 1))) n d ix (updN G k W0.heap.size) (k + 1) (k + 1) := by
  have hlt := h.rowg.lt
  refine ⟨(h.below.trans (hb.mono h.below.size)).setCell (by show w1.heap.size ≤ w1.heap.size + 1; omega) _, (rowIs_below h.rown hb (Nat.le_refl _)).setOther (by show w1.heap.size ≠ w1.heap.size + 1; omega) _, ((rowIs_below h.rowg hb (Nat.le_refl _)).set k _).congr (fun j _ => ?_), fun i hi => ?_⟩
  · by_cases e : j = k
    · subst e; simp [updN]
    · simp only [if_neg e, updN]
      by_cases hj : j < k
      · rw [if_pos hj, if_pos (by omega)]
      · rw [if_neg hj, if_neg (by omega)]
  · by_cases e : i = k
    · subst e
      rw [updN_same]
      exact ⟨hlt, hr.setOther (by show W0.heap.size ≠ w1.heap.size + 1; omega) _⟩
    · rw [updN_lt (by omega)]
      obtain ⟨h1, h2⟩ := h.rows i (by omega)
      exact ⟨h1, (rowIs_below h2 hb (Nat.le_refl _)).setOther (by show G i ≠ w1.heap.size + 1; omega) _⟩

theorem n_done {w1 W : World} {n : Nat} {d : Recs} {ix G : Nat → Nat} (h : NInv w1 W n d ix G n n) : NamesAt W w1.heap.size (w1.heap.size + 1) n d ix := by
  refine ⟨fun i hi => by rw [h.rown.cell hi, if_pos hi], fun i hi => ⟨some ⟨G i, 0, none⟩, by rw [h.rowg.cell hi, if_pos hi], fun m hm => ⟨_, _, rfl, ?_⟩⟩⟩
  rw [Nat.zero_add]
  exact (h.rows i hi).2.cell hm

theorem name_at {w : World} {r L : Nat} {R : Nat → ByteArray} (h : w.rowIs r 52 (L * 16) (resRow R L)) {m : Nat} (hm : m + 1 < L) : w.cell? ⟨r, 16 + m * 16, none⟩ = some (.string (R (m + 1))) := by
  have := res_range h hm 0 (.string (R (m + 1))) rfl
  rwa [show (m + 1) * 16 + 0 = 16 + m * 16 from by omega] at this

set_option maxHeartbeats 1000000 in
set_option maxRecDepth 100000 in
theorem names_any (B A M : Nat) (d : Recs) (g : Nat → Bool) (S Rb : Nat → Nat) (kv : Value) (w : World) (hn : d.n ≤ 4096) (hL : ∀ i, i < d.n → d.L i ≤ 65536) (hap : Apart d d.n) (hK : ∀ i, i < d.n → (d.K i).size ≤ maxLen) (h : AState w B A M d g d.n S Rb kv) :
    Calls Trym.prog 11 #[.pointer (some ⟨A, 0, none⟩)] w fun e w' => ∃ bn bg, e = .returned (.tuple #[.slice (some ⟨bn, 0, none⟩) (kept d g d.n).length (kept d g d.n).length, .slice (some ⟨bg, 0, none⟩) (kept d g d.n).length (kept d g d.n).length])
      ∧ NamesAt w' bn bg (kept d g d.n).length d (ixOf (kept d g d.n)) ∧ Below w.heap.size w w' := by
  go_enter Trym.func11, Trym.ntmps11
  go_wp2_with fail
  refine (held_any B A M d g S Rb kv w hn hL hap hK h).mono ?_
  rintro e w1 ⟨v, rfl, hinv⟩
  obtain ⟨a, cap, rfl, hview⟩ := held_view hinv
  have hkl := kept_le d g d.n
  have hst := h.keep (fun b hb => hinv.below.block b hb)
  have hb1 := hinv.below
  have hix := kept_ix d g d.n
  clear hinv h
  generalize hN : (kept d g d.n).length = N at *
  generalize hI : ixOf (kept d g d.n) = ix at *
  have HN := hide hN
  have HI := hide hI
  clear hN hI
  have hmk1 := fun W => make_eq (P := Trym.prog) Trym.underlying29 Trym.info9 N (by omega) (by omega) W
  have hmk2 := fun W => make_eq (P := Trym.prog) Trym.underlying32 Trym.info29 N (by omega) (by omega) W
  simp only [Value.cells, Nat.mul_one] at hmk1 hmk2
  have Hix := hide hix
  have HL := hide hL
  clear hap hK hix hL
  go_wp2
  clear hmk1 hmk2
  go_loopw [20] (fun i wr => ∃ (k : Nat) (G : Nat → Nat), k ≤ N ∧ i = .int .i64 k ∧ NInv w1 wr N d ix G k k) (fun i _ => N - (intOf i).toNat)
  case atStart => exact ⟨0, fun _ => 0, Nat.zero_le _, rfl, n_start _ _ _ _ _⟩
  case round =>
    obtain ⟨k, G, hk, rfl, hinv⟩ := hrel
    by_cases hlt : k < N
    · obtain ⟨gb, rfl, hc0, hc15⟩ := hview.below hinv.below (Nat.le_refl _) k hlt
      obtain ⟨hxn, hxk⟩ := Hix.out k hlt
      have hLk := HL.out (ix k) hxn
      have Hk := hide hxk
      clear hxk
      have g3 := hinv.rown.cell hlt
      have g4 := hinv.rown.frozen k
      go_upto_region 8 with fail
      have hinv2 := n_name hinv
      generalize hW1 : wr.setCell ⟨w1.heap.size, k, none⟩ (.string (d.R (ix k) 0)) = W1 at *
      clear hW1 g3 g4 hc0 hc15 hinv
      obtain ⟨gb', e1, _, hc15⟩ := hview.below hinv2.below (Nat.le_refl _) k hlt
      simp at e1
      subst e1
      have hmk := fun W => make_eq (P := Trym.prog) Trym.underlying29 Trym.info9 (d.L (ix k) - 1) (by omega) (by omega) W
      simp only [Value.cells, Nat.mul_one] at hmk
      have hgb : gb < W1.heap.size := by simpa using World.block_lt_of_cell? _ _ hc15
      go_wp2
      clear hmk
      go_loopw [44] (fun i wi => ∃ m : Nat, m ≤ d.L (ix k) - 1 ∧ i = .int .i64 m ∧ Below W1.heap.size W1 wi ∧ wi.rowIs W1.heap.size 9 (d.L (ix k) - 1) (fun j => if j < m then .string (d.R (ix k) (j + 1)) else .string ⟨#[]⟩)) (fun i _ => d.L (ix k) - 1 - (intOf i).toNat)
      case atStart => exact ⟨0, Nat.zero_le _, rfl, (Below.refl _ _).alloc (Nat.le_refl _) _, (World.rowIs_made _ _ _ _).congr (fun j _ => by simp)⟩
      case round =>
        obtain ⟨m, hm, rfl, hbel, hrw⟩ := hrel
        by_cases hlm : m < d.L (ix k) - 1
        · have c15 := (hbel.cell (p := ⟨gb, k * 16 + 15, none⟩) hgb).trans hc15
          rw [show alA (Rb (ix k)) (d.L (ix k)) = some ⟨Rb (ix k), 16, none⟩ from if_pos (by omega)] at c15
          have cn := name_at (rowIs_below (hst.recR (ix k) hxn) (hinv2.below.trans (hbel.mono hinv2.below.size)) (Nat.le_refl _)) (m := m) (by omega)
          have g3 := hrw.cell hlm
          have g4 := hrw.frozen m
          have hstp := copy_str (S := fun j => d.R (ix k) (j + 1)) hbel hrw
          clear hc15
          go_wp2
          go_roundw
          case rel => exact ⟨m + 1, by omega, by go_num, hstp.1, hstp.2⟩
          case measure => simp [intOf]; omega
        · have e1 : m = d.L (ix k) - 1 := by omega
          subst e1
          have hfull := hrw.congr (g := fun j => .string (d.R (ix k) (j + 1))) (fun j hj => if_pos hj)
          have g3 := (rowIs_below hinv2.rowg hbel (Nat.le_refl _)).cell hlt
          have g4 := (rowIs_below hinv2.rowg hbel (Nat.le_refl _)).frozen k
          have hfin := n_group hinv2 hbel hfull
          go_wp2
          go_roundw
          case rel => exact ⟨k + 1, _, by omega, by go_num, hfin⟩
          case measure => simp [intOf]; omega
    · go_wp2
      go_ret2
      have e : k = N := by omega
      rw [HN.out, HI.out]
      subst e
      exact ⟨w1.heap.size, w1.heap.size + 1, rfl, n_done hinv, hb1.trans (hinv.below.mono hb1.size)⟩
end Go.Proofs.Qxb6605911aMods
