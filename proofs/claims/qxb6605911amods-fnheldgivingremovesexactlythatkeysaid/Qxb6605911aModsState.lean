/-
  What the run's 'alikeResults' holds in memory while the law fills it. Proof text of this seat.
-/
import Derived.Test.Qxb6605911aModsCopy
import Derived.Test.Qxb6605911aModsReach
import Derived.Maps.OwnSet
import Derived.Maps.OwnOps
import Derived.Maps.AppendAt
namespace Go.Proofs.Qxb6605911aMods
open Go.RowKit Go.Maps

theorem Trym.info52 : (Trym.prog.info? 52).map (fun i => (i.zero, i.size, i.bytes)) = some (some (.agg #[.string ⟨#[]⟩, .string ⟨#[]⟩, .string ⟨#[]⟩, .bool false, .string ⟨#[]⟩, .string ⟨#[]⟩, .string ⟨#[]⟩, .string ⟨#[]⟩, .string ⟨#[]⟩, .string ⟨#[]⟩, .string ⟨#[]⟩, .pointer none, .pointer none, .nilIface, .slice none 0 0, .slice none 0 0]), 16, 248) := by kernel_rfl
theorem Trym.sz52 : (Trym.prog.info? 52).map (·.size) = some 16 := by kernel_rfl
theorem Trym.zero53 (w : World) : (zeroValue 53).run Trym.prog w = .ok (.pointer none) w := by kernel_rfl
theorem law9 : Keyed Trym.prog 9 := string_keyed Trym.underlying9

/-- the sixteen cells of a Result that ZZputAlike makes; al: its AlikeRefusals -/
def resCells (nm : ByteArray) (al : Value) : List Value := [.string nm, .string ⟨#[]⟩, .string ⟨#[]⟩, .bool false, .string ⟨#[]⟩, .string ⟨#[]⟩, .string ⟨#[]⟩, .string ⟨#[100, 110, 115, 115, 101, 99]⟩, .string ⟨#[]⟩, .string ⟨#[]⟩, .string ⟨#[]⟩, .pointer none, .pointer none, .nilIface, .slice none 0 0, al]
def zeroRes (f : Nat) : Value := (#[Value.string ⟨#[]⟩, .string ⟨#[]⟩, .string ⟨#[]⟩, .bool false, .string ⟨#[]⟩, .string ⟨#[]⟩, .string ⟨#[]⟩, .string ⟨#[]⟩, .string ⟨#[]⟩, .string ⟨#[]⟩, .string ⟨#[]⟩, .pointer none, .pointer none, .nilIface, .slice none 0 0, .slice none 0 0] : Array Value)[f]!
/-- the row of a key's refusals, m of them laid -/
def resRow (R : Nat → ByteArray) (m j : Nat) : Value := if j / 16 < m then (resCells (R (j / 16)) (.slice none 0 0)).getD (j % 16) undef else zeroRes (j % 16)

/-- how a map's element is told: by the block that it points to -/
def ptrElem : Value → Option (DataW Unit × List MemPlace)
  | .pointer (some ⟨b, 0, none⟩) => some (.lit (.int .i64 b), [])
  | .pointer none => some (.nil, [])
  | _ => none
theorem ptrElem_inv {v : Value} {b : Nat} {ps : List MemPlace} (h : ptrElem v = some (.lit (.int .i64 b), ps)) : v = .pointer (some ⟨b, 0, none⟩) := by
  unfold ptrElem at h
  split at h
  · simp at h; rw [show _ = b from Int.ofNat_inj.1 h.1]
  · simp at h
  · cases h

def keyLit (d : Recs) (i : Nat) : Lit := .string (d.K i).data.toList
def mapD (d : Recs) (S : Nat → Nat) : Nat → DataW Unit
  | 0 => .map []
  | c + 1 => (mapD d S c).put (keyLit d c) (.lit (.int .i64 (S c)))
def keyCells (d : Recs) (c : Nat) : List Value := (List.range c).map fun i => .string (d.K i)

theorem mapD_isMap (d : Recs) (S : Nat → Nat) : ∀ c, IsMap (mapD d S c)
  | 0 => isMap_empty
  | c + 1 => (mapD_isMap d S c).put _ _

theorem keyLit_inj {d : Recs} {i j : Nat} (h : keyLit d i = keyLit d j) : d.K i = d.K j := by
  simp only [keyLit, Lit.string.injEq] at h
  have h2 := Array.toList_inj.1 h
  cases hi : d.K i; cases hj : d.K j
  rw [hi, hj] at h2
  simp only at h2
  rw [h2]

theorem mapD_at {d : Recs} {S : Nat → Nat} (hap : Apart d d.n) : ∀ (c : Nat), c ≤ d.n → ∀ i, i < c → ∀ z, (mapD d S c).atKey (keyLit d i) z = .lit (.int .i64 (S i))
  | 0, _, i, hi, z => absurd hi (Nat.not_lt_zero _)
  | c + 1, hc, i, hi, z => by
    rw [mapD]
    by_cases e : i = c
    · subst e
      exact atKey_put_same (mapD_isMap _ _ _) (show WideAt.IsKeyLit (.string _) from trivial) _ _
    · rw [atKey_put_other (fun h => hap i (by omega) c (by omega) (by omega) (keyLit_inj h))]
      exact mapD_at hap c (by omega) i (by omega) z

theorem mapD_congr {d : Recs} {S S' : Nat → Nat} : ∀ c, (∀ i, i < c → S i = S' i) → mapD d S c = mapD d S' c
  | 0, _ => rfl
  | c + 1, h => by rw [mapD, mapD, mapD_congr c (fun i hi => h i (by omega)), h c (by omega)]

/-- the four cells of a key's record -/
def alikeF (d : Recs) (g : Nat → Bool) (Rb : Nat → Nat) (i j : Nat) : Value :=
  if j = 0 then .int .i64 (d.C i) else if j = 1 then .slice (some ⟨Rb i, 0, none⟩) (d.L i) (d.L i) else if j = 2 then .bool (g i) else .bool (d.V i)

structure AState (w : World) (B A M : Nat) (d : Recs) (g : Nat → Bool) (c : Nat) (S Rb : Nat → Nat) (kv : Value) : Prop where
  rowA : w.rowIs A 43 2 (fun j => if j = 0 then .map (some M) else kv)
  map : w.ownsMap Trym.prog 9 ptrElem M c (mapD d S c)
  keys : w.ownsRow B 9 1 kv c (keyCells d c)
  recS : ∀ i, i < c → w.rowIs (S i) 55 4 (alikeF d g Rb i)
  recR : ∀ i, i < c → w.rowIs (Rb i) 52 (d.L i * 16) (resRow (d.R i) (d.L i))
  loA : B ≤ A
  loM : B ≤ M
  loS : ∀ i, i < c → B ≤ S i
  inj : ∀ i, i < c → ∀ j, j < c → S i = S j → i = j

theorem ownsMap_block {w w' : World} {b n : Nat} {D : DataW Unit} (h : w.ownsMap Trym.prog 9 ptrElem b n D) (e : w'.heap[b]? = w.heap[b]?) : w'.ownsMap Trym.prog 9 ptrElem b n D := by
  obtain ⟨es, cl, hb, r⟩ := h
  exact ⟨es, cl, e.trans hb, r⟩

theorem ownsRow_block {w w' : World} {base : Nat} {e : TypeId} {size : Nat} {v : Value} {n : Nat} {xs : List Value} (h : w.ownsRow base e size v n xs) (hk : ∀ b, v.ownBlock = some b → w'.heap[b]? = w.heap[b]?) : w'.ownsRow base e size v n xs := by
  obtain ⟨h1, h2⟩ := h
  refine ⟨h1, ?_⟩
  rcases h2 with h2 | ⟨g, cap, cur, rfl, hb, hg, r⟩
  · exact .inl h2
  · exact .inr ⟨g, cap, cur, rfl, hb, (hk g rfl).trans hg, r⟩

/-- all that the state lies in is as it was -/
theorem AState.keep {w w' : World} {B A M : Nat} {d : Recs} {g : Nat → Bool} {c : Nat} {S Rb : Nat → Nat} {kv : Value} (h : AState w B A M d g c S Rb kv) (hk : ∀ b, b < w.heap.size → w'.heap[b]? = w.heap[b]?) : AState w' B A M d g c S Rb kv :=
  ⟨h.rowA.of_block (hk _ h.rowA.lt), ownsMap_block h.map (hk _ h.map.lt), ownsRow_block h.keys (fun b hb => hk _ (h.keys.lt b hb).2), fun i hi => (h.recS i hi).of_block (hk _ (h.recS i hi).lt), fun i hi => (h.recR i hi).of_block (hk _ (h.recR i hi).lt), h.loA, h.loM, h.loS, h.inj⟩

/-- two rows of different element types are two blocks -/
theorem rowIs_ne {w : World} {b b' : Nat} {t t' : TypeId} {n n' : Nat} {f f' : Nat → Value} (h : w.rowIs b t n f) (h' : w.rowIs b' t' n' f') (ht : t ≠ t') : b ≠ b' := by
  rintro rfl
  obtain ⟨c, hc, _⟩ := h
  obtain ⟨c', hc', _⟩ := h'
  rw [hc] at hc'
  simp at hc'
  exact ht hc'.2
theorem rowIs_ne_map {w : World} {b M : Nat} {t : TypeId} {n m : Nat} {f : Nat → Value} {D : DataW Unit} (h : w.rowIs b t n f) (h' : w.ownsMap Trym.prog 9 ptrElem M m D) : b ≠ M := by
  rintro rfl
  obtain ⟨c, hc, _⟩ := h
  obtain ⟨es, cl, hc', _⟩ := h'
  rw [hc] at hc'
  cases hc'
theorem rowIs_ne_own {w : World} {b : Nat} {t : TypeId} {n : Nat} {f : Nat → Value} {base : Nat} {e : TypeId} {size : Nat} {v : Value} {m : Nat} {xs : List Value} (h : w.rowIs b t n f) (h' : w.ownsRow base e size v m xs) (ht : t ≠ e) : some b ≠ v.ownBlock := by
  intro he
  obtain ⟨c, hc, _⟩ := h
  rcases h'.2 with ⟨rfl, _⟩ | ⟨g, cap, cur, rfl, _, hg, _⟩
  · cases he
  · simp [Value.ownBlock] at he
    subst he
    rw [hc] at hg
    simp at hg
    exact ht hg.2
theorem map_ne_own {w : World} {M k : Nat} {D : DataW Unit} {base : Nat} {e : TypeId} {size : Nat} {v : Value} {m : Nat} {xs : List Value} (h : w.ownsMap Trym.prog 9 ptrElem M k D) (h' : w.ownsRow base e size v m xs) : some M ≠ v.ownBlock := by
  intro he
  obtain ⟨es, cl, hc, _⟩ := h
  rcases h'.2 with ⟨rfl, _⟩ | ⟨g, cap, cur, rfl, _, hg, _⟩
  · cases he
  · simp [Value.ownBlock] at he
    subst he
    rw [hc] at hg
    cases hg

/-- what a look-up of record i's key gives -/
theorem AState.look {w : World} {B A M : Nat} {d : Recs} {g : Nat → Bool} {c : Nat} {S Rb : Nat → Nat} {kv : Value} (h : AState w B A M d g c S Rb kv) (hap : Apart d d.n) (hc : c ≤ d.n) (hK : ∀ i, i < d.n → (d.K i).size ≤ maxLen) {i : Nat} (hi : i < c) :
    (Instr.lookup 41 (.map (some M)) (.string (d.K i)) false).run Trym.prog w = .ok (.pointer (some ⟨S i, 0, none⟩)) w := by
  obtain ⟨v, ps, hrun, hv⟩ := h.map.lookup (t := 41) (e := 53) law9 Trym.underlying41 (Trym.zero53 w) (zd := .nil) (zp := []) rfl (key := .string (d.K i)) (kl := keyLit d i) (WideMaps.keyOf_string_mk Trym.underlying9 (hK i (by omega)))
  rw [mapD_at hap c hc i hi] at hv
  rw [ptrElem_inv hv] at hrun
  exact hrun
end Go.Proofs.Qxb6605911aMods
