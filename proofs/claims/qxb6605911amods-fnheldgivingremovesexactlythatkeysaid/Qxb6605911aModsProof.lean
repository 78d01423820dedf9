/-
  The statement: the argument opened, the law's walk, the row. Proof text of this seat.
-/
import Derived.Test.Qxb6605911aModsLaw
import Derived.ProofKit
import Derived.OpenShut
import Derived.ShutString
import Derived.ChangeOld
import Derived.Below
import Derived.Deep.Slices
import Derived.Deep.Strs
namespace Go.Proofs.Qxb6605911aMods
open Go.ChangeShapes Go.WideShapes Go.ChangeAt Go.RowKit Go.Deep
open Go.ChangeMaps (open_string shut_string)
set_option linter.unusedVariables false

theorem own : ownKnob Trym.prog.godebug = none := by kernel_rfl
theorem laidOut : laidOutB Trym.prog = true := by kernel_rfl
theorem Trym.cells31 : Trym.prog.cellsOf 31 = 5 := by kernel_rfl
theorem Trym.cells9 : Trym.prog.cellsOf 9 = 1 := by kernel_rfl
theorem Trym.cells3 : Trym.prog.cellsOf 3 = 1 := by kernel_rfl
theorem Trym.cells4 : Trym.prog.cellsOf 4 = 1 := by kernel_rfl
theorem Trym.cells29 : Trym.prog.cellsOf 29 = 1 := by kernel_rfl

theorem spot_none {w : World} {a : Addr} {v : Value} (h : w.cell? a = some v) : a.spot = none := by
  unfold World.cell? at h
  split at h
  · split at h
    · cases h
    · rename_i hs; simpa using hs
  · cases h

section
variable {H : Type} {enc : TypeId × Value → H} {w : World} {base : Nat} {spare : Nat → Bool} {held : Bool}

theorem view_strs {fuel : Nat} {v : Value} {x : DataW H × List MemPlace} (h : DataW.trod enc Trym.prog w base spare held fuel 29 [v] = some x) : ∃ ra l rc R, v = .slice ra l rc ∧ l ≤ maxLen ∧ Strs w ra l R := by
  rcases open_strs Trym.underlying29 Trym.underlying9 Trym.cells9 h with ⟨hcs, _⟩ | ⟨a, len, cap, m, Sx, hcs, _, hl, hm, hmm, _, hx⟩
  · simp at hcs
    exact ⟨none, 0, 0, fun _ => ByteArray.empty, hcs, by simp [maxLen], fun i hi => absurd hi (Nat.not_lt_zero _)⟩
  · simp at hcs
    refine ⟨some a, len, cap, Sx, hcs, by omega, fun i hi => ?_⟩
    have hlm : len ≤ m := by rw [hmm]; split <;> omega
    have h0 := (hx 0 (by omega)).1
    have hs := spot_none h0
    simp [Addr.add] at hs
    obtain ⟨b, o, sp⟩ := a
    simp at hs
    subst hs
    refine ⟨b, o, rfl, ?_⟩
    have := (hx i (by omega)).1
    rwa [Addr.add_mid] at this

/-- one record, as it is read -/
theorem view_rec {fuel : Nat} {p : Addr} {cs : List Value} {x : DataW H × List MemPlace} (hc : w.cells? base p (Trym.prog.cellsOf 31) = some cs) (h : DataW.trod enc Trym.prog w base spare held fuel 31 cs = some x) :
    ∃ (y : ByteArray × Int × Bool × Bool × Nat × (Nat → ByteArray)), ∃ ra rc, w.cell? (p.add 0) = some (.string y.1) ∧ w.cell? (p.add 1) = some (.int .i64 y.2.1) ∧ w.cell? (p.add 2) = some (.bool y.2.2.1) ∧ w.cell? (p.add 3) = some (.bool y.2.2.2.1) ∧
      w.cell? (p.add 4) = some (.slice ra y.2.2.2.2.1 rc) ∧ Strs w ra y.2.2.2.2.1 y.2.2.2.2.2 ∧ y.1.size ≤ maxLen ∧ y.2.2.2.2.1 ≤ maxLen := by
  obtain ⟨_, hl, hcell⟩ := World.cells?_some hc
  rw [Trym.cells31] at hl hcell
  obtain ⟨xs, n, _, _, _, hlen, hf⟩ := DataW.trod_struct Trym.underlying31 h
  match cs, hl with
  | [v0, v1, v2, v3, v4], _ =>
  match xs, hlen with
  | [y0, y1, y2, y3, y4], _ =>
  have h0 := hf 0 _ rfl
  have h1 := hf 1 _ rfl
  have h2 := hf 2 _ rfl
  have h3 := hf 3 _ rfl
  have h4 := hf 4 _ rfl
  simp [Trym.cells9, Trym.cells3, Trym.cells4, Trym.cells29] at h0 h1 h2 h3 h4
  obtain ⟨s, e0, _, hs⟩ := DataW.trod_string Trym.underlying9 h0
  obtain ⟨c, e1, _, _⟩ := DataW.trod_int Trym.underlying3 h1
  obtain ⟨g, e2, _⟩ := DataW.trod_bool Trym.underlying4 h2
  obtain ⟨u, e3, _⟩ := DataW.trod_bool Trym.underlying4 h3
  obtain ⟨ra, l, rc, R, e4, hll, hst⟩ := view_strs h4
  simp at e0 e1 e2 e3
  subst e0 e1 e2 e3 e4
  exact ⟨(s, c, g, u, l, R), ra, rc, hcell 0 (by omega), hcell 1 (by omega), hcell 2 (by omega), hcell 3 (by omega), hcell 4 (by omega), hst, hs, hll⟩

/-- the argument, as the law's walk wants it -/
theorem view_recs {fuel : Nat} {v : Value} {x : DataW H × List MemPlace} (h : DataW.trod enc Trym.prog w base spare held fuel 22 [v] = some x) :
    ∃ (a : Option Addr) (cap : Nat) (d : Recs), v = .slice a d.n cap ∧ d.n ≤ maxLen ∧ (∀ i, i < d.n → d.L i ≤ maxLen) ∧ (∀ i, i < d.n → (d.K i).size ≤ maxLen) ∧ RecsAt w a d := by
  rcases open_slice Trym.underlying22 h with ⟨hcs, _⟩ | ⟨a, len, cap, m, n, D, Pl, hcs, _, hl, hm, hmm, _, hx⟩
  · simp at hcs
    exact ⟨none, 0, ⟨0, fun _ => ByteArray.empty, fun _ => 0, fun _ => false, fun _ => false, fun _ => 0, fun _ _ => ByteArray.empty⟩, hcs, by simp [maxLen], fun i hi => absurd hi (Nat.not_lt_zero _), fun i hi => absurd hi (Nat.not_lt_zero _), fun i hi => absurd hi (Nat.not_lt_zero _)⟩
  · simp at hcs
    have hlm : len ≤ m := by rw [hmm]; split <;> omega
    obtain ⟨f, hf⟩ := choose_lt (α := ByteArray × Int × Bool × Bool × Nat × (Nat → ByteArray)) (n := len) (fun i hi => by
      obtain ⟨cs', h1, h2⟩ := hx i (by omega)
      exact view_rec h1 h2)
    refine ⟨some a, cap, ⟨len, fun i => (f i).1, fun i => (f i).2.1, fun i => (f i).2.2.1, fun i => (f i).2.2.2.1, fun i => (f i).2.2.2.2.1, fun i => (f i).2.2.2.2.2⟩, hcs, by show len ≤ maxLen; omega, fun i hi => ?_, fun i hi => ?_, fun i hi => ?_⟩
    · obtain ⟨_, _, _, _, _, _, _, _, _, r⟩ := hf i hi
      exact r
    · obtain ⟨_, _, _, _, _, _, _, _, r, _⟩ := hf i hi
      exact r
    · have hi' : i < len := hi
      obtain ⟨_, _, h0, _⟩ := hf 0 (by omega)
      have hs := spot_none h0
      simp [Addr.add] at hs
      obtain ⟨b, o, sp⟩ := a
      simp at hs
      subst hs
      obtain ⟨ra, rc, c0, c1, c2, c3, c4, st, _⟩ := hf i hi
      rw [Trym.cells31] at c0 c1 c2 c3 c4
      simp only [Addr.add_mid] at c0 c1 c2 c3 c4
      exact ⟨b, o, ra, rc, rfl, c0, c1, c2, c3, c4, st⟩
end

theorem walk (v : Value) (j : Int) {H : Type} {enc : TypeId × Value → H} {fuel base : Nat} {spare : Nat → Bool} {held : Bool} {x : DataW H × List MemPlace} (w : World) (h : DataW.trod enc Trym.prog w base spare held fuel 22 [v] = some x) :
    Calls Trym.prog 3 #[v, .int .i64 j] w fun e w' => e = .returned (.bool true) ∧ Below w.heap.size w w' := by
  obtain ⟨a, cap, d, rfl, hn, hL, hK, hr⟩ := view_recs h
  exact law_walk a cap j d w (by simpa [maxLen] using hn) (fun i hi => by simpa [maxLen] using hL i hi) hK hr

set_option maxRecDepth 100000 in
theorem lifted (os : Os) (started : os.Started) (H : Type) (enc : TypeId × Value → H) :
    ReturnsInHanded {} Trym.checked os 3 .any (Rows.fnHeldGivingRemovesExactlyThatKeySpec.pre6 enc Trym.prog Trym.f3 Rows.fnHeldGivingRemovesExactlyThatKeyRow.domain false) (Rows.fnHeldGivingRemovesExactlyThatKeySpec.post enc Trym.prog Trym.f3 false true false false) := by
  refine returnsInHanded_of_change (C := Trym.checked) own started (by kernel_rfl) Trym.func3
    (ChangeSpec.witness6 (enc := enc) (C := Trym.checked) false ⟨#[], #[.slice none 0 0, .int .i64 0], []⟩ 8 (by kernel_rfl) (by kernel_rfl) (by kernel_rfl) (by kernel_rfl)) ?_
  intro W base args ds gs before hval0 hW hcnd _
  have hval : ∀ (j : Nat) t v, Trym.f3.params[j]? = some t → args[j]? = some v → Value.okWide Trym.prog W .any base t v := hval0
  have hW' := hW
  obtain ⟨p, q, hA0, hV, rfl, hfz, hnd⟩ := hW
  have hA : DataW.TrodAll enc Trym.prog W 0 (fun _ => true) true Trym.f3.params.toList args.toList ds p := hA0
  rw [Trym.params3] at hA hval
  obtain ⟨v0, vs0, d0, ds0, p0, q0, hargs, rfl, rfl, h0, r0⟩ := trodAll_cons hA
  obtain ⟨v1, vs1, d1, ds1, p1, q1, rfl, rfl, rfl, h1, r1⟩ := trodAll_cons r0
  obtain ⟨rfl, rfl, rfl⟩ := trodAll_nil r1
  obtain rfl : args = #[v0, v1] := by cases args; simp_all
  obtain ⟨rfl, rfl⟩ := trodVars_none hV
  obtain ⟨a0, len0, cap0, rfl⟩ := okWide_slice Trym.underlying22 (hval 0 22 v0 rfl rfl)
  obtain ⟨a1, rfl, rfl, rfl, w1⟩ := open_int Trym.underlying3 (hval 1 3 v1 rfl rfl) h1
  have k0 := h0
  have lt0 : ∀ x ∈ p0, x.block < W.heap.size := by obtain ⟨m, hm⟩ := k0; exact DataW.trod_lt m _ _ _ hm
  obtain ⟨fuel, hf⟩ := h0
  clear hA0 hval0
  refine (walk (.slice a0 len0 cap0) a1 W (by simpa [Value.cells] using hf)).mono fun e W' ⟨he, bel⟩ => ?_
  subst he
  exact ⟨_, rfl, _, _, _, [], _, [], hW', trodAll_mk1 (shut_bool Trym.underlying4 _), (trodAll_cons_mk (Below.trod laidOut (by kernel_rfl) (of_decide_eq_true (by kernel_rfl)) k0 bel lt0) (trodAll_cons_mk (shut_int Trym.underlying3 w1) trodAll_mk0)), rfl, bel.frame _, fun h => by cases h⟩

theorem over : Rows.fnHeldGivingRemovesExactlyThatKeyRow.holds Trym.pinned (OpenSpec.ofChange Rows.fnHeldGivingRemovesExactlyThatKeySpec) :=
  OpenClaim.holds_of_wide 3 Trym.f3 rfl rfl rfl rfl rfl rfl rfl ⟨rfl, rfl, rfl, rfl, rfl⟩ rfl rfl rfl rfl rfl (by kernel_rfl) Trym.func3 (by kernel_rfl)
    (of_decide_eq_true (by kernel_rfl)) (by unfold Func.isWrapper; first | (rw [if_pos (by decide +kernel)]; kernel_rfl) | (rw [if_neg (by decide +kernel)]; exact ⟨rfl, rfl⟩))
    (fun os started H enc _ => lifted os started H enc)

/-- the statement -/
theorem fnHeldGivingRemovesExactlyThatKey_proved : Rows.FnHeldGivingRemovesExactlyThatKeySaid := over
end Go.Proofs.Qxb6605911aMods
