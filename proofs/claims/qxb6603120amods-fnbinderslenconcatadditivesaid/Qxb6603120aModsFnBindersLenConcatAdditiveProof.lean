/-
  THE PROOF OF 'Rows.FnBindersLenConcatAdditiveSaid': the guide's frame for a law over slices, at two slices of byte slices ('open_int_rows'), round the law's walk (Qxb6603120aModsBindLaw).
-/
import Derived.Test.Qxb6603120aModsRows
import Derived.Test.Qxb6603120aModsBindLaw
import Derived.WalkKit
import Derived.ProofKit
import Derived.OpenShut
import Derived.ChangeOld
import Derived.Below
import Derived.Deep.Matrix
namespace Go.Proofs.Qxb6603120aMods.fnBindersLenConcatAdditive
open Go.ChangeShapes Go.WideShapes Go.ChangeAt Go.RowKit Go.Deep

theorem own : ownKnob Trym.prog.godebug = none := by kernel_rfl
theorem laidOut : laidOutB Trym.prog = true := by kernel_rfl
theorem cells27 : Trym.prog.cellsOf 27 = 1 := by kernel_rfl
theorem cells5 : Trym.prog.cellsOf 5 = 1 := by kernel_rfl

/-- What the walk is told of a list of binders that came in. -/
def IsList (w : World) (ao : Option Addr) (len cap : Nat) (ls : List Nat) : Prop :=
  ls.length = len ∧ Bd.Rs w ao ls ∧ (ao = none → ls = [] ∧ cap = 0) ∧ ls.length ≤ maxLen ∧ ∀ l ∈ ls, l ≤ maxLen

theorem plain_at {w : World} {a : Addr} {v : Value} (h : w.cell? (a.add 0) = some v) : ∃ b off, a = ⟨b, off, none⟩ := by
  obtain ⟨b, off, spot⟩ := a
  have hspot : spot = none := by simpa [Addr.add] using World.cell?_spot h
  subst hspot
  exact ⟨b, off, rfl⟩

/-- From the argument's reading to the list of lengths. -/
theorem isList_of {H : Type} {enc : TypeId × Value → H} {W : World} {ao : Option Addr} {len cap : Nat} {x : DataW H × List MemPlace} {fuel : Nat}
    (hf : DataW.trod enc Trym.prog W 0 (fun _ => true) true fuel 22 [.slice ao len cap] = some x) : ∃ ls, IsList W ao len cap ls := by
  rcases open_int_rows Trym.underlying22 Trym.underlying27 Trym.underlying5 cells27 cells5 hf with ⟨hcs, _⟩ | ⟨a, l, c, A, L, C, Z, hcs, _, hl, hm, _, hx⟩
  · simp at hcs
    obtain ⟨rfl, rfl, rfl⟩ := hcs
    exact ⟨[], rfl, fun i hi => absurd hi (Nat.not_lt_zero _), fun _ => ⟨rfl, rfl⟩, Nat.zero_le _, fun l h => by cases h⟩
  · simp at hcs
    obtain ⟨rfl, rfl, rfl⟩ := hcs
    have hlen : ((List.range len).map L).length = len := by simp
    refine ⟨(List.range len).map L, hlen, fun i hi => ?_, (fun h => by cases h), by rw [hlen]; omega, fun l hl' => ?_⟩
    · rw [hlen] at hi
      obtain ⟨b, off, rfl⟩ := plain_at (hx 0 (by omega)).1
      obtain ⟨h1, h2, h3, h4, h5, h6, h7⟩ := hx i (by omega)
      have e : ((List.range len).map L)[i] = L i := by simp
      refine ⟨b, off, A i, C i, rfl, ?_, ?_, ?_⟩
      · rw [e, ← add_plain]; exact h1
      · rw [e]; intro hn; have := h6 hn; omega
      · rw [e]
        intro a' ha' j hj
        obtain ⟨_, h8⟩ := h7 a' ha'
        obtain ⟨b', o', rfl⟩ := plain_at (h8 0 (by omega))
        exact ⟨b', o', _, rfl, by rw [← add_plain]; exact h8 j (by omega)⟩
    · obtain ⟨i, hi, rfl⟩ := List.mem_map.1 hl'
      have hi' := List.mem_range.1 hi
      obtain ⟨_, h2, h3, _⟩ := hx i (by omega)
      omega

theorem walk (a0 : Option Addr) (len0 cap0 : Nat) (l0 : List Nat) (a1 : Option Addr) (len1 cap1 : Nat) (l1 : List Nat) (w : World) (w0 : IsList w a0 len0 cap0 l0) (w1 : IsList w a1 len1 cap1 l1) :
    Calls Trym.prog 3 #[.slice a0 len0 cap0, .slice a1 len1 cap1] w fun e w' => e = .returned (.bool true) ∧ Below w.heap.size w w' := by
  obtain ⟨rfl, hA, nA, hl, hL⟩ := w0
  obtain ⟨rfl, hB, nB, hm, hM⟩ := w1
  exact Bd.walk a0 a1 cap0 cap1 l0 l1 w hA hB nA nB hl hm hL hM

set_option maxRecDepth 100000 in
theorem lifted (os : Os) (started : os.Started) (H : Type) (enc : TypeId × Value → H) :
    ReturnsInHanded {} Trym.checked os 3 .any (Rows.fnBindersLenConcatAdditiveSpec.pre6 enc Trym.prog Trym.f3 Rows.fnBindersLenConcatAdditiveRow.domain false) (Rows.fnBindersLenConcatAdditiveSpec.post enc Trym.prog Trym.f3 false true false false) := by
  refine returnsInHanded_of_change (C := Trym.checked) own started (by kernel_rfl) Trym.func3
    (ChangeSpec.witness6 (enc := enc) (C := Trym.checked) false ⟨#[], #[.slice none 0 0, .slice none 0 0], []⟩ 8 (by kernel_rfl) (by kernel_rfl) (by kernel_rfl) (by kernel_rfl)) ?_
  intro W base args ds gs before hval0 hW hcnd _
  have hval : ∀ (j : Nat) t v, Trym.f3.params[j]? = some t → args[j]? = some v → Value.okWide Trym.prog W .any base t v := hval0
  have hW' := hW
  obtain ⟨p, q, hA0, hV, rfl, hfz, hnd⟩ := hW
  have hA : DataW.TrodAll enc Trym.prog W 0 (fun _ => true) true Trym.f3.params.toList args.toList ds p := hA0
  rw [Trym.params3] at hA hval
  obtain ⟨v0, vs0, d0, ds0, p0, q0, hargs, rfl, rfl, h0, r0⟩ := trodAll_cons hA
  obtain ⟨v1, vs1, d1, ds1, p1, q1, rfl, rfl, rfl, h1, r1⟩ := trodAll_cons r0
  obtain ⟨rfl, rfl, rfl⟩ := trodAll_nil r1
  obtain rfl : args = #[v0, v1] := by cases args; simp_all
  obtain ⟨rfl, rfl⟩ := trodVars_none hV
  obtain ⟨a0, len0, cap0, rfl⟩ := okWide_slice Trym.underlying22 (hval 0 22 v0 rfl rfl)
  have k0 := h0
  have lt0 : ∀ x ∈ p0, x.block < W.heap.size := by obtain ⟨m, hm⟩ := k0; exact DataW.trod_lt m _ _ _ hm
  obtain ⟨l0, w0⟩ : ∃ ls, IsList W a0 len0 cap0 ls := by
    obtain ⟨fuel, hf⟩ := h0
    exact isList_of (by simpa [Value.cells] using hf)
  obtain ⟨a1, len1, cap1, rfl⟩ := okWide_slice Trym.underlying22 (hval 1 22 v1 rfl rfl)
  have k1 := h1
  have lt1 : ∀ x ∈ p1, x.block < W.heap.size := by obtain ⟨m, hm⟩ := k1; exact DataW.trod_lt m _ _ _ hm
  obtain ⟨l1, w1⟩ : ∃ ls, IsList W a1 len1 cap1 ls := by
    obtain ⟨fuel, hf⟩ := h1
    exact isList_of (by simpa [Value.cells] using hf)
  clear hA0 hval0
  refine (walk a0 len0 cap0 l0 a1 len1 cap1 l1 W w0 w1).mono fun e W' ⟨he, bel⟩ => ?_
  subst he
  exact ⟨_, rfl, _, _, _, [], _, [], hW', trodAll_mk1 (shut_bool Trym.underlying4 _), trodAll_cons_mk (Below.trod laidOut (by kernel_rfl) (of_decide_eq_true (by kernel_rfl)) k0 bel lt0) (trodAll_cons_mk (Below.trod laidOut (by kernel_rfl) (of_decide_eq_true (by kernel_rfl)) k1 bel lt1) trodAll_mk0), rfl, bel.frame _, fun h => by cases h⟩

theorem over : Rows.fnBindersLenConcatAdditiveRow.holds Trym.pinned (OpenSpec.ofChange Rows.fnBindersLenConcatAdditiveSpec) :=
  OpenClaim.holds_of_wide 3 Trym.f3 rfl rfl rfl rfl rfl rfl rfl ⟨rfl, rfl, rfl, rfl, rfl⟩ rfl rfl rfl rfl rfl (by kernel_rfl) Trym.func3 (by kernel_rfl)
    (of_decide_eq_true (by kernel_rfl)) (by unfold Func.isWrapper; first | (rw [if_pos (by decide +kernel)]; kernel_rfl) | (rw [if_neg (by decide +kernel)]; exact ⟨rfl, rfl⟩))
    (fun os started H enc _ => lifted os started H enc)

/-- THE STATEMENT -/
theorem proved : Rows.FnBindersLenConcatAdditiveSaid := over
end Go.Proofs.Qxb6603120aMods.fnBindersLenConcatAdditive
