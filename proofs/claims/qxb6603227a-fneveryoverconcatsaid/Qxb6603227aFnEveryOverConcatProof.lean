/-
  The proof of 'Rows.FnEveryOverConcatSaid': the frame after the tool's (proof-skeleton.mjs, which does not serve arrays); the walk is in the text imported ahead.
-/
import Derived.Test.Qxb6603227aRows
import Derived.Test.Qxb6603227aEvery
import Derived.WalkKit
import Derived.ProofKit
import Derived.OpenShut
import Derived.ShutString
import Derived.ChangeOld
import Derived.Below
namespace Go.Proofs.Qxb6603227a.fnEveryOverConcat
open Go.ChangeShapes Go.WideShapes Go.ChangeAt Go.RowKit
open Go.ChangeMaps (open_string shut_string)
set_option linter.unusedVariables false

theorem own : ownKnob Try.prog.godebug = none := by kernel_rfl
theorem laidOut : laidOutB Try.prog = true := by kernel_rfl
theorem cells26 : Try.prog.cellsOf 26 = 256 := by kernel_rfl
theorem cells4 : Try.prog.cellsOf 4 = 1 := by kernel_rfl

/-- An array of 256 bools, as it reads. -/
theorem bools_of {H : Type} {enc : TypeId × Value → H} {w : World} {base : Nat} {spare : Nat → Bool} {held : Bool} {fuel : Nat} {cs : List Value} {x : DataW H × List MemPlace} (h : DataW.trod enc Try.prog w base spare held fuel 26 cs = some x) :
    ∀ i, i < 256 → ∃ b, cs[i]? = some (.bool b) := by
  obtain ⟨xs, m, _, _, _, hl, hx⟩ := DataW.trod_array Try.underlying26 h
  intro i hi
  have h1 := hx i hi
  rw [List.getElem?_eq_getElem (by omega)] at h1
  obtain ⟨b, hb, _⟩ := DataW.trod_bool Try.underlying4 h1
  rw [cells4, Nat.mul_one] at hb
  refine ⟨b, ?_⟩
  have e : (cs.drop i)[0]? = some (.bool b) := by
    have := congrArg (fun l : List Value => l[0]?) hb
    simpa [List.getElem?_take] using this
  simpa using e

def bit (cs : Array Value) (i : Nat) : Bool :=
  match cs[i]? with
  | some (.bool b) => b
  | _ => false
theorem bit_at {cs : Array Value} {i : Nat} (h : ∃ b, cs.toList[i]? = some (.bool b)) : cs[i]? = some (.bool (bit cs i)) := by
  obtain ⟨b, hb⟩ := h
  have e : cs[i]? = some (.bool b) := by simpa using hb
  unfold bit
  rw [e]

set_option maxRecDepth 100000 in
theorem lifted (os : Os) (started : os.Started) (H : Type) (enc : TypeId × Value → H) :
    ReturnsInHanded {} Try.checked os 5 .any (Rows.fnEveryOverConcatSpec.pre6 enc Try.prog Try.f5 Rows.fnEveryOverConcatRow.domain false) (Rows.fnEveryOverConcatSpec.post enc Try.prog Try.f5 false true false false) := by
  refine returnsInHanded_of_change (C := Try.checked) own started (by kernel_rfl) Try.func5
    (ChangeSpec.witness6 (enc := enc) (C := Try.checked) false ⟨#[], #[.string ⟨#[]⟩, .string ⟨#[]⟩, .agg (Array.replicate 256 (.bool false))], []⟩ 8 (by kernel_rfl) (by kernel_rfl) (by kernel_rfl) (by kernel_rfl)) ?_
  intro W base args ds gs before hval0 hW hcnd _
  have hval : ∀ (j : Nat) t v, Try.f5.params[j]? = some t → args[j]? = some v → Value.okWide Try.prog W .any base t v := hval0
  have hW' := hW
  obtain ⟨p, q, hA0, hV, rfl, hfz, hnd⟩ := hW
  have hA : DataW.TrodAll enc Try.prog W 0 (fun _ => true) true Try.f5.params.toList args.toList ds p := hA0
  rw [Try.params5] at hA hval
  obtain ⟨v0, vs0, d0, ds0, p0, q0, hargs, rfl, rfl, h0, r0⟩ := trodAll_cons hA
  obtain ⟨v1, vs1, d1, ds1, p1, q1, rfl, rfl, rfl, h1, r1⟩ := trodAll_cons r0
  obtain ⟨v2, vs2, d2, ds2, p2, q2, rfl, rfl, rfl, h2, r2⟩ := trodAll_cons r1
  obtain ⟨rfl, rfl, rfl⟩ := trodAll_nil r2
  obtain rfl : args = #[v0, v1, v2] := by cases args; simp_all
  obtain ⟨rfl, rfl⟩ := trodVars_none hV
  obtain ⟨a0, rfl, rfl, rfl, w0⟩ := open_string Try.underlying9 (hval 0 9 v0 rfl rfl) h0
  obtain ⟨a1, rfl, rfl, rfl, w1⟩ := open_string Try.underlying9 (hval 1 9 v1 rfl rfl) h1
  obtain ⟨cs, rfl, hcs⟩ : ∃ cs, v2 = .agg cs ∧ cs.size = 256 := by
    have h := hval 2 26 v2 rfl rfl
    unfold Value.okWide at h
    rw [Try.underlying26] at h
    obtain ⟨cs, e1, e2, _⟩ := h
    exact ⟨cs, e1, by rw [e2, cells26]⟩
  have k2 := h2
  have lt2 : ∀ x ∈ p2, x.block < W.heap.size := by obtain ⟨m, hm⟩ := k2; exact DataW.trod_lt m _ _ _ hm
  have hB : ∀ i, i < 256 → cs[i]? = some (.bool (bit cs i)) := by
    obtain ⟨fuel, hf⟩ := h2
    exact fun i hi => bit_at (bools_of hf i hi)
  clear hA0 hval0
  refine (law5 a0 a1 cs (bit cs) W (by unfold maxLen at w0; omega) (by unfold maxLen at w1; omega) hcs hB).mono fun e W' ⟨he, bel⟩ => ?_
  subst he
  exact ⟨_, rfl, _, _, _, [], _, [], hW', trodAll_mk1 (shut_bool Try.underlying4 _), (trodAll_cons_mk (shut_string Try.underlying9 w0) (trodAll_cons_mk (shut_string Try.underlying9 w1) (trodAll_cons_mk (Below.trod laidOut (by kernel_rfl) (of_decide_eq_true (by kernel_rfl)) k2 bel lt2) trodAll_mk0))), rfl, bel.frame _, fun h => by cases h⟩

theorem over : Rows.fnEveryOverConcatRow.holds Try.pinned (OpenSpec.ofChange Rows.fnEveryOverConcatSpec) :=
  OpenClaim.holds_of_wide 5 Try.f5 rfl rfl rfl rfl rfl rfl rfl ⟨rfl, rfl, rfl, rfl, rfl⟩ rfl rfl rfl rfl rfl (by kernel_rfl) Try.func5 (by kernel_rfl)
    (of_decide_eq_true (by kernel_rfl)) (by unfold Func.isWrapper; first | (rw [if_pos (by decide +kernel)]; kernel_rfl) | (rw [if_neg (by decide +kernel)]; exact ⟨rfl, rfl⟩))
    (fun os started H enc _ => lifted os started H enc)

/-- THE STATEMENT -/
theorem proved : Rows.FnEveryOverConcatSaid := over
#print axioms proved
end Go.Proofs.Qxb6603227a.fnEveryOverConcat
