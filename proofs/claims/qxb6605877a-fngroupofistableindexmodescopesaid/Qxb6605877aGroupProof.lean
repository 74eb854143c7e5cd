/-
  THE PROOF OF 'Rows.FnGroupOfIsTableIndexModeScopeSaid': the frame is turned from the shells that the guide's proof-skeleton.mjs writes; two structs by value (seven fields, one cell each) are opened by 'open_fields' and shut by 'Below.trod'; the walks lie in Qxb6605877aGroup.lean and Qxb6605877aMain.lean.
-/
import Derived.Test.Qxb6605877aRows
import Derived.Test.Qxb6605877aMain
import Derived.WalkKit
import Derived.ProofKit
import Derived.OpenShut
import Derived.ShutString
import Derived.ChangeOld
import Derived.Below
namespace Go.Proofs.Qxb6605877a.group
open Go.ChangeShapes Go.WideShapes Go.ChangeAt Go.RowKit
open Go.ChangeMaps (open_string shut_string)
set_option linter.unusedVariables false

theorem own : ownKnob Try.prog.godebug = none := by kernel_rfl
theorem laidOut : laidOutB Try.prog = true := by kernel_rfl
theorem cells24 : Try.prog.cellsOf 24 = 7 := by kernel_rfl
theorem cells22 : Try.prog.cellsOf 22 = 1 := by kernel_rfl
theorem cells9 : Try.prog.cellsOf 9 = 1 := by kernel_rfl
theorem cells4 : Try.prog.cellsOf 4 = 1 := by kernel_rfl
theorem cells3 : Try.prog.cellsOf 3 = 1 := by kernel_rfl

theorem array7 {α : Type} {cs : Array α} (h : cs.size = 7) : ∃ c0 c1 c2 c3 c4 c5 c6, cs = #[c0, c1, c2, c3, c4, c5, c6] := by
  obtain ⟨l⟩ := cs
  match l, h with
  | [c0, c1, c2, c3, c4, c5, c6], _ => exact ⟨c0, c1, c2, c3, c4, c5, c6, rfl⟩

/-- A 'ReqFields' that came in. -/
theorem open_fields {H : Type} {enc : TypeId × Value → H} {W : World} {r : Reach} {b0 : Nat} {v : Value} {d : DataW H} {p : List MemPlace}
    (hv : Value.okWide Try.prog W r b0 24 v) (h : DataW.Trod enc Try.prog W 0 (fun _ => true) true 24 v d p) :
    ∃ (o : Int) (t i k : ByteArray) (s : Bool) (m c : Int), v = .agg #[.int .u64 o, .string t, .string i, .string k, .bool s, .int .i64 m, .int .i64 c] := by
  obtain ⟨cs, rfl, hsz⟩ := okWide_struct Try.underlying24 hv
  obtain ⟨c0, c1, c2, c3, c4, c5, c6, rfl⟩ := array7 (hsz.trans cells24)
  obtain ⟨fuel, hf⟩ := h
  obtain ⟨xs, n, _, _, _, hlen, hx⟩ := DataW.trod_struct Try.underlying24 hf
  have hl : xs.length = 7 := hlen
  have g : ∀ i, i < 7 → ∃ y, xs[i]? = some y := fun i hi => ⟨_, List.getElem?_eq_getElem (by omega)⟩
  obtain ⟨y0, e0⟩ := g 0 (by omega)
  obtain ⟨y1, e1⟩ := g 1 (by omega)
  obtain ⟨y2, e2⟩ := g 2 (by omega)
  obtain ⟨y3, e3⟩ := g 3 (by omega)
  obtain ⟨y4, e4⟩ := g 4 (by omega)
  obtain ⟨y5, e5⟩ := g 5 (by omega)
  obtain ⟨y6, e6⟩ := g 6 (by omega)
  have k0 := (hx 0 _ rfl).trans e0
  have k1 := (hx 1 _ rfl).trans e1
  have k2 := (hx 2 _ rfl).trans e2
  have k3 := (hx 3 _ rfl).trans e3
  have k4 := (hx 4 _ rfl).trans e4
  have k5 := (hx 5 _ rfl).trans e5
  have k6 := (hx 6 _ rfl).trans e6
  obtain ⟨o, f0, _⟩ := DataW.trod_int Try.underlying22 k0
  obtain ⟨t, f1, _⟩ := DataW.trod_string Try.underlying9 k1
  obtain ⟨i, f2, _⟩ := DataW.trod_string Try.underlying9 k2
  obtain ⟨k, f3, _⟩ := DataW.trod_string Try.underlying9 k3
  obtain ⟨s, f4, _⟩ := DataW.trod_bool Try.underlying4 k4
  obtain ⟨m, f5, _⟩ := DataW.trod_int Try.underlying3 k5
  obtain ⟨c, f6, _⟩ := DataW.trod_int Try.underlying3 k6
  simp [cells22, cells9, cells4, cells3, Value.cells] at f0 f1 f2 f3 f4 f5 f6
  subst f0 f1 f2 f3 f4 f5 f6
  exact ⟨o, t, i, k, s, m, c, rfl⟩

/-! ### THE WALK: every input -/
theorem walk (o o' : Int) (t i k t' i' k' : ByteArray) (s s' : Bool) (m c m' c' : Int) (w : World) :
    Calls Try.prog 3 #[.agg #[.int .u64 o, .string t, .string i, .string k, .bool s, .int .i64 m, .int .i64 c], .agg #[.int .u64 o', .string t', .string i', .string k', .bool s', .int .i64 m', .int .i64 c']] w fun e w' =>
      e = .returned (.bool true) ∧ Below w.heap.size w w' := by
  by_cases h : t.size + i.size + k.size + t'.size + i'.size + k'.size ≤ 1048576
  · refine group_small o o' t i k t' i' k' s s' m c m' c' w h ?_
    cases (t.toList == t'.toList) <;> cases (i.toList == i'.toList) <;> cases (m == m') <;> cases (c == c') <;> simp
  · exact group_big o o' t i k t' i' k' s s' m c m' c' w (by omega)

/-! ### THE ROW's STEP -/
set_option maxRecDepth 100000 in
theorem lifted (os : Os) (started : os.Started) (H : Type) (enc : TypeId × Value → H) :
    ReturnsInHanded {} Try.checked os 3 .any (Rows.fnGroupOfIsTableIndexModeScopeSpec.pre6 enc Try.prog Try.f3 Rows.fnGroupOfIsTableIndexModeScopeRow.domain false) (Rows.fnGroupOfIsTableIndexModeScopeSpec.post enc Try.prog Try.f3 false true false false) := by
  refine returnsInHanded_of_change (C := Try.checked) own started (by kernel_rfl) Try.func3
    (ChangeSpec.witness6 (enc := enc) (C := Try.checked) false ⟨#[], #[.agg #[.int .u64 0, .string ⟨#[]⟩, .string ⟨#[]⟩, .string ⟨#[]⟩, .bool false, .int .i64 0, .int .i64 0], .agg #[.int .u64 0, .string ⟨#[]⟩, .string ⟨#[]⟩, .string ⟨#[]⟩, .bool false, .int .i64 0, .int .i64 0]], []⟩ 8 (by kernel_rfl) (by kernel_rfl) (by kernel_rfl) (by kernel_rfl)) ?_
  intro W base args ds gs before hval0 hW hcnd _
  have hval : ∀ (j : Nat) t v, Try.f3.params[j]? = some t → args[j]? = some v → Value.okWide Try.prog W .any base t v := hval0
  have hW' := hW
  obtain ⟨p, q, hA0, hV, rfl, hfz, hnd⟩ := hW
  have hA : DataW.TrodAll enc Try.prog W 0 (fun _ => true) true Try.f3.params.toList args.toList ds p := hA0
  rw [Try.params3] at hA hval
  obtain ⟨v0, vs0, d0, ds0, p0, q0, hargs, rfl, rfl, h0, r0⟩ := trodAll_cons hA
  obtain ⟨v1, vs1, d1, ds1, p1, q1, rfl, rfl, rfl, h1, r1⟩ := trodAll_cons r0
  obtain ⟨rfl, rfl, rfl⟩ := trodAll_nil r1
  obtain rfl : args = #[v0, v1] := by cases args; simp_all
  obtain ⟨rfl, rfl⟩ := trodVars_none hV
  have lt0 : ∀ x ∈ p0, x.block < W.heap.size := by obtain ⟨m, hm⟩ := h0; exact DataW.trod_lt m _ _ _ hm
  have lt1 : ∀ x ∈ p1, x.block < W.heap.size := by obtain ⟨m, hm⟩ := h1; exact DataW.trod_lt m _ _ _ hm
  obtain ⟨o, t, i, k, s, m, c, rfl⟩ := open_fields (hval 0 24 v0 rfl rfl) h0
  obtain ⟨o', t', i', k', s', m', c', rfl⟩ := open_fields (hval 1 24 v1 rfl rfl) h1
  clear hA0 hval0
  refine (walk o o' t i k t' i' k' s s' m c m' c' W).mono fun e W' ⟨he, bel⟩ => ?_
  subst he
  exact ⟨_, rfl, _, _, _, [], _, [], hW', trodAll_mk1 (shut_bool Try.underlying4 _), (trodAll_cons_mk (Below.trod laidOut (by kernel_rfl) (of_decide_eq_true (by kernel_rfl)) h0 bel lt0) (trodAll_cons_mk (Below.trod laidOut (by kernel_rfl) (of_decide_eq_true (by kernel_rfl)) h1 bel lt1) trodAll_mk0)), rfl, bel.frame _, fun h => by cases h⟩

theorem over : Rows.fnGroupOfIsTableIndexModeScopeRow.holds Try.pinned (OpenSpec.ofChange Rows.fnGroupOfIsTableIndexModeScopeSpec) :=
  OpenClaim.holds_of_wide 3 Try.f3 rfl rfl rfl rfl rfl rfl rfl ⟨rfl, rfl, rfl, rfl, rfl⟩ rfl rfl rfl rfl rfl (by kernel_rfl) Try.func3 (by kernel_rfl)
    (of_decide_eq_true (by kernel_rfl)) (by unfold Func.isWrapper; first | (rw [if_pos (by decide +kernel)]; kernel_rfl) | (rw [if_neg (by decide +kernel)]; exact ⟨rfl, rfl⟩))
    (fun os started H enc _ => lifted os started H enc)
end Go.Proofs.Qxb6605877a.group

namespace Go.Proofs.Qxb6605877a
/-- ████ THE STATEMENT ████ -/
theorem groupOf_holds : Rows.FnGroupOfIsTableIndexModeScopeSaid := group.over
end Go.Proofs.Qxb6605877a
