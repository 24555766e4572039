/- For every base of bytes and every number: laws.FnNonce returns true, and its argument reads as before: a base of twelve bytes is xored with the number alike by the package and by the reference. No condition. -/
/- The frame of this text was written by the kit's proof-skeleton.mjs; the walk is this session's own. -/
import Derived.Test.YtehgmhpdipkamaaRows
import Derived.Test.YtehgmhpdipkamaaNonceC
import Derived.WalkKit
import Derived.ProofKit
import Derived.OpenShut
import Derived.ShutString
import Derived.ChangeOld
import Derived.Below
namespace Go.Proofs.Ytehgmhpdipkamaa.fnNonce
open Go.Proofs.Ytehgmhpdipkamaa.Nonce Go.Proofs.YtehgmhpdipkamaaW.PrintWords
open Go.ChangeShapes Go.WideShapes Go.ChangeAt Go.RowKit
open Go.ChangeMaps (open_string shut_string)
set_option linter.unusedVariables false

theorem own : ownKnob Try.prog.godebug = none := by kernel_rfl
theorem laidOut : laidOutB Try.prog = true := by kernel_rfl

/-- WHAT THE WALK IS TOLD OF A SLICE OF INTEGERS THAT CAME IN: it is nil; or it leads to a row of 'cap' cells, the numbers 'zs' (the first 'len' are its elements, the rest its spare room), each fitting its kind. -/
def IsRow (k : IntKind) (w : World) (a : Option Addr) (len cap : Nat) (zs : List Int) : Prop :=
  (a = none ∧ len = 0 ∧ cap = 0 ∧ zs = []) ∨
  ∃ x, a = some x ∧ len ≤ cap ∧ cap ≤ maxLen ∧ zs.length = cap ∧ (∀ i, i < zs.length → w.cell? (x.add i) = some (.int k (zs.getD i 0))) ∧ ∀ n ∈ zs, (Lit.int k n).wf = true

/-! ### The walk -/
theorem walk (a0 : Option Addr) (len0 cap0 : Nat) (z0 : List Int) (a1 : Int) (w : World) (w0 : IsRow .u8 w a0 len0 cap0 z0) (w1 : (Lit.int .u64 a1).wf = true) :
    Calls Try.prog 3 #[.slice a0 len0 cap0, .int .u64 a1] w fun e w' => e = .returned (.bool true) ∧ Below w.heap.size w w' := by
  obtain ⟨l, rfl, hri, hm, hwf, hcap⟩ := ReadsInt.ofRowC w0
  have hC : Kd.C (Kd.int .u8) w a0 l.length l := Kd.C_of_reads (enc := Value.int .u8) (d := (0 : Int)) hri
  have HC := Aside0.mk hC
  have HW := Aside0.mk w1
  have HF := Aside0.mk hwf
  have HCAP := Aside0.mk hcap
  clear hC w1 hwf hcap w0 hri
  unfold maxLen at hm
  by_cases h12 : l.length = 12
  · have H12 := Aside0.mk h12
    have ht1 : (l.length : Int) ≤ 2147483647 := by omega
    have ht2 : ((l.length : Int) != 12) = false := by simp [h12]
    clear h12
    go_enter Try.func3, Try.ntmps3
    go_wp2_with fail
    refine (impl_nonce a0 cap0 l a1 w HW.out H12.out HCAP.out HC.out).mono ?_
    rintro e w1 ⟨v1, rfl, hR1, hB1⟩
    obtain ⟨A1, c1, rfl, hc1, hC1⟩ := Kd.R_reads hR1
    have HR1 := Aside0.mk hC1
    have HC1 := Aside0.mk hc1
    have HB1 := Aside0.mk hB1
    clear hC1 hB1 hR1 hc1
    have hb : ∀ x ∈ l, 0 ≤ x ∧ x ≤ 255 := fun x hx => by
      have h1 := HF.out x hx
      simp [Lit.wf, IntKind.min, IntKind.max, IntKind.signed, IntKind.bits] at h1
      omega
    have HS := Aside0.mk (spec_is l a1 H12.out hb)
    have HX := Aside0.mk (xorSet_length l (beSet a1 zeros12 8) 12)
    clear hb
    generalize xorSet l (beSet a1 zeros12 8) 12 = r at HS HR1 HC1 HX ⊢
    go_wp2_with fail
    refine (PFnNonce.spec_NonceOf.calls 9 a0 cap0 l a1 r w1 (Kd.C_below HC.out HB1.out) HCAP.out HS.out).mono ?_
    rintro e w2 ⟨v2, rfl, hR2, hB2⟩
    obtain ⟨A2, c2, rfl, hc2, hC2⟩ := Kd.R_reads hR2
    have HR2 := Aside0.mk hC2
    have HC2 := Aside0.mk hc2
    have HR1b := Aside0.mk (Kd.C_below HR1.out hB2)
    have HB2 := Aside0.mk (below_then HB1.out HB1.out.size hB2)
    clear hC2 hB2 hR2 hc2
    go_wp2_with fail
    refine (PFnNonce.laws_same.calls A1 c1 r A2 c2 r true w2 HR1b.out HC1.out HR2.out HC2.out (by simp [PFnNonce.laws_same.f])).mono ?_
    rintro e w3 ⟨rfl, ⟨nd, rfl⟩⟩
    go_wp2
    go_ret
    exact ⟨rfl, pw_below_drewN HB2.out nd⟩
  · by_cases hbig : (2147483647 : Int) < l.length
    · go_enter Try.func3, Try.ntmps3
      go_wp2
      go_ret
      exact ⟨rfl, Below.refl _ _⟩
    · have ht2 : ((l.length : Int) != 12) = true := by simp; omega
      clear h12
      go_enter Try.func3, Try.ntmps3
      go_wp2
      go_ret
      exact ⟨rfl, Below.refl _ _⟩

/-! ### THE ROW's STEP: WRITTEN OUT: LEAVE IT -/
set_option maxRecDepth 100000 in
theorem lifted (os : Os) (started : os.Started) (H : Type) (enc : TypeId × Value → H) :
    ReturnsInHanded {} Try.checked os 3 .any (Rows.fnNonceSpec.pre6 enc Try.prog Try.f3 Rows.fnNonceRow.domain false) (Rows.fnNonceSpec.post enc Try.prog Try.f3 false true false false) := by
  refine returnsInHanded_of_change (C := Try.checked) own started (by kernel_rfl) Try.func3
    (ChangeSpec.witness6 (enc := enc) (C := Try.checked) false ⟨#[], #[.slice none 0 0, .int .u64 0], []⟩ 8 (by kernel_rfl) (by kernel_rfl) (by kernel_rfl) (by kernel_rfl)) ?_
  intro W base args ds gs before hval0 hW hcnd _
  have hval : ∀ (j : Nat) t v, Try.f3.params[j]? = some t → args[j]? = some v → Value.okWide Try.prog W .any base t v := hval0
  have hW' := hW
  obtain ⟨p, q, hA0, hV, rfl, hfz, hnd⟩ := hW
  have hA : DataW.TrodAll enc Try.prog W 0 (fun _ => true) true Try.f3.params.toList args.toList ds p := hA0
  rw [Try.params3] at hA hval
  obtain ⟨v0, vs0, d0, ds0, p0, q0, hargs, rfl, rfl, h0, r0⟩ := trodAll_cons hA
  obtain ⟨v1, vs1, d1, ds1, p1, q1, rfl, rfl, rfl, h1, r1⟩ := trodAll_cons r0
  obtain ⟨rfl, rfl, rfl⟩ := trodAll_nil r1
  obtain rfl : args = #[v0, v1] := by cases args; simp_all
  obtain ⟨rfl, rfl⟩ := trodVars_none hV
  obtain ⟨a0, len0, cap0, rfl⟩ := okWide_slice Try.underlying22 (hval 0 22 v0 rfl rfl)
  have k0 := h0
  have lt0 : ∀ x ∈ p0, x.block < W.heap.size := by obtain ⟨m, hm⟩ := k0; exact DataW.trod_lt m _ _ _ hm
  obtain ⟨z0, w0⟩ : ∃ zs, IsRow .u8 W a0 len0 cap0 zs := by
    obtain ⟨fuel, hf⟩ := h0
    rcases open_ints Try.underlying22 Try.underlying5 (by kernel_rfl) hf with ⟨hcs, _⟩ | ⟨x, l, c, zs, hcs, _, hl, hm, hz, _, hcell, hwz⟩
    · simp [Value.cells] at hcs
      obtain ⟨rfl, rfl, rfl⟩ := hcs
      exact ⟨[], .inl ⟨rfl, rfl, rfl, rfl⟩⟩
    · simp [Value.cells] at hcs
      obtain ⟨rfl, rfl, rfl⟩ := hcs
      exact ⟨zs, .inr ⟨_, rfl, hl, hm, by simpa using hz, hcell, hwz⟩⟩
  obtain ⟨a1, rfl, rfl, rfl, w1⟩ := open_int Try.underlying23 (hval 1 23 v1 rfl rfl) h1
  clear hA0 hval0
  refine (walk a0 len0 cap0 z0 a1 W w0 w1).mono fun e W' ⟨he, bel⟩ => ?_
  subst he
  exact ⟨_, rfl, _, _, _, [], _, [], hW', trodAll_mk1 (shut_bool Try.underlying4 _), (trodAll_cons_mk (Below.trod laidOut (by kernel_rfl) (of_decide_eq_true (by kernel_rfl)) k0 bel lt0) (trodAll_cons_mk (shut_int Try.underlying23 w1) trodAll_mk0)), rfl, bel.frame _, fun h => by cases h⟩

theorem over : Rows.fnNonceRow.holds Try.pinned (OpenSpec.ofChange Rows.fnNonceSpec) :=
  OpenClaim.holds_of_wide 3 Try.f3 rfl rfl rfl rfl rfl rfl rfl ⟨rfl, rfl, rfl, rfl, rfl⟩ rfl rfl rfl rfl rfl (by kernel_rfl) Try.func3 (by kernel_rfl)
    (of_decide_eq_true (by kernel_rfl)) (by unfold Func.isWrapper; first | (rw [if_pos (by decide +kernel)]; kernel_rfl) | (rw [if_neg (by decide +kernel)]; exact ⟨rfl, rfl⟩))
    (fun os started H enc _ => lifted os started H enc)

/-- ████ THE STATEMENT ████ -/
theorem proved : Rows.FnNonceSaid := over
#print axioms proved
end Go.Proofs.Ytehgmhpdipkamaa.fnNonce
