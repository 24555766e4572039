/- Plain: the twelve bytes that the package's way gives are those that the reference's way gives. Condition: the base's numbers are bytes, twelve of them. -/
import Derived.Test.YtehgmhpdipkamaaNonceB
import Derived.Test.YtehgmhpdipkamaaPFnNoncex1
namespace Go.Proofs.Ytehgmhpdipkamaa.Nonce
open Go.RowKit Go.Proofs.YtehgmhpdipkamaaW.PrintWords Go.Proofs.YtehgmhpdipkamaaW.PrintLast Go.Proofs.YtehgmhpdipkamaaW.PrintMore

theorem xor_comm (x y : Int) : bits .xor .u8 x y = bits .xor .u8 y x := by
  unfold bits
  simp only [BitVec.xor_comm]

theorem xor_zero (x : Int) (h0 : 0 ≤ x) (h1 : x ≤ 255) : bits .xor .u8 0 x = x := by
  obtain ⟨n, rfl⟩ := Int.eq_ofNat_of_zero_le h0
  have h2 : n < 256 := by omega
  have e : (BitVec.ofInt (IntKind.bits .u8) 0 ^^^ BitVec.ofInt (IntKind.bits .u8) (n : Int)).toNat = n := by
    show (BitVec.ofInt 8 0 ^^^ BitVec.ofInt 8 (n : Int)).toNat = n
    simp
    omega
  show IntKind.u8.wrap ((BitVec.ofInt (IntKind.bits .u8) 0 ^^^ BitVec.ofInt (IntKind.bits .u8) (n : Int)).toNat : Int) = _
  rw [e]
  simp [IntKind.wrap, IntKind.bits, IntKind.signed]
  omega

theorem twelve (l : List Int) (h : l.length = 12) : ∃ a b c d e f g i j k m n, l = [a, b, c, d, e, f, g, i, j, k, m, n] := by
  match l, h with
  | [a, b, c, d, e, f, g, i, j, k, m, n], _ => exact ⟨a, b, c, d, e, f, g, i, j, k, m, n, rfl⟩

theorem spec_is (l : List Int) (s : Int) (hl : l.length = 12) (hb : ∀ x ∈ l, 0 ≤ x ∧ x ≤ 255) :
    Ytehgmhpdipkamaa.PFnNonce.spec_NonceOf.f 9 l s = some (xorSet l (beSet s zeros12 8) 12) := by
  obtain ⟨a, b, c, d, e, f, g, i, j, k, m, n, rfl⟩ := twelve l hl
  have h0 := xor_zero a (hb a (by simp)).1 (hb a (by simp)).2
  have h1 := xor_zero b (hb b (by simp)).1 (hb b (by simp)).2
  have h2 := xor_zero c (hb c (by simp)).1 (hb c (by simp)).2
  have h3 := xor_zero d (hb d (by simp)).1 (hb d (by simp)).2
  simp [PFnNonce.spec_NonceOf.f, PFnNonce.spec_NonceOf.l0, wrap64, shr, IntKind.bits, rd, xorSet, beSet, zeros12, h0, h1, h2, h3]
  simp only [xor_comm (_ % 256), and_self]

set_option maxHeartbeats 2000000 in
theorem impl_nonce (A : Option Addr) (c : Nat) (l : List Int) (n : Int) (w : World) (hn : (Lit.int .u64 n).wf = true) (hl : l.length = 12) (hc : l.length ≤ c)
    (hr : Kd.C (Kd.int .u8) w A l.length l) :
    Calls Try.prog 5 #[.slice A l.length c, .int .u64 n] w fun e w' => ∃ v : Value, e = .returned v ∧
      Kd.R (Kd.int .u8) 5 w' w.heap.size (fun _ => True) v (xorSet l (beSet n zeros12 8) 12) ∧ Below w.heap.size w w' := by
  have hcop : PFnNonce.impl_copied.f l = some l := by simp [PFnNonce.impl_copied.f, hl]
  have HCOP := Aside0.mk hcop
  have HR := Aside0.mk hr
  have HN := Aside0.mk hn
  have HL := Aside0.mk hl
  have HC := Aside0.mk hc
  have ht2 : ((l.length : Int) != 12) = false := by simp [hl]
  clear hr hn hl hcop hc
  go_enter Try.func5, Try.ntmps5
  go_wp2_with fail
  refine (PFnNonce.impl_copied.calls A c l l w HR.out HC.out HCOP.out).mono ?_
  rintro e w1 ⟨v1, rfl, hR1, hB1⟩
  obtain ⟨A1, c1, rfl, hc1, hC1⟩ := Kd.R_reads hR1
  have HR1 := Aside0.mk hC1
  have HB1 := Aside0.mk hB1
  clear hC1 hB1 hR1
  go_wp2_with fail
  refine (nonce_of A1 c1 l n _ rfl w1 HN.out HL.out HR1.out).mono ?_
  rintro e w2 ⟨v2, rfl, hR2, hB2⟩
  have HR2 := Aside0.mk (Kd.R_lower hR2 HB1.out.size)
  have HB2 := Aside0.mk (below_then HB1.out HB1.out.size hB2)
  clear hR2 hB2
  go_wp2
  go_ret
  exact ⟨_, rfl, HR2.out, HB2.out⟩
end Go.Proofs.Ytehgmhpdipkamaa.Nonce
