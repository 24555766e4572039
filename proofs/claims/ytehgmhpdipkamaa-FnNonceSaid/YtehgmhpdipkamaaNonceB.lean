/- What hpke.ZZNonceOf hands back for a row of twelve bytes: a new row, the number's eight bytes behind four noughts, each xored with the base's. Condition: the base's row is read alone. -/
import Derived.Test.YtehgmhpdipkamaaNonceA
import Derived.BigRegion
namespace Go.Proofs.Ytehgmhpdipkamaa.Nonce
open Go.RowKit Go.Proofs.YtehgmhpdipkamaaW.PrintWords Go.Proofs.YtehgmhpdipkamaaW.PrintLast Go.Proofs.YtehgmhpdipkamaaW.PrintMore
set_option linter.unusedVariables false
set_option linter.unusedSimpArgs false

/-- A row behind k rounds. -/
def xorSet (b l : List Int) : Nat → List Int
  | 0 => l
  | k + 1 => (xorSet b l k).set k (bits .xor .u8 (rd (xorSet b l k) k) (rd b k))

theorem xorSet_length (b l : List Int) (k : Nat) : (xorSet b l k).length = l.length := by
  induction k with
  | zero => rfl
  | succ k ih => simp [xorSet, ih]

def zeros12 : List Int := [0, 0, 0, 0, 0, 0, 0, 0, 0, 0, 0, 0]

theorem made12 : ∀ w, (Instr.makeSlice 22 (.int .i64 12) (.int .i64 12)).run Try.prog w = .ok (.slice (some ⟨w.heap.size, 0, none⟩) 12 12)
    (w.alloc (.cells #[.int .u8 0, .int .u8 0, .int .u8 0, .int .u8 0, .int .u8 0, .int .u8 0, .int .u8 0, .int .u8 0, .int .u8 0, .int .u8 0, .int .u8 0, .int .u8 0] 5)) := fun _ => by kernel_rfl

def cells12 : Array Value := #[.int .u8 0, .int .u8 0, .int .u8 0, .int .u8 0, .int .u8 0, .int .u8 0, .int .u8 0, .int .u8 0, .int .u8 0, .int .u8 0, .int .u8 0, .int .u8 0]
theorem R_made12 (w : World) : Kd.R (Kd.int .u8) 5 (w.alloc (.cells cells12 5))
    w.heap.size (fun _ => True) (.slice (some ⟨w.heap.size, 0, none⟩) zeros12.length 12) zeros12 :=
  ⟨fun _ _ => trivial, encs (.int .u8) zeros12, ⟨rfl, .inr ⟨w.heap.size, 12, cells12, rfl, Nat.le_refl _, by show (w.heap.push _)[w.heap.size]? = _; simp, by decide, by decide, rfl, rfl⟩⟩, Kd.reps_scalar zeros12⟩

set_option maxHeartbeats 2000000 in
theorem nonce_of (A : Option Addr) (c : Nat) (b : List Int) (n : Int) (m : List Int) (hm : m = beSet n zeros12 8) (w : World) (hn : (Lit.int .u64 n).wf = true) (hl : b.length = 12)
    (hr : Kd.C (Kd.int .u8) w A b.length b) :
    Calls Try.prog 7 #[.slice A b.length c, .int .u64 n] w fun e w' => ∃ v : Value, e = .returned v ∧
      Kd.R (Kd.int .u8) 5 w' w.heap.size (fun _ => True) v (xorSet b m 12) ∧ Below w.heap.size w w' := by
  have HR := Aside0.mk hr
  have HN := Aside0.mk hn
  have HL := Aside0.mk hl
  have HM := Aside0.mk hm
  clear hr hn hl hm
  have hmk := made12
  go_enter Try.func7, Try.ntmps7
  go_wp2_with fail
  clear hmk
  refine (put_sub w.heap.size 12 w.heap.size zeros12 n w _ HN.out rfl ((Below.refl _ _).alloc (Nat.le_refl _) _) (Nat.le_refl _) (R_made12 w)).mono ?_
  rintro e w1 ⟨rfl, hR, hB⟩
  have HR1 := Aside0.mk hR
  have HB1 := Aside0.mk hB
  clear hR hB
  rw [← HM.out] at HR1
  go_wp2_with fail
  go_loopw [17] (fun v17 w' => ∃ k : Nat, k ≤ 12 ∧ v17 = .int .i64 k ∧ Aside0 (Kd.R (Kd.int .u8) 5 w' w.heap.size (fun _ => True) (.slice (some ⟨w.heap.size, 0, none⟩) zeros12.length 12) (xorSet b m k)) ∧ Aside0 (Below w.heap.size w w')) (fun v17 _ => 12 - (intOf v17).toNat)
  case atStart => exact ⟨0, by omega, rfl, HR1, HB1⟩
  case round =>
    obtain ⟨k, hk, rfl, HO, HB⟩ := hrel
    by_cases hlt : k < 12
    · have hkb : k < b.length := by rw [HL.out]; exact hlt
      obtain ⟨hx, hf⟩ := Kd.R_celln 0 HO.out (k : Int) (by omega) (by show (k : Int) < 12; omega)
      obtain ⟨ad, rfl, hc⟩ := Kd.at_int (Kd.C_below HR.out HB.out) (k : Int) (by omega) (by omega)
      simp only [Int.toNat_natCast] at hx hf hc
      have hp := (Kd.R_putg HO.out (k : Int) (bits BinOp.xor IntKind.u8 (rd (xorSet b m k) k) (rd b k))).1
      rw [Int.toNat_natCast] at hp
      have HP := Aside0.mk (Kd.R_drew hp)
      clear hp
      go_wp2
      go_region
      go_wp2
      exact ⟨⟨k + 1, by omega, by go_num, HP, ⟨(HB.out.setCell (Nat.le_refl _) _).drew⟩⟩, by simp [intOf]; omega⟩
    · have hkb : ¬ k < b.length := by rw [HL.out]; exact hlt
      go_wp2
      obtain rfl : k = 12 := by omega
      go_ret
      exact ⟨_, rfl, HO.out, HB.out⟩
end Go.Proofs.Ytehgmhpdipkamaa.Nonce
