/- What hpke.bePutUint64 does to the last eight bytes of a row of twelve that the call itself made: each byte is the number's, the highest first. Conditions: the row starts its block; the number is an uint64's. -/
import Derived.Test.YtehgmhpdipkamaaPFnNoncex0
namespace Go.Proofs.Ytehgmhpdipkamaa.Nonce
open Go.RowKit Go.Proofs.YtehgmhpdipkamaaW.PrintWords Go.Proofs.YtehgmhpdipkamaaW.PrintLast Go.Proofs.YtehgmhpdipkamaaW.PrintMore
set_option linter.unusedVariables false
set_option linter.unusedSimpArgs false

/-- A row behind k rounds. -/
def beSet (n : Int) (l : List Int) : Nat → List Int
  | 0 => l
  | k + 1 => (beSet n l k).set (4 + k) (n / 2 ^ (56 - 8 * k) % 256)

theorem beSet_length (n : Int) (l : List Int) (k : Nat) : (beSet n l k).length = l.length := by
  induction k with
  | zero => rfl
  | succ k ih => simp [beSet, ih]

set_option maxHeartbeats 1000000 in
theorem put_sub (g co base : Nat) (l0 : List Int) (n : Int) (w0 w : World) (hn : (Lit.int .u64 n).wf = true) (hl : l0.length = 12)
    (hB : Below base w0 w) (hb : base ≤ g) (ho : Kd.R (Kd.int .u8) 5 w base (fun _ => True) (.slice (some ⟨g, 0, none⟩) l0.length co) l0) :
    Calls Try.prog 9 #[.slice (some ⟨g, 4, none⟩) 8 8, .int .u64 n] w fun e w' => e = .returned (.tuple #[]) ∧
      Kd.R (Kd.int .u8) 5 w' base (fun _ => True) (.slice (some ⟨g, 0, none⟩) l0.length co) (beSet n l0 8) ∧ Below base w0 w' := by
  have HO0 := Aside0.mk ho
  have HB := Aside0.mk hB
  have HN := Aside0.mk hn
  have HL := Aside0.mk hl
  clear ho hB hn hl
  go_enter Try.func9, Try.ntmps9
  go_wp2
  go_loopw [4] (fun v4 w' => ∃ k : Nat, k ≤ 8 ∧ v4 = .int .i64 k ∧ Aside0 (Kd.R (Kd.int .u8) 5 w' base (fun _ => True) (.slice (some ⟨g, 0, none⟩) l0.length co) (beSet n l0 k)) ∧ Aside0 (Below base w0 w')) (fun v4 _ => 8 - (intOf v4).toNat)
  case atStart => exact ⟨0, by omega, rfl, HO0, HB⟩
  case round =>
    obtain ⟨k, hk, rfl, HO, HB⟩ := hrel
    by_cases hlt : k < 8
    · obtain ⟨hx, hf⟩ := Kd.R_celln 0 HO.out ((4 + k : Nat) : Int) (by omega) (by have := HL.out; omega)
      simp only [Int.toNat_natCast] at hx hf
      have hp := (Kd.R_putg HO.out ((4 + k : Nat) : Int) (n / 2 ^ (56 - 8 * k) % 256)).1
      rw [Int.toNat_natCast] at hp
      have HP := Aside0.mk hp
      clear hp
      go_wp2
      exact ⟨⟨k + 1, by omega, by go_num, HP, ⟨HB.out.setCell hb _⟩⟩, by simp [intOf]; omega⟩
    · obtain rfl : k = 8 := by omega
      go_wp2
      go_end0
      exact ⟨rfl, HO.out, HB.out⟩
end Go.Proofs.Ytehgmhpdipkamaa.Nonce
