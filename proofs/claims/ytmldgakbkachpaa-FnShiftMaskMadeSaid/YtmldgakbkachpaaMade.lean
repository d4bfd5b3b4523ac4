/- FnShiftMaskMade: each run of 1 to 64 ones from the lowest bit on is told to be a mask of a shift, and its length is the number of its ones; no condition. The walks, over the shelf's contract of bits.Len64. -/
import Derived.Test.YtmldgakbkachpaaPFnRShiftMaskx1
import Derived.Test.YtmldgakbkachpaaKit
import Derived.Test.YtmldgakbkachpaaShelf
import Derived.Lib.Hide
namespace Go.Proofs.Ytmldgakbkachpaa.Made
open Go.RowKit Go.Proofs.YtmldgakbkachpaaW.PrintWords Go.Proofs.YtmldgakbkachpaaW.PrintLast Go.Proofs.Ytmldgakbkachpaa.Kit Go.Proofs.Ytmldgakbkachpaa.PFnRShiftMask
def vm (v : Int) : Bool := (v != 0) && (Go.bits .and .i64 (wrap64 (v + 1)) v == 0)
theorem c35 (v : Int) (w : World) : Calls Try.prog 35 #[.int .i64 v] w fun e w' => e = .returned (.bool (vm v)) ∧ w' = w := by
  go_enter Try.func35, Try.ntmps35
  go_wp2
  all_goals (go_ret; exact ⟨by simp_all [vm], rfl⟩)
theorem c29 (v : Int) (w : World) : Calls Try.prog 29 #[.int .i64 v] w fun e w' => e = .returned (.bool (vm v)) ∧ w' = w := by
  go_enter Try.func29, Try.ntmps29
  go_wp2_with (go_at_call 35; refine (c35 _ _).mono ?_; rintro e w' ⟨rfl, rfl⟩)
  go_ret
  exact ⟨rfl, rfl⟩
theorem c19 (v : Int) (w : World) : Calls Try.prog 19 #[.int .i64 v] w fun e w' => e = .returned (.bool (vm v)) ∧ w' = w := by
  go_enter Try.func19, Try.ntmps19
  go_wp2_with (go_at_call 29; refine (c29 _ _).mono ?_; rintro e w' ⟨rfl, rfl⟩)
  go_ret
  exact ⟨rfl, rfl⟩
def ln (v : Int) : Int := (Lib.bitLen (IntKind.u64.wrap v).toNat : Int)
theorem c36 (v : Int) (w : World) : Calls Try.prog 36 #[.int .i64 v] w fun e w' => e = .returned (.int .i64 (ln v)) ∧ w' = w := by
  have h0 : 0 ≤ IntKind.u64.wrap v := by rw [wu64m]; omega
  have h1 : IntKind.u64.wrap v ≤ 18446744073709551615 := by rw [wu64m]; omega
  have hb : Lib.bitLen (IntKind.u64.wrap v).toNat ≤ 64 := by
    have : ∀ f x, Lib.bitLenAux f x ≤ f := by
      intro f
      induction f with
      | zero => intro x; exact Nat.le_refl _
      | succ f ih => intro x; unfold Lib.bitLenAux; have := ih (x / 2); split <;> omega
    exact this 64 _
  have H0 := Lib.hid h0
  have H1 := Lib.hid h1
  have HL : Hid (ln v = (Lib.bitLen (IntKind.u64.wrap v).toNat : Int)) := Lib.hid rfl
  clear h0 h1
  go_enter Try.func36, Try.ntmps36
  go_wp2_with (go_at_call 37; refine (Try.bits_Len64 _ _ H0.out H1.out).mono ?_; rintro e w' ⟨rfl, rfl⟩)
  go_ret
  exact ⟨by rw [HL.out]; rfl, rfl⟩
theorem c30 (v : Int) (w : World) : Calls Try.prog 30 #[.int .i64 v] w fun e w' => e = .returned (.int .i64 (ln v)) ∧ w' = w := by
  go_enter Try.func30, Try.ntmps30
  go_wp2_with (go_at_call 36; refine (c36 _ _).mono ?_; rintro e w' ⟨rfl, rfl⟩)
  go_ret
  exact ⟨rfl, rfl⟩
theorem c20 (v : Int) (w : World) : Calls Try.prog 20 #[.int .i64 v] w fun e w' => e = .returned (.int .i64 (ln v)) ∧ w' = w := by
  go_enter Try.func20, Try.ntmps20
  go_wp2_with (go_at_call 30; refine (c30 _ _).mono ?_; rintro e w' ⟨rfl, rfl⟩)
  go_ret
  exact ⟨rfl, rfl⟩
def runOf (n : Nat) : Int := match spec_Run.f 0 ((n : Int) + 1) with | some r => r | none => 0
def okAt (n : Nat) : Bool := (spec_Run.f 0 ((n : Int) + 1) == some (runOf n)) && vm (wrap64 (runOf n)) && (ln (wrap64 (runOf n)) == (n : Int) + 1)
theorem all_ok : (List.range 64).all okAt = true := by decide +kernel
theorem ok_any (n : Nat) (h : n < 64) : spec_Run.f 0 ((n : Int) + 1) = some (runOf n) ∧ vm (wrap64 (runOf n)) = true ∧ ln (wrap64 (runOf n)) = (n : Int) + 1 := by
  have := List.all_eq_true.1 all_ok n (by simpa using h)
  unfold okAt at this
  simp only [Bool.and_eq_true, beq_iff_eq] at this
  exact ⟨this.1.1, this.1.2, this.2⟩
theorem walk (a : Int) (W : World) (_ : (Lit.int .i64 a).wf = true) : Calls Try.prog 7 #[.int .i64 a] W fun e W' => e = .returned (.bool true) ∧ Below W.heap.size W W' := by
  have r : laws_rwAt.f a 64 = some (a % 64) := by
    unfold laws_rwAt.f; rw [if_neg (by decide), rw_at a _ (by decide) (by decide)]
  obtain ⟨n, hn⟩ : ∃ n : Nat, a % 64 = (n : Int) := ⟨(a % 64).toNat, by omega⟩
  have hl : n < 64 := by omega
  rw [hn] at r
  obtain ⟨h1, h2, h3⟩ := ok_any n hl
  generalize runOf n = x at *
  have h1' : spec_Run.f 0 (1 + (n : Int)) = some x := by rw [Int.add_comm]; exact h1
  have R := Lib.hid r
  have H1 := Lib.hid h1'
  have H2 := Lib.hid h2
  have H3 := Lib.hid h3
  have hl' : (n : Int) < 64 := by omega
  clear r h1 h2 h3 h1' hn hl
  go_enter Try.func7, Try.ntmps7
  go_wp2_with (first
    | (go_at_call 8; refine (laws_rwAt.calls _ _ _ _ R.out).mono ?_; rintro e w' ⟨rfl, ⟨n1, rfl⟩⟩)
    | (go_at_call 10; refine (spec_Run.calls _ _ _ _ H1.out).mono ?_; rintro e w' ⟨rfl, ⟨n2, rfl⟩⟩)
    | (go_at_call 19; refine (c19 _ _).mono ?_; rintro e w' ⟨rfl, rfl⟩; rw [H2.out])
    | (go_at_call 20; refine (c20 _ _).mono ?_; rintro e w' ⟨rfl, rfl⟩; rw [H3.out]))
  go_ret
  exact ⟨by simp <;> omega, by repeat (first | exact Below.refl _ _ | refine pw_below_drewN ?_ _)⟩
end Go.Proofs.Ytmldgakbkachpaa.Made
