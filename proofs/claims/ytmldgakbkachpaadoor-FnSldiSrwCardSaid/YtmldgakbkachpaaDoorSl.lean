/- FnSldiSrw: a shift to the left behind a shift to the right of 32 bits, as one operation, does the same to all words, for every input, over the tables that the library lays; no other condition. The walks. -/
import Derived.Test.YtmldgakbkachpaaDoorLw
namespace Go.Proofs.YtmldgakbkachpaaDoor.Sl
open Go.RowKit Go.Proofs.YtmldgakbkachpaaDoorW.PrintWords Go.Proofs.YtmldgakbkachpaaDoorW.PrintLast Go.Proofs.YtmldgakbkachpaaDoorW.PrintMore Go.Proofs.YtmldgakbkachpaaDoor.Kit Go.Proofs.YtmldgakbkachpaaDoor.Sp Go.Proofs.YtmldgakbkachpaaDoor.Wd Go.Proofs.YtmldgakbkachpaaDoor.En Go.Proofs.YtmldgakbkachpaaDoor.De Go.Proofs.YtmldgakbkachpaaDoor.Gd Go.Proofs.YtmldgakbkachpaaDoor.Lw
set_option maxRecDepth 100000 in
theorem c48a (i k : Nat) (w : World) (h : (k : Int) < i) : Calls Tryd.prog 48 #[.int .i64 i, .int .i64 k] w fun e w' => e = .returned (.int .i64 0) ∧ w' = w := by
  go_enter Tryd.func48, Tryd.ntmps48
  go_wp2
  go_ret
  exact ⟨rfl, rfl⟩
def a48 (i k : Nat) : Bool := decide (k < i) || ((Go.bits .and .i64 (32 - (k : Int) + (i : Int)) 31 == ((32 - k + i) % 32 : Nat)) && (Go.bits .and .u32 (4294967295 / 2 ^ k) (4294967295 / 2 ^ i) * 2 ^ i % 4294967296 == (rn i (32 - k) : Nat)))
theorem a48_all : ((List.range 32).all fun i => (List.range 32).all fun k => a48 i k) = true := by decide +kernel
theorem a48_any (i k : Nat) (h : i ≤ k) (hk : k < 32) : Go.bits .and .i64 (32 - (k : Int) + (i : Int)) 31 = ((32 - k + i) % 32 : Nat) ∧ Go.bits .and .u32 (4294967295 / 2 ^ k) (4294967295 / 2 ^ i) * 2 ^ i % 4294967296 = (rn i (32 - k) : Nat) := by
  have := at_range a48_all i k (by omega) hk
  unfold a48 at this
  simp only [Bool.or_eq_true, Bool.and_eq_true, decide_eq_true_eq, beq_iff_eq] at this
  rcases this with h' | h'
  · omega
  · exact h'
set_option maxRecDepth 100000 in
theorem c48b (i k : Nat) (w : World) (hT : Tabs w) (h : i ≤ k) (hk : k < 32) : Calls Tryd.prog 48 #[.int .i64 i, .int .i64 k] w fun e w' => e = .returned (.int .i64 (cd ((32 - k + i) % 32) (rn i (32 - k)) : Nat)) ∧ w' = w := by
  have HT := Lib.hid hT
  have h' : (i : Int) ≤ k := by omega
  have hk' : (k : Int) < 32 := by omega
  have HE : Hid (∀ w, Tabs w → Calls Tryd.prog 47 #[.int .i64 (Go.bits .and .i64 (32 - (k : Int) + (i : Int)) 31), .int .i64 (Go.bits .and .u32 (4294967295 / 2 ^ k) (4294967295 / 2 ^ i) * 2 ^ i % 4294967296), .int .i64 32] w fun e w' => e = .returned (.int .i64 (cd ((32 - k + i) % 32) (rn i (32 - k)) : Nat)) ∧ w' = w) := Lib.hid (fun w hT => by
    obtain ⟨e1, e2⟩ := a48_any i k h hk
    rw [e1, e2]
    exact enc_of ((32 - k + i) % 32) (rn i (32 - k)) (by omega) (rn_pos _ _ (by omega)) (rn_lt32 _ _ (by omega)) w hT)
  clear hT h hk
  go_enter Tryd.func48, Tryd.ntmps48
  go_wp2_with (go_at_call 47; (with_reducible refine (HE.out _ HT.out).mono ?_); rintro e w' ⟨rfl, rfl⟩)
  go_ret
  exact ⟨rfl, rfl⟩
/-- through the doors: mergePPC64SldiSrw. -/
def v48 (i k : Nat) : Int := if k < i then 0 else (cd ((32 - k + i) % 32) (rn i (32 - k)) : Nat)
theorem c48 (i k : Nat) (w : World) (hT : Tabs w) (hk : k < 32) : Calls Tryd.prog 48 #[.int .i64 i, .int .i64 k] w fun e w' => e = .returned (.int .i64 (v48 i k)) ∧ w' = w := by
  unfold v48
  by_cases h : k < i
  · rw [if_pos h]; exact c48a i k w (by omega)
  · rw [if_neg h]; exact c48b i k w hT (by omega) hk
theorem c36 (i k : Nat) (w : World) (hT : Tabs w) (hk : k < 32) : Calls Tryd.prog 36 #[.int .i64 i, .int .i64 k] w fun e w' => e = .returned (.int .i64 (v48 i k)) ∧ w' = w := by
  have H := Lib.hid (c48 i k w hT hk)
  clear hT hk
  go_enter Tryd.func36, Tryd.ntmps36
  go_wp2_with (go_at_call 48; refine H.out.mono ?_; rintro e w' ⟨rfl, rfl⟩)
  go_ret
  exact ⟨rfl, rfl⟩
theorem c20 (i k : Nat) (w : World) (hT : Tabs w) (hk : k < 32) : Calls Tryd.prog 20 #[.int .i64 i, .int .i64 k] w fun e w' => e = .returned (.int .i64 (v48 i k)) ∧ w' = w := by
  have H := Lib.hid (c36 i k w hT hk)
  clear hT hk
  go_enter Tryd.func20, Tryd.ntmps20
  go_wp2_with (go_at_call 36; refine H.out.mono ?_; rintro e w' ⟨rfl, rfl⟩)
  go_ret
  exact ⟨rfl, rfl⟩
set_option maxHeartbeats 1000000 in
theorem sldi_srw_law (a b : Int) (x : Nat) (W : World) (hT : Tabs W) :
    Calls Tryd.prog 6 #[.int .i64 a, .int .i64 b, .int .u64 x] W fun e W' => e = .returned (.bool true) ∧ Below W.heap.size W W' := by
  obtain ⟨i, hi⟩ : ∃ n : Nat, a % 64 = (n : Int) := ⟨(a % 64).toNat, by omega⟩
  obtain ⟨k, hk⟩ : ∃ n : Nat, b % 32 = (n : Int) := ⟨(b % 32).toNat, by omega⟩
  have ri := rw_some a 64 (by decide) (by decide)
  have rk := rw_some b 32 (by decide) (by decide)
  rw [hi] at ri
  rw [hk] at rk
  have hi' : (i : Int) < 64 := by omega
  have hk' : (k : Int) < 32 := by omega
  have hkn : k < 32 := by omega
  have RI := Lib.hid ri
  have RK := Lib.hid rk
  have HT := Lib.hid hT
  have HC := Lib.hid (fun w hT => c20 i k w hT hkn)
  clear ri rk hi hk hT
  have main : ∀ e : Int, v48 i k = e → (e ≠ 0 → ∀ w, Calls Tryd.prog 14 #[.int .i64 e, .int .u64 x, .int .u64 (IntKind.u64.wrap ((x : Int) % 4294967296 / 2 ^ k * 2 ^ i))] w fun e w' => e = .returned (.bool true) ∧ Below w.heap.size w w') →
      Calls Tryd.prog 6 #[.int .i64 a, .int .i64 b, .int .u64 x] W fun e W' => e = .returned (.bool true) ∧ Below W.heap.size W W' := by
    intro e he hg
    have HE := Lib.hid he
    have HL := Lib.hid (low32 x)
    have HG := Lib.hid hg
    clear he hg hkn
    by_cases h0 : e = 0
    · subst h0
      go_enter Tryd.func6, Tryd.ntmps6
      go_wp2_with fail
      refine (laws_rwAt.calls _ _ _ _ RI.out).mono ?_
      rintro e w' ⟨rfl, ⟨n1, rfl⟩⟩
      go_wp2_with fail
      refine (laws_rwAt.calls _ _ _ _ RK.out).mono ?_
      rintro e w' ⟨rfl, ⟨n2, rfl⟩⟩
      go_wp2_with (first
        | (go_at_call 20; refine (HC.out _ ?hT).mono ?_; (case hT => exact HT.out); rintro e w' ⟨rfl, rfl⟩; rw [HE.out])
        | (go_at_call 13; refine (c13 _).mono ?_; rintro e w' ⟨rfl, rfl⟩))
      go_ret
      exact ⟨by simp, by repeat (first | exact Below.refl _ _ | refine pw_below_drewN ?_ _)⟩
    · have hb : (e == 0) = false := beq_false_of_ne h0
      have H0 := Lib.hid h0
      clear h0
      go_enter Tryd.func6, Tryd.ntmps6
      go_wp2_with fail
      refine (laws_rwAt.calls _ _ _ _ RI.out).mono ?_
      rintro e w' ⟨rfl, ⟨n1, rfl⟩⟩
      go_wp2_with fail
      refine (laws_rwAt.calls _ _ _ _ RK.out).mono ?_
      rintro e w' ⟨rfl, ⟨n2, rfl⟩⟩
      go_wp2_with (first
        | (go_at_call 20; refine (HC.out _ ?hT).mono ?_; (case hT => exact HT.out); rintro e w' ⟨rfl, rfl⟩; rw [HE.out])
        | (go_at_call 13; refine (c13 _).mono ?_; rintro e w' ⟨rfl, rfl⟩)
        | (go_at_call 21; refine (spec_Low.calls _ _ _ _ HL.out).mono ?_; rintro e w' ⟨rfl, ⟨n3, rfl⟩⟩)
        | (go_at_call 14; (with_reducible refine (HG.out H0.out _).mono ?_); rintro e w1 ⟨rfl, hbl⟩))
      go_ret
      exact ⟨by simp, (pw_below_drewN (Below.refl _ _) _).trans hbl⟩
  refine main (v48 i k) rfl (fun h0 w => ?_)
  unfold v48 at h0 ⊢
  by_cases h : k < i
  · rw [if_pos h] at h0; exact absurd rfl h0
  · rw [if_neg h]
    have hs := sldi_srw x i k (by omega) hkn
    have hm : rot 32 (x % 2 ^ 32) ((32 - k + i) % 32) &&& rn i (32 - k) < 4294967296 := Nat.lt_of_le_of_lt Nat.and_le_right (rn_lt32 _ _ (by omega))
    have e1 : IntKind.u64.wrap ((x : Int) % 4294967296 / 2 ^ k * 2 ^ i) = ((x % 2 ^ 32 / 2 ^ k * 2 ^ i : Nat) : Int) := by
      have : (x : Int) % 4294967296 / 2 ^ k * 2 ^ i = ((x % 2 ^ 32 / 2 ^ k * 2 ^ i : Nat) : Int) := by simp
      rw [this, wu64 (by omega) (by omega)]
    rw [e1]
    exact good_run _ i (32 - k) x _ (by omega) (by omega) (by omega) (by rw [← hs]) w
theorem walk (a b x : Int) (W : World) (h0 : TabAt 0 Lib.deBruijn32tab W) (h1 : TabAt 1 Lib.deBruijn64tab W) (_ : (Lit.int .i64 a).wf = true) (_ : (Lit.int .i64 b).wf = true) (hx : (Lit.int .u64 x).wf = true) :
    Calls Tryd.prog 6 #[.int .i64 a, .int .i64 b, .int .u64 x] W fun e W' => e = .returned (.bool true) ∧ Below W.heap.size W W' := by
  obtain ⟨x, rfl, _⟩ := wfn hx
  exact sldi_srw_law a b x W ⟨h0, h1⟩
end Go.Proofs.YtmldgakbkachpaaDoor.Sl
