/- FnPowerLog: a number of 64 bits that is told to be a power of 2 is 1 shifted by its logarithm; no condition. The walks, and the facts on numbers. -/
import Derived.Test.YtfnhbjpflpbebaaLz
import Derived.Deep.RegionWith
namespace Go.Proofs.Ytfnhbjpflpbebaa.Lz
open Go.RowKit Go.Proofs.Ytfnhbjpflpbebaa.Kit
def ps (a : Int) : Bool := decide (0 < a) && (Go.bits .and .i64 a (wrap64 (a - 1)) == 0)
theorem c55 (a : Int) (w : World) : Calls Try.prog 55 #[.int .i64 a] w fun e w' => e = .returned (.bool (ps a)) ∧ w' = w := by
  by_cases h : 0 < a
  · have hp : ps a = (Go.bits .and .i64 a (wrap64 (a - 1)) == 0) := by simp [ps, h]
    have H := Lib.hid hp
    have hd : decide (0 < a) = true := decide_eq_true h
    clear hp h
    go_enter Try.func55, Try.ntmps55
    go_wp2
    go_ret
    exact ⟨by rw [H.out]; rfl, rfl⟩
  · have hp : ps a = false := by simp [ps, h]
    have H := Lib.hid hp
    have hd : decide (0 < a) = false := decide_eq_false h
    clear hp h
    go_enter Try.func55, Try.ntmps55
    go_wp2
    go_ret
    exact ⟨by rw [H.out]; rfl, rfl⟩
theorem c35 (a : Int) (w : World) : Calls Try.prog 35 #[.int .i64 a] w fun e w' => e = .returned (.bool (ps a)) ∧ w' = w := by
  go_enter Try.func35, Try.ntmps35
  go_wp2_with (go_at_call 55; refine (c55 _ _).mono ?_; rintro e w' ⟨rfl, rfl⟩)
  go_ret
  exact ⟨rfl, rfl⟩
theorem c12 (a : Int) (w : World) : Calls Try.prog 12 #[.int .i64 a] w fun e w' => e = .returned (.bool (ps a)) ∧ w' = w := by
  go_enter Try.func12, Try.ntmps12
  go_wp2_with (go_at_call 35; refine (c35 _ _).mono ?_; rintro e w' ⟨rfl, rfl⟩)
  go_ret
  exact ⟨rfl, rfl⟩
theorem ps_pow (a : Int) (h1 : a ≤ 9223372036854775807) (h : ps a = true) : ∃ i : Nat, i < 63 ∧ a = ((2 ^ i : Nat) : Int) := by
  unfold ps at h
  simp only [Bool.and_eq_true, decide_eq_true_eq, beq_iff_eq] at h
  obtain ⟨h0, h⟩ := h
  obtain ⟨x, rfl⟩ : ∃ x : Nat, a = (x : Int) := ⟨a.toNat, by omega⟩
  have e : wrap64 ((x : Int) - 1) = ((x - 1 : Nat) : Int) := by rw [w64 (by omega) (by omega)]; omega
  have b : Go.bits .and .i64 (x : Int) ((x - 1 : Nat) : Int) = ((x &&& (x - 1) : Nat) : Int) :=
    (bits_nat .i64 63 (by decide) (fun n h0 h1 => by rw [wi64m, w64 (by omega) (by simp at h1; omega)]) x (x - 1) (by simp; omega) (by simp; omega)).1
  rw [e, b] at h
  obtain ⟨i, hi, hx⟩ := (pow_test 63 x (by simp; omega) (by omega)).1 (by omega)
  exact ⟨i, hi, by rw [hx]⟩
theorem lg_pow (i : Nat) (h : i < 63) : lg ((2 ^ i : Nat) : Int) = (i : Int) := by
  have all : (List.range 63).all (fun i => lg ((2 ^ i : Nat) : Int) == (i : Int)) = true := by decide +kernel
  simpa using List.all_eq_true.1 all i (by simpa using h)
theorem sh_pow (i : Nat) (h : i < 63) : wrap64 (2 ^ i) = ((2 ^ i : Nat) : Int) := by
  have all : (List.range 63).all (fun i => wrap64 (2 ^ i) == ((2 ^ i : Nat) : Int)) = true := by decide +kernel
  simpa using List.all_eq_true.1 all i (by simpa using h)
theorem plog_walk (a : Int) (W : World) (w0 : (Lit.int .i64 a).wf = true) : Calls Try.prog 4 #[.int .i64 a] W fun e W' => e = .returned (.bool true) ∧ Below W.heap.size W W' := by
  obtain ⟨h0, h1⟩ := wfi64 w0
  have h8 : ps 8 = true := by decide +kernel
  have H8 := Lib.hid h8
  clear h8
  cases hp : ps a with
  | false =>
    have HP := Lib.hid hp
    clear hp
    go_enter Try.func4, Try.ntmps4
    go_wp2_with (first
      | (go_at_call_of 12 (Value.int .i64 8); refine (c12 _ _).mono ?_; rintro e w' ⟨rfl, rfl⟩; rw [H8.out])
      | (go_at_call 12; refine (c12 _ _).mono ?_; rintro e w' ⟨rfl, rfl⟩; rw [HP.out]))
    go_ret
    exact ⟨by simp, Below.refl _ _⟩
  | true =>
    obtain ⟨i, hi, hx⟩ := ps_pow a h1 hp
    have hl : lg a = (i : Int) := by rw [hx]; exact lg_pow i hi
    have hs : (wrap64 (2 ^ i) == a) = true := by rw [hx, sh_pow i hi]; simp
    have HP := Lib.hid hp
    have HL := Lib.hid hl
    have hi' : (i : Int) ≤ 62 := by omega
    clear hp hl hx h0 h1
    go_enter Try.func4, Try.ntmps4
    go_wp2_with (first
      | (go_at_call_of 12 (Value.int .i64 8); refine (c12 _ _).mono ?_; rintro e w' ⟨rfl, rfl⟩; rw [H8.out])
      | (go_at_call 12; refine (c12 _ _).mono ?_; rintro e w' ⟨rfl, rfl⟩; rw [HP.out])
      | (go_at_call 13; refine (c13 _ _).mono ?_; rintro e w' ⟨rfl, rfl⟩; rw [HL.out]))
    go_ret
    exact ⟨by simp, Below.refl _ _⟩
end Go.Proofs.Ytfnhbjpflpbebaa.Lz
