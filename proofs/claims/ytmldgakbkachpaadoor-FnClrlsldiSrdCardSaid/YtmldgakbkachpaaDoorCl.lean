/- FnClrlsldiSrd: a clearing of bits at the high end and a shift to the left behind a shift to the right of 64 bits, as one operation, do the same to all words, for every input, over the tables that the library lays; no other condition. The walks. -/
import Derived.Test.YtmldgakbkachpaaDoorAs
import Derived.Test.YtmldgakbkachpaaDoorCd
import Derived.Deep.QuietTactic
import Derived.BigQuiet
import Derived.WalkSmall
namespace Go.Proofs.YtmldgakbkachpaaDoor.Cl
open Go.RowKit Go.Proofs.YtmldgakbkachpaaDoorW.PrintWords Go.Proofs.YtmldgakbkachpaaDoorW.PrintLast Go.Proofs.YtmldgakbkachpaaDoorW.PrintMore Go.Proofs.YtmldgakbkachpaaDoor.Kit Go.Proofs.YtmldgakbkachpaaDoor.Sp Go.Proofs.YtmldgakbkachpaaDoor.Wd Go.Proofs.YtmldgakbkachpaaDoor.En Go.Proofs.YtmldgakbkachpaaDoor.De Go.Proofs.YtmldgakbkachpaaDoor.Gd Go.Proofs.YtmldgakbkachpaaDoor.Lw Go.Proofs.YtmldgakbkachpaaDoor.As Go.Proofs.YtmldgakbkachpaaDoor.Cd
theorem parts (a b c : Int) (h1 : 0 ≤ a) (h2 : a < 64) (h3 : 0 ≤ b) (h4 : b < 64) (h5 : 0 ≤ c) (h6 : c < 64) :
    wrap32 (Go.bits .or .i64 (Go.bits .or .i64 (a * 65536) (b * 256)) c) = a * 65536 + b * 256 + c := by
  rw [or_add (a * 65536) (b * 256) 16 (by omega) (by simp <;> omega) (by omega) (by omega) (by simp <;> omega) (by omega), or_add (a * 65536 + b * 256) c 8 (by omega) (by simp <;> omega) (by omega) (by omega) (by simp <;> omega) (by omega)]
  unfold wrap32; omega
theorem c52 (a b c d : Int) (w : World) (h1 : 0 ≤ a) (h2 : a < d) (h3 : 0 ≤ b) (h4 : b < d) (h5 : 0 ≤ c) (h6 : c < d) (h7 : d ≤ 64) :
    Calls Tryd.prog 52 #[.int .i64 a, .int .i64 b, .int .i64 c, .int .i64 d] w fun e w' => e = .returned (.int .i32 (a * 65536 + b * 256 + c)) ∧ w' = w := by
  have H := Lib.hid (parts a b c h1 (by omega) h3 (by omega) h5 (by omega))
  go_enter Tryd.func52, Tryd.ntmps52
  go_wp2
  go_ret
  exact ⟨by rw [← H.out]; rfl, rfl⟩
theorem c41 (a b c d : Int) (w : World) (h1 : 0 ≤ a) (h2 : a < d) (h3 : 0 ≤ b) (h4 : b < d) (h5 : 0 ≤ c) (h6 : c < d) (h7 : d ≤ 64) :
    Calls Tryd.prog 41 #[.int .i64 a, .int .i64 b, .int .i64 c, .int .i64 d] w fun e w' => e = .returned (.int .i32 (a * 65536 + b * 256 + c)) ∧ w' = w := by
  go_enter Tryd.func41, Tryd.ntmps41
  go_wp2_with (go_at_call 52; refine (c52 _ _ _ _ _ h1 h2 h3 h4 h5 h6 h7).mono ?_; rintro e w' ⟨rfl, rfl⟩)
  go_ret
  exact ⟨rfl, rfl⟩
theorem c27 (a b c d : Int) (w : World) (h1 : 0 ≤ a) (h2 : a < d) (h3 : 0 ≤ b) (h4 : b < d) (h5 : 0 ≤ c) (h6 : c < d) (h7 : d ≤ 64) :
    Calls Tryd.prog 27 #[.int .i64 a, .int .i64 b, .int .i64 c, .int .i64 d] w fun e w' => e = .returned (.int .i32 (a * 65536 + b * 256 + c)) ∧ w' = w := by
  go_enter Tryd.func27, Tryd.ntmps27
  go_wp2_with (go_at_call 41; refine (c41 _ _ _ _ _ h1 h2 h3 h4 h5 h6 h7).mono ?_; rintro e w' ⟨rfl, rfl⟩)
  go_ret
  exact ⟨rfl, rfl⟩

theorem rw_b (x n r : Int) (w : World) (h : laws_rwAt.f x n = some r) : Calls Tryd.prog 11 #[.int .i64 x, .int .i64 n] w fun e w' => e = .returned (.int .i64 r) ∧ Below w.heap.size w w' :=
  (laws_rwAt.calls x n r w h).mono fun e w' ⟨he, n, hw⟩ => ⟨he, by subst hw; exact pw_below_drewN (Below.refl _ _) _⟩
/-- what mkClear hands back: the value, and a function over two cells of its own. -/
def Made (p s : Nat) (w : World) (e : Ending) (w' : World) : Prop :=
  ∃ g1 g2 : Nat, e = .returned (.tuple #[.int .i64 ((s : Int) * 65536 + (p : Int) * 256 + 63), .func (Fn.func 28) #[] #[.pointer (some ⟨g1, 0, none⟩), .pointer (some ⟨g2, 0, none⟩)]]) ∧
    w'.cell? ⟨g1, 0, none⟩ = some (.int .i64 p) ∧ w'.cell? ⟨g2, 0, none⟩ = some (.int .i64 s) ∧ Below w.heap.size w w'
theorem c10 (a b : Int) (p s : Nat) (hp : b % 64 = p) (hs : a % ((p : Int) + 1) = s) (w : World) :
    Calls Tryd.prog 10 #[.int .i64 a, .int .i64 b] w (Made p s w) := by
  have rb := rw_some b 64 (by decide) (by decide)
  rw [hp] at rb
  have ra := rw_some a ((p : Int) + 1) (by omega) (by omega)
  rw [hs] at ra
  have RB := Lib.hid rb
  have RA := Lib.hid ra
  have hp' : (p : Int) < 64 := by omega
  have hsp : (s : Int) < (p : Int) + 1 := by rw [← hs]; exact Int.emod_lt_of_pos _ (by omega)
  have HS1 : Hid ((s : Int) < 64) := Lib.hid (by omega)
  clear rb ra hp hs
  go_enter Tryd.func10, Tryd.ntmps10
  go_wp2_with fail
  refine (rw_b _ _ _ _ RB.out).mono ?_
  rintro e w1 ⟨rfl, hb1⟩
  have HB1 := Lib.hid hb1
  clear hb1
  go_wp2_with fail
  refine (rw_b _ _ _ _ RA.out).mono ?_
  rintro e w2 ⟨rfl, hb2⟩
  have kA : w2.cell? ⟨w1.heap.size, 0, none⟩ = some (.int .i64 p) := (hb2.cell (by simp)).trans (by simp)
  have hz : w1.heap.size < w2.heap.size := by have := hb2.size; simp at this; omega
  have HB2 := Lib.hid hb2
  clear hb2
  go_wp2_with (go_at_call 27; refine (c27 _ _ _ _ _ (by omega) HS1.out (by omega) hp' (by decide) (by decide) (by decide)).mono ?_; rintro e w' ⟨rfl, rfl⟩)
  refine bodyPost_ret (v := .tuple #[.int .i64 ((s : Int) * 65536 + (p : Int) * 256 + 63), .func (Fn.func 28) #[] #[.pointer (some ⟨w1.heap.size, 0, none⟩), .pointer (some ⟨w2.heap.size, 0, none⟩)]]) (by simp [results, Tryd.results10, go_sem]) rfl ⟨w1.heap.size, w2.heap.size, rfl, (World.cell?_alloc_lt _ _ _ hz).trans kA, ?_, ?_⟩
  · exact (World.cell?_alloc_at _ _ _ 0 rfl).trans rfl
  · exact ((HB1.out.alloc HB1.out.size _).trans (HB2.out.mono (by simp; have := HB1.out.size; omega))).alloc (by have := HB1.out.size; omega) _
theorem fmb (p s : Nat) (hp : p < 64) : ssarewrite_GetPPC64Shiftmb.f ((s : Int) * 65536 + (p : Int) * 256 + 63) = some (p : Int) := by
  unfold ssarewrite_GetPPC64Shiftmb.f
  refine congrArg some ?_
  have : IntKind.i8.wrap (((s : Int) * 65536 + (p : Int) * 256 + 63) / 256) = (p : Int) := by simp [IntKind.wrap, IntKind.bits, IntKind.signed]; split <;> omega
  rw [this, w64 (by omega) (by omega)]
theorem fsh (p s : Nat) (hp : p < 64) (hs : s < 64) : ssarewrite_GetPPC64Shiftsh.f ((s : Int) * 65536 + (p : Int) * 256 + 63) = some (s : Int) := by
  unfold ssarewrite_GetPPC64Shiftsh.f
  refine congrArg some ?_
  have : IntKind.i8.wrap (((s : Int) * 65536 + (p : Int) * 256 + 63) / 65536) = (s : Int) := by simp [IntKind.wrap, IntKind.bits, IntKind.signed]; omega
  rw [this, w64 (by omega) (by omega)]
/-- the mask that is left, as the walk spells it. -/
def xm (p s k : Nat) : Int := IntKind.u64.wrap (Go.bits .and .u64 (18446744073709551615 / 2 ^ k) (18446744073709551615 / 2 ^ p) * 2 ^ s)
theorem ones_shr (k : Nat) (hk : k < 64) : (18446744073709551615 : Int) / 2 ^ k = ((2 ^ (64 - k) - 1 : Nat) : Int) := by
  have all : ((List.range 64).all fun k => (18446744073709551615 : Int) / 2 ^ k == ((2 ^ (64 - k) - 1 : Nat) : Int)) = true := by decide +kernel
  exact beq_iff_eq.1 (List.all_eq_true.1 all k (by simpa using hk))
theorem xm_any (p s k : Nat) (hp : p < 64) (hs : s ≤ p) (hk : k < 64) : xm p s k = ((rn s (64 - max k p) : Nat) : Int) := by
  have M : (2 : Nat) ^ 64 = 18446744073709551616 := by decide
  have h1 : 2 ^ (64 - k) ≤ 2 ^ 64 := Nat.pow_le_pow_right (by decide) (by omega)
  have h2 : 2 ^ (64 - p) ≤ 2 ^ 64 := Nat.pow_le_pow_right (by decide) (by omega)
  have hl := rn_lt s (64 - max k p) 64 (by omega)
  unfold xm
  rw [ones_shr k hk, ones_shr p hp, bits_and_u64n _ _ (by omega) (by omega)]
  have e : (((2 ^ (64 - k) - 1 &&& (2 ^ (64 - p) - 1) : Nat) : Int) * 2 ^ s) = ((rn s (64 - max k p) : Nat) : Int) := by
    rw [← clr_mask k p s hk hp hs]; simp
  rw [e, wu64 (by omega) (by omega)]
def and63 (k s : Nat) : Bool := (Go.bits .and .i64 (64 - (k : Int) + (s : Int)) 63 == ((64 - k + s) % 64 : Nat)) && (Go.bits .and .i64 (Go.bits .and .i64 (64 - (k : Int) + (s : Int)) 63) 31 == ((64 - k + s) % 64 % 32 : Nat))
theorem and63_all : ((List.range 64).all fun k => (List.range 64).all fun s => and63 k s) = true := by decide +kernel
theorem and63_any (k s : Nat) (hk : k < 64) (hs : s < 64) : Go.bits .and .i64 (64 - (k : Int) + (s : Int)) 63 = ((64 - k + s) % 64 : Nat) ∧ Go.bits .and .i64 (Go.bits .and .i64 (64 - (k : Int) + (s : Int)) 63) 31 = ((64 - k + s) % 64 % 32 : Nat) := by
  have := at_range and63_all k s hk hs
  unfold and63 at this
  simpa only [Bool.and_eq_true, beq_iff_eq] using this
def rc (k s : Nat) : Nat := rot 64 18446744069414584320 ((64 - k + s) % 64)
def goodc (p s k : Nat) : Prop := rn s (64 - max k p) < 4294967296 ∧ rc k s &&& rn s (64 - max k p) = 0
instance (p s k : Nat) : Decidable (goodc p s k) := by unfold goodc; infer_instance
def v42 (p s k : Nat) : Int := if goodc p s k then (cd ((64 - k + s) % 64 % 32) (rn s (64 - max k p)) : Nat) else 0
set_option maxHeartbeats 1000000 in
set_option maxRecDepth 100000 in
theorem c42 (p s k : Nat) (hp : p < 64) (hs : s ≤ p) (hk : k < 64) (w : World) (hT : Tabs w) :
    Calls Tryd.prog 42 #[.int .i64 ((s : Int) * 65536 + (p : Int) * 256 + 63), .int .i64 k] w fun e w' => e = .returned (.int .i64 (v42 p s k)) ∧ Drawn0 w w' := by
  have HM := Lib.hid (fmb p s hp)
  have HS := Lib.hid (fsh p s hp (by omega))
  have HX := Lib.hid (xm_any p s k hp hs hk)
  have hpos : 0 < rn s (64 - max k p) := rn_pos _ _ (by omega)
  have hl := rn_lt s (64 - max k p) 64 (by omega)
  obtain ⟨a1, a2⟩ := and63_any k s hk (by omega)
  have HR : Hid (bits_RotateLeft64.f 18446744069414584320 (Go.bits .and .i64 (64 - (k : Int) + (s : Int)) 63) = some (rc k s : Int)) := Lib.hid (by
    rw [a1]; exact rl_any 18446744069414584320 _ _ (by decide) (by omega) (by omega))
  have hrl : rc k s < 18446744073709551616 := by
    have := rot_lt 64 18446744069414584320 ((64 - k + s) % 64) (by decide)
    unfold rc
    simpa using this
  have hand : Go.bits .and .u64 (rc k s : Int) (xm p s k) = ((rc k s &&& rn s (64 - max k p) : Nat) : Int) := by
    rw [HX.out]; exact bits_and_u64n _ _ hrl (by simpa using hl)
  have hp' : (p : Int) < 64 := by omega
  have hs' : (s : Int) < 64 := by omega
  have hk' : (k : Int) < 64 := by omega
  have HT := Lib.hid hT
  have HE : Hid (rn s (64 - max k p) < 4294967296 → ∀ w, Tabs w → Calls Tryd.prog 47 #[.int .i64 (Go.bits .and .i64 (Go.bits .and .i64 (64 - (k : Int) + (s : Int)) 63) 31), .int .i64 (IntKind.u64.wrap (Go.bits .and .u64 (18446744073709551615 / 2 ^ k) (18446744073709551615 / 2 ^ p) * 2 ^ s)), .int .i64 32] w fun e w' => e = .returned (.int .i64 (cd ((64 - k + s) % 64 % 32) (rn s (64 - max k p)) : Nat)) ∧ w' = w) := Lib.hid (fun hl w hT => by
    have ex : IntKind.u64.wrap (Go.bits .and .u64 (18446744073709551615 / 2 ^ k) (18446744073709551615 / 2 ^ p) * 2 ^ s) = ((rn s (64 - max k p) : Nat) : Int) := HX.out
    rw [a2, ex]
    exact enc_of _ _ (by omega) hpos hl w hT)
  have HA := Lib.hid hand
  have HP := Lib.hid hpos
  clear hp hs hk hT a1 a2 hand hrl hl hpos
  go_enter Tryd.func42, Tryd.ntmps42
  go_wp2_with (first
    | (go_at_call 53; (with_reducible refine (ssarewrite_GetPPC64Shiftmb.calls _ _ _ HM.out).mono ?_); rintro e w' ⟨rfl, ⟨n1, rfl⟩⟩)
    | (go_at_call 54; (with_reducible refine (ssarewrite_GetPPC64Shiftsh.calls _ _ _ HS.out).mono ?_); rintro e w' ⟨rfl, ⟨n2, rfl⟩⟩))
  · exfalso
    have hz : (xm p s k == 0) = true := by assumption
    rw [HX.out] at hz
    have := beq_iff_eq.1 hz
    have := HP.out
    omega
  · have hlt : xm p s k % 4294967296 = xm p s k := by assumption
    have h32 : rn s (64 - max k p) < 4294967296 := by rw [HX.out] at hlt; omega
    refine (bits_RotateLeft64.calls _ _ _ _ HR.out).mono ?_
    rintro e w' ⟨rfl, ⟨n3, rfl⟩⟩
    by_cases hz : rc k s &&& rn s (64 - max k p) = 0
    · have Z : (Go.bits .and .u64 (rc k s : Int) (IntKind.u64.wrap (Go.bits .and .u64 (18446744073709551615 / 2 ^ k) (18446744073709551615 / 2 ^ p) * 2 ^ s)) != 0) = false := by
        have := HA.out
        unfold xm at this
        rw [this, hz]; rfl
      have hv : v42 p s k = (cd ((64 - k + s) % 64 % 32) (rn s (64 - max k p)) : Nat) := if_pos ⟨h32, hz⟩
      have HE' := Lib.hid (HE.out h32)
      have HV := Lib.hid hv
      clear hv hlt hz h32 HE
      generalize cd ((64 - k + s) % 64 % 32) (rn s (64 - max k p)) = E at *
      go_wp2_with (go_at_call 47; (with_reducible refine (HE'.out _ ?hT).mono ?_); (case hT => exact HT.out); rintro e w' ⟨rfl, rfl⟩)
      go_ret
      exact ⟨ret_int HV.out.symm, ⟨_, rfl⟩⟩
    · have Z : (Go.bits .and .u64 (rc k s : Int) (IntKind.u64.wrap (Go.bits .and .u64 (18446744073709551615 / 2 ^ k) (18446744073709551615 / 2 ^ p) * 2 ^ s)) != 0) = true := by
        have := HA.out
        unfold xm at this
        rw [this]; exact bne_iff_ne.2 (by omega)
      have hv : v42 p s k = 0 := if_neg (fun h => hz h.2)
      have HV := Lib.hid hv
      clear hv hlt hz h32
      go_wp2_with fail
      go_ret
      exact ⟨ret_int HV.out.symm, ⟨_, rfl⟩⟩
  · have hne : ¬ xm p s k % 4294967296 = xm p s k := by assumption
    have hv : v42 p s k = 0 := if_neg (fun h => hne (by rw [HX.out]; have := h.1; omega))
    go_ret
    exact ⟨ret_int hv.symm, ⟨_, rfl⟩⟩
theorem c29 (p s k : Nat) (hp : p < 64) (hs : s ≤ p) (hk : k < 64) (w : World) (hT : Tabs w) :
    Calls Tryd.prog 29 #[.int .i64 ((s : Int) * 65536 + (p : Int) * 256 + 63), .int .i64 k] w fun e w' => e = .returned (.int .i64 (v42 p s k)) ∧ Drawn0 w w' := by
  have H := Lib.hid (c42 p s k hp hs hk w hT)
  clear hp hs hk hT
  go_enter Tryd.func29, Tryd.ntmps29
  go_wp2_with (go_at_call 42; refine H.out.mono ?_; rintro e w' ⟨rfl, ⟨n1, rfl⟩⟩)
  go_ret
  exact ⟨rfl, ⟨_, rfl⟩⟩
theorem c12 (p s k : Nat) (hp : p < 64) (hs : s ≤ p) (hk : k < 64) (w : World) (hT : Tabs w) :
    Calls Tryd.prog 12 #[.int .i64 ((s : Int) * 65536 + (p : Int) * 256 + 63), .int .i64 k] w fun e w' => e = .returned (.int .i64 (v42 p s k)) ∧ Drawn0 w w' := by
  have H := Lib.hid (c29 p s k hp hs hk w hT)
  clear hp hs hk hT
  go_enter Tryd.func12, Tryd.ntmps12
  go_wp2_with (go_at_call 29; refine H.out.mono ?_; rintro e w' ⟨rfl, ⟨n1, rfl⟩⟩)
  go_ret
  exact ⟨rfl, ⟨_, rfl⟩⟩
theorem c28 (y : Int) (g1 g2 p s : Nat) (hp : p < 64) (hs : s < 64) (w : World) (k1 : w.cell? ⟨g1, 0, none⟩ = some (.int .i64 p)) (k2 : w.cell? ⟨g2, 0, none⟩ = some (.int .i64 s)) :
    Calls Tryd.prog 28 #[.int .u64 y, .pointer (some ⟨g1, 0, none⟩), .pointer (some ⟨g2, 0, none⟩)] w fun e w' => e = .returned (.int .u64 (IntKind.u64.wrap (IntKind.u64.wrap (y * 2 ^ p) / 2 ^ p * 2 ^ s))) ∧ Drawn0 w w' := by
  have hp' : (p : Int) < 64 := by omega
  have hs' : (s : Int) < 64 := by omega
  clear hp hs
  go_enter Tryd.func28, Tryd.ntmps28
  go_wp2
  go_quiet (fail)
  go_wp2
  go_ret
  exact ⟨rfl, ⟨_, rfl⟩⟩
set_option maxHeartbeats 1000000 in
theorem law (a b c : Int) (k p s x : Nat) (e0 : Int) (hp : b % 64 = p) (hs : a % ((p : Int) + 1) = s) (hk : c % 64 = k) (he : v42 p s k = e0)
    (hg : e0 ≠ 0 → ∀ w, Calls Tryd.prog 14 #[.int .i64 e0, .int .u64 (x : Nat), .int .u64 (IntKind.u64.wrap (IntKind.u64.wrap ((x : Int) / 2 ^ k * 2 ^ p) / 2 ^ p * 2 ^ s))] w fun e w' => e = .returned (.bool true) ∧ Below w.heap.size w w')
    (W : World) (hT : Tabs W) :
    Calls Tryd.prog 3 #[.int .i64 a, .int .i64 b, .int .i64 c, .int .u64 (x : Nat)] W fun e W' => e = .returned (.bool true) ∧ Below W.heap.size W W' := by
  have rk := rw_some c 64 (by decide) (by decide)
  rw [hk] at rk
  have RK := Lib.hid rk
  have H10 := Lib.hid (fun w => c10 a b p s hp hs w)
  have hsp : s ≤ p := by have := Int.emod_lt_of_pos a (b := (p : Int) + 1) (by omega); omega
  have H12 : Hid (∀ w, Tabs w → Calls Tryd.prog 12 #[.int .i64 ((s : Int) * 65536 + (p : Int) * 256 + 63), .int .i64 k] w fun e w' => e = .returned (.int .i64 e0) ∧ Drawn0 w w') := Lib.hid (fun w hT => by rw [← he]; exact c12 p s k (by omega) hsp (by omega) w hT)
  have HT := Lib.hid hT
  have hk' : (k : Int) < 64 := by omega
  have hp' : (p : Int) < 64 := by omega
  have hs' : (s : Int) < 64 := by omega
  clear rk hk hp hs he hT hsp
  go_enter Tryd.func3, Tryd.ntmps3
  go_wp2_with fail
  refine (H10.out _).mono ?_
  rintro e w1 ⟨g1, g2, rfl, k1, k2, hb⟩
  have HT1 := Lib.hid (tabs_below HT.out hb)
  have HB := Lib.hid hb
  clear hb
  go_wp2_with fail
  refine (laws_rwAt.calls _ _ _ _ RK.out).mono ?_
  rintro e w' ⟨rfl, ⟨n1, rfl⟩⟩
  go_wp2_with fail
  refine (H12.out _ ?hT).mono ?_
  case hT => exact HT1.out
  rintro e w' ⟨rfl, ⟨n2, rfl⟩⟩
  by_cases h0 : e0 = 0
  · subst h0
    go_wp2_with (go_at_call 13; refine (c13 _).mono ?_; rintro e w' ⟨rfl, rfl⟩)
    go_ret
    exact ⟨by simp, HB.out.trans (pw_below_drewN (Below.refl _ _) _ |>.mono HB.out.size)⟩
  · have hb0 : (e0 == 0) = false := beq_false_of_ne h0
    have HG := Lib.hid (hg h0)
    have HC := Lib.hid (fun w k1 k2 => c28 ((x : Int) / 2 ^ k) g1 g2 p s (by omega) (by omega) w k1 k2)
    have K1 := Lib.hid k1
    have K2 := Lib.hid k2
    clear h0 hg k1 k2
    go_wp2_with (first
      | (go_at_call 13; refine (c13 _).mono ?_; rintro e w' ⟨rfl, rfl⟩)
      | (go_at_call 28; (with_reducible refine (HC.out _ ?k1 ?k2).mono ?_); (case k1 => exact K1.out); (case k2 => exact K2.out); rintro e w' ⟨rfl, ⟨n3, rfl⟩⟩)
      | (go_at_call 14; (with_reducible refine (HG.out _).mono ?_); rintro e w4 ⟨rfl, hb4⟩; have HB4 := Lib.hid hb4; clear hb4))
    go_ret
    exact ⟨by simp, (HB.out.trans (pw_below_drewN (Below.refl _ _) _ |>.mono HB.out.size)).trans (HB4.out.mono HB.out.size)⟩
theorem walk (a b c x : Int) (W : World) (h0 : TabAt 0 Lib.deBruijn32tab W) (h1 : TabAt 1 Lib.deBruijn64tab W) (_ : (Lit.int .i64 a).wf = true) (_ : (Lit.int .i64 b).wf = true) (_ : (Lit.int .i64 c).wf = true) (hx : (Lit.int .u64 x).wf = true) :
    Calls Tryd.prog 3 #[.int .i64 a, .int .i64 b, .int .i64 c, .int .u64 x] W fun e W' => e = .returned (.bool true) ∧ Below W.heap.size W W' := by
  obtain ⟨x, rfl, hxl⟩ := wfn hx
  obtain ⟨k, hk⟩ : ∃ n : Nat, c % 64 = (n : Int) := ⟨(c % 64).toNat, by omega⟩
  obtain ⟨p, hp⟩ : ∃ n : Nat, b % 64 = (n : Int) := ⟨(b % 64).toNat, by omega⟩
  obtain ⟨s, hs⟩ : ∃ n : Nat, a % ((p : Int) + 1) = (n : Int) := ⟨(a % ((p : Int) + 1)).toNat, by have := Int.emod_nonneg a (b := (p : Int) + 1) (by omega); omega⟩
  have hsp : s ≤ p := by have := Int.emod_lt_of_pos a (b := (p : Int) + 1) (by omega); omega
  refine law a b c k p s x _ hp hs hk rfl (fun h w => ?_) W ⟨h0, h1⟩
  unfold v42 at h ⊢
  by_cases hg : goodc p s k
  · rw [if_pos hg]
    obtain ⟨g1, g2⟩ := hg
    have key := clrlsldi_srd x k p s (by omega) (by omega) hsp (by simpa using hxl) (by simpa using g1) (by
      have e : rn 32 32 = 18446744069414584320 := by decide
      rw [e]; exact g2)
    have M : (2 : Nat) ^ 64 = 18446744073709551616 := by decide
    rw [show (2 : Nat) ^ 32 = 4294967296 by decide, M] at key
    have ew : IntKind.u64.wrap (IntKind.u64.wrap ((x : Int) / 2 ^ k * 2 ^ p) / 2 ^ p * 2 ^ s) = (((x / 2 ^ k * 2 ^ p % 18446744073709551616) / 2 ^ p * 2 ^ s % 18446744073709551616 : Nat) : Int) := by
      rw [wu64m, wu64m]; simp
    rw [ew]
    have hi : s + (64 - max k p) ≤ 32 := by
      rcases Nat.lt_or_ge 32 (s + (64 - max k p)) with h | h
      · exfalso
        have hb := rn_bit s (64 - max k p) (s + (64 - max k p) - 1)
        have : (rn s (64 - max k p)).testBit (s + (64 - max k p) - 1) = true := by rw [hb]; simp; omega
        have := @lt_of_bit _ 32 (by simpa using g1) _ this
        omega
      · exact h
    exact good_run _ s (64 - max k p) x _ (by omega) (by omega) hi key w
  · rw [if_neg hg] at h; exact absurd rfl h
end Go.Proofs.YtmldgakbkachpaaDoor.Cl
