/- FnAndSrdi: a mask behind a shift to the right of 64 bits, as one operation, does the same to all words, for every input, over the tables that the library lays; no other condition. The walks. -/
import Derived.Test.YtmldgakbkachpaaDoorLw
namespace Go.Proofs.YtmldgakbkachpaaDoor.As
open Go.RowKit Go.Proofs.YtmldgakbkachpaaDoorW.PrintWords Go.Proofs.YtmldgakbkachpaaDoorW.PrintLast Go.Proofs.YtmldgakbkachpaaDoorW.PrintMore Go.Proofs.YtmldgakbkachpaaDoor.Kit Go.Proofs.YtmldgakbkachpaaDoor.Sp Go.Proofs.YtmldgakbkachpaaDoor.Wd Go.Proofs.YtmldgakbkachpaaDoor.En Go.Proofs.YtmldgakbkachpaaDoor.De Go.Proofs.YtmldgakbkachpaaDoor.Gd Go.Proofs.YtmldgakbkachpaaDoor.Lw
/-- the mask that is left, as the code has it, and as a word. -/
def mi (m : Int) (k : Nat) : Int := Go.bits .and .i64 m (wrap64 (shr .u64 (IntKind.u64.wrap ((shl .u64 1 (IntKind.u64.wrap 64)) - 1)) (IntKind.u64.wrap (k : Int))))
def sm64 (k : Nat) : Bool := (shr .u64 (IntKind.u64.wrap ((shl .u64 1 (IntKind.u64.wrap 64)) - 1)) (IntKind.u64.wrap (k : Int)) == ((2 ^ (64 - k) - 1 : Nat) : Int)) && (Go.bits .and .i64 (32 - (k : Int)) 31 == ((64 - k) % 32 : Nat))
theorem sm64_all : ((List.range 64).all sm64) = true := by decide +kernel
theorem sm64_any (k : Nat) (h : k < 64) : shr .u64 (IntKind.u64.wrap ((shl .u64 1 (IntKind.u64.wrap 64)) - 1)) (IntKind.u64.wrap (k : Int)) = ((2 ^ (64 - k) - 1 : Nat) : Int) ∧ Go.bits .and .i64 (32 - (k : Int)) 31 = ((64 - k) % 32 : Nat) := by
  have := List.all_eq_true.1 sm64_all k (by simpa using h)
  unfold sm64 at this
  simpa only [Bool.and_eq_true, beq_iff_eq] using this
theorem rsm64 (m : Int) (k : Nat) (hk : k < 64) : ssarewrite_mergePPC64RShiftMask.f m (k : Int) 64 = some (mi m k) := by
  unfold ssarewrite_mergePPC64RShiftMask.f
  rw [if_pos (by decide +kernel), if_pos (by rw [wu64 (by omega) (by omega)]; omega)]
  rfl
theorem mi_u (m : Int) (k u : Nat) (hk : k < 64) (hu : IntKind.u64.wrap m = u) : IntKind.u64.wrap (mi m k) = ((u &&& (2 ^ (64 - k) - 1) : Nat) : Int) := by
  have M : (2 : Nat) ^ 64 = 18446744073709551616 := by decide
  have hp : 2 ^ (64 - k) ≤ 2 ^ 64 := Nat.pow_le_pow_right (by decide) (by omega)
  have hul : u < 18446744073709551616 := by rw [wu64m] at hu; omega
  unfold mi
  rw [(sm64_any k hk).1, bits_i64, wrap_u64, BitVec.ofInt_toInt]
  simp only []
  rw [BitVec.toNat_and]
  have e1 : (BitVec.ofInt 64 m).toNat = u := by rw [wrap_u64] at hu; exact Int.ofNat.inj hu
  have e2 : (BitVec.ofInt 64 (wrap64 ((2 ^ (64 - k) - 1 : Nat) : Int))).toNat = 2 ^ (64 - k) - 1 := by
    have := wu64_wrap64 ((2 ^ (64 - k) - 1 : Nat) : Int)
    rw [wrap_u64, wu64 (by omega) (by omega)] at this
    exact Int.ofNat.inj this
  rw [e1, e2]
theorem mi_in (m : Int) (k : Nat) : -9223372036854775808 ≤ mi m k ∧ mi m k ≤ 9223372036854775807 := by
  unfold mi
  rw [bits_i64]
  simp only []
  generalize (BitVec.ofInt 64 m &&& _) = b
  have h := BitVec.toInt_lt (x := b)
  have h' := BitVec.le_toInt (x := b)
  simp at h h'
  omega
def mu (u k : Nat) : Nat := u &&& (2 ^ (64 - k) - 1)
def rv (k : Nat) : Nat := rot 64 18446744069414584320 ((64 - k) % 64)
theorem rv_lt (k : Nat) : rv k < 18446744073709551616 := by
  have := rot_lt 64 18446744069414584320 ((64 - k) % 64) (by decide)
  unfold rv
  simpa using this
theorem rv_any (k : Nat) (hk : k < 64) : bits_RotateLeft64.f 18446744069414584320 (-(k : Int)) = some (rv k : Int) :=
  rl_any 18446744069414584320 (-(k : Int)) ((64 - k) % 64) (by decide) (by omega) (by omega)
def good (u k : Nat) : Prop := rv k &&& mu u k = 0 ∧ mu u k < 4294967296 ∧ st false 64 (mu u k) = 1
instance (u k : Nat) : Decidable (good u k) := by unfold good; infer_instance
def v51 (u k : Nat) : Int := if good u k then (cd ((64 - k) % 32) (mu u k) : Nat) else 0
set_option maxHeartbeats 1000000 in
theorem c51 (m : Int) (k u : Nat) (hk : k < 64) (hu : IntKind.u64.wrap m = u) (w : World) (hT : Tabs w) :
    Calls Tryd.prog 51 #[.int .i64 m, .int .i64 k] w fun e w' => e = .returned (.int .i64 (v51 u k)) ∧ Drawn0 w w' := by
  have hmu := mi_u m k u hk hu
  have hin := mi_in m k
  have HS := Lib.hid (rsm64 m k hk)
  have HR := Lib.hid (rv_any k hk)
  have hand : Go.bits .and .u64 (rv k : Int) (IntKind.u64.wrap (mi m k)) = ((rv k &&& mu u k : Nat) : Int) := by
    rw [hmu]
    have hp : mu u k < 18446744073709551616 := Nat.lt_of_le_of_lt Nat.and_le_left (by rw [wu64m] at hu; omega)
    exact bits_and_u64n _ _ (rv_lt k) hp
  have hwh := wh_run (mi m k) (mu u k) hmu
  have hk' : (k : Int) < 64 := by omega
  have HT := Lib.hid hT
  unfold v51
  by_cases h1 : rv k &&& mu u k = 0
  · have Z : Hid ((Go.bits .and .u64 (rv k : Int) (IntKind.u64.wrap (mi m k)) != 0) = false) := Lib.hid (by rw [hand, h1]; rfl)
    by_cases h2 : mu u k < 4294967296 ∧ st false 64 (mu u k) = 1
    · rw [if_pos ⟨h1, h2⟩]
      have HW : Hid (wh (mi m k) = true) := Lib.hid (by rw [hwh, decide_eq_true h2.1, decide_eq_true h2.2]; rfl)
      have em : mi m k = (mu u k : Int) := by rw [wu64m] at hmu; unfold mu at h2 ⊢; omega
      have hpos : 0 < mu u k := by
        rcases Nat.eq_zero_or_pos (mu u k) with e | e
        · have := h2.2; rw [e, st_zero] at this; cases this
        · exact e
      have HE : Hid (∀ w, Tabs w → Calls Tryd.prog 47 #[.int .i64 (Go.bits .and .i64 (32 - (k : Int)) 31), .int .i64 (mi m k), .int .i64 32] w fun e w' => e = .returned (.int .i64 (cd ((64 - k) % 32) (mu u k) : Nat)) ∧ w' = w) := Lib.hid (fun w hT => by
        rw [(sm64_any k hk).2, em]
        exact enc_of _ _ (by omega) hpos h2.1 w hT)
      clear hmu hin hand hwh hT h1 h2 em hpos hu hk
      generalize mi m k = M at *
      generalize mu u k = u' at *
      generalize rv k = R at *
      have z := Z.out
      go_enter Tryd.func51, Tryd.ntmps51
      go_wp2_with (first
        | (go_at_call 57; (with_reducible refine (ssarewrite_mergePPC64RShiftMask.calls _ _ _ _ _ HS.out).mono ?_); rintro e w' ⟨rfl, ⟨n1, rfl⟩⟩)
        | (go_at_call 55; (with_reducible refine (bits_RotateLeft64.calls _ _ _ _ HR.out).mono ?_); rintro e w' ⟨rfl, ⟨n2, rfl⟩⟩)
        | (go_at_call 63; refine (c63 _ _).mono ?_; rintro e w' ⟨rfl, rfl⟩; rw [HW.out])
        | (go_at_call 47; (with_reducible refine (HE.out _ ?hT).mono ?_); (case hT => exact HT.out); rintro e w' ⟨rfl, rfl⟩))
      go_ret
      exact ⟨rfl, ⟨_, rfl⟩⟩
    · rw [if_neg (fun h => h2 h.2)]
      have HW : Hid (wh (mi m k) = false) := Lib.hid (by
        rw [hwh]
        rcases Nat.lt_or_ge (mu u k) 4294967296 with h | h
        · rw [decide_eq_false (fun h' => h2 ⟨h, h'⟩)]; simp
        · rw [decide_eq_false (Nat.not_lt.2 h)]; rfl)
      clear hmu hin hand hwh hT h1 h2 hu hk
      generalize mi m k = M at *
      generalize rv k = R at *
      have z := Z.out
      go_enter Tryd.func51, Tryd.ntmps51
      go_wp2_with (first
        | (go_at_call 57; (with_reducible refine (ssarewrite_mergePPC64RShiftMask.calls _ _ _ _ _ HS.out).mono ?_); rintro e w' ⟨rfl, ⟨n1, rfl⟩⟩)
        | (go_at_call 55; (with_reducible refine (bits_RotateLeft64.calls _ _ _ _ HR.out).mono ?_); rintro e w' ⟨rfl, ⟨n2, rfl⟩⟩)
        | (go_at_call 63; refine (c63 _ _).mono ?_; rintro e w' ⟨rfl, rfl⟩; rw [HW.out]))
      go_ret
      exact ⟨rfl, ⟨_, rfl⟩⟩
  · rw [if_neg (fun h => h1 h.1)]
    have Z : Hid ((Go.bits .and .u64 (rv k : Int) (IntKind.u64.wrap (mi m k)) != 0) = true) := Lib.hid (by rw [hand]; exact bne_iff_ne.2 (by omega))
    clear hmu hin hand hwh hT h1 hu hk
    generalize mi m k = M at *
    generalize rv k = R at *
    have z := Z.out
    go_enter Tryd.func51, Tryd.ntmps51
    go_wp2_with (first
        | (go_at_call 57; (with_reducible refine (ssarewrite_mergePPC64RShiftMask.calls _ _ _ _ _ HS.out).mono ?_); rintro e w' ⟨rfl, ⟨n1, rfl⟩⟩)
        | (go_at_call 55; (with_reducible refine (bits_RotateLeft64.calls _ _ _ _ HR.out).mono ?_); rintro e w' ⟨rfl, ⟨n2, rfl⟩⟩))
    go_ret
    exact ⟨rfl, ⟨_, rfl⟩⟩
theorem c40 (m : Int) (k u : Nat) (hk : k < 64) (hu : IntKind.u64.wrap m = u) (w : World) (hT : Tabs w) :
    Calls Tryd.prog 40 #[.int .i64 m, .int .i64 k] w fun e w' => e = .returned (.int .i64 (v51 u k)) ∧ Drawn0 w w' := by
  have H := Lib.hid (c51 m k u hk hu w hT)
  clear hk hu hT
  go_enter Tryd.func40, Tryd.ntmps40
  go_wp2_with (go_at_call 51; refine H.out.mono ?_; rintro e w' ⟨rfl, ⟨n1, rfl⟩⟩)
  go_ret
  exact ⟨rfl, ⟨_, rfl⟩⟩
theorem c26 (m : Int) (k u : Nat) (hk : k < 64) (hu : IntKind.u64.wrap m = u) (w : World) (hT : Tabs w) :
    Calls Tryd.prog 26 #[.int .i64 m, .int .i64 k] w fun e w' => e = .returned (.int .i64 (v51 u k)) ∧ Drawn0 w w' := by
  have H := Lib.hid (c40 m k u hk hu w hT)
  clear hk hu hT
  go_enter Tryd.func26, Tryd.ntmps26
  go_wp2_with (go_at_call 40; refine H.out.mono ?_; rintro e w' ⟨rfl, ⟨n1, rfl⟩⟩)
  go_ret
  exact ⟨rfl, ⟨_, rfl⟩⟩
theorem law (m c : Int) (k u x : Nat) (e0 : Int) (want : Int) (hk : c % 64 = k) (hu : IntKind.u64.wrap m = u) (he : v51 u k = e0) (hwant : Go.bits .and .u64 (IntKind.u64.wrap m) ((x : Int) / 2 ^ k) = want)
    (hg : e0 ≠ 0 → ∀ w, Calls Tryd.prog 14 #[.int .i64 e0, .int .u64 (x : Nat), .int .u64 want] w fun e w' => e = .returned (.bool true) ∧ Below w.heap.size w w') (W : World) (hT : Tabs W) :
    Calls Tryd.prog 9 #[.int .i64 m, .int .i64 c, .int .u64 (x : Nat)] W fun e W' => e = .returned (.bool true) ∧ Below W.heap.size W W' := by
  have rc := rw_some c 64 (by decide) (by decide)
  rw [hk] at rc
  have RC := Lib.hid rc
  have H26 : Hid (∀ w, Tabs w → Calls Tryd.prog 26 #[.int .i64 m, .int .i64 k] w fun e w' => e = .returned (.int .i64 e0) ∧ Drawn0 w w') := Lib.hid (fun w hT => by rw [← he]; exact c26 m k u (by omega) hu w hT)
  have HG : Hid (e0 ≠ 0 → ∀ w, Calls Tryd.prog 14 #[.int .i64 e0, .int .u64 (x : Nat), .int .u64 (Go.bits .and .u64 (IntKind.u64.wrap m) ((x : Int) / 2 ^ k))] w fun e w' => e = .returned (.bool true) ∧ Below w.heap.size w w') := Lib.hid (by rw [hwant]; exact hg)
  have HT := Lib.hid hT
  have hk' : (k : Int) < 64 := by omega
  clear rc hk hu he hwant hg hT
  go_enter Tryd.func9, Tryd.ntmps9
  go_wp2_with fail
  refine (laws_rwAt.calls _ _ _ _ RC.out).mono ?_
  rintro e w' ⟨rfl, ⟨n1, rfl⟩⟩
  go_wp2_with fail
  refine (H26.out _ ?hT).mono ?_
  case hT => exact HT.out
  rintro e w' ⟨rfl, ⟨n2, rfl⟩⟩
  by_cases h0 : e0 = 0
  · subst h0
    go_wp2_with (go_at_call 13; refine (c13 _).mono ?_; rintro e w' ⟨rfl, rfl⟩)
    go_ret
    exact ⟨by simp, by repeat (first | exact Below.refl _ _ | refine pw_below_drewN ?_ _)⟩
  · have hb0 : (e0 == 0) = false := beq_false_of_ne h0
    have HG' := Lib.hid (HG.out h0)
    clear h0
    go_wp2_with (first
      | (go_at_call 13; refine (c13 _).mono ?_; rintro e w' ⟨rfl, rfl⟩)
      | (go_at_call 14; (with_reducible refine (HG'.out _).mono ?_); rintro e w4 ⟨rfl, hb4⟩; have HB4 := Lib.hid hb4; clear hb4))
    go_ret
    exact ⟨by simp, (pw_below_drewN (Below.refl _ _) _).trans HB4.out⟩
theorem walk (m c x : Int) (W : World) (h0 : TabAt 0 Lib.deBruijn32tab W) (h1 : TabAt 1 Lib.deBruijn64tab W) (_ : (Lit.int .i64 m).wf = true) (_ : (Lit.int .i64 c).wf = true) (hx : (Lit.int .u64 x).wf = true) :
    Calls Tryd.prog 9 #[.int .i64 m, .int .i64 c, .int .u64 x] W fun e W' => e = .returned (.bool true) ∧ Below W.heap.size W W' := by
  obtain ⟨x, rfl, hxl⟩ := wfn hx
  obtain ⟨u, hu⟩ : ∃ n : Nat, IntKind.u64.wrap m = (n : Int) := ⟨(IntKind.u64.wrap m).toNat, by rw [wu64m]; omega⟩
  have hul : u < 18446744073709551616 := by rw [wu64m] at hu; omega
  obtain ⟨k, hk⟩ : ∃ n : Nat, c % 64 = (n : Int) := ⟨(c % 64).toNat, by omega⟩
  have hd : x / 2 ^ k < 18446744073709551616 := Nat.lt_of_le_of_lt (Nat.div_le_self _ _) hxl
  have ew : Go.bits .and .u64 (IntKind.u64.wrap m) ((x : Int) / 2 ^ k) = ((u &&& (x / 2 ^ k) : Nat) : Int) := by
    have e1 : (x : Int) / 2 ^ k = ((x / 2 ^ k : Nat) : Int) := by simp
    rw [hu, e1]
    exact bits_and_u64n u _ hul hd
  refine law m c k u x _ _ hk hu rfl ew (fun h w => ?_) W ⟨h0, h1⟩
  unfold v51 at h ⊢
  by_cases hg : good u k
  · rw [if_pos hg]
    obtain ⟨g1, g2, g3⟩ := hg
    have key := and_srdi u x k (by omega) (by simpa using hxl) (by simpa [mu] using g2) (by
      have e : rn 32 32 = 18446744069414584320 := by decide
      rw [e]; exact g1)
    rw [show (2 : Nat) ^ 32 = 4294967296 by decide] at key
    have hok : ok (mu u k) = true := by
      have s32 := st_wide 32 32 false (mu u k) (by simpa using g2)
      rw [show 32 + 32 = 64 by decide, g3] at s32
      obtain ⟨i, n, hn, hi, e⟩ := st_one 32 (mu u k) (by simpa using g2) s32.symm
      rw [e]
      exact (run_ok i n hn hi).1
    exact good_of _ _ x _ (by omega) hok (by rw [if_pos g3]; exact key) w
  · rw [if_neg hg] at h; exact absurd rfl h
end Go.Proofs.YtmldgakbkachpaaDoor.As
