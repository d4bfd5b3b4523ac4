/- FnMovwzreg: a rotate and mask whose mask does not go round clears the upper 32 bits, and comes back as it is; one whose mask goes round does not; for every input, over the tables that the library lays; no other condition. The walks. -/
import Derived.Test.YtmldgakbkachpaaDoorCd
namespace Go.Proofs.YtmldgakbkachpaaDoor.Mv
open Go.RowKit Go.Proofs.YtmldgakbkachpaaDoorW.PrintWords Go.Proofs.YtmldgakbkachpaaDoorW.PrintLast Go.Proofs.YtmldgakbkachpaaDoorW.PrintMore Go.Proofs.YtmldgakbkachpaaDoor.Kit Go.Proofs.YtmldgakbkachpaaDoor.Sp Go.Proofs.YtmldgakbkachpaaDoor.Wd Go.Proofs.YtmldgakbkachpaaDoor.En Go.Proofs.YtmldgakbkachpaaDoor.De Go.Proofs.YtmldgakbkachpaaDoor.Gd Go.Proofs.YtmldgakbkachpaaDoor.Lw Go.Proofs.YtmldgakbkachpaaDoor.Mk Go.Proofs.YtmldgakbkachpaaDoor.Cd
def isa (m : Nat) : Nat := ((ends 32 m).2 + 32 - 1) % 32
def mv (r m : Nat) : Int := if isa m < (ends 32 m).1 then 0 else (cd r m : Nat)
theorem dec34 (r m : Nat) (hr : r < 32) (hok : ok m = true) (w : World) :
    Calls Tryd.prog 34 #[.int .i64 (cd r m : Nat)] w fun e w' => e = .returned (.tuple #[.int .i64 r, .int .i64 ((ends 32 m).1 : Nat), .int .i64 (isa m : Nat), .int .u64 (m : Nat)]) ∧ w' = w := by
  obtain ⟨k1, k2, k3⟩ := ok_is m hok
  obtain ⟨h1, h2, _, _, h5, h6⟩ := dec_enc 32 (ends 32 m).2 (ends 32 m).1 r (.inl rfl) k1 k2 (by omega)
  have h := d34 (cd r m : Nat) w
  unfold cd at h
  rw [h1, h2, h5, h6, k3] at h
  exact h
theorem c49 (r m : Nat) (hr : r < 32) (hok : ok m = true) (w : World) :
    Calls Tryd.prog 49 #[.int .i64 (cd r m : Nat)] w fun e w' => e = .returned (.int .i64 (mv r m)) ∧ w' = w := by
  have HD := Lib.hid (dec34 r m hr hok)
  unfold mv
  clear hok hr
  generalize cd r m = E at *
  generalize isa m = me at *
  generalize (ends 32 m).1 = mb at *
  by_cases h : me < mb
  · rw [if_pos h]
    have h' : (me : Int) < (mb : Int) := by omega
    clear h
    go_enter Tryd.func49, Tryd.ntmps49
    go_wp2_with (go_at_call 34; refine (HD.out _).mono ?_; rintro e w' ⟨rfl, rfl⟩)
    go_ret
    exact ⟨rfl, rfl⟩
  · rw [if_neg h]
    have h' : (mb : Int) ≤ (me : Int) := by omega
    clear h
    go_enter Tryd.func49, Tryd.ntmps49
    go_wp2_with (go_at_call 34; refine (HD.out _).mono ?_; rintro e w' ⟨rfl, rfl⟩)
    go_ret
    exact ⟨rfl, rfl⟩
theorem c38 (r m : Nat) (hr : r < 32) (hok : ok m = true) (w : World) :
    Calls Tryd.prog 38 #[.int .i64 (cd r m : Nat)] w fun e w' => e = .returned (.int .i64 (mv r m)) ∧ w' = w := by
  have H := Lib.hid (c49 r m hr hok w)
  clear hr hok
  go_enter Tryd.func38, Tryd.ntmps38
  go_wp2_with (go_at_call 49; refine H.out.mono ?_; rintro e w' ⟨rfl, rfl⟩)
  go_ret
  exact ⟨rfl, rfl⟩
theorem c23 (r m : Nat) (hr : r < 32) (hok : ok m = true) (w : World) :
    Calls Tryd.prog 23 #[.int .i64 (cd r m : Nat)] w fun e w' => e = .returned (.int .i64 (mv r m)) ∧ w' = w := by
  have H := Lib.hid (c38 r m hr hok w)
  clear hr hok
  go_enter Tryd.func23, Tryd.ntmps23
  go_wp2_with (go_at_call 38; refine H.out.mono ?_; rintro e w' ⟨rfl, rfl⟩)
  go_ret
  exact ⟨rfl, rfl⟩
theorem mv_run (r p q : Nat) (hp : p < 32) (hq : q < 32) : mv r (mkm p q) = (cd r (mkm p q) : Nat) := by
  have h := (run_ok (31 - max p q) (max p q - min p q + 1) (by omega) (by omega)).2
  unfold mv isa mkm
  rw [h, if_neg (by simp only []; omega)]
/-- the mask that goes round. -/
def rmk (P Q : Nat) : Nat := 2 ^ 32 - 1 - rn (32 - P) (P - Q - 1)
theorem rmk_ok (P Q : Nat) (h : Q + 2 ≤ P) (hP : P < 32) : ok (rmk P Q) = true := (co_ok (32 - P) (P - Q - 1) (by omega) (by omega) (by omega)).1
theorem mv_round (r P Q : Nat) (h : Q + 2 ≤ P) (hP : P < 32) : mv r (rmk P Q) = 0 := by
  have h' := (co_ok (32 - P) (P - Q - 1) (by omega) (by omega) (by omega)).2
  rcases h' with h' | h' | h'
  · omega
  · omega
  · unfold mv isa rmk
    rw [h', if_pos (by simp only []; omega)]
set_option maxHeartbeats 1000000 in
theorem walk (c a b : Int) (W : World) (h0 : TabAt 0 Lib.deBruijn32tab W) (h1 : TabAt 1 Lib.deBruijn64tab W) (_ : (Lit.int .i64 c).wf = true) (_ : (Lit.int .i64 a).wf = true) (_ : (Lit.int .i64 b).wf = true) :
    Calls Tryd.prog 7 #[.int .i64 c, .int .i64 a, .int .i64 b] W fun e W' => e = .returned (.bool true) ∧ Below W.heap.size W W' := by
  have hT : Tabs W := ⟨h0, h1⟩
  obtain ⟨r, hr⟩ : ∃ n : Nat, c % 32 = (n : Int) := ⟨(c % 32).toNat, by omega⟩
  obtain ⟨p, hp⟩ : ∃ n : Nat, a % 32 = (n : Int) := ⟨(a % 32).toNat, by omega⟩
  obtain ⟨q, hq⟩ : ∃ n : Nat, b % 32 = (n : Int) := ⟨(b % 32).toNat, by omega⟩
  have hrn : r < 32 := by omega
  have hpn : p < 32 := by omega
  have hqn : q < 32 := by omega
  have rc := rw_some c 32 (by decide) (by decide)
  have ra := rw_some a 32 (by decide) (by decide)
  have rb := rw_some b 32 (by decide) (by decide)
  rw [hr] at rc
  rw [hp] at ra
  rw [hq] at rb
  have H22 := Lib.hid (fun w hT => c22 c a b r p q hr hp hq w hT)
  have M23 := mv_run r p q hpn hqn
  have H23 : Hid (∀ w, Calls Tryd.prog 23 #[.int .i64 (cd r (mkm p q) : Nat)] w fun e w' => e = .returned (.int .i64 (cd r (mkm p q) : Nat)) ∧ w' = w) := Lib.hid (fun w => by have h := c23 r (mkm p q) hrn (mkm_ok p q hpn hqn) w; rw [M23] at h; exact h)
  have RC := Lib.hid rc
  have RA := Lib.hid ra
  have RB := Lib.hid rb
  have HT := Lib.hid hT
  have hp' : (p : Int) < 32 := by omega
  have hq' : (q : Int) < 32 := by omega
  have hr' : (r : Int) < 32 := by omega
  clear rc ra rb hr hp hq hT h0 h1 M23
  generalize mkm p q = m at *
  generalize cd r m = E at *
  go_enter Tryd.func7, Tryd.ntmps7
  go_wp2_with fail
  refine (H22.out _ HT.out).mono ?_
  rintro e w1 ⟨rfl, hb⟩
  have HT1 := Lib.hid (tabs_below HT.out hb)
  have HB := Lib.hid hb
  clear hb
  go_wp2_with fail
  refine (laws_rwAt.calls _ _ _ _ RA.out).mono ?_
  rintro e w' ⟨rfl, ⟨n1, rfl⟩⟩
  go_wp2_with fail
  refine (laws_rwAt.calls _ _ _ _ RB.out).mono ?_
  rintro e w' ⟨rfl, ⟨n2, rfl⟩⟩
  go_wp2_with fail
  · go_wp2_with (first
      | (go_at_call 23; (with_reducible refine (H23.out _).mono ?_); rintro e w' ⟨rfl, rfl⟩)
      | (go_at_call 13; refine (c13 _).mono ?_; rintro e w' ⟨rfl, rfl⟩))
    go_ret
    exact ⟨by simp, HB.out.trans (pw_below_drewN (Below.refl _ _) _ |>.mono HB.out.size)⟩
  · have h2 : 2 ≤ max (p : Int) (q : Int) - min (p : Int) (q : Int) := by assumption
    have HM : Hid (spec_Mask.f 70 (max (p : Int) (q : Int)) (min (p : Int) (q : Int)) 32 = some ((rmk (max p q) (min p q) : Nat) : Int)) := Lib.hid (by
      have e1 : max (p : Int) (q : Int) = ((max p q : Nat) : Int) := by omega
      have e2 : min (p : Int) (q : Int) = ((min p q : Nat) : Int) := by omega
      rw [e1, e2, mask32 _ _ (by omega) (by omega), if_neg (by omega)]; rfl)
    have hok := rmk_ok (max p q) (min p q) (by omega) (by omega)
    have hlt := ok_lt _ hok
    have hpos : 0 < rmk (max p q) (min p q) := by
      have := rn_lt (32 - max p q) (max p q - min p q - 1) 31 (by omega)
      unfold rmk
      omega
    have hw : wrap64 (rmk (max p q) (min p q) : Nat) = (rmk (max p q) (min p q) : Nat) := w64 (by omega) (by omega)
    have HE : Hid (∀ w, Tabs w → Calls Tryd.prog 18 #[.int .i64 r, .int .i64 (wrap64 (rmk (max p q) (min p q) : Nat)), .int .i64 32] w fun e w' => e = .returned (.int .i64 (cd r (rmk (max p q) (min p q)) : Nat)) ∧ w' = w) := Lib.hid (fun w hT => by rw [hw]; exact c18 r _ hrn hpos hlt w hT)
    have H0 : Hid (∀ w, Calls Tryd.prog 23 #[.int .i64 (cd r (rmk (max p q) (min p q)) : Nat)] w fun e w' => e = .returned (.int .i64 0) ∧ w' = w) := Lib.hid (fun w => by
      have h := c23 r (rmk (max p q) (min p q)) hrn hok w
      rw [mv_round r _ _ (by omega) (by omega)] at h
      exact h)
    clear hok hlt hpos hw h2
    generalize rmk (max p q) (min p q) = m2 at *
    generalize cd r m2 = E2 at *
    go_wp2_with (first
      | (go_at_call 11; (with_reducible refine (laws_rwAt.calls _ _ _ _ RC.out).mono ?_); rintro e w' ⟨rfl, ⟨n3, rfl⟩⟩)
      | (go_at_call 19; (with_reducible refine (spec_Mask.calls 70 _ _ _ _ _ HM.out).mono ?_); rintro e w' ⟨rfl, ⟨n4, rfl⟩⟩)
      | (go_at_call 18; (with_reducible refine (HE.out _ ?hT).mono ?_); (case hT => exact HT1.out); rintro e w' ⟨rfl, rfl⟩)
      | (go_at_call 23; first | ((with_reducible refine (H23.out _).mono ?_); rintro e w' ⟨rfl, rfl⟩) | ((with_reducible refine (H0.out _).mono ?_); rintro e w' ⟨rfl, rfl⟩))
      | (go_at_call 13; refine (c13 _).mono ?_; rintro e w' ⟨rfl, rfl⟩))
    go_ret
    exact ⟨by simp, HB.out.trans (pw_below_drewN (Below.refl _ _) _ |>.mono HB.out.size)⟩
end Go.Proofs.YtmldgakbkachpaaDoor.Mv
