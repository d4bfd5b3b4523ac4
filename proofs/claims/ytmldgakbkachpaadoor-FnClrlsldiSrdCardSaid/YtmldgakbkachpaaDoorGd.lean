/- mkGood: a value that stands for a rotate and a mask of 32 bits that do to a word what is wanted is told to be good. The walk. -/
import Derived.Test.YtmldgakbkachpaaDoorDe
namespace Go.Proofs.YtmldgakbkachpaaDoor.Gd
open Go.RowKit Go.Proofs.YtmldgakbkachpaaDoorW.PrintWords Go.Proofs.YtmldgakbkachpaaDoorW.PrintLast Go.Proofs.YtmldgakbkachpaaDoorW.PrintMore Go.Proofs.YtmldgakbkachpaaDoor.Kit Go.Proofs.YtmldgakbkachpaaDoor.Sp Go.Proofs.YtmldgakbkachpaaDoor.Wd Go.Proofs.YtmldgakbkachpaaDoor.En Go.Proofs.YtmldgakbkachpaaDoor.De
theorem rotated_32 (x r k : Nat) (hr : r < 32) (hk : k < 4294967296) : spec_Rotated.f (x : Int) 32 (r : Int) (k : Int) = some ((rot 32 (x % 4294967296) r &&& k : Nat) : Int) := by
  have M : (2 : Nat) ^ 32 = 4294967296 := by decide
  unfold spec_Rotated.f
  rw [turn_32 x r hr, Option.bind_some]
  have hl : rot 32 (x % 4294967296) r < 4294967296 := by rw [← M]; exact rot_lt 32 _ _ (Nat.mod_lt _ (by decide))
  rw [bits_and_u64n _ _ (by omega) (by omega)]
theorem low32 (x : Nat) : spec_Low.f (x : Int) 32 = some ((x % 4294967296 : Nat) : Int) := by
  have l := low_any x 32 (by decide)
  rw [show (2 : Nat) ^ 32 = 4294967296 by decide, show (((32 : Nat)) : Int) = 32 from rfl] at l
  exact l
theorem dec32 (me mb r : Nat) (hb : mb ≤ 32) (he : me ≤ 32) (hr : r < 32) (w : World) :
    Calls Tryd.prog 17 #[.int .i64 (encN me mb r 32 : Nat)] w fun e w' => e = .returned (.tuple #[.int .i64 r, .int .i64 mb, .int .i64 ((me + 32 - 1) % 32 : Nat), .int .u64 (dmask 32 mb me : Nat)]) ∧ w' = w := by
  obtain ⟨h1, h2, _, _, h5, h6⟩ := dec_enc 32 me mb r (.inl rfl) hb he (by omega)
  have h := c17 (encN me mb r 32 : Nat) w
  rw [h1, h2, h5, h6] at h
  exact h
theorem dmask_lt (mb me : Nat) : dmask 32 mb me < 4294967296 := by
  unfold dmask
  simp only [if_true]
  exact Nat.mod_lt _ (by decide)
set_option maxHeartbeats 1000000 in
set_option maxRecDepth 100000 in
theorem g14 (me mb r x want : Nat) (hb : mb ≤ 32) (he : me ≤ 32) (hr : r < 32)
    (h : rot 32 (x % 4294967296) r &&& dmask 32 mb me = if st false 64 (dmask 32 mb me) = 1 then want else want % 4294967296) (w : World) :
    Calls Tryd.prog 14 #[.int .i64 (encN me mb r 32 : Nat), .int .u64 (x : Nat), .int .u64 (want : Nat)] w fun e w' => e = .returned (.bool true) ∧ Below w.heap.size w w' := by
  have hk := dmask_lt mb me
  have HD := Lib.hid (dec32 me mb r hb he hr)
  have hE : encN me mb r 32 / 16777216 = 32 := by unfold encN; omega
  have hE2 : encN me mb r 32 < 4294967296 := by unfold encN; omega
  have h24 : (Go.bits .and .i64 ((encN me mb r 32 : Nat) / 16777216) 255 != 32) = false := by
    have e : ((encN me mb r 32 : Nat) : Int) / 16777216 = ((encN me mb r 32 / 16777216 : Nat) : Int) := by simp
    rw [e, hE]; decide +kernel
  have HR := Lib.hid (rotated_32 x r (dmask 32 mb me) hr hk)
  have HI := Lib.hid (isRun_any (dmask 32 mb me))
  have hk0 : (((dmask 32 mb me : Nat) : Int) / 4294967296 != 0) = false := by
    have : ((dmask 32 mb me : Nat) : Int) / 4294967296 = 0 := by omega
    rw [this]; rfl
  have hr' : (r : Int) < 32 := by omega
  generalize encN me mb r 32 = E at *
  generalize dmask 32 mb me = k at *
  generalize ((me + 32 - 1) % 32) = i at *
  clear hE hE2 hk
  by_cases hs : st false 64 k = 1
  · rw [if_pos hs] at h
    have HI' : Hid (spec_IsRun.f 70 (k : Int) = some true) := Lib.hid (by rw [HI.out, hs]; rfl)
    have H : Hid (rot 32 (x % 4294967296) r &&& k = want) := Lib.hid h
    clear HI hs h
    go_enter Tryd.func14, Tryd.ntmps14
    go_wp2_with (first
      | (go_at_call 17; refine (HD.out _).mono ?_; rintro e w' ⟨rfl, rfl⟩)
      | (go_at_call 31; refine (spec_IsRun.calls 70 _ _ _ HI'.out).mono ?_; rintro e w' ⟨rfl, ⟨n1, rfl⟩⟩)
      | (go_at_call 32; refine (spec_Rotated.calls _ _ _ _ _ _ HR.out).mono ?_; rintro e w' ⟨rfl, ⟨n2, rfl⟩⟩; rw [H.out]))
    go_ret
    exact ⟨by simp, by repeat (first | exact Below.refl _ _ | refine pw_below_drewN ?_ _)⟩
  · rw [if_neg hs] at h
    have HI' : Hid (spec_IsRun.f 70 (k : Int) = some false) := Lib.hid (by rw [HI.out, decide_eq_false hs])
    have H : Hid (rot 32 (x % 4294967296) r &&& k = want % 4294967296) := Lib.hid h
    have HL := Lib.hid (low32 want)
    clear HI hs h
    go_enter Tryd.func14, Tryd.ntmps14
    go_wp2_with (first
      | (go_at_call 17; refine (HD.out _).mono ?_; rintro e w' ⟨rfl, rfl⟩)
      | (go_at_call 31; refine (spec_IsRun.calls 70 _ _ _ HI'.out).mono ?_; rintro e w' ⟨rfl, ⟨n1, rfl⟩⟩)
      | (go_at_call 21; refine (spec_Low.calls _ _ _ _ HL.out).mono ?_; rintro e w' ⟨rfl, ⟨n3, rfl⟩⟩)
      | (go_at_call 32; refine (spec_Rotated.calls _ _ _ _ _ _ HR.out).mono ?_; rintro e w' ⟨rfl, ⟨n2, rfl⟩⟩; rw [H.out]))
    go_ret
    exact ⟨by simp, by repeat (first | exact Below.refl _ _ | refine pw_below_drewN ?_ _)⟩
end Go.Proofs.YtmldgakbkachpaaDoor.Gd
