/- FnBitconMade: the finite check, by the kernel. -/
import Derived.Test.YtfnhbjpflpbebaaBc
namespace Go.Proofs.Ytfnhbjpflpbebaa.Bc
open Go.RowKit Go.Proofs.Ytfnhbjpflpbebaa.Kit Go.Proofs.Ytfnhbjpflpbebaa.PFnBitconMade
theorem all2 : ∀ m : Fin 1, ∀ t : Fin 64, chk 2 (m.val : Int) (t.val : Int) = true := by decide +kernel
theorem all4 : ∀ m : Fin 3, ∀ t : Fin 64, chk 4 (m.val : Int) (t.val : Int) = true := by decide +kernel
theorem all8 : ∀ m : Fin 7, ∀ t : Fin 64, chk 8 (m.val : Int) (t.val : Int) = true := by decide +kernel
theorem all16 : ∀ m : Fin 15, ∀ t : Fin 64, chk 16 (m.val : Int) (t.val : Int) = true := by decide +kernel
theorem all32 : ∀ m : Fin 31, ∀ t : Fin 64, chk 32 (m.val : Int) (t.val : Int) = true := by decide +kernel
theorem all64 : ∀ m : Fin 63, ∀ t : Fin 64, chk 64 (m.val : Int) (t.val : Int) = true := by decide +kernel
theorem walk (size many by_ : Int) (W : World) (_ : (Lit.int IntKind.i64 size).wf = true) (_ : (Lit.int IntKind.i64 many).wf = true) (_ : (Lit.int IntKind.i64 by_).wf = true) :
    Calls Try.prog 5 #[.int .i64 size, .int .i64 many, .int .i64 by_] W fun e W' => e = .returned (.bool true) ∧ Below W.heap.size W W' := by
  have ht := rr_at by_ 64 (by decide) (by decide)
  have hs := rr_at size 6 (by decide) (by decide)
  have t0 := Int.emod_nonneg by_ (b := 64) (by decide)
  have t1 := Int.emod_lt_of_pos by_ (b := 64) (by decide)
  have s0 := Int.emod_nonneg size (b := 6) (by decide)
  have s1 := Int.emod_lt_of_pos size (b := 6) (by decide)
  have h6 : size % 6 = 0 ∨ size % 6 = 1 ∨ size % 6 = 2 ∨ size % 6 = 3 ∨ size % 6 = 4 ∨ size % 6 = 5 := by omega
  rcases h6 with h | h | h | h | h | h <;> rw [h] at hs
  · have hm := rr_at many 1 (by decide) (by decide)
    have m0 := Int.emod_nonneg many (b := 1) (by decide)
    have m1 := Int.emod_lt_of_pos many (b := 1) (by decide)
    obtain ⟨r, y, x, h1, h2, h3, h4⟩ := chk_some (chk_of 2 1 all2 _ _ m0 m1 t0 t1)
    exact law2 70 size many by_ _ _ r y x W hs hm ht h1 h2 h3 h4
  · have hm := rr_at many 3 (by decide) (by decide)
    have m0 := Int.emod_nonneg many (b := 3) (by decide)
    have m1 := Int.emod_lt_of_pos many (b := 3) (by decide)
    obtain ⟨r, y, x, h1, h2, h3, h4⟩ := chk_some (chk_of 4 3 all4 _ _ m0 m1 t0 t1)
    exact law4 70 size many by_ _ _ r y x W hs hm ht h1 h2 h3 h4
  · have hm := rr_at many 7 (by decide) (by decide)
    have m0 := Int.emod_nonneg many (b := 7) (by decide)
    have m1 := Int.emod_lt_of_pos many (b := 7) (by decide)
    obtain ⟨r, y, x, h1, h2, h3, h4⟩ := chk_some (chk_of 8 7 all8 _ _ m0 m1 t0 t1)
    exact law8 70 size many by_ _ _ r y x W hs hm ht h1 h2 h3 h4
  · have hm := rr_at many 15 (by decide) (by decide)
    have m0 := Int.emod_nonneg many (b := 15) (by decide)
    have m1 := Int.emod_lt_of_pos many (b := 15) (by decide)
    obtain ⟨r, y, x, h1, h2, h3, h4⟩ := chk_some (chk_of 16 15 all16 _ _ m0 m1 t0 t1)
    exact law16 70 size many by_ _ _ r y x W hs hm ht h1 h2 h3 h4
  · have hm := rr_at many 31 (by decide) (by decide)
    have m0 := Int.emod_nonneg many (b := 31) (by decide)
    have m1 := Int.emod_lt_of_pos many (b := 31) (by decide)
    obtain ⟨r, y, x, h1, h2, h3, h4⟩ := chk_some (chk_of 32 31 all32 _ _ m0 m1 t0 t1)
    exact law32 70 size many by_ _ _ r y x W hs hm ht h1 h2 h3 h4
  · have hm := rr_at many 63 (by decide) (by decide)
    have m0 := Int.emod_nonneg many (b := 63) (by decide)
    have m1 := Int.emod_lt_of_pos many (b := 63) (by decide)
    obtain ⟨r, y, x, h1, h2, h3, h4⟩ := chk_some (chk_of 64 63 all64 _ _ m0 m1 t0 t1)
    exact law64 70 size many by_ _ _ r y x W hs hm ht h1 h2 h3 h4
end Go.Proofs.Ytfnhbjpflpbebaa.Bc
