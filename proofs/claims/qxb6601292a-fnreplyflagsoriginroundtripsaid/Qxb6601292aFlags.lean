/-
  The flags byte that appendReplyFlags (9) makes: plain facts.
-/
import Derived.Test.Qxb6601292aAppends
namespace Go.Proofs.Qxb6601292a.Bytes
open Go.RowKit

/-- The flags byte. -/
def flagsOf (v o h d : Bool) (g : Int) : Int :=
  (if v then 1 else 0) + (if o then 2 else 0) + (if h then 4 else 0) + (if d then 8 else 0) + (if g = 1 then 16 else if g = 2 then 32 else 0)

theorem flags_zero {g : Int} (q1 : (g == 1) = false) (q2 : (g == 2) = false) : ∀ v o h d, flagsOf v o h d g = flagsOf v o h d 0 := by
  intro v o h d
  simp only [beq_eq_false_iff_ne, ne_eq] at q1 q2
  simp [flagsOf, q1, q2]

theorem olds_of {w : World} {ao : Option Addr} {n : Nat} {xs : List Int} (hxl : xs.length = n) (hrow : Row w ao n xs) : ∀ b, ao = some b → ∀ j u, (ints xs)[j]? = some u → w.cell? (b.add j) = some u := by
  rintro b rfl
  exact news_of hxl hrow

theorem cell_two_new (w : World) (o : Obj) (x : Value) (t : TypeId) : ∀ j u, [x][j]? = some u → ((w.alloc o).alloc (.cells #[x] t)).cell? ((⟨w.heap.size + 1, 0, none⟩ : Addr).add j) = some u := by
  have h := cell_one_new (w.alloc o) x t
  simpa using h

theorem one_one (k : IntKind) (n : Int) : ∀ u ∈ [Value.int k n], u.oneCell' = true := by
  intro u hu
  simp at hu
  subst hu
  rfl

theorem flags_end {w w' : World} {o1 o2 : Obj} {v' : Value} {n N : Nat} {xs ys : List Int} {F G : Int} (hown : w'.ownsRow ((w.alloc o1).alloc o2).heap.size 5 1 v' (n + 1) (ints xs ++ [.int .u8 F]))
    (hgrow : ((w.alloc o1).alloc o2).grownBy w' none) (HY : ys = xs ++ [G]) (HG : G = F) (HN : N = n + 1) : Has w.heap.size w ys N (.returned v') w' := by
  subst HY HG HN
  obtain ⟨ao, cap, rfl⟩ := shape_of_owns hown
  refine ⟨ao, cap, rfl, ?_, ?_⟩
  · rw [← ints_app]
    exact owns_mono hown (by simp; omega)
  · exact (((Below.refl _ w).alloc (Nat.le_refl _) _).alloc (by simp) _).grown hgrow (by simp; omega) (by simp)

end Go.Proofs.Qxb6601292a.Bytes
