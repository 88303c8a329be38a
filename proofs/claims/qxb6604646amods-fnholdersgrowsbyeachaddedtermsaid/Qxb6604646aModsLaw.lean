/-
  THE WALK of 'FnHoldersGrowsByEachAddedTerm' (4), and the plain law of its five sums.
-/
import Derived.Test.Qxb6604646aModsWalks
import Derived.OpenShut
namespace Go.Proofs.Qxb6604646aMods
open Go.RowKit

/-! ### THE PLAIN LAW -/
/-- The plain sum. -/
def sumZ (f : Nat → Int) : Nat → Int
  | 0 => 0
  | n + 1 => sumZ f n + f n

theorem wrap_wrap_add (a b : Int) : wrap64 (wrap64 a + b) = wrap64 (a + b) := by unfold wrap64; omega

theorem sumTo_eq (f : Nat → Int) : ∀ n, sumTo f n = wrap64 (sumZ f n)
  | 0 => by unfold sumTo sumZ wrap64; omega
  | n + 1 => by rw [sumTo, sumTo_eq f n, wrap_wrap_add]; rfl

theorem sumZ_congr {f g : Nat → Int} : ∀ n, (∀ i, i < n → f i = g i) → sumZ f n = sumZ g n
  | 0, _ => rfl
  | n + 1, h => by rw [sumZ, sumZ, sumZ_congr n (fun i hi => h i (by omega)), h n (by omega)]

theorem sumZ_front (f : Nat → Int) : ∀ n, sumZ f (n + 1) = f 0 + sumZ (fun i => f (i + 1)) n
  | 0 => by simp [sumZ]
  | n + 1 => by
    rw [sumZ, sumZ_front f n]
    show _ = f 0 + (sumZ (fun i => f (i + 1)) n + f (n + 1))
    omega

theorem sumZ_rev (f : Nat → Int) : ∀ n, sumZ (fun i => f (n - 1 - i)) n = sumZ f n
  | 0 => rfl
  | n + 1 => by
    rw [sumZ_front, sumZ]
    have e : sumZ (fun i => f (n + 1 - 1 - (i + 1))) n = sumZ (fun i => f (n - 1 - i)) n := sumZ_congr n (fun i hi => by
      show f (n + 1 - 1 - (i + 1)) = f (n - 1 - i)
      congr 1
      omega)
    rw [e, sumZ_rev f n]
    show f (n + 1 - 1 - 0) + sumZ f n = _
    rw [show n + 1 - 1 - 0 = n by omega]
    omega

/-- The appended row, the prepended one, the reversed one. -/
def fApp (f : Nat → Int) (n : Nat) (d : Int) (i : Nat) : Int := if i < n then f i else d
def fPre (f : Nat → Int) (d : Int) (i : Nat) : Int := if i = 0 then d else f (i - 1)
def fRev (f : Nat → Int) (n : Nat) (i : Nat) : Int := f (n - 1 - i)

theorem law_app (f : Nat → Int) (n : Nat) (d : Int) : sumTo (fApp f n d) (n + 1) = wrap64 (sumTo f n + d) := by
  rw [sumTo]
  have e : sumTo (fApp f n d) n = sumTo f n := by
    rw [sumTo_eq, sumTo_eq, sumZ_congr n (fun i hi => by unfold fApp; rw [if_pos hi])]
  rw [e]
  unfold fApp
  rw [if_neg (by omega)]

theorem law_pre (f : Nat → Int) (n : Nat) (d : Int) : sumTo (fPre f d) (n + 1) = wrap64 (sumTo f n + d) := by
  rw [sumTo_eq, sumTo_eq, sumZ_front, wrap_wrap_add]
  have e : sumZ (fun i => fPre f d (i + 1)) n = sumZ f n := sumZ_congr n (fun i _ => by unfold fPre; rw [if_neg (by omega)]; rfl)
  rw [e]
  unfold fPre
  rw [if_pos rfl, Int.add_comm]

theorem law_rev (f : Nat → Int) (n : Nat) : sumTo (fRev f n) n = sumTo f n := by
  rw [sumTo_eq, sumTo_eq]
  exact congrArg wrap64 (sumZ_rev f n)

theorem law_one (d : Int) (h : (Lit.int .i64 d).wf = true) : sumTo (fun _ => d) 1 = d := by
  have := bounds_i64 h
  unfold sumTo sumTo wrap64
  omega
end Go.Proofs.Qxb6604646aMods
