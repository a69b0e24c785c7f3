-- PRINTED BY print.sh 35421559b90ae4d0a3588c463048766b98c2df88dd9212a6774a882060cdf62d: not written by this session
import Derived.Test.YtobhegbhljbjhaaDoorWInv
import Derived.Test.YtobhegbhljbjhaaDoorWFootNe
namespace Go.Proofs.YtobhegbhljbjhaaDoorW.PrintWords
open Go.RowKit
theorem atom_of' {v1 v2 : Value} {k : Nat} (h : v1.ownBlock = none ∨ v1.ownBlock ≠ v2.ownBlock) (hk : v2.ownBlock = some k) : some k ≠ v1.ownBlock := by
  intro e
  rcases h with h | h
  · rw [h] at e; cases e
  · exact h (e.symm.trans hk.symm)
end Go.Proofs.YtobhegbhljbjhaaDoorW.PrintWords
namespace Go.Proofs.YtobhegbhljbjhaaDoorW.PrintLast
section
variable {ops : Array Oper} {a : Act} {o og : Oper} {g : Nat} {t : Tmp} {u : Bool}
/-- The other: it isn't carried out. -/
theorem wanted_off (hg : o.guard = some (g, u)) (ho : ops[g]? = some og) (hd : og.dst = some t) (hv : a.tmps[t]? = some (.bool (!u))) : Region.wanted o (yielded ops a.tmps) = false := by
  cases u <;> simp_all [Region.wanted, yielded]
end
end Go.Proofs.YtobhegbhljbjhaaDoorW.PrintLast
