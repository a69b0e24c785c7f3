/- int8: the comparisons as values. -/
import Derived.Test.YtogbpljnekgfkaaGreatDoorCk
import Derived.Test.YtogbpljnekgfkaaGreatDoorCo
import Derived.Test.YtogbpljnekgfkaaGreatDoorCs
namespace Go.Proofs.YtogbpljnekgfkaaGreatDoor.Cm
open Go.RowKit Go.IntWalk Go.Proofs.YtogbpljnekgfkaaGreatDoorW.PrintWords Go.Proofs.YtogbpljnekgfkaaGreatDoorW.PrintLast Go.Proofs.YtogbpljnekgfkaaGreatDoorW.PrintMore
attribute [local go_sem] max2_int min2_int max_two min_two max_three min_three max_four min_four
set_option linter.unusedVariables false
set_option linter.unusedSimpArgs false
def encI (x : Int) : Value := .int .i8 x
theorem getAtEI (g n c i : Nat) (D : List Int) (w : World) (hd : w.heap[g]? = some (.cells (rowB D) 5 (0, 0))) (hn : n = D.length) (hi : 1 * i + 1 ≤ n) (hl : n ≤ 100000) (hc : n ≤ c) :
    Calls Tryz.prog 104 #[.slice (some ⟨g, 0, none⟩) n c, .int .i64 i] w fun e w' => e = .returned (encI (oneI D i)) ∧ Below w.heap.size w w' := getAtI g n c i D w hd hn (by omega) hl hc
theorem isAAI : ∀ op, op < 4 → OpAA encI (76 + 3 * op) (cmpI op)
  | 0, _ => fun gl ol nl cl Cl tl gr or nr cr Cr tr X Y t k cu T w h1 h2 h3 h4 h5 h6 h7 h8 h9 h10 h11 => opI0AA gl ol nl cl Cl tl gr or nr cr Cr tr X Y t k cu T w h1 h2 h3 h4 h5 h6 h7 h8 h9 h10 h11
  | 1, _ => fun gl ol nl cl Cl tl gr or nr cr Cr tr X Y t k cu T w h1 h2 h3 h4 h5 h6 h7 h8 h9 h10 h11 => opI1AA gl ol nl cl Cl tl gr or nr cr Cr tr X Y t k cu T w h1 h2 h3 h4 h5 h6 h7 h8 h9 h10 h11
  | 2, _ => fun gl ol nl cl Cl tl gr or nr cr Cr tr X Y t k cu T w h1 h2 h3 h4 h5 h6 h7 h8 h9 h10 h11 => opI2AA gl ol nl cl Cl tl gr or nr cr Cr tr X Y t k cu T w h1 h2 h3 h4 h5 h6 h7 h8 h9 h10 h11
  | 3, _ => fun gl ol nl cl Cl tl gr or nr cr Cr tr X Y t k cu T w h1 h2 h3 h4 h5 h6 h7 h8 h9 h10 h11 => opI3AA gl ol nl cl Cl tl gr or nr cr Cr tr X Y t k cu T w h1 h2 h3 h4 h5 h6 h7 h8 h9 h10 h11
  | _ + 4, h => absurd h (by omega)
theorem isASI : ∀ op, op < 4 → OpAS encI (76 + 3 * op + 1) (cmpI op)
  | 0, _ => fun gl ol nl cl Cl tl X Y t k cu T w h1 h2 h3 h4 h5 h6 h7 => opI0AS gl ol nl cl Cl tl X Y t k cu T w h1 h2 h3 h4 h5 h6 h7
  | 1, _ => fun gl ol nl cl Cl tl X Y t k cu T w h1 h2 h3 h4 h5 h6 h7 => opI1AS gl ol nl cl Cl tl X Y t k cu T w h1 h2 h3 h4 h5 h6 h7
  | 2, _ => fun gl ol nl cl Cl tl X Y t k cu T w h1 h2 h3 h4 h5 h6 h7 => opI2AS gl ol nl cl Cl tl X Y t k cu T w h1 h2 h3 h4 h5 h6 h7
  | 3, _ => fun gl ol nl cl Cl tl X Y t k cu T w h1 h2 h3 h4 h5 h6 h7 => opI3AS gl ol nl cl Cl tl X Y t k cu T w h1 h2 h3 h4 h5 h6 h7
  | _ + 4, h => absurd h (by omega)
theorem isSAI : ∀ op, op < 4 → OpSA encI (76 + 3 * op + 2) (cmpI op)
  | 0, _ => fun gr or nr cr Cr tr X Y t k cu T w h1 h2 h3 h4 h5 h6 h7 => opI0SA gr or nr cr Cr tr X Y t k cu T w h1 h2 h3 h4 h5 h6 h7
  | 1, _ => fun gr or nr cr Cr tr X Y t k cu T w h1 h2 h3 h4 h5 h6 h7 => opI1SA gr or nr cr Cr tr X Y t k cu T w h1 h2 h3 h4 h5 h6 h7
  | 2, _ => fun gr or nr cr Cr tr X Y t k cu T w h1 h2 h3 h4 h5 h6 h7 => opI2SA gr or nr cr Cr tr X Y t k cu T w h1 h2 h3 h4 h5 h6 h7
  | 3, _ => fun gr or nr cr Cr tr X Y t k cu T w h1 h2 h3 h4 h5 h6 h7 => opI3SA gr or nr cr Cr tr X Y t k cu T w h1 h2 h3 h4 h5 h6 h7
  | _ + 4, h => absurd h (by omega)

end Go.Proofs.YtogbpljnekgfkaaGreatDoor.Cm
