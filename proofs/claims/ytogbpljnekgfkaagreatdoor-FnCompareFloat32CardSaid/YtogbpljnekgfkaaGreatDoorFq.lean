/- float32: the comparisons as values. -/
import Derived.Test.YtogbpljnekgfkaaGreatDoorCk
import Derived.Test.YtogbpljnekgfkaaGreatDoorFo
import Derived.Test.YtogbpljnekgfkaaGreatDoorFt
namespace Go.Proofs.YtogbpljnekgfkaaGreatDoor.Cm
open Go.RowKit Go.IntWalk Go.Proofs.YtogbpljnekgfkaaGreatDoorW.PrintWords Go.Proofs.YtogbpljnekgfkaaGreatDoorW.PrintLast Go.Proofs.YtogbpljnekgfkaaGreatDoorW.PrintMore
attribute [local go_sem] max2_int min2_int max_two min_two max_three min_three max_four min_four
set_option linter.unusedVariables false
set_option linter.unusedSimpArgs false
def encF (x : Int) : Value := .float .f32 x.toNat
theorem getAtEF (g n c i : Nat) (D : List Int) (w : World) (hd : w.heap[g]? = some (.cells (rowB D) 5 (0, 0))) (hn : n = D.length) (hi : 4 * i + 4 ≤ n) (hl : n ≤ 100000) (hc : n ≤ c) (hB : Bytes D) :
    Calls Tryz.prog 93 #[.slice (some ⟨g, 0, none⟩) n c, .int .i64 i] w fun e w' => e = .returned (encF (oneF D i)) ∧ Below w.heap.size w w' := getAtF g n c i D w hd hn hi hl hc hB
theorem isAAF : ∀ op, op < 4 → OpAA encF (55 + 3 * op) (cmpF op)
  | 0, _ => fun gl ol nl cl Cl tl gr or nr cr Cr tr X Y t k cu T w h1 h2 h3 h4 h5 h6 h7 h8 h9 h10 h11 => opF0AA gl ol nl cl Cl tl gr or nr cr Cr tr X Y t k cu T w h1 h2 h3 h4 h5 h6 h7 h8 h9 h10 h11
  | 1, _ => fun gl ol nl cl Cl tl gr or nr cr Cr tr X Y t k cu T w h1 h2 h3 h4 h5 h6 h7 h8 h9 h10 h11 => opF1AA gl ol nl cl Cl tl gr or nr cr Cr tr X Y t k cu T w h1 h2 h3 h4 h5 h6 h7 h8 h9 h10 h11
  | 2, _ => fun gl ol nl cl Cl tl gr or nr cr Cr tr X Y t k cu T w h1 h2 h3 h4 h5 h6 h7 h8 h9 h10 h11 => opF2AA gl ol nl cl Cl tl gr or nr cr Cr tr X Y t k cu T w h1 h2 h3 h4 h5 h6 h7 h8 h9 h10 h11
  | 3, _ => fun gl ol nl cl Cl tl gr or nr cr Cr tr X Y t k cu T w h1 h2 h3 h4 h5 h6 h7 h8 h9 h10 h11 => opF3AA gl ol nl cl Cl tl gr or nr cr Cr tr X Y t k cu T w h1 h2 h3 h4 h5 h6 h7 h8 h9 h10 h11
  | _ + 4, h => absurd h (by omega)
theorem isASF : ∀ op, op < 4 → OpAS encF (55 + 3 * op + 1) (cmpF op)
  | 0, _ => fun gl ol nl cl Cl tl X Y t k cu T w h1 h2 h3 h4 h5 h6 h7 => opF0AS gl ol nl cl Cl tl X Y t k cu T w h1 h2 h3 h4 h5 h6 h7
  | 1, _ => fun gl ol nl cl Cl tl X Y t k cu T w h1 h2 h3 h4 h5 h6 h7 => opF1AS gl ol nl cl Cl tl X Y t k cu T w h1 h2 h3 h4 h5 h6 h7
  | 2, _ => fun gl ol nl cl Cl tl X Y t k cu T w h1 h2 h3 h4 h5 h6 h7 => opF2AS gl ol nl cl Cl tl X Y t k cu T w h1 h2 h3 h4 h5 h6 h7
  | 3, _ => fun gl ol nl cl Cl tl X Y t k cu T w h1 h2 h3 h4 h5 h6 h7 => opF3AS gl ol nl cl Cl tl X Y t k cu T w h1 h2 h3 h4 h5 h6 h7
  | _ + 4, h => absurd h (by omega)
theorem isSAF : ∀ op, op < 4 → OpSA encF (55 + 3 * op + 2) (cmpF op)
  | 0, _ => fun gr or nr cr Cr tr X Y t k cu T w h1 h2 h3 h4 h5 h6 h7 => opF0SA gr or nr cr Cr tr X Y t k cu T w h1 h2 h3 h4 h5 h6 h7
  | 1, _ => fun gr or nr cr Cr tr X Y t k cu T w h1 h2 h3 h4 h5 h6 h7 => opF1SA gr or nr cr Cr tr X Y t k cu T w h1 h2 h3 h4 h5 h6 h7
  | 2, _ => fun gr or nr cr Cr tr X Y t k cu T w h1 h2 h3 h4 h5 h6 h7 => opF2SA gr or nr cr Cr tr X Y t k cu T w h1 h2 h3 h4 h5 h6 h7
  | 3, _ => fun gr or nr cr Cr tr X Y t k cu T w h1 h2 h3 h4 h5 h6 h7 => opF3SA gr or nr cr Cr tr X Y t k cu T w h1 h2 h3 h4 h5 h6 h7
  | _ + 4, h => absurd h (by omega)

end Go.Proofs.YtogbpljnekgfkaaGreatDoor.Cm
