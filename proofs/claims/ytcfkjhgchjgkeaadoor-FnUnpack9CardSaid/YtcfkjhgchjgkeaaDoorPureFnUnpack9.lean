/- FnUnpack9, in plain Lean: the numbers that the code shifts out of the words are those that the reference puts together bit by bit. -/
import Derived.Test.YtcfkjhgchjgkeaaDoorMFnUnpack9x1
import Derived.Test.YtcfkjhgchjgkeaaDoorUm
import Derived.Test.YtcfkjhgchjgkeaaDoorWSized
namespace Go.Proofs.YtcfkjhgchjgkeaaDoor.Pure
open Go.RowKit Go.Proofs.YtcfkjhgchjgkeaaDoor.U Go.Proofs.YtcfkjhgchjgkeaaDoor.MFnUnpack9 Go.Proofs.YtcfkjhgchjgkeaaDoorW.PrintWords Go.Proofs.YtcfkjhgchjgkeaaDoorW.PrintLast Go.Proofs.YtcfkjhgchjgkeaaDoorW.PrintMore
set_option linter.unusedVariables false

theorem st1 (V : Nat → Int) : u9s1 (V 0) [0, 0, 0, 0, 0, 0, 0, 0, 0, 0, 0, 0, 0, 0, 0, 0, 0, 0, 0, 0, 0, 0, 0, 0, 0, 0, 0, 0, 0, 0, 0, 0] = [((V 0).tmod 512), ((V 0 / 512).tmod 512), ((V 0 / 262144).tmod 512), (V 0 / 134217728), 0, 0, 0, 0, 0, 0, 0, 0, 0, 0, 0, 0, 0, 0, 0, 0, 0, 0, 0, 0, 0, 0, 0, 0, 0, 0, 0, 0] := rfl
theorem st2 (V : Nat → Int) : u9s2 (V 1) [((V 0).tmod 512), ((V 0 / 512).tmod 512), ((V 0 / 262144).tmod 512), (V 0 / 134217728), 0, 0, 0, 0, 0, 0, 0, 0, 0, 0, 0, 0, 0, 0, 0, 0, 0, 0, 0, 0, 0, 0, 0, 0, 0, 0, 0, 0] = [((V 0).tmod 512), ((V 0 / 512).tmod 512), ((V 0 / 262144).tmod 512), (bits .or .u32 (V 0 / 134217728) ((V 1).tmod 16 * 32 % 4294967296)), ((V 1 / 16).tmod 512), ((V 1 / 8192).tmod 512), ((V 1 / 4194304).tmod 512), (V 1 / 2147483648), 0, 0, 0, 0, 0, 0, 0, 0, 0, 0, 0, 0, 0, 0, 0, 0, 0, 0, 0, 0, 0, 0, 0, 0] := rfl
theorem st3 (V : Nat → Int) : u9s3 (V 2) [((V 0).tmod 512), ((V 0 / 512).tmod 512), ((V 0 / 262144).tmod 512), (bits .or .u32 (V 0 / 134217728) ((V 1).tmod 16 * 32 % 4294967296)), ((V 1 / 16).tmod 512), ((V 1 / 8192).tmod 512), ((V 1 / 4194304).tmod 512), (V 1 / 2147483648), 0, 0, 0, 0, 0, 0, 0, 0, 0, 0, 0, 0, 0, 0, 0, 0, 0, 0, 0, 0, 0, 0, 0, 0] = [((V 0).tmod 512), ((V 0 / 512).tmod 512), ((V 0 / 262144).tmod 512), (bits .or .u32 (V 0 / 134217728) ((V 1).tmod 16 * 32 % 4294967296)), ((V 1 / 16).tmod 512), ((V 1 / 8192).tmod 512), ((V 1 / 4194304).tmod 512), (bits .or .u32 (V 1 / 2147483648) ((V 2).tmod 256 * 2 % 4294967296)), ((V 2 / 256).tmod 512), ((V 2 / 131072).tmod 512), (V 2 / 67108864), 0, 0, 0, 0, 0, 0, 0, 0, 0, 0, 0, 0, 0, 0, 0, 0, 0, 0, 0, 0, 0] := rfl
theorem st4 (V : Nat → Int) : u9s4 (V 3) [((V 0).tmod 512), ((V 0 / 512).tmod 512), ((V 0 / 262144).tmod 512), (bits .or .u32 (V 0 / 134217728) ((V 1).tmod 16 * 32 % 4294967296)), ((V 1 / 16).tmod 512), ((V 1 / 8192).tmod 512), ((V 1 / 4194304).tmod 512), (bits .or .u32 (V 1 / 2147483648) ((V 2).tmod 256 * 2 % 4294967296)), ((V 2 / 256).tmod 512), ((V 2 / 131072).tmod 512), (V 2 / 67108864), 0, 0, 0, 0, 0, 0, 0, 0, 0, 0, 0, 0, 0, 0, 0, 0, 0, 0, 0, 0, 0] = [((V 0).tmod 512), ((V 0 / 512).tmod 512), ((V 0 / 262144).tmod 512), (bits .or .u32 (V 0 / 134217728) ((V 1).tmod 16 * 32 % 4294967296)), ((V 1 / 16).tmod 512), ((V 1 / 8192).tmod 512), ((V 1 / 4194304).tmod 512), (bits .or .u32 (V 1 / 2147483648) ((V 2).tmod 256 * 2 % 4294967296)), ((V 2 / 256).tmod 512), ((V 2 / 131072).tmod 512), (bits .or .u32 (V 2 / 67108864) ((V 3).tmod 8 * 64 % 4294967296)), ((V 3 / 8).tmod 512), ((V 3 / 4096).tmod 512), ((V 3 / 2097152).tmod 512), (V 3 / 1073741824), 0, 0, 0, 0, 0, 0, 0, 0, 0, 0, 0, 0, 0, 0, 0, 0, 0] := rfl
theorem st5 (V : Nat → Int) : u9s5 (V 4) [((V 0).tmod 512), ((V 0 / 512).tmod 512), ((V 0 / 262144).tmod 512), (bits .or .u32 (V 0 / 134217728) ((V 1).tmod 16 * 32 % 4294967296)), ((V 1 / 16).tmod 512), ((V 1 / 8192).tmod 512), ((V 1 / 4194304).tmod 512), (bits .or .u32 (V 1 / 2147483648) ((V 2).tmod 256 * 2 % 4294967296)), ((V 2 / 256).tmod 512), ((V 2 / 131072).tmod 512), (bits .or .u32 (V 2 / 67108864) ((V 3).tmod 8 * 64 % 4294967296)), ((V 3 / 8).tmod 512), ((V 3 / 4096).tmod 512), ((V 3 / 2097152).tmod 512), (V 3 / 1073741824), 0, 0, 0, 0, 0, 0, 0, 0, 0, 0, 0, 0, 0, 0, 0, 0, 0] = [((V 0).tmod 512), ((V 0 / 512).tmod 512), ((V 0 / 262144).tmod 512), (bits .or .u32 (V 0 / 134217728) ((V 1).tmod 16 * 32 % 4294967296)), ((V 1 / 16).tmod 512), ((V 1 / 8192).tmod 512), ((V 1 / 4194304).tmod 512), (bits .or .u32 (V 1 / 2147483648) ((V 2).tmod 256 * 2 % 4294967296)), ((V 2 / 256).tmod 512), ((V 2 / 131072).tmod 512), (bits .or .u32 (V 2 / 67108864) ((V 3).tmod 8 * 64 % 4294967296)), ((V 3 / 8).tmod 512), ((V 3 / 4096).tmod 512), ((V 3 / 2097152).tmod 512), (bits .or .u32 (V 3 / 1073741824) ((V 4).tmod 128 * 4 % 4294967296)), ((V 4 / 128).tmod 512), ((V 4 / 65536).tmod 512), (V 4 / 33554432), 0, 0, 0, 0, 0, 0, 0, 0, 0, 0, 0, 0, 0, 0] := rfl
theorem st6 (V : Nat → Int) : u9s6 (V 5) [((V 0).tmod 512), ((V 0 / 512).tmod 512), ((V 0 / 262144).tmod 512), (bits .or .u32 (V 0 / 134217728) ((V 1).tmod 16 * 32 % 4294967296)), ((V 1 / 16).tmod 512), ((V 1 / 8192).tmod 512), ((V 1 / 4194304).tmod 512), (bits .or .u32 (V 1 / 2147483648) ((V 2).tmod 256 * 2 % 4294967296)), ((V 2 / 256).tmod 512), ((V 2 / 131072).tmod 512), (bits .or .u32 (V 2 / 67108864) ((V 3).tmod 8 * 64 % 4294967296)), ((V 3 / 8).tmod 512), ((V 3 / 4096).tmod 512), ((V 3 / 2097152).tmod 512), (bits .or .u32 (V 3 / 1073741824) ((V 4).tmod 128 * 4 % 4294967296)), ((V 4 / 128).tmod 512), ((V 4 / 65536).tmod 512), (V 4 / 33554432), 0, 0, 0, 0, 0, 0, 0, 0, 0, 0, 0, 0, 0, 0] = [((V 0).tmod 512), ((V 0 / 512).tmod 512), ((V 0 / 262144).tmod 512), (bits .or .u32 (V 0 / 134217728) ((V 1).tmod 16 * 32 % 4294967296)), ((V 1 / 16).tmod 512), ((V 1 / 8192).tmod 512), ((V 1 / 4194304).tmod 512), (bits .or .u32 (V 1 / 2147483648) ((V 2).tmod 256 * 2 % 4294967296)), ((V 2 / 256).tmod 512), ((V 2 / 131072).tmod 512), (bits .or .u32 (V 2 / 67108864) ((V 3).tmod 8 * 64 % 4294967296)), ((V 3 / 8).tmod 512), ((V 3 / 4096).tmod 512), ((V 3 / 2097152).tmod 512), (bits .or .u32 (V 3 / 1073741824) ((V 4).tmod 128 * 4 % 4294967296)), ((V 4 / 128).tmod 512), ((V 4 / 65536).tmod 512), (bits .or .u32 (V 4 / 33554432) ((V 5).tmod 4 * 128 % 4294967296)), ((V 5 / 4).tmod 512), ((V 5 / 2048).tmod 512), ((V 5 / 1048576).tmod 512), (V 5 / 536870912), 0, 0, 0, 0, 0, 0, 0, 0, 0, 0] := rfl
theorem st7 (V : Nat → Int) : u9s7 (V 6) [((V 0).tmod 512), ((V 0 / 512).tmod 512), ((V 0 / 262144).tmod 512), (bits .or .u32 (V 0 / 134217728) ((V 1).tmod 16 * 32 % 4294967296)), ((V 1 / 16).tmod 512), ((V 1 / 8192).tmod 512), ((V 1 / 4194304).tmod 512), (bits .or .u32 (V 1 / 2147483648) ((V 2).tmod 256 * 2 % 4294967296)), ((V 2 / 256).tmod 512), ((V 2 / 131072).tmod 512), (bits .or .u32 (V 2 / 67108864) ((V 3).tmod 8 * 64 % 4294967296)), ((V 3 / 8).tmod 512), ((V 3 / 4096).tmod 512), ((V 3 / 2097152).tmod 512), (bits .or .u32 (V 3 / 1073741824) ((V 4).tmod 128 * 4 % 4294967296)), ((V 4 / 128).tmod 512), ((V 4 / 65536).tmod 512), (bits .or .u32 (V 4 / 33554432) ((V 5).tmod 4 * 128 % 4294967296)), ((V 5 / 4).tmod 512), ((V 5 / 2048).tmod 512), ((V 5 / 1048576).tmod 512), (V 5 / 536870912), 0, 0, 0, 0, 0, 0, 0, 0, 0, 0] = [((V 0).tmod 512), ((V 0 / 512).tmod 512), ((V 0 / 262144).tmod 512), (bits .or .u32 (V 0 / 134217728) ((V 1).tmod 16 * 32 % 4294967296)), ((V 1 / 16).tmod 512), ((V 1 / 8192).tmod 512), ((V 1 / 4194304).tmod 512), (bits .or .u32 (V 1 / 2147483648) ((V 2).tmod 256 * 2 % 4294967296)), ((V 2 / 256).tmod 512), ((V 2 / 131072).tmod 512), (bits .or .u32 (V 2 / 67108864) ((V 3).tmod 8 * 64 % 4294967296)), ((V 3 / 8).tmod 512), ((V 3 / 4096).tmod 512), ((V 3 / 2097152).tmod 512), (bits .or .u32 (V 3 / 1073741824) ((V 4).tmod 128 * 4 % 4294967296)), ((V 4 / 128).tmod 512), ((V 4 / 65536).tmod 512), (bits .or .u32 (V 4 / 33554432) ((V 5).tmod 4 * 128 % 4294967296)), ((V 5 / 4).tmod 512), ((V 5 / 2048).tmod 512), ((V 5 / 1048576).tmod 512), (bits .or .u32 (V 5 / 536870912) ((V 6).tmod 64 * 8 % 4294967296)), ((V 6 / 64).tmod 512), ((V 6 / 32768).tmod 512), (V 6 / 16777216), 0, 0, 0, 0, 0, 0, 0] := rfl
theorem st8 (V : Nat → Int) : u9s8 (V 7) [((V 0).tmod 512), ((V 0 / 512).tmod 512), ((V 0 / 262144).tmod 512), (bits .or .u32 (V 0 / 134217728) ((V 1).tmod 16 * 32 % 4294967296)), ((V 1 / 16).tmod 512), ((V 1 / 8192).tmod 512), ((V 1 / 4194304).tmod 512), (bits .or .u32 (V 1 / 2147483648) ((V 2).tmod 256 * 2 % 4294967296)), ((V 2 / 256).tmod 512), ((V 2 / 131072).tmod 512), (bits .or .u32 (V 2 / 67108864) ((V 3).tmod 8 * 64 % 4294967296)), ((V 3 / 8).tmod 512), ((V 3 / 4096).tmod 512), ((V 3 / 2097152).tmod 512), (bits .or .u32 (V 3 / 1073741824) ((V 4).tmod 128 * 4 % 4294967296)), ((V 4 / 128).tmod 512), ((V 4 / 65536).tmod 512), (bits .or .u32 (V 4 / 33554432) ((V 5).tmod 4 * 128 % 4294967296)), ((V 5 / 4).tmod 512), ((V 5 / 2048).tmod 512), ((V 5 / 1048576).tmod 512), (bits .or .u32 (V 5 / 536870912) ((V 6).tmod 64 * 8 % 4294967296)), ((V 6 / 64).tmod 512), ((V 6 / 32768).tmod 512), (V 6 / 16777216), 0, 0, 0, 0, 0, 0, 0] = [((V 0).tmod 512), ((V 0 / 512).tmod 512), ((V 0 / 262144).tmod 512), (bits .or .u32 (V 0 / 134217728) ((V 1).tmod 16 * 32 % 4294967296)), ((V 1 / 16).tmod 512), ((V 1 / 8192).tmod 512), ((V 1 / 4194304).tmod 512), (bits .or .u32 (V 1 / 2147483648) ((V 2).tmod 256 * 2 % 4294967296)), ((V 2 / 256).tmod 512), ((V 2 / 131072).tmod 512), (bits .or .u32 (V 2 / 67108864) ((V 3).tmod 8 * 64 % 4294967296)), ((V 3 / 8).tmod 512), ((V 3 / 4096).tmod 512), ((V 3 / 2097152).tmod 512), (bits .or .u32 (V 3 / 1073741824) ((V 4).tmod 128 * 4 % 4294967296)), ((V 4 / 128).tmod 512), ((V 4 / 65536).tmod 512), (bits .or .u32 (V 4 / 33554432) ((V 5).tmod 4 * 128 % 4294967296)), ((V 5 / 4).tmod 512), ((V 5 / 2048).tmod 512), ((V 5 / 1048576).tmod 512), (bits .or .u32 (V 5 / 536870912) ((V 6).tmod 64 * 8 % 4294967296)), ((V 6 / 64).tmod 512), ((V 6 / 32768).tmod 512), (bits .or .u32 (V 6 / 16777216) ((V 7).tmod 2 * 256 % 4294967296)), ((V 7 / 2).tmod 512), ((V 7 / 1024).tmod 512), ((V 7 / 524288).tmod 512), (V 7 / 268435456), 0, 0, 0] := rfl
theorem st9 (V : Nat → Int) : u9s9 (V 8) [((V 0).tmod 512), ((V 0 / 512).tmod 512), ((V 0 / 262144).tmod 512), (bits .or .u32 (V 0 / 134217728) ((V 1).tmod 16 * 32 % 4294967296)), ((V 1 / 16).tmod 512), ((V 1 / 8192).tmod 512), ((V 1 / 4194304).tmod 512), (bits .or .u32 (V 1 / 2147483648) ((V 2).tmod 256 * 2 % 4294967296)), ((V 2 / 256).tmod 512), ((V 2 / 131072).tmod 512), (bits .or .u32 (V 2 / 67108864) ((V 3).tmod 8 * 64 % 4294967296)), ((V 3 / 8).tmod 512), ((V 3 / 4096).tmod 512), ((V 3 / 2097152).tmod 512), (bits .or .u32 (V 3 / 1073741824) ((V 4).tmod 128 * 4 % 4294967296)), ((V 4 / 128).tmod 512), ((V 4 / 65536).tmod 512), (bits .or .u32 (V 4 / 33554432) ((V 5).tmod 4 * 128 % 4294967296)), ((V 5 / 4).tmod 512), ((V 5 / 2048).tmod 512), ((V 5 / 1048576).tmod 512), (bits .or .u32 (V 5 / 536870912) ((V 6).tmod 64 * 8 % 4294967296)), ((V 6 / 64).tmod 512), ((V 6 / 32768).tmod 512), (bits .or .u32 (V 6 / 16777216) ((V 7).tmod 2 * 256 % 4294967296)), ((V 7 / 2).tmod 512), ((V 7 / 1024).tmod 512), ((V 7 / 524288).tmod 512), (V 7 / 268435456), 0, 0, 0] = [((V 0).tmod 512), ((V 0 / 512).tmod 512), ((V 0 / 262144).tmod 512), (bits .or .u32 (V 0 / 134217728) ((V 1).tmod 16 * 32 % 4294967296)), ((V 1 / 16).tmod 512), ((V 1 / 8192).tmod 512), ((V 1 / 4194304).tmod 512), (bits .or .u32 (V 1 / 2147483648) ((V 2).tmod 256 * 2 % 4294967296)), ((V 2 / 256).tmod 512), ((V 2 / 131072).tmod 512), (bits .or .u32 (V 2 / 67108864) ((V 3).tmod 8 * 64 % 4294967296)), ((V 3 / 8).tmod 512), ((V 3 / 4096).tmod 512), ((V 3 / 2097152).tmod 512), (bits .or .u32 (V 3 / 1073741824) ((V 4).tmod 128 * 4 % 4294967296)), ((V 4 / 128).tmod 512), ((V 4 / 65536).tmod 512), (bits .or .u32 (V 4 / 33554432) ((V 5).tmod 4 * 128 % 4294967296)), ((V 5 / 4).tmod 512), ((V 5 / 2048).tmod 512), ((V 5 / 1048576).tmod 512), (bits .or .u32 (V 5 / 536870912) ((V 6).tmod 64 * 8 % 4294967296)), ((V 6 / 64).tmod 512), ((V 6 / 32768).tmod 512), (bits .or .u32 (V 6 / 16777216) ((V 7).tmod 2 * 256 % 4294967296)), ((V 7 / 2).tmod 512), ((V 7 / 1024).tmod 512), ((V 7 / 524288).tmod 512), (bits .or .u32 (V 7 / 268435456) ((V 8).tmod 32 * 16 % 4294967296)), ((V 8 / 32).tmod 512), ((V 8 / 16384).tmod 512), (V 8 / 8388608)] := rfl
theorem un_eq (V : Nat → Int) : un9f V (List.replicate 32 0) = [((V 0).tmod 512), ((V 0 / 512).tmod 512), ((V 0 / 262144).tmod 512), (bits .or .u32 (V 0 / 134217728) ((V 1).tmod 16 * 32 % 4294967296)), ((V 1 / 16).tmod 512), ((V 1 / 8192).tmod 512), ((V 1 / 4194304).tmod 512), (bits .or .u32 (V 1 / 2147483648) ((V 2).tmod 256 * 2 % 4294967296)), ((V 2 / 256).tmod 512), ((V 2 / 131072).tmod 512), (bits .or .u32 (V 2 / 67108864) ((V 3).tmod 8 * 64 % 4294967296)), ((V 3 / 8).tmod 512), ((V 3 / 4096).tmod 512), ((V 3 / 2097152).tmod 512), (bits .or .u32 (V 3 / 1073741824) ((V 4).tmod 128 * 4 % 4294967296)), ((V 4 / 128).tmod 512), ((V 4 / 65536).tmod 512), (bits .or .u32 (V 4 / 33554432) ((V 5).tmod 4 * 128 % 4294967296)), ((V 5 / 4).tmod 512), ((V 5 / 2048).tmod 512), ((V 5 / 1048576).tmod 512), (bits .or .u32 (V 5 / 536870912) ((V 6).tmod 64 * 8 % 4294967296)), ((V 6 / 64).tmod 512), ((V 6 / 32768).tmod 512), (bits .or .u32 (V 6 / 16777216) ((V 7).tmod 2 * 256 % 4294967296)), ((V 7 / 2).tmod 512), ((V 7 / 1024).tmod 512), ((V 7 / 524288).tmod 512), (bits .or .u32 (V 7 / 268435456) ((V 8).tmod 32 * 16 % 4294967296)), ((V 8 / 32).tmod 512), ((V 8 / 16384).tmod 512), (V 8 / 8388608)] := by
  unfold un9f
  rw [show List.replicate 32 (0 : Int) = [0, 0, 0, 0, 0, 0, 0, 0, 0, 0, 0, 0, 0, 0, 0, 0, 0, 0, 0, 0, 0, 0, 0, 0, 0, 0, 0, 0, 0, 0, 0, 0] from rfl, st1, st2, st3, st4, st5, st6, st7, st8, st9]
set_option maxRecDepth 100000 in
theorem un_fld (V : Nat → Int) (X : Nat) (hV : ∀ j : Nat, j < 9 → V j = ((wd X j : Nat) : Int)) : un9f V (List.replicate 32 0) = upTo 9 X (32 * 9) := by
  have e0 : ((V 0).tmod 512) = ((fld 9 X 0 : Nat) : Int) := f0 _ (hV 0 (by decide)) (by decide) (by decide) (by decide)
  have e1 : ((V 0 / 512).tmod 512) = ((fld 9 X 1 : Nat) : Int) := f1 9 _ _ (hV 0 (by decide)) (by decide) (by decide) (by decide) (by decide)
  have e2 : ((V 0 / 262144).tmod 512) = ((fld 9 X 2 : Nat) : Int) := f1 18 _ _ (hV 0 (by decide)) (by decide) (by decide) (by decide) (by decide)
  have e3 : (bits .or .u32 (V 0 / 134217728) ((V 1).tmod 16 * 32 % 4294967296)) = ((fld 9 X 3 : Nat) : Int) := f3 27 _ _ _ (hV 0 (by decide)) (hV 1 (by decide)) (by decide) (by decide) (by decide) (by decide) (by decide) (by decide) (by decide)
  have e4 : ((V 1 / 16).tmod 512) = ((fld 9 X 4 : Nat) : Int) := f1 4 _ _ (hV 1 (by decide)) (by decide) (by decide) (by decide) (by decide)
  have e5 : ((V 1 / 8192).tmod 512) = ((fld 9 X 5 : Nat) : Int) := f1 13 _ _ (hV 1 (by decide)) (by decide) (by decide) (by decide) (by decide)
  have e6 : ((V 1 / 4194304).tmod 512) = ((fld 9 X 6 : Nat) : Int) := f1 22 _ _ (hV 1 (by decide)) (by decide) (by decide) (by decide) (by decide)
  have e7 : (bits .or .u32 (V 1 / 2147483648) ((V 2).tmod 256 * 2 % 4294967296)) = ((fld 9 X 7 : Nat) : Int) := f3 31 _ _ _ (hV 1 (by decide)) (hV 2 (by decide)) (by decide) (by decide) (by decide) (by decide) (by decide) (by decide) (by decide)
  have e8 : ((V 2 / 256).tmod 512) = ((fld 9 X 8 : Nat) : Int) := f1 8 _ _ (hV 2 (by decide)) (by decide) (by decide) (by decide) (by decide)
  have e9 : ((V 2 / 131072).tmod 512) = ((fld 9 X 9 : Nat) : Int) := f1 17 _ _ (hV 2 (by decide)) (by decide) (by decide) (by decide) (by decide)
  have e10 : (bits .or .u32 (V 2 / 67108864) ((V 3).tmod 8 * 64 % 4294967296)) = ((fld 9 X 10 : Nat) : Int) := f3 26 _ _ _ (hV 2 (by decide)) (hV 3 (by decide)) (by decide) (by decide) (by decide) (by decide) (by decide) (by decide) (by decide)
  have e11 : ((V 3 / 8).tmod 512) = ((fld 9 X 11 : Nat) : Int) := f1 3 _ _ (hV 3 (by decide)) (by decide) (by decide) (by decide) (by decide)
  have e12 : ((V 3 / 4096).tmod 512) = ((fld 9 X 12 : Nat) : Int) := f1 12 _ _ (hV 3 (by decide)) (by decide) (by decide) (by decide) (by decide)
  have e13 : ((V 3 / 2097152).tmod 512) = ((fld 9 X 13 : Nat) : Int) := f1 21 _ _ (hV 3 (by decide)) (by decide) (by decide) (by decide) (by decide)
  have e14 : (bits .or .u32 (V 3 / 1073741824) ((V 4).tmod 128 * 4 % 4294967296)) = ((fld 9 X 14 : Nat) : Int) := f3 30 _ _ _ (hV 3 (by decide)) (hV 4 (by decide)) (by decide) (by decide) (by decide) (by decide) (by decide) (by decide) (by decide)
  have e15 : ((V 4 / 128).tmod 512) = ((fld 9 X 15 : Nat) : Int) := f1 7 _ _ (hV 4 (by decide)) (by decide) (by decide) (by decide) (by decide)
  have e16 : ((V 4 / 65536).tmod 512) = ((fld 9 X 16 : Nat) : Int) := f1 16 _ _ (hV 4 (by decide)) (by decide) (by decide) (by decide) (by decide)
  have e17 : (bits .or .u32 (V 4 / 33554432) ((V 5).tmod 4 * 128 % 4294967296)) = ((fld 9 X 17 : Nat) : Int) := f3 25 _ _ _ (hV 4 (by decide)) (hV 5 (by decide)) (by decide) (by decide) (by decide) (by decide) (by decide) (by decide) (by decide)
  have e18 : ((V 5 / 4).tmod 512) = ((fld 9 X 18 : Nat) : Int) := f1 2 _ _ (hV 5 (by decide)) (by decide) (by decide) (by decide) (by decide)
  have e19 : ((V 5 / 2048).tmod 512) = ((fld 9 X 19 : Nat) : Int) := f1 11 _ _ (hV 5 (by decide)) (by decide) (by decide) (by decide) (by decide)
  have e20 : ((V 5 / 1048576).tmod 512) = ((fld 9 X 20 : Nat) : Int) := f1 20 _ _ (hV 5 (by decide)) (by decide) (by decide) (by decide) (by decide)
  have e21 : (bits .or .u32 (V 5 / 536870912) ((V 6).tmod 64 * 8 % 4294967296)) = ((fld 9 X 21 : Nat) : Int) := f3 29 _ _ _ (hV 5 (by decide)) (hV 6 (by decide)) (by decide) (by decide) (by decide) (by decide) (by decide) (by decide) (by decide)
  have e22 : ((V 6 / 64).tmod 512) = ((fld 9 X 22 : Nat) : Int) := f1 6 _ _ (hV 6 (by decide)) (by decide) (by decide) (by decide) (by decide)
  have e23 : ((V 6 / 32768).tmod 512) = ((fld 9 X 23 : Nat) : Int) := f1 15 _ _ (hV 6 (by decide)) (by decide) (by decide) (by decide) (by decide)
  have e24 : (bits .or .u32 (V 6 / 16777216) ((V 7).tmod 2 * 256 % 4294967296)) = ((fld 9 X 24 : Nat) : Int) := f3 24 _ _ _ (hV 6 (by decide)) (hV 7 (by decide)) (by decide) (by decide) (by decide) (by decide) (by decide) (by decide) (by decide)
  have e25 : ((V 7 / 2).tmod 512) = ((fld 9 X 25 : Nat) : Int) := f1 1 _ _ (hV 7 (by decide)) (by decide) (by decide) (by decide) (by decide)
  have e26 : ((V 7 / 1024).tmod 512) = ((fld 9 X 26 : Nat) : Int) := f1 10 _ _ (hV 7 (by decide)) (by decide) (by decide) (by decide) (by decide)
  have e27 : ((V 7 / 524288).tmod 512) = ((fld 9 X 27 : Nat) : Int) := f1 19 _ _ (hV 7 (by decide)) (by decide) (by decide) (by decide) (by decide)
  have e28 : (bits .or .u32 (V 7 / 268435456) ((V 8).tmod 32 * 16 % 4294967296)) = ((fld 9 X 28 : Nat) : Int) := f3 28 _ _ _ (hV 7 (by decide)) (hV 8 (by decide)) (by decide) (by decide) (by decide) (by decide) (by decide) (by decide) (by decide)
  have e29 : ((V 8 / 32).tmod 512) = ((fld 9 X 29 : Nat) : Int) := f1 5 _ _ (hV 8 (by decide)) (by decide) (by decide) (by decide) (by decide)
  have e30 : ((V 8 / 16384).tmod 512) = ((fld 9 X 30 : Nat) : Int) := f1 14 _ _ (hV 8 (by decide)) (by decide) (by decide) (by decide) (by decide)
  have e31 : (V 8 / 8388608) = ((fld 9 X 31 : Nat) : Int) := f2 23 _ (hV 8 (by decide)) (by decide) (by decide) (by decide)
  rw [upTo_all, un_eq, e0, e1, e2, e3, e4, e5, e6, e7, e8, e9, e10, e11, e12, e13, e14, e15, e16, e17, e18, e19, e20, e21, e22, e23, e24, e25, e26, e27, e28, e29, e30, e31]
  rfl

theorem shl_nat (b t : Nat) (hb : b < 2) (ht : t < 32) : shl .u64 (b : Int) (t : Int) = ((b * 2 ^ t : Nat) : Int) := by
  have h1 : 2 ^ t ≤ 2 ^ 31 := Nat.pow_le_pow_right (by decide) (by omega)
  have h2 : b * 2 ^ t ≤ 1 * 2 ^ 31 := Nat.mul_le_mul (by omega) h1
  unfold shl
  rw [Int.toNat_natCast, Nat.min_eq_left (show t ≤ IntKind.u64.bits from Nat.le_trans (Nat.le_of_lt ht) (by decide)), show (2 : Int) ^ t = ((2 ^ t : Nat) : Int) by simp, ← Int.natCast_mul, IntKind.wrap_u64]
  generalize b * 2 ^ t = y at h2 ⊢
  omega

theorem wrap_nat (n : Nat) (h : n < 9223372036854775808) : wrap64 (n : Int) = (n : Int) := by unfold wrap64; omega

theorem x1 (i : Nat) (h : i < 32 * 9) : wrap64 (Int.tdiv (i : Int) 9) = ((i / 9 : Nat) : Int) := wrap_nat (i / 9) (by omega)
theorem x2 (i : Nat) (h : i < 32 * 9) : wrap64 (0 + (i : Int)) = (i : Int) := by rw [Int.zero_add]; exact wrap_nat _ (by omega)
theorem x3 (i : Nat) (h : i < 32 * 9) : wrap64 (Int.tdiv (i : Int) 8) = ((i / 8 : Nat) : Int) := wrap_nat (i / 8) (by omega)
theorem x4 (i : Nat) : Int.tmod (i : Int) 8 = ((i % 8 : Nat) : Int) := rfl
theorem x5 (i : Nat) : Int.tmod (i : Int) 9 = ((i % 9 : Nat) : Int) := rfl
theorem x6 : wrap64 ((32 : Int) * 9) = ((32 * 9 : Nat) : Int) := by unfold wrap64; omega
theorem x7 (i : Nat) (h : i < 32 * 9) : wrap64 ((i : Int) + 1) = ((i + 1 : Nat) : Int) := wrap_nat (i + 1) (by omega)

set_option maxRecDepth 100000 in
theorem spec_loop (l : List Int) (hb : Bytes l) (hl : l.length = 36) (d : Nat) : ∀ k i : Nat, i + d = 32 * 9 → d < k → spec_UnpackBits.l0 k l 0 9 32 (upTo 9 (num l) i) (i : Int) = some (upTo 9 (num l) (32 * 9), true) := by
  induction d with
  | zero =>
    intro k i hi hk
    obtain ⟨k, rfl⟩ : ∃ m, k = m + 1 := ⟨k - 1, by omega⟩
    simp only [spec_UnpackBits.l0]
    rw [if_neg (by unfold wrap64; omega), show i = 32 * 9 by omega]
  | succ d ih =>
    intro k i hi hk
    obtain ⟨k, rfl⟩ : ∃ m, k = m + 1 := ⟨k - 1, by omega⟩
    have h1 : i < 32 * 9 := by omega
    have h2 : i / 8 < 36 := by omega
    have h3 : i < 8 * l.length := by omega
    have hm : i / 9 < 32 := by omega
    have hq : i % 9 < 32 := by omega
    simp only [spec_UnpackBits.l0]
    rw [x6, if_pos (Int.ofNat_lt.2 h1), if_neg (by decide), x1 i h1, if_pos (Int.natCast_nonneg _), upTo_len, if_pos (Int.ofNat_lt.2 hm), x2 i h1, x3 i h1, if_pos (Int.natCast_nonneg _), hl, if_pos (Int.ofNat_lt.2 h2), x4 i, if_pos (Int.natCast_nonneg _), x5 i, if_pos (Int.natCast_nonneg _), x7 i h1,
      num_bit hb h3, shl_nat _ _ (Nat.mod_lt _ (by decide)) hq, upTo_rd _ _ _ _ hm, bits_or_u64_nat _ _ ?_ ?_, Int.toNat_natCast, upTo_next 9 (num l) i (by decide) h1]
    · exact ih k (i + 1) (by omega) (by omega)
    · unfold fld
      exact Nat.lt_of_lt_of_le (Nat.mod_lt _ (Nat.two_pow_pos _)) (by decide)
    · have h4 : 2 ^ (i % 9) ≤ 2 ^ 31 := Nat.pow_le_pow_right (by decide) (by omega)
      have h2 : num l / 2 ^ i % 2 * 2 ^ (i % 9) ≤ 1 * 2 ^ 31 := Nat.mul_le_mul (Nat.le_of_lt_succ (Nat.mod_lt _ (by decide))) h4
      generalize num l / 2 ^ i % 2 * 2 ^ (i % 9) = y at h2 ⊢
      omega

theorem spec_good (l : List Int) (hb : Bytes l) (hl : l.length = 36) (k : Nat) (hk : 32 * 9 < k) : spec_UnpackBits.f k l 0 9 32 = some (upTo 9 (num l) (32 * 9), true) := by
  unfold spec_UnpackBits.f
  rw [if_neg (by rw [hl]; unfold wrap64; omega), if_pos (by decide), if_pos (by decide)]
  have := spec_loop l hb hl (32 * 9) k 0 (by omega) hk
  rw [upTo_zero] at this
  exact this

theorem same_loop (N X : Nat) (hN : N ≤ 32) (d : Nat) : ∀ k i : Nat, i + d = 32 → d < k → laws_unpacked.l0 k (upTo N X (32 * N)) (upTo N X (32 * N)) (i : Int) = some true := by
  induction d with
  | zero =>
    intro k i hi hk
    obtain ⟨k, rfl⟩ : ∃ m, k = m + 1 := ⟨k - 1, by omega⟩
    simp only [laws_unpacked.l0]
    rw [if_neg (by omega)]
  | succ d ih =>
    intro k i hi hk
    obtain ⟨k, rfl⟩ : ∃ m, k = m + 1 := ⟨k - 1, by omega⟩
    have e7 : wrap64 ((i : Int) + 1) = ((i + 1 : Nat) : Int) := by unfold wrap64; omega
    have hf : fld N (X % 2 ^ (32 * N)) i < 4294967296 := by
      unfold fld
      exact Nat.lt_of_lt_of_le (Nat.mod_lt _ (Nat.two_pow_pos _)) ((show 2 ^ N ≤ 2 ^ 32 from Nat.pow_le_pow_right (by decide) hN))
    simp only [laws_unpacked.l0]
    rw [if_pos (by omega), if_pos (by omega), upTo_len, if_pos (by omega), if_pos (by omega), upTo_rd _ _ _ _ (by omega), if_pos (by rw [IntKind.wrap_u64]; omega), e7]
    exact ih k (i + 1) (by omega) (by omega)

theorem impl_good (l : List Int) (hb : Bytes l) (hl : l.length = 36) : impl_Unpack9.f l = some (upTo 9 (num l) (32 * 9), true) := by
  unfold impl_Unpack9.f
  rw [if_pos ⟨hl, hb⟩, un_fld (wordOf l) (num l) (fun j hj => num_word hb (by omega))]

theorem unpacked_good (l : List Int) (hb : Bytes l) (hl : l.length = 36) (k : Nat) (hk : 32 * 9 + 40 < k) : laws_unpacked.f k l 9 (upTo 9 (num l) (32 * 9)) true = some true := by
  unfold laws_unpacked.f
  rw [spec_good l hb hl k (by omega)]
  simp only [Option.bind_some, if_true]
  obtain ⟨k, rfl⟩ : ∃ m, k = m + 1 := ⟨k - 1, by omega⟩
  simp only [laws_unpacked.j0, upTo_len]
  rw [if_neg (by decide)]
  exact same_loop 9 (num l) (by decide) 32 k 0 (by omega) (by omega)

theorem lowest_val : laws_lowest.f 36 = some ((List.replicate 36 (0 : Int)).set 0 1) := by rfl
theorem lowest_len : ((List.replicate 36 (0 : Int)).set 0 1).length = 36 := by simp
theorem lowest_bytes : Bytes ((List.replicate 36 (0 : Int)).set 0 1) := by
  intro x hx
  rcases List.mem_or_eq_of_mem_set hx with h | h
  · have := List.eq_of_mem_replicate h
    omega
  · omega

theorem FnUnpack9 : laws_FnUnpack9.Pure := by
  intro l0 _ _ hw
  have hb : Bytes l0 := fun x hx => by
    have := hw x hx
    simp [Lit.wf, IntKind.min, IntKind.max, IntKind.signed, IntKind.bits] at this
    omega
  obtain ⟨K, hK⟩ : ∃ K : Nat, 32 * 9 + 40 < K := ⟨_, Nat.lt_succ_self _⟩
  obtain ⟨F, hF⟩ : ∃ F : List Int, F = (List.replicate 36 (0 : Int)).set 0 1 := ⟨_, rfl⟩
  have hv : laws_lowest.f 36 = some F := by rw [hF]; exact lowest_val
  have hFl : F.length = 36 := by rw [hF]; exact lowest_len
  have hFb : Bytes F := by rw [hF]; exact lowest_bytes
  clear hF
  refine ⟨K, ?_⟩
  unfold laws_FnUnpack9.f
  by_cases hbig : (l0.length : Int) > 2147483647
  · rw [if_pos hbig]
  · rw [if_neg hbig, hv, Option.bind_some, impl_good F hFb hFl, Option.bind_some, Option.bind_some]
    rw [unpacked_good F hFb hFl K hK, Option.bind_some]
    by_cases hl : (l0.length : Int) = 36
    · have hl' : l0.length = 36 := by omega
      rw [if_pos hl, impl_good l0 hb hl', Option.bind_some]
      rw [unpacked_good l0 hb hl' K hK, Option.bind_some, if_pos rfl]
    · rw [if_neg hl]

end Go.Proofs.YtcfkjhgchjgkeaaDoor.Pure
namespace Go.Proofs.YtcfkjhgchjgkeaaDoor
theorem PrintWords.sized_ints : type_of% @Go.Proofs.YtcfkjhgchjgkeaaDoorW.PrintWords.sized_ints := @Go.Proofs.YtcfkjhgchjgkeaaDoorW.PrintWords.sized_ints
end Go.Proofs.YtcfkjhgchjgkeaaDoor
