/- FnUnpack13, in plain Lean: the numbers that the code shifts out of the words are those that the reference puts together bit by bit. -/
import Derived.Test.YtcfkjhgchjgkeaaDoorMFnUnpack13x1
import Derived.Test.YtcfkjhgchjgkeaaDoorUm
import Derived.Test.YtcfkjhgchjgkeaaDoorWSized
namespace Go.Proofs.YtcfkjhgchjgkeaaDoor.Pure
open Go.RowKit Go.Proofs.YtcfkjhgchjgkeaaDoor.U Go.Proofs.YtcfkjhgchjgkeaaDoor.MFnUnpack13 Go.Proofs.YtcfkjhgchjgkeaaDoorW.PrintWords Go.Proofs.YtcfkjhgchjgkeaaDoorW.PrintLast Go.Proofs.YtcfkjhgchjgkeaaDoorW.PrintMore
set_option linter.unusedVariables false

theorem st1 (V : Nat → Int) : u13s1 (V 0) [0, 0, 0, 0, 0, 0, 0, 0, 0, 0, 0, 0, 0, 0, 0, 0, 0, 0, 0, 0, 0, 0, 0, 0, 0, 0, 0, 0, 0, 0, 0, 0] = [((V 0).tmod 8192), ((V 0 / 8192).tmod 8192), (V 0 / 67108864), 0, 0, 0, 0, 0, 0, 0, 0, 0, 0, 0, 0, 0, 0, 0, 0, 0, 0, 0, 0, 0, 0, 0, 0, 0, 0, 0, 0, 0] := rfl
theorem st2 (V : Nat → Int) : u13s2 (V 1) [((V 0).tmod 8192), ((V 0 / 8192).tmod 8192), (V 0 / 67108864), 0, 0, 0, 0, 0, 0, 0, 0, 0, 0, 0, 0, 0, 0, 0, 0, 0, 0, 0, 0, 0, 0, 0, 0, 0, 0, 0, 0, 0] = [((V 0).tmod 8192), ((V 0 / 8192).tmod 8192), (bits .or .u32 (V 0 / 67108864) ((V 1).tmod 128 * 64 % 4294967296)), ((V 1 / 128).tmod 8192), (V 1 / 1048576), 0, 0, 0, 0, 0, 0, 0, 0, 0, 0, 0, 0, 0, 0, 0, 0, 0, 0, 0, 0, 0, 0, 0, 0, 0, 0, 0] := rfl
theorem st3 (V : Nat → Int) : u13s3 (V 2) [((V 0).tmod 8192), ((V 0 / 8192).tmod 8192), (bits .or .u32 (V 0 / 67108864) ((V 1).tmod 128 * 64 % 4294967296)), ((V 1 / 128).tmod 8192), (V 1 / 1048576), 0, 0, 0, 0, 0, 0, 0, 0, 0, 0, 0, 0, 0, 0, 0, 0, 0, 0, 0, 0, 0, 0, 0, 0, 0, 0, 0] = [((V 0).tmod 8192), ((V 0 / 8192).tmod 8192), (bits .or .u32 (V 0 / 67108864) ((V 1).tmod 128 * 64 % 4294967296)), ((V 1 / 128).tmod 8192), (bits .or .u32 (V 1 / 1048576) ((V 2).tmod 2 * 4096 % 4294967296)), ((V 2 / 2).tmod 8192), ((V 2 / 16384).tmod 8192), (V 2 / 134217728), 0, 0, 0, 0, 0, 0, 0, 0, 0, 0, 0, 0, 0, 0, 0, 0, 0, 0, 0, 0, 0, 0, 0, 0] := rfl
theorem st4 (V : Nat → Int) : u13s4 (V 3) [((V 0).tmod 8192), ((V 0 / 8192).tmod 8192), (bits .or .u32 (V 0 / 67108864) ((V 1).tmod 128 * 64 % 4294967296)), ((V 1 / 128).tmod 8192), (bits .or .u32 (V 1 / 1048576) ((V 2).tmod 2 * 4096 % 4294967296)), ((V 2 / 2).tmod 8192), ((V 2 / 16384).tmod 8192), (V 2 / 134217728), 0, 0, 0, 0, 0, 0, 0, 0, 0, 0, 0, 0, 0, 0, 0, 0, 0, 0, 0, 0, 0, 0, 0, 0] = [((V 0).tmod 8192), ((V 0 / 8192).tmod 8192), (bits .or .u32 (V 0 / 67108864) ((V 1).tmod 128 * 64 % 4294967296)), ((V 1 / 128).tmod 8192), (bits .or .u32 (V 1 / 1048576) ((V 2).tmod 2 * 4096 % 4294967296)), ((V 2 / 2).tmod 8192), ((V 2 / 16384).tmod 8192), (bits .or .u32 (V 2 / 134217728) ((V 3).tmod 256 * 32 % 4294967296)), ((V 3 / 256).tmod 8192), (V 3 / 2097152), 0, 0, 0, 0, 0, 0, 0, 0, 0, 0, 0, 0, 0, 0, 0, 0, 0, 0, 0, 0, 0, 0] := rfl
theorem st5 (V : Nat → Int) : u13s5 (V 4) [((V 0).tmod 8192), ((V 0 / 8192).tmod 8192), (bits .or .u32 (V 0 / 67108864) ((V 1).tmod 128 * 64 % 4294967296)), ((V 1 / 128).tmod 8192), (bits .or .u32 (V 1 / 1048576) ((V 2).tmod 2 * 4096 % 4294967296)), ((V 2 / 2).tmod 8192), ((V 2 / 16384).tmod 8192), (bits .or .u32 (V 2 / 134217728) ((V 3).tmod 256 * 32 % 4294967296)), ((V 3 / 256).tmod 8192), (V 3 / 2097152), 0, 0, 0, 0, 0, 0, 0, 0, 0, 0, 0, 0, 0, 0, 0, 0, 0, 0, 0, 0, 0, 0] = [((V 0).tmod 8192), ((V 0 / 8192).tmod 8192), (bits .or .u32 (V 0 / 67108864) ((V 1).tmod 128 * 64 % 4294967296)), ((V 1 / 128).tmod 8192), (bits .or .u32 (V 1 / 1048576) ((V 2).tmod 2 * 4096 % 4294967296)), ((V 2 / 2).tmod 8192), ((V 2 / 16384).tmod 8192), (bits .or .u32 (V 2 / 134217728) ((V 3).tmod 256 * 32 % 4294967296)), ((V 3 / 256).tmod 8192), (bits .or .u32 (V 3 / 2097152) ((V 4).tmod 4 * 2048 % 4294967296)), ((V 4 / 4).tmod 8192), ((V 4 / 32768).tmod 8192), (V 4 / 268435456), 0, 0, 0, 0, 0, 0, 0, 0, 0, 0, 0, 0, 0, 0, 0, 0, 0, 0, 0] := rfl
theorem st6 (V : Nat → Int) : u13s6 (V 5) [((V 0).tmod 8192), ((V 0 / 8192).tmod 8192), (bits .or .u32 (V 0 / 67108864) ((V 1).tmod 128 * 64 % 4294967296)), ((V 1 / 128).tmod 8192), (bits .or .u32 (V 1 / 1048576) ((V 2).tmod 2 * 4096 % 4294967296)), ((V 2 / 2).tmod 8192), ((V 2 / 16384).tmod 8192), (bits .or .u32 (V 2 / 134217728) ((V 3).tmod 256 * 32 % 4294967296)), ((V 3 / 256).tmod 8192), (bits .or .u32 (V 3 / 2097152) ((V 4).tmod 4 * 2048 % 4294967296)), ((V 4 / 4).tmod 8192), ((V 4 / 32768).tmod 8192), (V 4 / 268435456), 0, 0, 0, 0, 0, 0, 0, 0, 0, 0, 0, 0, 0, 0, 0, 0, 0, 0, 0] = [((V 0).tmod 8192), ((V 0 / 8192).tmod 8192), (bits .or .u32 (V 0 / 67108864) ((V 1).tmod 128 * 64 % 4294967296)), ((V 1 / 128).tmod 8192), (bits .or .u32 (V 1 / 1048576) ((V 2).tmod 2 * 4096 % 4294967296)), ((V 2 / 2).tmod 8192), ((V 2 / 16384).tmod 8192), (bits .or .u32 (V 2 / 134217728) ((V 3).tmod 256 * 32 % 4294967296)), ((V 3 / 256).tmod 8192), (bits .or .u32 (V 3 / 2097152) ((V 4).tmod 4 * 2048 % 4294967296)), ((V 4 / 4).tmod 8192), ((V 4 / 32768).tmod 8192), (bits .or .u32 (V 4 / 268435456) ((V 5).tmod 512 * 16 % 4294967296)), ((V 5 / 512).tmod 8192), (V 5 / 4194304), 0, 0, 0, 0, 0, 0, 0, 0, 0, 0, 0, 0, 0, 0, 0, 0, 0] := rfl
theorem st7 (V : Nat → Int) : u13s7 (V 6) [((V 0).tmod 8192), ((V 0 / 8192).tmod 8192), (bits .or .u32 (V 0 / 67108864) ((V 1).tmod 128 * 64 % 4294967296)), ((V 1 / 128).tmod 8192), (bits .or .u32 (V 1 / 1048576) ((V 2).tmod 2 * 4096 % 4294967296)), ((V 2 / 2).tmod 8192), ((V 2 / 16384).tmod 8192), (bits .or .u32 (V 2 / 134217728) ((V 3).tmod 256 * 32 % 4294967296)), ((V 3 / 256).tmod 8192), (bits .or .u32 (V 3 / 2097152) ((V 4).tmod 4 * 2048 % 4294967296)), ((V 4 / 4).tmod 8192), ((V 4 / 32768).tmod 8192), (bits .or .u32 (V 4 / 268435456) ((V 5).tmod 512 * 16 % 4294967296)), ((V 5 / 512).tmod 8192), (V 5 / 4194304), 0, 0, 0, 0, 0, 0, 0, 0, 0, 0, 0, 0, 0, 0, 0, 0, 0] = [((V 0).tmod 8192), ((V 0 / 8192).tmod 8192), (bits .or .u32 (V 0 / 67108864) ((V 1).tmod 128 * 64 % 4294967296)), ((V 1 / 128).tmod 8192), (bits .or .u32 (V 1 / 1048576) ((V 2).tmod 2 * 4096 % 4294967296)), ((V 2 / 2).tmod 8192), ((V 2 / 16384).tmod 8192), (bits .or .u32 (V 2 / 134217728) ((V 3).tmod 256 * 32 % 4294967296)), ((V 3 / 256).tmod 8192), (bits .or .u32 (V 3 / 2097152) ((V 4).tmod 4 * 2048 % 4294967296)), ((V 4 / 4).tmod 8192), ((V 4 / 32768).tmod 8192), (bits .or .u32 (V 4 / 268435456) ((V 5).tmod 512 * 16 % 4294967296)), ((V 5 / 512).tmod 8192), (bits .or .u32 (V 5 / 4194304) ((V 6).tmod 8 * 1024 % 4294967296)), ((V 6 / 8).tmod 8192), ((V 6 / 65536).tmod 8192), (V 6 / 536870912), 0, 0, 0, 0, 0, 0, 0, 0, 0, 0, 0, 0, 0, 0] := rfl
theorem st8 (V : Nat → Int) : u13s8 (V 7) [((V 0).tmod 8192), ((V 0 / 8192).tmod 8192), (bits .or .u32 (V 0 / 67108864) ((V 1).tmod 128 * 64 % 4294967296)), ((V 1 / 128).tmod 8192), (bits .or .u32 (V 1 / 1048576) ((V 2).tmod 2 * 4096 % 4294967296)), ((V 2 / 2).tmod 8192), ((V 2 / 16384).tmod 8192), (bits .or .u32 (V 2 / 134217728) ((V 3).tmod 256 * 32 % 4294967296)), ((V 3 / 256).tmod 8192), (bits .or .u32 (V 3 / 2097152) ((V 4).tmod 4 * 2048 % 4294967296)), ((V 4 / 4).tmod 8192), ((V 4 / 32768).tmod 8192), (bits .or .u32 (V 4 / 268435456) ((V 5).tmod 512 * 16 % 4294967296)), ((V 5 / 512).tmod 8192), (bits .or .u32 (V 5 / 4194304) ((V 6).tmod 8 * 1024 % 4294967296)), ((V 6 / 8).tmod 8192), ((V 6 / 65536).tmod 8192), (V 6 / 536870912), 0, 0, 0, 0, 0, 0, 0, 0, 0, 0, 0, 0, 0, 0] = [((V 0).tmod 8192), ((V 0 / 8192).tmod 8192), (bits .or .u32 (V 0 / 67108864) ((V 1).tmod 128 * 64 % 4294967296)), ((V 1 / 128).tmod 8192), (bits .or .u32 (V 1 / 1048576) ((V 2).tmod 2 * 4096 % 4294967296)), ((V 2 / 2).tmod 8192), ((V 2 / 16384).tmod 8192), (bits .or .u32 (V 2 / 134217728) ((V 3).tmod 256 * 32 % 4294967296)), ((V 3 / 256).tmod 8192), (bits .or .u32 (V 3 / 2097152) ((V 4).tmod 4 * 2048 % 4294967296)), ((V 4 / 4).tmod 8192), ((V 4 / 32768).tmod 8192), (bits .or .u32 (V 4 / 268435456) ((V 5).tmod 512 * 16 % 4294967296)), ((V 5 / 512).tmod 8192), (bits .or .u32 (V 5 / 4194304) ((V 6).tmod 8 * 1024 % 4294967296)), ((V 6 / 8).tmod 8192), ((V 6 / 65536).tmod 8192), (bits .or .u32 (V 6 / 536870912) ((V 7).tmod 1024 * 8 % 4294967296)), ((V 7 / 1024).tmod 8192), (V 7 / 8388608), 0, 0, 0, 0, 0, 0, 0, 0, 0, 0, 0, 0] := rfl
theorem st9 (V : Nat → Int) : u13s9 (V 8) [((V 0).tmod 8192), ((V 0 / 8192).tmod 8192), (bits .or .u32 (V 0 / 67108864) ((V 1).tmod 128 * 64 % 4294967296)), ((V 1 / 128).tmod 8192), (bits .or .u32 (V 1 / 1048576) ((V 2).tmod 2 * 4096 % 4294967296)), ((V 2 / 2).tmod 8192), ((V 2 / 16384).tmod 8192), (bits .or .u32 (V 2 / 134217728) ((V 3).tmod 256 * 32 % 4294967296)), ((V 3 / 256).tmod 8192), (bits .or .u32 (V 3 / 2097152) ((V 4).tmod 4 * 2048 % 4294967296)), ((V 4 / 4).tmod 8192), ((V 4 / 32768).tmod 8192), (bits .or .u32 (V 4 / 268435456) ((V 5).tmod 512 * 16 % 4294967296)), ((V 5 / 512).tmod 8192), (bits .or .u32 (V 5 / 4194304) ((V 6).tmod 8 * 1024 % 4294967296)), ((V 6 / 8).tmod 8192), ((V 6 / 65536).tmod 8192), (bits .or .u32 (V 6 / 536870912) ((V 7).tmod 1024 * 8 % 4294967296)), ((V 7 / 1024).tmod 8192), (V 7 / 8388608), 0, 0, 0, 0, 0, 0, 0, 0, 0, 0, 0, 0] = [((V 0).tmod 8192), ((V 0 / 8192).tmod 8192), (bits .or .u32 (V 0 / 67108864) ((V 1).tmod 128 * 64 % 4294967296)), ((V 1 / 128).tmod 8192), (bits .or .u32 (V 1 / 1048576) ((V 2).tmod 2 * 4096 % 4294967296)), ((V 2 / 2).tmod 8192), ((V 2 / 16384).tmod 8192), (bits .or .u32 (V 2 / 134217728) ((V 3).tmod 256 * 32 % 4294967296)), ((V 3 / 256).tmod 8192), (bits .or .u32 (V 3 / 2097152) ((V 4).tmod 4 * 2048 % 4294967296)), ((V 4 / 4).tmod 8192), ((V 4 / 32768).tmod 8192), (bits .or .u32 (V 4 / 268435456) ((V 5).tmod 512 * 16 % 4294967296)), ((V 5 / 512).tmod 8192), (bits .or .u32 (V 5 / 4194304) ((V 6).tmod 8 * 1024 % 4294967296)), ((V 6 / 8).tmod 8192), ((V 6 / 65536).tmod 8192), (bits .or .u32 (V 6 / 536870912) ((V 7).tmod 1024 * 8 % 4294967296)), ((V 7 / 1024).tmod 8192), (bits .or .u32 (V 7 / 8388608) ((V 8).tmod 16 * 512 % 4294967296)), ((V 8 / 16).tmod 8192), ((V 8 / 131072).tmod 8192), (V 8 / 1073741824), 0, 0, 0, 0, 0, 0, 0, 0, 0] := rfl
theorem st10 (V : Nat → Int) : u13s10 (V 9) [((V 0).tmod 8192), ((V 0 / 8192).tmod 8192), (bits .or .u32 (V 0 / 67108864) ((V 1).tmod 128 * 64 % 4294967296)), ((V 1 / 128).tmod 8192), (bits .or .u32 (V 1 / 1048576) ((V 2).tmod 2 * 4096 % 4294967296)), ((V 2 / 2).tmod 8192), ((V 2 / 16384).tmod 8192), (bits .or .u32 (V 2 / 134217728) ((V 3).tmod 256 * 32 % 4294967296)), ((V 3 / 256).tmod 8192), (bits .or .u32 (V 3 / 2097152) ((V 4).tmod 4 * 2048 % 4294967296)), ((V 4 / 4).tmod 8192), ((V 4 / 32768).tmod 8192), (bits .or .u32 (V 4 / 268435456) ((V 5).tmod 512 * 16 % 4294967296)), ((V 5 / 512).tmod 8192), (bits .or .u32 (V 5 / 4194304) ((V 6).tmod 8 * 1024 % 4294967296)), ((V 6 / 8).tmod 8192), ((V 6 / 65536).tmod 8192), (bits .or .u32 (V 6 / 536870912) ((V 7).tmod 1024 * 8 % 4294967296)), ((V 7 / 1024).tmod 8192), (bits .or .u32 (V 7 / 8388608) ((V 8).tmod 16 * 512 % 4294967296)), ((V 8 / 16).tmod 8192), ((V 8 / 131072).tmod 8192), (V 8 / 1073741824), 0, 0, 0, 0, 0, 0, 0, 0, 0] = [((V 0).tmod 8192), ((V 0 / 8192).tmod 8192), (bits .or .u32 (V 0 / 67108864) ((V 1).tmod 128 * 64 % 4294967296)), ((V 1 / 128).tmod 8192), (bits .or .u32 (V 1 / 1048576) ((V 2).tmod 2 * 4096 % 4294967296)), ((V 2 / 2).tmod 8192), ((V 2 / 16384).tmod 8192), (bits .or .u32 (V 2 / 134217728) ((V 3).tmod 256 * 32 % 4294967296)), ((V 3 / 256).tmod 8192), (bits .or .u32 (V 3 / 2097152) ((V 4).tmod 4 * 2048 % 4294967296)), ((V 4 / 4).tmod 8192), ((V 4 / 32768).tmod 8192), (bits .or .u32 (V 4 / 268435456) ((V 5).tmod 512 * 16 % 4294967296)), ((V 5 / 512).tmod 8192), (bits .or .u32 (V 5 / 4194304) ((V 6).tmod 8 * 1024 % 4294967296)), ((V 6 / 8).tmod 8192), ((V 6 / 65536).tmod 8192), (bits .or .u32 (V 6 / 536870912) ((V 7).tmod 1024 * 8 % 4294967296)), ((V 7 / 1024).tmod 8192), (bits .or .u32 (V 7 / 8388608) ((V 8).tmod 16 * 512 % 4294967296)), ((V 8 / 16).tmod 8192), ((V 8 / 131072).tmod 8192), (bits .or .u32 (V 8 / 1073741824) ((V 9).tmod 2048 * 4 % 4294967296)), ((V 9 / 2048).tmod 8192), (V 9 / 16777216), 0, 0, 0, 0, 0, 0, 0] := rfl
theorem st11 (V : Nat → Int) : u13s11 (V 10) [((V 0).tmod 8192), ((V 0 / 8192).tmod 8192), (bits .or .u32 (V 0 / 67108864) ((V 1).tmod 128 * 64 % 4294967296)), ((V 1 / 128).tmod 8192), (bits .or .u32 (V 1 / 1048576) ((V 2).tmod 2 * 4096 % 4294967296)), ((V 2 / 2).tmod 8192), ((V 2 / 16384).tmod 8192), (bits .or .u32 (V 2 / 134217728) ((V 3).tmod 256 * 32 % 4294967296)), ((V 3 / 256).tmod 8192), (bits .or .u32 (V 3 / 2097152) ((V 4).tmod 4 * 2048 % 4294967296)), ((V 4 / 4).tmod 8192), ((V 4 / 32768).tmod 8192), (bits .or .u32 (V 4 / 268435456) ((V 5).tmod 512 * 16 % 4294967296)), ((V 5 / 512).tmod 8192), (bits .or .u32 (V 5 / 4194304) ((V 6).tmod 8 * 1024 % 4294967296)), ((V 6 / 8).tmod 8192), ((V 6 / 65536).tmod 8192), (bits .or .u32 (V 6 / 536870912) ((V 7).tmod 1024 * 8 % 4294967296)), ((V 7 / 1024).tmod 8192), (bits .or .u32 (V 7 / 8388608) ((V 8).tmod 16 * 512 % 4294967296)), ((V 8 / 16).tmod 8192), ((V 8 / 131072).tmod 8192), (bits .or .u32 (V 8 / 1073741824) ((V 9).tmod 2048 * 4 % 4294967296)), ((V 9 / 2048).tmod 8192), (V 9 / 16777216), 0, 0, 0, 0, 0, 0, 0] = [((V 0).tmod 8192), ((V 0 / 8192).tmod 8192), (bits .or .u32 (V 0 / 67108864) ((V 1).tmod 128 * 64 % 4294967296)), ((V 1 / 128).tmod 8192), (bits .or .u32 (V 1 / 1048576) ((V 2).tmod 2 * 4096 % 4294967296)), ((V 2 / 2).tmod 8192), ((V 2 / 16384).tmod 8192), (bits .or .u32 (V 2 / 134217728) ((V 3).tmod 256 * 32 % 4294967296)), ((V 3 / 256).tmod 8192), (bits .or .u32 (V 3 / 2097152) ((V 4).tmod 4 * 2048 % 4294967296)), ((V 4 / 4).tmod 8192), ((V 4 / 32768).tmod 8192), (bits .or .u32 (V 4 / 268435456) ((V 5).tmod 512 * 16 % 4294967296)), ((V 5 / 512).tmod 8192), (bits .or .u32 (V 5 / 4194304) ((V 6).tmod 8 * 1024 % 4294967296)), ((V 6 / 8).tmod 8192), ((V 6 / 65536).tmod 8192), (bits .or .u32 (V 6 / 536870912) ((V 7).tmod 1024 * 8 % 4294967296)), ((V 7 / 1024).tmod 8192), (bits .or .u32 (V 7 / 8388608) ((V 8).tmod 16 * 512 % 4294967296)), ((V 8 / 16).tmod 8192), ((V 8 / 131072).tmod 8192), (bits .or .u32 (V 8 / 1073741824) ((V 9).tmod 2048 * 4 % 4294967296)), ((V 9 / 2048).tmod 8192), (bits .or .u32 (V 9 / 16777216) ((V 10).tmod 32 * 256 % 4294967296)), ((V 10 / 32).tmod 8192), ((V 10 / 262144).tmod 8192), (V 10 / 2147483648), 0, 0, 0, 0] := rfl
theorem st12 (V : Nat → Int) : u13s12 (V 11) [((V 0).tmod 8192), ((V 0 / 8192).tmod 8192), (bits .or .u32 (V 0 / 67108864) ((V 1).tmod 128 * 64 % 4294967296)), ((V 1 / 128).tmod 8192), (bits .or .u32 (V 1 / 1048576) ((V 2).tmod 2 * 4096 % 4294967296)), ((V 2 / 2).tmod 8192), ((V 2 / 16384).tmod 8192), (bits .or .u32 (V 2 / 134217728) ((V 3).tmod 256 * 32 % 4294967296)), ((V 3 / 256).tmod 8192), (bits .or .u32 (V 3 / 2097152) ((V 4).tmod 4 * 2048 % 4294967296)), ((V 4 / 4).tmod 8192), ((V 4 / 32768).tmod 8192), (bits .or .u32 (V 4 / 268435456) ((V 5).tmod 512 * 16 % 4294967296)), ((V 5 / 512).tmod 8192), (bits .or .u32 (V 5 / 4194304) ((V 6).tmod 8 * 1024 % 4294967296)), ((V 6 / 8).tmod 8192), ((V 6 / 65536).tmod 8192), (bits .or .u32 (V 6 / 536870912) ((V 7).tmod 1024 * 8 % 4294967296)), ((V 7 / 1024).tmod 8192), (bits .or .u32 (V 7 / 8388608) ((V 8).tmod 16 * 512 % 4294967296)), ((V 8 / 16).tmod 8192), ((V 8 / 131072).tmod 8192), (bits .or .u32 (V 8 / 1073741824) ((V 9).tmod 2048 * 4 % 4294967296)), ((V 9 / 2048).tmod 8192), (bits .or .u32 (V 9 / 16777216) ((V 10).tmod 32 * 256 % 4294967296)), ((V 10 / 32).tmod 8192), ((V 10 / 262144).tmod 8192), (V 10 / 2147483648), 0, 0, 0, 0] = [((V 0).tmod 8192), ((V 0 / 8192).tmod 8192), (bits .or .u32 (V 0 / 67108864) ((V 1).tmod 128 * 64 % 4294967296)), ((V 1 / 128).tmod 8192), (bits .or .u32 (V 1 / 1048576) ((V 2).tmod 2 * 4096 % 4294967296)), ((V 2 / 2).tmod 8192), ((V 2 / 16384).tmod 8192), (bits .or .u32 (V 2 / 134217728) ((V 3).tmod 256 * 32 % 4294967296)), ((V 3 / 256).tmod 8192), (bits .or .u32 (V 3 / 2097152) ((V 4).tmod 4 * 2048 % 4294967296)), ((V 4 / 4).tmod 8192), ((V 4 / 32768).tmod 8192), (bits .or .u32 (V 4 / 268435456) ((V 5).tmod 512 * 16 % 4294967296)), ((V 5 / 512).tmod 8192), (bits .or .u32 (V 5 / 4194304) ((V 6).tmod 8 * 1024 % 4294967296)), ((V 6 / 8).tmod 8192), ((V 6 / 65536).tmod 8192), (bits .or .u32 (V 6 / 536870912) ((V 7).tmod 1024 * 8 % 4294967296)), ((V 7 / 1024).tmod 8192), (bits .or .u32 (V 7 / 8388608) ((V 8).tmod 16 * 512 % 4294967296)), ((V 8 / 16).tmod 8192), ((V 8 / 131072).tmod 8192), (bits .or .u32 (V 8 / 1073741824) ((V 9).tmod 2048 * 4 % 4294967296)), ((V 9 / 2048).tmod 8192), (bits .or .u32 (V 9 / 16777216) ((V 10).tmod 32 * 256 % 4294967296)), ((V 10 / 32).tmod 8192), ((V 10 / 262144).tmod 8192), (bits .or .u32 (V 10 / 2147483648) ((V 11).tmod 4096 * 2 % 4294967296)), ((V 11 / 4096).tmod 8192), (V 11 / 33554432), 0, 0] := rfl
theorem st13 (V : Nat → Int) : u13s13 (V 12) [((V 0).tmod 8192), ((V 0 / 8192).tmod 8192), (bits .or .u32 (V 0 / 67108864) ((V 1).tmod 128 * 64 % 4294967296)), ((V 1 / 128).tmod 8192), (bits .or .u32 (V 1 / 1048576) ((V 2).tmod 2 * 4096 % 4294967296)), ((V 2 / 2).tmod 8192), ((V 2 / 16384).tmod 8192), (bits .or .u32 (V 2 / 134217728) ((V 3).tmod 256 * 32 % 4294967296)), ((V 3 / 256).tmod 8192), (bits .or .u32 (V 3 / 2097152) ((V 4).tmod 4 * 2048 % 4294967296)), ((V 4 / 4).tmod 8192), ((V 4 / 32768).tmod 8192), (bits .or .u32 (V 4 / 268435456) ((V 5).tmod 512 * 16 % 4294967296)), ((V 5 / 512).tmod 8192), (bits .or .u32 (V 5 / 4194304) ((V 6).tmod 8 * 1024 % 4294967296)), ((V 6 / 8).tmod 8192), ((V 6 / 65536).tmod 8192), (bits .or .u32 (V 6 / 536870912) ((V 7).tmod 1024 * 8 % 4294967296)), ((V 7 / 1024).tmod 8192), (bits .or .u32 (V 7 / 8388608) ((V 8).tmod 16 * 512 % 4294967296)), ((V 8 / 16).tmod 8192), ((V 8 / 131072).tmod 8192), (bits .or .u32 (V 8 / 1073741824) ((V 9).tmod 2048 * 4 % 4294967296)), ((V 9 / 2048).tmod 8192), (bits .or .u32 (V 9 / 16777216) ((V 10).tmod 32 * 256 % 4294967296)), ((V 10 / 32).tmod 8192), ((V 10 / 262144).tmod 8192), (bits .or .u32 (V 10 / 2147483648) ((V 11).tmod 4096 * 2 % 4294967296)), ((V 11 / 4096).tmod 8192), (V 11 / 33554432), 0, 0] = [((V 0).tmod 8192), ((V 0 / 8192).tmod 8192), (bits .or .u32 (V 0 / 67108864) ((V 1).tmod 128 * 64 % 4294967296)), ((V 1 / 128).tmod 8192), (bits .or .u32 (V 1 / 1048576) ((V 2).tmod 2 * 4096 % 4294967296)), ((V 2 / 2).tmod 8192), ((V 2 / 16384).tmod 8192), (bits .or .u32 (V 2 / 134217728) ((V 3).tmod 256 * 32 % 4294967296)), ((V 3 / 256).tmod 8192), (bits .or .u32 (V 3 / 2097152) ((V 4).tmod 4 * 2048 % 4294967296)), ((V 4 / 4).tmod 8192), ((V 4 / 32768).tmod 8192), (bits .or .u32 (V 4 / 268435456) ((V 5).tmod 512 * 16 % 4294967296)), ((V 5 / 512).tmod 8192), (bits .or .u32 (V 5 / 4194304) ((V 6).tmod 8 * 1024 % 4294967296)), ((V 6 / 8).tmod 8192), ((V 6 / 65536).tmod 8192), (bits .or .u32 (V 6 / 536870912) ((V 7).tmod 1024 * 8 % 4294967296)), ((V 7 / 1024).tmod 8192), (bits .or .u32 (V 7 / 8388608) ((V 8).tmod 16 * 512 % 4294967296)), ((V 8 / 16).tmod 8192), ((V 8 / 131072).tmod 8192), (bits .or .u32 (V 8 / 1073741824) ((V 9).tmod 2048 * 4 % 4294967296)), ((V 9 / 2048).tmod 8192), (bits .or .u32 (V 9 / 16777216) ((V 10).tmod 32 * 256 % 4294967296)), ((V 10 / 32).tmod 8192), ((V 10 / 262144).tmod 8192), (bits .or .u32 (V 10 / 2147483648) ((V 11).tmod 4096 * 2 % 4294967296)), ((V 11 / 4096).tmod 8192), (bits .or .u32 (V 11 / 33554432) ((V 12).tmod 64 * 128 % 4294967296)), ((V 12 / 64).tmod 8192), (V 12 / 524288)] := rfl
theorem un_eq (V : Nat → Int) : un13f V (List.replicate 32 0) = [((V 0).tmod 8192), ((V 0 / 8192).tmod 8192), (bits .or .u32 (V 0 / 67108864) ((V 1).tmod 128 * 64 % 4294967296)), ((V 1 / 128).tmod 8192), (bits .or .u32 (V 1 / 1048576) ((V 2).tmod 2 * 4096 % 4294967296)), ((V 2 / 2).tmod 8192), ((V 2 / 16384).tmod 8192), (bits .or .u32 (V 2 / 134217728) ((V 3).tmod 256 * 32 % 4294967296)), ((V 3 / 256).tmod 8192), (bits .or .u32 (V 3 / 2097152) ((V 4).tmod 4 * 2048 % 4294967296)), ((V 4 / 4).tmod 8192), ((V 4 / 32768).tmod 8192), (bits .or .u32 (V 4 / 268435456) ((V 5).tmod 512 * 16 % 4294967296)), ((V 5 / 512).tmod 8192), (bits .or .u32 (V 5 / 4194304) ((V 6).tmod 8 * 1024 % 4294967296)), ((V 6 / 8).tmod 8192), ((V 6 / 65536).tmod 8192), (bits .or .u32 (V 6 / 536870912) ((V 7).tmod 1024 * 8 % 4294967296)), ((V 7 / 1024).tmod 8192), (bits .or .u32 (V 7 / 8388608) ((V 8).tmod 16 * 512 % 4294967296)), ((V 8 / 16).tmod 8192), ((V 8 / 131072).tmod 8192), (bits .or .u32 (V 8 / 1073741824) ((V 9).tmod 2048 * 4 % 4294967296)), ((V 9 / 2048).tmod 8192), (bits .or .u32 (V 9 / 16777216) ((V 10).tmod 32 * 256 % 4294967296)), ((V 10 / 32).tmod 8192), ((V 10 / 262144).tmod 8192), (bits .or .u32 (V 10 / 2147483648) ((V 11).tmod 4096 * 2 % 4294967296)), ((V 11 / 4096).tmod 8192), (bits .or .u32 (V 11 / 33554432) ((V 12).tmod 64 * 128 % 4294967296)), ((V 12 / 64).tmod 8192), (V 12 / 524288)] := by
  unfold un13f
  rw [show List.replicate 32 (0 : Int) = [0, 0, 0, 0, 0, 0, 0, 0, 0, 0, 0, 0, 0, 0, 0, 0, 0, 0, 0, 0, 0, 0, 0, 0, 0, 0, 0, 0, 0, 0, 0, 0] from rfl, st1, st2, st3, st4, st5, st6, st7, st8, st9, st10, st11, st12, st13]
set_option maxRecDepth 100000 in
theorem un_fld (V : Nat → Int) (X : Nat) (hV : ∀ j : Nat, j < 13 → V j = ((wd X j : Nat) : Int)) : un13f V (List.replicate 32 0) = upTo 13 X (32 * 13) := by
  have e0 : ((V 0).tmod 8192) = ((fld 13 X 0 : Nat) : Int) := f0 _ (hV 0 (by decide)) (by decide) (by decide) (by decide)
  have e1 : ((V 0 / 8192).tmod 8192) = ((fld 13 X 1 : Nat) : Int) := f1 13 _ _ (hV 0 (by decide)) (by decide) (by decide) (by decide) (by decide)
  have e2 : (bits .or .u32 (V 0 / 67108864) ((V 1).tmod 128 * 64 % 4294967296)) = ((fld 13 X 2 : Nat) : Int) := f3 26 _ _ _ (hV 0 (by decide)) (hV 1 (by decide)) (by decide) (by decide) (by decide) (by decide) (by decide) (by decide) (by decide)
  have e3 : ((V 1 / 128).tmod 8192) = ((fld 13 X 3 : Nat) : Int) := f1 7 _ _ (hV 1 (by decide)) (by decide) (by decide) (by decide) (by decide)
  have e4 : (bits .or .u32 (V 1 / 1048576) ((V 2).tmod 2 * 4096 % 4294967296)) = ((fld 13 X 4 : Nat) : Int) := f3 20 _ _ _ (hV 1 (by decide)) (hV 2 (by decide)) (by decide) (by decide) (by decide) (by decide) (by decide) (by decide) (by decide)
  have e5 : ((V 2 / 2).tmod 8192) = ((fld 13 X 5 : Nat) : Int) := f1 1 _ _ (hV 2 (by decide)) (by decide) (by decide) (by decide) (by decide)
  have e6 : ((V 2 / 16384).tmod 8192) = ((fld 13 X 6 : Nat) : Int) := f1 14 _ _ (hV 2 (by decide)) (by decide) (by decide) (by decide) (by decide)
  have e7 : (bits .or .u32 (V 2 / 134217728) ((V 3).tmod 256 * 32 % 4294967296)) = ((fld 13 X 7 : Nat) : Int) := f3 27 _ _ _ (hV 2 (by decide)) (hV 3 (by decide)) (by decide) (by decide) (by decide) (by decide) (by decide) (by decide) (by decide)
  have e8 : ((V 3 / 256).tmod 8192) = ((fld 13 X 8 : Nat) : Int) := f1 8 _ _ (hV 3 (by decide)) (by decide) (by decide) (by decide) (by decide)
  have e9 : (bits .or .u32 (V 3 / 2097152) ((V 4).tmod 4 * 2048 % 4294967296)) = ((fld 13 X 9 : Nat) : Int) := f3 21 _ _ _ (hV 3 (by decide)) (hV 4 (by decide)) (by decide) (by decide) (by decide) (by decide) (by decide) (by decide) (by decide)
  have e10 : ((V 4 / 4).tmod 8192) = ((fld 13 X 10 : Nat) : Int) := f1 2 _ _ (hV 4 (by decide)) (by decide) (by decide) (by decide) (by decide)
  have e11 : ((V 4 / 32768).tmod 8192) = ((fld 13 X 11 : Nat) : Int) := f1 15 _ _ (hV 4 (by decide)) (by decide) (by decide) (by decide) (by decide)
  have e12 : (bits .or .u32 (V 4 / 268435456) ((V 5).tmod 512 * 16 % 4294967296)) = ((fld 13 X 12 : Nat) : Int) := f3 28 _ _ _ (hV 4 (by decide)) (hV 5 (by decide)) (by decide) (by decide) (by decide) (by decide) (by decide) (by decide) (by decide)
  have e13 : ((V 5 / 512).tmod 8192) = ((fld 13 X 13 : Nat) : Int) := f1 9 _ _ (hV 5 (by decide)) (by decide) (by decide) (by decide) (by decide)
  have e14 : (bits .or .u32 (V 5 / 4194304) ((V 6).tmod 8 * 1024 % 4294967296)) = ((fld 13 X 14 : Nat) : Int) := f3 22 _ _ _ (hV 5 (by decide)) (hV 6 (by decide)) (by decide) (by decide) (by decide) (by decide) (by decide) (by decide) (by decide)
  have e15 : ((V 6 / 8).tmod 8192) = ((fld 13 X 15 : Nat) : Int) := f1 3 _ _ (hV 6 (by decide)) (by decide) (by decide) (by decide) (by decide)
  have e16 : ((V 6 / 65536).tmod 8192) = ((fld 13 X 16 : Nat) : Int) := f1 16 _ _ (hV 6 (by decide)) (by decide) (by decide) (by decide) (by decide)
  have e17 : (bits .or .u32 (V 6 / 536870912) ((V 7).tmod 1024 * 8 % 4294967296)) = ((fld 13 X 17 : Nat) : Int) := f3 29 _ _ _ (hV 6 (by decide)) (hV 7 (by decide)) (by decide) (by decide) (by decide) (by decide) (by decide) (by decide) (by decide)
  have e18 : ((V 7 / 1024).tmod 8192) = ((fld 13 X 18 : Nat) : Int) := f1 10 _ _ (hV 7 (by decide)) (by decide) (by decide) (by decide) (by decide)
  have e19 : (bits .or .u32 (V 7 / 8388608) ((V 8).tmod 16 * 512 % 4294967296)) = ((fld 13 X 19 : Nat) : Int) := f3 23 _ _ _ (hV 7 (by decide)) (hV 8 (by decide)) (by decide) (by decide) (by decide) (by decide) (by decide) (by decide) (by decide)
  have e20 : ((V 8 / 16).tmod 8192) = ((fld 13 X 20 : Nat) : Int) := f1 4 _ _ (hV 8 (by decide)) (by decide) (by decide) (by decide) (by decide)
  have e21 : ((V 8 / 131072).tmod 8192) = ((fld 13 X 21 : Nat) : Int) := f1 17 _ _ (hV 8 (by decide)) (by decide) (by decide) (by decide) (by decide)
  have e22 : (bits .or .u32 (V 8 / 1073741824) ((V 9).tmod 2048 * 4 % 4294967296)) = ((fld 13 X 22 : Nat) : Int) := f3 30 _ _ _ (hV 8 (by decide)) (hV 9 (by decide)) (by decide) (by decide) (by decide) (by decide) (by decide) (by decide) (by decide)
  have e23 : ((V 9 / 2048).tmod 8192) = ((fld 13 X 23 : Nat) : Int) := f1 11 _ _ (hV 9 (by decide)) (by decide) (by decide) (by decide) (by decide)
  have e24 : (bits .or .u32 (V 9 / 16777216) ((V 10).tmod 32 * 256 % 4294967296)) = ((fld 13 X 24 : Nat) : Int) := f3 24 _ _ _ (hV 9 (by decide)) (hV 10 (by decide)) (by decide) (by decide) (by decide) (by decide) (by decide) (by decide) (by decide)
  have e25 : ((V 10 / 32).tmod 8192) = ((fld 13 X 25 : Nat) : Int) := f1 5 _ _ (hV 10 (by decide)) (by decide) (by decide) (by decide) (by decide)
  have e26 : ((V 10 / 262144).tmod 8192) = ((fld 13 X 26 : Nat) : Int) := f1 18 _ _ (hV 10 (by decide)) (by decide) (by decide) (by decide) (by decide)
  have e27 : (bits .or .u32 (V 10 / 2147483648) ((V 11).tmod 4096 * 2 % 4294967296)) = ((fld 13 X 27 : Nat) : Int) := f3 31 _ _ _ (hV 10 (by decide)) (hV 11 (by decide)) (by decide) (by decide) (by decide) (by decide) (by decide) (by decide) (by decide)
  have e28 : ((V 11 / 4096).tmod 8192) = ((fld 13 X 28 : Nat) : Int) := f1 12 _ _ (hV 11 (by decide)) (by decide) (by decide) (by decide) (by decide)
  have e29 : (bits .or .u32 (V 11 / 33554432) ((V 12).tmod 64 * 128 % 4294967296)) = ((fld 13 X 29 : Nat) : Int) := f3 25 _ _ _ (hV 11 (by decide)) (hV 12 (by decide)) (by decide) (by decide) (by decide) (by decide) (by decide) (by decide) (by decide)
  have e30 : ((V 12 / 64).tmod 8192) = ((fld 13 X 30 : Nat) : Int) := f1 6 _ _ (hV 12 (by decide)) (by decide) (by decide) (by decide) (by decide)
  have e31 : (V 12 / 524288) = ((fld 13 X 31 : Nat) : Int) := f2 19 _ (hV 12 (by decide)) (by decide) (by decide) (by decide)
  rw [upTo_all, un_eq, e0, e1, e2, e3, e4, e5, e6, e7, e8, e9, e10, e11, e12, e13, e14, e15, e16, e17, e18, e19, e20, e21, e22, e23, e24, e25, e26, e27, e28, e29, e30, e31]
  rfl

theorem shl_nat (b t : Nat) (hb : b < 2) (ht : t < 32) : shl .u64 (b : Int) (t : Int) = ((b * 2 ^ t : Nat) : Int) := by
  have h1 : 2 ^ t ≤ 2 ^ 31 := Nat.pow_le_pow_right (by decide) (by omega)
  have h2 : b * 2 ^ t ≤ 1 * 2 ^ 31 := Nat.mul_le_mul (by omega) h1
  unfold shl
  rw [Int.toNat_natCast, Nat.min_eq_left (show t ≤ IntKind.u64.bits from Nat.le_trans (Nat.le_of_lt ht) (by decide)), show (2 : Int) ^ t = ((2 ^ t : Nat) : Int) by simp, ← Int.natCast_mul, IntKind.wrap_u64]
  generalize b * 2 ^ t = y at h2 ⊢
  omega

theorem wrap_nat (n : Nat) (h : n < 9223372036854775808) : wrap64 (n : Int) = (n : Int) := by unfold wrap64; omega

theorem x1 (i : Nat) (h : i < 32 * 13) : wrap64 (Int.tdiv (i : Int) 13) = ((i / 13 : Nat) : Int) := wrap_nat (i / 13) (by omega)
theorem x2 (i : Nat) (h : i < 32 * 13) : wrap64 (0 + (i : Int)) = (i : Int) := by rw [Int.zero_add]; exact wrap_nat _ (by omega)
theorem x3 (i : Nat) (h : i < 32 * 13) : wrap64 (Int.tdiv (i : Int) 8) = ((i / 8 : Nat) : Int) := wrap_nat (i / 8) (by omega)
theorem x4 (i : Nat) : Int.tmod (i : Int) 8 = ((i % 8 : Nat) : Int) := rfl
theorem x5 (i : Nat) : Int.tmod (i : Int) 13 = ((i % 13 : Nat) : Int) := rfl
theorem x6 : wrap64 ((32 : Int) * 13) = ((32 * 13 : Nat) : Int) := by unfold wrap64; omega
theorem x7 (i : Nat) (h : i < 32 * 13) : wrap64 ((i : Int) + 1) = ((i + 1 : Nat) : Int) := wrap_nat (i + 1) (by omega)

set_option maxRecDepth 100000 in
theorem spec_loop (l : List Int) (hb : Bytes l) (hl : l.length = 52) (d : Nat) : ∀ k i : Nat, i + d = 32 * 13 → d < k → spec_UnpackBits.l0 k l 0 13 32 (upTo 13 (num l) i) (i : Int) = some (upTo 13 (num l) (32 * 13), true) := by
  induction d with
  | zero =>
    intro k i hi hk
    obtain ⟨k, rfl⟩ : ∃ m, k = m + 1 := ⟨k - 1, by omega⟩
    simp only [spec_UnpackBits.l0]
    rw [if_neg (by unfold wrap64; omega), show i = 32 * 13 by omega]
  | succ d ih =>
    intro k i hi hk
    obtain ⟨k, rfl⟩ : ∃ m, k = m + 1 := ⟨k - 1, by omega⟩
    have h1 : i < 32 * 13 := by omega
    have h2 : i / 8 < 52 := by omega
    have h3 : i < 8 * l.length := by omega
    have hm : i / 13 < 32 := by omega
    have hq : i % 13 < 32 := by omega
    simp only [spec_UnpackBits.l0]
    rw [x6, if_pos (Int.ofNat_lt.2 h1), if_neg (by decide), x1 i h1, if_pos (Int.natCast_nonneg _), upTo_len, if_pos (Int.ofNat_lt.2 hm), x2 i h1, x3 i h1, if_pos (Int.natCast_nonneg _), hl, if_pos (Int.ofNat_lt.2 h2), x4 i, if_pos (Int.natCast_nonneg _), x5 i, if_pos (Int.natCast_nonneg _), x7 i h1,
      num_bit hb h3, shl_nat _ _ (Nat.mod_lt _ (by decide)) hq, upTo_rd _ _ _ _ hm, bits_or_u64_nat _ _ ?_ ?_, Int.toNat_natCast, upTo_next 13 (num l) i (by decide) h1]
    · exact ih k (i + 1) (by omega) (by omega)
    · unfold fld
      exact Nat.lt_of_lt_of_le (Nat.mod_lt _ (Nat.two_pow_pos _)) (by decide)
    · have h4 : 2 ^ (i % 13) ≤ 2 ^ 31 := Nat.pow_le_pow_right (by decide) (by omega)
      have h2 : num l / 2 ^ i % 2 * 2 ^ (i % 13) ≤ 1 * 2 ^ 31 := Nat.mul_le_mul (Nat.le_of_lt_succ (Nat.mod_lt _ (by decide))) h4
      generalize num l / 2 ^ i % 2 * 2 ^ (i % 13) = y at h2 ⊢
      omega

theorem spec_good (l : List Int) (hb : Bytes l) (hl : l.length = 52) (k : Nat) (hk : 32 * 13 < k) : spec_UnpackBits.f k l 0 13 32 = some (upTo 13 (num l) (32 * 13), true) := by
  unfold spec_UnpackBits.f
  rw [if_neg (by rw [hl]; unfold wrap64; omega), if_pos (by decide), if_pos (by decide)]
  have := spec_loop l hb hl (32 * 13) k 0 (by omega) hk
  rw [upTo_zero] at this
  exact this

theorem same_loop (N X : Nat) (hN : N ≤ 32) (d : Nat) : ∀ k i : Nat, i + d = 32 → d < k → laws_unpacked.l0 k (upTo N X (32 * N)) (upTo N X (32 * N)) (i : Int) = some true := by
  induction d with
  | zero =>
    intro k i hi hk
    obtain ⟨k, rfl⟩ : ∃ m, k = m + 1 := ⟨k - 1, by omega⟩
    simp only [laws_unpacked.l0]
    rw [if_neg (by omega)]
  | succ d ih =>
    intro k i hi hk
    obtain ⟨k, rfl⟩ : ∃ m, k = m + 1 := ⟨k - 1, by omega⟩
    have e7 : wrap64 ((i : Int) + 1) = ((i + 1 : Nat) : Int) := by unfold wrap64; omega
    have hf : fld N (X % 2 ^ (32 * N)) i < 4294967296 := by
      unfold fld
      exact Nat.lt_of_lt_of_le (Nat.mod_lt _ (Nat.two_pow_pos _)) ((show 2 ^ N ≤ 2 ^ 32 from Nat.pow_le_pow_right (by decide) hN))
    simp only [laws_unpacked.l0]
    rw [if_pos (by omega), if_pos (by omega), upTo_len, if_pos (by omega), if_pos (by omega), upTo_rd _ _ _ _ (by omega), if_pos (by rw [IntKind.wrap_u64]; omega), e7]
    exact ih k (i + 1) (by omega) (by omega)

theorem impl_good (l : List Int) (hb : Bytes l) (hl : l.length = 52) : impl_Unpack13.f l = some (upTo 13 (num l) (32 * 13), true) := by
  unfold impl_Unpack13.f
  rw [if_pos ⟨hl, hb⟩, un_fld (wordOf l) (num l) (fun j hj => num_word hb (by omega))]

theorem unpacked_good (l : List Int) (hb : Bytes l) (hl : l.length = 52) (k : Nat) (hk : 32 * 13 + 40 < k) : laws_unpacked.f k l 13 (upTo 13 (num l) (32 * 13)) true = some true := by
  unfold laws_unpacked.f
  rw [spec_good l hb hl k (by omega)]
  simp only [Option.bind_some, if_true]
  obtain ⟨k, rfl⟩ : ∃ m, k = m + 1 := ⟨k - 1, by omega⟩
  simp only [laws_unpacked.j0, upTo_len]
  rw [if_neg (by decide)]
  exact same_loop 13 (num l) (by decide) 32 k 0 (by omega) (by omega)

theorem lowest_val : laws_lowest.f 52 = some ((List.replicate 52 (0 : Int)).set 0 1) := by rfl
theorem lowest_len : ((List.replicate 52 (0 : Int)).set 0 1).length = 52 := by simp
theorem lowest_bytes : Bytes ((List.replicate 52 (0 : Int)).set 0 1) := by
  intro x hx
  rcases List.mem_or_eq_of_mem_set hx with h | h
  · have := List.eq_of_mem_replicate h
    omega
  · omega

theorem FnUnpack13 : laws_FnUnpack13.Pure := by
  intro l0 _ _ hw
  have hb : Bytes l0 := fun x hx => by
    have := hw x hx
    simp [Lit.wf, IntKind.min, IntKind.max, IntKind.signed, IntKind.bits] at this
    omega
  obtain ⟨K, hK⟩ : ∃ K : Nat, 32 * 13 + 40 < K := ⟨_, Nat.lt_succ_self _⟩
  obtain ⟨F, hF⟩ : ∃ F : List Int, F = (List.replicate 52 (0 : Int)).set 0 1 := ⟨_, rfl⟩
  have hv : laws_lowest.f 52 = some F := by rw [hF]; exact lowest_val
  have hFl : F.length = 52 := by rw [hF]; exact lowest_len
  have hFb : Bytes F := by rw [hF]; exact lowest_bytes
  clear hF
  refine ⟨K, ?_⟩
  unfold laws_FnUnpack13.f
  by_cases hbig : (l0.length : Int) > 2147483647
  · rw [if_pos hbig]
  · rw [if_neg hbig, hv, Option.bind_some, impl_good F hFb hFl, Option.bind_some, Option.bind_some]
    rw [unpacked_good F hFb hFl K hK, Option.bind_some]
    by_cases hl : (l0.length : Int) = 52
    · have hl' : l0.length = 52 := by omega
      rw [if_pos hl, impl_good l0 hb hl', Option.bind_some]
      rw [unpacked_good l0 hb hl' K hK, Option.bind_some, if_pos rfl]
    · rw [if_neg hl]

end Go.Proofs.YtcfkjhgchjgkeaaDoor.Pure
namespace Go.Proofs.YtcfkjhgchjgkeaaDoor
theorem PrintWords.sized_ints : type_of% @Go.Proofs.YtcfkjhgchjgkeaaDoorW.PrintWords.sized_ints := @Go.Proofs.YtcfkjhgchjgkeaaDoorW.PrintWords.sized_ints
end Go.Proofs.YtcfkjhgchjgkeaaDoor
