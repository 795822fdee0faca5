/- Facts on the types and functions of this seat's program, each by the kernel. -/
import Derived.Test.YtlnihndjepjagaaGwD
import Derived.Test.YtlnihndjepjagaaProg
set_option linter.unusedVariables false
namespace Go.Proofs.Ytlnihndjepjagaa
open Go Gw
theorem foll : Try.prog.follows .mixedOrders = true := by kernel_rfl
theorem z0 : tin Try.prog 0 = some (1, 0, some (Value.tuple #[])) := by kernel_rfl
theorem z1 : tin Try.prog 1 = some (1, 8, some (Value.nilFunc)) := by kernel_rfl
theorem z2 : tin Try.prog 2 = some (1, 8, some (Value.int .i64 0)) := by kernel_rfl
theorem z3 : tin Try.prog 3 = some (1, 8, some (Value.int .i64 0)) := by kernel_rfl
theorem z4 : tin Try.prog 4 = some (1, 1, some (Value.bool false)) := by kernel_rfl
theorem z5 : tin Try.prog 5 = some (1, 1, some (Value.int .u8 0)) := by kernel_rfl
theorem z6 : tin Try.prog 6 = some (1, 1, some (Value.int .u8 0)) := by kernel_rfl
theorem z7 : tin Try.prog 7 = some (4, 24, some (Value.agg #[(Value.int .i64 0), (Value.int .i64 0), (Value.bool false), (Value.int .u8 0)])) := by kernel_rfl
theorem z8 : tin Try.prog 8 = some (4, 24, some (Value.agg #[(Value.int .i64 0), (Value.int .i64 0), (Value.bool false), (Value.int .u8 0)])) := by kernel_rfl
theorem z9 : tin Try.prog 9 = some (1, 16, some (Value.string ByteArray.empty)) := by kernel_rfl
theorem z10 : tin Try.prog 10 = some (1, 16, some (Value.string ByteArray.empty)) := by kernel_rfl
theorem z11 : tin Try.prog 11 = some (1, 16, some (Value.string ByteArray.empty)) := by kernel_rfl
theorem z12 : tin Try.prog 12 = some (1, 8, some (Value.int .u64 0)) := by kernel_rfl
theorem z13 : tin Try.prog 13 = some (2, 24, some (Value.agg #[(Value.string ByteArray.empty), (Value.int .u64 0)])) := by kernel_rfl
theorem z14 : tin Try.prog 14 = some (2, 24, some (Value.agg #[(Value.string ByteArray.empty), (Value.int .u64 0)])) := by kernel_rfl
theorem z15 : tin Try.prog 15 = some (1, 8, some (Value.pointer none)) := by kernel_rfl
theorem z16 : tin Try.prog 16 = some (1, 8, some (Value.pointer none)) := by kernel_rfl
theorem z17 : tin Try.prog 17 = some (1, 8, some (Value.pointer none)) := by kernel_rfl
theorem z18 : tin Try.prog 18 = some (1, 8, some (Value.agg #[(Value.pointer none)])) := by kernel_rfl
theorem z19 : tin Try.prog 19 = some (1, 8, some (Value.agg #[(Value.pointer none)])) := by kernel_rfl
theorem z20 : tin Try.prog 20 = some (1, 16, some (Value.nilIface)) := by kernel_rfl
theorem z21 : tin Try.prog 21 = some (1, 4, some (Value.int .i32 0)) := by kernel_rfl
theorem z22 : tin Try.prog 22 = some (1, 24, some (Value.slice none 0 0)) := by kernel_rfl
theorem z23 : tin Try.prog 23 = some (1, 24, some (Value.slice none 0 0)) := by kernel_rfl
theorem z24 : tin Try.prog 24 = some (21, 208, some (Value.agg #[(Value.int .i64 0), (Value.string ByteArray.empty), (Value.string ByteArray.empty), (Value.string ByteArray.empty), (Value.int .i64 0), (Value.int .i64 0), (Value.int .i64 0), (Value.int .i64 0), (Value.int .i64 0), (Value.int .i64 0), (Value.int .i64 0), (Value.int .i64 0), (Value.int .i64 0), (Value.bool false), (Value.bool false), (Value.bool false), (Value.bool false), (Value.bool false), (Value.slice none 0 0), (Value.slice none 0 0), (Value.slice none 0 0)])) := by kernel_rfl
theorem z25 : tin Try.prog 25 = some (21, 208, some (Value.agg #[(Value.int .i64 0), (Value.string ByteArray.empty), (Value.string ByteArray.empty), (Value.string ByteArray.empty), (Value.int .i64 0), (Value.int .i64 0), (Value.int .i64 0), (Value.int .i64 0), (Value.int .i64 0), (Value.int .i64 0), (Value.int .i64 0), (Value.int .i64 0), (Value.int .i64 0), (Value.bool false), (Value.bool false), (Value.bool false), (Value.bool false), (Value.bool false), (Value.slice none 0 0), (Value.slice none 0 0), (Value.slice none 0 0)])) := by kernel_rfl
theorem z26 : tin Try.prog 26 = some (1, 8, some (Value.nilFunc)) := by kernel_rfl
theorem z27 : tin Try.prog 27 = some (1, 8, some (Value.nilFunc)) := by kernel_rfl
theorem z28 : tin Try.prog 28 = some (1, 24, some (Value.slice none 0 0)) := by kernel_rfl
theorem z29 : tin Try.prog 29 = some (1, 8, some (Value.nilFunc)) := by kernel_rfl
theorem z30 : tin Try.prog 30 = some (1, 24, some (Value.slice none 0 0)) := by kernel_rfl
theorem z31 : tin Try.prog 31 = some (1, 8, some (Value.nilFunc)) := by kernel_rfl
theorem z32 : tin Try.prog 32 = some (1, 8, some (Value.nilFunc)) := by kernel_rfl
theorem z33 : tin Try.prog 33 = some (1, 8, some (Value.nilFunc)) := by kernel_rfl
theorem z34 : tin Try.prog 34 = some (1, 8, some (Value.nilFunc)) := by kernel_rfl
theorem z35 : tin Try.prog 35 = some (1, 24, some (Value.slice none 0 0)) := by kernel_rfl
theorem z36 : tin Try.prog 36 = some (1, 8, some (Value.int .u64 0)) := by kernel_rfl
theorem z37 : tin Try.prog 37 = some (1, 0, some (Value.tuple #[(Value.slice none 0 0), (Value.slice none 0 0), (Value.int .i64 0)])) := by kernel_rfl
theorem z38 : tin Try.prog 38 = some (1, 8, some (Value.nilFunc)) := by kernel_rfl
theorem z39 : tin Try.prog 39 = some (1, 8, some (Value.nilFunc)) := by kernel_rfl
theorem z40 : tin Try.prog 40 = some (1, 8, some (Value.nilFunc)) := by kernel_rfl
theorem z41 : tin Try.prog 41 = some (3, 40, some (Value.agg #[(Value.string ByteArray.empty), (Value.string ByteArray.empty), (Value.bool false)])) := by kernel_rfl
theorem z42 : tin Try.prog 42 = some (3, 40, some (Value.agg #[(Value.string ByteArray.empty), (Value.string ByteArray.empty), (Value.bool false)])) := by kernel_rfl
theorem z43 : tin Try.prog 43 = some (5, 56, some (Value.agg #[(Value.string ByteArray.empty), (Value.string ByteArray.empty), (Value.bool false), (Value.int .i64 0), (Value.int .i64 0)])) := by kernel_rfl
theorem z44 : tin Try.prog 44 = some (5, 56, some (Value.agg #[(Value.string ByteArray.empty), (Value.string ByteArray.empty), (Value.bool false), (Value.int .i64 0), (Value.int .i64 0)])) := by kernel_rfl
theorem z45 : tin Try.prog 45 = some (1, 8, some (Value.nilFunc)) := by kernel_rfl
theorem z46 : tin Try.prog 46 = some (1, 24, some (Value.slice none 0 0)) := by kernel_rfl
theorem z47 : tin Try.prog 47 = some (1, 8, some (Value.nilFunc)) := by kernel_rfl
theorem z48 : tin Try.prog 48 = some (1, 8, some (Value.nilFunc)) := by kernel_rfl
theorem z49 : tin Try.prog 49 = some (1, 8, some (Value.nilFunc)) := by kernel_rfl
theorem z50 : tin Try.prog 50 = some (3, 40, some (Value.agg #[(Value.int .i64 0), (Value.string ByteArray.empty), (Value.string ByteArray.empty)])) := by kernel_rfl
theorem z51 : tin Try.prog 51 = some (3, 40, some (Value.agg #[(Value.int .i64 0), (Value.string ByteArray.empty), (Value.string ByteArray.empty)])) := by kernel_rfl
theorem z52 : tin Try.prog 52 = some (1, 8, some (Value.nilFunc)) := by kernel_rfl
theorem z53 : tin Try.prog 53 = some (1, 8, some (Value.nilFunc)) := by kernel_rfl
theorem z54 : tin Try.prog 54 = some (1, 8, some (Value.nilFunc)) := by kernel_rfl
theorem z55 : tin Try.prog 55 = some (1, 8, some (Value.nilFunc)) := by kernel_rfl
theorem z56 : tin Try.prog 56 = some (1, 8, some (Value.nilFunc)) := by kernel_rfl
theorem z57 : tin Try.prog 57 = some (1, 8, some (Value.nilFunc)) := by kernel_rfl
theorem z58 : tin Try.prog 58 = some (5, 72, some (Value.agg #[(Value.bool false), (Value.int .i64 0), (Value.int .i64 0), (Value.slice none 0 0), (Value.slice none 0 0)])) := by kernel_rfl
theorem z59 : tin Try.prog 59 = some (5, 72, some (Value.agg #[(Value.bool false), (Value.int .i64 0), (Value.int .i64 0), (Value.slice none 0 0), (Value.slice none 0 0)])) := by kernel_rfl
theorem z60 : tin Try.prog 60 = some (1, 0, some (Value.tuple #[(Value.agg #[(Value.bool false), (Value.int .i64 0), (Value.int .i64 0), (Value.slice none 0 0), (Value.slice none 0 0)]), (Value.agg #[(Value.bool false), (Value.int .i64 0), (Value.int .i64 0), (Value.slice none 0 0), (Value.slice none 0 0)]), (Value.bool false)])) := by kernel_rfl
theorem z61 : tin Try.prog 61 = some (1, 8, some (Value.nilFunc)) := by kernel_rfl
theorem z62 : tin Try.prog 62 = some (10, 128, some (Value.agg #[(Value.int .i64 0), (Value.string ByteArray.empty), (Value.string ByteArray.empty), (Value.bool false), (Value.int .i64 0), (Value.int .i64 0), (Value.int .i64 0), (Value.int .i64 0), (Value.slice none 0 0), (Value.slice none 0 0)])) := by kernel_rfl
theorem z63 : tin Try.prog 63 = some (10, 128, some (Value.agg #[(Value.int .i64 0), (Value.string ByteArray.empty), (Value.string ByteArray.empty), (Value.bool false), (Value.int .i64 0), (Value.int .i64 0), (Value.int .i64 0), (Value.int .i64 0), (Value.slice none 0 0), (Value.slice none 0 0)])) := by kernel_rfl
theorem z64 : tin Try.prog 64 = some (1, 8, some (Value.nilFunc)) := by kernel_rfl
theorem z65 : tin Try.prog 65 = some (1, 8, some (Value.nilFunc)) := by kernel_rfl
theorem z66 : tin Try.prog 66 = some (1, 24, some (Value.slice none 0 0)) := by kernel_rfl
theorem z67 : tin Try.prog 67 = some (1, 8, some (Value.pointer none)) := by kernel_rfl
theorem z68 : tin Try.prog 68 = some (1, 0, some (Value.tuple #[(Value.slice none 0 0), (Value.pointer none), (Value.bool false)])) := by kernel_rfl
theorem z69 : tin Try.prog 69 = some (1, 8, some (Value.nilFunc)) := by kernel_rfl
theorem z70 : tin Try.prog 70 = some (1, 8, some (Value.nilFunc)) := by kernel_rfl
theorem z71 : tin Try.prog 71 = some (1, 24, some (Value.slice none 0 0)) := by kernel_rfl
theorem z72 : tin Try.prog 72 = some (1, 8, some (Value.nilFunc)) := by kernel_rfl
theorem z73 : tin Try.prog 73 = some (1, 24, some (Value.slice none 0 0)) := by kernel_rfl
theorem z74 : tin Try.prog 74 = some (2, 32, some (Value.agg #[(Value.int .i64 0), (Value.slice none 0 0)])) := by kernel_rfl
theorem z75 : tin Try.prog 75 = some (2, 32, some (Value.agg #[(Value.int .i64 0), (Value.slice none 0 0)])) := by kernel_rfl
theorem z76 : tin Try.prog 76 = some (1, 8, some (Value.nilFunc)) := by kernel_rfl
theorem z77 : tin Try.prog 77 = some (1, 8, some (Value.nilFunc)) := by kernel_rfl
theorem z78 : tin Try.prog 78 = some (1, 8, some (Value.nilFunc)) := by kernel_rfl
theorem z79 : tin Try.prog 79 = some (1, 8, some (Value.nilFunc)) := by kernel_rfl
theorem z80 : tin Try.prog 80 = some (1, 8, some (Value.nilFunc)) := by kernel_rfl
theorem z81 : tin Try.prog 81 = some (1, 8, some (Value.nilFunc)) := by kernel_rfl
theorem z82 : tin Try.prog 82 = some (1, 8, some (Value.nilFunc)) := by kernel_rfl
theorem z83 : tin Try.prog 83 = some (1, 16, some (Value.nilIface)) := by kernel_rfl
theorem z84 : tin Try.prog 84 = some (1, 16, some (Value.nilIface)) := by kernel_rfl
theorem z85 : tin Try.prog 85 = some (1, 8, some (Value.nilFunc)) := by kernel_rfl
theorem z86 : tin Try.prog 86 = some (1, 8, some (Value.pointer none)) := by kernel_rfl
theorem z87 : tin Try.prog 87 = some (1, 8, some (Value.nilFunc)) := by kernel_rfl
theorem z88 : tin Try.prog 88 = some (1, 8, some (Value.nilFunc)) := by kernel_rfl
theorem z89 : tin Try.prog 89 = some (1, 8, some (Value.pointer none)) := by kernel_rfl
theorem z90 : tin Try.prog 90 = some (1, 8, some (Value.nilFunc)) := by kernel_rfl
theorem z91 : tin Try.prog 91 = some (1, 8, some (Value.nilFunc)) := by kernel_rfl
theorem z92 : tin Try.prog 92 = some (1, 8, some (Value.pointer none)) := by kernel_rfl
theorem z93 : tin Try.prog 93 = some (1, 8, some (Value.nilFunc)) := by kernel_rfl
theorem z94 : tin Try.prog 94 = some (1, 8, some (Value.nilFunc)) := by kernel_rfl
theorem z95 : tin Try.prog 95 = some (1, 8, some (Value.pointer none)) := by kernel_rfl
theorem z96 : tin Try.prog 96 = some (1, 8, some (Value.nilFunc)) := by kernel_rfl
theorem z97 : tin Try.prog 97 = some (7, 80, some (Value.agg #[(Value.int .i64 0), (Value.int .i64 0), (Value.string ByteArray.empty), (Value.string ByteArray.empty), (Value.int .i64 0), (Value.string ByteArray.empty), (Value.bool false)])) := by kernel_rfl
theorem z98 : tin Try.prog 98 = some (7, 80, some (Value.agg #[(Value.int .i64 0), (Value.int .i64 0), (Value.string ByteArray.empty), (Value.string ByteArray.empty), (Value.int .i64 0), (Value.string ByteArray.empty), (Value.bool false)])) := by kernel_rfl
theorem z99 : tin Try.prog 99 = some (1, 8, some (Value.map none)) := by kernel_rfl
theorem z100 : tin Try.prog 100 = some (1, 16, some (Value.nilIface)) := by kernel_rfl
theorem z101 : tin Try.prog 101 = some (1, 16, some (Value.nilIface)) := by kernel_rfl
theorem z102 : tin Try.prog 102 = some (1, 0, some (Value.tuple #[(Value.map none), (Value.nilIface), (Value.nilIface)])) := by kernel_rfl
theorem z103 : tin Try.prog 103 = some (1, 8, some (Value.nilFunc)) := by kernel_rfl
theorem z104 : tin Try.prog 104 = some (1, 24, some (Value.slice none 0 0)) := by kernel_rfl
theorem z105 : tin Try.prog 105 = some (1, 8, some (Value.nilFunc)) := by kernel_rfl
theorem z106 : tin Try.prog 106 = some (1, 8, some (Value.nilFunc)) := by kernel_rfl
theorem z107 : tin Try.prog 107 = some (1, 8, some (Value.nilFunc)) := by kernel_rfl
theorem z108 : tin Try.prog 108 = some (1, 16, some (Value.nilIface)) := by kernel_rfl
theorem z109 : tin Try.prog 109 = some (1, 16, some (Value.nilIface)) := by kernel_rfl
theorem z110 : tin Try.prog 110 = some (2, 32, some (Value.agg #[(Value.nilIface), (Value.nilIface)])) := by kernel_rfl
theorem z111 : tin Try.prog 111 = some (2, 32, some (Value.agg #[(Value.nilIface), (Value.nilIface)])) := by kernel_rfl
theorem z112 : tin Try.prog 112 = some (1, 8, some (Value.nilFunc)) := by kernel_rfl
theorem z113 : tin Try.prog 113 = some (1, 8, some (Value.pointer none)) := by kernel_rfl
theorem z114 : tin Try.prog 114 = some (1, 8, some (Value.nilFunc)) := by kernel_rfl
theorem z115 : tin Try.prog 115 = some (3, 48, some (Value.agg #[(Value.nilIface), (Value.nilIface), (Value.nilIface)])) := by kernel_rfl
theorem z116 : tin Try.prog 116 = some (3, 48, some (Value.agg #[(Value.nilIface), (Value.nilIface), (Value.nilIface)])) := by kernel_rfl
theorem z117 : tin Try.prog 117 = some (1, 8, some (Value.nilFunc)) := by kernel_rfl
theorem z118 : tin Try.prog 118 = some (1, 24, some (Value.slice none 0 0)) := by kernel_rfl
theorem z119 : tin Try.prog 119 = some (1, 8, some (Value.pointer none)) := by kernel_rfl
theorem z120 : tin Try.prog 120 = some (1, 8, some (Value.nilFunc)) := by kernel_rfl
theorem z121 : tin Try.prog 121 = some (1, 8, some (Value.nilFunc)) := by kernel_rfl
theorem z122 : tin Try.prog 122 = some (1, 24, some (Value.slice none 0 0)) := by kernel_rfl
theorem z123 : tin Try.prog 123 = some (1, 4, some (Value.int .i32 0)) := by kernel_rfl
theorem z124 : tin Try.prog 124 = some (1, 8, some (Value.nilFunc)) := by kernel_rfl
theorem z125 : tin Try.prog 125 = some (1, 8, some (Value.nilFunc)) := by kernel_rfl
theorem z126 : tin Try.prog 126 = some (1, 8, some (Value.nilFunc)) := by kernel_rfl
theorem z127 : tin Try.prog 127 = some (1, 8, some (Value.nilFunc)) := by kernel_rfl
theorem z128 : tin Try.prog 128 = some (1, 8, some (Value.nilFunc)) := by kernel_rfl
theorem z129 : tin Try.prog 129 = some (1, 8, some (Value.nilFunc)) := by kernel_rfl
theorem z130 : tin Try.prog 130 = some (6, 64, some (Value.agg #[(Value.string ByteArray.empty), (Value.string ByteArray.empty), (Value.bool false), (Value.int .i64 0), (Value.int .i64 0), (Value.int .i64 0)])) := by kernel_rfl
theorem z131 : tin Try.prog 131 = some (6, 64, some (Value.agg #[(Value.string ByteArray.empty), (Value.string ByteArray.empty), (Value.bool false), (Value.int .i64 0), (Value.int .i64 0), (Value.int .i64 0)])) := by kernel_rfl
theorem z132 : tin Try.prog 132 = some (1, 8, some (Value.nilFunc)) := by kernel_rfl
theorem z133 : tin Try.prog 133 = some (1, 16, some (Value.string ByteArray.empty)) := by kernel_rfl
theorem z134 : tin Try.prog 134 = some (1, 8, some (Value.nilFunc)) := by kernel_rfl
theorem z135 : tin Try.prog 135 = some (1, 4, some (Value.int .i32 0)) := by kernel_rfl
theorem z136 : tin Try.prog 136 = some (1, 8, some (Value.nilFunc)) := by kernel_rfl
theorem z137 : tin Try.prog 137 = some (1, 4, some (Value.int .i32 0)) := by kernel_rfl
theorem z138 : tin Try.prog 138 = some (13, 112, some (Value.agg #[(Value.slice none 0 0), (Value.slice none 0 0), (Value.int .i64 0), (Value.int .i64 0), (Value.int .i32 0), (Value.int .i32 0), (Value.bool false), (Value.bool false), (Value.bool false), (Value.int .i64 0), (Value.int .i64 0), (Value.int .i64 0), (Value.int .i64 0)])) := by kernel_rfl
theorem z139 : tin Try.prog 139 = some (13, 112, some (Value.agg #[(Value.slice none 0 0), (Value.slice none 0 0), (Value.int .i64 0), (Value.int .i64 0), (Value.int .i32 0), (Value.int .i32 0), (Value.bool false), (Value.bool false), (Value.bool false), (Value.int .i64 0), (Value.int .i64 0), (Value.int .i64 0), (Value.int .i64 0)])) := by kernel_rfl
theorem z140 : tin Try.prog 140 = some (6, 64, some (Value.agg #[(Value.slice none 0 0), (Value.slice none 0 0), (Value.int .i64 0), (Value.bool false), (Value.bool false), (Value.bool false)])) := by kernel_rfl
theorem z141 : tin Try.prog 141 = some (6, 64, some (Value.agg #[(Value.slice none 0 0), (Value.slice none 0 0), (Value.int .i64 0), (Value.bool false), (Value.bool false), (Value.bool false)])) := by kernel_rfl
theorem z142 : tin Try.prog 142 = some (3, 56, some (Value.agg #[(Value.slice none 0 0), (Value.slice none 0 0), (Value.bool false)])) := by kernel_rfl
theorem z143 : tin Try.prog 143 = some (3, 56, some (Value.agg #[(Value.slice none 0 0), (Value.slice none 0 0), (Value.bool false)])) := by kernel_rfl
theorem z144 : tin Try.prog 144 = some (1, 24, some (Value.slice none 0 0)) := by kernel_rfl
theorem z145 : tin Try.prog 145 = some (3, 72, some (Value.agg #[(Value.slice none 0 0), (Value.slice none 0 0), (Value.slice none 0 0)])) := by kernel_rfl
theorem z146 : tin Try.prog 146 = some (3, 72, some (Value.agg #[(Value.slice none 0 0), (Value.slice none 0 0), (Value.slice none 0 0)])) := by kernel_rfl
theorem z147 : tin Try.prog 147 = some (1, 8, some (Value.pointer none)) := by kernel_rfl
theorem z148 : tin Try.prog 148 = some (1, 8, some (Value.nilFunc)) := by kernel_rfl
theorem z149 : tin Try.prog 149 = some (1, 8, some (Value.pointer none)) := by kernel_rfl
theorem z150 : tin Try.prog 150 = some (1, 8, some (Value.pointer none)) := by kernel_rfl
theorem z151 : tin Try.prog 151 = some (1, 8, some (Value.agg #[(Value.pointer none)])) := by kernel_rfl
theorem z152 : tin Try.prog 152 = some (1, 8, some (Value.agg #[(Value.pointer none)])) := by kernel_rfl
theorem z153 : tin Try.prog 153 = some (1, 16, some (Value.agg #[(Value.nilIface)])) := by kernel_rfl
theorem z154 : tin Try.prog 154 = some (1, 16, some (Value.agg #[(Value.nilIface)])) := by kernel_rfl
theorem z155 : tin Try.prog 155 = some (1, 8, some (Value.pointer none)) := by kernel_rfl
theorem z156 : tin Try.prog 156 = some (1, 8, some (Value.agg #[(Value.pointer none)])) := by kernel_rfl
theorem z157 : tin Try.prog 157 = some (1, 8, some (Value.agg #[(Value.pointer none)])) := by kernel_rfl
theorem z158 : tin Try.prog 158 = some (1, 8, some (Value.pointer none)) := by kernel_rfl
theorem z159 : tin Try.prog 159 = some (1, 8, some (Value.agg #[(Value.pointer none)])) := by kernel_rfl
theorem z160 : tin Try.prog 160 = some (1, 8, some (Value.agg #[(Value.pointer none)])) := by kernel_rfl
theorem z161 : tin Try.prog 161 = some (1, 8, some (Value.pointer none)) := by kernel_rfl
theorem z162 : tin Try.prog 162 = some (1, 8, some (Value.agg #[(Value.pointer none)])) := by kernel_rfl
theorem z163 : tin Try.prog 163 = some (1, 8, some (Value.agg #[(Value.pointer none)])) := by kernel_rfl
theorem z164 : tin Try.prog 164 = some (1, 8, some (Value.nilFunc)) := by kernel_rfl
theorem z165 : tin Try.prog 165 = some (1, 8, some (Value.nilFunc)) := by kernel_rfl
theorem z166 : tin Try.prog 166 = some (1, 16, some (Value.string ByteArray.empty)) := by kernel_rfl
theorem z167 : tin Try.prog 167 = some (1, 16, some (Value.string ByteArray.empty)) := by kernel_rfl
theorem z168 : tin Try.prog 168 = some (1, 24, some (Value.slice none 0 0)) := by kernel_rfl
theorem z169 : tin Try.prog 169 = some (1, 8, some (Value.int .i64 0)) := by kernel_rfl
theorem z170 : tin Try.prog 170 = some (1, 8, some (Value.nilFunc)) := by kernel_rfl
theorem z171 : tin Try.prog 171 = some (1, 8, some (Value.nilFunc)) := by kernel_rfl
theorem z172 : tin Try.prog 172 = some (3, 56, some (Value.agg #[(Value.int .i32 0), (Value.slice none 0 0), (Value.slice none 0 0)])) := by kernel_rfl
theorem z173 : tin Try.prog 173 = some (3, 56, some (Value.agg #[(Value.int .i32 0), (Value.slice none 0 0), (Value.slice none 0 0)])) := by kernel_rfl
theorem z174 : tin Try.prog 174 = some (1, 8, some (Value.pointer none)) := by kernel_rfl
theorem z175 : tin Try.prog 175 = some (1, 8, some (Value.nilFunc)) := by kernel_rfl
theorem z176 : tin Try.prog 176 = some (1, 24, some (Value.agg #[(Value.slice none 0 0)])) := by kernel_rfl
theorem z177 : tin Try.prog 177 = some (1, 24, some (Value.agg #[(Value.slice none 0 0)])) := by kernel_rfl
theorem z178 : tin Try.prog 178 = some (1, 8, some (Value.nilFunc)) := by kernel_rfl
theorem z179 : tin Try.prog 179 = some (1, 8, some (Value.nilFunc)) := by kernel_rfl
theorem z180 : tin Try.prog 180 = some (1, 8, some (Value.nilFunc)) := by kernel_rfl
theorem z181 : tin Try.prog 181 = some (1, 8, some (Value.nilFunc)) := by kernel_rfl
theorem z182 : tin Try.prog 182 = some (1, 8, some (Value.pointer none)) := by kernel_rfl
theorem z183 : tin Try.prog 183 = some (1, 8, some (Value.int .i64 0)) := by kernel_rfl
theorem z184 : tin Try.prog 184 = some (8, 96, some (Value.agg #[(Value.nilIface), (Value.nilIface), (Value.nilIface), (Value.nilIface), (Value.pointer none), (Value.pointer none), (Value.pointer none), (Value.int .i64 0)])) := by kernel_rfl
theorem z185 : tin Try.prog 185 = some (8, 96, some (Value.agg #[(Value.nilIface), (Value.nilIface), (Value.nilIface), (Value.nilIface), (Value.pointer none), (Value.pointer none), (Value.pointer none), (Value.int .i64 0)])) := by kernel_rfl
theorem z186 : tin Try.prog 186 = some (1, 8, some (Value.pointer none)) := by kernel_rfl
theorem z187 : tin Try.prog 187 = some (3, 24, some (Value.agg #[(Value.pointer none), (Value.int .i64 0), (Value.pointer none)])) := by kernel_rfl
theorem z188 : tin Try.prog 188 = some (3, 24, some (Value.agg #[(Value.pointer none), (Value.int .i64 0), (Value.pointer none)])) := by kernel_rfl
theorem z189 : tin Try.prog 189 = some (1, 8, some (Value.nilFunc)) := by kernel_rfl
theorem z190 : tin Try.prog 190 = some (1, 8, some (Value.nilFunc)) := by kernel_rfl
theorem z191 : tin Try.prog 191 = some (1, 8, some (Value.nilFunc)) := by kernel_rfl
theorem z192 : tin Try.prog 192 = some (1, 8, some (Value.nilFunc)) := by kernel_rfl
theorem z193 : tin Try.prog 193 = some (1, 8, some (Value.nilFunc)) := by kernel_rfl
theorem z194 : tin Try.prog 194 = some (1, 24, some (Value.slice none 0 0)) := by kernel_rfl
theorem z195 : tin Try.prog 195 = some (1, 8, some (Value.nilFunc)) := by kernel_rfl
theorem z196 : tin Try.prog 196 = some (1, 8, some (Value.nilFunc)) := by kernel_rfl
theorem z197 : tin Try.prog 197 = some (1, 8, some (Value.nilFunc)) := by kernel_rfl
theorem z198 : tin Try.prog 198 = some (1, 4, some (Value.int .i32 0)) := by kernel_rfl
theorem z199 : tin Try.prog 199 = some (1, 4, some (Value.int .i32 0)) := by kernel_rfl
theorem z200 : tin Try.prog 200 = some (5, 72, some (Value.agg #[(Value.int .i32 0), (Value.int .i32 0), (Value.slice none 0 0), (Value.nilIface), (Value.slice none 0 0)])) := by kernel_rfl
theorem z201 : tin Try.prog 201 = some (5, 72, some (Value.agg #[(Value.int .i32 0), (Value.int .i32 0), (Value.slice none 0 0), (Value.nilIface), (Value.slice none 0 0)])) := by kernel_rfl
theorem z202 : tin Try.prog 202 = some (1, 8, some (Value.nilFunc)) := by kernel_rfl
theorem z203 : tin Try.prog 203 = some (1, 0, some (Value.tuple #[(Value.pointer none), (Value.bool false)])) := by kernel_rfl
theorem z204 : tin Try.prog 204 = some (1, 8, some (Value.nilFunc)) := by kernel_rfl
theorem z205 : tin Try.prog 205 = some (0, 0, some (Value.agg #[])) := by kernel_rfl
theorem z206 : tin Try.prog 206 = some (1, 0, some (Value.tuple #[(Value.pointer none), (Value.bool false)])) := by kernel_rfl
theorem z207 : tin Try.prog 207 = some (1, 0, some (Value.tuple #[(Value.agg #[]), (Value.bool false)])) := by kernel_rfl
theorem z208 : tin Try.prog 208 = some (1, 0, some (Value.tuple #[(Value.pointer none), (Value.bool false)])) := by kernel_rfl
theorem z209 : tin Try.prog 209 = some (1, 8, some (Value.pointer none)) := by kernel_rfl
theorem z210 : tin Try.prog 210 = some (1, 8, some (Value.agg #[(Value.int .i64 0)])) := by kernel_rfl
theorem z211 : tin Try.prog 211 = some (1, 8, some (Value.agg #[(Value.int .i64 0)])) := by kernel_rfl
theorem z212 : tin Try.prog 212 = some (1, 8, some (Value.pointer none)) := by kernel_rfl
theorem z213 : tin Try.prog 213 = some (1, 8, some (Value.agg #[(Value.int .i64 0)])) := by kernel_rfl
theorem z214 : tin Try.prog 214 = some (1, 8, some (Value.agg #[(Value.int .i64 0)])) := by kernel_rfl
theorem z215 : tin Try.prog 215 = some (1, 8, some (Value.pointer none)) := by kernel_rfl
theorem z216 : tin Try.prog 216 = some (1, 8, some (Value.agg #[(Value.int .i64 0)])) := by kernel_rfl
theorem z217 : tin Try.prog 217 = some (1, 8, some (Value.agg #[(Value.int .i64 0)])) := by kernel_rfl
theorem z218 : tin Try.prog 218 = some (1, 8, some (Value.pointer none)) := by kernel_rfl
theorem z219 : tin Try.prog 219 = some (1, 24, some (Value.agg #[(Value.slice none 0 0)])) := by kernel_rfl
theorem z220 : tin Try.prog 220 = some (1, 24, some (Value.agg #[(Value.slice none 0 0)])) := by kernel_rfl
theorem z221 : tin Try.prog 221 = some (1, 8, some (Value.pointer none)) := by kernel_rfl
theorem z222 : tin Try.prog 222 = some (1, 8, some (Value.agg #[(Value.int .i64 0)])) := by kernel_rfl
theorem z223 : tin Try.prog 223 = some (1, 8, some (Value.agg #[(Value.int .i64 0)])) := by kernel_rfl
theorem z224 : tin Try.prog 224 = some (1, 8, some (Value.nilFunc)) := by kernel_rfl
theorem z225 : tin Try.prog 225 = some (1, 8, some (Value.int .i64 0)) := by kernel_rfl
theorem z226 : tin Try.prog 226 = some (1, 0, some (Value.tuple #[(Value.int .i64 0), (Value.int .i64 0)])) := by kernel_rfl
theorem z227 : tin Try.prog 227 = some (1, 8, some (Value.nilFunc)) := by kernel_rfl
theorem z228 : tin Try.prog 228 = some (1, 8, some (Value.nilFunc)) := by kernel_rfl
theorem z229 : tin Try.prog 229 = some (1, 8, some (Value.nilFunc)) := by kernel_rfl
theorem z230 : tin Try.prog 230 = some (1, 0, some (Value.tuple #[(Value.int .i64 0), (Value.bool false)])) := by kernel_rfl
theorem z231 : tin Try.prog 231 = some (1, 8, some (Value.nilFunc)) := by kernel_rfl
theorem z232 : tin Try.prog 232 = some (1, 8, some (Value.nilFunc)) := by kernel_rfl
theorem z233 : tin Try.prog 233 = some (1, 4, some (Value.int .u32 0)) := by kernel_rfl
theorem z234 : tin Try.prog 234 = some (1, 8, some (Value.nilFunc)) := by kernel_rfl
theorem z235 : tin Try.prog 235 = some (1, 8, some (Value.int .u64 0)) := by kernel_rfl
theorem z236 : tin Try.prog 236 = some (1, 16, some (Value.nilIface)) := by kernel_rfl
theorem z237 : tin Try.prog 237 = some (1, 16, some (Value.nilIface)) := by kernel_rfl
theorem z238 : tin Try.prog 238 = some (1, 8, some (Value.pointer none)) := by kernel_rfl
theorem z239 : tin Try.prog 239 = some (1, 8, some (Value.nilFunc)) := by kernel_rfl
theorem z240 : tin Try.prog 240 = some (1, 8, some (Value.pointer none)) := by kernel_rfl
theorem z241 : tin Try.prog 241 = some (4, 80, some (Value.agg #[(Value.slice none 0 0), (Value.slice none 0 0), (Value.slice none 0 0), (Value.pointer none)])) := by kernel_rfl
theorem z242 : tin Try.prog 242 = some (4, 80, some (Value.agg #[(Value.slice none 0 0), (Value.slice none 0 0), (Value.slice none 0 0), (Value.pointer none)])) := by kernel_rfl
theorem z243 : tin Try.prog 243 = some (1, 8, some (Value.pointer none)) := by kernel_rfl
theorem z244 : tin Try.prog 244 = some (1, 8, some (Value.nilFunc)) := by kernel_rfl
theorem z245 : tin Try.prog 245 = some (2, 48, some (Value.agg #[(Value.slice none 0 0), (Value.slice none 0 0)])) := by kernel_rfl
theorem z246 : tin Try.prog 246 = some (2, 48, some (Value.agg #[(Value.slice none 0 0), (Value.slice none 0 0)])) := by kernel_rfl
theorem z247 : tin Try.prog 247 = some (1, 8, some (Value.nilFunc)) := by kernel_rfl
theorem z248 : tin Try.prog 248 = some (1, 8, some (Value.nilFunc)) := by kernel_rfl
theorem z249 : tin Try.prog 249 = some (2, 32, some (Value.agg #[(Value.nilIface), (Value.nilIface)])) := by kernel_rfl
theorem z250 : tin Try.prog 250 = some (2, 32, some (Value.agg #[(Value.nilIface), (Value.nilIface)])) := by kernel_rfl
theorem z251 : tin Try.prog 251 = some (1, 8, some (Value.pointer none)) := by kernel_rfl
theorem z252 : tin Try.prog 252 = some (1, 8, some (Value.nilFunc)) := by kernel_rfl
theorem z253 : tin Try.prog 253 = some (1, 8, some (Value.nilFunc)) := by kernel_rfl
theorem z254 : tin Try.prog 254 = some (1, 8, some (Value.nilFunc)) := by kernel_rfl
theorem z255 : tin Try.prog 255 = some (1, 8, some (Value.nilFunc)) := by kernel_rfl
theorem z256 : tin Try.prog 256 = some (1, 8, some (Value.int .u64 0)) := by kernel_rfl
theorem z257 : tin Try.prog 257 = some (1, 8, some (Value.nilFunc)) := by kernel_rfl
theorem z258 : tin Try.prog 258 = some (1, 8, some (Value.nilFunc)) := by kernel_rfl
theorem z259 : tin Try.prog 259 = some (1, 8, some (Value.nilFunc)) := by kernel_rfl
theorem z260 : tin Try.prog 260 = some (1, 8, some (Value.pointer none)) := by kernel_rfl
theorem z261 : tin Try.prog 261 = some (1, 8, some (Value.nilFunc)) := by kernel_rfl
theorem z262 : tin Try.prog 262 = some (1, 8, some (Value.pointer none)) := by kernel_rfl
theorem z263 : tin Try.prog 263 = some (1, 0, some (Value.tuple #[(Value.int .i64 0), (Value.int .i64 0)])) := by kernel_rfl
theorem z264 : tin Try.prog 264 = some (1, 8, some (Value.nilFunc)) := by kernel_rfl
theorem z265 : tin Try.prog 265 = some (1, 8, some (Value.nilFunc)) := by kernel_rfl
theorem z266 : tin Try.prog 266 = some (4, 40, some (Value.agg #[(Value.pointer none), (Value.pointer none), (Value.pointer none), (Value.string ByteArray.empty)])) := by kernel_rfl
theorem z267 : tin Try.prog 267 = some (4, 40, some (Value.agg #[(Value.pointer none), (Value.pointer none), (Value.pointer none), (Value.string ByteArray.empty)])) := by kernel_rfl
theorem z268 : tin Try.prog 268 = some (0, 0, some (Value.agg #[])) := by kernel_rfl
theorem z269 : tin Try.prog 269 = some (0, 0, some (Value.agg #[])) := by kernel_rfl
theorem z270 : tin Try.prog 270 = some (0, 0, some (Value.agg #[])) := by kernel_rfl
theorem z271 : tin Try.prog 271 = some (1, 1, some (Value.int .u8 0)) := by kernel_rfl
theorem z272 : tin Try.prog 272 = some (1, 1, some (Value.int .u8 0)) := by kernel_rfl
theorem z273 : tin Try.prog 273 = some (1, 8, some (Value.nilFunc)) := by kernel_rfl
theorem z274 : tin Try.prog 274 = some (1, 8, some (Value.pointer none)) := by kernel_rfl
theorem z275 : tin Try.prog 275 = some (1, 4, some (Value.int .i32 0)) := by kernel_rfl
theorem z276 : tin Try.prog 276 = some (1, 4, some (Value.int .i32 0)) := by kernel_rfl
theorem z277 : tin Try.prog 277 = some (11, 48, some (Value.agg #[(Value.int .u64 0), (Value.int .u64 0), (Value.int .u32 0), (Value.int .u8 0), (Value.int .u8 0), (Value.int .u8 0), (Value.int .u8 0), (Value.nilFunc), (Value.pointer none), (Value.int .i32 0), (Value.int .i32 0)])) := by kernel_rfl
theorem z278 : tin Try.prog 278 = some (11, 48, some (Value.agg #[(Value.int .u64 0), (Value.int .u64 0), (Value.int .u32 0), (Value.int .u8 0), (Value.int .u8 0), (Value.int .u8 0), (Value.int .u8 0), (Value.nilFunc), (Value.pointer none), (Value.int .i32 0), (Value.int .i32 0)])) := by kernel_rfl
theorem z279 : tin Try.prog 279 = some (1, 8, some (Value.nilFunc)) := by kernel_rfl
theorem z280 : tin Try.prog 280 = some (1, 8, some (Value.nilFunc)) := by kernel_rfl
theorem z281 : tin Try.prog 281 = some (1, 8, some (Value.nilFunc)) := by kernel_rfl
theorem z282 : tin Try.prog 282 = some (1, 8, some (Value.nilFunc)) := by kernel_rfl
theorem z283 : tin Try.prog 283 = some (1, 8, some (Value.nilFunc)) := by kernel_rfl
theorem z284 : tin Try.prog 284 = some (1, 8, some (Value.nilFunc)) := by kernel_rfl
theorem z285 : tin Try.prog 285 = some (1, 8, some (Value.nilFunc)) := by kernel_rfl
theorem z286 : tin Try.prog 286 = some (1, 8, some (Value.nilFunc)) := by kernel_rfl
theorem z287 : tin Try.prog 287 = some (1, 8, some (Value.nilFunc)) := by kernel_rfl
theorem z288 : tin Try.prog 288 = some (1, 8, some (Value.nilFunc)) := by kernel_rfl
theorem z289 : tin Try.prog 289 = some (1, 8, some (Value.nilFunc)) := by kernel_rfl
theorem z290 : tin Try.prog 290 = some (1, 8, some (Value.pointer none)) := by kernel_rfl
theorem z291 : tin Try.prog 291 = some (1, 8, some (Value.float .f64 0)) := by kernel_rfl
theorem z292 : tin Try.prog 292 = some (1, 8, some (Value.nilFunc)) := by kernel_rfl
theorem z293 : tin Try.prog 293 = some (1, 8, some (Value.nilFunc)) := by kernel_rfl
theorem z294 : tin Try.prog 294 = some (1, 8, some (Value.nilFunc)) := by kernel_rfl
theorem z295 : tin Try.prog 295 = some (1, 8, some (Value.nilFunc)) := by kernel_rfl
theorem z296 : tin Try.prog 296 = some (1, 8, some (Value.nilFunc)) := by kernel_rfl
theorem z297 : tin Try.prog 297 = some (1, 0, some (Value.tuple #[(Value.float .f64 0), (Value.int .i64 0)])) := by kernel_rfl
theorem z298 : tin Try.prog 298 = some (1, 8, some (Value.nilFunc)) := by kernel_rfl
theorem z299 : tin Try.prog 299 = some (1, 8, some (Value.nilFunc)) := by kernel_rfl
theorem z300 : tin Try.prog 300 = some (1, 8, some (Value.nilFunc)) := by kernel_rfl
theorem z301 : tin Try.prog 301 = some (1, 8, some (Value.nilFunc)) := by kernel_rfl
theorem z302 : tin Try.prog 302 = some (1, 8, some (Value.nilFunc)) := by kernel_rfl
theorem z303 : tin Try.prog 303 = some (1, 8, some (Value.nilFunc)) := by kernel_rfl
theorem z304 : tin Try.prog 304 = some (1, 8, some (Value.nilFunc)) := by kernel_rfl
theorem z305 : tin Try.prog 305 = some (1, 8, some (Value.nilFunc)) := by kernel_rfl
theorem z306 : tin Try.prog 306 = some (1, 8, some (Value.nilFunc)) := by kernel_rfl
theorem z307 : tin Try.prog 307 = some (1, 1, some (Value.agg #[(Value.bool false)])) := by kernel_rfl
theorem z308 : tin Try.prog 308 = some (1, 1, some (Value.agg #[(Value.bool false)])) := by kernel_rfl
theorem z309 : tin Try.prog 309 = some (1, 8, some (Value.nilFunc)) := by kernel_rfl
theorem z310 : tin Try.prog 310 = some (0, 0, some (Value.agg #[])) := by kernel_rfl
theorem z311 : tin Try.prog 311 = some (1, 8, some (Value.pointer none)) := by kernel_rfl
theorem z312 : tin Try.prog 312 = some (1, 24, some (Value.slice none 0 0)) := by kernel_rfl
theorem z313 : tin Try.prog 313 = some (1, 24, some (Value.slice none 0 0)) := by kernel_rfl
theorem z314 : tin Try.prog 314 = some (1, 24, some (Value.slice none 0 0)) := by kernel_rfl
theorem z315 : tin Try.prog 315 = some (0, 0, some (Value.agg #[])) := by kernel_rfl
theorem cb2 : callable Try.prog 2 = true := by kernel_rfl
theorem cb3 : callable Try.prog 3 = true := by kernel_rfl
theorem cb4 : callable Try.prog 4 = true := by kernel_rfl
theorem cb5 : callable Try.prog 5 = true := by kernel_rfl
theorem cb6 : callable Try.prog 6 = true := by kernel_rfl
theorem cb7 : callable Try.prog 7 = true := by kernel_rfl
theorem cb8 : callable Try.prog 8 = true := by kernel_rfl
theorem cb9 : callable Try.prog 9 = true := by kernel_rfl
theorem cb10 : callable Try.prog 10 = true := by kernel_rfl
theorem cb11 : callable Try.prog 11 = true := by kernel_rfl
theorem cb12 : callable Try.prog 12 = true := by kernel_rfl
theorem cb13 : callable Try.prog 13 = true := by kernel_rfl
theorem cb14 : callable Try.prog 14 = true := by kernel_rfl
theorem cb15 : callable Try.prog 15 = true := by kernel_rfl
theorem cb16 : callable Try.prog 16 = true := by kernel_rfl
theorem cb17 : callable Try.prog 17 = true := by kernel_rfl
theorem cb18 : callable Try.prog 18 = true := by kernel_rfl
theorem cb19 : callable Try.prog 19 = true := by kernel_rfl
theorem cb20 : callable Try.prog 20 = true := by kernel_rfl
theorem cb21 : callable Try.prog 21 = true := by kernel_rfl
theorem cb22 : callable Try.prog 22 = true := by kernel_rfl
theorem cb23 : callable Try.prog 23 = true := by kernel_rfl
theorem cb24 : callable Try.prog 24 = true := by kernel_rfl
theorem cb25 : callable Try.prog 25 = true := by kernel_rfl
theorem cb26 : callable Try.prog 26 = true := by kernel_rfl
theorem cb27 : callable Try.prog 27 = true := by kernel_rfl
theorem cb28 : callable Try.prog 28 = true := by kernel_rfl
theorem cb29 : callable Try.prog 29 = true := by kernel_rfl
theorem cb30 : callable Try.prog 30 = true := by kernel_rfl
theorem cb31 : callable Try.prog 31 = true := by kernel_rfl
theorem cb32 : callable Try.prog 32 = true := by kernel_rfl
theorem cb33 : callable Try.prog 33 = true := by kernel_rfl
theorem cb34 : callable Try.prog 34 = true := by kernel_rfl
theorem cb35 : callable Try.prog 35 = true := by kernel_rfl
theorem cb36 : callable Try.prog 36 = true := by kernel_rfl
theorem cb37 : callable Try.prog 37 = true := by kernel_rfl
theorem cb38 : callable Try.prog 38 = true := by kernel_rfl
theorem cb39 : callable Try.prog 39 = true := by kernel_rfl
theorem cb40 : callable Try.prog 40 = true := by kernel_rfl
theorem cb41 : callable Try.prog 41 = true := by kernel_rfl
theorem cb42 : callable Try.prog 42 = true := by kernel_rfl
theorem cb43 : callable Try.prog 43 = true := by kernel_rfl
theorem cb44 : callable Try.prog 44 = true := by kernel_rfl
theorem cb45 : callable Try.prog 45 = true := by kernel_rfl
theorem cb46 : callable Try.prog 46 = true := by kernel_rfl
theorem cb47 : callable Try.prog 47 = true := by kernel_rfl
theorem cb48 : callable Try.prog 48 = true := by kernel_rfl
theorem cb49 : callable Try.prog 49 = true := by kernel_rfl
theorem cb50 : callable Try.prog 50 = true := by kernel_rfl
theorem cb51 : callable Try.prog 51 = true := by kernel_rfl
theorem cb52 : callable Try.prog 52 = true := by kernel_rfl
theorem cb53 : callable Try.prog 53 = true := by kernel_rfl
theorem cb54 : callable Try.prog 54 = true := by kernel_rfl
theorem cb55 : callable Try.prog 55 = true := by kernel_rfl
theorem cb56 : callable Try.prog 56 = true := by kernel_rfl
theorem cb57 : callable Try.prog 57 = true := by kernel_rfl
theorem cb58 : callable Try.prog 58 = true := by kernel_rfl
theorem cb59 : callable Try.prog 59 = true := by kernel_rfl
theorem cb60 : callable Try.prog 60 = true := by kernel_rfl
theorem cb61 : callable Try.prog 61 = true := by kernel_rfl
theorem cb62 : callable Try.prog 62 = true := by kernel_rfl
theorem cb63 : callable Try.prog 63 = true := by kernel_rfl
theorem cb64 : callable Try.prog 64 = true := by kernel_rfl
theorem cb65 : callable Try.prog 65 = true := by kernel_rfl
theorem cb66 : callable Try.prog 66 = true := by kernel_rfl
theorem cb67 : callable Try.prog 67 = true := by kernel_rfl
theorem cb68 : callable Try.prog 68 = true := by kernel_rfl
theorem cb69 : callable Try.prog 69 = true := by kernel_rfl
theorem cb70 : callable Try.prog 70 = true := by kernel_rfl
theorem cb71 : callable Try.prog 71 = true := by kernel_rfl
theorem cb72 : callable Try.prog 72 = true := by kernel_rfl
theorem cb73 : callable Try.prog 73 = true := by kernel_rfl
theorem cb74 : callable Try.prog 74 = true := by kernel_rfl
theorem cb75 : callable Try.prog 75 = true := by kernel_rfl
theorem cb76 : callable Try.prog 76 = true := by kernel_rfl
theorem cb77 : callable Try.prog 77 = true := by kernel_rfl
theorem cb78 : callable Try.prog 78 = true := by kernel_rfl
theorem cb79 : callable Try.prog 79 = true := by kernel_rfl
theorem cb80 : callable Try.prog 80 = true := by kernel_rfl
theorem cb81 : callable Try.prog 81 = true := by kernel_rfl
theorem cb82 : callable Try.prog 82 = true := by kernel_rfl
theorem cb83 : callable Try.prog 83 = true := by kernel_rfl
theorem cb84 : callable Try.prog 84 = true := by kernel_rfl
theorem cb85 : callable Try.prog 85 = true := by kernel_rfl
theorem cb86 : callable Try.prog 86 = true := by kernel_rfl
theorem cb87 : callable Try.prog 87 = true := by kernel_rfl
theorem cb88 : callable Try.prog 88 = true := by kernel_rfl
theorem cb89 : callable Try.prog 89 = true := by kernel_rfl
theorem cb90 : callable Try.prog 90 = true := by kernel_rfl
theorem cb91 : callable Try.prog 91 = true := by kernel_rfl
theorem cb92 : callable Try.prog 92 = true := by kernel_rfl
theorem cb93 : callable Try.prog 93 = true := by kernel_rfl
theorem cb94 : callable Try.prog 94 = true := by kernel_rfl
theorem cb95 : callable Try.prog 95 = true := by kernel_rfl
theorem cb96 : callable Try.prog 96 = true := by kernel_rfl
theorem cb97 : callable Try.prog 97 = true := by kernel_rfl
theorem cb98 : callable Try.prog 98 = true := by kernel_rfl
theorem cb99 : callable Try.prog 99 = true := by kernel_rfl
theorem cb100 : callable Try.prog 100 = true := by kernel_rfl
theorem cb101 : callable Try.prog 101 = true := by kernel_rfl
theorem cb102 : callable Try.prog 102 = true := by kernel_rfl
theorem cb103 : callable Try.prog 103 = true := by kernel_rfl
theorem cb104 : callable Try.prog 104 = true := by kernel_rfl
theorem cb105 : callable Try.prog 105 = true := by kernel_rfl
theorem cb106 : callable Try.prog 106 = true := by kernel_rfl
theorem cb107 : callable Try.prog 107 = true := by kernel_rfl
theorem cb108 : callable Try.prog 108 = true := by kernel_rfl
theorem cb109 : callable Try.prog 109 = true := by kernel_rfl
theorem cb110 : callable Try.prog 110 = true := by kernel_rfl
theorem cb111 : callable Try.prog 111 = true := by kernel_rfl
theorem cb112 : callable Try.prog 112 = true := by kernel_rfl
theorem cb113 : callable Try.prog 113 = true := by kernel_rfl
theorem cb114 : callable Try.prog 114 = true := by kernel_rfl
theorem cb115 : callable Try.prog 115 = true := by kernel_rfl
theorem cb135 : callable Try.prog 135 = true := by kernel_rfl
theorem cb136 : callable Try.prog 136 = true := by kernel_rfl
theorem cb137 : callable Try.prog 137 = true := by kernel_rfl
theorem cb138 : callable Try.prog 138 = true := by kernel_rfl
theorem cb139 : callable Try.prog 139 = true := by kernel_rfl
theorem cb140 : callable Try.prog 140 = true := by kernel_rfl
theorem cb142 : callable Try.prog 142 = true := by kernel_rfl
theorem cb143 : callable Try.prog 143 = true := by kernel_rfl
theorem cb144 : callable Try.prog 144 = true := by kernel_rfl
theorem cb145 : callable Try.prog 145 = true := by kernel_rfl
theorem cb146 : callable Try.prog 146 = true := by kernel_rfl
theorem cb147 : callable Try.prog 147 = true := by kernel_rfl
theorem cb148 : callable Try.prog 148 = true := by kernel_rfl
theorem cb149 : callable Try.prog 149 = true := by kernel_rfl
theorem cb150 : callable Try.prog 150 = true := by kernel_rfl
theorem cb151 : callable Try.prog 151 = true := by kernel_rfl
theorem cb152 : callable Try.prog 152 = true := by kernel_rfl
theorem cb153 : callable Try.prog 153 = true := by kernel_rfl
theorem cb154 : callable Try.prog 154 = true := by kernel_rfl
theorem cb155 : callable Try.prog 155 = true := by kernel_rfl
theorem cb156 : callable Try.prog 156 = true := by kernel_rfl
theorem cb157 : callable Try.prog 157 = true := by kernel_rfl
theorem cb158 : callable Try.prog 158 = true := by kernel_rfl
theorem cb159 : callable Try.prog 159 = true := by kernel_rfl
theorem cb160 : callable Try.prog 160 = true := by kernel_rfl
theorem cb161 : callable Try.prog 161 = true := by kernel_rfl
theorem cb162 : callable Try.prog 162 = true := by kernel_rfl
theorem cb163 : callable Try.prog 163 = true := by kernel_rfl
theorem cb164 : callable Try.prog 164 = true := by kernel_rfl
theorem cb165 : callable Try.prog 165 = true := by kernel_rfl
theorem cb166 : callable Try.prog 166 = true := by kernel_rfl
theorem cb167 : callable Try.prog 167 = true := by kernel_rfl
theorem cb168 : callable Try.prog 168 = true := by kernel_rfl
theorem cb170 : callable Try.prog 170 = true := by kernel_rfl
theorem cb171 : callable Try.prog 171 = true := by kernel_rfl
theorem cb172 : callable Try.prog 172 = true := by kernel_rfl
theorem cb173 : callable Try.prog 173 = true := by kernel_rfl
theorem cb174 : callable Try.prog 174 = true := by kernel_rfl
theorem cb175 : callable Try.prog 175 = true := by kernel_rfl
theorem cb176 : callable Try.prog 176 = true := by kernel_rfl
theorem cb177 : callable Try.prog 177 = true := by kernel_rfl
theorem cb178 : callable Try.prog 178 = true := by kernel_rfl
theorem cb179 : callable Try.prog 179 = true := by kernel_rfl
theorem cb181 : callable Try.prog 181 = true := by kernel_rfl
theorem cb182 : callable Try.prog 182 = true := by kernel_rfl
theorem cb183 : callable Try.prog 183 = true := by kernel_rfl
theorem cb184 : callable Try.prog 184 = true := by kernel_rfl
theorem cb187 : callable Try.prog 187 = true := by kernel_rfl
theorem cb188 : callable Try.prog 188 = true := by kernel_rfl
theorem cb189 : callable Try.prog 189 = true := by kernel_rfl
end Go.Proofs.Ytlnihndjepjagaa
