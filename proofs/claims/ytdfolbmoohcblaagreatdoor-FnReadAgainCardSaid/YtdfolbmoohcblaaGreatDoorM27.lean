/-
For FnReadAgain, part 27: Sh W9c W10.
-/
import Derived.Shelf.Strconv.Itoa1
import Derived.Shelf.LaysM
import Derived.Shelf.Strconv.Itoa2
import Derived.Shelf.Bytes.String
import Derived.Shelf.LaysC
import Derived.Shelf.Strconv.ToError
import Derived.Shelf.Strconv.ToErrorRange
import Derived.Shelf.Bytes.BufferK
import Derived.Shelf.Bytes.WriteAny
import Derived.Test.YtdfolbmoohcblaaGreatDoorProg
import Derived.Test.YtdfolbmoohcblaaGreatDoorM26
import Derived.Test.YtdfolbmoohcblaaGreatDoorM04
import Derived.Test.YtdfolbmoohcblaaGreatDoorM02
import Derived.RegionTactic
import Derived.ChangeAlike
set_option linter.all false
namespace Go.Proofs
open Go.Shelf
def Tryz.laysM284_ren : Go.Shelf.Ren := ⟨fun | 284 => 99 | 129 => 96 | 317 => 100 | 318 => 124 | n => n, fun | 53 => 127 | 3 => 3 | 212 => 201 | 0 => 0 | 4 => 4 | 46 => 136 | 5 => 5 | 9 => 9 | n => n, fun | 17 => 12 | n => n⟩
theorem Tryz.laysM284 : Go.Proofs.LaysM.n284 Tryz.prog Tryz.laysM284_ren := {
 mixed := by kernel_rfl
 f129 := Tryz.func96.trans (congrArg some (by kernel_rfl))
 f284 := Tryz.func99.trans (congrArg some (by kernel_rfl))
 f317 := Tryz.func100.trans (congrArg some (by kernel_rfl))
 f318 := Tryz.func124.trans (congrArg some (by kernel_rfl))
 t0 := Tryz.underlying0
 a0 := Tryz.isAgg0
 z0 := Tryz.sizeOf0
 v0 := Tryz.zeroValue0
 t3 := Tryz.underlying3
 a3 := Tryz.isAgg3
 z3 := Tryz.sizeOf3
 v3 := Tryz.zeroValue3
 t4 := Tryz.underlying4
 a4 := Tryz.isAgg4
 z4 := Tryz.sizeOf4
 v4 := Tryz.zeroValue4
 t5 := Tryz.underlying5
 a5 := Tryz.isAgg5
 z5 := Tryz.sizeOf5
 v5 := Tryz.zeroValue5
 t9 := Tryz.underlying9
 a9 := Tryz.isAgg9
 z9 := Tryz.sizeOf9
 v9 := Tryz.zeroValue9
 t46 := Tryz.underlying136
 a46 := Tryz.isAgg136
 z46 := Tryz.sizeOf136
 v46 := Tryz.zeroValue136
 t53 := Tryz.underlying127
 a53 := Tryz.isAgg127
 z53 := Tryz.sizeOf127
 v53 := Tryz.zeroValue127
 t212 := Tryz.underlying201
 a212 := Tryz.isAgg201
 z212 := Tryz.sizeOf201
 v212 := Tryz.zeroValue201
 g17 := by kernel_rfl
 i0 := by kernel_rfl
 i3 := by kernel_rfl
 i4 := by kernel_rfl
 i5 := by kernel_rfl
 i9 := by kernel_rfl
 i46 := by kernel_rfl
 i53 := by kernel_rfl
 i212 := by kernel_rfl
 m17 := by kernel_rfl }
open Go.Lib in
theorem Tryz.internal_strconv_numDigits (u : Nat) (h1 : 1 <= u) (h2 : u < 18446744073709551616) (w : World) (htab : Lib.TabIs Tryz.prog w "internal/strconv.uint64pow10" .u64 Lib.pow10Tab) :
  Calls Tryz.prog 99 #[.int .u64 u] w fun e w' => e = .returned (.int .i64 (Lib.nDigits u)) /\ w' = w := Any.internal_strconv_numDigits Tryz.laysM284 u h1 h2 w htab
def Tryz.lays285_ren : Go.Shelf.Ren := ⟨fun | 285 => 123 | n => n, fun | 37 => 66 | 53 => 127 | 3 => 3 | 4 => 4 | 51 => 158 | 9 => 9 | 5 => 5 | 0 => 0 | n => n, fun | n => n⟩
theorem Tryz.lays285 : Go.Proofs.Lays.n285 Tryz.prog Tryz.lays285_ren := {
 mixed := by kernel_rfl
 f285 := Tryz.func123.trans (congrArg some (by kernel_rfl))
 t0 := Tryz.underlying0
 a0 := Tryz.isAgg0
 z0 := Tryz.sizeOf0
 v0 := Tryz.zeroValue0
 t3 := Tryz.underlying3
 a3 := Tryz.isAgg3
 z3 := Tryz.sizeOf3
 v3 := Tryz.zeroValue3
 t4 := Tryz.underlying4
 a4 := Tryz.isAgg4
 z4 := Tryz.sizeOf4
 v4 := Tryz.zeroValue4
 t5 := Tryz.underlying5
 a5 := Tryz.isAgg5
 z5 := Tryz.sizeOf5
 v5 := Tryz.zeroValue5
 t9 := Tryz.underlying9
 a9 := Tryz.isAgg9
 z9 := Tryz.sizeOf9
 v9 := Tryz.zeroValue9
 t37 := Tryz.underlying66
 a37 := Tryz.isAgg66
 z37 := Tryz.sizeOf66
 v37 := Tryz.zeroValue66
 t51 := Tryz.underlying158
 a51 := Tryz.isAgg158
 z51 := Tryz.sizeOf158
 v51 := Tryz.zeroValue158
 t53 := Tryz.underlying127
 a53 := Tryz.isAgg127
 z53 := Tryz.sizeOf127
 v53 := Tryz.zeroValue127 }
open Go.RowKit Go.Sort Go.Lib in
theorem Tryz.internal_strconv_formatBase10 (blk off cap : Nat) (u : Nat) (d : Array UInt8) (w : World) (hH : Holds (fun (b : UInt8) => Value.int .u8 (b.toNat : Int)) w blk off d) (hu : u < 10 ^ d.size) (hu64 : u < 18446744073709551616) (hsz : d.size < 4611686018427387904) :
  Calls Tryz.prog 123 #[.slice (some ⟨blk, off, none⟩) d.size cap, .int .u64 u] w fun e w' =>
   e = .returned (.tuple #[]) /\ ∃ (n v' : Nat) (dk : Array UInt8), w' = (putRow (fun (b : UInt8) => Value.int .u8 (b.toNat : Int)) w blk off dk).drewN n /\ FmtInv d.size u 0 v' dk := Any.internal_strconv_formatBase10 Tryz.lays285 blk off cap u d w hH hu hu64 hsz
def Tryz.laysM182_ren : Go.Shelf.Ren := ⟨fun | 182 => 19 | n => n, fun | 130 => 61 | 9 => 9 | 4 => 4 | 0 => 0 | 93 => 90 | 37 => 66 | 3 => 3 | 91 => 88 | 5 => 5 | n => n, fun | n => n⟩
theorem Tryz.laysM182 : Go.Proofs.LaysM.n182 Tryz.prog Tryz.laysM182_ren := {
 mixed := by kernel_rfl
 f182 := Tryz.func19.trans (congrArg some (by kernel_rfl))
 t0 := Tryz.underlying0
 a0 := Tryz.isAgg0
 z0 := Tryz.sizeOf0
 v0 := Tryz.zeroValue0
 t3 := Tryz.underlying3
 a3 := Tryz.isAgg3
 z3 := Tryz.sizeOf3
 v3 := Tryz.zeroValue3
 t4 := Tryz.underlying4
 a4 := Tryz.isAgg4
 z4 := Tryz.sizeOf4
 v4 := Tryz.zeroValue4
 t9 := Tryz.underlying9
 a9 := Tryz.isAgg9
 z9 := Tryz.sizeOf9
 v9 := Tryz.zeroValue9
 t37 := Tryz.underlying66
 a37 := Tryz.isAgg66
 z37 := Tryz.sizeOf66
 v37 := Tryz.zeroValue66
 t93 := Tryz.underlying90
 a93 := Tryz.isAgg90
 z93 := Tryz.sizeOf90
 v93 := Tryz.zeroValue90
 t130 := Tryz.underlying61
 a130 := Tryz.isAgg61
 z130 := Tryz.sizeOf61
 v130 := Tryz.zeroValue61
 t5 := Tryz.underlying5
 a5 := Tryz.isAgg5
 z5 := Tryz.sizeOf5
 v5 := Tryz.zeroValue5
 t91 := Tryz.underlying88
 a91 := Tryz.isAgg88
 z91 := Tryz.sizeOf88
 v91 := Tryz.zeroValue88
 i0 := by kernel_rfl
 i3 := by kernel_rfl
 i4 := by kernel_rfl
 i5 := by kernel_rfl
 i9 := by kernel_rfl
 i37 := by kernel_rfl
 i91 := by kernel_rfl
 i93 := by kernel_rfl
 i130 := by kernel_rfl }
open Go.RowKit in
theorem Tryz.Buffer_String (B b : Nat) (l : List UInt8) (w : World) (h : Lib.IsBuffer 90 5 B b (Lib.byteCells l) w) :
  Calls Tryz.prog 19 #[.pointer (some ⟨b, 0, none⟩)] w fun e w' => e = .returned (.string ⟨l.toArray⟩) /\ ∃ n, w' = w.drewN n := Any.Buffer_String Tryz.laysM182 B b l w h
def Tryz.laysC245_ren : Go.Shelf.Ren := ⟨fun | 245 => 77 | 279 => 86 | 280 => 87 | 281 => 88 | 282 => 89 | 316 => 108 | 171 => 110 | 205 => 109 | 243 => 146 | 246 => 159 | 283 => 147 | 284 => 99 | 285 => 123 | 286 => 148 | 129 => 96 | 317 => 100 | 318 => 124 | 319 => 160 | 320 => 161 | 337 => 162 | 338 => 163 | n => n, fun | 9 => 9 | 3 => 3 | 75 => 41 | 167 => 150 | 4 => 4 | 168 => 151 | 210 => 185 | 37 => 66 | 0 => 0 | 127 => 227 | 145 => 230 | 143 => 228 | 2 => 2 | 171 => 174 | 53 => 127 | 5 => 5 | 173 => 231 | 212 => 201 | 51 => 158 | 20 => 20 | 213 => 250 | 46 => 136 | 232 => 168 | 233 => 254 | 80 => 64 | n => n, fun | 15 => 10 | 16 => 11 | 17 => 12 | 18 => 20 | 19 => 21 | n => n⟩
theorem Tryz.laysC245 : Go.Proofs.LaysC.n245 Tryz.prog Tryz.laysC245_ren := {
 mixed := by kernel_rfl
 f129 := Tryz.func96.trans (congrArg some (by kernel_rfl))
 f171 := Tryz.func110.trans (congrArg some (by kernel_rfl))
 f205 := Tryz.func109.trans (congrArg some (by kernel_rfl))
 f243 := Tryz.func146.trans (congrArg some (by kernel_rfl))
 f245 := Tryz.func77.trans (congrArg some (by kernel_rfl))
 f246 := Tryz.func159.trans (congrArg some (by kernel_rfl))
 f279 := Tryz.func86.trans (congrArg some (by kernel_rfl))
 f280 := Tryz.func87.trans (congrArg some (by kernel_rfl))
 f281 := Tryz.func88.trans (congrArg some (by kernel_rfl))
 f282 := Tryz.func89.trans (congrArg some (by kernel_rfl))
 f283 := Tryz.func147.trans (congrArg some (by kernel_rfl))
 f284 := Tryz.func99.trans (congrArg some (by kernel_rfl))
 f285 := Tryz.func123.trans (congrArg some (by kernel_rfl))
 f286 := Tryz.func148.trans (congrArg some (by kernel_rfl))
 f316 := Tryz.func108.trans (congrArg some (by kernel_rfl))
 f317 := Tryz.func100.trans (congrArg some (by kernel_rfl))
 f318 := Tryz.func124.trans (congrArg some (by kernel_rfl))
 f319 := Tryz.func160.trans (congrArg some (by kernel_rfl))
 f320 := Tryz.func161.trans (congrArg some (by kernel_rfl))
 f337 := Tryz.func162.trans (congrArg some (by kernel_rfl))
 f338 := Tryz.func163.trans (congrArg some (by kernel_rfl))
 t0 := Tryz.underlying0
 a0 := Tryz.isAgg0
 z0 := Tryz.sizeOf0
 v0 := Tryz.zeroValue0
 t2 := Tryz.underlying2
 a2 := Tryz.isAgg2
 z2 := Tryz.sizeOf2
 v2 := Tryz.zeroValue2
 t3 := Tryz.underlying3
 a3 := Tryz.isAgg3
 z3 := Tryz.sizeOf3
 v3 := Tryz.zeroValue3
 t4 := Tryz.underlying4
 a4 := Tryz.isAgg4
 z4 := Tryz.sizeOf4
 v4 := Tryz.zeroValue4
 t5 := Tryz.underlying5
 a5 := Tryz.isAgg5
 z5 := Tryz.sizeOf5
 v5 := Tryz.zeroValue5
 t9 := Tryz.underlying9
 a9 := Tryz.isAgg9
 z9 := Tryz.sizeOf9
 v9 := Tryz.zeroValue9
 t20 := Tryz.underlying20
 a20 := Tryz.isAgg20
 z20 := Tryz.sizeOf20
 v20 := Tryz.zeroValue20
 t37 := Tryz.underlying66
 a37 := Tryz.isAgg66
 z37 := Tryz.sizeOf66
 v37 := Tryz.zeroValue66
 t46 := Tryz.underlying136
 a46 := Tryz.isAgg136
 z46 := Tryz.sizeOf136
 v46 := Tryz.zeroValue136
 t51 := Tryz.underlying158
 a51 := Tryz.isAgg158
 z51 := Tryz.sizeOf158
 v51 := Tryz.zeroValue158
 t53 := Tryz.underlying127
 a53 := Tryz.isAgg127
 z53 := Tryz.sizeOf127
 v53 := Tryz.zeroValue127
 t75 := Tryz.underlying41
 a75 := Tryz.isAgg41
 z75 := Tryz.sizeOf41
 v75 := Tryz.zeroValue41
 t127 := Tryz.underlying227
 a127 := Tryz.isAgg227
 z127 := Tryz.sizeOf227
 v127 := Tryz.zeroValue227
 t143 := Tryz.underlying228
 a143 := Tryz.isAgg228
 z143 := Tryz.sizeOf228
 v143 := Tryz.zeroValue228
 t145 := Tryz.underlying230
 a145 := Tryz.isAgg230
 z145 := Tryz.sizeOf230
 v145 := Tryz.zeroValue230
 t167 := Tryz.underlying150
 a167 := Tryz.isAgg150
 z167 := Tryz.sizeOf150
 v167 := Tryz.zeroValue150
 t168 := Tryz.underlying151
 a168 := Tryz.isAgg151
 z168 := Tryz.sizeOf151
 v168 := Tryz.zeroValue151
 t171 := Tryz.underlying174
 a171 := Tryz.isAgg174
 z171 := Tryz.sizeOf174
 v171 := Tryz.zeroValue174
 t173 := Tryz.underlying231
 a173 := Tryz.isAgg231
 z173 := Tryz.sizeOf231
 v173 := Tryz.zeroValue231
 t210 := Tryz.underlying185
 a210 := Tryz.isAgg185
 z210 := Tryz.sizeOf185
 v210 := Tryz.zeroValue185
 t212 := Tryz.underlying201
 a212 := Tryz.isAgg201
 z212 := Tryz.sizeOf201
 v212 := Tryz.zeroValue201
 t213 := Tryz.underlying250
 a213 := Tryz.isAgg250
 z213 := Tryz.sizeOf250
 t232 := Tryz.underlying168
 a232 := Tryz.isAgg168
 z232 := Tryz.sizeOf168
 v232 := Tryz.zeroValue168
 t233 := Tryz.underlying254
 a233 := Tryz.isAgg254
 z233 := Tryz.sizeOf254
 v233 := Tryz.zeroValue254
 g15 := by kernel_rfl
 g16 := by kernel_rfl
 g17 := by kernel_rfl
 g18 := by kernel_rfl
 g19 := by kernel_rfl
 t80 := Tryz.underlying64
 a80 := Tryz.isAgg64
 z80 := Tryz.sizeOf64
 v80 := Tryz.zeroValue64
 i0 := by kernel_rfl
 i2 := by kernel_rfl
 i3 := by kernel_rfl
 i4 := by kernel_rfl
 i5 := by kernel_rfl
 i9 := by kernel_rfl
 i20 := by kernel_rfl
 i37 := by kernel_rfl
 i46 := by kernel_rfl
 i51 := by kernel_rfl
 i53 := by kernel_rfl
 i75 := by kernel_rfl
 i80 := by kernel_rfl
 i127 := by kernel_rfl
 i143 := by kernel_rfl
 i145 := by kernel_rfl
 i167 := by kernel_rfl
 i168 := by kernel_rfl
 i171 := by kernel_rfl
 i173 := by kernel_rfl
 i210 := by kernel_rfl
 i212 := by kernel_rfl
 i232 := by kernel_rfl
 i233 := by kernel_rfl
 m15 := by kernel_rfl
 m16 := by kernel_rfl
 m17 := by kernel_rfl
 m18 := by kernel_rfl
 m19 := by kernel_rfl
 c0 := by kernel_rfl
 c2 := by kernel_rfl
 c3 := by kernel_rfl
 c4 := by kernel_rfl
 c5 := by kernel_rfl
 c9 := by kernel_rfl
 c20 := by kernel_rfl
 c37 := by kernel_rfl
 c46 := by kernel_rfl
 c51 := by kernel_rfl
 c53 := by kernel_rfl
 c75 := by kernel_rfl
 c80 := by kernel_rfl
 c127 := by kernel_rfl
 c143 := by kernel_rfl
 c145 := by kernel_rfl
 c167 := by kernel_rfl
 c168 := by kernel_rfl
 c171 := by kernel_rfl
 c173 := by kernel_rfl
 c210 := by kernel_rfl
 c212 := by kernel_rfl
 c213 := by kernel_rfl
 c232 := by kernel_rfl
 c233 := by kernel_rfl }
open Go.RowKit in
theorem Tryz.strconv_toError_syntax (fn s : ByteArray) (base bits : Int) (ev : Value) (w : World) (hlim : s.size <= 281474976710656) (hv : w.cell? ⟨10, 0, none⟩ = some ev) (hev : ev = .nilIface \/ ∃ te pe, ev = .iface te pe) :
  Calls Tryz.prog 77 #[.string fn, .string s, .int .i64 base, .int .i64 bits, .iface 150 (.int .i64 2)] w fun e w' => ∃ N, e = .returned (.iface 151 (.pointer (some ⟨N, 0, none⟩))) /\ w.heap.size <= N /\ w'.heap[N]? = some (.cells #[.string fn, .string s, ev] 185 (0, 0)) /\ Below w.heap.size w w' := Any.strconv_toError_syntax Tryz.laysC245 fn s base bits ev w hlim hv hev
open Go.RowKit in
theorem Tryz.strconv_toError_range (fn s : ByteArray) (base bits : Int) (ev : Value) (w : World) (hlim : s.size <= 281474976710656) (hv : w.cell? ⟨11, 0, none⟩ = some ev) (hev : ev = .nilIface \/ ∃ te pe, ev = .iface te pe) :
  Calls Tryz.prog 77 #[.string fn, .string s, .int .i64 base, .int .i64 bits, .iface 150 (.int .i64 1)] w fun e w' => ∃ N, e = .returned (.iface 151 (.pointer (some ⟨N, 0, none⟩))) /\ w.heap.size <= N /\ w'.heap[N]? = some (.cells #[.string fn, .string s, ev] 185 (0, 0)) /\ Below w.heap.size w w' := Any.strconv_toError_range Tryz.laysC245 fn s base bits ev w hlim hv hev
def Tryz.laysM179_ren : Go.Shelf.Ren := ⟨fun | 179 => 36 | 251 => 61 | 252 => 62 | 181 => 71 | 184 => 72 | 290 => 73 | 324 => 82 | n => n, fun | 130 => 61 | 5 => 5 | 75 => 41 | 0 => 0 | 93 => 90 | 91 => 88 | 3 => 3 | 131 => 112 | 4 => 4 | 37 => 66 | 20 => 20 | 80 => 64 | 9 => 9 | n => n, fun | 14 => 2 | n => n⟩
theorem Tryz.laysM179 : Go.Proofs.LaysM.n179 Tryz.prog Tryz.laysM179_ren := {
 mixed := by kernel_rfl
 f179 := Tryz.func36.trans (congrArg some (by kernel_rfl))
 f181 := Tryz.func71.trans (congrArg some (by kernel_rfl))
 f184 := Tryz.func72.trans (congrArg some (by kernel_rfl))
 f251 := Tryz.func61.trans (congrArg some (by kernel_rfl))
 f252 := Tryz.func62.trans (congrArg some (by kernel_rfl))
 f290 := Tryz.func73.trans (congrArg some (by kernel_rfl))
 f324 := Tryz.func82.trans (congrArg some (by kernel_rfl))
 t0 := Tryz.underlying0
 a0 := Tryz.isAgg0
 z0 := Tryz.sizeOf0
 v0 := Tryz.zeroValue0
 t3 := Tryz.underlying3
 a3 := Tryz.isAgg3
 z3 := Tryz.sizeOf3
 v3 := Tryz.zeroValue3
 t4 := Tryz.underlying4
 a4 := Tryz.isAgg4
 z4 := Tryz.sizeOf4
 v4 := Tryz.zeroValue4
 t5 := Tryz.underlying5
 a5 := Tryz.isAgg5
 z5 := Tryz.sizeOf5
 v5 := Tryz.zeroValue5
 t20 := Tryz.underlying20
 a20 := Tryz.isAgg20
 z20 := Tryz.sizeOf20
 v20 := Tryz.zeroValue20
 t37 := Tryz.underlying66
 a37 := Tryz.isAgg66
 z37 := Tryz.sizeOf66
 v37 := Tryz.zeroValue66
 t75 := Tryz.underlying41
 a75 := Tryz.isAgg41
 z75 := Tryz.sizeOf41
 v75 := Tryz.zeroValue41
 t91 := Tryz.underlying88
 a91 := Tryz.isAgg88
 z91 := Tryz.sizeOf88
 v91 := Tryz.zeroValue88
 t93 := Tryz.underlying90
 a93 := Tryz.isAgg90
 z93 := Tryz.sizeOf90
 v93 := Tryz.zeroValue90
 t130 := Tryz.underlying61
 a130 := Tryz.isAgg61
 z130 := Tryz.sizeOf61
 v130 := Tryz.zeroValue61
 t131 := Tryz.underlying112
 a131 := Tryz.isAgg112
 z131 := Tryz.sizeOf112
 v131 := Tryz.zeroValue112
 g14 := by kernel_rfl
 t9 := Tryz.underlying9
 a9 := Tryz.isAgg9
 z9 := Tryz.sizeOf9
 v9 := Tryz.zeroValue9
 t80 := Tryz.underlying64
 a80 := Tryz.isAgg64
 z80 := Tryz.sizeOf64
 v80 := Tryz.zeroValue64
 i0 := by kernel_rfl
 i3 := by kernel_rfl
 i4 := by kernel_rfl
 i5 := by kernel_rfl
 i9 := by kernel_rfl
 i20 := by kernel_rfl
 i37 := by kernel_rfl
 i75 := by kernel_rfl
 i80 := by kernel_rfl
 i91 := by kernel_rfl
 i93 := by kernel_rfl
 i130 := by kernel_rfl
 i131 := by kernel_rfl
 m14 := by kernel_rfl }
def Tryz.laysM178_ren : Go.Shelf.Ren := ⟨fun | 178 => 33 | 251 => 61 | 252 => 62 | 181 => 71 | 184 => 72 | 290 => 73 | 324 => 82 | n => n, fun | 130 => 61 | 9 => 9 | 3 => 3 | 75 => 41 | 0 => 0 | 93 => 90 | 91 => 88 | 131 => 112 | 4 => 4 | 37 => 66 | 20 => 20 | 80 => 64 | 5 => 5 | n => n, fun | 14 => 2 | n => n⟩
theorem Tryz.laysM178 : Go.Proofs.LaysM.n178 Tryz.prog Tryz.laysM178_ren := {
 mixed := by kernel_rfl
 f178 := Tryz.func33.trans (congrArg some (by kernel_rfl))
 f181 := Tryz.func71.trans (congrArg some (by kernel_rfl))
 f184 := Tryz.func72.trans (congrArg some (by kernel_rfl))
 f251 := Tryz.func61.trans (congrArg some (by kernel_rfl))
 f252 := Tryz.func62.trans (congrArg some (by kernel_rfl))
 f290 := Tryz.func73.trans (congrArg some (by kernel_rfl))
 f324 := Tryz.func82.trans (congrArg some (by kernel_rfl))
 t0 := Tryz.underlying0
 a0 := Tryz.isAgg0
 z0 := Tryz.sizeOf0
 v0 := Tryz.zeroValue0
 t3 := Tryz.underlying3
 a3 := Tryz.isAgg3
 z3 := Tryz.sizeOf3
 v3 := Tryz.zeroValue3
 t4 := Tryz.underlying4
 a4 := Tryz.isAgg4
 z4 := Tryz.sizeOf4
 v4 := Tryz.zeroValue4
 t9 := Tryz.underlying9
 a9 := Tryz.isAgg9
 z9 := Tryz.sizeOf9
 v9 := Tryz.zeroValue9
 t20 := Tryz.underlying20
 a20 := Tryz.isAgg20
 z20 := Tryz.sizeOf20
 v20 := Tryz.zeroValue20
 t37 := Tryz.underlying66
 a37 := Tryz.isAgg66
 z37 := Tryz.sizeOf66
 v37 := Tryz.zeroValue66
 t75 := Tryz.underlying41
 a75 := Tryz.isAgg41
 z75 := Tryz.sizeOf41
 v75 := Tryz.zeroValue41
 t91 := Tryz.underlying88
 a91 := Tryz.isAgg88
 z91 := Tryz.sizeOf88
 v91 := Tryz.zeroValue88
 t93 := Tryz.underlying90
 a93 := Tryz.isAgg90
 z93 := Tryz.sizeOf90
 v93 := Tryz.zeroValue90
 t130 := Tryz.underlying61
 a130 := Tryz.isAgg61
 z130 := Tryz.sizeOf61
 v130 := Tryz.zeroValue61
 t131 := Tryz.underlying112
 a131 := Tryz.isAgg112
 z131 := Tryz.sizeOf112
 v131 := Tryz.zeroValue112
 g14 := by kernel_rfl
 t5 := Tryz.underlying5
 a5 := Tryz.isAgg5
 z5 := Tryz.sizeOf5
 v5 := Tryz.zeroValue5
 t80 := Tryz.underlying64
 a80 := Tryz.isAgg64
 z80 := Tryz.sizeOf64
 v80 := Tryz.zeroValue64
 i0 := by kernel_rfl
 i3 := by kernel_rfl
 i4 := by kernel_rfl
 i5 := by kernel_rfl
 i9 := by kernel_rfl
 i20 := by kernel_rfl
 i37 := by kernel_rfl
 i75 := by kernel_rfl
 i80 := by kernel_rfl
 i91 := by kernel_rfl
 i93 := by kernel_rfl
 i130 := by kernel_rfl
 i131 := by kernel_rfl
 m14 := by kernel_rfl }
def Tryz.laysM180_ren : Go.Shelf.Ren := ⟨fun | 180 => 35 | 251 => 61 | 252 => 62 | 181 => 71 | 184 => 72 | 290 => 73 | 324 => 82 | n => n, fun | 130 => 61 | 37 => 66 | 3 => 3 | 75 => 41 | 0 => 0 | 93 => 90 | 91 => 88 | 131 => 112 | 4 => 4 | 20 => 20 | 5 => 5 | 80 => 64 | 9 => 9 | n => n, fun | 14 => 2 | n => n⟩
theorem Tryz.laysM180 : Go.Proofs.LaysM.n180 Tryz.prog Tryz.laysM180_ren := {
 mixed := by kernel_rfl
 f180 := Tryz.func35.trans (congrArg some (by kernel_rfl))
 f181 := Tryz.func71.trans (congrArg some (by kernel_rfl))
 f184 := Tryz.func72.trans (congrArg some (by kernel_rfl))
 f251 := Tryz.func61.trans (congrArg some (by kernel_rfl))
 f252 := Tryz.func62.trans (congrArg some (by kernel_rfl))
 f290 := Tryz.func73.trans (congrArg some (by kernel_rfl))
 f324 := Tryz.func82.trans (congrArg some (by kernel_rfl))
 t0 := Tryz.underlying0
 a0 := Tryz.isAgg0
 z0 := Tryz.sizeOf0
 v0 := Tryz.zeroValue0
 t3 := Tryz.underlying3
 a3 := Tryz.isAgg3
 z3 := Tryz.sizeOf3
 v3 := Tryz.zeroValue3
 t4 := Tryz.underlying4
 a4 := Tryz.isAgg4
 z4 := Tryz.sizeOf4
 v4 := Tryz.zeroValue4
 t20 := Tryz.underlying20
 a20 := Tryz.isAgg20
 z20 := Tryz.sizeOf20
 v20 := Tryz.zeroValue20
 t37 := Tryz.underlying66
 a37 := Tryz.isAgg66
 z37 := Tryz.sizeOf66
 v37 := Tryz.zeroValue66
 t75 := Tryz.underlying41
 a75 := Tryz.isAgg41
 z75 := Tryz.sizeOf41
 v75 := Tryz.zeroValue41
 t91 := Tryz.underlying88
 a91 := Tryz.isAgg88
 z91 := Tryz.sizeOf88
 v91 := Tryz.zeroValue88
 t93 := Tryz.underlying90
 a93 := Tryz.isAgg90
 z93 := Tryz.sizeOf90
 v93 := Tryz.zeroValue90
 t130 := Tryz.underlying61
 a130 := Tryz.isAgg61
 z130 := Tryz.sizeOf61
 v130 := Tryz.zeroValue61
 t131 := Tryz.underlying112
 a131 := Tryz.isAgg112
 z131 := Tryz.sizeOf112
 v131 := Tryz.zeroValue112
 g14 := by kernel_rfl
 t5 := Tryz.underlying5
 a5 := Tryz.isAgg5
 z5 := Tryz.sizeOf5
 v5 := Tryz.zeroValue5
 t9 := Tryz.underlying9
 a9 := Tryz.isAgg9
 z9 := Tryz.sizeOf9
 v9 := Tryz.zeroValue9
 t80 := Tryz.underlying64
 a80 := Tryz.isAgg64
 z80 := Tryz.sizeOf64
 v80 := Tryz.zeroValue64
 i0 := by kernel_rfl
 i3 := by kernel_rfl
 i4 := by kernel_rfl
 i5 := by kernel_rfl
 i9 := by kernel_rfl
 i20 := by kernel_rfl
 i37 := by kernel_rfl
 i75 := by kernel_rfl
 i80 := by kernel_rfl
 i91 := by kernel_rfl
 i93 := by kernel_rfl
 i130 := by kernel_rfl
 i131 := by kernel_rfl
 m14 := by kernel_rfl }
open Go.RowKit in
theorem Tryz.Buffer_WriteByte_k (B b : Nat) (bs : List Value) (c : Int) (w : World) (h : Lib.IsBuffer 90 5 B b bs w) (hBw : B <= w.heap.size) (h1 : ∀ v ∈ bs, v.oneCell' = true) (hlim : bs.length + 1 <= 140737488355328) :
  Calls Tryz.prog 36 #[.pointer (some ⟨b, 0, none⟩), .int .u8 c] w fun e w' => e = .returned .nilIface /\ Lib.IsBuffer 90 5 B b (bs ++ [.int .u8 c]) w' /\ Below B w w' /\ Lib.OthersKept 5 (some b) w w' := Any.Buffer_WriteByte_k Tryz.laysM179 B b bs c w h hBw h1 hlim
open Go.RowKit in
theorem Tryz.Buffer_WriteString_k (B b : Nat) (bs : List Value) (s : ByteArray) (w : World) (h : Lib.IsBuffer 90 5 B b bs w) (hBw : B <= w.heap.size) (h1 : ∀ v ∈ bs, v.oneCell' = true) (hlim : bs.length + s.size <= 140737488355328) :
  Calls Tryz.prog 33 #[.pointer (some ⟨b, 0, none⟩), .string s] w fun e w' => e = .returned (.tuple #[.int .i64 s.size, .nilIface]) /\ Lib.IsBuffer 90 5 B b (bs ++ Lib.byteCells s.data.toList) w' /\ Below B w w' /\ Lib.OthersKept 5 (some b) w w' := Any.Buffer_WriteString_k Tryz.laysM178 B b bs s w h hBw h1 hlim
open Go.RowKit in
theorem Tryz.Buffer_Write_any (B b : Nat) (bs cs : List Value) (a : Addr) (n c : Nat) (w : World) (h : Lib.IsBuffer 90 5 B b bs w) (hBw : B <= w.heap.size) (h1 : ∀ v ∈ bs, v.oneCell' = true) (hn : cs.length = n) (hab : a.block ≠ b) (hsrc : ∀ j v, cs[j]? = some v -> w.cell? (a.add j) = some v) (h1c : ∀ v ∈ cs, v.oneCell' = true) (hlim : bs.length + n <= 140737488355328) :
  Calls Tryz.prog 35 #[.pointer (some ⟨b, 0, none⟩), .slice (some a) n c] w fun e w' => e = .returned (.tuple #[.int .i64 n, .nilIface]) /\ Lib.IsBuffer 90 5 B b (bs ++ cs) w' /\ Below B w w' /\ Lib.OthersKept 5 (some b) w w' := Any.Buffer_Write_any Tryz.laysM180 B b bs cs a n c w h hBw h1 hn hab hsrc h1c hlim
end Go.Proofs
namespace Go.Proofs.YtdfolbmoohcblaaGreatDoor
set_option maxHeartbeats 1000000
set_option maxRecDepth 100000
open Go.RowKit
structure RE (w : World) : Prop where
 pe : PE w
 e10 : ∃ t v, w.cell? ⟨10, 0, none⟩ = some (.iface t v)
 e11 : ∃ t v, w.cell? ⟨11, 0, none⟩ = some (.iface t v)
 env : Env w
 fold : Fold w
theorem RE.below {w w' : World} (h : RE w) (hb : Below w.heap.size w w') : RE w' := by
 obtain ⟨pe, ⟨t, v, h10⟩, ⟨t', v', h11⟩, env, fold⟩ := h
 exact ⟨pe.below hb, ⟨t, v, cell_later hb h10⟩, ⟨t', v', cell_later hb h11⟩, env.below hb, fold.below hb⟩
def PfPost (l : List UInt8) (w : World) (e' : Ending) (w' : World) : Prop :=
 Below w.heap.size w w' /\ ((∃ x, VN x /\ e' = .returned (.tuple #[.float .f64 x, .nilIface]) /\ ∀ y, pfP l = some y -> y = x) \/ (pfP l = none /\ ∃ (x t : Nat) (v : Value), e' = .returned (.tuple #[.float .f64 x, .iface t v])))
theorem ParseFloat_any (s : ByteArray) (w : World) (hs : s.size <= 1099511627776) (hre : RE w) : Calls Tryz.prog 66 #[.string s, .int .i64 64] w (PfPost (ls s) w) := by
 have H := Lib.hid (And.intro (iParseFloat_any s w hs hre.pe) hre)
 clear hre
 go_enter Tryz.func66, Tryz.ntmps66
 go_wp2_with fail
 refine H.out.1.mono ?_
 rintro e w1 ⟨hb, ⟨x, hv, rfl, hp⟩ | ⟨hp, x, v, hv, rfl⟩⟩
 ·have HB := Lib.hid (And.intro hb (And.intro hv hp))
  clear hb hv hp
  go_wp2_with fail
  go_returns
  exact ⟨HB.out.1, .inl ⟨x, HB.out.2.1, rfl, HB.out.2.2⟩⟩
 ·have HB := Lib.hid (And.intro hb (And.intro (H.out.2.below hb) hp))
  clear hb hp
  rcases hv with rfl | rfl
  ·go_wp2_with fail
   obtain ⟨t, v, h11⟩ := HB.out.2.1.e11
   have hc := Tryz.strconv_toError_range { data := #[80, 97, 114, 115, 101, 70, 108, 111, 97, 116] } s 0 64 (.iface t v) w1 (by omega) h11 (.inr ⟨t, v, rfl⟩)
   refine hc.mono ?_
   clear hc h11
   rintro e w2 ⟨N, rfl, -, -, hb2⟩
   have HC := Lib.hid hb2
   clear hb2
   go_wp2_with fail
   go_returns
   exact ⟨HB.out.1.trans (HC.out.mono HB.out.1.size), .inr ⟨HB.out.2.2, x, _, _, rfl⟩⟩
  ·go_wp2_with fail
   obtain ⟨t, v, h10⟩ := HB.out.2.1.e10
   have hc := Tryz.strconv_toError_syntax { data := #[80, 97, 114, 115, 101, 70, 108, 111, 97, 116] } s 0 64 (.iface t v) w1 (by omega) h10 (.inr ⟨t, v, rfl⟩)
   refine hc.mono ?_
   clear hc h10
   rintro e w2 ⟨N, rfl, -, -, hb2⟩
   have HC := Lib.hid hb2
   clear hb2
   go_wp2_with fail
   go_returns
   exact ⟨HB.out.1.trans (HC.out.mono HB.out.1.size), .inr ⟨HB.out.2.2, x, _, _, rfl⟩⟩
end Go.Proofs.YtdfolbmoohcblaaGreatDoor
namespace Go.Proofs.YtdfolbmoohcblaaGreatDoor
set_option maxHeartbeats 4000000
set_option maxRecDepth 100000
open Go.RowKit
theorem run_store_float (a : Addr) (x : Nat) (m : Mode) (w : World) : (store a (.float .f64 x) m).run Tryz.prog w = stored Tryz.prog w a (.float .f64 x) m := run_store Tryz.prog w a _ m rfl
def ptP (l : List UInt8) : Option (Nat × Nat) :=
 if upto32 l < l.length then match pfP (l.take (upto32 l)), pfP (l.drop (upto32 l + 1)) with
  | some x, some y => some (x, y)
  | _, _ => none
 else none
def PV (p : Nat × Nat) : Value := .agg #[.float .f64 p.1, .float .f64 p.2]
def PpPost (l : List UInt8) (w : World) (e' : Ending) (w' : World) : Prop :=
 Below w.heap.size w w' /\ ((∃ p : Nat × Nat, VN p.1 /\ VN p.2 /\ e' = .returned (.tuple #[PV p, .nilIface]) /\ ∀ q, ptP l = some q -> q = p) \/ (ptP l = none /\ ∃ (p : Nat × Nat) (t : Nat) (v : Value), e' = .returned (.tuple #[PV p, .iface t v])))
theorem pt_cells {w1 : World} {g : Nat} {u v : Value} (hc0 : w1.heap[g]? = some (.cells #[u, v] 47 (0, 0))) (x y : Value) :
  ((w1.setCell ⟨g, 0, none⟩ x).setCell ⟨g, 1, none⟩ y).cell? ⟨g, 0, none⟩ = some x /\ ((w1.setCell ⟨g, 0, none⟩ x).setCell ⟨g, 1, none⟩ y).cell? ⟨g, 1, none⟩ = some y := by
 have h1 := Joins.block_setCell (i := 0) hc0 x
 have h2 := Joins.block_setCell (i := 1) h1 y
 exact ⟨by rw [Joins.cell_of_block h2]; rfl, by rw [Joins.cell_of_block h2]; rfl⟩
theorem parsePoint_any (s : ByteArray) (w : World) (hs : s.size <= 1099511627776) (hre : RE w) : Calls Tryz.prog 41 #[.string s] w (PpPost (ls s) w) := by
 have hb0 : Below w.heap.size w (w.alloc (Obj.cells #[.float .f64 0, .float .f64 0] 47)) := (Below.refl _ w).alloc (Nat.le_refl _) _
 have hcut := cut_any s (w.alloc (Obj.cells #[.float .f64 0, .float .f64 0] 47)) hs
 have H := Lib.hid (And.intro hcut (And.intro hre hb0))
 clear hcut hre hb0
 have hst := run_store_float
 go_enter Tryz.func41, Tryz.ntmps41
 go_wp2_with fail
 refine H.out.1.mono ?_
 rintro e w1 ⟨he, hb1⟩
 have hc0 : w1.heap[w.heap.size]? = some (.cells #[.float .f64 0, .float .f64 0] 47 (0, 0)) := by
  rw [hb1.block _ (by simp)]; exact heap_alloc_new w _
 have hlt1 : 1 < w.heap.size := by obtain ⟨t, v, h⟩ := H.out.2.1.env.notWKT; exact World.block_lt_of_cell? _ _ h
 have hne1 : ¬ w.heap.size = 1 := by omega
 have hne2 : ¬ 1 = w.heap.size := by omega
 have HB : Hid (Below w.heap.size w w1 /\ w1.heap[w.heap.size]? = some (.cells #[.float .f64 0, .float .f64 0] 47 (0, 0))) := ⟨H.out.2.2.trans (hb1.mono (by simp)), hc0⟩
 clear hb1 hc0
 by_cases hu : upto32 (ls s) < (ls s).length
 ·rw [cutV, if_pos hu] at he
  subst he
  obtain ⟨A, hA⟩ : ∃ A, bs ((ls s).take (upto32 (ls s))) = A := ⟨_, rfl⟩
  obtain ⟨B, hB⟩ : ∃ B, bs ((ls s).drop (upto32 (ls s) + 1)) = B := ⟨_, rfl⟩
  have hA1 : A.size <= 1099511627776 := by rw [<- hA, bs_size, List.length_take, ls_length]; omega
  have hB1 : B.size <= 1099511627776 := by rw [<- hB, bs_size, List.length_drop, ls_length]; omega
  have hpt : ptP (ls s) = match pfP (ls A), pfP (ls B) with
    | some x, some y => some (x, y)
    | _, _ => none := by unfold ptP; rw [if_pos hu, <- hA, <- hB, ls_bs, ls_bs]
  rw [hA, hB]
  have HP := Lib.hid hpt
  clear hu hA hB hpt
  have hre1 := H.out.2.1.below HB.out.1
  have hx := ParseFloat_any A w1 hA1 hre1
  have HX := Lib.hid hx
  clear hx hre1
  go_wp2_with fail
  refine HX.out.mono ?_
  rintro e w2 ⟨hb2, ⟨x, hv, rfl, hp⟩ | ⟨hp, x, t, v, rfl⟩⟩
  ·have HB2 : Hid (Below w.heap.size w w2 /\ w2.heap[w.heap.size]? = some (.cells #[.float .f64 0, .float .f64 0] 47 (0, 0))) := ⟨HB.out.1.trans (hb2.mono HB.out.1.size), by rw [hb2.block _ (Array.getElem?_eq_some_iff.1 HB.out.2).1]; exact HB.out.2⟩
   have HV := Lib.hid (And.intro hv hp)
   clear hb2 hv hp
   have hy := ParseFloat_any B w2 hB1 (H.out.2.1.below HB2.out.1)
   have HY := Lib.hid hy
   clear hy
   go_wp2_with fail
   refine HY.out.mono ?_
   rintro e w3 ⟨hb3, ⟨y, hv, rfl, hp⟩ | ⟨hp, y, t, v, rfl⟩⟩
   ·have HB3 : Hid (Below w.heap.size w w3 /\ w3.heap[w.heap.size]? = some (.cells #[.float .f64 0, .float .f64 0] 47 (0, 0))) := ⟨HB2.out.1.trans (hb3.mono HB2.out.1.size), by rw [hb3.block _ (Array.getElem?_eq_some_iff.1 HB2.out.2).1]; exact HB2.out.2⟩
    have HW := Lib.hid (And.intro hv hp)
    clear hb3 hv hp
    have k0 : w3.cell? ⟨w.heap.size, 0, none⟩ = some (.float .f64 0) := by rw [Joins.cell_of_block HB3.out.2]; rfl
    have k1 : w3.cell? ⟨w.heap.size, 1, none⟩ = some (.float .f64 0) := by rw [Joins.cell_of_block HB3.out.2]; rfl
    have uf0 : w3.frozen? ⟨w.heap.size, 0, none⟩ = false := Joins.unfrozen_of_block HB3.out.2 0
    have uf1 : w3.frozen? ⟨w.heap.size, 1, none⟩ = false := Joins.unfrozen_of_block HB3.out.2 1
    go_wp2_with fail
    obtain ⟨q0, q1⟩ := pt_cells HB3.out.2 (.float .f64 x) (.float .f64 y)
    refine bodyPost_ret (v := .tuple #[PV (x, y), .nilIface]) (by simp [PV, results, Tryz.results41, go_sem, q0, q1]) rfl ⟨?_, .inl ⟨(x, y), HV.out.1, HW.out.1, rfl, ?_⟩⟩
    ·exact (HB3.out.1.setCell (p := ⟨w.heap.size, 0, none⟩) (Nat.le_refl _) _).setCell (p := ⟨w.heap.size, 1, none⟩) (Nat.le_refl _) _
    ·intro q hq
     rw [HP.out] at hq
     cases hx : pfP (ls A) with
     | none => rw [hx] at hq; cases hq
     | some x' =>
      cases hy : pfP (ls B) with
      | none => rw [hx, hy] at hq; cases hq
      | some y' =>
       rw [hx, hy] at hq
       cases hq
       rw [HV.out.2 x' hx, HW.out.2 y' hy]
   ·have HB3 : Hid (Below w.heap.size w w3 /\ w3.heap[w.heap.size]? = some (.cells #[.float .f64 0, .float .f64 0] 47 (0, 0))) := ⟨HB2.out.1.trans (hb3.mono HB2.out.1.size), by rw [hb3.block _ (Array.getElem?_eq_some_iff.1 HB2.out.2).1]; exact HB2.out.2⟩
    have HN : Hid (ptP (ls s) = none) := by show _ = _; rw [HP.out, hp]; cases pfP (ls A) <;> rfl
    clear hb3 hp
    have k0 : w3.cell? ⟨w.heap.size, 0, none⟩ = some (.float .f64 0) := by rw [Joins.cell_of_block HB3.out.2]; rfl
    have k1 : w3.cell? ⟨w.heap.size, 1, none⟩ = some (.float .f64 0) := by rw [Joins.cell_of_block HB3.out.2]; rfl
    have uf0 : w3.frozen? ⟨w.heap.size, 0, none⟩ = false := Joins.unfrozen_of_block HB3.out.2 0
    have uf1 : w3.frozen? ⟨w.heap.size, 1, none⟩ = false := Joins.unfrozen_of_block HB3.out.2 1
    obtain ⟨tN, vN, hN⟩ := (H.out.2.1.below HB3.out.1).env.notWKT
    go_wp2_with fail
    go_region
    go_wp2_with fail
    obtain ⟨q0, q1⟩ := pt_cells HB3.out.2 (.float .f64 0) (.float .f64 0)
    refine bodyPost_ret (v := .tuple #[PV (0, 0), .iface tN vN]) (by simp [PV, results, Tryz.results41, go_sem, q0, q1]) rfl ⟨?_, .inr ⟨?_, (0, 0), tN, vN, rfl⟩⟩
    ·exact ((HB3.out.1.setCell (p := ⟨w.heap.size, 0, none⟩) (Nat.le_refl _) _).setCell (p := ⟨w.heap.size, 1, none⟩) (Nat.le_refl _) _).trans ⟨rfl, rfl, rfl, Nat.le_refl _, fun _ _ => rfl⟩
    ·exact HN.out
  ·have HB2 : Hid (Below w.heap.size w w2 /\ w2.heap[w.heap.size]? = some (.cells #[.float .f64 0, .float .f64 0] 47 (0, 0))) := ⟨HB.out.1.trans (hb2.mono HB.out.1.size), by rw [hb2.block _ (Array.getElem?_eq_some_iff.1 HB.out.2).1]; exact HB.out.2⟩
   have HN : Hid (ptP (ls s) = none) := by show _ = _; rw [HP.out, hp]
   clear hb2 hp
   have k0 : w2.cell? ⟨w.heap.size, 0, none⟩ = some (.float .f64 0) := by rw [Joins.cell_of_block HB2.out.2]; rfl
   have k1 : w2.cell? ⟨w.heap.size, 1, none⟩ = some (.float .f64 0) := by rw [Joins.cell_of_block HB2.out.2]; rfl
   have uf0 : w2.frozen? ⟨w.heap.size, 0, none⟩ = false := Joins.unfrozen_of_block HB2.out.2 0
   have uf1 : w2.frozen? ⟨w.heap.size, 1, none⟩ = false := Joins.unfrozen_of_block HB2.out.2 1
   obtain ⟨tN, vN, hN⟩ := (H.out.2.1.below HB2.out.1).env.notWKT
   go_wp2_with fail
   go_region
   go_wp2_with fail
   obtain ⟨q0, q1⟩ := pt_cells HB2.out.2 (.float .f64 0) (.float .f64 0)
   refine bodyPost_ret (v := .tuple #[PV (0, 0), .iface tN vN]) (by simp [PV, results, Tryz.results41, go_sem, q0, q1]) rfl ⟨?_, .inr ⟨?_, (0, 0), tN, vN, rfl⟩⟩
   ·exact ((HB2.out.1.setCell (p := ⟨w.heap.size, 0, none⟩) (Nat.le_refl _) _).setCell (p := ⟨w.heap.size, 1, none⟩) (Nat.le_refl _) _).trans ⟨rfl, rfl, rfl, Nat.le_refl _, fun _ _ => rfl⟩
   ·exact HN.out
 ·rw [cutV, if_neg hu] at he
  subst he
  have HN : Hid (ptP (ls s) = none) := by show _ = _; unfold ptP; exact if_neg hu
  clear hu
  have k0 : w1.cell? ⟨w.heap.size, 0, none⟩ = some (.float .f64 0) := by rw [Joins.cell_of_block HB.out.2]; rfl
  have k1 : w1.cell? ⟨w.heap.size, 1, none⟩ = some (.float .f64 0) := by rw [Joins.cell_of_block HB.out.2]; rfl
  have uf0 : w1.frozen? ⟨w.heap.size, 0, none⟩ = false := Joins.unfrozen_of_block HB.out.2 0
  have uf1 : w1.frozen? ⟨w.heap.size, 1, none⟩ = false := Joins.unfrozen_of_block HB.out.2 1
  obtain ⟨tN, vN, hN⟩ := (H.out.2.1.below HB.out.1).env.notWKT
  go_wp2_with fail
  go_region
  go_wp2_with fail
  obtain ⟨q0, q1⟩ := pt_cells HB.out.2 (.float .f64 0) (.float .f64 0)
  refine bodyPost_ret (v := .tuple #[PV (0, 0), .iface tN vN]) (by simp [PV, results, Tryz.results41, go_sem, q0, q1]) rfl ⟨?_, .inr ⟨?_, (0, 0), tN, vN, rfl⟩⟩
  ·exact ((HB.out.1.setCell (p := ⟨w.heap.size, 0, none⟩) (Nat.le_refl _) _).setCell (p := ⟨w.heap.size, 1, none⟩) (Nat.le_refl _) _).trans ⟨rfl, rfl, rfl, Nat.le_refl _, fun _ _ => rfl⟩
  ·exact HN.out
end Go.Proofs.YtdfolbmoohcblaaGreatDoor
