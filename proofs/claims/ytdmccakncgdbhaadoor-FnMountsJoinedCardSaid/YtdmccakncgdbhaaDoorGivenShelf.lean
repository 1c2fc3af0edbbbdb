/- Contracts of Go's library at this program, laid by the shelf's own tool: plain declarations. Conditions: as each says. -/
import Derived.Shelf.Strings.Builder2
import Derived.Shelf.Strings.OnBuilder
import Derived.Shelf.Small.Strs
import Derived.Shelf.Strconv.Atoi
import Derived.Shelf.Strings.Search1
import Derived.Shelf.Strings.Prefix
import Derived.Test.YtdmccakncgdbhaaDoorProg
namespace Go.Proofs
open Go.Shelf
def Tryd.lays156_ren : Go.Shelf.Ren := ⟨fun | 156 => 42 | 165 => 51 | 166 => 52 | 169 => 53 | 240 => 57 | 241 => 58 | 276 => 65 | 277 => 66 | n => n, fun | 31 => 28 | 9 => 9 | 3 => 3 | 4 => 4 | 0 => 0 | 20 => 20 | 72 => 89 | 76 => 84 | 70 => 87 | 37 => 76 | 75 => 52 | 127 => 92 | 164 => 99 | 5 => 5 | 80 => 64 | n => n, fun | n => n⟩
theorem Tryd.lays156 : Go.Proofs.Lays.n156 Tryd.prog Tryd.lays156_ren := {
  mixed := by kernel_rfl
  f156 := Tryd.func42.trans (congrArg some (by kernel_rfl))
  f165 := Tryd.func51.trans (congrArg some (by kernel_rfl))
  f166 := Tryd.func52.trans (congrArg some (by kernel_rfl))
  f169 := Tryd.func53.trans (congrArg some (by kernel_rfl))
  f240 := Tryd.func57.trans (congrArg some (by kernel_rfl))
  f241 := Tryd.func58.trans (congrArg some (by kernel_rfl))
  f276 := Tryd.func65.trans (congrArg some (by kernel_rfl))
  f277 := Tryd.func66.trans (congrArg some (by kernel_rfl))
  t0 := Tryd.underlying0
  a0 := Tryd.isAgg0
  z0 := Tryd.sizeOf0
  v0 := Tryd.zeroValue0
  t3 := Tryd.underlying3
  a3 := Tryd.isAgg3
  z3 := Tryd.sizeOf3
  v3 := Tryd.zeroValue3
  t4 := Tryd.underlying4
  a4 := Tryd.isAgg4
  z4 := Tryd.sizeOf4
  v4 := Tryd.zeroValue4
  t9 := Tryd.underlying9
  a9 := Tryd.isAgg9
  z9 := Tryd.sizeOf9
  v9 := Tryd.zeroValue9
  t20 := Tryd.underlying20
  a20 := Tryd.isAgg20
  z20 := Tryd.sizeOf20
  v20 := Tryd.zeroValue20
  t31 := Tryd.underlying28
  a31 := Tryd.isAgg28
  z31 := Tryd.sizeOf28
  v31 := Tryd.zeroValue28
  t37 := Tryd.underlying76
  a37 := Tryd.isAgg76
  z37 := Tryd.sizeOf76
  v37 := Tryd.zeroValue76
  t70 := Tryd.underlying87
  a70 := Tryd.isAgg87
  z70 := Tryd.sizeOf87
  v70 := Tryd.zeroValue87
  t72 := Tryd.underlying89
  a72 := Tryd.isAgg89
  z72 := Tryd.sizeOf89
  v72 := Tryd.zeroValue89
  t75 := Tryd.underlying52
  a75 := Tryd.isAgg52
  z75 := Tryd.sizeOf52
  v75 := Tryd.zeroValue52
  t76 := Tryd.underlying84
  a76 := Tryd.isAgg84
  z76 := Tryd.sizeOf84
  v76 := Tryd.zeroValue84
  t127 := Tryd.underlying92
  a127 := Tryd.isAgg92
  z127 := Tryd.sizeOf92
  v127 := Tryd.zeroValue92
  t164 := Tryd.underlying99
  a164 := Tryd.isAgg99
  z164 := Tryd.sizeOf99
  v164 := Tryd.zeroValue99 }
theorem Tryd.Builder_Extra_156 : Builder.Extra Tryd.prog Tryd.lays156_ren := {
  sizeBuilder := by kernel_rfl
  liesBuilder := by kernel_rfl
  t5 := Tryd.underlying5
  a5 := Tryd.isAgg5
  z5 := Tryd.sizeOf5
  v5 := Tryd.zeroValue5
  infoByte := by kernel_rfl
  cellsByte := by kernel_rfl
  sizeByte := by kernel_rfl
  neB5 := by decide }
open Go.RowKit in
theorem Tryd.strings_Join_none (a : Option Addr) (c : Nat) (sep : ByteArray) (w : World) :
    Calls Tryd.prog 42 #[.slice a 0 c, .string sep] w fun e w' => e = .returned (.string ⟨#[]⟩) ∧ w' = w := Any.strings_Join_none Tryd.lays156 Tryd.Builder_Extra_156 a c sep w
open Go.RowKit in
theorem Tryd.strings_Join (bk o c : Nat) (xs : List ByteArray) (sep : ByteArray) (w : World) (hcells : ∀ (j : Nat) x, xs[j]? = some x → w.cell? ⟨bk, o + j, none⟩ = some (.string x)) (hbk : bk < w.heap.size) (hN : xs.length ≤ 140737488355328) (hcap : xs.length ≤ c) (hlen : (Lib.join (xs.map (·.data.toList)) sep.data.toList).length ≤ 140737488355328) :
    Calls Tryd.prog 42 #[.slice (some ⟨bk, o, none⟩) xs.length c, .string sep] w fun e w' => e = .returned (.string ⟨(Lib.join (xs.map (·.data.toList)) sep.data.toList).toArray⟩) ∧ Below w.heap.size w w' := Any.strings_Join Tryd.lays156 Tryd.Builder_Extra_156 bk o c xs sep w hcells hbk hN hcap hlen
def Tryd.lays137_ren : Go.Shelf.Ren := ⟨fun | 137 => 50 | 217 => 56 | 266 => 64 | n => n, fun | 9 => 9 | 5 => 5 | 3 => 3 | n => n, fun | n => n⟩
theorem Tryd.lays137 : Go.Proofs.Lays.n137 Tryd.prog Tryd.lays137_ren := {
  mixed := by kernel_rfl
  f137 := Tryd.func50.trans (congrArg some (by kernel_rfl))
  f217 := Tryd.func56.trans (congrArg some (by kernel_rfl))
  f266 := Tryd.func64.trans (congrArg some (by kernel_rfl))
  t3 := Tryd.underlying3
  a3 := Tryd.isAgg3
  z3 := Tryd.sizeOf3
  v3 := Tryd.zeroValue3
  t5 := Tryd.underlying5
  a5 := Tryd.isAgg5
  z5 := Tryd.sizeOf5
  v5 := Tryd.zeroValue5
  t9 := Tryd.underlying9
  a9 := Tryd.isAgg9
  z9 := Tryd.sizeOf9
  v9 := Tryd.zeroValue9 }
open Go.RowKit in
theorem Tryd.strings_IndexByte (s : ByteArray) (c : Int) (w : World) :
    Calls Tryd.prog 50 #[.string s, .int .u8 c] w fun e w' => e = .returned (.int .i64 (Lib.indexByte s.data.toList c.toNat.toUInt8)) ∧ w' = w := Any.strings_IndexByte Tryd.lays137 s c w
def Tryd.lays172_ren : Go.Shelf.Ren := ⟨fun | 172 => 49 | 244 => 54 | 245 => 55 | 247 => 59 | 279 => 60 | 280 => 61 | 281 => 62 | 282 => 63 | 287 => 67 | 316 => 68 | 171 => 69 | 205 => 38 | 321 => 70 | 322 => 71 | 243 => 72 | 246 => 73 | 283 => 74 | 284 => 75 | 285 => 76 | 286 => 77 | 129 => 79 | 317 => 78 | 318 => 80 | 319 => 81 | 320 => 82 | 337 => 83 | 338 => 84 | n => n, fun | 9 => 9 | 3 => 3 | 75 => 52 | 76 => 84 | 4 => 4 | 5 => 5 | 167 => 93 | 37 => 76 | 0 => 0 | 85 => 94 | 2 => 2 | 168 => 96 | 53 => 102 | 175 => 103 | 46 => 77 | 210 => 106 | 127 => 92 | 145 => 83 | 143 => 81 | 21 => 21 | 171 => 109 | 173 => 112 | 212 => 116 | 51 => 117 | 20 => 20 | 213 => 118 | 232 => 122 | 233 => 123 | 80 => 64 | n => n, fun | 15 => 0 | 16 => 1 | 17 => 3 | 18 => 4 | 19 => 5 | n => n⟩
theorem Tryd.lays172 : Go.Proofs.Lays.n172 Tryd.prog Tryd.lays172_ren := {
  mixed := by kernel_rfl
  f129 := Tryd.func79.trans (congrArg some (by kernel_rfl))
  f171 := Tryd.func69.trans (congrArg some (by kernel_rfl))
  f172 := Tryd.func49.trans (congrArg some (by kernel_rfl))
  f205 := Tryd.func38.trans (congrArg some (by kernel_rfl))
  f243 := Tryd.func72.trans (congrArg some (by kernel_rfl))
  f244 := Tryd.func54.trans (congrArg some (by kernel_rfl))
  f245 := Tryd.func55.trans (congrArg some (by kernel_rfl))
  f246 := Tryd.func73.trans (congrArg some (by kernel_rfl))
  f247 := Tryd.func59.trans (congrArg some (by kernel_rfl))
  f279 := Tryd.func60.trans (congrArg some (by kernel_rfl))
  f280 := Tryd.func61.trans (congrArg some (by kernel_rfl))
  f281 := Tryd.func62.trans (congrArg some (by kernel_rfl))
  f282 := Tryd.func63.trans (congrArg some (by kernel_rfl))
  f283 := Tryd.func74.trans (congrArg some (by kernel_rfl))
  f284 := Tryd.func75.trans (congrArg some (by kernel_rfl))
  f285 := Tryd.func76.trans (congrArg some (by kernel_rfl))
  f286 := Tryd.func77.trans (congrArg some (by kernel_rfl))
  f287 := Tryd.func67.trans (congrArg some (by kernel_rfl))
  f316 := Tryd.func68.trans (congrArg some (by kernel_rfl))
  f317 := Tryd.func78.trans (congrArg some (by kernel_rfl))
  f318 := Tryd.func80.trans (congrArg some (by kernel_rfl))
  f319 := Tryd.func81.trans (congrArg some (by kernel_rfl))
  f320 := Tryd.func82.trans (congrArg some (by kernel_rfl))
  f321 := Tryd.func70.trans (congrArg some (by kernel_rfl))
  f322 := Tryd.func71.trans (congrArg some (by kernel_rfl))
  f337 := Tryd.func83.trans (congrArg some (by kernel_rfl))
  f338 := Tryd.func84.trans (congrArg some (by kernel_rfl))
  t0 := Tryd.underlying0
  a0 := Tryd.isAgg0
  z0 := Tryd.sizeOf0
  v0 := Tryd.zeroValue0
  t2 := Tryd.underlying2
  a2 := Tryd.isAgg2
  z2 := Tryd.sizeOf2
  v2 := Tryd.zeroValue2
  t3 := Tryd.underlying3
  a3 := Tryd.isAgg3
  z3 := Tryd.sizeOf3
  v3 := Tryd.zeroValue3
  t4 := Tryd.underlying4
  a4 := Tryd.isAgg4
  z4 := Tryd.sizeOf4
  v4 := Tryd.zeroValue4
  t5 := Tryd.underlying5
  a5 := Tryd.isAgg5
  z5 := Tryd.sizeOf5
  v5 := Tryd.zeroValue5
  t9 := Tryd.underlying9
  a9 := Tryd.isAgg9
  z9 := Tryd.sizeOf9
  v9 := Tryd.zeroValue9
  t20 := Tryd.underlying20
  a20 := Tryd.isAgg20
  z20 := Tryd.sizeOf20
  v20 := Tryd.zeroValue20
  t21 := Tryd.underlying21
  a21 := Tryd.isAgg21
  z21 := Tryd.sizeOf21
  v21 := Tryd.zeroValue21
  t37 := Tryd.underlying76
  a37 := Tryd.isAgg76
  z37 := Tryd.sizeOf76
  v37 := Tryd.zeroValue76
  t46 := Tryd.underlying77
  a46 := Tryd.isAgg77
  z46 := Tryd.sizeOf77
  v46 := Tryd.zeroValue77
  t51 := Tryd.underlying117
  a51 := Tryd.isAgg117
  z51 := Tryd.sizeOf117
  v51 := Tryd.zeroValue117
  t53 := Tryd.underlying102
  a53 := Tryd.isAgg102
  z53 := Tryd.sizeOf102
  v53 := Tryd.zeroValue102
  t75 := Tryd.underlying52
  a75 := Tryd.isAgg52
  z75 := Tryd.sizeOf52
  v75 := Tryd.zeroValue52
  t76 := Tryd.underlying84
  a76 := Tryd.isAgg84
  z76 := Tryd.sizeOf84
  v76 := Tryd.zeroValue84
  t85 := Tryd.underlying94
  a85 := Tryd.isAgg94
  z85 := Tryd.sizeOf94
  v85 := Tryd.zeroValue94
  t127 := Tryd.underlying92
  a127 := Tryd.isAgg92
  z127 := Tryd.sizeOf92
  v127 := Tryd.zeroValue92
  t143 := Tryd.underlying81
  a143 := Tryd.isAgg81
  z143 := Tryd.sizeOf81
  v143 := Tryd.zeroValue81
  t145 := Tryd.underlying83
  a145 := Tryd.isAgg83
  z145 := Tryd.sizeOf83
  v145 := Tryd.zeroValue83
  t167 := Tryd.underlying93
  a167 := Tryd.isAgg93
  z167 := Tryd.sizeOf93
  v167 := Tryd.zeroValue93
  t168 := Tryd.underlying96
  a168 := Tryd.isAgg96
  z168 := Tryd.sizeOf96
  v168 := Tryd.zeroValue96
  t171 := Tryd.underlying109
  a171 := Tryd.isAgg109
  z171 := Tryd.sizeOf109
  v171 := Tryd.zeroValue109
  t173 := Tryd.underlying112
  a173 := Tryd.isAgg112
  z173 := Tryd.sizeOf112
  v173 := Tryd.zeroValue112
  t175 := Tryd.underlying103
  a175 := Tryd.isAgg103
  z175 := Tryd.sizeOf103
  v175 := Tryd.zeroValue103
  t210 := Tryd.underlying106
  a210 := Tryd.isAgg106
  z210 := Tryd.sizeOf106
  v210 := Tryd.zeroValue106
  t212 := Tryd.underlying116
  a212 := Tryd.isAgg116
  z212 := Tryd.sizeOf116
  v212 := Tryd.zeroValue116
  t213 := Tryd.underlying118
  a213 := Tryd.isAgg118
  z213 := Tryd.sizeOf118
  t232 := Tryd.underlying122
  a232 := Tryd.isAgg122
  z232 := Tryd.sizeOf122
  v232 := Tryd.zeroValue122
  t233 := Tryd.underlying123
  a233 := Tryd.isAgg123
  z233 := Tryd.sizeOf123
  v233 := Tryd.zeroValue123
  g15 := by kernel_rfl
  g16 := by kernel_rfl
  g17 := by kernel_rfl
  g18 := by kernel_rfl
  g19 := by kernel_rfl }
open Go.RowKit in
theorem Tryd.strconv_Atoi (s : ByteArray) (n : Int) (hl : s.size ≤ 18) (h : Lib.atoi s.data.toList = some n) (w : World) :
    Calls Tryd.prog 49 #[.string s] w fun e w' => e = .returned (.tuple #[.int .i64 n, .nilIface]) ∧ ∃ t, w' = Lib.bytesWorld w 5 t := Any.strconv_Atoi Tryd.lays172 s n hl h w
def Tryd.lays99_ren : Go.Shelf.Ren := ⟨fun | 99 => 31 | 206 => 47 | n => n, fun | 9 => 9 | 4 => 4 | 3 => 3 | n => n, fun | n => n⟩
theorem Tryd.lays99 : Go.Proofs.Lays.n99 Tryd.prog Tryd.lays99_ren := {
  mixed := by kernel_rfl
  f99 := Tryd.func31.trans (congrArg some (by kernel_rfl))
  f206 := Tryd.func47.trans (congrArg some (by kernel_rfl))
  t3 := Tryd.underlying3
  a3 := Tryd.isAgg3
  z3 := Tryd.sizeOf3
  v3 := Tryd.zeroValue3
  t4 := Tryd.underlying4
  a4 := Tryd.isAgg4
  z4 := Tryd.sizeOf4
  v4 := Tryd.zeroValue4
  t9 := Tryd.underlying9
  a9 := Tryd.isAgg9
  z9 := Tryd.sizeOf9
  v9 := Tryd.zeroValue9 }
open Go.RowKit Go.Lib in
theorem Tryd.strings_HasPrefix (s p : ByteArray) (w : World) :
    Calls Tryd.prog 31 #[.string s, .string p] w fun e w' => e = .returned (.bool (Lib.hasPrefix s.data.toList p.data.toList)) ∧ w' = w := Any.strings_HasPrefix Tryd.lays99 s p w
end Go.Proofs
