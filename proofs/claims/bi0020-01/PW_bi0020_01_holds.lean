import PyProof.Rows.All
import PyProof.FactsAll.list_2
import PyProof.NeKinds
import PyProof.GenQ
import PyProof.Rows.RowBridgeG
import PyProof.Rows.SeqSliceW
import KE.KAnyBase
import KE.KNest
import KE.KFromBytes
import Wide.FinOn
import OpenK.AllK
import Wide.All
import PySem.Challenge.RW_bi0020_01
set_option Elab.async false
section
set_option maxRecDepth 100000
set_option maxHeartbeats 0
set_option linter.unusedVariables false
set_option Elab.async false
open PySem PySem.W PyProof.Rows

noncomputable section
namespace Mine
abbrev pw : Program := PySem.Challenge.pw_bi0020_01
noncomputable def st (i : Nat) : Stmt := pw.main.body.getD i (.Pass default)
noncomputable def me (i j : Nat) : Stmt := match st i with | .ClassDef _ _ _ b _ _ _ _ _ _ _ => b.getD j (.Pass default) | s => s
noncomputable def fname : Stmt → Str | .FunctionDef n _ _ _ _ _ _ _ _ _ => n | _ => default
noncomputable def fargs : Stmt → Arguments | .FunctionDef _ a _ _ _ _ _ _ _ _ => a | _ => default
noncomputable def fbody : Stmt → List Stmt | .FunctionDef _ _ b _ _ _ _ _ _ _ => b | _ => []
noncomputable def fscope : Stmt → Scope | .FunctionDef _ _ _ _ _ _ s _ _ _ => s | _ => default
noncomputable def fpos : Stmt → Pos | .FunctionDef _ _ _ _ _ _ _ _ _ p => p | _ => default
noncomputable def fd (s : Stmt) (qual : Str) (g : Addr) (cl : List (Str × Addr)) (dV kV doc pm : Value) (an : Option Addr) (cd ct : Value) (bl : Addr) : FuncData :=
  { name := fname s, qualname := qual, params := fargs s, body := .stmts (fbody s), scope := fscope s, globals := g, closure := cl, defaults := dV, kwdefaults := kV, doc := doc, pyModule := pm, annotations := an, code := cd, closureTuple := ct, builtins := bl }
noncomputable def de (P : Params) (s : Str) (t : Tok) (v : Value) : DictEntry := ⟨PyData.keyHash P s, .str s t, v⟩
noncomputable def boot_life : Life := {}
noncomputable def gb (i : Nat) : Nat → Obj
  | 0 => ⟨.type "list", none, .seq ⟨[.int (Int.ofNat i) (395 + 3 * i)]⟩ 0, ⟨[]⟩⟩
  | 1 => ⟨.type "list_iterator", none, .fields ⟨[.none, .int 1 0]⟩, ⟨[]⟩⟩
  | 2 => ⟨.type "bytearray", none, .bytearray ⟨[UInt8.ofNat i]⟩ 0, ⟨[]⟩⟩
  | 3 => ⟨.type "tuple", none, .seq ⟨[]⟩ 0, ⟨[]⟩⟩
  | _ => ⟨.type "StopIteration", none, .fields ⟨[.ref (167 + 5 * i + 3), .none, .none, .none, .bool false, .none]⟩, ⟨[]⟩⟩
def z0 : Str := ⟨⟨[95, 95, 110, 97, 109, 101, 95, 95]⟩⟩
def z1 : Str := ⟨⟨[98, 117, 105, 108, 116, 105, 110, 115]⟩⟩
def z2 : Str := ⟨⟨[95, 95, 100, 111, 99, 95, 95]⟩⟩
def z3 : Str := ⟨⟨[95, 95, 112, 97, 99, 107, 97, 103, 101, 95, 95]⟩⟩
def z4 : Str := ⟨⟨[95, 95, 108, 111, 97, 100, 101, 114, 95, 95]⟩⟩
def z5 : Str := ⟨⟨[95, 95, 115, 112, 101, 99, 95, 95]⟩⟩
def z6 : Str := ⟨⟨[95, 95, 98, 117, 105, 108, 100, 95, 99, 108, 97, 115, 115, 95, 95]⟩⟩
def z7 : Str := ⟨⟨[95, 95, 105, 109, 112, 111, 114, 116, 95, 95]⟩⟩
def z8 : Str := ⟨⟨[97, 98, 115]⟩⟩
def z9 : Str := ⟨⟨[97, 108, 108]⟩⟩
def z10 : Str := ⟨⟨[97, 110, 121]⟩⟩
def z11 : Str := ⟨⟨[97, 115, 99, 105, 105]⟩⟩
def z12 : Str := ⟨⟨[98, 105, 110]⟩⟩
def z13 : Str := ⟨⟨[98, 114, 101, 97, 107, 112, 111, 105, 110, 116]⟩⟩
def z14 : Str := ⟨⟨[99, 97, 108, 108, 97, 98, 108, 101]⟩⟩
def z15 : Str := ⟨⟨[99, 104, 114]⟩⟩
def z16 : Str := ⟨⟨[99, 111, 109, 112, 105, 108, 101]⟩⟩
def z17 : Str := ⟨⟨[100, 101, 108, 97, 116, 116, 114]⟩⟩
def z18 : Str := ⟨⟨[100, 105, 114]⟩⟩
def z19 : Str := ⟨⟨[100, 105, 118, 109, 111, 100]⟩⟩
def z20 : Str := ⟨⟨[101, 118, 97, 108]⟩⟩
def z21 : Str := ⟨⟨[101, 120, 101, 99]⟩⟩
def z22 : Str := ⟨⟨[102, 111, 114, 109, 97, 116]⟩⟩
def z23 : Str := ⟨⟨[103, 101, 116, 97, 116, 116, 114]⟩⟩
def z24 : Str := ⟨⟨[103, 108, 111, 98, 97, 108, 115]⟩⟩
def z25 : Str := ⟨⟨[104, 97, 115, 97, 116, 116, 114]⟩⟩
def z26 : Str := ⟨⟨[104, 97, 115, 104]⟩⟩
def z27 : Str := ⟨⟨[104, 101, 120]⟩⟩
def z28 : Str := ⟨⟨[105, 100]⟩⟩
def z29 : Str := ⟨⟨[105, 110, 112, 117, 116]⟩⟩
def z30 : Str := ⟨⟨[105, 115, 105, 110, 115, 116, 97, 110, 99, 101]⟩⟩
def z31 : Str := ⟨⟨[105, 115, 115, 117, 98, 99, 108, 97, 115, 115]⟩⟩
def z32 : Str := ⟨⟨[105, 116, 101, 114]⟩⟩
def z33 : Str := ⟨⟨[97, 105, 116, 101, 114]⟩⟩
def z34 : Str := ⟨⟨[108, 101, 110]⟩⟩
def z35 : Str := ⟨⟨[108, 111, 99, 97, 108, 115]⟩⟩
def z36 : Str := ⟨⟨[109, 97, 120]⟩⟩
def z37 : Str := ⟨⟨[109, 105, 110]⟩⟩
def z38 : Str := ⟨⟨[110, 101, 120, 116]⟩⟩
def z39 : Str := ⟨⟨[97, 110, 101, 120, 116]⟩⟩
def z40 : Str := ⟨⟨[111, 99, 116]⟩⟩
def z41 : Str := ⟨⟨[111, 114, 100]⟩⟩
def z42 : Str := ⟨⟨[112, 111, 119]⟩⟩
def z43 : Str := ⟨⟨[112, 114, 105, 110, 116]⟩⟩
def z44 : Str := ⟨⟨[114, 101, 112, 114]⟩⟩
def z45 : Str := ⟨⟨[114, 111, 117, 110, 100]⟩⟩
def z46 : Str := ⟨⟨[115, 101, 116, 97, 116, 116, 114]⟩⟩
def z47 : Str := ⟨⟨[115, 111, 114, 116, 101, 100]⟩⟩
def z48 : Str := ⟨⟨[115, 117, 109]⟩⟩
def z49 : Str := ⟨⟨[118, 97, 114, 115]⟩⟩
def z50 : Str := ⟨⟨[78, 111, 110, 101]⟩⟩
def z51 : Str := ⟨⟨[69, 108, 108, 105, 112, 115, 105, 115]⟩⟩
def z52 : Str := ⟨⟨[78, 111, 116, 73, 109, 112, 108, 101, 109, 101, 110, 116, 101, 100]⟩⟩
def z53 : Str := ⟨⟨[70, 97, 108, 115, 101]⟩⟩
def z54 : Str := ⟨⟨[84, 114, 117, 101]⟩⟩
def z55 : Str := ⟨⟨[98, 111, 111, 108]⟩⟩
def z56 : Str := ⟨⟨[109, 101, 109, 111, 114, 121, 118, 105, 101, 119]⟩⟩
def z57 : Str := ⟨⟨[98, 121, 116, 101, 97, 114, 114, 97, 121]⟩⟩
def z58 : Str := ⟨⟨[98, 121, 116, 101, 115]⟩⟩
def z59 : Str := ⟨⟨[99, 108, 97, 115, 115, 109, 101, 116, 104, 111, 100]⟩⟩
def z60 : Str := ⟨⟨[99, 111, 109, 112, 108, 101, 120]⟩⟩
def z61 : Str := ⟨⟨[100, 105, 99, 116]⟩⟩
def z62 : Str := ⟨⟨[101, 110, 117, 109, 101, 114, 97, 116, 101]⟩⟩
def z63 : Str := ⟨⟨[102, 105, 108, 116, 101, 114]⟩⟩
def z64 : Str := ⟨⟨[102, 108, 111, 97, 116]⟩⟩
def z65 : Str := ⟨⟨[102, 114, 111, 122, 101, 110, 115, 101, 116]⟩⟩
def z66 : Str := ⟨⟨[112, 114, 111, 112, 101, 114, 116, 121]⟩⟩
def z67 : Str := ⟨⟨[105, 110, 116]⟩⟩
def z68 : Str := ⟨⟨[108, 105, 115, 116]⟩⟩
def z69 : Str := ⟨⟨[109, 97, 112]⟩⟩
def z70 : Str := ⟨⟨[111, 98, 106, 101, 99, 116]⟩⟩
def z71 : Str := ⟨⟨[114, 97, 110, 103, 101]⟩⟩
def z72 : Str := ⟨⟨[114, 101, 118, 101, 114, 115, 101, 100]⟩⟩
def z73 : Str := ⟨⟨[115, 101, 116]⟩⟩
def z74 : Str := ⟨⟨[115, 108, 105, 99, 101]⟩⟩
def z75 : Str := ⟨⟨[115, 116, 97, 116, 105, 99, 109, 101, 116, 104, 111, 100]⟩⟩
def z76 : Str := ⟨⟨[115, 116, 114]⟩⟩
def z77 : Str := ⟨⟨[115, 117, 112, 101, 114]⟩⟩
def z78 : Str := ⟨⟨[116, 117, 112, 108, 101]⟩⟩
def z79 : Str := ⟨⟨[116, 121, 112, 101]⟩⟩
def z80 : Str := ⟨⟨[122, 105, 112]⟩⟩
def z81 : Str := ⟨⟨[95, 95, 100, 101, 98, 117, 103, 95, 95]⟩⟩
def z82 : Str := ⟨⟨[66, 97, 115, 101, 69, 120, 99, 101, 112, 116, 105, 111, 110]⟩⟩
def z83 : Str := ⟨⟨[66, 97, 115, 101, 69, 120, 99, 101, 112, 116, 105, 111, 110, 71, 114, 111, 117, 112]⟩⟩
def z84 : Str := ⟨⟨[69, 120, 99, 101, 112, 116, 105, 111, 110]⟩⟩
def z85 : Str := ⟨⟨[71, 101, 110, 101, 114, 97, 116, 111, 114, 69, 120, 105, 116]⟩⟩
def z86 : Str := ⟨⟨[75, 101, 121, 98, 111, 97, 114, 100, 73, 110, 116, 101, 114, 114, 117, 112, 116]⟩⟩
def z87 : Str := ⟨⟨[83, 121, 115, 116, 101, 109, 69, 120, 105, 116]⟩⟩
def z88 : Str := ⟨⟨[65, 114, 105, 116, 104, 109, 101, 116, 105, 99, 69, 114, 114, 111, 114]⟩⟩
def z89 : Str := ⟨⟨[65, 115, 115, 101, 114, 116, 105, 111, 110, 69, 114, 114, 111, 114]⟩⟩
def z90 : Str := ⟨⟨[65, 116, 116, 114, 105, 98, 117, 116, 101, 69, 114, 114, 111, 114]⟩⟩
def z91 : Str := ⟨⟨[66, 117, 102, 102, 101, 114, 69, 114, 114, 111, 114]⟩⟩
def z92 : Str := ⟨⟨[69, 79, 70, 69, 114, 114, 111, 114]⟩⟩
def z93 : Str := ⟨⟨[73, 109, 112, 111, 114, 116, 69, 114, 114, 111, 114]⟩⟩
def z94 : Str := ⟨⟨[76, 111, 111, 107, 117, 112, 69, 114, 114, 111, 114]⟩⟩
def z95 : Str := ⟨⟨[77, 101, 109, 111, 114, 121, 69, 114, 114, 111, 114]⟩⟩
def z96 : Str := ⟨⟨[78, 97, 109, 101, 69, 114, 114, 111, 114]⟩⟩
def z97 : Str := ⟨⟨[79, 83, 69, 114, 114, 111, 114]⟩⟩
def z98 : Str := ⟨⟨[82, 101, 102, 101, 114, 101, 110, 99, 101, 69, 114, 114, 111, 114]⟩⟩
def z99 : Str := ⟨⟨[82, 117, 110, 116, 105, 109, 101, 69, 114, 114, 111, 114]⟩⟩
def z100 : Str := ⟨⟨[83, 116, 111, 112, 65, 115, 121, 110, 99, 73, 116, 101, 114, 97, 116, 105, 111, 110]⟩⟩
def z101 : Str := ⟨⟨[83, 116, 111, 112, 73, 116, 101, 114, 97, 116, 105, 111, 110]⟩⟩
def z102 : Str := ⟨⟨[83, 121, 110, 116, 97, 120, 69, 114, 114, 111, 114]⟩⟩
def z103 : Str := ⟨⟨[83, 121, 115, 116, 101, 109, 69, 114, 114, 111, 114]⟩⟩
def z104 : Str := ⟨⟨[84, 121, 112, 101, 69, 114, 114, 111, 114]⟩⟩
def z105 : Str := ⟨⟨[86, 97, 108, 117, 101, 69, 114, 114, 111, 114]⟩⟩
def z106 : Str := ⟨⟨[87, 97, 114, 110, 105, 110, 103]⟩⟩
def z107 : Str := ⟨⟨[70, 108, 111, 97, 116, 105, 110, 103, 80, 111, 105, 110, 116, 69, 114, 114, 111, 114]⟩⟩
def z108 : Str := ⟨⟨[79, 118, 101, 114, 102, 108, 111, 119, 69, 114, 114, 111, 114]⟩⟩
def z109 : Str := ⟨⟨[90, 101, 114, 111, 68, 105, 118, 105, 115, 105, 111, 110, 69, 114, 114, 111, 114]⟩⟩
def z110 : Str := ⟨⟨[66, 121, 116, 101, 115, 87, 97, 114, 110, 105, 110, 103]⟩⟩
def z111 : Str := ⟨⟨[68, 101, 112, 114, 101, 99, 97, 116, 105, 111, 110, 87, 97, 114, 110, 105, 110, 103]⟩⟩
def z112 : Str := ⟨⟨[69, 110, 99, 111, 100, 105, 110, 103, 87, 97, 114, 110, 105, 110, 103]⟩⟩
def z113 : Str := ⟨⟨[70, 117, 116, 117, 114, 101, 87, 97, 114, 110, 105, 110, 103]⟩⟩
def z114 : Str := ⟨⟨[73, 109, 112, 111, 114, 116, 87, 97, 114, 110, 105, 110, 103]⟩⟩
def z115 : Str := ⟨⟨[80, 101, 110, 100, 105, 110, 103, 68, 101, 112, 114, 101, 99, 97, 116, 105, 111, 110, 87, 97, 114, 110, 105, 110, 103]⟩⟩
def z116 : Str := ⟨⟨[82, 101, 115, 111, 117, 114, 99, 101, 87, 97, 114, 110, 105, 110, 103]⟩⟩
def z117 : Str := ⟨⟨[82, 117, 110, 116, 105, 109, 101, 87, 97, 114, 110, 105, 110, 103]⟩⟩
def z118 : Str := ⟨⟨[83, 121, 110, 116, 97, 120, 87, 97, 114, 110, 105, 110, 103]⟩⟩
def z119 : Str := ⟨⟨[85, 110, 105, 99, 111, 100, 101, 87, 97, 114, 110, 105, 110, 103]⟩⟩
def z120 : Str := ⟨⟨[85, 115, 101, 114, 87, 97, 114, 110, 105, 110, 103]⟩⟩
def z121 : Str := ⟨⟨[66, 108, 111, 99, 107, 105, 110, 103, 73, 79, 69, 114, 114, 111, 114]⟩⟩
def z122 : Str := ⟨⟨[67, 104, 105, 108, 100, 80, 114, 111, 99, 101, 115, 115, 69, 114, 114, 111, 114]⟩⟩
def z123 : Str := ⟨⟨[67, 111, 110, 110, 101, 99, 116, 105, 111, 110, 69, 114, 114, 111, 114]⟩⟩
def z124 : Str := ⟨⟨[70, 105, 108, 101, 69, 120, 105, 115, 116, 115, 69, 114, 114, 111, 114]⟩⟩
def z125 : Str := ⟨⟨[70, 105, 108, 101, 78, 111, 116, 70, 111, 117, 110, 100, 69, 114, 114, 111, 114]⟩⟩
def z126 : Str := ⟨⟨[73, 110, 116, 101, 114, 114, 117, 112, 116, 101, 100, 69, 114, 114, 111, 114]⟩⟩
def z127 : Str := ⟨⟨[73, 115, 65, 68, 105, 114, 101, 99, 116, 111, 114, 121, 69, 114, 114, 111, 114]⟩⟩
def z128 : Str := ⟨⟨[78, 111, 116, 65, 68, 105, 114, 101, 99, 116, 111, 114, 121, 69, 114, 114, 111, 114]⟩⟩
def z129 : Str := ⟨⟨[80, 101, 114, 109, 105, 115, 115, 105, 111, 110, 69, 114, 114, 111, 114]⟩⟩
def z130 : Str := ⟨⟨[80, 114, 111, 99, 101, 115, 115, 76, 111, 111, 107, 117, 112, 69, 114, 114, 111, 114]⟩⟩
def z131 : Str := ⟨⟨[84, 105, 109, 101, 111, 117, 116, 69, 114, 114, 111, 114]⟩⟩
def z132 : Str := ⟨⟨[73, 110, 100, 101, 110, 116, 97, 116, 105, 111, 110, 69, 114, 114, 111, 114]⟩⟩
def z133 : Str := ⟨⟨[95, 73, 110, 99, 111, 109, 112, 108, 101, 116, 101, 73, 110, 112, 117, 116, 69, 114, 114, 111, 114]⟩⟩
def z134 : Str := ⟨⟨[73, 110, 100, 101, 120, 69, 114, 114, 111, 114]⟩⟩
def z135 : Str := ⟨⟨[75, 101, 121, 69, 114, 114, 111, 114]⟩⟩
def z136 : Str := ⟨⟨[77, 111, 100, 117, 108, 101, 78, 111, 116, 70, 111, 117, 110, 100, 69, 114, 114, 111, 114]⟩⟩
def z137 : Str := ⟨⟨[78, 111, 116, 73, 109, 112, 108, 101, 109, 101, 110, 116, 101, 100, 69, 114, 114, 111, 114]⟩⟩
def z138 : Str := ⟨⟨[80, 121, 116, 104, 111, 110, 70, 105, 110, 97, 108, 105, 122, 97, 116, 105, 111, 110, 69, 114, 114, 111, 114]⟩⟩
def z139 : Str := ⟨⟨[82, 101, 99, 117, 114, 115, 105, 111, 110, 69, 114, 114, 111, 114]⟩⟩
def z140 : Str := ⟨⟨[85, 110, 98, 111, 117, 110, 100, 76, 111, 99, 97, 108, 69, 114, 114, 111, 114]⟩⟩
def z141 : Str := ⟨⟨[85, 110, 105, 99, 111, 100, 101, 69, 114, 114, 111, 114]⟩⟩
def z142 : Str := ⟨⟨[66, 114, 111, 107, 101, 110, 80, 105, 112, 101, 69, 114, 114, 111, 114]⟩⟩
def z143 : Str := ⟨⟨[67, 111, 110, 110, 101, 99, 116, 105, 111, 110, 65, 98, 111, 114, 116, 101, 100, 69, 114, 114, 111, 114]⟩⟩
def z144 : Str := ⟨⟨[67, 111, 110, 110, 101, 99, 116, 105, 111, 110, 82, 101, 102, 117, 115, 101, 100, 69, 114, 114, 111, 114]⟩⟩
def z145 : Str := ⟨⟨[67, 111, 110, 110, 101, 99, 116, 105, 111, 110, 82, 101, 115, 101, 116, 69, 114, 114, 111, 114]⟩⟩
def z146 : Str := ⟨⟨[84, 97, 98, 69, 114, 114, 111, 114]⟩⟩
def z147 : Str := ⟨⟨[85, 110, 105, 99, 111, 100, 101, 68, 101, 99, 111, 100, 101, 69, 114, 114, 111, 114]⟩⟩
def z148 : Str := ⟨⟨[85, 110, 105, 99, 111, 100, 101, 69, 110, 99, 111, 100, 101, 69, 114, 114, 111, 114]⟩⟩
def z149 : Str := ⟨⟨[85, 110, 105, 99, 111, 100, 101, 84, 114, 97, 110, 115, 108, 97, 116, 101, 69, 114, 114, 111, 114]⟩⟩
def z150 : Str := ⟨⟨[69, 120, 99, 101, 112, 116, 105, 111, 110, 71, 114, 111, 117, 112]⟩⟩
def z151 : Str := ⟨⟨[69, 110, 118, 105, 114, 111, 110, 109, 101, 110, 116, 69, 114, 114, 111, 114]⟩⟩
def z152 : Str := ⟨⟨[73, 79, 69, 114, 114, 111, 114]⟩⟩
def z153 : Str := ⟨⟨[111, 112, 101, 110]⟩⟩
def z154 : Str := ⟨⟨[113, 117, 105, 116]⟩⟩
def z155 : Str := ⟨⟨[101, 120, 105, 116]⟩⟩
def z156 : Str := ⟨⟨[99, 111, 112, 121, 114, 105, 103, 104, 116]⟩⟩
def z157 : Str := ⟨⟨[99, 114, 101, 100, 105, 116, 115]⟩⟩
def z158 : Str := ⟨⟨[108, 105, 99, 101, 110, 115, 101]⟩⟩
def z159 : Str := ⟨⟨[104, 101, 108, 112]⟩⟩
def z160 : Str := ⟨⟨[95, 95, 109, 97, 105, 110, 95, 95]⟩⟩
def z161 : Str := ⟨⟨[60, 109, 111, 100, 117, 108, 101, 62]⟩⟩
def z162 : Str := ⟨⟨[47, 99, 108, 97, 105, 109, 47, 99, 117, 116, 46, 112, 121]⟩⟩
def z163 : Str := ⟨⟨[107]⟩⟩
def z164 : Str := ⟨⟨[95, 119, 97, 108, 108]⟩⟩
def z165 : Str := ⟨⟨[95, 95, 109, 111, 100, 117, 108, 101, 95, 95]⟩⟩
def z166 : Str := ⟨⟨[114, 108, 112, 46, 101, 120, 99, 101, 112, 116, 105, 111, 110, 115]⟩⟩
def z167 : Str := ⟨⟨[95, 95, 113, 117, 97, 108, 110, 97, 109, 101, 95, 95]⟩⟩
def z168 : Str := ⟨⟨[82, 76, 80, 69, 120, 99, 101, 112, 116, 105, 111, 110]⟩⟩
def z169 : Str := ⟨⟨[95, 95, 102, 105, 114, 115, 116, 108, 105, 110, 101, 110, 111, 95, 95]⟩⟩
def z170 : Str := ⟨⟨[95, 95, 115, 116, 97, 116, 105, 99, 95, 97, 116, 116, 114, 105, 98, 117, 116, 101, 115, 95, 95]⟩⟩
def z171 : Str := ⟨⟨[95, 95, 119, 101, 97, 107, 114, 101, 102, 95, 95]⟩⟩
def z172 : Str := ⟨⟨[69, 110, 99, 111, 100, 105, 110, 103, 69, 114, 114, 111, 114]⟩⟩
def z173 : Str := ⟨⟨[95, 95, 105, 110, 105, 116, 95, 95]⟩⟩
def z174 : Str := ⟨⟨[95, 95, 99, 108, 97, 115, 115, 99, 101, 108, 108, 95, 95]⟩⟩
def z175 : Str := ⟨⟨[95, 95, 99, 108, 97, 115, 115, 95, 95]⟩⟩
def z176 : Str := ⟨⟨[115, 101, 108, 102]⟩⟩
def z177 : Str := ⟨⟨[109, 101, 115, 115, 97, 103, 101]⟩⟩
def z178 : Str := ⟨⟨[111, 98, 106]⟩⟩
def z179 : Str := ⟨⟨[69, 110, 99, 111, 100, 105, 110, 103, 69, 114, 114, 111, 114, 46, 95, 95, 105, 110, 105, 116, 95, 95]⟩⟩
def z180 : Str := ⟨⟨[68, 101, 99, 111, 100, 105, 110, 103, 69, 114, 114, 111, 114]⟩⟩
def z181 : Str := ⟨⟨[114, 108, 112]⟩⟩
def z182 : Str := ⟨⟨[68, 101, 99, 111, 100, 105, 110, 103, 69, 114, 114, 111, 114, 46, 95, 95, 105, 110, 105, 116, 95, 95]⟩⟩
def z183 : Str := ⟨⟨[83, 101, 114, 105, 97, 108, 105, 122, 97, 116, 105, 111, 110, 69, 114, 114, 111, 114]⟩⟩
def z184 : Str := ⟨⟨[83, 101, 114, 105, 97, 108, 105, 122, 97, 116, 105, 111, 110, 69, 114, 114, 111, 114, 46, 95, 95, 105, 110, 105, 116, 95, 95]⟩⟩
def z185 : Str := ⟨⟨[76, 105, 115, 116, 83, 101, 114, 105, 97, 108, 105, 122, 97, 116, 105, 111, 110, 69, 114, 114, 111, 114]⟩⟩
def z186 : Str := ⟨⟨[101, 108, 101, 109, 101, 110, 116, 95, 101, 120, 99, 101, 112, 116, 105, 111, 110]⟩⟩
def z187 : Str := ⟨⟨[105, 110, 100, 101, 120]⟩⟩
def z188 : Str := ⟨⟨[76, 105, 115, 116, 83, 101, 114, 105, 97, 108, 105, 122, 97, 116, 105, 111, 110, 69, 114, 114, 111, 114, 46, 95, 95, 105, 110, 105, 116, 95, 95]⟩⟩
def z189 : Str := ⟨⟨[68, 101, 115, 101, 114, 105, 97, 108, 105, 122, 97, 116, 105, 111, 110, 69, 114, 114, 111, 114]⟩⟩
def z190 : Str := ⟨⟨[115, 101, 114, 105, 97, 108]⟩⟩
def z191 : Str := ⟨⟨[68, 101, 115, 101, 114, 105, 97, 108, 105, 122, 97, 116, 105, 111, 110, 69, 114, 114, 111, 114, 46, 95, 95, 105, 110, 105, 116, 95, 95]⟩⟩
def z192 : Str := ⟨⟨[76, 105, 115, 116, 68, 101, 115, 101, 114, 105, 97, 108, 105, 122, 97, 116, 105, 111, 110, 69, 114, 114, 111, 114]⟩⟩
def z193 : Str := ⟨⟨[76, 105, 115, 116, 68, 101, 115, 101, 114, 105, 97, 108, 105, 122, 97, 116, 105, 111, 110, 69, 114, 114, 111, 114, 46, 95, 95, 105, 110, 105, 116, 95, 95]⟩⟩
def z194 : Str := ⟨⟨[118, 97, 108, 117, 101]⟩⟩
def z195 : Str := ⟨⟨[105, 115, 95, 98, 121, 116, 101, 115]⟩⟩
def z196 : Str := ⟨⟨[114, 108, 112, 46, 117, 116, 105, 108, 115]⟩⟩
def z197 : Str := ⟨⟨[98, 105, 103, 95, 101, 110, 100, 105, 97, 110, 95, 116, 111, 95, 105, 110, 116]⟩⟩
def z198 : Str := ⟨⟨[105, 110, 116, 95, 116, 111, 95, 98, 105, 103, 95, 101, 110, 100, 105, 97, 110]⟩⟩
def z199 : Str := ⟨⟨[114, 108, 112, 46, 115, 101, 100, 101, 115, 46, 98, 105, 103, 95, 101, 110, 100, 105, 97, 110, 95, 105, 110, 116]⟩⟩
def z200 : Str := ⟨⟨[66, 105, 103, 69, 110, 100, 105, 97, 110, 73, 110, 116]⟩⟩
def z201 : Str := ⟨⟨[115, 101, 114, 105, 97, 108, 105, 122, 101]⟩⟩
def z202 : Str := ⟨⟨[100, 101, 115, 101, 114, 105, 97, 108, 105, 122, 101]⟩⟩
def z203 : Str := ⟨⟨[108, 101, 110, 103, 116, 104]⟩⟩
def z204 : Str := ⟨⟨[66, 105, 103, 69, 110, 100, 105, 97, 110, 73, 110, 116, 46, 95, 95, 105, 110, 105, 116, 95, 95]⟩⟩
def z205 : Str := ⟨⟨[115]⟩⟩
def z206 : Str := ⟨⟨[66, 105, 103, 69, 110, 100, 105, 97, 110, 73, 110, 116, 46, 115, 101, 114, 105, 97, 108, 105, 122, 101]⟩⟩
def z207 : Str := ⟨⟨[66, 105, 103, 69, 110, 100, 105, 97, 110, 73, 110, 116, 46, 100, 101, 115, 101, 114, 105, 97, 108, 105, 122, 101]⟩⟩
def z208 : Str := ⟨⟨[95, 95, 100, 105, 99, 116, 95, 95]⟩⟩
def z209 : Str := ⟨⟨[114, 108, 112, 46, 115, 101, 100, 101, 115, 46, 98, 105, 110, 97, 114, 121]⟩⟩
def z210 : Str := ⟨⟨[66, 105, 110, 97, 114, 121]⟩⟩
def z211 : Str := ⟨⟨[102, 105, 120, 101, 100, 95, 108, 101, 110, 103, 116, 104]⟩⟩
def z212 : Str := ⟨⟨[105, 115, 95, 118, 97, 108, 105, 100, 95, 116, 121, 112, 101]⟩⟩
def z213 : Str := ⟨⟨[105, 115, 95, 118, 97, 108, 105, 100, 95, 108, 101, 110, 103, 116, 104]⟩⟩
def z214 : Str := ⟨⟨[109, 105, 110, 95, 108, 101, 110, 103, 116, 104]⟩⟩
def z215 : Str := ⟨⟨[109, 97, 120, 95, 108, 101, 110, 103, 116, 104]⟩⟩
def z216 : Str := ⟨⟨[97, 108, 108, 111, 119, 95, 101, 109, 112, 116, 121]⟩⟩
def z217 : Str := ⟨⟨[66, 105, 110, 97, 114, 121, 46, 95, 95, 105, 110, 105, 116, 95, 95]⟩⟩
def z218 : Str := ⟨⟨[99, 108, 115]⟩⟩
def z219 : Str := ⟨⟨[66, 105, 110, 97, 114, 121, 46, 102, 105, 120, 101, 100, 95, 108, 101, 110, 103, 116, 104]⟩⟩
def z220 : Str := ⟨⟨[95, 95, 97, 110, 110, 111, 116, 97, 116, 105, 111, 110, 115, 95, 95]⟩⟩
def z221 : Str := ⟨⟨[66, 105, 110, 97, 114, 121, 46, 105, 115, 95, 118, 97, 108, 105, 100, 95, 116, 121, 112, 101]⟩⟩
def z222 : Str := ⟨⟨[66, 105, 110, 97, 114, 121, 46, 105, 115, 95, 118, 97, 108, 105, 100, 95, 108, 101, 110, 103, 116, 104]⟩⟩
def z223 : Str := ⟨⟨[66, 105, 110, 97, 114, 121, 46, 115, 101, 114, 105, 97, 108, 105, 122, 101]⟩⟩
def z224 : Str := ⟨⟨[66, 105, 110, 97, 114, 121, 46, 100, 101, 115, 101, 114, 105, 97, 108, 105, 122, 101]⟩⟩
def z225 : Str := ⟨⟨[114, 108, 112, 46, 115, 101, 100, 101, 115, 46, 98, 111, 111, 108, 101, 97, 110]⟩⟩
def z226 : Str := ⟨⟨[66, 111, 111, 108, 101, 97, 110]⟩⟩
def z227 : Str := ⟨⟨[66, 111, 111, 108, 101, 97, 110, 46, 115, 101, 114, 105, 97, 108, 105, 122, 101]⟩⟩
def z228 : Str := ⟨⟨[66, 111, 111, 108, 101, 97, 110, 46, 100, 101, 115, 101, 114, 105, 97, 108, 105, 122, 101]⟩⟩
def z229 : Str := ⟨⟨[105, 115, 95, 115, 101, 100, 101, 115]⟩⟩
def z230 : Str := ⟨⟨[114, 108, 112, 46, 115, 101, 100, 101, 115, 46, 108, 105, 115, 116, 115]⟩⟩
def z231 : Str := ⟨⟨[105, 115, 95, 115, 101, 113, 117, 101, 110, 99, 101]⟩⟩
def z232 : Str := ⟨⟨[76, 105, 115, 116]⟩⟩
def z233 : Str := ⟨⟨[95, 95, 108, 101, 110, 95, 95]⟩⟩
def z234 : Str := ⟨⟨[101, 108, 101, 109, 101, 110, 116, 115]⟩⟩
def z235 : Str := ⟨⟨[115, 116, 114, 105, 99, 116]⟩⟩
def z236 : Str := ⟨⟨[101]⟩⟩
def z237 : Str := ⟨⟨[76, 105, 115, 116, 46, 95, 95, 105, 110, 105, 116, 95, 95]⟩⟩
def z238 : Str := ⟨⟨[76, 105, 115, 116, 46, 95, 95, 108, 101, 110, 95, 95]⟩⟩
def z239 : Str := ⟨⟨[102, 111, 117, 110, 100]⟩⟩
def z240 : Str := ⟨⟨[101, 108, 101, 109, 101, 110, 116]⟩⟩
def z241 : Str := ⟨⟨[115, 101, 100, 101, 115]⟩⟩
def z242 : Str := ⟨⟨[76, 105, 115, 116, 46, 115, 101, 114, 105, 97, 108, 105, 122, 101]⟩⟩
def z243 : Str := ⟨⟨[105, 100, 120]⟩⟩
def z244 : Str := ⟨⟨[76, 105, 115, 116, 46, 100, 101, 115, 101, 114, 105, 97, 108, 105, 122, 101]⟩⟩
def z245 : Str := ⟨⟨[112, 97, 114, 116, 115]⟩⟩
def z246 : Str := ⟨⟨[67, 111, 117, 110, 116, 97, 98, 108, 101, 76, 105, 115, 116]⟩⟩
def z247 : Str := ⟨⟨[101, 108, 101, 109, 101, 110, 116, 95, 115, 101, 100, 101, 115]⟩⟩
def z248 : Str := ⟨⟨[67, 111, 117, 110, 116, 97, 98, 108, 101, 76, 105, 115, 116, 46, 95, 95, 105, 110, 105, 116, 95, 95]⟩⟩
def z249 : Str := ⟨⟨[67, 111, 117, 110, 116, 97, 98, 108, 101, 76, 105, 115, 116, 46, 115, 101, 114, 105, 97, 108, 105, 122, 101]⟩⟩
def z250 : Str := ⟨⟨[67, 111, 117, 110, 116, 97, 98, 108, 101, 76, 105, 115, 116, 46, 100, 101, 115, 101, 114, 105, 97, 108, 105, 122, 101]⟩⟩
def z251 : Str := ⟨⟨[105, 116, 101, 109]⟩⟩
def z252 : Str := ⟨⟨[112, 97, 121, 108, 111, 97, 100]⟩⟩
def z253 : Str := ⟨⟨[112, 114, 101, 102, 105, 120, 95, 111, 102, 102, 115, 101, 116]⟩⟩
def z254 : Str := ⟨⟨[109, 115, 103]⟩⟩
def z255 : Str := ⟨⟨[112, 114, 101, 102, 105, 120]⟩⟩
def z256 : Str := ⟨⟨[101, 110, 99, 111, 100, 101, 95, 114, 97, 119]⟩⟩
def z257 : Str := ⟨⟨[114, 108, 112, 46, 99, 111, 100, 101, 99]⟩⟩
def z258 : Str := ⟨⟨[95]⟩⟩
def z259 : Str := ⟨⟨[114, 101, 115, 117, 108, 116]⟩⟩
def z260 : Str := ⟨⟨[112, 101, 114, 95, 105, 116, 101, 109, 95, 114, 108, 112]⟩⟩
def z261 : Str := ⟨⟨[101, 110, 100]⟩⟩
def z262 : Str := ⟨⟨[100, 101, 99, 111, 100, 101, 95, 114, 97, 119]⟩⟩
def z263 : Str := ⟨⟨[105, 110, 102, 101, 114, 95, 115, 101, 114, 105, 97, 108, 105, 122, 101, 114]⟩⟩
def z264 : Str := ⟨⟨[99, 97, 99, 104, 101]⟩⟩
def z265 : Str := ⟨⟨[101, 110, 99, 111, 100, 101]⟩⟩
def z266 : Str := ⟨⟨[111, 102, 102, 115, 101, 116]⟩⟩
def z267 : Str := ⟨⟨[108, 101, 110, 103, 116, 104, 95, 115, 116, 114, 105, 110, 103]⟩⟩
def z268 : Str := ⟨⟨[108, 101, 110, 103, 116, 104, 95, 112, 114, 101, 102, 105, 120]⟩⟩
def z269 : Str := ⟨⟨[115, 116, 97, 114, 116]⟩⟩
def z270 : Str := ⟨⟨[98, 48]⟩⟩
def z271 : Str := ⟨⟨[108, 108]⟩⟩
def z272 : Str := ⟨⟨[108, 101, 110, 95, 112, 114, 101, 102, 105, 120]⟩⟩
def z273 : Str := ⟨⟨[108]⟩⟩
def z274 : Str := ⟨⟨[99, 111, 110, 115, 117, 109, 101, 95, 108, 101, 110, 103, 116, 104, 95, 112, 114, 101, 102, 105, 120]⟩⟩
def z275 : Str := ⟨⟨[116, 121, 112, 101, 95]⟩⟩
def z276 : Str := ⟨⟨[105, 116, 101, 109, 115]⟩⟩
def z277 : Str := ⟨⟨[108, 105, 115, 116, 95, 114, 108, 112]⟩⟩
def z278 : Str := ⟨⟨[110, 101, 120, 116, 95, 105, 116, 101, 109, 95, 115, 116, 97, 114, 116]⟩⟩
def z279 : Str := ⟨⟨[112]⟩⟩
def z280 : Str := ⟨⟨[116]⟩⟩
def z281 : Str := ⟨⟨[105, 116, 101, 109, 95, 114, 108, 112]⟩⟩
def z282 : Str := ⟨⟨[99, 111, 110, 115, 117, 109, 101, 95, 112, 97, 121, 108, 111, 97, 100]⟩⟩
def z283 : Str := ⟨⟨[99, 111, 110, 115, 117, 109, 101, 95, 105, 116, 101, 109]⟩⟩
def z284 : Str := ⟨⟨[114, 101, 99, 117, 114, 115, 105, 118, 101, 95, 99, 97, 99, 104, 101]⟩⟩
def z285 : Str := ⟨⟨[100, 101, 99, 111, 100, 101]⟩⟩
def z286 : Str := ⟨⟨[105, 110, 102, 101, 114, 95, 115, 101, 100, 101, 115]⟩⟩
def z287 : Str := ⟨⟨[115, 99, 114, 105, 112, 116]⟩⟩
def z288 : Str := ⟨⟨[111, 116, 104, 101, 114]⟩⟩
def z289 : Str := ⟨⟨[95, 108, 97, 119, 95, 97, 116]⟩⟩
def z290 : Str := ⟨⟨[108, 97, 119, 95, 98, 105, 48, 48, 50, 48, 95, 48, 49]⟩⟩
def z291 : Str := ⟨⟨[110, 117, 109, 98, 101, 114, 115]⟩⟩
def z292 : Str := ⟨⟨[100, 101, 101, 112]⟩⟩
def z293 : Str := ⟨⟨[107, 105, 110, 100]⟩⟩
def z294 : Str := ⟨⟨[114, 101, 115, 116]⟩⟩
def z295 : Str := ⟨⟨[115, 105, 122, 101]⟩⟩
def z296 : Str := ⟨⟨[102, 105, 114, 115, 116]⟩⟩
def z297 : Str := ⟨⟨[114, 111, 119]⟩⟩
def z298 : Str := ⟨⟨[111, 110, 101]⟩⟩
def z299 : Str := ⟨⟨[95, 108, 97, 119, 95, 118, 97, 108, 117, 101]⟩⟩
def z300 : Str := ⟨⟨[100, 97, 116, 97]⟩⟩
def z301 : Str := ⟨⟨[95, 108, 97, 119, 95, 114, 101, 97, 100]⟩⟩
def z302 : Str := ⟨⟨[108, 97, 119]⟩⟩
def z303 : Str := ⟨⟨[95, 95, 98, 117, 105, 108, 116, 105, 110, 115, 95, 95]⟩⟩
def z304 : Str := ⟨⟨[95, 95, 102, 105, 108, 101, 95, 95]⟩⟩
def z305 : Str := ⟨⟨[95, 95, 99, 97, 99, 104, 101, 100, 95, 95]⟩⟩
def z306 : Str := ⟨⟨[65, 76, 76, 95, 66, 89, 84, 69, 83]⟩⟩
def z307 : Str := ⟨⟨[98, 105, 103, 95, 101, 110, 100, 105, 97, 110, 95, 105, 110, 116]⟩⟩
def z308 : Str := ⟨⟨[98, 105, 110, 97, 114, 121]⟩⟩
def z309 : Str := ⟨⟨[98, 111, 111, 108, 101, 97, 110]⟩⟩
def z310 : Str := ⟨⟨[76, 79, 78, 71, 95, 76, 69, 78, 71, 84, 72]⟩⟩
def z311 : Str := ⟨⟨[83, 72, 79, 82, 84, 95, 83, 84, 82, 73, 78, 71]⟩⟩
def z312 : Str := ⟨⟨[116, 121, 112, 101, 46, 95, 95, 115, 117, 98, 99, 108, 97, 115, 115, 101, 115, 95, 95, 46, 69, 120, 99, 101, 112, 116, 105, 111, 110, 46, 48]⟩⟩
def z313 : Str := ⟨⟨[116, 121, 112, 101, 46, 95, 95, 115, 117, 98, 99, 108, 97, 115, 115, 101, 115, 95, 95, 46, 69, 120, 99, 101, 112, 116, 105, 111, 110, 46, 110]⟩⟩
noncomputable def o0 (P : Params) : Obj := ⟨(.type "dict"), none, (.dict ⟨[de P z0 1 (.str z1 160), de P z2 2 (.builtin "builtins.__doc__:str#opaque"), de P z3 3 (.builtin "builtins.__package__:str#opaque"), de P z4 4 (.builtin "builtins.__loader__:shared#opaque"), de P z5 5 (.builtin "builtins.__spec__#opaque"), de P z6 6 (.builtin "__build_class__"), de P z7 7 (.builtin "__import__"), de P z8 8 (.builtin "abs"), de P z9 9 (.builtin "all"), de P z10 10 (.builtin "any"), de P z11 11 (.builtin "ascii"), de P z12 12 (.builtin "bin"), de P z13 13 (.builtin "breakpoint"), de P z14 14 (.builtin "callable"), de P z15 15 (.builtin "chr"), de P z16 16 (.builtin "compile"), de P z17 17 (.builtin "delattr"), de P z18 18 (.builtin "dir"), de P z19 19 (.builtin "divmod"), de P z20 20 (.builtin "eval"), de P z21 21 (.builtin "exec"), de P z22 22 (.builtin "format"), de P z23 23 (.builtin "getattr"), de P z24 24 (.builtin "globals"), de P z25 25 (.builtin "hasattr"), de P z26 26 (.builtin "hash"), de P z27 27 (.builtin "hex"), de P z28 28 (.builtin "id"), de P z29 29 (.builtin "input"), de P z30 30 (.builtin "isinstance"), de P z31 31 (.builtin "issubclass"), de P z32 32 (.builtin "iter"), de P z33 33 (.builtin "aiter"), de P z34 34 (.builtin "len"), de P z35 35 (.builtin "locals"), de P z36 36 (.builtin "max"), de P z37 37 (.builtin "min"), de P z38 38 (.builtin "next"), de P z39 39 (.builtin "anext"), de P z40 40 (.builtin "oct"), de P z41 41 (.builtin "ord"), de P z42 42 (.builtin "pow"), de P z43 43 (.builtin "print"), de P z44 44 (.builtin "repr"), de P z45 45 (.builtin "round"), de P z46 46 (.builtin "setattr"), de P z47 47 (.builtin "sorted"), de P z48 48 (.builtin "sum"), de P z49 49 (.builtin "vars"), de P z50 50 .none, de P z51 51 .ellipsis, de P z52 52 .notImplemented, de P z53 53 (.bool false), de P z54 54 (.bool true), de P z55 55 (.type "bool"), de P z56 56 (.type "memoryview"), de P z57 57 (.type "bytearray"), de P z58 58 (.type "bytes"), de P z59 59 (.type "classmethod"), de P z60 60 (.type "complex"), de P z61 61 (.type "dict"), de P z62 62 (.type "enumerate"), de P z63 63 (.type "filter"), de P z64 64 (.type "float"), de P z65 65 (.type "frozenset"), de P z66 66 (.type "property"), de P z67 67 (.type "int"), de P z68 68 (.type "list"), de P z69 69 (.type "map"), de P z70 70 (.type "object"), de P z71 71 (.type "range"), de P z72 72 (.type "reversed"), de P z73 73 (.type "set"), de P z74 74 (.type "slice"), de P z75 75 (.type "staticmethod"), de P z76 76 (.type "str"), de P z77 77 (.type "super"), de P z78 78 (.type "tuple"), de P z79 79 (.type "type"), de P z80 80 (.type "zip"), de P z81 81 (.bool true), de P z82 82 (.type "BaseException"), de P z83 83 (.type "BaseExceptionGroup"), de P z84 84 (.type "Exception"), de P z85 85 (.type "GeneratorExit"), de P z86 86 (.type "KeyboardInterrupt"), de P z87 87 (.type "SystemExit"), de P z88 88 (.type "ArithmeticError"), de P z89 89 (.type "AssertionError"), de P z90 90 (.type "AttributeError"), de P z91 91 (.type "BufferError"), de P z92 92 (.type "EOFError"), de P z93 93 (.type "ImportError"), de P z94 94 (.type "LookupError"), de P z95 95 (.type "MemoryError"), de P z96 96 (.type "NameError"), de P z97 97 (.type "OSError"), de P z98 98 (.type "ReferenceError"), de P z99 99 (.type "RuntimeError"), de P z100 100 (.type "StopAsyncIteration"), de P z101 101 (.type "StopIteration"), de P z102 102 (.type "SyntaxError"), de P z103 103 (.type "SystemError"), de P z104 104 (.type "TypeError"), de P z105 105 (.type "ValueError"), de P z106 106 (.type "Warning"), de P z107 107 (.type "FloatingPointError"), de P z108 108 (.type "OverflowError"), de P z109 109 (.type "ZeroDivisionError"), de P z110 110 (.type "BytesWarning"), de P z111 111 (.type "DeprecationWarning"), de P z112 112 (.type "EncodingWarning"), de P z113 113 (.type "FutureWarning"), de P z114 114 (.type "ImportWarning"), de P z115 115 (.type "PendingDeprecationWarning"), de P z116 116 (.type "ResourceWarning"), de P z117 117 (.type "RuntimeWarning"), de P z118 118 (.type "SyntaxWarning"), de P z119 119 (.type "UnicodeWarning"), de P z120 120 (.type "UserWarning"), de P z121 121 (.type "BlockingIOError"), de P z122 122 (.type "ChildProcessError"), de P z123 123 (.type "ConnectionError"), de P z124 124 (.type "FileExistsError"), de P z125 125 (.type "FileNotFoundError"), de P z126 126 (.type "InterruptedError"), de P z127 127 (.type "IsADirectoryError"), de P z128 128 (.type "NotADirectoryError"), de P z129 129 (.type "PermissionError"), de P z130 130 (.type "ProcessLookupError"), de P z131 131 (.type "TimeoutError"), de P z132 132 (.type "IndentationError"), de P z133 133 (.type "_IncompleteInputError"), de P z134 134 (.type "IndexError"), de P z135 135 (.type "KeyError"), de P z136 136 (.type "ModuleNotFoundError"), de P z137 137 (.type "NotImplementedError"), de P z138 138 (.type "PythonFinalizationError"), de P z139 139 (.type "RecursionError"), de P z140 140 (.type "UnboundLocalError"), de P z141 141 (.type "UnicodeError"), de P z142 142 (.type "BrokenPipeError"), de P z143 143 (.type "ConnectionAbortedError"), de P z144 144 (.type "ConnectionRefusedError"), de P z145 145 (.type "ConnectionResetError"), de P z146 146 (.type "TabError"), de P z147 147 (.type "UnicodeDecodeError"), de P z148 148 (.type "UnicodeEncodeError"), de P z149 149 (.type "UnicodeTranslateError"), de P z150 150 (.type "ExceptionGroup"), de P z151 151 (.type "OSError"), de P z152 152 (.type "OSError"), de P z153 153 (.builtin "open"), de P z154 154 (.builtin "builtins.quit#opaque"), de P z155 155 (.builtin "builtins.exit#opaque"), de P z156 156 (.builtin "builtins.copyright#opaque"), de P z157 157 (.builtin "builtins.credits#opaque"), de P z158 158 (.builtin "builtins.license#opaque"), de P z159 159 (.builtin "builtins.help#opaque")]⟩ 159), ⟨[]⟩⟩
noncomputable def o1 (P : Params) : Obj := ⟨(.type "dict"), none, (.dict ⟨[de P z1 162 (.ref 4), de P z160 163 (.ref 5)]⟩ 2), ⟨[]⟩⟩
noncomputable def o4 (P : Params) : Obj := ⟨(.type "module"), (some 0), .plain, ⟨[]⟩⟩
noncomputable def o5 (P : Params) : Obj := ⟨(.type "module"), (some 3), .plain, ⟨[]⟩⟩
noncomputable def o6 (P : Params) : Obj := ⟨(.type "dict"), none, (.dict ⟨[]⟩ 0), ⟨[]⟩⟩
noncomputable def o7 (P : Params) : Obj := ⟨(.type "tuple"), none, (.seq ⟨[]⟩ 0), ⟨[]⟩⟩
noncomputable def o8 (P : Params) : Obj := ⟨.none, none, (.fields ⟨[]⟩), ⟨[]⟩⟩
noncomputable def o9 (P : Params) : Obj := ⟨(.type "code"), none, (.fields ⟨[(.str z161 176), (.str z161 177), (.str z162 178), (.int 1 0), (.int 0 0), (.int 0 0), (.int 0 0), (.int 0 0), (.ref 7), (.bool false), (.int 175 0), (.ref 8), .none, .none, .none, .none, (.int 179 0), (.int 1 0), (.str z162 180)]⟩), ⟨[]⟩⟩
noncomputable def o10 (P : Params) : Obj := ⟨(.type "frame"), none, .plain, ⟨[some (.ref 9), some (.ref 3), some (.ref 3), none, some (.str z160 164), none, some (.ref 0)]⟩⟩
noncomputable def o11 (P : Params) : Obj := ⟨(.type "tuple"), none, (.seq ⟨[]⟩ 0), ⟨[]⟩⟩
noncomputable def o13 (P : Params) : Obj := ⟨(.type "code"), none, (.fields ⟨[(.str z161 182), (.str z161 183), (.str z162 184), (.int 1 0), (.int 0 0), (.int 0 0), (.int 0 0), (.int 0 0), (.ref 11), (.bool false), (.int 181 0), (.ref 12), .none, .none, .none, .none, (.int 185 0), (.int 1 0), (.str z162 186)]⟩), ⟨[]⟩⟩
noncomputable def o14 (P : Params) : Obj := ⟨(.type "frame"), none, .plain, ⟨[some (.ref 13), some (.ref 3), some (.ref 3), none, some (.str z160 164), none, some (.ref 0)]⟩⟩
noncomputable def o15 (P : Params) : Obj := ⟨(.type "tuple"), none, (.seq ⟨[]⟩ 0), ⟨[]⟩⟩
noncomputable def o16 (P : Params) : Obj := ⟨.none, none, (.fields ⟨[]⟩), ⟨[]⟩⟩
noncomputable def o17 (P : Params) : Obj := ⟨(.type "tuple"), none, (.seq ⟨[(.str z163 190)]⟩ 0), ⟨[]⟩⟩
noncomputable def o18 (P : Params) : Obj := ⟨(.type "tuple"), none, (.seq ⟨[]⟩ 0), ⟨[]⟩⟩
noncomputable def o19 (P : Params) : Obj := ⟨.none, none, (.func (fd (st 0) z164 0 [] .none .none .none .none none .none .none 0)), ⟨[]⟩⟩
noncomputable def o20 (P : Params) : Obj := ⟨(.type "code"), none, (.fields ⟨[(.str z164 187), (.str z164 188), (.str z162 189), (.int 1 0), (.int 1 0), (.int 0 0), (.int 0 0), (.int 3 0), (.ref 15), (.bool true), (.int 181 0), (.ref 16), .none, (.ref 17), (.ref 18), (.ref 19), (.int 191 0), (.int 1 0), (.str z162 192)]⟩), ⟨[]⟩⟩
noncomputable def o21 (P : Params) : Obj := ⟨(.type "function"), none, (.func (fd (st 0) z164 3 [] .none .none .none (.str z160 164) none (.ref 20) .none 0)), ⟨[]⟩⟩
noncomputable def o22 (P : Params) : Obj := ⟨(.type "tuple"), none, (.seq ⟨[(.type "Exception")]⟩ 0), ⟨[]⟩⟩
noncomputable def o23 (P : Params) : Obj := ⟨(.type "builtin_function_or_method"), none, (.fields ⟨[(.builtin "type.__prepare__"), (.type "type")]⟩), ⟨[]⟩⟩
noncomputable def o24 (P : Params) : Obj := ⟨(.type "dict"), none, (.dict ⟨[de P z165 203 (.str z166 194), de P z167 205 (.str z168 204), de P z169 207 (.int 5 206), de P z170 208 (.ref 29)]⟩ 4), ⟨[]⟩⟩
noncomputable def o25 (P : Params) : Obj := ⟨(.type "tuple"), none, (.seq ⟨[]⟩ 0), ⟨[]⟩⟩
noncomputable def o26 (P : Params) : Obj := ⟨.none, none, (.fields ⟨[]⟩), ⟨[]⟩⟩
noncomputable def o27 (P : Params) : Obj := ⟨(.type "code"), none, (.fields ⟨[(.str z168 198), (.str z168 199), (.str z162 200), (.int 5 0), (.int 0 0), (.int 0 0), (.int 0 0), (.int 0 0), (.ref 25), (.bool false), (.int 181 0), (.ref 26), .none, .none, .none, .none, (.int 201 0), (.int 5 0), (.str z162 202)]⟩), ⟨[]⟩⟩
noncomputable def o28 (P : Params) : Obj := ⟨(.type "frame"), none, .plain, ⟨[some (.ref 27), some (.ref 3), some (.ref 24), none, some (.str z166 194), none, some (.ref 0)]⟩⟩
noncomputable def o29 (P : Params) : Obj := ⟨(.type "tuple"), none, (.seq ⟨[]⟩ 0), ⟨[]⟩⟩
noncomputable def o30 (P : Params) : Obj := ⟨(.type "dict"), none, (.dict ⟨[de P z165 203 (.str z166 194), de P z169 207 (.int 5 206), de P z170 208 (.ref 29), de P z171 210 (.ref 32), de P z2 211 .none]⟩ 3), ⟨[]⟩⟩
noncomputable def o32 (P : Params) : Obj := ⟨(.type "getset_descriptor"), none, (.fields ⟨[(.str z171 209), (.ref 31), (.builtin "ExceptionGroup.__weakref__"), .none]⟩), ⟨[]⟩⟩
noncomputable def o33 (P : Params) : Obj := ⟨(.type "super"), none, (.fields ⟨[(.ref 31), (.ref 31), (.ref 31)]⟩), ⟨[]⟩⟩
noncomputable def o34 (P : Params) : Obj := ⟨(.type "builtin_function_or_method"), none, (.fields ⟨[(.builtin "object.__init_subclass__"), (.ref 31)]⟩), ⟨[]⟩⟩
noncomputable def o35 (P : Params) : Obj := ⟨(.type "tuple"), none, (.seq ⟨[(.ref 31)]⟩ 0), ⟨[]⟩⟩
noncomputable def o36 (P : Params) : Obj := ⟨(.type "builtin_function_or_method"), none, (.fields ⟨[(.builtin "type.__prepare__"), (.type "type")]⟩), ⟨[]⟩⟩
noncomputable def o37 (P : Params) : Obj := ⟨(.type "dict"), none, (.dict ⟨[de P z165 223 (.str z166 194), de P z167 225 (.str z172 224), de P z169 227 (.int 7 226), de P z173 237 (.ref 50), de P z170 239 (.ref 51), de P z174 240 (.ref 38)]⟩ 6), ⟨[]⟩⟩
noncomputable def o38 (P : Params) : Obj := ⟨(.type "cell"), none, (.cell (some (.ref 53))), ⟨[]⟩⟩
noncomputable def o39 (P : Params) : Obj := ⟨(.type "tuple"), none, (.seq ⟨[]⟩ 0), ⟨[]⟩⟩
noncomputable def o40 (P : Params) : Obj := ⟨.none, none, (.fields ⟨[(.int 9 0), (.int 4 0), (.ref 49)]⟩), ⟨[]⟩⟩
noncomputable def o41 (P : Params) : Obj := ⟨(.type "code"), none, (.fields ⟨[(.str z172 218), (.str z172 219), (.str z162 220), (.int 7 0), (.int 0 0), (.int 0 0), (.int 0 0), (.int 0 0), (.ref 39), (.bool false), (.int 181 0), (.ref 40), .none, .none, .none, .none, (.int 221 0), (.int 7 0), (.str z162 222)]⟩), ⟨[]⟩⟩
noncomputable def o42 (P : Params) : Obj := ⟨(.type "frame"), none, .plain, ⟨[some (.ref 41), some (.ref 3), some (.ref 37), none, some (.str z166 194), none, some (.ref 0)]⟩⟩
noncomputable def o43 (P : Params) : Obj := ⟨(.type "tuple"), none, (.seq ⟨[(.ref 38)]⟩ 0), ⟨[]⟩⟩
noncomputable def o44 (P : Params) : Obj := ⟨(.type "tuple"), none, (.seq ⟨[(.str z175 231)]⟩ 0), ⟨[]⟩⟩
noncomputable def o45 (P : Params) : Obj := ⟨.none, none, (.fields ⟨[]⟩), ⟨[]⟩⟩
noncomputable def o46 (P : Params) : Obj := ⟨(.type "tuple"), none, (.seq ⟨[(.str z176 232), (.str z177 233), (.str z178 234)]⟩ 0), ⟨[]⟩⟩
noncomputable def o47 (P : Params) : Obj := ⟨(.type "tuple"), none, (.seq ⟨[]⟩ 0), ⟨[]⟩⟩
noncomputable def o48 (P : Params) : Obj := ⟨.none, none, (.func (fd (me 3 0) z179 0 [] .none .none .none .none none .none .none 0)), ⟨[]⟩⟩
noncomputable def o49 (P : Params) : Obj := ⟨(.type "code"), none, (.fields ⟨[(.str z173 228), (.str z179 229), (.str z162 230), (.int 9 0), (.int 3 0), (.int 0 0), (.int 0 0), (.int 3 0), (.ref 44), (.bool true), (.int 181 0), (.ref 45), .none, (.ref 46), (.ref 47), (.ref 48), (.int 235 0), (.int 9 0), (.str z162 236)]⟩), ⟨[]⟩⟩
noncomputable def o50 (P : Params) : Obj := ⟨(.type "function"), none, (.func (fd (me 3 0) z179 3 [(z175, 38)] .none .none .none (.str z166 194) none (.ref 49) (.ref 43) 0)), ⟨[]⟩⟩
noncomputable def o51 (P : Params) : Obj := ⟨(.type "tuple"), none, (.seq ⟨[(.str z178 238)]⟩ 0), ⟨[]⟩⟩
noncomputable def o52 (P : Params) : Obj := ⟨(.type "dict"), none, (.dict ⟨[de P z165 223 (.str z166 194), de P z169 227 (.int 7 226), de P z173 237 (.ref 50), de P z170 239 (.ref 51), de P z2 241 .none]⟩ 3), ⟨[]⟩⟩
noncomputable def o53 (P : Params) : Obj := ⟨(.type "type"), none, (.cls ⟨z172, [(.ref 31)], [(.ref 53), (.ref 31), (.type "Exception"), (.type "BaseException"), (.type "object")], 52, z172, true, [], [], false, none, false⟩), ⟨[some (.ref 35), none, some (.str z172 216), some (.str z172 224), some (.builtin "Exception.__new__"), some (.bool true)]⟩⟩
noncomputable def o54 (P : Params) : Obj := ⟨(.type "super"), none, (.fields ⟨[(.ref 53), (.ref 53), (.ref 53)]⟩), ⟨[]⟩⟩
noncomputable def o55 (P : Params) : Obj := ⟨(.type "builtin_function_or_method"), none, (.fields ⟨[(.builtin "object.__init_subclass__"), (.ref 53)]⟩), ⟨[]⟩⟩
noncomputable def o56 (P : Params) : Obj := ⟨(.type "tuple"), none, (.seq ⟨[(.ref 31)]⟩ 0), ⟨[]⟩⟩
noncomputable def o57 (P : Params) : Obj := ⟨(.type "builtin_function_or_method"), none, (.fields ⟨[(.builtin "type.__prepare__"), (.type "type")]⟩), ⟨[]⟩⟩
noncomputable def o58 (P : Params) : Obj := ⟨(.type "dict"), none, (.dict ⟨[de P z165 251 (.str z166 194), de P z167 253 (.str z180 252), de P z169 255 (.int 12 254), de P z173 265 (.ref 71), de P z170 267 (.ref 72), de P z174 268 (.ref 59)]⟩ 6), ⟨[]⟩⟩
noncomputable def o59 (P : Params) : Obj := ⟨(.type "cell"), none, (.cell (some (.ref 74))), ⟨[]⟩⟩
noncomputable def o60 (P : Params) : Obj := ⟨(.type "tuple"), none, (.seq ⟨[]⟩ 0), ⟨[]⟩⟩
noncomputable def o61 (P : Params) : Obj := ⟨.none, none, (.fields ⟨[(.int 14 0), (.int 4 0), (.ref 70)]⟩), ⟨[]⟩⟩
noncomputable def o62 (P : Params) : Obj := ⟨(.type "code"), none, (.fields ⟨[(.str z180 246), (.str z180 247), (.str z162 248), (.int 12 0), (.int 0 0), (.int 0 0), (.int 0 0), (.int 0 0), (.ref 60), (.bool false), (.int 181 0), (.ref 61), .none, .none, .none, .none, (.int 249 0), (.int 12 0), (.str z162 250)]⟩), ⟨[]⟩⟩
noncomputable def o63 (P : Params) : Obj := ⟨(.type "frame"), none, .plain, ⟨[some (.ref 62), some (.ref 3), some (.ref 58), none, some (.str z166 194), none, some (.ref 0)]⟩⟩
noncomputable def o64 (P : Params) : Obj := ⟨(.type "tuple"), none, (.seq ⟨[(.ref 59)]⟩ 0), ⟨[]⟩⟩
noncomputable def o65 (P : Params) : Obj := ⟨(.type "tuple"), none, (.seq ⟨[(.str z175 259)]⟩ 0), ⟨[]⟩⟩
noncomputable def o66 (P : Params) : Obj := ⟨.none, none, (.fields ⟨[]⟩), ⟨[]⟩⟩
noncomputable def o67 (P : Params) : Obj := ⟨(.type "tuple"), none, (.seq ⟨[(.str z176 260), (.str z177 261), (.str z181 262)]⟩ 0), ⟨[]⟩⟩
noncomputable def o68 (P : Params) : Obj := ⟨(.type "tuple"), none, (.seq ⟨[]⟩ 0), ⟨[]⟩⟩
noncomputable def o69 (P : Params) : Obj := ⟨.none, none, (.func (fd (me 4 0) z182 0 [] .none .none .none .none none .none .none 0)), ⟨[]⟩⟩
noncomputable def o70 (P : Params) : Obj := ⟨(.type "code"), none, (.fields ⟨[(.str z173 256), (.str z182 257), (.str z162 258), (.int 14 0), (.int 3 0), (.int 0 0), (.int 0 0), (.int 3 0), (.ref 65), (.bool true), (.int 181 0), (.ref 66), .none, (.ref 67), (.ref 68), (.ref 69), (.int 263 0), (.int 14 0), (.str z162 264)]⟩), ⟨[]⟩⟩
noncomputable def o71 (P : Params) : Obj := ⟨(.type "function"), none, (.func (fd (me 4 0) z182 3 [(z175, 59)] .none .none .none (.str z166 194) none (.ref 70) (.ref 64) 0)), ⟨[]⟩⟩
noncomputable def o72 (P : Params) : Obj := ⟨(.type "tuple"), none, (.seq ⟨[(.str z181 266)]⟩ 0), ⟨[]⟩⟩
noncomputable def o73 (P : Params) : Obj := ⟨(.type "dict"), none, (.dict ⟨[de P z165 251 (.str z166 194), de P z169 255 (.int 12 254), de P z173 265 (.ref 71), de P z170 267 (.ref 72), de P z2 269 .none]⟩ 3), ⟨[]⟩⟩
noncomputable def o74 (P : Params) : Obj := ⟨(.type "type"), none, (.cls ⟨z180, [(.ref 31)], [(.ref 74), (.ref 31), (.type "Exception"), (.type "BaseException"), (.type "object")], 73, z180, true, [], [], false, none, false⟩), ⟨[some (.ref 56), none, some (.str z180 244), some (.str z180 252), some (.builtin "Exception.__new__"), some (.bool true)]⟩⟩
noncomputable def o75 (P : Params) : Obj := ⟨(.type "super"), none, (.fields ⟨[(.ref 74), (.ref 74), (.ref 74)]⟩), ⟨[]⟩⟩
noncomputable def o76 (P : Params) : Obj := ⟨(.type "builtin_function_or_method"), none, (.fields ⟨[(.builtin "object.__init_subclass__"), (.ref 74)]⟩), ⟨[]⟩⟩
noncomputable def o77 (P : Params) : Obj := ⟨(.type "tuple"), none, (.seq ⟨[(.ref 31)]⟩ 0), ⟨[]⟩⟩
noncomputable def o78 (P : Params) : Obj := ⟨(.type "builtin_function_or_method"), none, (.fields ⟨[(.builtin "type.__prepare__"), (.type "type")]⟩), ⟨[]⟩⟩
noncomputable def o79 (P : Params) : Obj := ⟨(.type "dict"), none, (.dict ⟨[de P z165 279 (.str z166 194), de P z167 281 (.str z183 280), de P z169 283 (.int 17 282), de P z173 293 (.ref 92), de P z170 295 (.ref 93), de P z174 296 (.ref 80)]⟩ 6), ⟨[]⟩⟩
noncomputable def o80 (P : Params) : Obj := ⟨(.type "cell"), none, (.cell (some (.ref 95))), ⟨[]⟩⟩
noncomputable def o81 (P : Params) : Obj := ⟨(.type "tuple"), none, (.seq ⟨[]⟩ 0), ⟨[]⟩⟩
noncomputable def o82 (P : Params) : Obj := ⟨.none, none, (.fields ⟨[(.int 19 0), (.int 4 0), (.ref 91)]⟩), ⟨[]⟩⟩
noncomputable def o83 (P : Params) : Obj := ⟨(.type "code"), none, (.fields ⟨[(.str z183 274), (.str z183 275), (.str z162 276), (.int 17 0), (.int 0 0), (.int 0 0), (.int 0 0), (.int 0 0), (.ref 81), (.bool false), (.int 181 0), (.ref 82), .none, .none, .none, .none, (.int 277 0), (.int 17 0), (.str z162 278)]⟩), ⟨[]⟩⟩
noncomputable def o84 (P : Params) : Obj := ⟨(.type "frame"), none, .plain, ⟨[some (.ref 83), some (.ref 3), some (.ref 79), none, some (.str z166 194), none, some (.ref 0)]⟩⟩
noncomputable def o85 (P : Params) : Obj := ⟨(.type "tuple"), none, (.seq ⟨[(.ref 80)]⟩ 0), ⟨[]⟩⟩
noncomputable def o86 (P : Params) : Obj := ⟨(.type "tuple"), none, (.seq ⟨[(.str z175 287)]⟩ 0), ⟨[]⟩⟩
noncomputable def o87 (P : Params) : Obj := ⟨.none, none, (.fields ⟨[]⟩), ⟨[]⟩⟩
noncomputable def o88 (P : Params) : Obj := ⟨(.type "tuple"), none, (.seq ⟨[(.str z176 288), (.str z177 289), (.str z178 290)]⟩ 0), ⟨[]⟩⟩
noncomputable def o89 (P : Params) : Obj := ⟨(.type "tuple"), none, (.seq ⟨[]⟩ 0), ⟨[]⟩⟩
noncomputable def o90 (P : Params) : Obj := ⟨.none, none, (.func (fd (me 5 0) z184 0 [] .none .none .none .none none .none .none 0)), ⟨[]⟩⟩
noncomputable def o91 (P : Params) : Obj := ⟨(.type "code"), none, (.fields ⟨[(.str z173 284), (.str z184 285), (.str z162 286), (.int 19 0), (.int 3 0), (.int 0 0), (.int 0 0), (.int 3 0), (.ref 86), (.bool true), (.int 181 0), (.ref 87), .none, (.ref 88), (.ref 89), (.ref 90), (.int 291 0), (.int 19 0), (.str z162 292)]⟩), ⟨[]⟩⟩
noncomputable def o92 (P : Params) : Obj := ⟨(.type "function"), none, (.func (fd (me 5 0) z184 3 [(z175, 80)] .none .none .none (.str z166 194) none (.ref 91) (.ref 85) 0)), ⟨[]⟩⟩
noncomputable def o93 (P : Params) : Obj := ⟨(.type "tuple"), none, (.seq ⟨[(.str z178 294)]⟩ 0), ⟨[]⟩⟩
noncomputable def o94 (P : Params) : Obj := ⟨(.type "dict"), none, (.dict ⟨[de P z165 279 (.str z166 194), de P z169 283 (.int 17 282), de P z173 293 (.ref 92), de P z170 295 (.ref 93), de P z2 297 .none]⟩ 3), ⟨[]⟩⟩
noncomputable def o96 (P : Params) : Obj := ⟨(.type "super"), none, (.fields ⟨[(.ref 95), (.ref 95), (.ref 95)]⟩), ⟨[]⟩⟩
noncomputable def o97 (P : Params) : Obj := ⟨(.type "builtin_function_or_method"), none, (.fields ⟨[(.builtin "object.__init_subclass__"), (.ref 95)]⟩), ⟨[]⟩⟩
noncomputable def o98 (P : Params) : Obj := ⟨(.type "tuple"), none, (.seq ⟨[(.ref 95)]⟩ 0), ⟨[]⟩⟩
noncomputable def o99 (P : Params) : Obj := ⟨(.type "builtin_function_or_method"), none, (.fields ⟨[(.builtin "type.__prepare__"), (.type "type")]⟩), ⟨[]⟩⟩
noncomputable def o100 (P : Params) : Obj := ⟨(.type "dict"), none, (.dict ⟨[de P z165 307 (.str z166 194), de P z167 309 (.str z185 308), de P z169 311 (.int 22 310), de P z173 323 (.ref 114), de P z170 326 (.ref 115), de P z174 327 (.ref 101)]⟩ 6), ⟨[]⟩⟩
noncomputable def o101 (P : Params) : Obj := ⟨(.type "cell"), none, (.cell (some (.ref 117))), ⟨[]⟩⟩
noncomputable def o102 (P : Params) : Obj := ⟨(.type "tuple"), none, (.seq ⟨[]⟩ 0), ⟨[]⟩⟩
noncomputable def o103 (P : Params) : Obj := ⟨.none, none, (.fields ⟨[(.int 24 0), (.int 4 0), (.ref 113)]⟩), ⟨[]⟩⟩
noncomputable def o104 (P : Params) : Obj := ⟨(.type "code"), none, (.fields ⟨[(.str z185 302), (.str z185 303), (.str z162 304), (.int 22 0), (.int 0 0), (.int 0 0), (.int 0 0), (.int 0 0), (.ref 102), (.bool false), (.int 181 0), (.ref 103), .none, .none, .none, .none, (.int 305 0), (.int 22 0), (.str z162 306)]⟩), ⟨[]⟩⟩
noncomputable def o105 (P : Params) : Obj := ⟨(.type "frame"), none, .plain, ⟨[some (.ref 104), some (.ref 3), some (.ref 100), none, some (.str z166 194), none, some (.ref 0)]⟩⟩
noncomputable def o106 (P : Params) : Obj := ⟨(.type "tuple"), none, (.seq ⟨[.none, .none, .none, .none]⟩ 0), ⟨[]⟩⟩
noncomputable def o107 (P : Params) : Obj := ⟨(.type "tuple"), none, (.seq ⟨[(.ref 101)]⟩ 0), ⟨[]⟩⟩
noncomputable def o108 (P : Params) : Obj := ⟨(.type "tuple"), none, (.seq ⟨[(.str z175 315)]⟩ 0), ⟨[]⟩⟩
noncomputable def o109 (P : Params) : Obj := ⟨.none, none, (.fields ⟨[]⟩), ⟨[]⟩⟩
noncomputable def o110 (P : Params) : Obj := ⟨(.type "tuple"), none, (.seq ⟨[(.str z176 316), (.str z177 317), (.str z178 318), (.str z186 319), (.str z187 320)]⟩ 0), ⟨[]⟩⟩
noncomputable def o111 (P : Params) : Obj := ⟨(.type "tuple"), none, (.seq ⟨[]⟩ 0), ⟨[]⟩⟩
noncomputable def o112 (P : Params) : Obj := ⟨.none, none, (.func (fd (me 6 0) z188 0 [] .none .none .none .none none .none .none 0)), ⟨[]⟩⟩
noncomputable def o113 (P : Params) : Obj := ⟨(.type "code"), none, (.fields ⟨[(.str z173 312), (.str z188 313), (.str z162 314), (.int 24 0), (.int 5 0), (.int 0 0), (.int 0 0), (.int 3 0), (.ref 108), (.bool true), (.int 181 0), (.ref 109), .none, (.ref 110), (.ref 111), (.ref 112), (.int 321 0), (.int 24 0), (.str z162 322)]⟩), ⟨[]⟩⟩
noncomputable def o114 (P : Params) : Obj := ⟨(.type "function"), none, (.func (fd (me 6 0) z188 3 [(z175, 101)] (.ref 106) .none .none (.str z166 194) none (.ref 113) (.ref 107) 0)), ⟨[]⟩⟩
noncomputable def o115 (P : Params) : Obj := ⟨(.type "tuple"), none, (.seq ⟨[(.str z186 324), (.str z187 325)]⟩ 0), ⟨[]⟩⟩
noncomputable def o116 (P : Params) : Obj := ⟨(.type "dict"), none, (.dict ⟨[de P z165 307 (.str z166 194), de P z169 311 (.int 22 310), de P z173 323 (.ref 114), de P z170 326 (.ref 115), de P z2 328 .none]⟩ 3), ⟨[]⟩⟩
noncomputable def o117 (P : Params) : Obj := ⟨(.type "type"), none, (.cls ⟨z185, [(.ref 95)], [(.ref 117), (.ref 95), (.ref 31), (.type "Exception"), (.type "BaseException"), (.type "object")], 116, z185, true, [], [], false, none, false⟩), ⟨[some (.ref 98), none, some (.str z185 300), some (.str z185 308), some (.builtin "Exception.__new__"), some (.bool true)]⟩⟩
noncomputable def o118 (P : Params) : Obj := ⟨(.type "super"), none, (.fields ⟨[(.ref 117), (.ref 117), (.ref 117)]⟩), ⟨[]⟩⟩
noncomputable def o119 (P : Params) : Obj := ⟨(.type "builtin_function_or_method"), none, (.fields ⟨[(.builtin "object.__init_subclass__"), (.ref 117)]⟩), ⟨[]⟩⟩
noncomputable def o120 (P : Params) : Obj := ⟨(.type "tuple"), none, (.seq ⟨[(.ref 31)]⟩ 0), ⟨[]⟩⟩
noncomputable def o121 (P : Params) : Obj := ⟨(.type "builtin_function_or_method"), none, (.fields ⟨[(.builtin "type.__prepare__"), (.type "type")]⟩), ⟨[]⟩⟩
noncomputable def o122 (P : Params) : Obj := ⟨(.type "dict"), none, (.dict ⟨[de P z165 338 (.str z166 194), de P z167 340 (.str z189 339), de P z169 342 (.int 32 341), de P z173 352 (.ref 135), de P z170 354 (.ref 136), de P z174 355 (.ref 123)]⟩ 6), ⟨[]⟩⟩
noncomputable def o123 (P : Params) : Obj := ⟨(.type "cell"), none, (.cell (some (.ref 138))), ⟨[]⟩⟩
noncomputable def o124 (P : Params) : Obj := ⟨(.type "tuple"), none, (.seq ⟨[]⟩ 0), ⟨[]⟩⟩
noncomputable def o125 (P : Params) : Obj := ⟨.none, none, (.fields ⟨[(.int 34 0), (.int 4 0), (.ref 134)]⟩), ⟨[]⟩⟩
noncomputable def o126 (P : Params) : Obj := ⟨(.type "code"), none, (.fields ⟨[(.str z189 333), (.str z189 334), (.str z162 335), (.int 32 0), (.int 0 0), (.int 0 0), (.int 0 0), (.int 0 0), (.ref 124), (.bool false), (.int 181 0), (.ref 125), .none, .none, .none, .none, (.int 336 0), (.int 32 0), (.str z162 337)]⟩), ⟨[]⟩⟩
noncomputable def o127 (P : Params) : Obj := ⟨(.type "frame"), none, .plain, ⟨[some (.ref 126), some (.ref 3), some (.ref 122), none, some (.str z166 194), none, some (.ref 0)]⟩⟩
noncomputable def o128 (P : Params) : Obj := ⟨(.type "tuple"), none, (.seq ⟨[(.ref 123)]⟩ 0), ⟨[]⟩⟩
noncomputable def o129 (P : Params) : Obj := ⟨(.type "tuple"), none, (.seq ⟨[(.str z175 346)]⟩ 0), ⟨[]⟩⟩
noncomputable def o130 (P : Params) : Obj := ⟨.none, none, (.fields ⟨[]⟩), ⟨[]⟩⟩
noncomputable def o131 (P : Params) : Obj := ⟨(.type "tuple"), none, (.seq ⟨[(.str z176 347), (.str z177 348), (.str z190 349)]⟩ 0), ⟨[]⟩⟩
noncomputable def o132 (P : Params) : Obj := ⟨(.type "tuple"), none, (.seq ⟨[]⟩ 0), ⟨[]⟩⟩
noncomputable def o133 (P : Params) : Obj := ⟨.none, none, (.func (fd (me 7 0) z191 0 [] .none .none .none .none none .none .none 0)), ⟨[]⟩⟩
noncomputable def o134 (P : Params) : Obj := ⟨(.type "code"), none, (.fields ⟨[(.str z173 343), (.str z191 344), (.str z162 345), (.int 34 0), (.int 3 0), (.int 0 0), (.int 0 0), (.int 3 0), (.ref 129), (.bool true), (.int 181 0), (.ref 130), .none, (.ref 131), (.ref 132), (.ref 133), (.int 350 0), (.int 34 0), (.str z162 351)]⟩), ⟨[]⟩⟩
noncomputable def o135 (P : Params) : Obj := ⟨(.type "function"), none, (.func (fd (me 7 0) z191 3 [(z175, 123)] .none .none .none (.str z166 194) none (.ref 134) (.ref 128) 0)), ⟨[]⟩⟩
noncomputable def o136 (P : Params) : Obj := ⟨(.type "tuple"), none, (.seq ⟨[(.str z190 353)]⟩ 0), ⟨[]⟩⟩
noncomputable def o137 (P : Params) : Obj := ⟨(.type "dict"), none, (.dict ⟨[de P z165 338 (.str z166 194), de P z169 342 (.int 32 341), de P z173 352 (.ref 135), de P z170 354 (.ref 136), de P z2 356 .none]⟩ 3), ⟨[]⟩⟩
noncomputable def o139 (P : Params) : Obj := ⟨(.type "super"), none, (.fields ⟨[(.ref 138), (.ref 138), (.ref 138)]⟩), ⟨[]⟩⟩
noncomputable def o140 (P : Params) : Obj := ⟨(.type "builtin_function_or_method"), none, (.fields ⟨[(.builtin "object.__init_subclass__"), (.ref 138)]⟩), ⟨[]⟩⟩
noncomputable def o141 (P : Params) : Obj := ⟨(.type "tuple"), none, (.seq ⟨[(.ref 138)]⟩ 0), ⟨[]⟩⟩
noncomputable def o142 (P : Params) : Obj := ⟨(.type "builtin_function_or_method"), none, (.fields ⟨[(.builtin "type.__prepare__"), (.type "type")]⟩), ⟨[]⟩⟩
noncomputable def o143 (P : Params) : Obj := ⟨(.type "dict"), none, (.dict ⟨[de P z165 366 (.str z166 194), de P z167 368 (.str z192 367), de P z169 370 (.int 37 369), de P z173 382 (.ref 157), de P z170 385 (.ref 158), de P z174 386 (.ref 144)]⟩ 6), ⟨[]⟩⟩
noncomputable def o144 (P : Params) : Obj := ⟨(.type "cell"), none, (.cell (some (.ref 160))), ⟨[]⟩⟩
noncomputable def o145 (P : Params) : Obj := ⟨(.type "tuple"), none, (.seq ⟨[]⟩ 0), ⟨[]⟩⟩
noncomputable def o146 (P : Params) : Obj := ⟨.none, none, (.fields ⟨[(.int 39 0), (.int 4 0), (.ref 156)]⟩), ⟨[]⟩⟩
noncomputable def o147 (P : Params) : Obj := ⟨(.type "code"), none, (.fields ⟨[(.str z192 361), (.str z192 362), (.str z162 363), (.int 37 0), (.int 0 0), (.int 0 0), (.int 0 0), (.int 0 0), (.ref 145), (.bool false), (.int 181 0), (.ref 146), .none, .none, .none, .none, (.int 364 0), (.int 37 0), (.str z162 365)]⟩), ⟨[]⟩⟩
noncomputable def o148 (P : Params) : Obj := ⟨(.type "frame"), none, .plain, ⟨[some (.ref 147), some (.ref 3), some (.ref 143), none, some (.str z166 194), none, some (.ref 0)]⟩⟩
noncomputable def o149 (P : Params) : Obj := ⟨(.type "tuple"), none, (.seq ⟨[.none, .none, .none, .none]⟩ 0), ⟨[]⟩⟩
noncomputable def o150 (P : Params) : Obj := ⟨(.type "tuple"), none, (.seq ⟨[(.ref 144)]⟩ 0), ⟨[]⟩⟩
noncomputable def o151 (P : Params) : Obj := ⟨(.type "tuple"), none, (.seq ⟨[(.str z175 374)]⟩ 0), ⟨[]⟩⟩
noncomputable def o152 (P : Params) : Obj := ⟨.none, none, (.fields ⟨[]⟩), ⟨[]⟩⟩
noncomputable def o153 (P : Params) : Obj := ⟨(.type "tuple"), none, (.seq ⟨[(.str z176 375), (.str z177 376), (.str z190 377), (.str z186 378), (.str z187 379)]⟩ 0), ⟨[]⟩⟩
noncomputable def o154 (P : Params) : Obj := ⟨(.type "tuple"), none, (.seq ⟨[]⟩ 0), ⟨[]⟩⟩
noncomputable def o155 (P : Params) : Obj := ⟨.none, none, (.func (fd (me 8 0) z193 0 [] .none .none .none .none none .none .none 0)), ⟨[]⟩⟩
noncomputable def o156 (P : Params) : Obj := ⟨(.type "code"), none, (.fields ⟨[(.str z173 371), (.str z193 372), (.str z162 373), (.int 39 0), (.int 5 0), (.int 0 0), (.int 0 0), (.int 3 0), (.ref 151), (.bool true), (.int 181 0), (.ref 152), .none, (.ref 153), (.ref 154), (.ref 155), (.int 380 0), (.int 39 0), (.str z162 381)]⟩), ⟨[]⟩⟩
noncomputable def o157 (P : Params) : Obj := ⟨(.type "function"), none, (.func (fd (me 8 0) z193 3 [(z175, 144)] (.ref 149) .none .none (.str z166 194) none (.ref 156) (.ref 150) 0)), ⟨[]⟩⟩
noncomputable def o158 (P : Params) : Obj := ⟨(.type "tuple"), none, (.seq ⟨[(.str z186 383), (.str z187 384)]⟩ 0), ⟨[]⟩⟩
noncomputable def o159 (P : Params) : Obj := ⟨(.type "dict"), none, (.dict ⟨[de P z165 366 (.str z166 194), de P z169 370 (.int 37 369), de P z173 382 (.ref 157), de P z170 385 (.ref 158), de P z2 387 .none]⟩ 3), ⟨[]⟩⟩
noncomputable def o160 (P : Params) : Obj := ⟨(.type "type"), none, (.cls ⟨z192, [(.ref 138)], [(.ref 160), (.ref 138), (.ref 31), (.type "Exception"), (.type "BaseException"), (.type "object")], 159, z192, true, [], [], false, none, false⟩), ⟨[some (.ref 141), none, some (.str z192 359), some (.str z192 367), some (.builtin "Exception.__new__"), some (.bool true)]⟩⟩
noncomputable def o161 (P : Params) : Obj := ⟨(.type "super"), none, (.fields ⟨[(.ref 160), (.ref 160), (.ref 160)]⟩), ⟨[]⟩⟩
noncomputable def o162 (P : Params) : Obj := ⟨(.type "builtin_function_or_method"), none, (.fields ⟨[(.builtin "object.__init_subclass__"), (.ref 160)]⟩), ⟨[]⟩⟩
noncomputable def o163 (P : Params) : Obj := ⟨(.type "range"), none, (.fields ⟨[(.int 0 393), (.int 256 392), (.int 1 394)]⟩), ⟨[]⟩⟩
noncomputable def o1447 (P : Params) : Obj := ⟨(.type "tuple"), none, (.seq ⟨[]⟩ 0), ⟨[]⟩⟩
noncomputable def o1448 (P : Params) : Obj := ⟨(.type "StopIteration"), none, (.fields ⟨[(.ref 1447), .none, .none, .none, (.bool false), .none]⟩), ⟨[]⟩⟩
noncomputable def o1449 (P : Params) : Obj := ⟨(.type "list"), none, (.seq ⟨[(.bytes ⟨[0]⟩ 397), (.bytes ⟨[1]⟩ 400), (.bytes ⟨[2]⟩ 403), (.bytes ⟨[3]⟩ 406), (.bytes ⟨[4]⟩ 409), (.bytes ⟨[5]⟩ 412), (.bytes ⟨[6]⟩ 415), (.bytes ⟨[7]⟩ 418), (.bytes ⟨[8]⟩ 421), (.bytes ⟨[9]⟩ 424), (.bytes ⟨[10]⟩ 427), (.bytes ⟨[11]⟩ 430), (.bytes ⟨[12]⟩ 433), (.bytes ⟨[13]⟩ 436), (.bytes ⟨[14]⟩ 439), (.bytes ⟨[15]⟩ 442), (.bytes ⟨[16]⟩ 445), (.bytes ⟨[17]⟩ 448), (.bytes ⟨[18]⟩ 451), (.bytes ⟨[19]⟩ 454), (.bytes ⟨[20]⟩ 457), (.bytes ⟨[21]⟩ 460), (.bytes ⟨[22]⟩ 463), (.bytes ⟨[23]⟩ 466), (.bytes ⟨[24]⟩ 469), (.bytes ⟨[25]⟩ 472), (.bytes ⟨[26]⟩ 475), (.bytes ⟨[27]⟩ 478), (.bytes ⟨[28]⟩ 481), (.bytes ⟨[29]⟩ 484), (.bytes ⟨[30]⟩ 487), (.bytes ⟨[31]⟩ 490), (.bytes ⟨[32]⟩ 493), (.bytes ⟨[33]⟩ 496), (.bytes ⟨[34]⟩ 499), (.bytes ⟨[35]⟩ 502), (.bytes ⟨[36]⟩ 505), (.bytes ⟨[37]⟩ 508), (.bytes ⟨[38]⟩ 511), (.bytes ⟨[39]⟩ 514), (.bytes ⟨[40]⟩ 517), (.bytes ⟨[41]⟩ 520), (.bytes ⟨[42]⟩ 523), (.bytes ⟨[43]⟩ 526), (.bytes ⟨[44]⟩ 529), (.bytes ⟨[45]⟩ 532), (.bytes ⟨[46]⟩ 535), (.bytes ⟨[47]⟩ 538), (.bytes ⟨[48]⟩ 541), (.bytes ⟨[49]⟩ 544), (.bytes ⟨[50]⟩ 547), (.bytes ⟨[51]⟩ 550), (.bytes ⟨[52]⟩ 553), (.bytes ⟨[53]⟩ 556), (.bytes ⟨[54]⟩ 559), (.bytes ⟨[55]⟩ 562), (.bytes ⟨[56]⟩ 565), (.bytes ⟨[57]⟩ 568), (.bytes ⟨[58]⟩ 571), (.bytes ⟨[59]⟩ 574), (.bytes ⟨[60]⟩ 577), (.bytes ⟨[61]⟩ 580), (.bytes ⟨[62]⟩ 583), (.bytes ⟨[63]⟩ 586), (.bytes ⟨[64]⟩ 589), (.bytes ⟨[65]⟩ 592), (.bytes ⟨[66]⟩ 595), (.bytes ⟨[67]⟩ 598), (.bytes ⟨[68]⟩ 601), (.bytes ⟨[69]⟩ 604), (.bytes ⟨[70]⟩ 607), (.bytes ⟨[71]⟩ 610), (.bytes ⟨[72]⟩ 613), (.bytes ⟨[73]⟩ 616), (.bytes ⟨[74]⟩ 619), (.bytes ⟨[75]⟩ 622), (.bytes ⟨[76]⟩ 625), (.bytes ⟨[77]⟩ 628), (.bytes ⟨[78]⟩ 631), (.bytes ⟨[79]⟩ 634), (.bytes ⟨[80]⟩ 637), (.bytes ⟨[81]⟩ 640), (.bytes ⟨[82]⟩ 643), (.bytes ⟨[83]⟩ 646), (.bytes ⟨[84]⟩ 649), (.bytes ⟨[85]⟩ 652), (.bytes ⟨[86]⟩ 655), (.bytes ⟨[87]⟩ 658), (.bytes ⟨[88]⟩ 661), (.bytes ⟨[89]⟩ 664), (.bytes ⟨[90]⟩ 667), (.bytes ⟨[91]⟩ 670), (.bytes ⟨[92]⟩ 673), (.bytes ⟨[93]⟩ 676), (.bytes ⟨[94]⟩ 679), (.bytes ⟨[95]⟩ 682), (.bytes ⟨[96]⟩ 685), (.bytes ⟨[97]⟩ 688), (.bytes ⟨[98]⟩ 691), (.bytes ⟨[99]⟩ 694), (.bytes ⟨[100]⟩ 697), (.bytes ⟨[101]⟩ 700), (.bytes ⟨[102]⟩ 703), (.bytes ⟨[103]⟩ 706), (.bytes ⟨[104]⟩ 709), (.bytes ⟨[105]⟩ 712), (.bytes ⟨[106]⟩ 715), (.bytes ⟨[107]⟩ 718), (.bytes ⟨[108]⟩ 721), (.bytes ⟨[109]⟩ 724), (.bytes ⟨[110]⟩ 727), (.bytes ⟨[111]⟩ 730), (.bytes ⟨[112]⟩ 733), (.bytes ⟨[113]⟩ 736), (.bytes ⟨[114]⟩ 739), (.bytes ⟨[115]⟩ 742), (.bytes ⟨[116]⟩ 745), (.bytes ⟨[117]⟩ 748), (.bytes ⟨[118]⟩ 751), (.bytes ⟨[119]⟩ 754), (.bytes ⟨[120]⟩ 757), (.bytes ⟨[121]⟩ 760), (.bytes ⟨[122]⟩ 763), (.bytes ⟨[123]⟩ 766), (.bytes ⟨[124]⟩ 769), (.bytes ⟨[125]⟩ 772), (.bytes ⟨[126]⟩ 775), (.bytes ⟨[127]⟩ 778), (.bytes ⟨[128]⟩ 781), (.bytes ⟨[129]⟩ 784), (.bytes ⟨[130]⟩ 787), (.bytes ⟨[131]⟩ 790), (.bytes ⟨[132]⟩ 793), (.bytes ⟨[133]⟩ 796), (.bytes ⟨[134]⟩ 799), (.bytes ⟨[135]⟩ 802), (.bytes ⟨[136]⟩ 805), (.bytes ⟨[137]⟩ 808), (.bytes ⟨[138]⟩ 811), (.bytes ⟨[139]⟩ 814), (.bytes ⟨[140]⟩ 817), (.bytes ⟨[141]⟩ 820), (.bytes ⟨[142]⟩ 823), (.bytes ⟨[143]⟩ 826), (.bytes ⟨[144]⟩ 829), (.bytes ⟨[145]⟩ 832), (.bytes ⟨[146]⟩ 835), (.bytes ⟨[147]⟩ 838), (.bytes ⟨[148]⟩ 841), (.bytes ⟨[149]⟩ 844), (.bytes ⟨[150]⟩ 847), (.bytes ⟨[151]⟩ 850), (.bytes ⟨[152]⟩ 853), (.bytes ⟨[153]⟩ 856), (.bytes ⟨[154]⟩ 859), (.bytes ⟨[155]⟩ 862), (.bytes ⟨[156]⟩ 865), (.bytes ⟨[157]⟩ 868), (.bytes ⟨[158]⟩ 871), (.bytes ⟨[159]⟩ 874), (.bytes ⟨[160]⟩ 877), (.bytes ⟨[161]⟩ 880), (.bytes ⟨[162]⟩ 883), (.bytes ⟨[163]⟩ 886), (.bytes ⟨[164]⟩ 889), (.bytes ⟨[165]⟩ 892), (.bytes ⟨[166]⟩ 895), (.bytes ⟨[167]⟩ 898), (.bytes ⟨[168]⟩ 901), (.bytes ⟨[169]⟩ 904), (.bytes ⟨[170]⟩ 907), (.bytes ⟨[171]⟩ 910), (.bytes ⟨[172]⟩ 913), (.bytes ⟨[173]⟩ 916), (.bytes ⟨[174]⟩ 919), (.bytes ⟨[175]⟩ 922), (.bytes ⟨[176]⟩ 925), (.bytes ⟨[177]⟩ 928), (.bytes ⟨[178]⟩ 931), (.bytes ⟨[179]⟩ 934), (.bytes ⟨[180]⟩ 937), (.bytes ⟨[181]⟩ 940), (.bytes ⟨[182]⟩ 943), (.bytes ⟨[183]⟩ 946), (.bytes ⟨[184]⟩ 949), (.bytes ⟨[185]⟩ 952), (.bytes ⟨[186]⟩ 955), (.bytes ⟨[187]⟩ 958), (.bytes ⟨[188]⟩ 961), (.bytes ⟨[189]⟩ 964), (.bytes ⟨[190]⟩ 967), (.bytes ⟨[191]⟩ 970), (.bytes ⟨[192]⟩ 973), (.bytes ⟨[193]⟩ 976), (.bytes ⟨[194]⟩ 979), (.bytes ⟨[195]⟩ 982), (.bytes ⟨[196]⟩ 985), (.bytes ⟨[197]⟩ 988), (.bytes ⟨[198]⟩ 991), (.bytes ⟨[199]⟩ 994), (.bytes ⟨[200]⟩ 997), (.bytes ⟨[201]⟩ 1000), (.bytes ⟨[202]⟩ 1003), (.bytes ⟨[203]⟩ 1006), (.bytes ⟨[204]⟩ 1009), (.bytes ⟨[205]⟩ 1012), (.bytes ⟨[206]⟩ 1015), (.bytes ⟨[207]⟩ 1018), (.bytes ⟨[208]⟩ 1021), (.bytes ⟨[209]⟩ 1024), (.bytes ⟨[210]⟩ 1027), (.bytes ⟨[211]⟩ 1030), (.bytes ⟨[212]⟩ 1033), (.bytes ⟨[213]⟩ 1036), (.bytes ⟨[214]⟩ 1039), (.bytes ⟨[215]⟩ 1042), (.bytes ⟨[216]⟩ 1045), (.bytes ⟨[217]⟩ 1048), (.bytes ⟨[218]⟩ 1051), (.bytes ⟨[219]⟩ 1054), (.bytes ⟨[220]⟩ 1057), (.bytes ⟨[221]⟩ 1060), (.bytes ⟨[222]⟩ 1063), (.bytes ⟨[223]⟩ 1066), (.bytes ⟨[224]⟩ 1069), (.bytes ⟨[225]⟩ 1072), (.bytes ⟨[226]⟩ 1075), (.bytes ⟨[227]⟩ 1078), (.bytes ⟨[228]⟩ 1081), (.bytes ⟨[229]⟩ 1084), (.bytes ⟨[230]⟩ 1087), (.bytes ⟨[231]⟩ 1090), (.bytes ⟨[232]⟩ 1093), (.bytes ⟨[233]⟩ 1096), (.bytes ⟨[234]⟩ 1099), (.bytes ⟨[235]⟩ 1102), (.bytes ⟨[236]⟩ 1105), (.bytes ⟨[237]⟩ 1108), (.bytes ⟨[238]⟩ 1111), (.bytes ⟨[239]⟩ 1114), (.bytes ⟨[240]⟩ 1117), (.bytes ⟨[241]⟩ 1120), (.bytes ⟨[242]⟩ 1123), (.bytes ⟨[243]⟩ 1126), (.bytes ⟨[244]⟩ 1129), (.bytes ⟨[245]⟩ 1132), (.bytes ⟨[246]⟩ 1135), (.bytes ⟨[247]⟩ 1138), (.bytes ⟨[248]⟩ 1141), (.bytes ⟨[249]⟩ 1144), (.bytes ⟨[250]⟩ 1147), (.bytes ⟨[251]⟩ 1150), (.bytes ⟨[252]⟩ 1153), (.bytes ⟨[253]⟩ 1156), (.bytes ⟨[254]⟩ 1159), (.bytes ⟨[255]⟩ 1162)]⟩ 1), ⟨[]⟩⟩
noncomputable def o1450 (P : Params) : Obj := ⟨(.type "tuple"), none, (.seq ⟨[(.bytes ⟨[0]⟩ 397), (.bytes ⟨[1]⟩ 400), (.bytes ⟨[2]⟩ 403), (.bytes ⟨[3]⟩ 406), (.bytes ⟨[4]⟩ 409), (.bytes ⟨[5]⟩ 412), (.bytes ⟨[6]⟩ 415), (.bytes ⟨[7]⟩ 418), (.bytes ⟨[8]⟩ 421), (.bytes ⟨[9]⟩ 424), (.bytes ⟨[10]⟩ 427), (.bytes ⟨[11]⟩ 430), (.bytes ⟨[12]⟩ 433), (.bytes ⟨[13]⟩ 436), (.bytes ⟨[14]⟩ 439), (.bytes ⟨[15]⟩ 442), (.bytes ⟨[16]⟩ 445), (.bytes ⟨[17]⟩ 448), (.bytes ⟨[18]⟩ 451), (.bytes ⟨[19]⟩ 454), (.bytes ⟨[20]⟩ 457), (.bytes ⟨[21]⟩ 460), (.bytes ⟨[22]⟩ 463), (.bytes ⟨[23]⟩ 466), (.bytes ⟨[24]⟩ 469), (.bytes ⟨[25]⟩ 472), (.bytes ⟨[26]⟩ 475), (.bytes ⟨[27]⟩ 478), (.bytes ⟨[28]⟩ 481), (.bytes ⟨[29]⟩ 484), (.bytes ⟨[30]⟩ 487), (.bytes ⟨[31]⟩ 490), (.bytes ⟨[32]⟩ 493), (.bytes ⟨[33]⟩ 496), (.bytes ⟨[34]⟩ 499), (.bytes ⟨[35]⟩ 502), (.bytes ⟨[36]⟩ 505), (.bytes ⟨[37]⟩ 508), (.bytes ⟨[38]⟩ 511), (.bytes ⟨[39]⟩ 514), (.bytes ⟨[40]⟩ 517), (.bytes ⟨[41]⟩ 520), (.bytes ⟨[42]⟩ 523), (.bytes ⟨[43]⟩ 526), (.bytes ⟨[44]⟩ 529), (.bytes ⟨[45]⟩ 532), (.bytes ⟨[46]⟩ 535), (.bytes ⟨[47]⟩ 538), (.bytes ⟨[48]⟩ 541), (.bytes ⟨[49]⟩ 544), (.bytes ⟨[50]⟩ 547), (.bytes ⟨[51]⟩ 550), (.bytes ⟨[52]⟩ 553), (.bytes ⟨[53]⟩ 556), (.bytes ⟨[54]⟩ 559), (.bytes ⟨[55]⟩ 562), (.bytes ⟨[56]⟩ 565), (.bytes ⟨[57]⟩ 568), (.bytes ⟨[58]⟩ 571), (.bytes ⟨[59]⟩ 574), (.bytes ⟨[60]⟩ 577), (.bytes ⟨[61]⟩ 580), (.bytes ⟨[62]⟩ 583), (.bytes ⟨[63]⟩ 586), (.bytes ⟨[64]⟩ 589), (.bytes ⟨[65]⟩ 592), (.bytes ⟨[66]⟩ 595), (.bytes ⟨[67]⟩ 598), (.bytes ⟨[68]⟩ 601), (.bytes ⟨[69]⟩ 604), (.bytes ⟨[70]⟩ 607), (.bytes ⟨[71]⟩ 610), (.bytes ⟨[72]⟩ 613), (.bytes ⟨[73]⟩ 616), (.bytes ⟨[74]⟩ 619), (.bytes ⟨[75]⟩ 622), (.bytes ⟨[76]⟩ 625), (.bytes ⟨[77]⟩ 628), (.bytes ⟨[78]⟩ 631), (.bytes ⟨[79]⟩ 634), (.bytes ⟨[80]⟩ 637), (.bytes ⟨[81]⟩ 640), (.bytes ⟨[82]⟩ 643), (.bytes ⟨[83]⟩ 646), (.bytes ⟨[84]⟩ 649), (.bytes ⟨[85]⟩ 652), (.bytes ⟨[86]⟩ 655), (.bytes ⟨[87]⟩ 658), (.bytes ⟨[88]⟩ 661), (.bytes ⟨[89]⟩ 664), (.bytes ⟨[90]⟩ 667), (.bytes ⟨[91]⟩ 670), (.bytes ⟨[92]⟩ 673), (.bytes ⟨[93]⟩ 676), (.bytes ⟨[94]⟩ 679), (.bytes ⟨[95]⟩ 682), (.bytes ⟨[96]⟩ 685), (.bytes ⟨[97]⟩ 688), (.bytes ⟨[98]⟩ 691), (.bytes ⟨[99]⟩ 694), (.bytes ⟨[100]⟩ 697), (.bytes ⟨[101]⟩ 700), (.bytes ⟨[102]⟩ 703), (.bytes ⟨[103]⟩ 706), (.bytes ⟨[104]⟩ 709), (.bytes ⟨[105]⟩ 712), (.bytes ⟨[106]⟩ 715), (.bytes ⟨[107]⟩ 718), (.bytes ⟨[108]⟩ 721), (.bytes ⟨[109]⟩ 724), (.bytes ⟨[110]⟩ 727), (.bytes ⟨[111]⟩ 730), (.bytes ⟨[112]⟩ 733), (.bytes ⟨[113]⟩ 736), (.bytes ⟨[114]⟩ 739), (.bytes ⟨[115]⟩ 742), (.bytes ⟨[116]⟩ 745), (.bytes ⟨[117]⟩ 748), (.bytes ⟨[118]⟩ 751), (.bytes ⟨[119]⟩ 754), (.bytes ⟨[120]⟩ 757), (.bytes ⟨[121]⟩ 760), (.bytes ⟨[122]⟩ 763), (.bytes ⟨[123]⟩ 766), (.bytes ⟨[124]⟩ 769), (.bytes ⟨[125]⟩ 772), (.bytes ⟨[126]⟩ 775), (.bytes ⟨[127]⟩ 778), (.bytes ⟨[128]⟩ 781), (.bytes ⟨[129]⟩ 784), (.bytes ⟨[130]⟩ 787), (.bytes ⟨[131]⟩ 790), (.bytes ⟨[132]⟩ 793), (.bytes ⟨[133]⟩ 796), (.bytes ⟨[134]⟩ 799), (.bytes ⟨[135]⟩ 802), (.bytes ⟨[136]⟩ 805), (.bytes ⟨[137]⟩ 808), (.bytes ⟨[138]⟩ 811), (.bytes ⟨[139]⟩ 814), (.bytes ⟨[140]⟩ 817), (.bytes ⟨[141]⟩ 820), (.bytes ⟨[142]⟩ 823), (.bytes ⟨[143]⟩ 826), (.bytes ⟨[144]⟩ 829), (.bytes ⟨[145]⟩ 832), (.bytes ⟨[146]⟩ 835), (.bytes ⟨[147]⟩ 838), (.bytes ⟨[148]⟩ 841), (.bytes ⟨[149]⟩ 844), (.bytes ⟨[150]⟩ 847), (.bytes ⟨[151]⟩ 850), (.bytes ⟨[152]⟩ 853), (.bytes ⟨[153]⟩ 856), (.bytes ⟨[154]⟩ 859), (.bytes ⟨[155]⟩ 862), (.bytes ⟨[156]⟩ 865), (.bytes ⟨[157]⟩ 868), (.bytes ⟨[158]⟩ 871), (.bytes ⟨[159]⟩ 874), (.bytes ⟨[160]⟩ 877), (.bytes ⟨[161]⟩ 880), (.bytes ⟨[162]⟩ 883), (.bytes ⟨[163]⟩ 886), (.bytes ⟨[164]⟩ 889), (.bytes ⟨[165]⟩ 892), (.bytes ⟨[166]⟩ 895), (.bytes ⟨[167]⟩ 898), (.bytes ⟨[168]⟩ 901), (.bytes ⟨[169]⟩ 904), (.bytes ⟨[170]⟩ 907), (.bytes ⟨[171]⟩ 910), (.bytes ⟨[172]⟩ 913), (.bytes ⟨[173]⟩ 916), (.bytes ⟨[174]⟩ 919), (.bytes ⟨[175]⟩ 922), (.bytes ⟨[176]⟩ 925), (.bytes ⟨[177]⟩ 928), (.bytes ⟨[178]⟩ 931), (.bytes ⟨[179]⟩ 934), (.bytes ⟨[180]⟩ 937), (.bytes ⟨[181]⟩ 940), (.bytes ⟨[182]⟩ 943), (.bytes ⟨[183]⟩ 946), (.bytes ⟨[184]⟩ 949), (.bytes ⟨[185]⟩ 952), (.bytes ⟨[186]⟩ 955), (.bytes ⟨[187]⟩ 958), (.bytes ⟨[188]⟩ 961), (.bytes ⟨[189]⟩ 964), (.bytes ⟨[190]⟩ 967), (.bytes ⟨[191]⟩ 970), (.bytes ⟨[192]⟩ 973), (.bytes ⟨[193]⟩ 976), (.bytes ⟨[194]⟩ 979), (.bytes ⟨[195]⟩ 982), (.bytes ⟨[196]⟩ 985), (.bytes ⟨[197]⟩ 988), (.bytes ⟨[198]⟩ 991), (.bytes ⟨[199]⟩ 994), (.bytes ⟨[200]⟩ 997), (.bytes ⟨[201]⟩ 1000), (.bytes ⟨[202]⟩ 1003), (.bytes ⟨[203]⟩ 1006), (.bytes ⟨[204]⟩ 1009), (.bytes ⟨[205]⟩ 1012), (.bytes ⟨[206]⟩ 1015), (.bytes ⟨[207]⟩ 1018), (.bytes ⟨[208]⟩ 1021), (.bytes ⟨[209]⟩ 1024), (.bytes ⟨[210]⟩ 1027), (.bytes ⟨[211]⟩ 1030), (.bytes ⟨[212]⟩ 1033), (.bytes ⟨[213]⟩ 1036), (.bytes ⟨[214]⟩ 1039), (.bytes ⟨[215]⟩ 1042), (.bytes ⟨[216]⟩ 1045), (.bytes ⟨[217]⟩ 1048), (.bytes ⟨[218]⟩ 1051), (.bytes ⟨[219]⟩ 1054), (.bytes ⟨[220]⟩ 1057), (.bytes ⟨[221]⟩ 1060), (.bytes ⟨[222]⟩ 1063), (.bytes ⟨[223]⟩ 1066), (.bytes ⟨[224]⟩ 1069), (.bytes ⟨[225]⟩ 1072), (.bytes ⟨[226]⟩ 1075), (.bytes ⟨[227]⟩ 1078), (.bytes ⟨[228]⟩ 1081), (.bytes ⟨[229]⟩ 1084), (.bytes ⟨[230]⟩ 1087), (.bytes ⟨[231]⟩ 1090), (.bytes ⟨[232]⟩ 1093), (.bytes ⟨[233]⟩ 1096), (.bytes ⟨[234]⟩ 1099), (.bytes ⟨[235]⟩ 1102), (.bytes ⟨[236]⟩ 1105), (.bytes ⟨[237]⟩ 1108), (.bytes ⟨[238]⟩ 1111), (.bytes ⟨[239]⟩ 1114), (.bytes ⟨[240]⟩ 1117), (.bytes ⟨[241]⟩ 1120), (.bytes ⟨[242]⟩ 1123), (.bytes ⟨[243]⟩ 1126), (.bytes ⟨[244]⟩ 1129), (.bytes ⟨[245]⟩ 1132), (.bytes ⟨[246]⟩ 1135), (.bytes ⟨[247]⟩ 1138), (.bytes ⟨[248]⟩ 1141), (.bytes ⟨[249]⟩ 1144), (.bytes ⟨[250]⟩ 1147), (.bytes ⟨[251]⟩ 1150), (.bytes ⟨[252]⟩ 1153), (.bytes ⟨[253]⟩ 1156), (.bytes ⟨[254]⟩ 1159), (.bytes ⟨[255]⟩ 1162)]⟩ 0), ⟨[]⟩⟩
noncomputable def o1451 (P : Params) : Obj := ⟨(.type "tuple"), none, (.seq ⟨[]⟩ 0), ⟨[]⟩⟩
noncomputable def o1452 (P : Params) : Obj := ⟨.none, none, (.fields ⟨[]⟩), ⟨[]⟩⟩
noncomputable def o1453 (P : Params) : Obj := ⟨(.type "tuple"), none, (.seq ⟨[(.str z194 1167)]⟩ 0), ⟨[]⟩⟩
noncomputable def o1454 (P : Params) : Obj := ⟨(.type "tuple"), none, (.seq ⟨[]⟩ 0), ⟨[]⟩⟩
noncomputable def o1455 (P : Params) : Obj := ⟨.none, none, (.func (fd (st 11) z195 0 [] .none .none .none .none none .none .none 0)), ⟨[]⟩⟩
noncomputable def o1456 (P : Params) : Obj := ⟨(.type "code"), none, (.fields ⟨[(.str z195 1164), (.str z195 1165), (.str z162 1166), (.int 49 0), (.int 1 0), (.int 0 0), (.int 0 0), (.int 3 0), (.ref 1451), (.bool true), (.int 181 0), (.ref 1452), .none, (.ref 1453), (.ref 1454), (.ref 1455), (.int 1168 0), (.int 49 0), (.str z162 1169)]⟩), ⟨[]⟩⟩
noncomputable def o1457 (P : Params) : Obj := ⟨(.type "function"), none, (.func (fd (st 11) z195 3 [] .none .none .none (.str z196 390) none (.ref 1456) .none 0)), ⟨[]⟩⟩
noncomputable def o1458 (P : Params) : Obj := ⟨(.type "tuple"), none, (.seq ⟨[]⟩ 0), ⟨[]⟩⟩
noncomputable def o1459 (P : Params) : Obj := ⟨.none, none, (.fields ⟨[]⟩), ⟨[]⟩⟩
noncomputable def o1460 (P : Params) : Obj := ⟨(.type "tuple"), none, (.seq ⟨[(.str z194 1174)]⟩ 0), ⟨[]⟩⟩
noncomputable def o1461 (P : Params) : Obj := ⟨(.type "tuple"), none, (.seq ⟨[]⟩ 0), ⟨[]⟩⟩
noncomputable def o1462 (P : Params) : Obj := ⟨.none, none, (.func (fd (st 12) z197 0 [] .none .none .none .none none .none .none 0)), ⟨[]⟩⟩
noncomputable def o1463 (P : Params) : Obj := ⟨(.type "code"), none, (.fields ⟨[(.str z197 1171), (.str z197 1172), (.str z162 1173), (.int 51 0), (.int 1 0), (.int 0 0), (.int 0 0), (.int 3 0), (.ref 1458), (.bool true), (.int 181 0), (.ref 1459), .none, (.ref 1460), (.ref 1461), (.ref 1462), (.int 1175 0), (.int 51 0), (.str z162 1176)]⟩), ⟨[]⟩⟩
noncomputable def o1464 (P : Params) : Obj := ⟨(.type "function"), none, (.func (fd (st 12) z197 3 [] .none .none .none (.str z196 390) none (.ref 1463) .none 0)), ⟨[]⟩⟩
noncomputable def o1465 (P : Params) : Obj := ⟨(.type "tuple"), none, (.seq ⟨[]⟩ 0), ⟨[]⟩⟩
noncomputable def o1466 (P : Params) : Obj := ⟨.none, none, (.fields ⟨[]⟩), ⟨[]⟩⟩
noncomputable def o1467 (P : Params) : Obj := ⟨(.type "tuple"), none, (.seq ⟨[(.str z194 1181)]⟩ 0), ⟨[]⟩⟩
noncomputable def o1468 (P : Params) : Obj := ⟨(.type "tuple"), none, (.seq ⟨[]⟩ 0), ⟨[]⟩⟩
noncomputable def o1469 (P : Params) : Obj := ⟨.none, none, (.func (fd (st 13) z198 0 [] .none .none .none .none none .none .none 0)), ⟨[]⟩⟩
noncomputable def o1470 (P : Params) : Obj := ⟨(.type "code"), none, (.fields ⟨[(.str z198 1178), (.str z198 1179), (.str z162 1180), (.int 53 0), (.int 1 0), (.int 0 0), (.int 0 0), (.int 3 0), (.ref 1465), (.bool true), (.int 181 0), (.ref 1466), .none, (.ref 1467), (.ref 1468), (.ref 1469), (.int 1182 0), (.int 53 0), (.str z162 1183)]⟩), ⟨[]⟩⟩
noncomputable def o1471 (P : Params) : Obj := ⟨(.type "function"), none, (.func (fd (st 13) z198 3 [] .none .none .none (.str z196 390) none (.ref 1470) .none 0)), ⟨[]⟩⟩
noncomputable def o1472 (P : Params) : Obj := ⟨(.type "tuple"), none, (.seq ⟨[]⟩ 0), ⟨[]⟩⟩
noncomputable def o1473 (P : Params) : Obj := ⟨(.type "builtin_function_or_method"), none, (.fields ⟨[(.builtin "type.__prepare__"), (.type "type")]⟩), ⟨[]⟩⟩
noncomputable def o1474 (P : Params) : Obj := ⟨(.type "dict"), none, (.dict ⟨[de P z165 1194 (.str z199 1185), de P z167 1196 (.str z200 1195), de P z169 1198 (.int 56 1197), de P z173 1206 (.ref 1486), de P z201 1215 (.ref 1493), de P z202 1223 (.ref 1500), de P z170 1225 (.ref 1501)]⟩ 7), ⟨[]⟩⟩
noncomputable def o1475 (P : Params) : Obj := ⟨(.type "tuple"), none, (.seq ⟨[]⟩ 0), ⟨[]⟩⟩
noncomputable def o1476 (P : Params) : Obj := ⟨.none, none, (.fields ⟨[(.int 58 0), (.int 4 0), (.ref 1485), (.int 61 0), (.int 4 0), (.ref 1492), (.int 77 0), (.int 4 0), (.ref 1499)]⟩), ⟨[]⟩⟩
noncomputable def o1477 (P : Params) : Obj := ⟨(.type "code"), none, (.fields ⟨[(.str z200 1189), (.str z200 1190), (.str z162 1191), (.int 56 0), (.int 0 0), (.int 0 0), (.int 0 0), (.int 0 0), (.ref 1475), (.bool false), (.int 181 0), (.ref 1476), .none, .none, .none, .none, (.int 1192 0), (.int 56 0), (.str z162 1193)]⟩), ⟨[]⟩⟩
noncomputable def o1478 (P : Params) : Obj := ⟨(.type "frame"), none, .plain, ⟨[some (.ref 1477), some (.ref 3), some (.ref 1474), none, some (.str z199 1185), none, some (.ref 0)]⟩⟩
noncomputable def o1479 (P : Params) : Obj := ⟨(.type "tuple"), none, (.seq ⟨[.none]⟩ 0), ⟨[]⟩⟩
noncomputable def o1480 (P : Params) : Obj := ⟨(.type "tuple"), none, (.seq ⟨[]⟩ 0), ⟨[]⟩⟩
noncomputable def o1481 (P : Params) : Obj := ⟨.none, none, (.fields ⟨[]⟩), ⟨[]⟩⟩
noncomputable def o1482 (P : Params) : Obj := ⟨(.type "tuple"), none, (.seq ⟨[(.str z176 1202), (.str z203 1203)]⟩ 0), ⟨[]⟩⟩
noncomputable def o1483 (P : Params) : Obj := ⟨(.type "tuple"), none, (.seq ⟨[]⟩ 0), ⟨[]⟩⟩
noncomputable def o1484 (P : Params) : Obj := ⟨.none, none, (.func (fd (me 15 0) z204 0 [] .none .none .none .none none .none .none 0)), ⟨[]⟩⟩
noncomputable def o1485 (P : Params) : Obj := ⟨(.type "code"), none, (.fields ⟨[(.str z173 1199), (.str z204 1200), (.str z162 1201), (.int 58 0), (.int 2 0), (.int 0 0), (.int 0 0), (.int 3 0), (.ref 1480), (.bool true), (.int 181 0), (.ref 1481), .none, (.ref 1482), (.ref 1483), (.ref 1484), (.int 1204 0), (.int 58 0), (.str z162 1205)]⟩), ⟨[]⟩⟩
noncomputable def o1486 (P : Params) : Obj := ⟨(.type "function"), none, (.func (fd (me 15 0) z204 3 [] (.ref 1479) .none .none (.str z199 1185) none (.ref 1485) .none 0)), ⟨[]⟩⟩
noncomputable def o1487 (P : Params) : Obj := ⟨(.type "tuple"), none, (.seq ⟨[]⟩ 0), ⟨[]⟩⟩
noncomputable def o1488 (P : Params) : Obj := ⟨.none, none, (.fields ⟨[]⟩), ⟨[]⟩⟩
noncomputable def o1489 (P : Params) : Obj := ⟨(.type "tuple"), none, (.seq ⟨[(.str z176 1210), (.str z178 1211), (.str z205 1212)]⟩ 0), ⟨[]⟩⟩
noncomputable def o1490 (P : Params) : Obj := ⟨(.type "tuple"), none, (.seq ⟨[]⟩ 0), ⟨[]⟩⟩
noncomputable def o1491 (P : Params) : Obj := ⟨.none, none, (.func (fd (me 15 1) z206 0 [] .none .none .none .none none .none .none 0)), ⟨[]⟩⟩
noncomputable def o1492 (P : Params) : Obj := ⟨(.type "code"), none, (.fields ⟨[(.str z201 1207), (.str z206 1208), (.str z162 1209), (.int 61 0), (.int 2 0), (.int 0 0), (.int 0 0), (.int 3 0), (.ref 1487), (.bool true), (.int 181 0), (.ref 1488), .none, (.ref 1489), (.ref 1490), (.ref 1491), (.int 1213 0), (.int 61 0), (.str z162 1214)]⟩), ⟨[]⟩⟩
noncomputable def o1493 (P : Params) : Obj := ⟨(.type "function"), none, (.func (fd (me 15 1) z206 3 [] .none .none .none (.str z199 1185) none (.ref 1492) .none 0)), ⟨[]⟩⟩
noncomputable def o1494 (P : Params) : Obj := ⟨(.type "tuple"), none, (.seq ⟨[]⟩ 0), ⟨[]⟩⟩
noncomputable def o1495 (P : Params) : Obj := ⟨.none, none, (.fields ⟨[]⟩), ⟨[]⟩⟩
noncomputable def o1496 (P : Params) : Obj := ⟨(.type "tuple"), none, (.seq ⟨[(.str z176 1219), (.str z190 1220)]⟩ 0), ⟨[]⟩⟩
noncomputable def o1497 (P : Params) : Obj := ⟨(.type "tuple"), none, (.seq ⟨[]⟩ 0), ⟨[]⟩⟩
noncomputable def o1498 (P : Params) : Obj := ⟨.none, none, (.func (fd (me 15 2) z207 0 [] .none .none .none .none none .none .none 0)), ⟨[]⟩⟩
noncomputable def o1499 (P : Params) : Obj := ⟨(.type "code"), none, (.fields ⟨[(.str z202 1216), (.str z207 1217), (.str z162 1218), (.int 77 0), (.int 2 0), (.int 0 0), (.int 0 0), (.int 3 0), (.ref 1494), (.bool true), (.int 181 0), (.ref 1495), .none, (.ref 1496), (.ref 1497), (.ref 1498), (.int 1221 0), (.int 77 0), (.str z162 1222)]⟩), ⟨[]⟩⟩
noncomputable def o1500 (P : Params) : Obj := ⟨(.type "function"), none, (.func (fd (me 15 2) z207 3 [] .none .none .none (.str z199 1185) none (.ref 1499) .none 0)), ⟨[]⟩⟩
noncomputable def o1501 (P : Params) : Obj := ⟨(.type "tuple"), none, (.seq ⟨[(.str z203 1224)]⟩ 0), ⟨[]⟩⟩
noncomputable def o1502 (P : Params) : Obj := ⟨(.type "dict"), none, (.dict ⟨[de P z165 1194 (.str z199 1185), de P z169 1198 (.int 56 1197), de P z173 1206 (.ref 1486), de P z201 1215 (.ref 1493), de P z202 1223 (.ref 1500), de P z170 1225 (.ref 1501), de P z208 1227 (.ref 1504), de P z171 1229 (.ref 1505), de P z2 1230 .none]⟩ 4), ⟨[]⟩⟩
noncomputable def o1503 (P : Params) : Obj := ⟨(.type "type"), none, (.cls ⟨z200, [(.type "object")], [(.ref 1503), (.type "object")], 1502, z200, true, [], [], false, none, false⟩), ⟨[none, none, some (.str z200 1187), some (.str z200 1195), some (.builtin "object.__new__"), some (.bool true)]⟩⟩
noncomputable def o1504 (P : Params) : Obj := ⟨(.type "getset_descriptor"), none, (.fields ⟨[(.str z208 1226), (.ref 1503), (.builtin "function.__dict__"), (.builtin "function.__dict__#set")]⟩), ⟨[]⟩⟩
noncomputable def o1505 (P : Params) : Obj := ⟨(.type "getset_descriptor"), none, (.fields ⟨[(.str z171 1228), (.ref 1503), (.builtin "ExceptionGroup.__weakref__"), .none]⟩), ⟨[]⟩⟩
noncomputable def o1506 (P : Params) : Obj := ⟨(.type "super"), none, (.fields ⟨[(.ref 1503), (.ref 1503), (.ref 1503)]⟩), ⟨[]⟩⟩
noncomputable def o1507 (P : Params) : Obj := ⟨(.type "builtin_function_or_method"), none, (.fields ⟨[(.builtin "object.__init_subclass__"), (.ref 1503)]⟩), ⟨[]⟩⟩
noncomputable def o1508 (P : Params) : Obj := ⟨(.type "dict"), none, (.dict ⟨[de P z203 1236 .none]⟩ 1), ⟨[]⟩⟩
noncomputable def o1509 (P : Params) : Obj := ⟨(.ref 1503), (some 1508), .plain, ⟨[]⟩⟩
noncomputable def o1510 (P : Params) : Obj := ⟨(.type "frame"), none, (.dict ⟨[de P z176 1233 (.ref 1509), de P z203 1234 .none]⟩ 2), ⟨[]⟩⟩
noncomputable def o1511 (P : Params) : Obj := ⟨(.type "tuple"), none, (.seq ⟨[]⟩ 0), ⟨[]⟩⟩
noncomputable def o1512 (P : Params) : Obj := ⟨(.type "builtin_function_or_method"), none, (.fields ⟨[(.builtin "type.__prepare__"), (.type "type")]⟩), ⟨[]⟩⟩
noncomputable def o1513 (P : Params) : Obj := ⟨(.type "dict"), none, (.dict ⟨[de P z165 1247 (.str z209 1238), de P z167 1249 (.str z210 1248), de P z169 1251 (.int 86 1250), de P z173 1261 (.ref 1525), de P z211 1282 (.ref 1535), de P z212 1302 (.ref 1545), de P z213 1310 (.ref 1553), de P z201 1318 (.ref 1560), de P z202 1326 (.ref 1567), de P z170 1330 (.ref 1568)]⟩ 10), ⟨[]⟩⟩
noncomputable def o1514 (P : Params) : Obj := ⟨(.type "tuple"), none, (.seq ⟨[]⟩ 0), ⟨[]⟩⟩
noncomputable def o1515 (P : Params) : Obj := ⟨.none, none, (.fields ⟨[(.int 88 0), (.int 4 0), (.ref 1524), (.int 94 0), (.int 4 0), (.ref 1532), (.int 98 0), (.int 4 0), (.ref 1542), (.int 101 0), (.int 4 0), (.ref 1552), (.int 104 0), (.int 4 0), (.ref 1559), (.int 111 0), (.int 4 0), (.ref 1566)]⟩), ⟨[]⟩⟩
noncomputable def o1516 (P : Params) : Obj := ⟨(.type "code"), none, (.fields ⟨[(.str z210 1242), (.str z210 1243), (.str z162 1244), (.int 86 0), (.int 0 0), (.int 0 0), (.int 0 0), (.int 0 0), (.ref 1514), (.bool false), (.int 181 0), (.ref 1515), .none, .none, .none, .none, (.int 1245 0), (.int 86 0), (.str z162 1246)]⟩), ⟨[]⟩⟩
noncomputable def o1517 (P : Params) : Obj := ⟨(.type "frame"), none, .plain, ⟨[some (.ref 1516), some (.ref 3), some (.ref 1513), none, some (.str z209 1238), none, some (.ref 0)]⟩⟩
noncomputable def o1518 (P : Params) : Obj := ⟨(.type "tuple"), none, (.seq ⟨[.none, .none, (.bool false)]⟩ 0), ⟨[]⟩⟩
noncomputable def o1519 (P : Params) : Obj := ⟨(.type "tuple"), none, (.seq ⟨[]⟩ 0), ⟨[]⟩⟩
noncomputable def o1520 (P : Params) : Obj := ⟨.none, none, (.fields ⟨[]⟩), ⟨[]⟩⟩
noncomputable def o1521 (P : Params) : Obj := ⟨(.type "tuple"), none, (.seq ⟨[(.str z176 1255), (.str z214 1256), (.str z215 1257), (.str z216 1258)]⟩ 0), ⟨[]⟩⟩
noncomputable def o1522 (P : Params) : Obj := ⟨(.type "tuple"), none, (.seq ⟨[]⟩ 0), ⟨[]⟩⟩
noncomputable def o1523 (P : Params) : Obj := ⟨.none, none, (.func (fd (me 18 0) z217 0 [] .none .none .none .none none .none .none 0)), ⟨[]⟩⟩
noncomputable def o1524 (P : Params) : Obj := ⟨(.type "code"), none, (.fields ⟨[(.str z173 1252), (.str z217 1253), (.str z162 1254), (.int 88 0), (.int 4 0), (.int 0 0), (.int 0 0), (.int 3 0), (.ref 1519), (.bool true), (.int 181 0), (.ref 1520), .none, (.ref 1521), (.ref 1522), (.ref 1523), (.int 1259 0), (.int 88 0), (.str z162 1260)]⟩), ⟨[]⟩⟩
noncomputable def o1525 (P : Params) : Obj := ⟨(.type "function"), none, (.func (fd (me 18 0) z217 3 [] (.ref 1518) .none .none (.str z209 1238) none (.ref 1524) .none 0)), ⟨[]⟩⟩
noncomputable def o1526 (P : Params) : Obj := ⟨(.type "tuple"), none, (.seq ⟨[(.bool false)]⟩ 0), ⟨[]⟩⟩
noncomputable def o1527 (P : Params) : Obj := ⟨(.type "tuple"), none, (.seq ⟨[]⟩ 0), ⟨[]⟩⟩
noncomputable def o1528 (P : Params) : Obj := ⟨.none, none, (.fields ⟨[]⟩), ⟨[]⟩⟩
noncomputable def o1529 (P : Params) : Obj := ⟨(.type "tuple"), none, (.seq ⟨[(.str z218 1265), (.str z203 1266), (.str z216 1267)]⟩ 0), ⟨[]⟩⟩
noncomputable def o1530 (P : Params) : Obj := ⟨(.type "tuple"), none, (.seq ⟨[]⟩ 0), ⟨[]⟩⟩
noncomputable def o1531 (P : Params) : Obj := ⟨.none, none, (.func (fd (me 18 1) z219 0 [] .none .none .none .none none .none .none 0)), ⟨[]⟩⟩
noncomputable def o1532 (P : Params) : Obj := ⟨(.type "code"), none, (.fields ⟨[(.str z211 1262), (.str z219 1263), (.str z162 1264), (.int 93 0), (.int 3 0), (.int 0 0), (.int 0 0), (.int 3 0), (.ref 1527), (.bool true), (.int 181 0), (.ref 1528), .none, (.ref 1529), (.ref 1530), (.ref 1531), (.int 1268 0), (.int 93 0), (.str z162 1269)]⟩), ⟨[]⟩⟩
noncomputable def o1533 (P : Params) : Obj := ⟨(.type "function"), none, (.func (fd (me 18 1) z219 3 [] (.ref 1526) .none .none (.str z209 1238) (some 1536) (.ref 1532) .none 0)), ⟨[]⟩⟩
noncomputable def o1534 (P : Params) : Obj := ⟨(.type "dict"), none, (.dict ⟨[de P z165 1271 (.str z209 1238), de P z0 1274 (.str z211 1273), de P z167 1277 (.str z219 1276), de P z2 1279 .none, de P z220 1281 (.ref 1536)]⟩ 5), ⟨[]⟩⟩
noncomputable def o1535 (P : Params) : Obj := ⟨(.type "classmethod"), (some 1534), (.fields ⟨[(.ref 1533), (.bool false)]⟩), ⟨[]⟩⟩
noncomputable def o1536 (P : Params) : Obj := ⟨(.type "dict"), none, (.dict ⟨[]⟩ 0), ⟨[]⟩⟩
noncomputable def o1537 (P : Params) : Obj := ⟨(.type "tuple"), none, (.seq ⟨[]⟩ 0), ⟨[]⟩⟩
noncomputable def o1538 (P : Params) : Obj := ⟨.none, none, (.fields ⟨[]⟩), ⟨[]⟩⟩
noncomputable def o1539 (P : Params) : Obj := ⟨(.type "tuple"), none, (.seq ⟨[(.str z218 1286), (.str z178 1287)]⟩ 0), ⟨[]⟩⟩
noncomputable def o1540 (P : Params) : Obj := ⟨(.type "tuple"), none, (.seq ⟨[]⟩ 0), ⟨[]⟩⟩
noncomputable def o1541 (P : Params) : Obj := ⟨.none, none, (.func (fd (me 18 2) z221 0 [] .none .none .none .none none .none .none 0)), ⟨[]⟩⟩
noncomputable def o1542 (P : Params) : Obj := ⟨(.type "code"), none, (.fields ⟨[(.str z212 1283), (.str z221 1284), (.str z162 1285), (.int 97 0), (.int 2 0), (.int 0 0), (.int 0 0), (.int 3 0), (.ref 1537), (.bool true), (.int 181 0), (.ref 1538), .none, (.ref 1539), (.ref 1540), (.ref 1541), (.int 1288 0), (.int 97 0), (.str z162 1289)]⟩), ⟨[]⟩⟩
noncomputable def o1543 (P : Params) : Obj := ⟨(.type "function"), none, (.func (fd (me 18 2) z221 3 [] .none .none .none (.str z209 1238) (some 1546) (.ref 1542) .none 0)), ⟨[]⟩⟩
noncomputable def o1544 (P : Params) : Obj := ⟨(.type "dict"), none, (.dict ⟨[de P z165 1291 (.str z209 1238), de P z0 1294 (.str z212 1293), de P z167 1297 (.str z221 1296), de P z2 1299 .none, de P z220 1301 (.ref 1546)]⟩ 5), ⟨[]⟩⟩
noncomputable def o1545 (P : Params) : Obj := ⟨(.type "classmethod"), (some 1544), (.fields ⟨[(.ref 1543), (.bool false)]⟩), ⟨[]⟩⟩
noncomputable def o1546 (P : Params) : Obj := ⟨(.type "dict"), none, (.dict ⟨[]⟩ 0), ⟨[]⟩⟩
noncomputable def o1547 (P : Params) : Obj := ⟨(.type "tuple"), none, (.seq ⟨[]⟩ 0), ⟨[]⟩⟩
noncomputable def o1548 (P : Params) : Obj := ⟨.none, none, (.fields ⟨[]⟩), ⟨[]⟩⟩
noncomputable def o1549 (P : Params) : Obj := ⟨(.type "tuple"), none, (.seq ⟨[(.str z176 1306), (.str z203 1307)]⟩ 0), ⟨[]⟩⟩
noncomputable def o1550 (P : Params) : Obj := ⟨(.type "tuple"), none, (.seq ⟨[]⟩ 0), ⟨[]⟩⟩
noncomputable def o1551 (P : Params) : Obj := ⟨.none, none, (.func (fd (me 18 3) z222 0 [] .none .none .none .none none .none .none 0)), ⟨[]⟩⟩
noncomputable def o1552 (P : Params) : Obj := ⟨(.type "code"), none, (.fields ⟨[(.str z213 1303), (.str z222 1304), (.str z162 1305), (.int 101 0), (.int 2 0), (.int 0 0), (.int 0 0), (.int 3 0), (.ref 1547), (.bool true), (.int 181 0), (.ref 1548), .none, (.ref 1549), (.ref 1550), (.ref 1551), (.int 1308 0), (.int 101 0), (.str z162 1309)]⟩), ⟨[]⟩⟩
noncomputable def o1553 (P : Params) : Obj := ⟨(.type "function"), none, (.func (fd (me 18 3) z222 3 [] .none .none .none (.str z209 1238) none (.ref 1552) .none 0)), ⟨[]⟩⟩
noncomputable def o1554 (P : Params) : Obj := ⟨(.type "tuple"), none, (.seq ⟨[]⟩ 0), ⟨[]⟩⟩
noncomputable def o1555 (P : Params) : Obj := ⟨.none, none, (.fields ⟨[]⟩), ⟨[]⟩⟩
noncomputable def o1556 (P : Params) : Obj := ⟨(.type "tuple"), none, (.seq ⟨[(.str z176 1314), (.str z178 1315)]⟩ 0), ⟨[]⟩⟩
noncomputable def o1557 (P : Params) : Obj := ⟨(.type "tuple"), none, (.seq ⟨[]⟩ 0), ⟨[]⟩⟩
noncomputable def o1558 (P : Params) : Obj := ⟨.none, none, (.func (fd (me 18 4) z223 0 [] .none .none .none .none none .none .none 0)), ⟨[]⟩⟩
noncomputable def o1559 (P : Params) : Obj := ⟨(.type "code"), none, (.fields ⟨[(.str z201 1311), (.str z223 1312), (.str z162 1313), (.int 104 0), (.int 2 0), (.int 0 0), (.int 0 0), (.int 3 0), (.ref 1554), (.bool true), (.int 181 0), (.ref 1555), .none, (.ref 1556), (.ref 1557), (.ref 1558), (.int 1316 0), (.int 104 0), (.str z162 1317)]⟩), ⟨[]⟩⟩
noncomputable def o1560 (P : Params) : Obj := ⟨(.type "function"), none, (.func (fd (me 18 4) z223 3 [] .none .none .none (.str z209 1238) none (.ref 1559) .none 0)), ⟨[]⟩⟩
noncomputable def o1561 (P : Params) : Obj := ⟨(.type "tuple"), none, (.seq ⟨[]⟩ 0), ⟨[]⟩⟩
noncomputable def o1562 (P : Params) : Obj := ⟨.none, none, (.fields ⟨[]⟩), ⟨[]⟩⟩
noncomputable def o1563 (P : Params) : Obj := ⟨(.type "tuple"), none, (.seq ⟨[(.str z176 1322), (.str z190 1323)]⟩ 0), ⟨[]⟩⟩
noncomputable def o1564 (P : Params) : Obj := ⟨(.type "tuple"), none, (.seq ⟨[]⟩ 0), ⟨[]⟩⟩
noncomputable def o1565 (P : Params) : Obj := ⟨.none, none, (.func (fd (me 18 5) z224 0 [] .none .none .none .none none .none .none 0)), ⟨[]⟩⟩
noncomputable def o1566 (P : Params) : Obj := ⟨(.type "code"), none, (.fields ⟨[(.str z202 1319), (.str z224 1320), (.str z162 1321), (.int 111 0), (.int 2 0), (.int 0 0), (.int 0 0), (.int 3 0), (.ref 1561), (.bool true), (.int 181 0), (.ref 1562), .none, (.ref 1563), (.ref 1564), (.ref 1565), (.int 1324 0), (.int 111 0), (.str z162 1325)]⟩), ⟨[]⟩⟩
noncomputable def o1567 (P : Params) : Obj := ⟨(.type "function"), none, (.func (fd (me 18 5) z224 3 [] .none .none .none (.str z209 1238) none (.ref 1566) .none 0)), ⟨[]⟩⟩
noncomputable def o1568 (P : Params) : Obj := ⟨(.type "tuple"), none, (.seq ⟨[(.str z216 1327), (.str z215 1328), (.str z214 1329)]⟩ 0), ⟨[]⟩⟩
noncomputable def o1569 (P : Params) : Obj := ⟨(.type "dict"), none, (.dict ⟨[de P z165 1247 (.str z209 1238), de P z169 1251 (.int 86 1250), de P z173 1261 (.ref 1525), de P z211 1282 (.ref 1535), de P z212 1302 (.ref 1545), de P z213 1310 (.ref 1553), de P z201 1318 (.ref 1560), de P z202 1326 (.ref 1567), de P z170 1330 (.ref 1568), de P z208 1332 (.ref 1571), de P z171 1334 (.ref 1572), de P z2 1335 .none]⟩ 4), ⟨[]⟩⟩
noncomputable def o1570 (P : Params) : Obj := ⟨(.type "type"), none, (.cls ⟨z210, [(.type "object")], [(.ref 1570), (.type "object")], 1569, z210, true, [], [], false, none, false⟩), ⟨[none, none, some (.str z210 1240), some (.str z210 1248), some (.builtin "object.__new__"), some (.bool true)]⟩⟩
noncomputable def o1571 (P : Params) : Obj := ⟨(.type "getset_descriptor"), none, (.fields ⟨[(.str z208 1331), (.ref 1570), (.builtin "function.__dict__"), (.builtin "function.__dict__#set")]⟩), ⟨[]⟩⟩
noncomputable def o1572 (P : Params) : Obj := ⟨(.type "getset_descriptor"), none, (.fields ⟨[(.str z171 1333), (.ref 1570), (.builtin "ExceptionGroup.__weakref__"), .none]⟩), ⟨[]⟩⟩
noncomputable def o1573 (P : Params) : Obj := ⟨(.type "super"), none, (.fields ⟨[(.ref 1570), (.ref 1570), (.ref 1570)]⟩), ⟨[]⟩⟩
noncomputable def o1574 (P : Params) : Obj := ⟨(.type "builtin_function_or_method"), none, (.fields ⟨[(.builtin "object.__init_subclass__"), (.ref 1570)]⟩), ⟨[]⟩⟩
noncomputable def o1575 (P : Params) : Obj := ⟨(.type "dict"), none, (.dict ⟨[de P z214 1344 (.int 0 1342), de P z215 1346 .none, de P z216 1348 (.bool false)]⟩ 3), ⟨[]⟩⟩
noncomputable def o1576 (P : Params) : Obj := ⟨(.ref 1570), (some 1575), .plain, ⟨[]⟩⟩
noncomputable def o1577 (P : Params) : Obj := ⟨(.type "frame"), none, (.dict ⟨[de P z176 1338 (.ref 1576), de P z214 1339 .none, de P z215 1340 .none, de P z216 1341 (.bool false)]⟩ 4), ⟨[]⟩⟩
noncomputable def o1578 (P : Params) : Obj := ⟨(.type "tuple"), none, (.seq ⟨[]⟩ 0), ⟨[]⟩⟩
noncomputable def o1579 (P : Params) : Obj := ⟨(.type "builtin_function_or_method"), none, (.fields ⟨[(.builtin "type.__prepare__"), (.type "type")]⟩), ⟨[]⟩⟩
noncomputable def o1580 (P : Params) : Obj := ⟨(.type "dict"), none, (.dict ⟨[de P z165 1359 (.str z225 1350), de P z167 1361 (.str z226 1360), de P z169 1363 (.int 120 1362), de P z201 1371 (.ref 1591), de P z202 1379 (.ref 1598), de P z170 1380 (.ref 1599)]⟩ 6), ⟨[]⟩⟩
noncomputable def o1581 (P : Params) : Obj := ⟨(.type "tuple"), none, (.seq ⟨[]⟩ 0), ⟨[]⟩⟩
noncomputable def o1582 (P : Params) : Obj := ⟨.none, none, (.fields ⟨[(.int 122 0), (.int 4 0), (.ref 1590), (.int 132 0), (.int 4 0), (.ref 1597)]⟩), ⟨[]⟩⟩
noncomputable def o1583 (P : Params) : Obj := ⟨(.type "code"), none, (.fields ⟨[(.str z226 1354), (.str z226 1355), (.str z162 1356), (.int 120 0), (.int 0 0), (.int 0 0), (.int 0 0), (.int 0 0), (.ref 1581), (.bool false), (.int 181 0), (.ref 1582), .none, .none, .none, .none, (.int 1357 0), (.int 120 0), (.str z162 1358)]⟩), ⟨[]⟩⟩
noncomputable def o1584 (P : Params) : Obj := ⟨(.type "frame"), none, .plain, ⟨[some (.ref 1583), some (.ref 3), some (.ref 1580), none, some (.str z225 1350), none, some (.ref 0)]⟩⟩
noncomputable def o1585 (P : Params) : Obj := ⟨(.type "tuple"), none, (.seq ⟨[]⟩ 0), ⟨[]⟩⟩
noncomputable def o1586 (P : Params) : Obj := ⟨.none, none, (.fields ⟨[]⟩), ⟨[]⟩⟩
noncomputable def o1587 (P : Params) : Obj := ⟨(.type "tuple"), none, (.seq ⟨[(.str z176 1367), (.str z178 1368)]⟩ 0), ⟨[]⟩⟩
noncomputable def o1588 (P : Params) : Obj := ⟨(.type "tuple"), none, (.seq ⟨[]⟩ 0), ⟨[]⟩⟩
noncomputable def o1589 (P : Params) : Obj := ⟨.none, none, (.func (fd (me 21 0) z227 0 [] .none .none .none .none none .none .none 0)), ⟨[]⟩⟩
noncomputable def o1590 (P : Params) : Obj := ⟨(.type "code"), none, (.fields ⟨[(.str z201 1364), (.str z227 1365), (.str z162 1366), (.int 122 0), (.int 2 0), (.int 0 0), (.int 0 0), (.int 3 0), (.ref 1585), (.bool true), (.int 181 0), (.ref 1586), .none, (.ref 1587), (.ref 1588), (.ref 1589), (.int 1369 0), (.int 122 0), (.str z162 1370)]⟩), ⟨[]⟩⟩
noncomputable def o1591 (P : Params) : Obj := ⟨(.type "function"), none, (.func (fd (me 21 0) z227 3 [] .none .none .none (.str z225 1350) none (.ref 1590) .none 0)), ⟨[]⟩⟩
noncomputable def o1592 (P : Params) : Obj := ⟨(.type "tuple"), none, (.seq ⟨[]⟩ 0), ⟨[]⟩⟩
noncomputable def o1593 (P : Params) : Obj := ⟨.none, none, (.fields ⟨[]⟩), ⟨[]⟩⟩
noncomputable def o1594 (P : Params) : Obj := ⟨(.type "tuple"), none, (.seq ⟨[(.str z176 1375), (.str z190 1376)]⟩ 0), ⟨[]⟩⟩
noncomputable def o1595 (P : Params) : Obj := ⟨(.type "tuple"), none, (.seq ⟨[]⟩ 0), ⟨[]⟩⟩
noncomputable def o1596 (P : Params) : Obj := ⟨.none, none, (.func (fd (me 21 1) z228 0 [] .none .none .none .none none .none .none 0)), ⟨[]⟩⟩
noncomputable def o1597 (P : Params) : Obj := ⟨(.type "code"), none, (.fields ⟨[(.str z202 1372), (.str z228 1373), (.str z162 1374), (.int 132 0), (.int 2 0), (.int 0 0), (.int 0 0), (.int 3 0), (.ref 1592), (.bool true), (.int 181 0), (.ref 1593), .none, (.ref 1594), (.ref 1595), (.ref 1596), (.int 1377 0), (.int 132 0), (.str z162 1378)]⟩), ⟨[]⟩⟩
noncomputable def o1598 (P : Params) : Obj := ⟨(.type "function"), none, (.func (fd (me 21 1) z228 3 [] .none .none .none (.str z225 1350) none (.ref 1597) .none 0)), ⟨[]⟩⟩
noncomputable def o1599 (P : Params) : Obj := ⟨(.type "tuple"), none, (.seq ⟨[]⟩ 0), ⟨[]⟩⟩
noncomputable def o1600 (P : Params) : Obj := ⟨(.type "dict"), none, (.dict ⟨[de P z165 1359 (.str z225 1350), de P z169 1363 (.int 120 1362), de P z201 1371 (.ref 1591), de P z202 1379 (.ref 1598), de P z170 1380 (.ref 1599), de P z208 1382 (.ref 1602), de P z171 1384 (.ref 1603), de P z2 1385 .none]⟩ 4), ⟨[]⟩⟩
noncomputable def o1601 (P : Params) : Obj := ⟨(.type "type"), none, (.cls ⟨z226, [(.type "object")], [(.ref 1601), (.type "object")], 1600, z226, true, [], [], false, none, false⟩), ⟨[none, none, some (.str z226 1352), some (.str z226 1360), some (.builtin "object.__new__"), some (.bool true)]⟩⟩
noncomputable def o1602 (P : Params) : Obj := ⟨(.type "getset_descriptor"), none, (.fields ⟨[(.str z208 1381), (.ref 1601), (.builtin "function.__dict__"), (.builtin "function.__dict__#set")]⟩), ⟨[]⟩⟩
noncomputable def o1603 (P : Params) : Obj := ⟨(.type "getset_descriptor"), none, (.fields ⟨[(.str z171 1383), (.ref 1601), (.builtin "ExceptionGroup.__weakref__"), .none]⟩), ⟨[]⟩⟩
noncomputable def o1604 (P : Params) : Obj := ⟨(.type "super"), none, (.fields ⟨[(.ref 1601), (.ref 1601), (.ref 1601)]⟩), ⟨[]⟩⟩
noncomputable def o1605 (P : Params) : Obj := ⟨(.type "builtin_function_or_method"), none, (.fields ⟨[(.builtin "object.__init_subclass__"), (.ref 1601)]⟩), ⟨[]⟩⟩
noncomputable def o1606 (P : Params) : Obj := ⟨(.type "dict"), none, (.dict ⟨[]⟩ 0), ⟨[]⟩⟩
noncomputable def o1607 (P : Params) : Obj := ⟨(.ref 1601), (some 1606), .plain, ⟨[]⟩⟩
noncomputable def o1608 (P : Params) : Obj := ⟨(.type "tuple"), none, (.seq ⟨[]⟩ 0), ⟨[]⟩⟩
noncomputable def o1609 (P : Params) : Obj := ⟨.none, none, (.fields ⟨[]⟩), ⟨[]⟩⟩
noncomputable def o1610 (P : Params) : Obj := ⟨(.type "tuple"), none, (.seq ⟨[(.str z178 1394)]⟩ 0), ⟨[]⟩⟩
noncomputable def o1611 (P : Params) : Obj := ⟨(.type "tuple"), none, (.seq ⟨[]⟩ 0), ⟨[]⟩⟩
noncomputable def o1612 (P : Params) : Obj := ⟨.none, none, (.func (fd (st 24) z229 0 [] .none .none .none .none none .none .none 0)), ⟨[]⟩⟩
noncomputable def o1613 (P : Params) : Obj := ⟨(.type "code"), none, (.fields ⟨[(.str z229 1391), (.str z229 1392), (.str z162 1393), (.int 141 0), (.int 1 0), (.int 0 0), (.int 0 0), (.int 3 0), (.ref 1608), (.bool true), (.int 181 0), (.ref 1609), .none, (.ref 1610), (.ref 1611), (.ref 1612), (.int 1395 0), (.int 141 0), (.str z162 1396)]⟩), ⟨[]⟩⟩
noncomputable def o1614 (P : Params) : Obj := ⟨(.type "function"), none, (.func (fd (st 24) z229 3 [] .none .none .none (.str z230 1389) none (.ref 1613) .none 0)), ⟨[]⟩⟩
noncomputable def o1615 (P : Params) : Obj := ⟨(.type "tuple"), none, (.seq ⟨[]⟩ 0), ⟨[]⟩⟩
noncomputable def o1616 (P : Params) : Obj := ⟨.none, none, (.fields ⟨[]⟩), ⟨[]⟩⟩
noncomputable def o1617 (P : Params) : Obj := ⟨(.type "tuple"), none, (.seq ⟨[(.str z178 1401)]⟩ 0), ⟨[]⟩⟩
noncomputable def o1618 (P : Params) : Obj := ⟨(.type "tuple"), none, (.seq ⟨[]⟩ 0), ⟨[]⟩⟩
noncomputable def o1619 (P : Params) : Obj := ⟨.none, none, (.func (fd (st 25) z231 0 [] .none .none .none .none none .none .none 0)), ⟨[]⟩⟩
noncomputable def o1620 (P : Params) : Obj := ⟨(.type "code"), none, (.fields ⟨[(.str z231 1398), (.str z231 1399), (.str z162 1400), (.int 143 0), (.int 1 0), (.int 0 0), (.int 0 0), (.int 3 0), (.ref 1615), (.bool true), (.int 181 0), (.ref 1616), .none, (.ref 1617), (.ref 1618), (.ref 1619), (.int 1402 0), (.int 143 0), (.str z162 1403)]⟩), ⟨[]⟩⟩
noncomputable def o1621 (P : Params) : Obj := ⟨(.type "function"), none, (.func (fd (st 25) z231 3 [] .none .none .none (.str z230 1389) none (.ref 1620) .none 0)), ⟨[]⟩⟩
noncomputable def o1622 (P : Params) : Obj := ⟨(.type "tuple"), none, (.seq ⟨[]⟩ 0), ⟨[]⟩⟩
noncomputable def o1623 (P : Params) : Obj := ⟨(.type "builtin_function_or_method"), none, (.fields ⟨[(.builtin "type.__prepare__"), (.type "type")]⟩), ⟨[]⟩⟩
noncomputable def o1624 (P : Params) : Obj := ⟨(.type "dict"), none, (.dict ⟨[de P z165 1412 (.str z230 1389), de P z167 1414 (.str z232 1413), de P z169 1416 (.int 145 1415), de P z173 1426 (.ref 1636), de P z233 1433 (.ref 1643), de P z201 1446 (.ref 1650), de P z202 1459 (.ref 1657), de P z170 1462 (.ref 1658)]⟩ 8), ⟨[]⟩⟩
noncomputable def o1625 (P : Params) : Obj := ⟨(.type "tuple"), none, (.seq ⟨[]⟩ 0), ⟨[]⟩⟩
noncomputable def o1626 (P : Params) : Obj := ⟨.none, none, (.fields ⟨[(.int 147 0), (.int 4 0), (.ref 1635), (.int 159 0), (.int 4 0), (.ref 1642), (.int 162 0), (.int 4 0), (.ref 1649), (.int 175 0), (.int 4 0), (.ref 1656)]⟩), ⟨[]⟩⟩
noncomputable def o1627 (P : Params) : Obj := ⟨(.type "code"), none, (.fields ⟨[(.str z232 1407), (.str z232 1408), (.str z162 1409), (.int 145 0), (.int 0 0), (.int 0 0), (.int 0 0), (.int 0 0), (.ref 1625), (.bool false), (.int 181 0), (.ref 1626), .none, .none, .none, .none, (.int 1410 0), (.int 145 0), (.str z162 1411)]⟩), ⟨[]⟩⟩
noncomputable def o1628 (P : Params) : Obj := ⟨(.type "frame"), none, .plain, ⟨[some (.ref 1627), some (.ref 3), some (.ref 1624), none, some (.str z230 1389), none, some (.ref 0)]⟩⟩
noncomputable def o1629 (P : Params) : Obj := ⟨(.type "tuple"), none, (.seq ⟨[.none, (.bool true)]⟩ 0), ⟨[]⟩⟩
noncomputable def o1630 (P : Params) : Obj := ⟨(.type "tuple"), none, (.seq ⟨[]⟩ 0), ⟨[]⟩⟩
noncomputable def o1631 (P : Params) : Obj := ⟨.none, none, (.fields ⟨[]⟩), ⟨[]⟩⟩
noncomputable def o1632 (P : Params) : Obj := ⟨(.type "tuple"), none, (.seq ⟨[(.str z176 1420), (.str z234 1421), (.str z235 1422), (.str z236 1423)]⟩ 0), ⟨[]⟩⟩
noncomputable def o1633 (P : Params) : Obj := ⟨(.type "tuple"), none, (.seq ⟨[]⟩ 0), ⟨[]⟩⟩
noncomputable def o1634 (P : Params) : Obj := ⟨.none, none, (.func (fd (me 26 0) z237 0 [] .none .none .none .none none .none .none 0)), ⟨[]⟩⟩
noncomputable def o1635 (P : Params) : Obj := ⟨(.type "code"), none, (.fields ⟨[(.str z173 1417), (.str z237 1418), (.str z162 1419), (.int 147 0), (.int 3 0), (.int 0 0), (.int 0 0), (.int 3 0), (.ref 1630), (.bool true), (.int 181 0), (.ref 1631), .none, (.ref 1632), (.ref 1633), (.ref 1634), (.int 1424 0), (.int 147 0), (.str z162 1425)]⟩), ⟨[]⟩⟩
noncomputable def o1636 (P : Params) : Obj := ⟨(.type "function"), none, (.func (fd (me 26 0) z237 3 [] (.ref 1629) .none .none (.str z230 1389) none (.ref 1635) .none 0)), ⟨[]⟩⟩
noncomputable def o1637 (P : Params) : Obj := ⟨(.type "tuple"), none, (.seq ⟨[]⟩ 0), ⟨[]⟩⟩
noncomputable def o1638 (P : Params) : Obj := ⟨.none, none, (.fields ⟨[]⟩), ⟨[]⟩⟩
noncomputable def o1639 (P : Params) : Obj := ⟨(.type "tuple"), none, (.seq ⟨[(.str z176 1430)]⟩ 0), ⟨[]⟩⟩
noncomputable def o1640 (P : Params) : Obj := ⟨(.type "tuple"), none, (.seq ⟨[]⟩ 0), ⟨[]⟩⟩
noncomputable def o1641 (P : Params) : Obj := ⟨.none, none, (.func (fd (me 26 1) z238 0 [] .none .none .none .none none .none .none 0)), ⟨[]⟩⟩
noncomputable def o1642 (P : Params) : Obj := ⟨(.type "code"), none, (.fields ⟨[(.str z233 1427), (.str z238 1428), (.str z162 1429), (.int 159 0), (.int 1 0), (.int 0 0), (.int 0 0), (.int 3 0), (.ref 1637), (.bool true), (.int 181 0), (.ref 1638), .none, (.ref 1639), (.ref 1640), (.ref 1641), (.int 1431 0), (.int 159 0), (.str z162 1432)]⟩), ⟨[]⟩⟩
noncomputable def o1643 (P : Params) : Obj := ⟨(.type "function"), none, (.func (fd (me 26 1) z238 3 [] .none .none .none (.str z230 1389) none (.ref 1642) .none 0)), ⟨[]⟩⟩
noncomputable def o1644 (P : Params) : Obj := ⟨(.type "tuple"), none, (.seq ⟨[]⟩ 0), ⟨[]⟩⟩
noncomputable def o1645 (P : Params) : Obj := ⟨.none, none, (.fields ⟨[]⟩), ⟨[]⟩⟩
noncomputable def o1646 (P : Params) : Obj := ⟨(.type "tuple"), none, (.seq ⟨[(.str z176 1437), (.str z178 1438), (.str z239 1439), (.str z187 1440), (.str z240 1441), (.str z241 1442), (.str z236 1443)]⟩ 0), ⟨[]⟩⟩
noncomputable def o1647 (P : Params) : Obj := ⟨(.type "tuple"), none, (.seq ⟨[]⟩ 0), ⟨[]⟩⟩
noncomputable def o1648 (P : Params) : Obj := ⟨.none, none, (.func (fd (me 26 2) z242 0 [] .none .none .none .none none .none .none 0)), ⟨[]⟩⟩
noncomputable def o1649 (P : Params) : Obj := ⟨(.type "code"), none, (.fields ⟨[(.str z201 1434), (.str z242 1435), (.str z162 1436), (.int 162 0), (.int 2 0), (.int 0 0), (.int 0 0), (.int 3 0), (.ref 1644), (.bool true), (.int 181 0), (.ref 1645), .none, (.ref 1646), (.ref 1647), (.ref 1648), (.int 1444 0), (.int 162 0), (.str z162 1445)]⟩), ⟨[]⟩⟩
noncomputable def o1650 (P : Params) : Obj := ⟨(.type "function"), none, (.func (fd (me 26 2) z242 3 [] .none .none .none (.str z230 1389) none (.ref 1649) .none 0)), ⟨[]⟩⟩
noncomputable def o1651 (P : Params) : Obj := ⟨(.type "tuple"), none, (.seq ⟨[]⟩ 0), ⟨[]⟩⟩
noncomputable def o1652 (P : Params) : Obj := ⟨.none, none, (.fields ⟨[]⟩), ⟨[]⟩⟩
noncomputable def o1653 (P : Params) : Obj := ⟨(.type "tuple"), none, (.seq ⟨[(.str z176 1450), (.str z190 1451), (.str z239 1452), (.str z243 1453), (.str z241 1454), (.str z240 1455), (.str z236 1456)]⟩ 0), ⟨[]⟩⟩
noncomputable def o1654 (P : Params) : Obj := ⟨(.type "tuple"), none, (.seq ⟨[]⟩ 0), ⟨[]⟩⟩
noncomputable def o1655 (P : Params) : Obj := ⟨.none, none, (.func (fd (me 26 3) z244 0 [] .none .none .none .none none .none .none 0)), ⟨[]⟩⟩
noncomputable def o1656 (P : Params) : Obj := ⟨(.type "code"), none, (.fields ⟨[(.str z202 1447), (.str z244 1448), (.str z162 1449), (.int 175 0), (.int 2 0), (.int 0 0), (.int 0 0), (.int 3 0), (.ref 1651), (.bool true), (.int 181 0), (.ref 1652), .none, (.ref 1653), (.ref 1654), (.ref 1655), (.int 1457 0), (.int 175 0), (.str z162 1458)]⟩), ⟨[]⟩⟩
noncomputable def o1657 (P : Params) : Obj := ⟨(.type "function"), none, (.func (fd (me 26 3) z244 3 [] .none .none .none (.str z230 1389) none (.ref 1656) .none 0)), ⟨[]⟩⟩
noncomputable def o1658 (P : Params) : Obj := ⟨(.type "tuple"), none, (.seq ⟨[(.str z245 1460), (.str z235 1461)]⟩ 0), ⟨[]⟩⟩
noncomputable def o1659 (P : Params) : Obj := ⟨(.type "dict"), none, (.dict ⟨[de P z165 1412 (.str z230 1389), de P z169 1416 (.int 145 1415), de P z173 1426 (.ref 1636), de P z233 1433 (.ref 1643), de P z201 1446 (.ref 1650), de P z202 1459 (.ref 1657), de P z170 1462 (.ref 1658), de P z208 1464 (.ref 1661), de P z171 1466 (.ref 1662), de P z2 1467 .none]⟩ 4), ⟨[]⟩⟩
noncomputable def o1660 (P : Params) : Obj := ⟨(.type "type"), none, (.cls ⟨z232, [(.type "object")], [(.ref 1660), (.type "object")], 1659, z232, true, [], [], false, none, false⟩), ⟨[none, none, some (.str z232 1405), some (.str z232 1413), some (.builtin "object.__new__"), some (.bool true)]⟩⟩
noncomputable def o1661 (P : Params) : Obj := ⟨(.type "getset_descriptor"), none, (.fields ⟨[(.str z208 1463), (.ref 1660), (.builtin "function.__dict__"), (.builtin "function.__dict__#set")]⟩), ⟨[]⟩⟩
noncomputable def o1662 (P : Params) : Obj := ⟨(.type "getset_descriptor"), none, (.fields ⟨[(.str z171 1465), (.ref 1660), (.builtin "ExceptionGroup.__weakref__"), .none]⟩), ⟨[]⟩⟩
noncomputable def o1663 (P : Params) : Obj := ⟨(.type "super"), none, (.fields ⟨[(.ref 1660), (.ref 1660), (.ref 1660)]⟩), ⟨[]⟩⟩
noncomputable def o1664 (P : Params) : Obj := ⟨(.type "builtin_function_or_method"), none, (.fields ⟨[(.builtin "object.__init_subclass__"), (.ref 1660)]⟩), ⟨[]⟩⟩
noncomputable def o1665 (P : Params) : Obj := ⟨(.type "tuple"), none, (.seq ⟨[]⟩ 0), ⟨[]⟩⟩
noncomputable def o1666 (P : Params) : Obj := ⟨(.type "builtin_function_or_method"), none, (.fields ⟨[(.builtin "type.__prepare__"), (.type "type")]⟩), ⟨[]⟩⟩
noncomputable def o1667 (P : Params) : Obj := ⟨(.type "dict"), none, (.dict ⟨[de P z165 1477 (.str z230 1389), de P z167 1479 (.str z246 1478), de P z169 1481 (.int 187 1480), de P z173 1490 (.ref 1679), de P z201 1502 (.ref 1686), de P z202 1514 (.ref 1693), de P z170 1517 (.ref 1694)]⟩ 7), ⟨[]⟩⟩
noncomputable def o1668 (P : Params) : Obj := ⟨(.type "tuple"), none, (.seq ⟨[]⟩ 0), ⟨[]⟩⟩
noncomputable def o1669 (P : Params) : Obj := ⟨.none, none, (.fields ⟨[(.int 189 0), (.int 4 0), (.ref 1678), (.int 193 0), (.int 4 0), (.ref 1685), (.int 206 0), (.int 4 0), (.ref 1692)]⟩), ⟨[]⟩⟩
noncomputable def o1670 (P : Params) : Obj := ⟨(.type "code"), none, (.fields ⟨[(.str z246 1472), (.str z246 1473), (.str z162 1474), (.int 187 0), (.int 0 0), (.int 0 0), (.int 0 0), (.int 0 0), (.ref 1668), (.bool false), (.int 181 0), (.ref 1669), .none, .none, .none, .none, (.int 1475 0), (.int 187 0), (.str z162 1476)]⟩), ⟨[]⟩⟩
noncomputable def o1671 (P : Params) : Obj := ⟨(.type "frame"), none, .plain, ⟨[some (.ref 1670), some (.ref 3), some (.ref 1667), none, some (.str z230 1389), none, some (.ref 0)]⟩⟩
noncomputable def o1672 (P : Params) : Obj := ⟨(.type "tuple"), none, (.seq ⟨[.none]⟩ 0), ⟨[]⟩⟩
noncomputable def o1673 (P : Params) : Obj := ⟨(.type "tuple"), none, (.seq ⟨[]⟩ 0), ⟨[]⟩⟩
noncomputable def o1674 (P : Params) : Obj := ⟨.none, none, (.fields ⟨[]⟩), ⟨[]⟩⟩
noncomputable def o1675 (P : Params) : Obj := ⟨(.type "tuple"), none, (.seq ⟨[(.str z176 1485), (.str z247 1486), (.str z215 1487)]⟩ 0), ⟨[]⟩⟩
noncomputable def o1676 (P : Params) : Obj := ⟨(.type "tuple"), none, (.seq ⟨[]⟩ 0), ⟨[]⟩⟩
noncomputable def o1677 (P : Params) : Obj := ⟨.none, none, (.func (fd (me 27 0) z248 0 [] .none .none .none .none none .none .none 0)), ⟨[]⟩⟩
noncomputable def o1678 (P : Params) : Obj := ⟨(.type "code"), none, (.fields ⟨[(.str z173 1482), (.str z248 1483), (.str z162 1484), (.int 189 0), (.int 3 0), (.int 0 0), (.int 0 0), (.int 3 0), (.ref 1673), (.bool true), (.int 181 0), (.ref 1674), .none, (.ref 1675), (.ref 1676), (.ref 1677), (.int 1488 0), (.int 189 0), (.str z162 1489)]⟩), ⟨[]⟩⟩
noncomputable def o1679 (P : Params) : Obj := ⟨(.type "function"), none, (.func (fd (me 27 0) z248 3 [] (.ref 1672) .none .none (.str z230 1389) none (.ref 1678) .none 0)), ⟨[]⟩⟩
noncomputable def o1680 (P : Params) : Obj := ⟨(.type "tuple"), none, (.seq ⟨[]⟩ 0), ⟨[]⟩⟩
noncomputable def o1681 (P : Params) : Obj := ⟨.none, none, (.fields ⟨[]⟩), ⟨[]⟩⟩
noncomputable def o1682 (P : Params) : Obj := ⟨(.type "tuple"), none, (.seq ⟨[(.str z176 1494), (.str z178 1495), (.str z239 1496), (.str z187 1497), (.str z240 1498), (.str z236 1499)]⟩ 0), ⟨[]⟩⟩
noncomputable def o1683 (P : Params) : Obj := ⟨(.type "tuple"), none, (.seq ⟨[]⟩ 0), ⟨[]⟩⟩
noncomputable def o1684 (P : Params) : Obj := ⟨.none, none, (.func (fd (me 27 1) z249 0 [] .none .none .none .none none .none .none 0)), ⟨[]⟩⟩
noncomputable def o1685 (P : Params) : Obj := ⟨(.type "code"), none, (.fields ⟨[(.str z201 1491), (.str z249 1492), (.str z162 1493), (.int 193 0), (.int 2 0), (.int 0 0), (.int 0 0), (.int 3 0), (.ref 1680), (.bool true), (.int 181 0), (.ref 1681), .none, (.ref 1682), (.ref 1683), (.ref 1684), (.int 1500 0), (.int 193 0), (.str z162 1501)]⟩), ⟨[]⟩⟩
noncomputable def o1686 (P : Params) : Obj := ⟨(.type "function"), none, (.func (fd (me 27 1) z249 3 [] .none .none .none (.str z230 1389) none (.ref 1685) .none 0)), ⟨[]⟩⟩
noncomputable def o1687 (P : Params) : Obj := ⟨(.type "tuple"), none, (.seq ⟨[]⟩ 0), ⟨[]⟩⟩
noncomputable def o1688 (P : Params) : Obj := ⟨.none, none, (.fields ⟨[]⟩), ⟨[]⟩⟩
noncomputable def o1689 (P : Params) : Obj := ⟨(.type "tuple"), none, (.seq ⟨[(.str z176 1506), (.str z190 1507), (.str z239 1508), (.str z187 1509), (.str z240 1510), (.str z236 1511)]⟩ 0), ⟨[]⟩⟩
noncomputable def o1690 (P : Params) : Obj := ⟨(.type "tuple"), none, (.seq ⟨[]⟩ 0), ⟨[]⟩⟩
noncomputable def o1691 (P : Params) : Obj := ⟨.none, none, (.func (fd (me 27 2) z250 0 [] .none .none .none .none none .none .none 0)), ⟨[]⟩⟩
noncomputable def o1692 (P : Params) : Obj := ⟨(.type "code"), none, (.fields ⟨[(.str z202 1503), (.str z250 1504), (.str z162 1505), (.int 206 0), (.int 2 0), (.int 0 0), (.int 0 0), (.int 3 0), (.ref 1687), (.bool true), (.int 181 0), (.ref 1688), .none, (.ref 1689), (.ref 1690), (.ref 1691), (.int 1512 0), (.int 206 0), (.str z162 1513)]⟩), ⟨[]⟩⟩
noncomputable def o1693 (P : Params) : Obj := ⟨(.type "function"), none, (.func (fd (me 27 2) z250 3 [] .none .none .none (.str z230 1389) none (.ref 1692) .none 0)), ⟨[]⟩⟩
noncomputable def o1694 (P : Params) : Obj := ⟨(.type "tuple"), none, (.seq ⟨[(.str z247 1515), (.str z215 1516)]⟩ 0), ⟨[]⟩⟩
noncomputable def o1695 (P : Params) : Obj := ⟨(.type "dict"), none, (.dict ⟨[de P z165 1477 (.str z230 1389), de P z169 1481 (.int 187 1480), de P z173 1490 (.ref 1679), de P z201 1502 (.ref 1686), de P z202 1514 (.ref 1693), de P z170 1517 (.ref 1694), de P z208 1519 (.ref 1697), de P z171 1521 (.ref 1698), de P z2 1522 .none]⟩ 4), ⟨[]⟩⟩
noncomputable def o1696 (P : Params) : Obj := ⟨(.type "type"), none, (.cls ⟨z246, [(.type "object")], [(.ref 1696), (.type "object")], 1695, z246, true, [], [], false, none, false⟩), ⟨[none, none, some (.str z246 1470), some (.str z246 1478), some (.builtin "object.__new__"), some (.bool true)]⟩⟩
noncomputable def o1697 (P : Params) : Obj := ⟨(.type "getset_descriptor"), none, (.fields ⟨[(.str z208 1518), (.ref 1696), (.builtin "function.__dict__"), (.builtin "function.__dict__#set")]⟩), ⟨[]⟩⟩
noncomputable def o1698 (P : Params) : Obj := ⟨(.type "getset_descriptor"), none, (.fields ⟨[(.str z171 1520), (.ref 1696), (.builtin "ExceptionGroup.__weakref__"), .none]⟩), ⟨[]⟩⟩
noncomputable def o1699 (P : Params) : Obj := ⟨(.type "super"), none, (.fields ⟨[(.ref 1696), (.ref 1696), (.ref 1696)]⟩), ⟨[]⟩⟩
noncomputable def o1700 (P : Params) : Obj := ⟨(.type "builtin_function_or_method"), none, (.fields ⟨[(.builtin "object.__init_subclass__"), (.ref 1696)]⟩), ⟨[]⟩⟩
noncomputable def o1701 (P : Params) : Obj := ⟨(.type "tuple"), none, (.seq ⟨[]⟩ 0), ⟨[]⟩⟩
noncomputable def o1702 (P : Params) : Obj := ⟨.none, none, (.fields ⟨[]⟩), ⟨[]⟩⟩
noncomputable def o1703 (P : Params) : Obj := ⟨(.type "tuple"), none, (.seq ⟨[(.str z251 1530), (.str z252 1531), (.str z253 1532), (.str z254 1533), (.str z255 1534)]⟩ 0), ⟨[]⟩⟩
noncomputable def o1704 (P : Params) : Obj := ⟨(.type "tuple"), none, (.seq ⟨[]⟩ 0), ⟨[]⟩⟩
noncomputable def o1705 (P : Params) : Obj := ⟨.none, none, (.func (fd (st 29) z256 0 [] .none .none .none .none none .none .none 0)), ⟨[]⟩⟩
noncomputable def o1706 (P : Params) : Obj := ⟨(.type "code"), none, (.fields ⟨[(.str z256 1527), (.str z256 1528), (.str z162 1529), (.int 219 0), (.int 1 0), (.int 0 0), (.int 0 0), (.int 3 0), (.ref 1701), (.bool true), (.int 181 0), (.ref 1702), .none, (.ref 1703), (.ref 1704), (.ref 1705), (.int 1535 0), (.int 219 0), (.str z162 1536)]⟩), ⟨[]⟩⟩
noncomputable def o1707 (P : Params) : Obj := ⟨(.type "function"), none, (.func (fd (st 29) z256 3 [] .none .none .none (.str z257 1525) none (.ref 1706) .none 0)), ⟨[]⟩⟩
noncomputable def o1708 (P : Params) : Obj := ⟨(.type "tuple"), none, (.seq ⟨[]⟩ 0), ⟨[]⟩⟩
noncomputable def o1709 (P : Params) : Obj := ⟨.none, none, (.fields ⟨[]⟩), ⟨[]⟩⟩
noncomputable def o1710 (P : Params) : Obj := ⟨(.type "tuple"), none, (.seq ⟨[(.str z251 1541), (.str z235 1542), (.str z258 1543), (.str z259 1544), (.str z260 1545), (.str z261 1546), (.str z254 1547)]⟩ 0), ⟨[]⟩⟩
noncomputable def o1711 (P : Params) : Obj := ⟨(.type "tuple"), none, (.seq ⟨[]⟩ 0), ⟨[]⟩⟩
noncomputable def o1712 (P : Params) : Obj := ⟨.none, none, (.func (fd (st 30) z262 0 [] .none .none .none .none none .none .none 0)), ⟨[]⟩⟩
noncomputable def o1713 (P : Params) : Obj := ⟨(.type "code"), none, (.fields ⟨[(.str z262 1538), (.str z262 1539), (.str z162 1540), (.int 236 0), (.int 3 0), (.int 0 0), (.int 0 0), (.int 3 0), (.ref 1708), (.bool true), (.int 181 0), (.ref 1709), .none, (.ref 1710), (.ref 1711), (.ref 1712), (.int 1548 0), (.int 236 0), (.str z162 1549)]⟩), ⟨[]⟩⟩
noncomputable def o1714 (P : Params) : Obj := ⟨(.type "function"), none, (.func (fd (st 30) z262 3 [] .none .none .none (.str z257 1525) none (.ref 1713) .none 0)), ⟨[]⟩⟩
noncomputable def o1715 (P : Params) : Obj := ⟨(.type "tuple"), none, (.seq ⟨[.none, (.bool true), (.bool true)]⟩ 0), ⟨[]⟩⟩
noncomputable def o1716 (P : Params) : Obj := ⟨(.type "tuple"), none, (.seq ⟨[]⟩ 0), ⟨[]⟩⟩
noncomputable def o1717 (P : Params) : Obj := ⟨.none, none, (.fields ⟨[]⟩), ⟨[]⟩⟩
noncomputable def o1718 (P : Params) : Obj := ⟨(.type "tuple"), none, (.seq ⟨[(.str z178 1554), (.str z241 1555), (.str z263 1556), (.str z264 1557), (.str z251 1558), (.str z259 1559)]⟩ 0), ⟨[]⟩⟩
noncomputable def o1719 (P : Params) : Obj := ⟨(.type "tuple"), none, (.seq ⟨[]⟩ 0), ⟨[]⟩⟩
noncomputable def o1720 (P : Params) : Obj := ⟨.none, none, (.func (fd (st 31) z265 0 [] .none .none .none .none none .none .none 0)), ⟨[]⟩⟩
noncomputable def o1721 (P : Params) : Obj := ⟨(.type "code"), none, (.fields ⟨[(.str z265 1551), (.str z265 1552), (.str z162 1553), (.int 245 0), (.int 4 0), (.int 0 0), (.int 0 0), (.int 3 0), (.ref 1716), (.bool true), (.int 181 0), (.ref 1717), .none, (.ref 1718), (.ref 1719), (.ref 1720), (.int 1560 0), (.int 245 0), (.str z162 1561)]⟩), ⟨[]⟩⟩
noncomputable def o1722 (P : Params) : Obj := ⟨(.type "function"), none, (.func (fd (st 31) z265 3 [] (.ref 1715) .none .none (.str z257 1525) none (.ref 1721) .none 0)), ⟨[]⟩⟩
noncomputable def o1723 (P : Params) : Obj := ⟨(.type "tuple"), none, (.seq ⟨[]⟩ 0), ⟨[]⟩⟩
noncomputable def o1724 (P : Params) : Obj := ⟨.none, none, (.fields ⟨[]⟩), ⟨[]⟩⟩
noncomputable def o1725 (P : Params) : Obj := ⟨(.type "tuple"), none, (.seq ⟨[(.str z203 1570), (.str z266 1571), (.str z267 1572)]⟩ 0), ⟨[]⟩⟩
noncomputable def o1726 (P : Params) : Obj := ⟨(.type "tuple"), none, (.seq ⟨[]⟩ 0), ⟨[]⟩⟩
noncomputable def o1727 (P : Params) : Obj := ⟨.none, none, (.func (fd (st 33) z268 0 [] .none .none .none .none none .none .none 0)), ⟨[]⟩⟩
noncomputable def o1728 (P : Params) : Obj := ⟨(.type "code"), none, (.fields ⟨[(.str z268 1567), (.str z268 1568), (.str z162 1569), (.int 255 0), (.int 2 0), (.int 0 0), (.int 0 0), (.int 3 0), (.ref 1723), (.bool true), (.int 181 0), (.ref 1724), .none, (.ref 1725), (.ref 1726), (.ref 1727), (.int 1573 0), (.int 255 0), (.str z162 1574)]⟩), ⟨[]⟩⟩
noncomputable def o1729 (P : Params) : Obj := ⟨(.type "function"), none, (.func (fd (st 33) z268 3 [] .none .none .none (.str z257 1525) none (.ref 1728) .none 0)), ⟨[]⟩⟩
noncomputable def o1730 (P : Params) : Obj := ⟨(.type "tuple"), none, (.seq ⟨[]⟩ 0), ⟨[]⟩⟩
noncomputable def o1731 (P : Params) : Obj := ⟨.none, none, (.fields ⟨[]⟩), ⟨[]⟩⟩
noncomputable def o1732 (P : Params) : Obj := ⟨(.type "tuple"), none, (.seq ⟨[(.str z181 1583), (.str z269 1584), (.str z270 1585), (.str z271 1586), (.str z272 1587), (.str z273 1588)]⟩ 0), ⟨[]⟩⟩
noncomputable def o1733 (P : Params) : Obj := ⟨(.type "tuple"), none, (.seq ⟨[]⟩ 0), ⟨[]⟩⟩
noncomputable def o1734 (P : Params) : Obj := ⟨.none, none, (.func (fd (st 35) z274 0 [] .none .none .none .none none .none .none 0)), ⟨[]⟩⟩
noncomputable def o1735 (P : Params) : Obj := ⟨(.type "code"), none, (.fields ⟨[(.str z274 1580), (.str z274 1581), (.str z162 1582), (.int 264 0), (.int 2 0), (.int 0 0), (.int 0 0), (.int 3 0), (.ref 1730), (.bool true), (.int 181 0), (.ref 1731), .none, (.ref 1732), (.ref 1733), (.ref 1734), (.int 1589 0), (.int 264 0), (.str z162 1590)]⟩), ⟨[]⟩⟩
noncomputable def o1736 (P : Params) : Obj := ⟨(.type "function"), none, (.func (fd (st 35) z274 3 [] .none .none .none (.str z257 1525) none (.ref 1735) .none 0)), ⟨[]⟩⟩
noncomputable def o1737 (P : Params) : Obj := ⟨(.type "tuple"), none, (.seq ⟨[]⟩ 0), ⟨[]⟩⟩
noncomputable def o1738 (P : Params) : Obj := ⟨.none, none, (.fields ⟨[]⟩), ⟨[]⟩⟩
noncomputable def o1739 (P : Params) : Obj := ⟨(.type "tuple"), none, (.seq ⟨[(.str z181 1595), (.str z255 1596), (.str z269 1597), (.str z275 1598), (.str z203 1599), (.str z251 1600), (.str z276 1601), (.str z260 1602), (.str z277 1603), (.str z278 1604), (.str z261 1605), (.str z279 1606), (.str z280 1607), (.str z273 1608), (.str z205 1609), (.str z281 1610)]⟩ 0), ⟨[]⟩⟩
noncomputable def o1740 (P : Params) : Obj := ⟨(.type "tuple"), none, (.seq ⟨[]⟩ 0), ⟨[]⟩⟩
noncomputable def o1741 (P : Params) : Obj := ⟨.none, none, (.func (fd (st 36) z282 0 [] .none .none .none .none none .none .none 0)), ⟨[]⟩⟩
noncomputable def o1742 (P : Params) : Obj := ⟨(.type "code"), none, (.fields ⟨[(.str z282 1592), (.str z282 1593), (.str z162 1594), (.int 292 0), (.int 5 0), (.int 0 0), (.int 0 0), (.int 3 0), (.ref 1737), (.bool true), (.int 181 0), (.ref 1738), .none, (.ref 1739), (.ref 1740), (.ref 1741), (.int 1611 0), (.int 292 0), (.str z162 1612)]⟩), ⟨[]⟩⟩
noncomputable def o1743 (P : Params) : Obj := ⟨(.type "function"), none, (.func (fd (st 36) z282 3 [] .none .none .none (.str z257 1525) none (.ref 1742) .none 0)), ⟨[]⟩⟩
noncomputable def o1744 (P : Params) : Obj := ⟨(.type "tuple"), none, (.seq ⟨[]⟩ 0), ⟨[]⟩⟩
noncomputable def o1745 (P : Params) : Obj := ⟨.none, none, (.fields ⟨[]⟩), ⟨[]⟩⟩
noncomputable def o1746 (P : Params) : Obj := ⟨(.type "tuple"), none, (.seq ⟨[(.str z181 1617), (.str z269 1618), (.str z279 1619), (.str z280 1620), (.str z273 1621), (.str z205 1622)]⟩ 0), ⟨[]⟩⟩
noncomputable def o1747 (P : Params) : Obj := ⟨(.type "tuple"), none, (.seq ⟨[]⟩ 0), ⟨[]⟩⟩
noncomputable def o1748 (P : Params) : Obj := ⟨.none, none, (.func (fd (st 37) z283 0 [] .none .none .none .none none .none .none 0)), ⟨[]⟩⟩
noncomputable def o1749 (P : Params) : Obj := ⟨(.type "code"), none, (.fields ⟨[(.str z283 1614), (.str z283 1615), (.str z162 1616), (.int 314 0), (.int 2 0), (.int 0 0), (.int 0 0), (.int 3 0), (.ref 1744), (.bool true), (.int 181 0), (.ref 1745), .none, (.ref 1746), (.ref 1747), (.ref 1748), (.int 1623 0), (.int 314 0), (.str z162 1624)]⟩), ⟨[]⟩⟩
noncomputable def o1750 (P : Params) : Obj := ⟨(.type "function"), none, (.func (fd (st 37) z283 3 [] .none .none .none (.str z257 1525) none (.ref 1749) .none 0)), ⟨[]⟩⟩
noncomputable def o1751 (P : Params) : Obj := ⟨(.type "tuple"), none, (.seq ⟨[.none, (.bool true), (.bool false)]⟩ 0), ⟨[]⟩⟩
noncomputable def o1752 (P : Params) : Obj := ⟨(.type "tuple"), none, (.seq ⟨[]⟩ 0), ⟨[]⟩⟩
noncomputable def o1753 (P : Params) : Obj := ⟨.none, none, (.fields ⟨[]⟩), ⟨[]⟩⟩
noncomputable def o1754 (P : Params) : Obj := ⟨(.type "tuple"), none, (.seq ⟨[(.str z181 1629), (.str z241 1630), (.str z235 1631), (.str z284 1632), (.str z251 1633), (.str z260 1634)]⟩ 0), ⟨[]⟩⟩
noncomputable def o1755 (P : Params) : Obj := ⟨(.type "tuple"), none, (.seq ⟨[]⟩ 0), ⟨[]⟩⟩
noncomputable def o1756 (P : Params) : Obj := ⟨.none, none, (.func (fd (st 38) z285 0 [] .none .none .none .none none .none .none 0)), ⟨[]⟩⟩
noncomputable def o1757 (P : Params) : Obj := ⟨(.type "code"), none, (.fields ⟨[(.str z285 1626), (.str z285 1627), (.str z162 1628), (.int 317 0), (.int 4 0), (.int 0 0), (.int 0 0), (.int 3 0), (.ref 1752), (.bool true), (.int 181 0), (.ref 1753), .none, (.ref 1754), (.ref 1755), (.ref 1756), (.int 1635 0), (.int 317 0), (.str z162 1636)]⟩), ⟨[]⟩⟩
noncomputable def o1758 (P : Params) : Obj := ⟨(.type "function"), none, (.func (fd (st 38) z285 3 [] (.ref 1751) .none .none (.str z257 1525) none (.ref 1757) .none 0)), ⟨[]⟩⟩
noncomputable def o1759 (P : Params) : Obj := ⟨(.type "tuple"), none, (.seq ⟨[]⟩ 0), ⟨[]⟩⟩
noncomputable def o1760 (P : Params) : Obj := ⟨.none, none, (.fields ⟨[]⟩), ⟨[]⟩⟩
noncomputable def o1761 (P : Params) : Obj := ⟨.none, none, (.func (fd (st 39) z286 0 [] .none .none .none .none none .none .none 0)), ⟨[]⟩⟩
noncomputable def o1762 (P : Params) : Obj := ⟨(.type "code"), none, (.fields ⟨[(.str z286 1638), (.str z286 1639), (.str z162 1640), (.int 325 0), (.int 1 0), (.int 0 0), (.int 0 0), (.int 3 0), (.ref 1759), (.bool true), (.int 181 0), (.ref 1760), .none, .none, .none, (.ref 1761), (.int 1641 0), (.int 325 0), (.str z162 1642)]⟩), ⟨[]⟩⟩
noncomputable def o1763 (P : Params) : Obj := ⟨(.type "function"), none, (.func (fd (st 39) z286 3 [] .none .none .none (.str z257 1525) none (.ref 1762) .none 0)), ⟨[]⟩⟩
noncomputable def o1764 (P : Params) : Obj := ⟨(.type "tuple"), none, (.seq ⟨[]⟩ 0), ⟨[]⟩⟩
noncomputable def o1765 (P : Params) : Obj := ⟨.none, none, (.fields ⟨[]⟩), ⟨[]⟩⟩
noncomputable def o1766 (P : Params) : Obj := ⟨(.type "tuple"), none, (.seq ⟨[(.str z287 1649), (.str z163 1650), (.str z288 1651)]⟩ 0), ⟨[]⟩⟩
noncomputable def o1767 (P : Params) : Obj := ⟨(.type "tuple"), none, (.seq ⟨[]⟩ 0), ⟨[]⟩⟩
noncomputable def o1768 (P : Params) : Obj := ⟨.none, none, (.func (fd (st 41) z289 0 [] .none .none .none .none none .none .none 0)), ⟨[]⟩⟩
noncomputable def o1769 (P : Params) : Obj := ⟨(.type "code"), none, (.fields ⟨[(.str z289 1646), (.str z289 1647), (.str z162 1648), (.int 337 0), (.int 3 0), (.int 0 0), (.int 0 0), (.int 3 0), (.ref 1764), (.bool true), (.int 181 0), (.ref 1765), .none, (.ref 1766), (.ref 1767), (.ref 1768), (.int 1652 0), (.int 337 0), (.str z162 1653)]⟩), ⟨[]⟩⟩
noncomputable def o1770 (P : Params) : Obj := ⟨(.type "function"), none, (.func (fd (st 41) z289 3 [] .none .none .none (.str z290 1644) none (.ref 1769) .none 0)), ⟨[]⟩⟩
noncomputable def o1771 (P : Params) : Obj := ⟨(.type "tuple"), none, (.seq ⟨[]⟩ 0), ⟨[]⟩⟩
noncomputable def o1772 (P : Params) : Obj := ⟨.none, none, (.fields ⟨[]⟩), ⟨[]⟩⟩
noncomputable def o1773 (P : Params) : Obj := ⟨(.type "tuple"), none, (.seq ⟨[(.str z291 1658), (.str z292 1659), (.str z293 1660), (.str z294 1661), (.str z295 1662), (.str z296 1663), (.str z297 1664), (.str z163 1665), (.str z298 1666)]⟩ 0), ⟨[]⟩⟩
noncomputable def o1774 (P : Params) : Obj := ⟨(.type "tuple"), none, (.seq ⟨[]⟩ 0), ⟨[]⟩⟩
noncomputable def o1775 (P : Params) : Obj := ⟨.none, none, (.func (fd (st 42) z299 0 [] .none .none .none .none none .none .none 0)), ⟨[]⟩⟩
noncomputable def o1776 (P : Params) : Obj := ⟨(.type "code"), none, (.fields ⟨[(.str z299 1655), (.str z299 1656), (.str z162 1657), (.int 339 0), (.int 2 0), (.int 0 0), (.int 0 0), (.int 3 0), (.ref 1771), (.bool true), (.int 181 0), (.ref 1772), .none, (.ref 1773), (.ref 1774), (.ref 1775), (.int 1667 0), (.int 339 0), (.str z162 1668)]⟩), ⟨[]⟩⟩
noncomputable def o1777 (P : Params) : Obj := ⟨(.type "function"), none, (.func (fd (st 42) z299 3 [] .none .none .none (.str z290 1644) none (.ref 1776) .none 0)), ⟨[]⟩⟩
noncomputable def o1778 (P : Params) : Obj := ⟨(.type "tuple"), none, (.seq ⟨[]⟩ 0), ⟨[]⟩⟩
noncomputable def o1779 (P : Params) : Obj := ⟨.none, none, (.fields ⟨[]⟩), ⟨[]⟩⟩
noncomputable def o1780 (P : Params) : Obj := ⟨(.type "tuple"), none, (.seq ⟨[(.str z300 1673)]⟩ 0), ⟨[]⟩⟩
noncomputable def o1781 (P : Params) : Obj := ⟨(.type "tuple"), none, (.seq ⟨[]⟩ 0), ⟨[]⟩⟩
noncomputable def o1782 (P : Params) : Obj := ⟨.none, none, (.func (fd (st 43) z301 0 [] .none .none .none .none none .none .none 0)), ⟨[]⟩⟩
noncomputable def o1783 (P : Params) : Obj := ⟨(.type "code"), none, (.fields ⟨[(.str z301 1670), (.str z301 1671), (.str z162 1672), (.int 352 0), (.int 1 0), (.int 0 0), (.int 0 0), (.int 3 0), (.ref 1778), (.bool true), (.int 181 0), (.ref 1779), .none, (.ref 1780), (.ref 1781), (.ref 1782), (.int 1674 0), (.int 352 0), (.str z162 1675)]⟩), ⟨[]⟩⟩
noncomputable def o1784 (P : Params) : Obj := ⟨(.type "function"), none, (.func (fd (st 43) z301 3 [] .none .none .none (.str z290 1644) none (.ref 1783) .none 0)), ⟨[]⟩⟩
noncomputable def o1785 (P : Params) : Obj := ⟨(.type "tuple"), none, (.seq ⟨[]⟩ 0), ⟨[]⟩⟩
noncomputable def o1786 (P : Params) : Obj := ⟨.none, none, (.fields ⟨[]⟩), ⟨[]⟩⟩
noncomputable def o1787 (P : Params) : Obj := ⟨.none, none, (.func (fd (st 44) z302 0 [] .none .none .none .none none .none .none 0)), ⟨[]⟩⟩
noncomputable def o1788 (P : Params) : Obj := ⟨(.type "code"), none, (.fields ⟨[(.str z302 1677), (.str z302 1678), (.str z162 1679), (.int 357 0), (.int 1 0), (.int 0 0), (.int 0 0), (.int 3 0), (.ref 1785), (.bool true), (.int 181 0), (.ref 1786), .none, .none, .none, (.ref 1787), (.int 1680 0), (.int 357 0), (.str z162 1681)]⟩), ⟨[]⟩⟩
noncomputable def o1789 (P : Params) : Obj := ⟨(.type "function"), none, (.func (fd (st 44) z302 3 [] .none .none .none (.str z290 1644) none (.ref 1788) .none 0)), ⟨[]⟩⟩
noncomputable def sub63 (P : Params) : BT := (.node (o63 P) (.node (o127 P) (.node (gb 17 3) (.node (gb 68 4) (.node (gb 171 1) .nil .nil) (.node (o1535 P) .nil .nil)) (.node (gb 120 0) (.node (gb 222 2) .nil .nil) .nil)) (.node (gb 43 1) (.node (gb 94 2) (.node (gb 196 4) .nil .nil) (.node (o1663 P) .nil .nil)) (.node (gb 145 3) (.node (gb 248 0) .nil .nil) .nil))) (.node (gb 4 4) (.node (gb 30 2) (.node (gb 81 3) (.node (gb 184 0) .nil .nil) (.node (o1599 P) .nil .nil)) (.node (gb 132 4) (.node (gb 235 1) .nil .nil) .nil)) (.node (gb 56 0) (.node (gb 107 1) (.node (gb 209 3) .nil .nil) (.node (o1727 P) .nil .nil)) (.node (gb 158 2) (.node (o1471 P) .nil .nil) .nil))))
noncomputable def sub159 (P : Params) : BT := (.node (o159 P) (.node (gb 24 0) (.node (gb 75 1) (.node (gb 177 3) .nil .nil) (.node (o1567 P) .nil .nil)) (.node (gb 126 2) (.node (gb 228 4) .nil .nil) .nil)) (.node (gb 49 3) (.node (gb 100 4) (.node (gb 203 1) .nil .nil) (.node (o1695 P) .nil .nil)) (.node (gb 152 0) (.node (gb 254 2) .nil .nil) .nil)))
noncomputable def sub223 (P : Params) : BT := (.node (gb 11 1) (.node (gb 36 4) (.node (gb 88 0) (.node (gb 190 2) .nil .nil) (.node (o1631 P) .nil .nil)) (.node (gb 139 1) (.node (gb 241 3) .nil .nil) .nil)) (.node (gb 62 2) (.node (gb 113 3) (.node (gb 216 0) .nil .nil) (.node (o1759 P) .nil .nil)) (.node (gb 164 4) (.node (o1503 P) .nil .nil) .nil)))
noncomputable def sub47 (P : Params) : BT := (.node (o47 P) (.node (o79 P) (.node (o143 P) (.node (gb 20 4) (.node (gb 72 0) (.node (gb 174 2) .nil .nil) (.node (o1551 P) .nil .nil)) (.node (gb 123 1) (.node (gb 225 3) .nil .nil) .nil)) (.node (gb 46 2) (.node (gb 97 3) (.node (gb 200 0) .nil .nil) (.node (o1679 P) .nil .nil)) (.node (gb 148 4) (.node (gb 251 1) .nil .nil) .nil))) (.node (gb 8 0) (.node (gb 33 3) (.node (gb 84 4) (.node (gb 187 1) .nil .nil) (.node (o1615 P) .nil .nil)) (.node (gb 136 0) (.node (gb 238 2) .nil .nil) .nil)) (.node (gb 59 1) (.node (gb 110 2) (.node (gb 212 4) .nil .nil) (.node (o1743 P) .nil .nil)) (.node (gb 161 3) (.node (o1487 P) .nil .nil) .nil)))) (.node (o111 P) (.node (gb 1 3) (.node (gb 27 1) (.node (gb 78 2) (.node (gb 180 4) .nil .nil) (.node (o1583 P) .nil .nil)) (.node (gb 129 3) (.node (gb 232 0) .nil .nil) .nil)) (.node (gb 52 4) (.node (gb 104 0) (.node (gb 206 2) .nil .nil) (.node (o1711 P) .nil .nil)) (.node (gb 155 1) (.node (o1455 P) .nil .nil) .nil))) (.node (gb 14 2) (.node (gb 40 0) (.node (gb 91 1) (.node (gb 193 3) .nil .nil) (.node (o1647 P) .nil .nil)) (.node (gb 142 2) (.node (gb 244 4) .nil .nil) .nil)) (.node (gb 65 3) (.node (gb 116 4) (.node (gb 219 1) .nil .nil) (.node (o1775 P) .nil .nil)) (.node (gb 168 0) (.node (o1519 P) .nil .nil) .nil)))))
noncomputable def sub23 (P : Params) : BT := (.node (o23 P) (.node (o39 P) (.node (o71 P) (.node (o135 P) (.node (gb 19 1) (.node (gb 70 2) (.node (gb 172 4) .nil .nil) (.node (o1543 P) .nil .nil)) (.node (gb 121 3) (.node (gb 224 0) .nil .nil) .nil)) (.node (gb 44 4) (.node (gb 96 0) (.node (gb 198 2) .nil .nil) (.node (o1671 P) .nil .nil)) (.node (gb 147 1) (.node (gb 249 3) .nil .nil) .nil))) (.node (gb 6 2) (.node (gb 32 0) (.node (gb 83 1) (.node (gb 185 3) .nil .nil) (.node (o1607 P) .nil .nil)) (.node (gb 134 2) (.node (gb 236 4) .nil .nil) .nil)) (.node (gb 57 3) (.node (gb 108 4) (.node (gb 211 1) .nil .nil) (.node (o1735 P) .nil .nil)) (.node (gb 160 0) (.node (o1479 P) .nil .nil) .nil)))) (.node (o103 P) (.node (gb 0 0) (.node (gb 25 3) (.node (gb 76 4) (.node (gb 179 1) .nil .nil) (.node (o1575 P) .nil .nil)) (.node (gb 128 0) (.node (gb 230 2) .nil .nil) .nil)) (.node (gb 51 1) (.node (gb 102 2) (.node (gb 204 4) .nil .nil) (.node (o1703 P) .nil .nil)) (.node (gb 153 3) (.node (o1447 P) .nil .nil) .nil))) (.node (gb 12 4) (.node (gb 38 2) (.node (gb 89 3) (.node (gb 192 0) .nil .nil) (.node (o1639 P) .nil .nil)) (.node (gb 140 4) (.node (gb 243 1) .nil .nil) .nil)) (.node (gb 64 0) (.node (gb 115 1) (.node (gb 217 3) .nil .nil) (.node (o1767 P) .nil .nil)) (.node (gb 166 2) (.node (o1511 P) .nil .nil) .nil))))) (.node (o55 P) (.node (o87 P) (.node (o151 P) (.node (gb 22 2) (.node (gb 73 3) (.node (gb 176 0) .nil .nil) (.node (o1559 P) .nil .nil)) (.node (gb 124 4) (.node (gb 227 1) .nil .nil) .nil)) (.node (gb 48 0) (.node (gb 99 1) (.node (gb 201 3) .nil .nil) (.node (o1687 P) .nil .nil)) (.node (gb 150 2) (.node (gb 252 4) .nil .nil) .nil))) (.node (gb 9 3) (.node (gb 35 1) (.node (gb 86 2) (.node (gb 188 4) .nil .nil) (.node (o1623 P) .nil .nil)) (.node (gb 137 3) (.node (gb 240 0) .nil .nil) .nil)) (.node (gb 60 4) (.node (gb 112 0) (.node (gb 214 2) .nil .nil) (.node (o1751 P) .nil .nil)) (.node (gb 163 1) (.node (o1495 P) .nil .nil) .nil)))) (.node (o119 P) (.node (gb 3 1) (.node (gb 28 4) (.node (gb 80 0) (.node (gb 182 2) .nil .nil) (.node (o1591 P) .nil .nil)) (.node (gb 131 1) (.node (gb 233 3) .nil .nil) .nil)) (.node (gb 54 2) (.node (gb 105 3) (.node (gb 208 0) .nil .nil) (.node (o1719 P) .nil .nil)) (.node (gb 156 4) (.node (o1463 P) .nil .nil) .nil))) (.node (gb 16 0) (.node (gb 41 3) (.node (gb 92 4) (.node (gb 195 1) .nil .nil) (.node (o1655 P) .nil .nil)) (.node (gb 144 0) (.node (gb 246 2) .nil .nil) .nil)) (.node (gb 67 1) (.node (gb 118 2) (.node (gb 220 4) .nil .nil) (.node (o1783 P) .nil .nil)) (.node (gb 169 3) (.node (o1527 P) .nil .nil) .nil))))))
noncomputable def sub11 (P : Params) : BT := (.node (o11 P) (.node (o19 P) (.node (o35 P) (.node (o67 P) (.node (o131 P) (.node (gb 18 2) (.node (gb 69 3) (.node (gb 172 0) .nil .nil) (.node (o1539 P) .nil .nil)) (.node (gb 120 4) (.node (gb 223 1) .nil .nil) .nil)) (.node (gb 44 0) (.node (gb 95 1) (.node (gb 197 3) .nil .nil) (.node (o1667 P) .nil .nil)) (.node (gb 146 2) (.node (gb 248 4) .nil .nil) .nil))) (.node (gb 5 3) (.node (gb 31 1) (.node (gb 82 2) (.node (gb 184 4) .nil .nil) (.node (o1603 P) .nil .nil)) (.node (gb 133 3) (.node (gb 236 0) .nil .nil) .nil)) (.node (gb 56 4) (.node (gb 108 0) (.node (gb 210 2) .nil .nil) (.node (o1731 P) .nil .nil)) (.node (gb 159 1) (.node (o1475 P) .nil .nil) .nil)))) (.node (o99 P) (.node (o163 P) (.node (gb 24 4) (.node (gb 76 0) (.node (gb 178 2) .nil .nil) (.node (o1571 P) .nil .nil)) (.node (gb 127 1) (.node (gb 229 3) .nil .nil) .nil)) (.node (gb 50 2) (.node (gb 101 3) (.node (gb 204 0) .nil .nil) (.node (o1699 P) .nil .nil)) (.node (gb 152 4) (.node (gb 255 1) .nil .nil) .nil))) (.node (gb 12 0) (.node (gb 37 3) (.node (gb 88 4) (.node (gb 191 1) .nil .nil) (.node (o1635 P) .nil .nil)) (.node (gb 140 0) (.node (gb 242 2) .nil .nil) .nil)) (.node (gb 63 1) (.node (gb 114 2) (.node (gb 216 4) .nil .nil) (.node (o1763 P) .nil .nil)) (.node (gb 165 3) (.node (o1507 P) .nil .nil) .nil))))) (.node (o51 P) (.node (o83 P) (.node (o147 P) (.node (gb 21 3) (.node (gb 72 4) (.node (gb 175 1) .nil .nil) (.node (o1555 P) .nil .nil)) (.node (gb 124 0) (.node (gb 226 2) .nil .nil) .nil)) (.node (gb 47 1) (.node (gb 98 2) (.node (gb 200 4) .nil .nil) (.node (o1683 P) .nil .nil)) (.node (gb 149 3) (.node (gb 252 0) .nil .nil) .nil))) (.node (gb 8 4) (.node (gb 34 2) (.node (gb 85 3) (.node (gb 188 0) .nil .nil) (.node (o1619 P) .nil .nil)) (.node (gb 136 4) (.node (gb 239 1) .nil .nil) .nil)) (.node (gb 60 0) (.node (gb 111 1) (.node (gb 213 3) .nil .nil) (.node (o1747 P) .nil .nil)) (.node (gb 162 2) (.node (o1491 P) .nil .nil) .nil)))) (.node (o115 P) (.node (gb 2 2) (.node (gb 28 0) (.node (gb 79 1) (.node (gb 181 3) .nil .nil) (.node (o1587 P) .nil .nil)) (.node (gb 130 2) (.node (gb 232 4) .nil .nil) .nil)) (.node (gb 53 3) (.node (gb 104 4) (.node (gb 207 1) .nil .nil) (.node (o1715 P) .nil .nil)) (.node (gb 156 0) (.node (o1459 P) .nil .nil) .nil))) (.node (gb 15 1) (.node (gb 40 4) (.node (gb 92 0) (.node (gb 194 2) .nil .nil) (.node (o1651 P) .nil .nil)) (.node (gb 143 1) (.node (gb 245 3) .nil .nil) .nil)) (.node (gb 66 2) (.node (gb 117 3) (.node (gb 220 0) .nil .nil) (.node (o1779 P) .nil .nil)) (.node (gb 168 4) (.node (o1523 P) .nil .nil) .nil)))))) (.node (o27 P) (.node (o43 P) (.node (o75 P) (.node (o139 P) (.node (gb 20 0) (.node (gb 71 1) (.node (gb 173 3) .nil .nil) (.node (o1547 P) .nil .nil)) (.node (gb 122 2) (.node (gb 224 4) .nil .nil) .nil)) (.node (gb 45 3) (.node (gb 96 4) (.node (gb 199 1) .nil .nil) (.node (o1675 P) .nil .nil)) (.node (gb 148 0) (.node (gb 250 2) .nil .nil) .nil))) (.node (gb 7 1) (.node (gb 32 4) (.node (gb 84 0) (.node (gb 186 2) .nil .nil) (.node (o1611 P) .nil .nil)) (.node (gb 135 1) (.node (gb 237 3) .nil .nil) .nil)) (.node (gb 58 2) (.node (gb 109 3) (.node (gb 212 0) .nil .nil) (.node (o1739 P) .nil .nil)) (.node (gb 160 4) (.node (o1483 P) .nil .nil) .nil)))) (.node (o107 P) (.node (gb 0 4) (.node (gb 26 2) (.node (gb 77 3) (.node (gb 180 0) .nil .nil) (.node (o1579 P) .nil .nil)) (.node (gb 128 4) (.node (gb 231 1) .nil .nil) .nil)) (.node (gb 52 0) (.node (gb 103 1) (.node (gb 205 3) .nil .nil) (.node (o1707 P) .nil .nil)) (.node (gb 154 2) (.node (o1451 P) .nil .nil) .nil))) (.node (gb 13 3) (.node (gb 39 1) (.node (gb 90 2) (.node (gb 192 4) .nil .nil) (.node (o1643 P) .nil .nil)) (.node (gb 141 3) (.node (gb 244 0) .nil .nil) .nil)) (.node (gb 64 4) (.node (gb 116 0) (.node (gb 218 2) .nil .nil) (.node (o1771 P) .nil .nil)) (.node (gb 167 1) (.node (o1515 P) .nil .nil) .nil))))) (.node (o59 P) (.node (o91 P) (.node (o155 P) (.node (gb 23 1) (.node (gb 74 2) (.node (gb 176 4) .nil .nil) (.node (o1563 P) .nil .nil)) (.node (gb 125 3) (.node (gb 228 0) .nil .nil) .nil)) (.node (gb 48 4) (.node (gb 100 0) (.node (gb 202 2) .nil .nil) (.node (o1691 P) .nil .nil)) (.node (gb 151 1) (.node (gb 253 3) .nil .nil) .nil))) (.node (gb 10 2) (.node (gb 36 0) (.node (gb 87 1) (.node (gb 189 3) .nil .nil) (.node (o1627 P) .nil .nil)) (.node (gb 138 2) (.node (gb 240 4) .nil .nil) .nil)) (.node (gb 61 3) (.node (gb 112 4) (.node (gb 215 1) .nil .nil) (.node (o1755 P) .nil .nil)) (.node (gb 164 0) (.node (o1499 P) .nil .nil) .nil)))) (.node (o123 P) (.node (gb 4 0) (.node (gb 29 3) (.node (gb 80 4) (.node (gb 183 1) .nil .nil) (.node (o1595 P) .nil .nil)) (.node (gb 132 0) (.node (gb 234 2) .nil .nil) .nil)) (.node (gb 55 1) (.node (gb 106 2) (.node (gb 208 4) .nil .nil) (.node (o1723 P) .nil .nil)) (.node (gb 157 3) (.node (o1467 P) .nil .nil) .nil))) (.node (gb 16 4) (.node (gb 42 2) (.node (gb 93 3) (.node (gb 196 0) .nil .nil) (.node (o1659 P) .nil .nil)) (.node (gb 144 4) (.node (gb 247 1) .nil .nil) .nil)) (.node (gb 68 0) (.node (gb 119 1) (.node (gb 221 3) .nil .nil) (.node (o1787 P) .nil .nil)) (.node (gb 170 2) (.node (o1531 P) .nil .nil) .nil)))))))
noncomputable def sub9 (P : Params) : BT := (.node (o9 P) (.node (o17 P) (.node (o33 P) (.node (o65 P) (.node (o129 P) (.node (gb 18 0) (.node (gb 69 1) (.node (gb 171 3) .nil .nil) (.node (o1537 P) .nil .nil)) (.node (gb 120 2) (.node (gb 222 4) .nil .nil) .nil)) (.node (gb 43 3) (.node (gb 94 4) (.node (gb 197 1) .nil .nil) (.node (o1665 P) .nil .nil)) (.node (gb 146 0) (.node (gb 248 2) .nil .nil) .nil))) (.node (gb 5 1) (.node (gb 30 4) (.node (gb 82 0) (.node (gb 184 2) .nil .nil) (.node (o1601 P) .nil .nil)) (.node (gb 133 1) (.node (gb 235 3) .nil .nil) .nil)) (.node (gb 56 2) (.node (gb 107 3) (.node (gb 210 0) .nil .nil) (.node (o1729 P) .nil .nil)) (.node (gb 158 4) (.node (o1473 P) .nil .nil) .nil)))) (.node (o97 P) (.node (o161 P) (.node (gb 24 2) (.node (gb 75 3) (.node (gb 178 0) .nil .nil) (.node (o1569 P) .nil .nil)) (.node (gb 126 4) (.node (gb 229 1) .nil .nil) .nil)) (.node (gb 50 0) (.node (gb 101 1) (.node (gb 203 3) .nil .nil) (.node (o1697 P) .nil .nil)) (.node (gb 152 2) (.node (gb 254 4) .nil .nil) .nil))) (.node (gb 11 3) (.node (gb 37 1) (.node (gb 88 2) (.node (gb 190 4) .nil .nil) (.node (o1633 P) .nil .nil)) (.node (gb 139 3) (.node (gb 242 0) .nil .nil) .nil)) (.node (gb 62 4) (.node (gb 114 0) (.node (gb 216 2) .nil .nil) (.node (o1761 P) .nil .nil)) (.node (gb 165 1) (.node (o1505 P) .nil .nil) .nil))))) (.node (o49 P) (.node (o81 P) (.node (o145 P) (.node (gb 21 1) (.node (gb 72 2) (.node (gb 174 4) .nil .nil) (.node (o1553 P) .nil .nil)) (.node (gb 123 3) (.node (gb 226 0) .nil .nil) .nil)) (.node (gb 46 4) (.node (gb 98 0) (.node (gb 200 2) .nil .nil) (.node (o1681 P) .nil .nil)) (.node (gb 149 1) (.node (gb 251 3) .nil .nil) .nil))) (.node (gb 8 2) (.node (gb 34 0) (.node (gb 85 1) (.node (gb 187 3) .nil .nil) (.node (o1617 P) .nil .nil)) (.node (gb 136 2) (.node (gb 238 4) .nil .nil) .nil)) (.node (gb 59 3) (.node (gb 110 4) (.node (gb 213 1) .nil .nil) (.node (o1745 P) .nil .nil)) (.node (gb 162 0) (.node (o1489 P) .nil .nil) .nil)))) (.node (o113 P) (.node (gb 2 0) (.node (gb 27 3) (.node (gb 78 4) (.node (gb 181 1) .nil .nil) (.node (o1585 P) .nil .nil)) (.node (gb 130 0) (.node (gb 232 2) .nil .nil) .nil)) (.node (gb 53 1) (.node (gb 104 2) (.node (gb 206 4) .nil .nil) (.node (o1713 P) .nil .nil)) (.node (gb 155 3) (.node (o1457 P) .nil .nil) .nil))) (.node (gb 14 4) (.node (gb 40 2) (.node (gb 91 3) (.node (gb 194 0) .nil .nil) (.node (o1649 P) .nil .nil)) (.node (gb 142 4) (.node (gb 245 1) .nil .nil) .nil)) (.node (gb 66 0) (.node (gb 117 1) (.node (gb 219 3) .nil .nil) (.node (o1777 P) .nil .nil)) (.node (gb 168 2) (.node (o1521 P) .nil .nil) .nil)))))) (.node (o25 P) (.node (o41 P) (.node (o73 P) (.node (o137 P) (.node (gb 19 3) (.node (gb 70 4) (.node (gb 173 1) .nil .nil) (.node (o1545 P) .nil .nil)) (.node (gb 122 0) (.node (gb 224 2) .nil .nil) .nil)) (.node (gb 45 1) (.node (gb 96 2) (.node (gb 198 4) .nil .nil) (.node (o1673 P) .nil .nil)) (.node (gb 147 3) (.node (gb 250 0) .nil .nil) .nil))) (.node (gb 6 4) (.node (gb 32 2) (.node (gb 83 3) (.node (gb 186 0) .nil .nil) (.node (o1609 P) .nil .nil)) (.node (gb 134 4) (.node (gb 237 1) .nil .nil) .nil)) (.node (gb 58 0) (.node (gb 109 1) (.node (gb 211 3) .nil .nil) (.node (o1737 P) .nil .nil)) (.node (gb 160 2) (.node (o1481 P) .nil .nil) .nil)))) (.node (o105 P) (.node (gb 0 2) (.node (gb 26 0) (.node (gb 77 1) (.node (gb 179 3) .nil .nil) (.node (o1577 P) .nil .nil)) (.node (gb 128 2) (.node (gb 230 4) .nil .nil) .nil)) (.node (gb 51 3) (.node (gb 102 4) (.node (gb 205 1) .nil .nil) (.node (o1705 P) .nil .nil)) (.node (gb 154 0) (.node (o1449 P) .nil .nil) .nil))) (.node (gb 13 1) (.node (gb 38 4) (.node (gb 90 0) (.node (gb 192 2) .nil .nil) (.node (o1641 P) .nil .nil)) (.node (gb 141 1) (.node (gb 243 3) .nil .nil) .nil)) (.node (gb 64 2) (.node (gb 115 3) (.node (gb 218 0) .nil .nil) (.node (o1769 P) .nil .nil)) (.node (gb 166 4) (.node (o1513 P) .nil .nil) .nil))))) (.node (o57 P) (.node (o89 P) (.node (o153 P) (.node (gb 22 4) (.node (gb 74 0) (.node (gb 176 2) .nil .nil) (.node (o1561 P) .nil .nil)) (.node (gb 125 1) (.node (gb 227 3) .nil .nil) .nil)) (.node (gb 48 2) (.node (gb 99 3) (.node (gb 202 0) .nil .nil) (.node (o1689 P) .nil .nil)) (.node (gb 150 4) (.node (gb 253 1) .nil .nil) .nil))) (.node (gb 10 0) (.node (gb 35 3) (.node (gb 86 4) (.node (gb 189 1) .nil .nil) (.node (o1625 P) .nil .nil)) (.node (gb 138 0) (.node (gb 240 2) .nil .nil) .nil)) (.node (gb 61 1) (.node (gb 112 2) (.node (gb 214 4) .nil .nil) (.node (o1753 P) .nil .nil)) (.node (gb 163 3) (.node (o1497 P) .nil .nil) .nil)))) (.node (o121 P) (.node (gb 3 3) (.node (gb 29 1) (.node (gb 80 2) (.node (gb 182 4) .nil .nil) (.node (o1593 P) .nil .nil)) (.node (gb 131 3) (.node (gb 234 0) .nil .nil) .nil)) (.node (gb 54 4) (.node (gb 106 0) (.node (gb 208 2) .nil .nil) (.node (o1721 P) .nil .nil)) (.node (gb 157 1) (.node (o1465 P) .nil .nil) .nil))) (.node (gb 16 2) (.node (gb 42 0) (.node (gb 93 1) (.node (gb 195 3) .nil .nil) (.node (o1657 P) .nil .nil)) (.node (gb 144 2) (.node (gb 246 4) .nil .nil) .nil)) (.node (gb 67 3) (.node (gb 118 4) (.node (gb 221 1) .nil .nil) (.node (o1785 P) .nil .nil)) (.node (gb 170 0) (.node (o1529 P) .nil .nil) .nil)))))))
noncomputable def sub69 (P : Params) : BT := (.node (o69 P) (.node (o133 P) (.node (gb 18 4) (.node (gb 70 0) (.node (gb 172 2) .nil .nil) (.node (o1541 P) .nil .nil)) (.node (gb 121 1) (.node (gb 223 3) .nil .nil) .nil)) (.node (gb 44 2) (.node (gb 95 3) (.node (gb 198 0) .nil .nil) (.node (o1669 P) .nil .nil)) (.node (gb 146 4) (.node (gb 249 1) .nil .nil) .nil))) (.node (gb 6 0) (.node (gb 31 3) (.node (gb 82 4) (.node (gb 185 1) .nil .nil) (.node (o1605 P) .nil .nil)) (.node (gb 134 0) (.node (gb 236 2) .nil .nil) .nil)) (.node (gb 57 1) (.node (gb 108 2) (.node (gb 210 4) .nil .nil) (.node (o1733 P) .nil .nil)) (.node (gb 159 3) (.node (o1477 P) .nil .nil) .nil))))
noncomputable def sub293 (P : Params) : BT := (.node (gb 25 1) (.node (gb 76 2) (.node (gb 178 4) .nil .nil) (.node (o1573 P) .nil .nil)) (.node (gb 127 3) (.node (gb 230 0) .nil .nil) .nil))
noncomputable def sub421 (P : Params) : BT := (.node (gb 50 4) (.node (gb 102 0) (.node (gb 204 2) .nil .nil) (.node (o1701 P) .nil .nil)) (.node (gb 153 1) (.node (gb 255 3) .nil .nil) .nil))
noncomputable def sub229 (P : Params) : BT := (.node (gb 12 2) (.node (gb 38 0) (.node (gb 89 1) (.node (gb 191 3) .nil .nil) (.node (o1637 P) .nil .nil)) (.node (gb 140 2) (.node (gb 242 4) .nil .nil) .nil)) (.node (gb 63 3) (.node (gb 114 4) (.node (gb 217 1) .nil .nil) (.node (o1765 P) .nil .nil)) (.node (gb 166 0) (.node (o1509 P) .nil .nil) .nil)))
noncomputable def sub53 (P : Params) : BT := (.node (o53 P) (.node (o85 P) (.node (o149 P) (.node (gb 22 0) (.node (gb 73 1) (.node (gb 175 3) .nil .nil) (.node (o1557 P) .nil .nil)) (.node (gb 124 2) (.node (gb 226 4) .nil .nil) .nil)) (.node (gb 47 3) (.node (gb 98 4) (.node (gb 201 1) .nil .nil) (.node (o1685 P) .nil .nil)) (.node (gb 150 0) (.node (gb 252 2) .nil .nil) .nil))) (.node (gb 9 1) (.node (gb 34 4) (.node (gb 86 0) (.node (gb 188 2) .nil .nil) (.node (o1621 P) .nil .nil)) (.node (gb 137 1) (.node (gb 239 3) .nil .nil) .nil)) (.node (gb 60 2) (.node (gb 111 3) (.node (gb 214 0) .nil .nil) (.node (o1749 P) .nil .nil)) (.node (gb 162 4) (.node (o1493 P) .nil .nil) .nil)))) (.node (o117 P) (.node (gb 2 4) (.node (gb 28 2) (.node (gb 79 3) (.node (gb 182 0) .nil .nil) (.node (o1589 P) .nil .nil)) (.node (gb 130 4) (.node (gb 233 1) .nil .nil) .nil)) (.node (gb 54 0) (.node (gb 105 1) (.node (gb 207 3) .nil .nil) (.node (o1717 P) .nil .nil)) (.node (gb 156 2) (.node (o1461 P) .nil .nil) .nil))) (.node (gb 15 3) (.node (gb 41 1) (.node (gb 92 2) (.node (gb 194 4) .nil .nil) (.node (o1653 P) .nil .nil)) (.node (gb 143 3) (.node (gb 246 0) .nil .nil) .nil)) (.node (gb 66 4) (.node (gb 118 0) (.node (gb 220 2) .nil .nil) (.node (o1781 P) .nil .nil)) (.node (gb 169 1) (.node (o1525 P) .nil .nil) .nil)))))
noncomputable def sub29 (P : Params) : BT := (.node (o29 P) (.node (o45 P) (.node (o77 P) (.node (o141 P) (.node (gb 20 2) (.node (gb 71 3) (.node (gb 174 0) .nil .nil) (.node (o1549 P) .nil .nil)) (.node (gb 122 4) (.node (gb 225 1) .nil .nil) .nil)) (.node (gb 46 0) (.node (gb 97 1) (.node (gb 199 3) .nil .nil) (.node (o1677 P) .nil .nil)) (.node (gb 148 2) (.node (gb 250 4) .nil .nil) .nil))) (.node (gb 7 3) (.node (gb 33 1) (.node (gb 84 2) (.node (gb 186 4) .nil .nil) (.node (o1613 P) .nil .nil)) (.node (gb 135 3) (.node (gb 238 0) .nil .nil) .nil)) (.node (gb 58 4) (.node (gb 110 0) (.node (gb 212 2) .nil .nil) (.node (o1741 P) .nil .nil)) (.node (gb 161 1) (.node (o1485 P) .nil .nil) .nil)))) (.node (o109 P) (.node (gb 1 1) (.node (gb 26 4) (.node (gb 78 0) (.node (gb 180 2) .nil .nil) (.node (o1581 P) .nil .nil)) (.node (gb 129 1) (.node (gb 231 3) .nil .nil) .nil)) (.node (gb 52 2) (.node (gb 103 3) (.node (gb 206 0) .nil .nil) (.node (o1709 P) .nil .nil)) (.node (gb 154 4) (.node (o1453 P) .nil .nil) .nil))) (.node (gb 14 0) (.node (gb 39 3) (.node (gb 90 4) (.node (gb 193 1) .nil .nil) (.node (o1645 P) .nil .nil)) (.node (gb 142 0) (.node (gb 244 2) .nil .nil) .nil)) (.node (gb 65 1) (.node (gb 116 2) (.node (gb 218 4) .nil .nil) (.node (o1773 P) .nil .nil)) (.node (gb 167 3) (.node (o1517 P) .nil .nil) .nil))))) (.node (o61 P) (.node (o93 P) (.node (o157 P) (.node (gb 23 3) (.node (gb 74 4) (.node (gb 177 1) .nil .nil) (.node (o1565 P) .nil .nil)) (.node (gb 126 0) (.node (gb 228 2) .nil .nil) .nil)) (.node (gb 49 1) (.node (gb 100 2) (.node (gb 202 4) .nil .nil) (.node (o1693 P) .nil .nil)) (.node (gb 151 3) (.node (gb 254 0) .nil .nil) .nil))) (.node (gb 10 4) (.node (gb 36 2) (.node (gb 87 3) (.node (gb 190 0) .nil .nil) (.node (o1629 P) .nil .nil)) (.node (gb 138 4) (.node (gb 241 1) .nil .nil) .nil)) (.node (gb 62 0) (.node (gb 113 1) (.node (gb 215 3) .nil .nil) (.node (o1757 P) .nil .nil)) (.node (gb 164 2) (.node (o1501 P) .nil .nil) .nil)))) (.node (o125 P) (.node (gb 4 2) (.node (gb 30 0) (.node (gb 81 1) (.node (gb 183 3) .nil .nil) (.node (o1597 P) .nil .nil)) (.node (gb 132 2) (.node (gb 234 4) .nil .nil) .nil)) (.node (gb 55 3) (.node (gb 106 4) (.node (gb 209 1) .nil .nil) (.node (o1725 P) .nil .nil)) (.node (gb 158 0) (.node (o1469 P) .nil .nil) .nil))) (.node (gb 17 1) (.node (gb 42 4) (.node (gb 94 0) (.node (gb 196 2) .nil .nil) (.node (o1661 P) .nil .nil)) (.node (gb 145 1) (.node (gb 247 3) .nil .nil) .nil)) (.node (gb 68 2) (.node (gb 119 3) (.node (gb 222 0) .nil .nil) (.node (o1789 P) .nil .nil)) (.node (gb 170 4) (.node (o1533 P) .nil .nil) .nil))))))
noncomputable def sub8 (P : Params) : BT := (.node (o8 P) (.node (o16 P) (.node (o32 P) (.node (o64 P) (.node (o128 P) (.node (gb 17 4) (.node (gb 69 0) (.node (gb 171 2) .nil .nil) (.node (o1536 P) .nil .nil)) (.node (gb 120 1) (.node (gb 222 3) .nil .nil) .nil)) (.node (gb 43 2) (.node (gb 94 3) (.node (gb 197 0) .nil .nil) (.node (o1664 P) .nil .nil)) (.node (gb 145 4) (.node (gb 248 1) .nil .nil) .nil))) (.node (gb 5 0) (.node (gb 30 3) (.node (gb 81 4) (.node (gb 184 1) .nil .nil) (.node (o1600 P) .nil .nil)) (.node (gb 133 0) (.node (gb 235 2) .nil .nil) .nil)) (.node (gb 56 1) (.node (gb 107 2) (.node (gb 209 4) .nil .nil) (.node (o1728 P) .nil .nil)) (.node (gb 158 3) (.node (o1472 P) .nil .nil) .nil)))) (.node (o96 P) (.node (o160 P) (.node (gb 24 1) (.node (gb 75 2) (.node (gb 177 4) .nil .nil) (.node (o1568 P) .nil .nil)) (.node (gb 126 3) (.node (gb 229 0) .nil .nil) .nil)) (.node (gb 49 4) (.node (gb 101 0) (.node (gb 203 2) .nil .nil) (.node (o1696 P) .nil .nil)) (.node (gb 152 1) (.node (gb 254 3) .nil .nil) .nil))) (.node (gb 11 2) (.node (gb 37 0) (.node (gb 88 1) (.node (gb 190 3) .nil .nil) (.node (o1632 P) .nil .nil)) (.node (gb 139 2) (.node (gb 241 4) .nil .nil) .nil)) (.node (gb 62 3) (.node (gb 113 4) (.node (gb 216 1) .nil .nil) (.node (o1760 P) .nil .nil)) (.node (gb 165 0) (.node (o1504 P) .nil .nil) .nil))))) (.node (o48 P) (.node (o80 P) (.node (o144 P) (.node (gb 21 0) (.node (gb 72 1) (.node (gb 174 3) .nil .nil) (.node (o1552 P) .nil .nil)) (.node (gb 123 2) (.node (gb 225 4) .nil .nil) .nil)) (.node (gb 46 3) (.node (gb 97 4) (.node (gb 200 1) .nil .nil) (.node (o1680 P) .nil .nil)) (.node (gb 149 0) (.node (gb 251 2) .nil .nil) .nil))) (.node (gb 8 1) (.node (gb 33 4) (.node (gb 85 0) (.node (gb 187 2) .nil .nil) (.node (o1616 P) .nil .nil)) (.node (gb 136 1) (.node (gb 238 3) .nil .nil) .nil)) (.node (gb 59 2) (.node (gb 110 3) (.node (gb 213 0) .nil .nil) (.node (o1744 P) .nil .nil)) (.node (gb 161 4) (.node (o1488 P) .nil .nil) .nil)))) (.node (o112 P) (.node (gb 1 4) (.node (gb 27 2) (.node (gb 78 3) (.node (gb 181 0) .nil .nil) (.node (o1584 P) .nil .nil)) (.node (gb 129 4) (.node (gb 232 1) .nil .nil) .nil)) (.node (gb 53 0) (.node (gb 104 1) (.node (gb 206 3) .nil .nil) (.node (o1712 P) .nil .nil)) (.node (gb 155 2) (.node (o1456 P) .nil .nil) .nil))) (.node (gb 14 3) (.node (gb 40 1) (.node (gb 91 2) (.node (gb 193 4) .nil .nil) (.node (o1648 P) .nil .nil)) (.node (gb 142 3) (.node (gb 245 0) .nil .nil) .nil)) (.node (gb 65 4) (.node (gb 117 0) (.node (gb 219 2) .nil .nil) (.node (o1776 P) .nil .nil)) (.node (gb 168 1) (.node (o1520 P) .nil .nil) .nil)))))) (.node (o24 P) (.node (o40 P) (.node (o72 P) (.node (o136 P) (.node (gb 19 2) (.node (gb 70 3) (.node (gb 173 0) .nil .nil) (.node (o1544 P) .nil .nil)) (.node (gb 121 4) (.node (gb 224 1) .nil .nil) .nil)) (.node (gb 45 0) (.node (gb 96 1) (.node (gb 198 3) .nil .nil) (.node (o1672 P) .nil .nil)) (.node (gb 147 2) (.node (gb 249 4) .nil .nil) .nil))) (.node (gb 6 3) (.node (gb 32 1) (.node (gb 83 2) (.node (gb 185 4) .nil .nil) (.node (o1608 P) .nil .nil)) (.node (gb 134 3) (.node (gb 237 0) .nil .nil) .nil)) (.node (gb 57 4) (.node (gb 109 0) (.node (gb 211 2) .nil .nil) (.node (o1736 P) .nil .nil)) (.node (gb 160 1) (.node (o1480 P) .nil .nil) .nil)))) (.node (o104 P) (.node (gb 0 1) (.node (gb 25 4) (.node (gb 77 0) (.node (gb 179 2) .nil .nil) (.node (o1576 P) .nil .nil)) (.node (gb 128 1) (.node (gb 230 3) .nil .nil) .nil)) (.node (gb 51 2) (.node (gb 102 3) (.node (gb 205 0) .nil .nil) (.node (o1704 P) .nil .nil)) (.node (gb 153 4) (.node (o1448 P) .nil .nil) .nil))) (.node (gb 13 0) (.node (gb 38 3) (.node (gb 89 4) (.node (gb 192 1) .nil .nil) (.node (o1640 P) .nil .nil)) (.node (gb 141 0) (.node (gb 243 2) .nil .nil) .nil)) (.node (gb 64 1) (.node (gb 115 2) (.node (gb 217 4) .nil .nil) (.node (o1768 P) .nil .nil)) (.node (gb 166 3) (.node (o1512 P) .nil .nil) .nil))))) (.node (o56 P) (.node (o88 P) (.node (o152 P) (.node (gb 22 3) (.node (gb 73 4) (.node (gb 176 1) .nil .nil) (.node (o1560 P) .nil .nil)) (.node (gb 125 0) (.node (gb 227 2) .nil .nil) .nil)) (.node (gb 48 1) (.node (gb 99 2) (.node (gb 201 4) .nil .nil) (.node (o1688 P) .nil .nil)) (.node (gb 150 3) (.node (gb 253 0) .nil .nil) .nil))) (.node (gb 9 4) (.node (gb 35 2) (.node (gb 86 3) (.node (gb 189 0) .nil .nil) (.node (o1624 P) .nil .nil)) (.node (gb 137 4) (.node (gb 240 1) .nil .nil) .nil)) (.node (gb 61 0) (.node (gb 112 1) (.node (gb 214 3) .nil .nil) (.node (o1752 P) .nil .nil)) (.node (gb 163 2) (.node (o1496 P) .nil .nil) .nil)))) (.node (o120 P) (.node (gb 3 2) (.node (gb 29 0) (.node (gb 80 1) (.node (gb 182 3) .nil .nil) (.node (o1592 P) .nil .nil)) (.node (gb 131 2) (.node (gb 233 4) .nil .nil) .nil)) (.node (gb 54 3) (.node (gb 105 4) (.node (gb 208 1) .nil .nil) (.node (o1720 P) .nil .nil)) (.node (gb 157 0) (.node (o1464 P) .nil .nil) .nil))) (.node (gb 16 1) (.node (gb 41 4) (.node (gb 93 0) (.node (gb 195 2) .nil .nil) (.node (o1656 P) .nil .nil)) (.node (gb 144 1) (.node (gb 246 3) .nil .nil) .nil)) (.node (gb 67 2) (.node (gb 118 3) (.node (gb 221 0) .nil .nil) (.node (o1784 P) .nil .nil)) (.node (gb 169 4) (.node (o1528 P) .nil .nil) .nil)))))))
noncomputable def sub68 (P : Params) : BT := (.node (o68 P) (.node (o132 P) (.node (gb 18 3) (.node (gb 69 4) (.node (gb 172 1) .nil .nil) (.node (o1540 P) .nil .nil)) (.node (gb 121 0) (.node (gb 223 2) .nil .nil) .nil)) (.node (gb 44 1) (.node (gb 95 2) (.node (gb 197 4) .nil .nil) (.node (o1668 P) .nil .nil)) (.node (gb 146 3) (.node (gb 249 0) .nil .nil) .nil))) (.node (gb 5 4) (.node (gb 31 2) (.node (gb 82 3) (.node (gb 185 0) .nil .nil) (.node (o1604 P) .nil .nil)) (.node (gb 133 4) (.node (gb 236 1) .nil .nil) .nil)) (.node (gb 57 0) (.node (gb 108 1) (.node (gb 210 3) .nil .nil) (.node (o1732 P) .nil .nil)) (.node (gb 159 2) (.node (o1476 P) .nil .nil) .nil))))
noncomputable def sub292 (P : Params) : BT := (.node (gb 25 0) (.node (gb 76 1) (.node (gb 178 3) .nil .nil) (.node (o1572 P) .nil .nil)) (.node (gb 127 2) (.node (gb 229 4) .nil .nil) .nil))
noncomputable def sub420 (P : Params) : BT := (.node (gb 50 3) (.node (gb 101 4) (.node (gb 204 1) .nil .nil) (.node (o1700 P) .nil .nil)) (.node (gb 153 0) (.node (gb 255 2) .nil .nil) .nil))
noncomputable def sub228 (P : Params) : BT := (.node (gb 12 1) (.node (gb 37 4) (.node (gb 89 0) (.node (gb 191 2) .nil .nil) (.node (o1636 P) .nil .nil)) (.node (gb 140 1) (.node (gb 242 3) .nil .nil) .nil)) (.node (gb 63 2) (.node (gb 114 3) (.node (gb 217 0) .nil .nil) (.node (o1764 P) .nil .nil)) (.node (gb 165 4) (.node (o1508 P) .nil .nil) .nil)))
noncomputable def sub52 (P : Params) : BT := (.node (o52 P) (.node (o84 P) (.node (o148 P) (.node (gb 21 4) (.node (gb 73 0) (.node (gb 175 2) .nil .nil) (.node (o1556 P) .nil .nil)) (.node (gb 124 1) (.node (gb 226 3) .nil .nil) .nil)) (.node (gb 47 2) (.node (gb 98 3) (.node (gb 201 0) .nil .nil) (.node (o1684 P) .nil .nil)) (.node (gb 149 4) (.node (gb 252 1) .nil .nil) .nil))) (.node (gb 9 0) (.node (gb 34 3) (.node (gb 85 4) (.node (gb 188 1) .nil .nil) (.node (o1620 P) .nil .nil)) (.node (gb 137 0) (.node (gb 239 2) .nil .nil) .nil)) (.node (gb 60 1) (.node (gb 111 2) (.node (gb 213 4) .nil .nil) (.node (o1748 P) .nil .nil)) (.node (gb 162 3) (.node (o1492 P) .nil .nil) .nil)))) (.node (o116 P) (.node (gb 2 3) (.node (gb 28 1) (.node (gb 79 2) (.node (gb 181 4) .nil .nil) (.node (o1588 P) .nil .nil)) (.node (gb 130 3) (.node (gb 233 0) .nil .nil) .nil)) (.node (gb 53 4) (.node (gb 105 0) (.node (gb 207 2) .nil .nil) (.node (o1716 P) .nil .nil)) (.node (gb 156 1) (.node (o1460 P) .nil .nil) .nil))) (.node (gb 15 2) (.node (gb 41 0) (.node (gb 92 1) (.node (gb 194 3) .nil .nil) (.node (o1652 P) .nil .nil)) (.node (gb 143 2) (.node (gb 245 4) .nil .nil) .nil)) (.node (gb 66 3) (.node (gb 117 4) (.node (gb 220 1) .nil .nil) (.node (o1780 P) .nil .nil)) (.node (gb 169 0) (.node (o1524 P) .nil .nil) .nil)))))
noncomputable def sub28 (P : Params) : BT := (.node (o28 P) (.node (o44 P) (.node (o76 P) (.node (o140 P) (.node (gb 20 1) (.node (gb 71 2) (.node (gb 173 4) .nil .nil) (.node (o1548 P) .nil .nil)) (.node (gb 122 3) (.node (gb 225 0) .nil .nil) .nil)) (.node (gb 45 4) (.node (gb 97 0) (.node (gb 199 2) .nil .nil) (.node (o1676 P) .nil .nil)) (.node (gb 148 1) (.node (gb 250 3) .nil .nil) .nil))) (.node (gb 7 2) (.node (gb 33 0) (.node (gb 84 1) (.node (gb 186 3) .nil .nil) (.node (o1612 P) .nil .nil)) (.node (gb 135 2) (.node (gb 237 4) .nil .nil) .nil)) (.node (gb 58 3) (.node (gb 109 4) (.node (gb 212 1) .nil .nil) (.node (o1740 P) .nil .nil)) (.node (gb 161 0) (.node (o1484 P) .nil .nil) .nil)))) (.node (o108 P) (.node (gb 1 0) (.node (gb 26 3) (.node (gb 77 4) (.node (gb 180 1) .nil .nil) (.node (o1580 P) .nil .nil)) (.node (gb 129 0) (.node (gb 231 2) .nil .nil) .nil)) (.node (gb 52 1) (.node (gb 103 2) (.node (gb 205 4) .nil .nil) (.node (o1708 P) .nil .nil)) (.node (gb 154 3) (.node (o1452 P) .nil .nil) .nil))) (.node (gb 13 4) (.node (gb 39 2) (.node (gb 90 3) (.node (gb 193 0) .nil .nil) (.node (o1644 P) .nil .nil)) (.node (gb 141 4) (.node (gb 244 1) .nil .nil) .nil)) (.node (gb 65 0) (.node (gb 116 1) (.node (gb 218 3) .nil .nil) (.node (o1772 P) .nil .nil)) (.node (gb 167 2) (.node (o1516 P) .nil .nil) .nil))))) (.node (o60 P) (.node (o92 P) (.node (o156 P) (.node (gb 23 2) (.node (gb 74 3) (.node (gb 177 0) .nil .nil) (.node (o1564 P) .nil .nil)) (.node (gb 125 4) (.node (gb 228 1) .nil .nil) .nil)) (.node (gb 49 0) (.node (gb 100 1) (.node (gb 202 3) .nil .nil) (.node (o1692 P) .nil .nil)) (.node (gb 151 2) (.node (gb 253 4) .nil .nil) .nil))) (.node (gb 10 3) (.node (gb 36 1) (.node (gb 87 2) (.node (gb 189 4) .nil .nil) (.node (o1628 P) .nil .nil)) (.node (gb 138 3) (.node (gb 241 0) .nil .nil) .nil)) (.node (gb 61 4) (.node (gb 113 0) (.node (gb 215 2) .nil .nil) (.node (o1756 P) .nil .nil)) (.node (gb 164 1) (.node (o1500 P) .nil .nil) .nil)))) (.node (o124 P) (.node (gb 4 1) (.node (gb 29 4) (.node (gb 81 0) (.node (gb 183 2) .nil .nil) (.node (o1596 P) .nil .nil)) (.node (gb 132 1) (.node (gb 234 3) .nil .nil) .nil)) (.node (gb 55 2) (.node (gb 106 3) (.node (gb 209 0) .nil .nil) (.node (o1724 P) .nil .nil)) (.node (gb 157 4) (.node (o1468 P) .nil .nil) .nil))) (.node (gb 17 0) (.node (gb 42 3) (.node (gb 93 4) (.node (gb 196 1) .nil .nil) (.node (o1660 P) .nil .nil)) (.node (gb 145 0) (.node (gb 247 2) .nil .nil) .nil)) (.node (gb 68 1) (.node (gb 119 2) (.node (gb 221 4) .nil .nil) (.node (o1788 P) .nil .nil)) (.node (gb 170 3) (.node (o1532 P) .nil .nil) .nil))))))
noncomputable def sub18 (P : Params) : BT := (.node (o18 P) (.node (o34 P) (.node (o66 P) (.node (o130 P) (.node (gb 18 1) (.node (gb 69 2) (.node (gb 171 4) .nil .nil) (.node (o1538 P) .nil .nil)) (.node (gb 120 3) (.node (gb 223 0) .nil .nil) .nil)) (.node (gb 43 4) (.node (gb 95 0) (.node (gb 197 2) .nil .nil) (.node (o1666 P) .nil .nil)) (.node (gb 146 1) (.node (gb 248 3) .nil .nil) .nil))) (.node (gb 5 2) (.node (gb 31 0) (.node (gb 82 1) (.node (gb 184 3) .nil .nil) (.node (o1602 P) .nil .nil)) (.node (gb 133 2) (.node (gb 235 4) .nil .nil) .nil)) (.node (gb 56 3) (.node (gb 107 4) (.node (gb 210 1) .nil .nil) (.node (o1730 P) .nil .nil)) (.node (gb 159 0) (.node (o1474 P) .nil .nil) .nil)))) (.node (o98 P) (.node (o162 P) (.node (gb 24 3) (.node (gb 75 4) (.node (gb 178 1) .nil .nil) (.node (o1570 P) .nil .nil)) (.node (gb 127 0) (.node (gb 229 2) .nil .nil) .nil)) (.node (gb 50 1) (.node (gb 101 2) (.node (gb 203 4) .nil .nil) (.node (o1698 P) .nil .nil)) (.node (gb 152 3) (.node (gb 255 0) .nil .nil) .nil))) (.node (gb 11 4) (.node (gb 37 2) (.node (gb 88 3) (.node (gb 191 0) .nil .nil) (.node (o1634 P) .nil .nil)) (.node (gb 139 4) (.node (gb 242 1) .nil .nil) .nil)) (.node (gb 63 0) (.node (gb 114 1) (.node (gb 216 3) .nil .nil) (.node (o1762 P) .nil .nil)) (.node (gb 165 2) (.node (o1506 P) .nil .nil) .nil))))) (.node (o50 P) (.node (o82 P) (.node (o146 P) (.node (gb 21 2) (.node (gb 72 3) (.node (gb 175 0) .nil .nil) (.node (o1554 P) .nil .nil)) (.node (gb 123 4) (.node (gb 226 1) .nil .nil) .nil)) (.node (gb 47 0) (.node (gb 98 1) (.node (gb 200 3) .nil .nil) (.node (o1682 P) .nil .nil)) (.node (gb 149 2) (.node (gb 251 4) .nil .nil) .nil))) (.node (gb 8 3) (.node (gb 34 1) (.node (gb 85 2) (.node (gb 187 4) .nil .nil) (.node (o1618 P) .nil .nil)) (.node (gb 136 3) (.node (gb 239 0) .nil .nil) .nil)) (.node (gb 59 4) (.node (gb 111 0) (.node (gb 213 2) .nil .nil) (.node (o1746 P) .nil .nil)) (.node (gb 162 1) (.node (o1490 P) .nil .nil) .nil)))) (.node (o114 P) (.node (gb 2 1) (.node (gb 27 4) (.node (gb 79 0) (.node (gb 181 2) .nil .nil) (.node (o1586 P) .nil .nil)) (.node (gb 130 1) (.node (gb 232 3) .nil .nil) .nil)) (.node (gb 53 2) (.node (gb 104 3) (.node (gb 207 0) .nil .nil) (.node (o1714 P) .nil .nil)) (.node (gb 155 4) (.node (o1458 P) .nil .nil) .nil))) (.node (gb 15 0) (.node (gb 40 3) (.node (gb 91 4) (.node (gb 194 1) .nil .nil) (.node (o1650 P) .nil .nil)) (.node (gb 143 0) (.node (gb 245 2) .nil .nil) .nil)) (.node (gb 66 1) (.node (gb 117 2) (.node (gb 219 4) .nil .nil) (.node (o1778 P) .nil .nil)) (.node (gb 168 3) (.node (o1522 P) .nil .nil) .nil))))))
noncomputable def sub266 (P : Params) : BT := (.node (gb 19 4) (.node (gb 71 0) (.node (gb 173 2) .nil .nil) (.node (o1546 P) .nil .nil)) (.node (gb 122 1) (.node (gb 224 3) .nil .nil) .nil))
noncomputable def sub394 (P : Params) : BT := (.node (gb 45 2) (.node (gb 96 3) (.node (gb 199 0) .nil .nil) (.node (o1674 P) .nil .nil)) (.node (gb 147 4) (.node (gb 250 1) .nil .nil) .nil))
noncomputable def sub202 (P : Params) : BT := (.node (gb 7 0) (.node (gb 32 3) (.node (gb 83 4) (.node (gb 186 1) .nil .nil) (.node (o1610 P) .nil .nil)) (.node (gb 135 0) (.node (gb 237 2) .nil .nil) .nil)) (.node (gb 58 1) (.node (gb 109 2) (.node (gb 211 4) .nil .nil) (.node (o1738 P) .nil .nil)) (.node (gb 160 3) (.node (o1482 P) .nil .nil) .nil)))
noncomputable def sub106 (P : Params) : BT := (.node (o106 P) (.node (gb 0 3) (.node (gb 26 1) (.node (gb 77 2) (.node (gb 179 4) .nil .nil) (.node (o1578 P) .nil .nil)) (.node (gb 128 3) (.node (gb 231 0) .nil .nil) .nil)) (.node (gb 51 4) (.node (gb 103 0) (.node (gb 205 2) .nil .nil) (.node (o1706 P) .nil .nil)) (.node (gb 154 1) (.node (o1450 P) .nil .nil) .nil))) (.node (gb 13 2) (.node (gb 39 0) (.node (gb 90 1) (.node (gb 192 3) .nil .nil) (.node (o1642 P) .nil .nil)) (.node (gb 141 2) (.node (gb 243 4) .nil .nil) .nil)) (.node (gb 64 3) (.node (gb 115 4) (.node (gb 218 1) .nil .nil) (.node (o1770 P) .nil .nil)) (.node (gb 167 0) (.node (o1514 P) .nil .nil) .nil))))
noncomputable def sub58 (P : Params) : BT := (.node (o58 P) (.node (o90 P) (.node (o154 P) (.node (gb 23 0) (.node (gb 74 1) (.node (gb 176 3) .nil .nil) (.node (o1562 P) .nil .nil)) (.node (gb 125 2) (.node (gb 227 4) .nil .nil) .nil)) (.node (gb 48 3) (.node (gb 99 4) (.node (gb 202 1) .nil .nil) (.node (o1690 P) .nil .nil)) (.node (gb 151 0) (.node (gb 253 2) .nil .nil) .nil))) (.node (gb 10 1) (.node (gb 35 4) (.node (gb 87 0) (.node (gb 189 2) .nil .nil) (.node (o1626 P) .nil .nil)) (.node (gb 138 1) (.node (gb 240 3) .nil .nil) .nil)) (.node (gb 61 2) (.node (gb 112 3) (.node (gb 215 0) .nil .nil) (.node (o1754 P) .nil .nil)) (.node (gb 163 4) (.node (o1498 P) .nil .nil) .nil)))) (.node (o122 P) (.node (gb 3 4) (.node (gb 29 2) (.node (gb 80 3) (.node (gb 183 0) .nil .nil) (.node (o1594 P) .nil .nil)) (.node (gb 131 4) (.node (gb 234 1) .nil .nil) .nil)) (.node (gb 55 0) (.node (gb 106 1) (.node (gb 208 3) .nil .nil) (.node (o1722 P) .nil .nil)) (.node (gb 157 2) (.node (o1466 P) .nil .nil) .nil))) (.node (gb 16 3) (.node (gb 42 1) (.node (gb 93 2) (.node (gb 195 4) .nil .nil) (.node (o1658 P) .nil .nil)) (.node (gb 144 3) (.node (gb 247 0) .nil .nil) .nil)) (.node (gb 67 4) (.node (gb 119 0) (.node (gb 221 2) .nil .nil) (.node (o1786 P) .nil .nil)) (.node (gb 170 1) (.node (o1530 P) .nil .nil) .nil)))))
noncomputable def sub70 (P : Params) : BT := (.node (o70 P) (.node (o134 P) (.node (gb 19 0) (.node (gb 70 1) (.node (gb 172 3) .nil .nil) (.node (o1542 P) .nil .nil)) (.node (gb 121 2) (.node (gb 223 4) .nil .nil) .nil)) (.node (gb 44 3) (.node (gb 95 4) (.node (gb 198 1) .nil .nil) (.node (o1670 P) .nil .nil)) (.node (gb 147 0) (.node (gb 249 2) .nil .nil) .nil))) (.node (gb 6 1) (.node (gb 31 4) (.node (gb 83 0) (.node (gb 185 2) .nil .nil) (.node (o1606 P) .nil .nil)) (.node (gb 134 1) (.node (gb 236 3) .nil .nil) .nil)) (.node (gb 57 2) (.node (gb 108 3) (.node (gb 211 0) .nil .nil) (.node (o1734 P) .nil .nil)) (.node (gb 159 4) (.node (o1478 P) .nil .nil) .nil))))
noncomputable def sub294 (P : Params) : BT := (.node (gb 25 2) (.node (gb 76 3) (.node (gb 179 0) .nil .nil) (.node (o1574 P) .nil .nil)) (.node (gb 127 4) (.node (gb 230 1) .nil .nil) .nil))
noncomputable def sub422 (P : Params) : BT := (.node (gb 51 0) (.node (gb 102 1) (.node (gb 204 3) .nil .nil) (.node (o1702 P) .nil .nil)) (.node (gb 153 2) (.node (gb 255 4) .nil .nil) .nil))
noncomputable def sub230 (P : Params) : BT := (.node (gb 12 3) (.node (gb 38 1) (.node (gb 89 2) (.node (gb 191 4) .nil .nil) (.node (o1638 P) .nil .nil)) (.node (gb 140 3) (.node (gb 243 0) .nil .nil) .nil)) (.node (gb 63 4) (.node (gb 115 0) (.node (gb 217 2) .nil .nil) (.node (o1766 P) .nil .nil)) (.node (gb 166 1) (.node (o1510 P) .nil .nil) .nil)))
noncomputable def sub54 (P : Params) : BT := (.node (o54 P) (.node (o86 P) (.node (o150 P) (.node (gb 22 1) (.node (gb 73 2) (.node (gb 175 4) .nil .nil) (.node (o1558 P) .nil .nil)) (.node (gb 124 3) (.node (gb 227 0) .nil .nil) .nil)) (.node (gb 47 4) (.node (gb 99 0) (.node (gb 201 2) .nil .nil) (.node (o1686 P) .nil .nil)) (.node (gb 150 1) (.node (gb 252 3) .nil .nil) .nil))) (.node (gb 9 2) (.node (gb 35 0) (.node (gb 86 1) (.node (gb 188 3) .nil .nil) (.node (o1622 P) .nil .nil)) (.node (gb 137 2) (.node (gb 239 4) .nil .nil) .nil)) (.node (gb 60 3) (.node (gb 111 4) (.node (gb 214 1) .nil .nil) (.node (o1750 P) .nil .nil)) (.node (gb 163 0) (.node (o1494 P) .nil .nil) .nil)))) (.node (o118 P) (.node (gb 3 0) (.node (gb 28 3) (.node (gb 79 4) (.node (gb 182 1) .nil .nil) (.node (o1590 P) .nil .nil)) (.node (gb 131 0) (.node (gb 233 2) .nil .nil) .nil)) (.node (gb 54 1) (.node (gb 105 2) (.node (gb 207 4) .nil .nil) (.node (o1718 P) .nil .nil)) (.node (gb 156 3) (.node (o1462 P) .nil .nil) .nil))) (.node (gb 15 4) (.node (gb 41 2) (.node (gb 92 3) (.node (gb 195 0) .nil .nil) (.node (o1654 P) .nil .nil)) (.node (gb 143 4) (.node (gb 246 1) .nil .nil) .nil)) (.node (gb 67 0) (.node (gb 118 1) (.node (gb 220 3) .nil .nil) (.node (o1782 P) .nil .nil)) (.node (gb 169 2) (.node (o1526 P) .nil .nil) .nil)))))
noncomputable def sub30 (P : Params) : BT := (.node (o30 P) (.node (o46 P) (.node (o78 P) (.node (o142 P) (.node (gb 20 3) (.node (gb 71 4) (.node (gb 174 1) .nil .nil) (.node (o1550 P) .nil .nil)) (.node (gb 123 0) (.node (gb 225 2) .nil .nil) .nil)) (.node (gb 46 1) (.node (gb 97 2) (.node (gb 199 4) .nil .nil) (.node (o1678 P) .nil .nil)) (.node (gb 148 3) (.node (gb 251 0) .nil .nil) .nil))) (.node (gb 7 4) (.node (gb 33 2) (.node (gb 84 3) (.node (gb 187 0) .nil .nil) (.node (o1614 P) .nil .nil)) (.node (gb 135 4) (.node (gb 238 1) .nil .nil) .nil)) (.node (gb 59 0) (.node (gb 110 1) (.node (gb 212 3) .nil .nil) (.node (o1742 P) .nil .nil)) (.node (gb 161 2) (.node (o1486 P) .nil .nil) .nil)))) (.node (o110 P) (.node (gb 1 2) (.node (gb 27 0) (.node (gb 78 1) (.node (gb 180 3) .nil .nil) (.node (o1582 P) .nil .nil)) (.node (gb 129 2) (.node (gb 231 4) .nil .nil) .nil)) (.node (gb 52 3) (.node (gb 103 4) (.node (gb 206 1) .nil .nil) (.node (o1710 P) .nil .nil)) (.node (gb 155 0) (.node (o1454 P) .nil .nil) .nil))) (.node (gb 14 1) (.node (gb 39 4) (.node (gb 91 0) (.node (gb 193 2) .nil .nil) (.node (o1646 P) .nil .nil)) (.node (gb 142 1) (.node (gb 244 3) .nil .nil) .nil)) (.node (gb 65 2) (.node (gb 116 3) (.node (gb 219 0) .nil .nil) (.node (o1774 P) .nil .nil)) (.node (gb 167 4) (.node (o1518 P) .nil .nil) .nil))))) (.node (o62 P) (.node (o94 P) (.node (o158 P) (.node (gb 23 4) (.node (gb 75 0) (.node (gb 177 2) .nil .nil) (.node (o1566 P) .nil .nil)) (.node (gb 126 1) (.node (gb 228 3) .nil .nil) .nil)) (.node (gb 49 2) (.node (gb 100 3) (.node (gb 203 0) .nil .nil) (.node (o1694 P) .nil .nil)) (.node (gb 151 4) (.node (gb 254 1) .nil .nil) .nil))) (.node (gb 11 0) (.node (gb 36 3) (.node (gb 87 4) (.node (gb 190 1) .nil .nil) (.node (o1630 P) .nil .nil)) (.node (gb 139 0) (.node (gb 241 2) .nil .nil) .nil)) (.node (gb 62 1) (.node (gb 113 2) (.node (gb 215 4) .nil .nil) (.node (o1758 P) .nil .nil)) (.node (gb 164 3) (.node (o1502 P) .nil .nil) .nil)))) (.node (o126 P) (.node (gb 4 3) (.node (gb 30 1) (.node (gb 81 2) (.node (gb 183 4) .nil .nil) (.node (o1598 P) .nil .nil)) (.node (gb 132 3) (.node (gb 235 0) .nil .nil) .nil)) (.node (gb 55 4) (.node (gb 107 0) (.node (gb 209 2) .nil .nil) (.node (o1726 P) .nil .nil)) (.node (gb 158 1) (.node (o1470 P) .nil .nil) .nil))) (.node (gb 17 2) (.node (gb 43 0) (.node (gb 94 1) (.node (gb 196 3) .nil .nil) (.node (o1662 P) .nil .nil)) (.node (gb 145 2) (.node (gb 247 4) .nil .nil) .nil)) (.node (gb 68 3) (.node (gb 119 4) (.node (gb 222 1) .nil .nil) .nil) (.node (gb 171 0) (.node (o1534 P) .nil .nil) .nil))))))
noncomputable def tr (P : Params) (a2 a3 a12 a31 a95 a138 a164 a165 a166 : Obj) : BT := (.node (o0 P) (.node (o1 P) (.node a3 (.node (o7 P) (.node (o15 P) (.node a31 (sub63 P) (.node a95 (sub159 P) (sub223 P))) (sub47 P)) (sub23 P)) (sub11 P)) (.node (o5 P) (sub9 P) (.node (o13 P) (.node (o21 P) (.node (o37 P) (sub69 P) (.node (o101 P) (.node a165 (sub293 P) (sub421 P)) (sub229 P))) (sub53 P)) (sub29 P)))) (.node a2 (.node (o4 P) (sub8 P) (.node a12 (.node (o20 P) (.node (o36 P) (sub68 P) (.node (o100 P) (.node a164 (sub292 P) (sub420 P)) (sub228 P))) (sub52 P)) (sub28 P))) (.node (o6 P) (.node (o10 P) (sub18 P) (.node (o26 P) (.node (o42 P) (.node (o74 P) (.node a138 (sub266 P) (sub394 P)) (sub202 P)) (sub106 P)) (sub58 P))) (.node (o14 P) (.node (o22 P) (.node (o38 P) (sub70 P) (.node (o102 P) (.node a166 (sub294 P) (sub422 P)) (sub230 P))) (sub54 P)) (sub30 P)))))
noncomputable def glb (P : Params) : List DictEntry := [de P z2 166 .none, de P z3 167 .none, de P z4 168 (.builtin "__main__.__loader__#opaque"), de P z5 169 .none, de P z220 170 (.ref 6), de P z303 171 (.ref 4), de P z304 173 (.str z162 172), de P z305 174 .none, de P z164 193 (.ref 21), de P z168 215 (.ref 31), de P z172 243 (.ref 53), de P z180 271 (.ref 74), de P z183 299 (.ref 95), de P z185 330 (.ref 117), de P z189 358 (.ref 138), de P z192 389 (.ref 160), de P z306 1163 (.ref 1450), de P z195 1170 (.ref 1457), de P z197 1177 (.ref 1464), de P z198 1184 (.ref 1471), de P z200 1232 (.ref 1503), de P z307 1237 (.ref 1509), de P z210 1337 (.ref 1570), de P z308 1349 (.ref 1576), de P z226 1387 (.ref 1601), de P z309 1388 (.ref 1607), de P z229 1397 (.ref 1614), de P z231 1404 (.ref 1621), de P z232 1469 (.ref 1660), de P z246 1524 (.ref 1696), de P z256 1537 (.ref 1707), de P z262 1550 (.ref 1714), de P z265 1562 (.ref 1722), de P z310 1566 (.int 18446744073709551616 1565), de P z268 1575 (.ref 1729), de P z311 1579 (.int 184 1578), de P z274 1591 (.ref 1736), de P z282 1613 (.ref 1743), de P z283 1625 (.ref 1750), de P z285 1637 (.ref 1758), de P z286 1643 (.ref 1763), de P z289 1654 (.ref 1770), de P z299 1669 (.ref 1777), de P z301 1676 (.ref 1784), de P z302 1682 (.ref 1789)]
noncomputable def o3 (P : Params) (nm : Value) (m ep : Nat) : Obj := ⟨.type "dict", none, .dict ⟨de P z0 165 nm :: (glb P).take m⟩ ep, ⟨[]⟩⟩
noncomputable def kst : List Value := [(.int 1 0), (.int 0 0), (.ref 20), (.int 5 0), (.int 0 0), (.ref 27), (.int 7 0), (.int 0 0), (.ref 41), (.int 12 0), (.int 0 0), (.ref 62), (.int 17 0), (.int 0 0), (.ref 83), (.int 22 0), (.int 0 0), (.ref 104), (.int 32 0), (.int 0 0), (.ref 126), (.int 37 0), (.int 0 0), (.ref 147), (.int 49 0), (.int 0 0), (.ref 1456), (.int 51 0), (.int 0 0), (.ref 1463), (.int 53 0), (.int 0 0), (.ref 1470), (.int 56 0), (.int 0 0), (.ref 1477), (.int 86 0), (.int 0 0), (.ref 1516), (.int 120 0), (.int 0 0), (.ref 1583), (.int 141 0), (.int 0 0), (.ref 1613), (.int 143 0), (.int 0 0), (.ref 1620), (.int 145 0), (.int 0 0), (.ref 1627), (.int 187 0), (.int 0 0), (.ref 1670), (.int 219 0), (.int 0 0), (.ref 1706), (.int 236 0), (.int 0 0), (.ref 1713), (.int 245 0), (.int 0 0), (.ref 1721), (.int 255 0), (.int 0 0), (.ref 1728), (.int 264 0), (.int 0 0), (.ref 1735), (.int 292 0), (.int 0 0), (.ref 1742), (.int 314 0), (.int 0 0), (.ref 1749), (.int 317 0), (.int 0 0), (.ref 1757), (.int 325 0), (.int 0 0), (.ref 1762), (.int 337 0), (.int 0 0), (.ref 1769), (.int 339 0), (.int 0 0), (.ref 1776), (.int 352 0), (.int 0 0), (.ref 1783), (.int 357 0), (.int 0 0), (.ref 1788)]
noncomputable def o12 (m : Nat) : Obj := ⟨.none, none, .fields ⟨kst.take m⟩, ⟨[]⟩⟩
noncomputable def o2_0 (P : Params) : Obj := ⟨.none, none, (.dict ⟨[]⟩ 0), ⟨[]⟩⟩
noncomputable def o31_0 (P : Params) : Obj := ⟨(.type "type"), none, (.cls ⟨z168, [(.type "Exception")], [(.ref 31), (.type "Exception"), (.type "BaseException"), (.type "object")], 30, z168, true, [], [(.ref 53), (.ref 74), (.ref 95), (.ref 138)], false, none, false⟩), ⟨[some (.ref 22), none, some (.str z168 196), some (.str z168 204), some (.builtin "Exception.__new__"), some (.bool true)]⟩⟩
noncomputable def o95_0 (P : Params) : Obj := ⟨(.type "type"), none, (.cls ⟨z183, [(.ref 31)], [(.ref 95), (.ref 31), (.type "Exception"), (.type "BaseException"), (.type "object")], 94, z183, true, [], [(.ref 117)], false, none, false⟩), ⟨[some (.ref 77), none, some (.str z183 272), some (.str z183 280), some (.builtin "Exception.__new__"), some (.bool true)]⟩⟩
noncomputable def o138_0 (P : Params) : Obj := ⟨(.type "type"), none, (.cls ⟨z189, [(.ref 31)], [(.ref 138), (.ref 31), (.type "Exception"), (.type "BaseException"), (.type "object")], 137, z189, true, [], [(.ref 160)], false, none, false⟩), ⟨[some (.ref 120), none, some (.str z189 331), some (.str z189 339), some (.builtin "Exception.__new__"), some (.bool true)]⟩⟩
noncomputable def o164_0 (P : Params) : Obj := ⟨(.type "range_iterator"), none, (.fields ⟨[(.int 256 0), (.int 0 0), (.int 1 0)]⟩), ⟨[]⟩⟩
noncomputable def o165_0 (P : Params) : Obj := ⟨(.type "list"), none, (.seq ⟨[(.bytes ⟨[0]⟩ 397), (.bytes ⟨[1]⟩ 400), (.bytes ⟨[2]⟩ 403), (.bytes ⟨[3]⟩ 406), (.bytes ⟨[4]⟩ 409), (.bytes ⟨[5]⟩ 412), (.bytes ⟨[6]⟩ 415), (.bytes ⟨[7]⟩ 418), (.bytes ⟨[8]⟩ 421), (.bytes ⟨[9]⟩ 424), (.bytes ⟨[10]⟩ 427), (.bytes ⟨[11]⟩ 430), (.bytes ⟨[12]⟩ 433), (.bytes ⟨[13]⟩ 436), (.bytes ⟨[14]⟩ 439), (.bytes ⟨[15]⟩ 442), (.bytes ⟨[16]⟩ 445), (.bytes ⟨[17]⟩ 448), (.bytes ⟨[18]⟩ 451), (.bytes ⟨[19]⟩ 454), (.bytes ⟨[20]⟩ 457), (.bytes ⟨[21]⟩ 460), (.bytes ⟨[22]⟩ 463), (.bytes ⟨[23]⟩ 466), (.bytes ⟨[24]⟩ 469), (.bytes ⟨[25]⟩ 472), (.bytes ⟨[26]⟩ 475), (.bytes ⟨[27]⟩ 478), (.bytes ⟨[28]⟩ 481), (.bytes ⟨[29]⟩ 484), (.bytes ⟨[30]⟩ 487), (.bytes ⟨[31]⟩ 490), (.bytes ⟨[32]⟩ 493), (.bytes ⟨[33]⟩ 496), (.bytes ⟨[34]⟩ 499), (.bytes ⟨[35]⟩ 502), (.bytes ⟨[36]⟩ 505), (.bytes ⟨[37]⟩ 508), (.bytes ⟨[38]⟩ 511), (.bytes ⟨[39]⟩ 514), (.bytes ⟨[40]⟩ 517), (.bytes ⟨[41]⟩ 520), (.bytes ⟨[42]⟩ 523), (.bytes ⟨[43]⟩ 526), (.bytes ⟨[44]⟩ 529), (.bytes ⟨[45]⟩ 532), (.bytes ⟨[46]⟩ 535), (.bytes ⟨[47]⟩ 538), (.bytes ⟨[48]⟩ 541), (.bytes ⟨[49]⟩ 544), (.bytes ⟨[50]⟩ 547), (.bytes ⟨[51]⟩ 550), (.bytes ⟨[52]⟩ 553), (.bytes ⟨[53]⟩ 556), (.bytes ⟨[54]⟩ 559), (.bytes ⟨[55]⟩ 562), (.bytes ⟨[56]⟩ 565), (.bytes ⟨[57]⟩ 568), (.bytes ⟨[58]⟩ 571), (.bytes ⟨[59]⟩ 574), (.bytes ⟨[60]⟩ 577), (.bytes ⟨[61]⟩ 580), (.bytes ⟨[62]⟩ 583), (.bytes ⟨[63]⟩ 586), (.bytes ⟨[64]⟩ 589), (.bytes ⟨[65]⟩ 592), (.bytes ⟨[66]⟩ 595), (.bytes ⟨[67]⟩ 598), (.bytes ⟨[68]⟩ 601), (.bytes ⟨[69]⟩ 604), (.bytes ⟨[70]⟩ 607), (.bytes ⟨[71]⟩ 610), (.bytes ⟨[72]⟩ 613), (.bytes ⟨[73]⟩ 616), (.bytes ⟨[74]⟩ 619), (.bytes ⟨[75]⟩ 622), (.bytes ⟨[76]⟩ 625), (.bytes ⟨[77]⟩ 628), (.bytes ⟨[78]⟩ 631), (.bytes ⟨[79]⟩ 634), (.bytes ⟨[80]⟩ 637), (.bytes ⟨[81]⟩ 640), (.bytes ⟨[82]⟩ 643), (.bytes ⟨[83]⟩ 646), (.bytes ⟨[84]⟩ 649), (.bytes ⟨[85]⟩ 652), (.bytes ⟨[86]⟩ 655), (.bytes ⟨[87]⟩ 658), (.bytes ⟨[88]⟩ 661), (.bytes ⟨[89]⟩ 664), (.bytes ⟨[90]⟩ 667), (.bytes ⟨[91]⟩ 670), (.bytes ⟨[92]⟩ 673), (.bytes ⟨[93]⟩ 676), (.bytes ⟨[94]⟩ 679), (.bytes ⟨[95]⟩ 682), (.bytes ⟨[96]⟩ 685), (.bytes ⟨[97]⟩ 688), (.bytes ⟨[98]⟩ 691), (.bytes ⟨[99]⟩ 694), (.bytes ⟨[100]⟩ 697), (.bytes ⟨[101]⟩ 700), (.bytes ⟨[102]⟩ 703), (.bytes ⟨[103]⟩ 706), (.bytes ⟨[104]⟩ 709), (.bytes ⟨[105]⟩ 712), (.bytes ⟨[106]⟩ 715), (.bytes ⟨[107]⟩ 718), (.bytes ⟨[108]⟩ 721), (.bytes ⟨[109]⟩ 724), (.bytes ⟨[110]⟩ 727), (.bytes ⟨[111]⟩ 730), (.bytes ⟨[112]⟩ 733), (.bytes ⟨[113]⟩ 736), (.bytes ⟨[114]⟩ 739), (.bytes ⟨[115]⟩ 742), (.bytes ⟨[116]⟩ 745), (.bytes ⟨[117]⟩ 748), (.bytes ⟨[118]⟩ 751), (.bytes ⟨[119]⟩ 754), (.bytes ⟨[120]⟩ 757), (.bytes ⟨[121]⟩ 760), (.bytes ⟨[122]⟩ 763), (.bytes ⟨[123]⟩ 766), (.bytes ⟨[124]⟩ 769), (.bytes ⟨[125]⟩ 772), (.bytes ⟨[126]⟩ 775), (.bytes ⟨[127]⟩ 778), (.bytes ⟨[128]⟩ 781), (.bytes ⟨[129]⟩ 784), (.bytes ⟨[130]⟩ 787), (.bytes ⟨[131]⟩ 790), (.bytes ⟨[132]⟩ 793), (.bytes ⟨[133]⟩ 796), (.bytes ⟨[134]⟩ 799), (.bytes ⟨[135]⟩ 802), (.bytes ⟨[136]⟩ 805), (.bytes ⟨[137]⟩ 808), (.bytes ⟨[138]⟩ 811), (.bytes ⟨[139]⟩ 814), (.bytes ⟨[140]⟩ 817), (.bytes ⟨[141]⟩ 820), (.bytes ⟨[142]⟩ 823), (.bytes ⟨[143]⟩ 826), (.bytes ⟨[144]⟩ 829), (.bytes ⟨[145]⟩ 832), (.bytes ⟨[146]⟩ 835), (.bytes ⟨[147]⟩ 838), (.bytes ⟨[148]⟩ 841), (.bytes ⟨[149]⟩ 844), (.bytes ⟨[150]⟩ 847), (.bytes ⟨[151]⟩ 850), (.bytes ⟨[152]⟩ 853), (.bytes ⟨[153]⟩ 856), (.bytes ⟨[154]⟩ 859), (.bytes ⟨[155]⟩ 862), (.bytes ⟨[156]⟩ 865), (.bytes ⟨[157]⟩ 868), (.bytes ⟨[158]⟩ 871), (.bytes ⟨[159]⟩ 874), (.bytes ⟨[160]⟩ 877), (.bytes ⟨[161]⟩ 880), (.bytes ⟨[162]⟩ 883), (.bytes ⟨[163]⟩ 886), (.bytes ⟨[164]⟩ 889), (.bytes ⟨[165]⟩ 892), (.bytes ⟨[166]⟩ 895), (.bytes ⟨[167]⟩ 898), (.bytes ⟨[168]⟩ 901), (.bytes ⟨[169]⟩ 904), (.bytes ⟨[170]⟩ 907), (.bytes ⟨[171]⟩ 910), (.bytes ⟨[172]⟩ 913), (.bytes ⟨[173]⟩ 916), (.bytes ⟨[174]⟩ 919), (.bytes ⟨[175]⟩ 922), (.bytes ⟨[176]⟩ 925), (.bytes ⟨[177]⟩ 928), (.bytes ⟨[178]⟩ 931), (.bytes ⟨[179]⟩ 934), (.bytes ⟨[180]⟩ 937), (.bytes ⟨[181]⟩ 940), (.bytes ⟨[182]⟩ 943), (.bytes ⟨[183]⟩ 946), (.bytes ⟨[184]⟩ 949), (.bytes ⟨[185]⟩ 952), (.bytes ⟨[186]⟩ 955), (.bytes ⟨[187]⟩ 958), (.bytes ⟨[188]⟩ 961), (.bytes ⟨[189]⟩ 964), (.bytes ⟨[190]⟩ 967), (.bytes ⟨[191]⟩ 970), (.bytes ⟨[192]⟩ 973), (.bytes ⟨[193]⟩ 976), (.bytes ⟨[194]⟩ 979), (.bytes ⟨[195]⟩ 982), (.bytes ⟨[196]⟩ 985), (.bytes ⟨[197]⟩ 988), (.bytes ⟨[198]⟩ 991), (.bytes ⟨[199]⟩ 994), (.bytes ⟨[200]⟩ 997), (.bytes ⟨[201]⟩ 1000), (.bytes ⟨[202]⟩ 1003), (.bytes ⟨[203]⟩ 1006), (.bytes ⟨[204]⟩ 1009), (.bytes ⟨[205]⟩ 1012), (.bytes ⟨[206]⟩ 1015), (.bytes ⟨[207]⟩ 1018), (.bytes ⟨[208]⟩ 1021), (.bytes ⟨[209]⟩ 1024), (.bytes ⟨[210]⟩ 1027), (.bytes ⟨[211]⟩ 1030), (.bytes ⟨[212]⟩ 1033), (.bytes ⟨[213]⟩ 1036), (.bytes ⟨[214]⟩ 1039), (.bytes ⟨[215]⟩ 1042), (.bytes ⟨[216]⟩ 1045), (.bytes ⟨[217]⟩ 1048), (.bytes ⟨[218]⟩ 1051), (.bytes ⟨[219]⟩ 1054), (.bytes ⟨[220]⟩ 1057), (.bytes ⟨[221]⟩ 1060), (.bytes ⟨[222]⟩ 1063), (.bytes ⟨[223]⟩ 1066), (.bytes ⟨[224]⟩ 1069), (.bytes ⟨[225]⟩ 1072), (.bytes ⟨[226]⟩ 1075), (.bytes ⟨[227]⟩ 1078), (.bytes ⟨[228]⟩ 1081), (.bytes ⟨[229]⟩ 1084), (.bytes ⟨[230]⟩ 1087), (.bytes ⟨[231]⟩ 1090), (.bytes ⟨[232]⟩ 1093), (.bytes ⟨[233]⟩ 1096), (.bytes ⟨[234]⟩ 1099), (.bytes ⟨[235]⟩ 1102), (.bytes ⟨[236]⟩ 1105), (.bytes ⟨[237]⟩ 1108), (.bytes ⟨[238]⟩ 1111), (.bytes ⟨[239]⟩ 1114), (.bytes ⟨[240]⟩ 1117), (.bytes ⟨[241]⟩ 1120), (.bytes ⟨[242]⟩ 1123), (.bytes ⟨[243]⟩ 1126), (.bytes ⟨[244]⟩ 1129), (.bytes ⟨[245]⟩ 1132), (.bytes ⟨[246]⟩ 1135), (.bytes ⟨[247]⟩ 1138), (.bytes ⟨[248]⟩ 1141), (.bytes ⟨[249]⟩ 1144), (.bytes ⟨[250]⟩ 1147), (.bytes ⟨[251]⟩ 1150), (.bytes ⟨[252]⟩ 1153), (.bytes ⟨[253]⟩ 1156), (.bytes ⟨[254]⟩ 1159), (.bytes ⟨[255]⟩ 1162)]⟩ 256), ⟨[]⟩⟩
noncomputable def o166_0 (P : Params) : Obj := ⟨(.type "dict"), none, (.dict ⟨[]⟩ 2), ⟨[]⟩⟩
noncomputable def T0 (P : Params) : BT := tr P (o2_0 P) (o3 P (.str z160 164) 8 9) (o12 0) (o31_0 P) (o95_0 P) (o138_0 P) (o164_0 P) (o165_0 P) (o166_0 P)
noncomputable def S0 (w : World) (os : OsState) : SharedT := ⟨T0 w.params, 15, boot_life, ⟨[]⟩, boot_drawn, 187, os⟩
noncomputable def T1 (P : Params) : BT := tr P (o2_0 P) (o3 P (.str z160 164) 9 10) (o12 3) (o31_0 P) (o95_0 P) (o138_0 P) (o164_0 P) (o165_0 P) (o166_0 P)
noncomputable def S1 (w : World) (os : OsState) : SharedT := ⟨T1 w.params, 22, boot_life, ⟨[]⟩, boot_drawn, 194, os⟩
noncomputable def T2 (P : Params) : BT := tr P (o2_0 P) (o3 P (.str z166 194) 9 10) (o12 3) (o31_0 P) (o95_0 P) (o138_0 P) (o164_0 P) (o165_0 P) (o166_0 P)
noncomputable def S2 (w : World) (os : OsState) : SharedT := ⟨T2 w.params, 22, boot_life, ⟨[]⟩, boot_drawn, 196, os⟩
noncomputable def o2_3 (P : Params) : Obj := ⟨.none, none, (.dict ⟨[de P z312 212 (.int 31 0), de P z313 213 (.int 1 0)]⟩ 2), ⟨[]⟩⟩
noncomputable def o31_3 (P : Params) : Obj := ⟨(.type "type"), none, (.cls ⟨z168, [(.type "Exception")], [(.ref 31), (.type "Exception"), (.type "BaseException"), (.type "object")], 30, z168, true, [], [], false, none, false⟩), ⟨[some (.ref 22), none, some (.str z168 196), some (.str z168 204), some (.builtin "Exception.__new__"), some (.bool true)]⟩⟩
noncomputable def T3 (P : Params) : BT := tr P (o2_3 P) (o3 P (.str z166 194) 10 11) (o12 6) (o31_3 P) (o95_0 P) (o138_0 P) (o164_0 P) (o165_0 P) (o166_0 P)
noncomputable def S3 (w : World) (os : OsState) : SharedT := ⟨T3 w.params, 35, boot_life, ⟨[]⟩, boot_drawn, 216, os⟩
noncomputable def o31_4 (P : Params) : Obj := ⟨(.type "type"), none, (.cls ⟨z168, [(.type "Exception")], [(.ref 31), (.type "Exception"), (.type "BaseException"), (.type "object")], 30, z168, true, [], [(.ref 53)], false, none, false⟩), ⟨[some (.ref 22), none, some (.str z168 196), some (.str z168 204), some (.builtin "Exception.__new__"), some (.bool true)]⟩⟩
noncomputable def T4 (P : Params) : BT := tr P (o2_3 P) (o3 P (.str z166 194) 11 12) (o12 9) (o31_4 P) (o95_0 P) (o138_0 P) (o164_0 P) (o165_0 P) (o166_0 P)
noncomputable def S4 (w : World) (os : OsState) : SharedT := ⟨T4 w.params, 56, boot_life, ⟨[]⟩, boot_drawn, 244, os⟩
noncomputable def o31_5 (P : Params) : Obj := ⟨(.type "type"), none, (.cls ⟨z168, [(.type "Exception")], [(.ref 31), (.type "Exception"), (.type "BaseException"), (.type "object")], 30, z168, true, [], [(.ref 53), (.ref 74)], false, none, false⟩), ⟨[some (.ref 22), none, some (.str z168 196), some (.str z168 204), some (.builtin "Exception.__new__"), some (.bool true)]⟩⟩
noncomputable def T5 (P : Params) : BT := tr P (o2_3 P) (o3 P (.str z166 194) 12 13) (o12 12) (o31_5 P) (o95_0 P) (o138_0 P) (o164_0 P) (o165_0 P) (o166_0 P)
noncomputable def S5 (w : World) (os : OsState) : SharedT := ⟨T5 w.params, 77, boot_life, ⟨[]⟩, boot_drawn, 272, os⟩
noncomputable def o31_6 (P : Params) : Obj := ⟨(.type "type"), none, (.cls ⟨z168, [(.type "Exception")], [(.ref 31), (.type "Exception"), (.type "BaseException"), (.type "object")], 30, z168, true, [], [(.ref 53), (.ref 74), (.ref 95)], false, none, false⟩), ⟨[some (.ref 22), none, some (.str z168 196), some (.str z168 204), some (.builtin "Exception.__new__"), some (.bool true)]⟩⟩
noncomputable def o95_6 (P : Params) : Obj := ⟨(.type "type"), none, (.cls ⟨z183, [(.ref 31)], [(.ref 95), (.ref 31), (.type "Exception"), (.type "BaseException"), (.type "object")], 94, z183, true, [], [], false, none, false⟩), ⟨[some (.ref 77), none, some (.str z183 272), some (.str z183 280), some (.builtin "Exception.__new__"), some (.bool true)]⟩⟩
noncomputable def T6 (P : Params) : BT := tr P (o2_3 P) (o3 P (.str z166 194) 13 14) (o12 15) (o31_6 P) (o95_6 P) (o138_0 P) (o164_0 P) (o165_0 P) (o166_0 P)
noncomputable def S6 (w : World) (os : OsState) : SharedT := ⟨T6 w.params, 98, boot_life, ⟨[]⟩, boot_drawn, 300, os⟩
noncomputable def T7 (P : Params) : BT := tr P (o2_3 P) (o3 P (.str z166 194) 14 15) (o12 18) (o31_6 P) (o95_0 P) (o138_0 P) (o164_0 P) (o165_0 P) (o166_0 P)
noncomputable def S7 (w : World) (os : OsState) : SharedT := ⟨T7 w.params, 120, boot_life, ⟨[]⟩, boot_drawn, 331, os⟩
noncomputable def o138_8 (P : Params) : Obj := ⟨(.type "type"), none, (.cls ⟨z189, [(.ref 31)], [(.ref 138), (.ref 31), (.type "Exception"), (.type "BaseException"), (.type "object")], 137, z189, true, [], [], false, none, false⟩), ⟨[some (.ref 120), none, some (.str z189 331), some (.str z189 339), some (.builtin "Exception.__new__"), some (.bool true)]⟩⟩
noncomputable def T8 (P : Params) : BT := tr P (o2_3 P) (o3 P (.str z166 194) 15 16) (o12 21) (o31_0 P) (o95_0 P) (o138_8 P) (o164_0 P) (o165_0 P) (o166_0 P)
noncomputable def S8 (w : World) (os : OsState) : SharedT := ⟨T8 w.params, 141, boot_life, ⟨[]⟩, boot_drawn, 359, os⟩
noncomputable def T9 (P : Params) : BT := tr P (o2_3 P) (o3 P (.str z166 194) 16 17) (o12 24) (o31_0 P) (o95_0 P) (o138_0 P) (o164_0 P) (o165_0 P) (o166_0 P)
noncomputable def S9 (w : World) (os : OsState) : SharedT := ⟨T9 w.params, 163, boot_life, ⟨[]⟩, boot_drawn, 390, os⟩
noncomputable def T10 (P : Params) : BT := tr P (o2_3 P) (o3 P (.str z196 390) 16 17) (o12 24) (o31_0 P) (o95_0 P) (o138_0 P) (o164_0 P) (o165_0 P) (o166_0 P)
noncomputable def S10 (w : World) (os : OsState) : SharedT := ⟨T10 w.params, 163, boot_life, ⟨[]⟩, boot_drawn, 392, os⟩
noncomputable def T11 (P : Params) : BT := tr P (o2_3 P) (o3 P (.str z196 390) 17 18) (o12 24) (o31_0 P) (o95_0 P) (o138_0 P) (o164_0 P) (o165_0 P) (o166_0 P)
noncomputable def S11 (w : World) (os : OsState) : SharedT := ⟨T11 w.params, 1451, boot_life, ⟨[]⟩, boot_drawn, 1164, os⟩
noncomputable def T12 (P : Params) : BT := tr P (o2_3 P) (o3 P (.str z196 390) 18 19) (o12 27) (o31_0 P) (o95_0 P) (o138_0 P) (o164_0 P) (o165_0 P) (o166_0 P)
noncomputable def S12 (w : World) (os : OsState) : SharedT := ⟨T12 w.params, 1458, boot_life, ⟨[]⟩, boot_drawn, 1171, os⟩
noncomputable def T13 (P : Params) : BT := tr P (o2_3 P) (o3 P (.str z196 390) 19 20) (o12 30) (o31_0 P) (o95_0 P) (o138_0 P) (o164_0 P) (o165_0 P) (o166_0 P)
noncomputable def S13 (w : World) (os : OsState) : SharedT := ⟨T13 w.params, 1465, boot_life, ⟨[]⟩, boot_drawn, 1178, os⟩
noncomputable def T14 (P : Params) : BT := tr P (o2_3 P) (o3 P (.str z196 390) 20 21) (o12 33) (o31_0 P) (o95_0 P) (o138_0 P) (o164_0 P) (o165_0 P) (o166_0 P)
noncomputable def S14 (w : World) (os : OsState) : SharedT := ⟨T14 w.params, 1472, boot_life, ⟨[]⟩, boot_drawn, 1185, os⟩
noncomputable def T15 (P : Params) : BT := tr P (o2_3 P) (o3 P (.str z199 1185) 20 21) (o12 33) (o31_0 P) (o95_0 P) (o138_0 P) (o164_0 P) (o165_0 P) (o166_0 P)
noncomputable def S15 (w : World) (os : OsState) : SharedT := ⟨T15 w.params, 1472, boot_life, ⟨[]⟩, boot_drawn, 1187, os⟩
noncomputable def T16 (P : Params) : BT := tr P (o2_3 P) (o3 P (.str z199 1185) 21 22) (o12 36) (o31_0 P) (o95_0 P) (o138_0 P) (o164_0 P) (o165_0 P) (o166_0 P)
noncomputable def S16 (w : World) (os : OsState) : SharedT := ⟨T16 w.params, 1508, boot_life, ⟨[]⟩, boot_drawn, 1233, os⟩
noncomputable def T17 (P : Params) : BT := tr P (o2_3 P) (o3 P (.str z199 1185) 22 23) (o12 36) (o31_0 P) (o95_0 P) (o138_0 P) (o164_0 P) (o165_0 P) (o166_0 P)
noncomputable def S17 (w : World) (os : OsState) : SharedT := ⟨T17 w.params, 1511, boot_life, ⟨[]⟩, boot_drawn, 1238, os⟩
noncomputable def T18 (P : Params) : BT := tr P (o2_3 P) (o3 P (.str z209 1238) 22 23) (o12 36) (o31_0 P) (o95_0 P) (o138_0 P) (o164_0 P) (o165_0 P) (o166_0 P)
noncomputable def S18 (w : World) (os : OsState) : SharedT := ⟨T18 w.params, 1511, boot_life, ⟨[]⟩, boot_drawn, 1240, os⟩
noncomputable def T19 (P : Params) : BT := tr P (o2_3 P) (o3 P (.str z209 1238) 23 24) (o12 39) (o31_0 P) (o95_0 P) (o138_0 P) (o164_0 P) (o165_0 P) (o166_0 P)
noncomputable def S19 (w : World) (os : OsState) : SharedT := ⟨T19 w.params, 1575, boot_life, ⟨[]⟩, boot_drawn, 1338, os⟩
noncomputable def T20 (P : Params) : BT := tr P (o2_3 P) (o3 P (.str z209 1238) 24 25) (o12 39) (o31_0 P) (o95_0 P) (o138_0 P) (o164_0 P) (o165_0 P) (o166_0 P)
noncomputable def S20 (w : World) (os : OsState) : SharedT := ⟨T20 w.params, 1578, boot_life, ⟨[]⟩, boot_drawn, 1350, os⟩
noncomputable def T21 (P : Params) : BT := tr P (o2_3 P) (o3 P (.str z225 1350) 24 25) (o12 39) (o31_0 P) (o95_0 P) (o138_0 P) (o164_0 P) (o165_0 P) (o166_0 P)
noncomputable def S21 (w : World) (os : OsState) : SharedT := ⟨T21 w.params, 1578, boot_life, ⟨[]⟩, boot_drawn, 1352, os⟩
noncomputable def T22 (P : Params) : BT := tr P (o2_3 P) (o3 P (.str z225 1350) 25 26) (o12 42) (o31_0 P) (o95_0 P) (o138_0 P) (o164_0 P) (o165_0 P) (o166_0 P)
noncomputable def S22 (w : World) (os : OsState) : SharedT := ⟨T22 w.params, 1606, boot_life, ⟨[]⟩, boot_drawn, 1388, os⟩
noncomputable def T23 (P : Params) : BT := tr P (o2_3 P) (o3 P (.str z225 1350) 26 27) (o12 42) (o31_0 P) (o95_0 P) (o138_0 P) (o164_0 P) (o165_0 P) (o166_0 P)
noncomputable def S23 (w : World) (os : OsState) : SharedT := ⟨T23 w.params, 1608, boot_life, ⟨[]⟩, boot_drawn, 1389, os⟩
noncomputable def T24 (P : Params) : BT := tr P (o2_3 P) (o3 P (.str z230 1389) 26 27) (o12 42) (o31_0 P) (o95_0 P) (o138_0 P) (o164_0 P) (o165_0 P) (o166_0 P)
noncomputable def S24 (w : World) (os : OsState) : SharedT := ⟨T24 w.params, 1608, boot_life, ⟨[]⟩, boot_drawn, 1391, os⟩
noncomputable def T25 (P : Params) : BT := tr P (o2_3 P) (o3 P (.str z230 1389) 27 28) (o12 45) (o31_0 P) (o95_0 P) (o138_0 P) (o164_0 P) (o165_0 P) (o166_0 P)
noncomputable def S25 (w : World) (os : OsState) : SharedT := ⟨T25 w.params, 1615, boot_life, ⟨[]⟩, boot_drawn, 1398, os⟩
noncomputable def T26 (P : Params) : BT := tr P (o2_3 P) (o3 P (.str z230 1389) 28 29) (o12 48) (o31_0 P) (o95_0 P) (o138_0 P) (o164_0 P) (o165_0 P) (o166_0 P)
noncomputable def S26 (w : World) (os : OsState) : SharedT := ⟨T26 w.params, 1622, boot_life, ⟨[]⟩, boot_drawn, 1405, os⟩
noncomputable def T27 (P : Params) : BT := tr P (o2_3 P) (o3 P (.str z230 1389) 29 30) (o12 51) (o31_0 P) (o95_0 P) (o138_0 P) (o164_0 P) (o165_0 P) (o166_0 P)
noncomputable def S27 (w : World) (os : OsState) : SharedT := ⟨T27 w.params, 1665, boot_life, ⟨[]⟩, boot_drawn, 1470, os⟩
noncomputable def T28 (P : Params) : BT := tr P (o2_3 P) (o3 P (.str z230 1389) 30 31) (o12 54) (o31_0 P) (o95_0 P) (o138_0 P) (o164_0 P) (o165_0 P) (o166_0 P)
noncomputable def S28 (w : World) (os : OsState) : SharedT := ⟨T28 w.params, 1701, boot_life, ⟨[]⟩, boot_drawn, 1525, os⟩
noncomputable def T29 (P : Params) : BT := tr P (o2_3 P) (o3 P (.str z257 1525) 30 31) (o12 54) (o31_0 P) (o95_0 P) (o138_0 P) (o164_0 P) (o165_0 P) (o166_0 P)
noncomputable def S29 (w : World) (os : OsState) : SharedT := ⟨T29 w.params, 1701, boot_life, ⟨[]⟩, boot_drawn, 1527, os⟩
noncomputable def T30 (P : Params) : BT := tr P (o2_3 P) (o3 P (.str z257 1525) 31 32) (o12 57) (o31_0 P) (o95_0 P) (o138_0 P) (o164_0 P) (o165_0 P) (o166_0 P)
noncomputable def S30 (w : World) (os : OsState) : SharedT := ⟨T30 w.params, 1708, boot_life, ⟨[]⟩, boot_drawn, 1538, os⟩
noncomputable def T31 (P : Params) : BT := tr P (o2_3 P) (o3 P (.str z257 1525) 32 33) (o12 60) (o31_0 P) (o95_0 P) (o138_0 P) (o164_0 P) (o165_0 P) (o166_0 P)
noncomputable def S31 (w : World) (os : OsState) : SharedT := ⟨T31 w.params, 1715, boot_life, ⟨[]⟩, boot_drawn, 1551, os⟩
noncomputable def T32 (P : Params) : BT := tr P (o2_3 P) (o3 P (.str z257 1525) 33 34) (o12 63) (o31_0 P) (o95_0 P) (o138_0 P) (o164_0 P) (o165_0 P) (o166_0 P)
noncomputable def S32 (w : World) (os : OsState) : SharedT := ⟨T32 w.params, 1723, boot_life, ⟨[]⟩, boot_drawn, 1563, os⟩
noncomputable def T33 (P : Params) : BT := tr P (o2_3 P) (o3 P (.str z257 1525) 34 35) (o12 63) (o31_0 P) (o95_0 P) (o138_0 P) (o164_0 P) (o165_0 P) (o166_0 P)
noncomputable def S33 (w : World) (os : OsState) : SharedT := ⟨T33 w.params, 1723, boot_life, ⟨[]⟩, boot_drawn, 1567, os⟩
noncomputable def T34 (P : Params) : BT := tr P (o2_3 P) (o3 P (.str z257 1525) 35 36) (o12 66) (o31_0 P) (o95_0 P) (o138_0 P) (o164_0 P) (o165_0 P) (o166_0 P)
noncomputable def S34 (w : World) (os : OsState) : SharedT := ⟨T34 w.params, 1730, boot_life, ⟨[]⟩, boot_drawn, 1576, os⟩
noncomputable def T35 (P : Params) : BT := tr P (o2_3 P) (o3 P (.str z257 1525) 36 37) (o12 66) (o31_0 P) (o95_0 P) (o138_0 P) (o164_0 P) (o165_0 P) (o166_0 P)
noncomputable def S35 (w : World) (os : OsState) : SharedT := ⟨T35 w.params, 1730, boot_life, ⟨[]⟩, boot_drawn, 1580, os⟩
noncomputable def T36 (P : Params) : BT := tr P (o2_3 P) (o3 P (.str z257 1525) 37 38) (o12 69) (o31_0 P) (o95_0 P) (o138_0 P) (o164_0 P) (o165_0 P) (o166_0 P)
noncomputable def S36 (w : World) (os : OsState) : SharedT := ⟨T36 w.params, 1737, boot_life, ⟨[]⟩, boot_drawn, 1592, os⟩
noncomputable def T37 (P : Params) : BT := tr P (o2_3 P) (o3 P (.str z257 1525) 38 39) (o12 72) (o31_0 P) (o95_0 P) (o138_0 P) (o164_0 P) (o165_0 P) (o166_0 P)
noncomputable def S37 (w : World) (os : OsState) : SharedT := ⟨T37 w.params, 1744, boot_life, ⟨[]⟩, boot_drawn, 1614, os⟩
noncomputable def T38 (P : Params) : BT := tr P (o2_3 P) (o3 P (.str z257 1525) 39 40) (o12 75) (o31_0 P) (o95_0 P) (o138_0 P) (o164_0 P) (o165_0 P) (o166_0 P)
noncomputable def S38 (w : World) (os : OsState) : SharedT := ⟨T38 w.params, 1751, boot_life, ⟨[]⟩, boot_drawn, 1626, os⟩
noncomputable def T39 (P : Params) : BT := tr P (o2_3 P) (o3 P (.str z257 1525) 40 41) (o12 78) (o31_0 P) (o95_0 P) (o138_0 P) (o164_0 P) (o165_0 P) (o166_0 P)
noncomputable def S39 (w : World) (os : OsState) : SharedT := ⟨T39 w.params, 1759, boot_life, ⟨[]⟩, boot_drawn, 1638, os⟩
noncomputable def T40 (P : Params) : BT := tr P (o2_3 P) (o3 P (.str z257 1525) 41 42) (o12 81) (o31_0 P) (o95_0 P) (o138_0 P) (o164_0 P) (o165_0 P) (o166_0 P)
noncomputable def S40 (w : World) (os : OsState) : SharedT := ⟨T40 w.params, 1764, boot_life, ⟨[]⟩, boot_drawn, 1644, os⟩
noncomputable def T41 (P : Params) : BT := tr P (o2_3 P) (o3 P (.str z290 1644) 41 42) (o12 81) (o31_0 P) (o95_0 P) (o138_0 P) (o164_0 P) (o165_0 P) (o166_0 P)
noncomputable def S41 (w : World) (os : OsState) : SharedT := ⟨T41 w.params, 1764, boot_life, ⟨[]⟩, boot_drawn, 1646, os⟩
noncomputable def T42 (P : Params) : BT := tr P (o2_3 P) (o3 P (.str z290 1644) 42 43) (o12 84) (o31_0 P) (o95_0 P) (o138_0 P) (o164_0 P) (o165_0 P) (o166_0 P)
noncomputable def S42 (w : World) (os : OsState) : SharedT := ⟨T42 w.params, 1771, boot_life, ⟨[]⟩, boot_drawn, 1655, os⟩
noncomputable def T43 (P : Params) : BT := tr P (o2_3 P) (o3 P (.str z290 1644) 43 44) (o12 87) (o31_0 P) (o95_0 P) (o138_0 P) (o164_0 P) (o165_0 P) (o166_0 P)
noncomputable def S43 (w : World) (os : OsState) : SharedT := ⟨T43 w.params, 1778, boot_life, ⟨[]⟩, boot_drawn, 1670, os⟩
noncomputable def T44 (P : Params) : BT := tr P (o2_3 P) (o3 P (.str z290 1644) 44 45) (o12 90) (o31_0 P) (o95_0 P) (o138_0 P) (o164_0 P) (o165_0 P) (o166_0 P)
noncomputable def S44 (w : World) (os : OsState) : SharedT := ⟨T44 w.params, 1785, boot_life, ⟨[]⟩, boot_drawn, 1677, os⟩
noncomputable def T45 (P : Params) : BT := tr P (o2_3 P) (o3 P (.str z290 1644) 45 46) (o12 93) (o31_0 P) (o95_0 P) (o138_0 P) (o164_0 P) (o165_0 P) (o166_0 P)
noncomputable def S45 (w : World) (os : OsState) : SharedT := ⟨T45 w.params, 1790, boot_life, ⟨[]⟩, boot_drawn, 1683, os⟩

noncomputable abbrev rT := @PySem.W.Fast.tw10110043849684766642
noncomputable abbrev tT := @PySem.W.Fast.tw14364793385576792824
theorem useT {w : World} {m : Nat} {ann : Option Value} {b n : Nat} {S : SharedT} {th : Thread} {X} (h : rT tT pw w m ann b n S th = X) : segRunT treeTable pw w m ann b n S th = X := by
  rw [PySem.W.Fast.te10110043849684766642, PySem.W.Fast.te14364793385576792824]; exact h
noncomputable def env0 : Env := { scope := pw.main.scope, locals := mainNs, globals := mainNs, cells := [], code := .ref 13, frame := some 14 }
abbrev cB : Code := .body (behindTheImports pw) env0
abbrev q0 : Pos := ⟨0, 0, 0, 0⟩
abbrev ann0 : Option Value := some (.ref 6)

noncomputable abbrev dT := @PySem.W.Fast.tw11892475500146522536
noncomputable abbrev gT := @PySem.W.Fast.tw10295753902157049106
noncomputable def accA : Nat → Array Value | 0 => ⟨[]⟩ | i + 1 => (accA i).push (.bytes ⟨[UInt8.ofNat i]⟩ (397 + 3 * i))
noncomputable def rit (i : Nat) : Obj := ⟨.type "range_iterator", none, .fields ⟨[.int (Int.ofNat i) 0, .int (Int.ofNat (256 - i)) 0, .int 1 0]⟩, ⟨[]⟩⟩
noncomputable def acc (i : Nat) : Obj := ⟨.type "list", none, .seq (accA i) i, ⟨[]⟩⟩
noncomputable def dct (P : Params) (i : Nat) : Obj := ⟨.type "dict", none, .dict ⟨[de P ⟨⟨[105]⟩⟩ 396 (.int (Int.ofNat (i - 1)) (392 + 3 * i))]⟩ 1, ⟨[]⟩⟩
noncomputable def TL (P : Params) (i : Nat) : BT := tr P (o2_3 P) (o3 P (.str z196 390) 16 17) (o12 24) (o31_0 P) (o95_0 P) (o138_0 P) (rit i) (acc i) (dct P i)
noncomputable def L (i : Nat) (w : World) (os : OsState) : SharedT := ⟨TL w.params i, 167 + 5 * i, boot_life, ⟨[]⟩, boot_drawn, 395 + 3 * i, os⟩
noncomputable def lcE : Expr := match st 10 with | .Assign _ (.Call _ (a :: _) _ _) _ => a | _ => .Name default default
noncomputable def lcS : Scope := ⟨.function, [(⟨⟨[46, 48]⟩⟩, .local), (⟨⟨[105]⟩⟩, .local), (⟨⟨[98, 121, 116, 101, 115]⟩⟩, .globalImplicit)], false, false, []⟩
noncomputable def lcV : Env := { scope := lcS, locals := 166, globals := 3, cells := [], code := .ref 13, frame := some 14 }
abbrev lcC : Code := .compLoop lcE 0 (.ref 164) (.ref 165) lcV
abbrev TH (k : Result → Sem Fin) : Thread := ⟨dT tT lcC, lcC, ⟨48, 19, 48, 29⟩, [.ret k none true [.ref 166, .ref 165] cB ⟨48, 39, 48, 49⟩ [], topFrame q0]⟩

abbrev bh : List Stmt := behindTheImports pw
theorem useG {w : World} {m : Nat} {ann : Option Value} {b n : Nat} {S S' : SharedT} {th th' : Thread} (h : gT tT pw w m ann b n S th = some (S', th')) : segGo treeTable pw w m ann b n S.abs th = some (S'.abs, th') :=
  segGo_of (by rw [PySem.W.Fast.te10295753902157049106, PySem.W.Fast.te14364793385576792824]; exact h)
abbrev TP (k : Result → Sem Fin) : Thread := TH k
theorem segGo_app {tb : String → Option Builtin} {p : Program} {w : World} {n₀ : Nat} {ann : Option Value} {b : Nat} : ∀ {n N : Nat} {s s' r : Shared} {t t' t'' : Thread}, segGo tb p w n₀ ann b n s t = some (s', t') →
    segGo tb p w n₀ ann b N s' t' = some (r, t'') → segGo tb p w n₀ ann b (n + N) s t = some (r, t'')
  | 0, N, s, s', r, t, t', t'', h, k => by
    obtain ⟨rfl, rfl⟩ : s = s' ∧ t = t' := by simpa [segGo] using h
    rw [Nat.zero_add]; exact k
  | n + 1, N, s, s', r, t, t', t'', h, k => by
    rw [show n + 1 + N = n + N + 1 by omega]
    unfold segGo at h ⊢
    cases he : endAt b t with
    | some f => rw [he] at h; cases h
    | none =>
      rw [he] at h
      cases hk : stepOk n₀ ann t with
      | false => rw [hk] at h; cases h
      | true =>
        rw [hk] at h
        cases hs : step (denote tb) p w s t with
        | halt o s₂ => rw [hs] at h; cases h
        | go s₂ t₂ => rw [hs] at h; exact segGo_app h k
theorem g0 (w : World) (os : OsState) : (fun _ => rT tT pw w 11 ann0 1 497 (S0 w os) (piecesOf ((bh.drop 0).take 4) env0 cB (⟨0, 0, 0, 0⟩ : Pos) [topFrame q0])) ((#[some (Flow.next, S4 w os, cB, (⟨7, 0, 11, 22⟩ : Pos))])[0]?) = some (Flow.next, S4 w os, cB, (⟨7, 0, 11, 22⟩ : Pos)) := by k_slotget
theorem g4 (w : World) (os : OsState) : (fun _ => rT tT pw w 11 ann0 1 525 (S4 w os) (piecesOf ((bh.drop 4).take 2) env0 cB (⟨7, 0, 11, 22⟩ : Pos) [topFrame q0])) ((#[some (Flow.next, S6 w os, cB, (⟨17, 0, 21, 22⟩ : Pos))])[0]?) = some (Flow.next, S6 w os, cB, (⟨17, 0, 21, 22⟩ : Pos)) := by k_slotget
theorem g6 (w : World) (os : OsState) : (fun _ => rT tT pw w 11 ann0 1 543 (S6 w os) (piecesOf ((bh.drop 6).take 2) env0 cB (⟨17, 0, 21, 22⟩ : Pos) [topFrame q0])) ((#[some (Flow.next, S8 w os, cB, (⟨32, 0, 36, 28⟩ : Pos))])[0]?) = some (Flow.next, S8 w os, cB, (⟨32, 0, 36, 28⟩ : Pos)) := by k_slotget
theorem g8 (w : World) (os : OsState) : (fun _ => rT tT pw w 11 ann0 1 290 (S8 w os) (piecesOf ((bh.drop 8).take 2) env0 cB (⟨32, 0, 36, 28⟩ : Pos) [topFrame q0])) ((#[some (Flow.next, S10 w os, cB, (⟨47, 0, 47, 8⟩ : Pos))])[0]?) = some (Flow.next, S10 w os, cB, (⟨47, 0, 47, 8⟩ : Pos)) := by k_slotget
theorem g11 (w : World) (os : OsState) : (fun _ => rT tT pw w 11 ann0 1 492 (S11 w os) (piecesOf ((bh.drop 11).take 7) env0 cB (⟨48, 0, 48, 9⟩ : Pos) [topFrame q0])) ((#[some (Flow.next, S18 w os, cB, (⟨85, 0, 85, 8⟩ : Pos))])[0]?) = some (Flow.next, S18 w os, cB, (⟨85, 0, 85, 8⟩ : Pos)) := by k_slotget
theorem g18 (w : World) (os : OsState) : (fun _ => rT tT pw w 11 ann0 1 654 (S18 w os) (piecesOf ((bh.drop 18).take 1) env0 cB (⟨85, 0, 85, 8⟩ : Pos) [topFrame q0])) ((#[some (Flow.next, S19 w os, cB, (⟨86, 0, 117, 75⟩ : Pos))])[0]?) = some (Flow.next, S19 w os, cB, (⟨86, 0, 117, 75⟩ : Pos)) := by k_slotget
theorem g19 (w : World) (os : OsState) : (fun _ => rT tT pw w 11 ann0 1 551 (S19 w os) (piecesOf ((bh.drop 19).take 7) env0 cB (⟨86, 0, 117, 75⟩ : Pos) [topFrame q0])) ((#[some (Flow.next, S26 w os, cB, (⟨143, 0, 144, 41⟩ : Pos))])[0]?) = some (Flow.next, S26 w os, cB, (⟨143, 0, 144, 41⟩ : Pos)) := by k_slotget
theorem g26 (w : World) (os : OsState) : (fun _ => rT tT pw w 11 ann0 1 332 (S26 w os) (piecesOf ((bh.drop 26).take 1) env0 cB (⟨143, 0, 144, 41⟩ : Pos) [topFrame q0])) ((#[some (Flow.next, S27 w os, cB, (⟨145, 0, 186, 27⟩ : Pos))])[0]?) = some (Flow.next, S27 w os, cB, (⟨145, 0, 186, 27⟩ : Pos)) := by k_slotget
theorem g27 (w : World) (os : OsState) : (fun _ => rT tT pw w 11 ann0 1 549 (S27 w os) (piecesOf ((bh.drop 27).take 10) env0 cB (⟨145, 0, 186, 27⟩ : Pos) [topFrame q0])) ((#[some (Flow.next, S37 w os, cB, (⟨292, 0, 313, 60⟩ : Pos))])[0]?) = some (Flow.next, S37 w os, cB, (⟨292, 0, 313, 60⟩ : Pos)) := by k_slotget
theorem g37 (w : World) (os : OsState) : (fun _ => rT tT pw w 11 ann0 1 228 (S37 w os) (piecesOf ((bh.drop 37).take 8) env0 cB (⟨292, 0, 313, 60⟩ : Pos) [topFrame q0])) ((#[some (Flow.next, S45 w os, cB, (⟨357, 0, 374, 97⟩ : Pos))])[0]?) = some (Flow.next, S45 w os, cB, (⟨357, 0, 374, 97⟩ : Pos)) := by k_slotget
noncomputable def kA (n : Nat) (w : World) (os : OsState) : Result → Sem Fin := match gT tT pw w 11 ann0 1 n (S10 w os) (piecesOf ((bh.drop 10).take 1) env0 cB (⟨47, 0, 47, 8⟩ : Pos) [topFrame q0]) with
  | some (_, ⟨_, _, _, .ret k _ _ _ _ _ _ :: _⟩) => k
  | _ => fun _ => .unsupported ""
theorem c1_false (w : World) (os : OsState) (k : Result → Sem Fin) : (fun _ => gT tT pw (w.withFollow "special-get-raises" false) 11 ann0 1 1552 (L 1 (w.withFollow "special-get-raises" false) os) (TH k)) ((#[some (L 17 (w.withFollow "special-get-raises" false) os, TH k)])[0]?) = some (L 17 (w.withFollow "special-get-raises" false) os, TH k) := by k_slotget
theorem c17_false (w : World) (os : OsState) (k : Result → Sem Fin) : (fun _ => gT tT pw (w.withFollow "special-get-raises" false) 11 ann0 1 1552 (L 17 (w.withFollow "special-get-raises" false) os) (TH k)) ((#[some (L 33 (w.withFollow "special-get-raises" false) os, TH k)])[0]?) = some (L 33 (w.withFollow "special-get-raises" false) os, TH k) := by k_slotget
theorem c33_false (w : World) (os : OsState) (k : Result → Sem Fin) : (fun _ => gT tT pw (w.withFollow "special-get-raises" false) 11 ann0 1 1552 (L 33 (w.withFollow "special-get-raises" false) os) (TH k)) ((#[some (L 49 (w.withFollow "special-get-raises" false) os, TH k)])[0]?) = some (L 49 (w.withFollow "special-get-raises" false) os, TH k) := by k_slotget
theorem c49_false (w : World) (os : OsState) (k : Result → Sem Fin) : (fun _ => gT tT pw (w.withFollow "special-get-raises" false) 11 ann0 1 1552 (L 49 (w.withFollow "special-get-raises" false) os) (TH k)) ((#[some (L 65 (w.withFollow "special-get-raises" false) os, TH k)])[0]?) = some (L 65 (w.withFollow "special-get-raises" false) os, TH k) := by k_slotget
theorem c65_false (w : World) (os : OsState) (k : Result → Sem Fin) : (fun _ => gT tT pw (w.withFollow "special-get-raises" false) 11 ann0 1 1552 (L 65 (w.withFollow "special-get-raises" false) os) (TH k)) ((#[some (L 81 (w.withFollow "special-get-raises" false) os, TH k)])[0]?) = some (L 81 (w.withFollow "special-get-raises" false) os, TH k) := by k_slotget
theorem c81_false (w : World) (os : OsState) (k : Result → Sem Fin) : (fun _ => gT tT pw (w.withFollow "special-get-raises" false) 11 ann0 1 1552 (L 81 (w.withFollow "special-get-raises" false) os) (TH k)) ((#[some (L 97 (w.withFollow "special-get-raises" false) os, TH k)])[0]?) = some (L 97 (w.withFollow "special-get-raises" false) os, TH k) := by k_slotget
theorem c97_false (w : World) (os : OsState) (k : Result → Sem Fin) : (fun _ => gT tT pw (w.withFollow "special-get-raises" false) 11 ann0 1 1552 (L 97 (w.withFollow "special-get-raises" false) os) (TH k)) ((#[some (L 113 (w.withFollow "special-get-raises" false) os, TH k)])[0]?) = some (L 113 (w.withFollow "special-get-raises" false) os, TH k) := by k_slotget
theorem c113_false (w : World) (os : OsState) (k : Result → Sem Fin) : (fun _ => gT tT pw (w.withFollow "special-get-raises" false) 11 ann0 1 1552 (L 113 (w.withFollow "special-get-raises" false) os) (TH k)) ((#[some (L 129 (w.withFollow "special-get-raises" false) os, TH k)])[0]?) = some (L 129 (w.withFollow "special-get-raises" false) os, TH k) := by k_slotget
theorem c129_false (w : World) (os : OsState) (k : Result → Sem Fin) : (fun _ => gT tT pw (w.withFollow "special-get-raises" false) 11 ann0 1 1552 (L 129 (w.withFollow "special-get-raises" false) os) (TH k)) ((#[some (L 145 (w.withFollow "special-get-raises" false) os, TH k)])[0]?) = some (L 145 (w.withFollow "special-get-raises" false) os, TH k) := by k_slotget
theorem c145_false (w : World) (os : OsState) (k : Result → Sem Fin) : (fun _ => gT tT pw (w.withFollow "special-get-raises" false) 11 ann0 1 1552 (L 145 (w.withFollow "special-get-raises" false) os) (TH k)) ((#[some (L 161 (w.withFollow "special-get-raises" false) os, TH k)])[0]?) = some (L 161 (w.withFollow "special-get-raises" false) os, TH k) := by k_slotget
theorem c161_false (w : World) (os : OsState) (k : Result → Sem Fin) : (fun _ => gT tT pw (w.withFollow "special-get-raises" false) 11 ann0 1 1552 (L 161 (w.withFollow "special-get-raises" false) os) (TH k)) ((#[some (L 177 (w.withFollow "special-get-raises" false) os, TH k)])[0]?) = some (L 177 (w.withFollow "special-get-raises" false) os, TH k) := by k_slotget
theorem c177_false (w : World) (os : OsState) (k : Result → Sem Fin) : (fun _ => gT tT pw (w.withFollow "special-get-raises" false) 11 ann0 1 1552 (L 177 (w.withFollow "special-get-raises" false) os) (TH k)) ((#[some (L 193 (w.withFollow "special-get-raises" false) os, TH k)])[0]?) = some (L 193 (w.withFollow "special-get-raises" false) os, TH k) := by k_slotget
theorem c193_false (w : World) (os : OsState) (k : Result → Sem Fin) : (fun _ => gT tT pw (w.withFollow "special-get-raises" false) 11 ann0 1 1552 (L 193 (w.withFollow "special-get-raises" false) os) (TH k)) ((#[some (L 209 (w.withFollow "special-get-raises" false) os, TH k)])[0]?) = some (L 209 (w.withFollow "special-get-raises" false) os, TH k) := by k_slotget
theorem c209_false (w : World) (os : OsState) (k : Result → Sem Fin) : (fun _ => gT tT pw (w.withFollow "special-get-raises" false) 11 ann0 1 1552 (L 209 (w.withFollow "special-get-raises" false) os) (TH k)) ((#[some (L 225 (w.withFollow "special-get-raises" false) os, TH k)])[0]?) = some (L 225 (w.withFollow "special-get-raises" false) os, TH k) := by k_slotget
theorem c225_false (w : World) (os : OsState) (k : Result → Sem Fin) : (fun _ => gT tT pw (w.withFollow "special-get-raises" false) 11 ann0 1 1552 (L 225 (w.withFollow "special-get-raises" false) os) (TH k)) ((#[some (L 241 (w.withFollow "special-get-raises" false) os, TH k)])[0]?) = some (L 241 (w.withFollow "special-get-raises" false) os, TH k) := by k_slotget
theorem c241_false (w : World) (os : OsState) (k : Result → Sem Fin) : (fun _ => gT tT pw (w.withFollow "special-get-raises" false) 11 ann0 1 1455 (L 241 (w.withFollow "special-get-raises" false) os) (TH k)) ((#[some (L 256 (w.withFollow "special-get-raises" false) os, TH k)])[0]?) = some (L 256 (w.withFollow "special-get-raises" false) os, TH k) := by k_slotget
theorem loop_false (w : World) (os : OsState) (k : Result → Sem Fin) : segGo treeTable pw (w.withFollow "special-get-raises" false) 11 ann0 1 24735 (L 1 (w.withFollow "special-get-raises" false) os).abs (TP k) = some ((L 256 (w.withFollow "special-get-raises" false) os).abs, TP k) := by
  have h1 := useG (c1_false w os k)
  have h17 := useG (c17_false w os k)
  have h33 := useG (c33_false w os k)
  have h49 := useG (c49_false w os k)
  have h65 := useG (c65_false w os k)
  have h81 := useG (c81_false w os k)
  have h97 := useG (c97_false w os k)
  have h113 := useG (c113_false w os k)
  have h129 := useG (c129_false w os k)
  have h145 := useG (c145_false w os k)
  have h161 := useG (c161_false w os k)
  have h177 := useG (c177_false w os k)
  have h193 := useG (c193_false w os k)
  have h209 := useG (c209_false w os k)
  have h225 := useG (c225_false w os k)
  have h241 := useG (c241_false w os k)
  exact (segGo_app h1 (segGo_app h17 (segGo_app h33 (segGo_app h49 (segGo_app h65 (segGo_app h81 (segGo_app h97 (segGo_app h113 (segGo_app h129 (segGo_app h145 (segGo_app h161 (segGo_app h177 (segGo_app h193 (segGo_app h209 (segGo_app h225 h241)))))))))))))))
theorem a_false_false (w : World) (os : OsState) : (fun _ => gT tT pw ((w.withFollow "comprehension-iter-twice" false).withFollow "special-get-raises" false) 11 ann0 1 152 (S10 ((w.withFollow "comprehension-iter-twice" false).withFollow "special-get-raises" false) os) (piecesOf ((bh.drop 10).take 1) env0 cB (⟨47, 0, 47, 8⟩ : Pos) [topFrame q0])) ((#[some (L 1 ((w.withFollow "comprehension-iter-twice" false).withFollow "special-get-raises" false) os, TH (kA 152 ((w.withFollow "comprehension-iter-twice" false).withFollow "special-get-raises" false) os))])[0]?) = some (L 1 ((w.withFollow "comprehension-iter-twice" false).withFollow "special-get-raises" false) os, TH (kA 152 ((w.withFollow "comprehension-iter-twice" false).withFollow "special-get-raises" false) os)) := by k_slotget
theorem z_false_false (w : World) (os : OsState) : (fun _ => rT tT pw ((w.withFollow "comprehension-iter-twice" false).withFollow "special-get-raises" false) 11 ann0 1 56 (L 256 ((w.withFollow "comprehension-iter-twice" false).withFollow "special-get-raises" false) os) (TH (kA 152 ((w.withFollow "comprehension-iter-twice" false).withFollow "special-get-raises" false) os))) ((#[some (Flow.next, S11 ((w.withFollow "comprehension-iter-twice" false).withFollow "special-get-raises" false) os, cB, (⟨48, 0, 48, 9⟩ : Pos))])[0]?) = some (Flow.next, S11 ((w.withFollow "comprehension-iter-twice" false).withFollow "special-get-raises" false) os, cB, (⟨48, 0, 48, 9⟩ : Pos)) := by k_slotget
theorem a_true_false (w : World) (os : OsState) : (fun _ => gT tT pw ((w.withFollow "comprehension-iter-twice" true).withFollow "special-get-raises" false) 11 ann0 1 142 (S10 ((w.withFollow "comprehension-iter-twice" true).withFollow "special-get-raises" false) os) (piecesOf ((bh.drop 10).take 1) env0 cB (⟨47, 0, 47, 8⟩ : Pos) [topFrame q0])) ((#[some (L 1 ((w.withFollow "comprehension-iter-twice" true).withFollow "special-get-raises" false) os, TH (kA 142 ((w.withFollow "comprehension-iter-twice" true).withFollow "special-get-raises" false) os))])[0]?) = some (L 1 ((w.withFollow "comprehension-iter-twice" true).withFollow "special-get-raises" false) os, TH (kA 142 ((w.withFollow "comprehension-iter-twice" true).withFollow "special-get-raises" false) os)) := by k_slotget
theorem z_true_false (w : World) (os : OsState) : (fun _ => rT tT pw ((w.withFollow "comprehension-iter-twice" true).withFollow "special-get-raises" false) 11 ann0 1 66 (L 256 ((w.withFollow "comprehension-iter-twice" true).withFollow "special-get-raises" false) os) (TH (kA 142 ((w.withFollow "comprehension-iter-twice" true).withFollow "special-get-raises" false) os))) ((#[some (Flow.next, S11 ((w.withFollow "comprehension-iter-twice" true).withFollow "special-get-raises" false) os, cB, (⟨48, 0, 48, 9⟩ : Pos))])[0]?) = some (Flow.next, S11 ((w.withFollow "comprehension-iter-twice" true).withFollow "special-get-raises" false) os, cB, (⟨48, 0, 48, 9⟩ : Pos)) := by k_slotget
theorem c1_true (w : World) (os : OsState) (k : Result → Sem Fin) : (fun _ => gT tT pw (w.withFollow "special-get-raises" true) 11 ann0 1 1552 (L 1 (w.withFollow "special-get-raises" true) os) (TH k)) ((#[some (L 17 (w.withFollow "special-get-raises" true) os, TH k)])[0]?) = some (L 17 (w.withFollow "special-get-raises" true) os, TH k) := by k_slotget
theorem c17_true (w : World) (os : OsState) (k : Result → Sem Fin) : (fun _ => gT tT pw (w.withFollow "special-get-raises" true) 11 ann0 1 1552 (L 17 (w.withFollow "special-get-raises" true) os) (TH k)) ((#[some (L 33 (w.withFollow "special-get-raises" true) os, TH k)])[0]?) = some (L 33 (w.withFollow "special-get-raises" true) os, TH k) := by k_slotget
theorem c33_true (w : World) (os : OsState) (k : Result → Sem Fin) : (fun _ => gT tT pw (w.withFollow "special-get-raises" true) 11 ann0 1 1552 (L 33 (w.withFollow "special-get-raises" true) os) (TH k)) ((#[some (L 49 (w.withFollow "special-get-raises" true) os, TH k)])[0]?) = some (L 49 (w.withFollow "special-get-raises" true) os, TH k) := by k_slotget
theorem c49_true (w : World) (os : OsState) (k : Result → Sem Fin) : (fun _ => gT tT pw (w.withFollow "special-get-raises" true) 11 ann0 1 1552 (L 49 (w.withFollow "special-get-raises" true) os) (TH k)) ((#[some (L 65 (w.withFollow "special-get-raises" true) os, TH k)])[0]?) = some (L 65 (w.withFollow "special-get-raises" true) os, TH k) := by k_slotget
theorem c65_true (w : World) (os : OsState) (k : Result → Sem Fin) : (fun _ => gT tT pw (w.withFollow "special-get-raises" true) 11 ann0 1 1552 (L 65 (w.withFollow "special-get-raises" true) os) (TH k)) ((#[some (L 81 (w.withFollow "special-get-raises" true) os, TH k)])[0]?) = some (L 81 (w.withFollow "special-get-raises" true) os, TH k) := by k_slotget
theorem c81_true (w : World) (os : OsState) (k : Result → Sem Fin) : (fun _ => gT tT pw (w.withFollow "special-get-raises" true) 11 ann0 1 1552 (L 81 (w.withFollow "special-get-raises" true) os) (TH k)) ((#[some (L 97 (w.withFollow "special-get-raises" true) os, TH k)])[0]?) = some (L 97 (w.withFollow "special-get-raises" true) os, TH k) := by k_slotget
theorem c97_true (w : World) (os : OsState) (k : Result → Sem Fin) : (fun _ => gT tT pw (w.withFollow "special-get-raises" true) 11 ann0 1 1552 (L 97 (w.withFollow "special-get-raises" true) os) (TH k)) ((#[some (L 113 (w.withFollow "special-get-raises" true) os, TH k)])[0]?) = some (L 113 (w.withFollow "special-get-raises" true) os, TH k) := by k_slotget
theorem c113_true (w : World) (os : OsState) (k : Result → Sem Fin) : (fun _ => gT tT pw (w.withFollow "special-get-raises" true) 11 ann0 1 1552 (L 113 (w.withFollow "special-get-raises" true) os) (TH k)) ((#[some (L 129 (w.withFollow "special-get-raises" true) os, TH k)])[0]?) = some (L 129 (w.withFollow "special-get-raises" true) os, TH k) := by k_slotget
theorem c129_true (w : World) (os : OsState) (k : Result → Sem Fin) : (fun _ => gT tT pw (w.withFollow "special-get-raises" true) 11 ann0 1 1552 (L 129 (w.withFollow "special-get-raises" true) os) (TH k)) ((#[some (L 145 (w.withFollow "special-get-raises" true) os, TH k)])[0]?) = some (L 145 (w.withFollow "special-get-raises" true) os, TH k) := by k_slotget
theorem c145_true (w : World) (os : OsState) (k : Result → Sem Fin) : (fun _ => gT tT pw (w.withFollow "special-get-raises" true) 11 ann0 1 1552 (L 145 (w.withFollow "special-get-raises" true) os) (TH k)) ((#[some (L 161 (w.withFollow "special-get-raises" true) os, TH k)])[0]?) = some (L 161 (w.withFollow "special-get-raises" true) os, TH k) := by k_slotget
theorem c161_true (w : World) (os : OsState) (k : Result → Sem Fin) : (fun _ => gT tT pw (w.withFollow "special-get-raises" true) 11 ann0 1 1552 (L 161 (w.withFollow "special-get-raises" true) os) (TH k)) ((#[some (L 177 (w.withFollow "special-get-raises" true) os, TH k)])[0]?) = some (L 177 (w.withFollow "special-get-raises" true) os, TH k) := by k_slotget
theorem c177_true (w : World) (os : OsState) (k : Result → Sem Fin) : (fun _ => gT tT pw (w.withFollow "special-get-raises" true) 11 ann0 1 1552 (L 177 (w.withFollow "special-get-raises" true) os) (TH k)) ((#[some (L 193 (w.withFollow "special-get-raises" true) os, TH k)])[0]?) = some (L 193 (w.withFollow "special-get-raises" true) os, TH k) := by k_slotget
theorem c193_true (w : World) (os : OsState) (k : Result → Sem Fin) : (fun _ => gT tT pw (w.withFollow "special-get-raises" true) 11 ann0 1 1552 (L 193 (w.withFollow "special-get-raises" true) os) (TH k)) ((#[some (L 209 (w.withFollow "special-get-raises" true) os, TH k)])[0]?) = some (L 209 (w.withFollow "special-get-raises" true) os, TH k) := by k_slotget
theorem c209_true (w : World) (os : OsState) (k : Result → Sem Fin) : (fun _ => gT tT pw (w.withFollow "special-get-raises" true) 11 ann0 1 1552 (L 209 (w.withFollow "special-get-raises" true) os) (TH k)) ((#[some (L 225 (w.withFollow "special-get-raises" true) os, TH k)])[0]?) = some (L 225 (w.withFollow "special-get-raises" true) os, TH k) := by k_slotget
theorem c225_true (w : World) (os : OsState) (k : Result → Sem Fin) : (fun _ => gT tT pw (w.withFollow "special-get-raises" true) 11 ann0 1 1552 (L 225 (w.withFollow "special-get-raises" true) os) (TH k)) ((#[some (L 241 (w.withFollow "special-get-raises" true) os, TH k)])[0]?) = some (L 241 (w.withFollow "special-get-raises" true) os, TH k) := by k_slotget
theorem c241_true (w : World) (os : OsState) (k : Result → Sem Fin) : (fun _ => gT tT pw (w.withFollow "special-get-raises" true) 11 ann0 1 1455 (L 241 (w.withFollow "special-get-raises" true) os) (TH k)) ((#[some (L 256 (w.withFollow "special-get-raises" true) os, TH k)])[0]?) = some (L 256 (w.withFollow "special-get-raises" true) os, TH k) := by k_slotget
theorem loop_true (w : World) (os : OsState) (k : Result → Sem Fin) : segGo treeTable pw (w.withFollow "special-get-raises" true) 11 ann0 1 24735 (L 1 (w.withFollow "special-get-raises" true) os).abs (TP k) = some ((L 256 (w.withFollow "special-get-raises" true) os).abs, TP k) := by
  have h1 := useG (c1_true w os k)
  have h17 := useG (c17_true w os k)
  have h33 := useG (c33_true w os k)
  have h49 := useG (c49_true w os k)
  have h65 := useG (c65_true w os k)
  have h81 := useG (c81_true w os k)
  have h97 := useG (c97_true w os k)
  have h113 := useG (c113_true w os k)
  have h129 := useG (c129_true w os k)
  have h145 := useG (c145_true w os k)
  have h161 := useG (c161_true w os k)
  have h177 := useG (c177_true w os k)
  have h193 := useG (c193_true w os k)
  have h209 := useG (c209_true w os k)
  have h225 := useG (c225_true w os k)
  have h241 := useG (c241_true w os k)
  exact (segGo_app h1 (segGo_app h17 (segGo_app h33 (segGo_app h49 (segGo_app h65 (segGo_app h81 (segGo_app h97 (segGo_app h113 (segGo_app h129 (segGo_app h145 (segGo_app h161 (segGo_app h177 (segGo_app h193 (segGo_app h209 (segGo_app h225 h241)))))))))))))))
theorem a_false_true (w : World) (os : OsState) : (fun _ => gT tT pw ((w.withFollow "comprehension-iter-twice" false).withFollow "special-get-raises" true) 11 ann0 1 152 (S10 ((w.withFollow "comprehension-iter-twice" false).withFollow "special-get-raises" true) os) (piecesOf ((bh.drop 10).take 1) env0 cB (⟨47, 0, 47, 8⟩ : Pos) [topFrame q0])) ((#[some (L 1 ((w.withFollow "comprehension-iter-twice" false).withFollow "special-get-raises" true) os, TH (kA 152 ((w.withFollow "comprehension-iter-twice" false).withFollow "special-get-raises" true) os))])[0]?) = some (L 1 ((w.withFollow "comprehension-iter-twice" false).withFollow "special-get-raises" true) os, TH (kA 152 ((w.withFollow "comprehension-iter-twice" false).withFollow "special-get-raises" true) os)) := by k_slotget
theorem z_false_true (w : World) (os : OsState) : (fun _ => rT tT pw ((w.withFollow "comprehension-iter-twice" false).withFollow "special-get-raises" true) 11 ann0 1 56 (L 256 ((w.withFollow "comprehension-iter-twice" false).withFollow "special-get-raises" true) os) (TH (kA 152 ((w.withFollow "comprehension-iter-twice" false).withFollow "special-get-raises" true) os))) ((#[some (Flow.next, S11 ((w.withFollow "comprehension-iter-twice" false).withFollow "special-get-raises" true) os, cB, (⟨48, 0, 48, 9⟩ : Pos))])[0]?) = some (Flow.next, S11 ((w.withFollow "comprehension-iter-twice" false).withFollow "special-get-raises" true) os, cB, (⟨48, 0, 48, 9⟩ : Pos)) := by k_slotget
theorem a_true_true (w : World) (os : OsState) : (fun _ => gT tT pw ((w.withFollow "comprehension-iter-twice" true).withFollow "special-get-raises" true) 11 ann0 1 142 (S10 ((w.withFollow "comprehension-iter-twice" true).withFollow "special-get-raises" true) os) (piecesOf ((bh.drop 10).take 1) env0 cB (⟨47, 0, 47, 8⟩ : Pos) [topFrame q0])) ((#[some (L 1 ((w.withFollow "comprehension-iter-twice" true).withFollow "special-get-raises" true) os, TH (kA 142 ((w.withFollow "comprehension-iter-twice" true).withFollow "special-get-raises" true) os))])[0]?) = some (L 1 ((w.withFollow "comprehension-iter-twice" true).withFollow "special-get-raises" true) os, TH (kA 142 ((w.withFollow "comprehension-iter-twice" true).withFollow "special-get-raises" true) os)) := by k_slotget
theorem z_true_true (w : World) (os : OsState) : (fun _ => rT tT pw ((w.withFollow "comprehension-iter-twice" true).withFollow "special-get-raises" true) 11 ann0 1 66 (L 256 ((w.withFollow "comprehension-iter-twice" true).withFollow "special-get-raises" true) os) (TH (kA 142 ((w.withFollow "comprehension-iter-twice" true).withFollow "special-get-raises" true) os))) ((#[some (Flow.next, S11 ((w.withFollow "comprehension-iter-twice" true).withFollow "special-get-raises" true) os, cB, (⟨48, 0, 48, 9⟩ : Pos))])[0]?) = some (Flow.next, S11 ((w.withFollow "comprehension-iter-twice" true).withFollow "special-get-raises" true) os, cB, (⟨48, 0, 48, 9⟩ : Pos)) := by k_slotget
end Mine
end
end

section
set_option maxRecDepth 100000
set_option maxHeartbeats 0
set_option linter.unusedVariables false
set_option Elab.async false
open PySem PySem.W PyProof.Rows
noncomputable section
namespace Mine
theorem st10_false_false (w : World) (os : OsState) : segRun treeTable pw ((w.withFollow "comprehension-iter-twice" false).withFollow "special-get-raises" false) 11 ann0 1 24943 (S10 ((w.withFollow "comprehension-iter-twice" false).withFollow "special-get-raises" false) os).abs (piecesOf ((bh.drop 10).take 1) env0 cB (⟨47, 0, 47, 8⟩ : Pos) [topFrame q0]) = some (Flow.next, (S11 ((w.withFollow "comprehension-iter-twice" false).withFollow "special-get-raises" false) os).abs, cB, (⟨48, 0, 48, 9⟩ : Pos)) :=
  seg_go (n := 152) (N := 24791) (useG (a_false_false w os)) (seg_go (n := 24735) (N := 56) (loop_false (w.withFollow "comprehension-iter-twice" false) os (kA 152 ((w.withFollow "comprehension-iter-twice" false).withFollow "special-get-raises" false) os)) (segRun_of (useT (z_false_false w os))))
theorem st10_true_false (w : World) (os : OsState) : segRun treeTable pw ((w.withFollow "comprehension-iter-twice" true).withFollow "special-get-raises" false) 11 ann0 1 24943 (S10 ((w.withFollow "comprehension-iter-twice" true).withFollow "special-get-raises" false) os).abs (piecesOf ((bh.drop 10).take 1) env0 cB (⟨47, 0, 47, 8⟩ : Pos) [topFrame q0]) = some (Flow.next, (S11 ((w.withFollow "comprehension-iter-twice" true).withFollow "special-get-raises" false) os).abs, cB, (⟨48, 0, 48, 9⟩ : Pos)) :=
  seg_go (n := 142) (N := 24801) (useG (a_true_false w os)) (seg_go (n := 24735) (N := 66) (loop_false (w.withFollow "comprehension-iter-twice" true) os (kA 142 ((w.withFollow "comprehension-iter-twice" true).withFollow "special-get-raises" false) os)) (segRun_of (useT (z_true_false w os))))
theorem st10_false_true (w : World) (os : OsState) : segRun treeTable pw ((w.withFollow "comprehension-iter-twice" false).withFollow "special-get-raises" true) 11 ann0 1 24943 (S10 ((w.withFollow "comprehension-iter-twice" false).withFollow "special-get-raises" true) os).abs (piecesOf ((bh.drop 10).take 1) env0 cB (⟨47, 0, 47, 8⟩ : Pos) [topFrame q0]) = some (Flow.next, (S11 ((w.withFollow "comprehension-iter-twice" false).withFollow "special-get-raises" true) os).abs, cB, (⟨48, 0, 48, 9⟩ : Pos)) :=
  seg_go (n := 152) (N := 24791) (useG (a_false_true w os)) (seg_go (n := 24735) (N := 56) (loop_true (w.withFollow "comprehension-iter-twice" false) os (kA 152 ((w.withFollow "comprehension-iter-twice" false).withFollow "special-get-raises" true) os)) (segRun_of (useT (z_false_true w os))))
theorem st10_true_true (w : World) (os : OsState) : segRun treeTable pw ((w.withFollow "comprehension-iter-twice" true).withFollow "special-get-raises" true) 11 ann0 1 24943 (S10 ((w.withFollow "comprehension-iter-twice" true).withFollow "special-get-raises" true) os).abs (piecesOf ((bh.drop 10).take 1) env0 cB (⟨47, 0, 47, 8⟩ : Pos) [topFrame q0]) = some (Flow.next, (S11 ((w.withFollow "comprehension-iter-twice" true).withFollow "special-get-raises" true) os).abs, cB, (⟨48, 0, 48, 9⟩ : Pos)) :=
  seg_go (n := 142) (N := 24801) (useG (a_true_true w os)) (seg_go (n := 24735) (N := 66) (loop_true (w.withFollow "comprehension-iter-twice" true) os (kA 142 ((w.withFollow "comprehension-iter-twice" true).withFollow "special-get-raises" true) os)) (segRun_of (useT (z_true_true w os))))
noncomputable def P10 (w : World) : Prop := ∀ os : OsState, segRun treeTable pw w 11 ann0 1 24943 (S10 w os).abs (piecesOf ((bh.drop 10).take 1) env0 cB (⟨47, 0, 47, 8⟩ : Pos) [topFrame q0]) = some (Flow.next, (S11 w os).abs, cB, (⟨48, 0, 48, 9⟩ : Pos))
theorem g10 (w : World) : P10 w :=
  byRow2 "special-get-raises" (P := P10)
    (fun w => byRow2 "comprehension-iter-twice" (P := fun v => P10 (v.withFollow "special-get-raises" false)) (fun w os => st10_false_false w os) (fun w os => st10_true_false w os) w)
    (fun w => byRow2 "comprehension-iter-twice" (P := fun v => P10 (v.withFollow "special-get-raises" true)) (fun w os => st10_false_true w os) (fun w os => st10_true_true w os) w) w

theorem pa {w : World} {n N : Nat} {s s' r : Shared} {pos p' : Pos} (a m c : Nat) (hc : a + m = c) (h : segRun treeTable pw w 11 ann0 1 n s (piecesOf ((bh.drop a).take m) env0 cB pos [topFrame q0]) = some (Flow.next, s', cB, p'))
    (k : topRun treeTable pw w 11 ann0 N s' (restOf (bh.drop c) env0 cB p' [topFrame q0]) = some r) : topRun treeTable pw w 11 ann0 (n + N) s (restOf (bh.drop a) env0 cB pos [topFrame q0]) = some r := by
  subst hc
  have e : bh.drop a = (bh.drop a).take m ++ bh.drop (a + m) := by rw [← List.drop_drop, List.take_append_drop]
  rw [e]
  exact piece_app h k
noncomputable abbrev tgT := @PySem.W.Fast.tw15667345088766844465
theorem pre0 (w : World) (os : OsState) : (fun _ => tgT tT pw w 11 ann0 12 ⟨boot_heap w.params, ⟨[]⟩, boot_drawn, boot_toks, os⟩ (topStub pw)) ((#[some ((S0 w os).abs, (⟨dT tT cB, cB, ⟨0, 0, 0, 0⟩, [topFrame q0]⟩ : Thread))])[0]?) = some ((S0 w os).abs, (⟨dT tT cB, cB, ⟨0, 0, 0, 0⟩, [topFrame q0]⟩ : Thread)) := by k_slotget
theorem pre1 (w : World) (os : OsState) : topGo treeTable pw w 11 ann0 12 ⟨boot_heap w.params, ⟨[]⟩, boot_drawn, boot_toks, os⟩ (topStub pw) = some ((S0 w os).abs, ⟨denote treeTable cB, cB, ⟨0, 0, 0, 0⟩, [topFrame q0]⟩) := by
  rw [PySem.W.Fast.te15667345088766844465, PySem.W.Fast.te14364793385576792824, PySem.W.Fast.te11892475500146522536]; exact pre0 w os
theorem blk (w : World) (os : OsState) : segRun treeTable pw w 11 ann0 1 1 (S0 w os).abs (blockOf bh env0 cB ⟨0, 0, 0, 0⟩ [topFrame q0]) = some (Flow.next, (S0 w os).abs, cB, (⟨0, 0, 0, 0⟩ : Pos)) := by kernel_rfl!
theorem fin (w : World) (os : OsState) : topRun treeTable pw w 11 ann0 2 (S45 w os).abs (restOf (bh.drop 45) env0 cB (⟨357, 0, 374, 97⟩ : Pos) [topFrame q0]) = some (S45 w os).abs := by kernel_rfl!
noncomputable def H1 (P : Params) : Heap := absHeap (T45 P) 1790 boot_life
theorem run0 (w : World) (os : OsState) : topRun treeTable pw w 11 ann0 29619 ⟨boot_heap w.params, ⟨[]⟩, boot_drawn, boot_toks, os⟩ (topStub pw) = some ⟨H1 w.params, ⟨[]⟩, boot_drawn, 1683, os⟩ :=
  go_top (n := 12) (N := 29607) (pre1 w os) (piece_block (n := 1) (N := 29606) (blk w os) (pa (n := 497) (N := 29109) 0 4 4 rfl (segRun_of (useT (g0 w os))) (pa (n := 525) (N := 28584) 4 2 6 rfl (segRun_of (useT (g4 w os))) (pa (n := 543) (N := 28041) 6 2 8 rfl (segRun_of (useT (g6 w os))) (pa (n := 290) (N := 27751) 8 2 10 rfl (segRun_of (useT (g8 w os))) (pa (n := 24943) (N := 2808) 10 1 11 rfl (g10 w os) (pa (n := 492) (N := 2316) 11 7 18 rfl (segRun_of (useT (g11 w os))) (pa (n := 654) (N := 1662) 18 1 19 rfl (segRun_of (useT (g18 w os))) (pa (n := 551) (N := 1111) 19 7 26 rfl (segRun_of (useT (g19 w os))) (pa (n := 332) (N := 779) 26 1 27 rfl (segRun_of (useT (g26 w os))) (pa (n := 549) (N := 230) 27 10 37 rfl (segRun_of (useT (g27 w os))) (pa (n := 228) (N := 2) 37 8 45 rfl (segRun_of (useT (g37 w os))) (fin w os)))))))))))))

end Mine
end
end

section
set_option maxRecDepth 100000
set_option maxHeartbeats 0
set_option linter.unusedVariables false
set_option Elab.async false
open PySem PySem.W PyProof.Rows
noncomputable section
namespace Mine

noncomputable def q : Program := view pw [0, 2, 3, 4, 5, 6, 7, 8, 10, 11, 12, 13, 15, 16, 18, 19, 21, 22, 24, 25, 26, 27, 29, 30, 32, 33, 34, 35, 36, 37, 39, 41, 42, 43, 44]
noncomputable def looseL : List Str := [Str.ofString "ListSerializationError", Str.ofString "ListDeserializationError", Str.ofString "ALL_BYTES", Str.ofString "big_endian_int", Str.ofString "Binary", Str.ofString "binary", Str.ofString "boolean", Str.ofString "encode", Str.ofString "LONG_LENGTH", Str.ofString "SHORT_STRING", Str.ofString "decode"]
noncomputable def K (P : Params) : Frag := (nat_lit 2, (o2_3 P)) :: (nat_lit 3, (o3 P (.str z290 1644) 45 46)) :: (nat_lit 15, (o15 P)) :: (nat_lit 17, (o17 P)) :: (nat_lit 18, (o18 P)) :: (nat_lit 20, (o20 P)) :: (nat_lit 21, (o21 P)) :: (nat_lit 22, (o22 P)) :: (nat_lit 29, (o29 P)) :: (nat_lit 30, (o30 P)) :: (nat_lit 31, (o31_0 P)) :: (nat_lit 32, (o32 P)) :: (nat_lit 35, (o35 P)) :: (nat_lit 38, (o38 P)) :: (nat_lit 43, (o43 P)) :: (nat_lit 44, (o44 P)) :: (nat_lit 46, (o46 P)) :: (nat_lit 47, (o47 P)) :: (nat_lit 49, (o49 P)) :: (nat_lit 50, (o50 P)) :: (nat_lit 51, (o51 P)) :: (nat_lit 52, (o52 P)) :: (nat_lit 53, (o53 P)) :: (nat_lit 56, (o56 P)) :: (nat_lit 59, (o59 P)) :: (nat_lit 64, (o64 P)) :: (nat_lit 65, (o65 P)) :: (nat_lit 67, (o67 P)) :: (nat_lit 68, (o68 P)) :: (nat_lit 70, (o70 P)) :: (nat_lit 71, (o71 P)) :: (nat_lit 72, (o72 P)) :: (nat_lit 73, (o73 P)) :: (nat_lit 74, (o74 P)) :: (nat_lit 77, (o77 P)) :: (nat_lit 80, (o80 P)) :: (nat_lit 85, (o85 P)) :: (nat_lit 86, (o86 P)) :: (nat_lit 88, (o88 P)) :: (nat_lit 89, (o89 P)) :: (nat_lit 91, (o91 P)) :: (nat_lit 92, (o92 P)) :: (nat_lit 93, (o93 P)) :: (nat_lit 94, (o94 P)) :: (nat_lit 95, (o95_0 P)) :: (nat_lit 98, (o98 P)) :: (nat_lit 101, (o101 P)) :: (nat_lit 106, (o106 P)) :: (nat_lit 107, (o107 P)) :: (nat_lit 108, (o108 P)) :: (nat_lit 110, (o110 P)) :: (nat_lit 111, (o111 P)) :: (nat_lit 113, (o113 P)) :: (nat_lit 114, (o114 P)) :: (nat_lit 115, (o115 P)) :: (nat_lit 116, (o116 P)) :: (nat_lit 117, (o117 P)) :: (nat_lit 120, (o120 P)) :: (nat_lit 123, (o123 P)) :: (nat_lit 128, (o128 P)) :: (nat_lit 129, (o129 P)) :: (nat_lit 131, (o131 P)) :: (nat_lit 132, (o132 P)) :: (nat_lit 134, (o134 P)) :: (nat_lit 135, (o135 P)) :: (nat_lit 136, (o136 P)) :: (nat_lit 137, (o137 P)) :: (nat_lit 138, (o138_0 P)) :: (nat_lit 141, (o141 P)) :: (nat_lit 144, (o144 P)) :: (nat_lit 149, (o149 P)) :: (nat_lit 150, (o150 P)) :: (nat_lit 151, (o151 P)) :: (nat_lit 153, (o153 P)) :: (nat_lit 154, (o154 P)) :: (nat_lit 156, (o156 P)) :: (nat_lit 157, (o157 P)) :: (nat_lit 158, (o158 P)) :: (nat_lit 159, (o159 P)) :: (nat_lit 160, (o160 P)) :: (nat_lit 1450, (o1450 P)) :: (nat_lit 1451, (o1451 P)) :: (nat_lit 1453, (o1453 P)) :: (nat_lit 1454, (o1454 P)) :: (nat_lit 1456, (o1456 P)) :: (nat_lit 1457, (o1457 P)) :: (nat_lit 1458, (o1458 P)) :: (nat_lit 1460, (o1460 P)) :: (nat_lit 1461, (o1461 P)) :: (nat_lit 1463, (o1463 P)) :: (nat_lit 1464, (o1464 P)) :: (nat_lit 1465, (o1465 P)) :: (nat_lit 1467, (o1467 P)) :: (nat_lit 1468, (o1468 P)) :: (nat_lit 1470, (o1470 P)) :: (nat_lit 1471, (o1471 P)) :: (nat_lit 1479, (o1479 P)) :: (nat_lit 1480, (o1480 P)) :: (nat_lit 1482, (o1482 P)) :: (nat_lit 1483, (o1483 P)) :: (nat_lit 1485, (o1485 P)) :: (nat_lit 1486, (o1486 P)) :: (nat_lit 1487, (o1487 P)) :: (nat_lit 1489, (o1489 P)) :: (nat_lit 1490, (o1490 P)) :: (nat_lit 1492, (o1492 P)) :: (nat_lit 1493, (o1493 P)) :: (nat_lit 1494, (o1494 P)) :: (nat_lit 1496, (o1496 P)) :: (nat_lit 1497, (o1497 P)) :: (nat_lit 1499, (o1499 P)) :: (nat_lit 1500, (o1500 P)) :: (nat_lit 1501, (o1501 P)) :: (nat_lit 1502, (o1502 P)) :: (nat_lit 1503, (o1503 P)) :: (nat_lit 1504, (o1504 P)) :: (nat_lit 1505, (o1505 P)) :: (nat_lit 1508, (o1508 P)) :: (nat_lit 1509, (o1509 P)) :: (nat_lit 1518, (o1518 P)) :: (nat_lit 1519, (o1519 P)) :: (nat_lit 1521, (o1521 P)) :: (nat_lit 1522, (o1522 P)) :: (nat_lit 1524, (o1524 P)) :: (nat_lit 1525, (o1525 P)) :: (nat_lit 1526, (o1526 P)) :: (nat_lit 1527, (o1527 P)) :: (nat_lit 1529, (o1529 P)) :: (nat_lit 1530, (o1530 P)) :: (nat_lit 1532, (o1532 P)) :: (nat_lit 1533, (o1533 P)) :: (nat_lit 1534, (o1534 P)) :: (nat_lit 1535, (o1535 P)) :: (nat_lit 1536, (o1536 P)) :: (nat_lit 1537, (o1537 P)) :: (nat_lit 1539, (o1539 P)) :: (nat_lit 1540, (o1540 P)) :: (nat_lit 1542, (o1542 P)) :: (nat_lit 1543, (o1543 P)) :: (nat_lit 1544, (o1544 P)) :: (nat_lit 1545, (o1545 P)) :: (nat_lit 1546, (o1546 P)) :: (nat_lit 1547, (o1547 P)) :: (nat_lit 1549, (o1549 P)) :: (nat_lit 1550, (o1550 P)) :: (nat_lit 1552, (o1552 P)) :: (nat_lit 1553, (o1553 P)) :: (nat_lit 1554, (o1554 P)) :: (nat_lit 1556, (o1556 P)) :: (nat_lit 1557, (o1557 P)) :: (nat_lit 1559, (o1559 P)) :: (nat_lit 1560, (o1560 P)) :: (nat_lit 1561, (o1561 P)) :: (nat_lit 1563, (o1563 P)) :: (nat_lit 1564, (o1564 P)) :: (nat_lit 1566, (o1566 P)) :: (nat_lit 1567, (o1567 P)) :: (nat_lit 1568, (o1568 P)) :: (nat_lit 1569, (o1569 P)) :: (nat_lit 1570, (o1570 P)) :: (nat_lit 1571, (o1571 P)) :: (nat_lit 1572, (o1572 P)) :: (nat_lit 1575, (o1575 P)) :: (nat_lit 1576, (o1576 P)) :: (nat_lit 1585, (o1585 P)) :: (nat_lit 1587, (o1587 P)) :: (nat_lit 1588, (o1588 P)) :: (nat_lit 1590, (o1590 P)) :: (nat_lit 1591, (o1591 P)) :: (nat_lit 1592, (o1592 P)) :: (nat_lit 1594, (o1594 P)) :: (nat_lit 1595, (o1595 P)) :: (nat_lit 1597, (o1597 P)) :: (nat_lit 1598, (o1598 P)) :: (nat_lit 1599, (o1599 P)) :: (nat_lit 1600, (o1600 P)) :: (nat_lit 1601, (o1601 P)) :: (nat_lit 1602, (o1602 P)) :: (nat_lit 1603, (o1603 P)) :: (nat_lit 1606, (o1606 P)) :: (nat_lit 1607, (o1607 P)) :: (nat_lit 1608, (o1608 P)) :: (nat_lit 1610, (o1610 P)) :: (nat_lit 1611, (o1611 P)) :: (nat_lit 1613, (o1613 P)) :: (nat_lit 1614, (o1614 P)) :: (nat_lit 1615, (o1615 P)) :: (nat_lit 1617, (o1617 P)) :: (nat_lit 1618, (o1618 P)) :: (nat_lit 1620, (o1620 P)) :: (nat_lit 1621, (o1621 P)) :: (nat_lit 1629, (o1629 P)) :: (nat_lit 1630, (o1630 P)) :: (nat_lit 1632, (o1632 P)) :: (nat_lit 1633, (o1633 P)) :: (nat_lit 1635, (o1635 P)) :: (nat_lit 1636, (o1636 P)) :: (nat_lit 1637, (o1637 P)) :: (nat_lit 1639, (o1639 P)) :: (nat_lit 1640, (o1640 P)) :: (nat_lit 1642, (o1642 P)) :: (nat_lit 1643, (o1643 P)) :: (nat_lit 1644, (o1644 P)) :: (nat_lit 1646, (o1646 P)) :: (nat_lit 1647, (o1647 P)) :: (nat_lit 1649, (o1649 P)) :: (nat_lit 1650, (o1650 P)) :: (nat_lit 1651, (o1651 P)) :: (nat_lit 1653, (o1653 P)) :: (nat_lit 1654, (o1654 P)) :: (nat_lit 1656, (o1656 P)) :: (nat_lit 1657, (o1657 P)) :: (nat_lit 1658, (o1658 P)) :: (nat_lit 1659, (o1659 P)) :: (nat_lit 1660, (o1660 P)) :: (nat_lit 1661, (o1661 P)) :: (nat_lit 1662, (o1662 P)) :: (nat_lit 1672, (o1672 P)) :: (nat_lit 1673, (o1673 P)) :: (nat_lit 1675, (o1675 P)) :: (nat_lit 1676, (o1676 P)) :: (nat_lit 1678, (o1678 P)) :: (nat_lit 1679, (o1679 P)) :: (nat_lit 1680, (o1680 P)) :: (nat_lit 1682, (o1682 P)) :: (nat_lit 1683, (o1683 P)) :: (nat_lit 1685, (o1685 P)) :: (nat_lit 1686, (o1686 P)) :: (nat_lit 1687, (o1687 P)) :: (nat_lit 1689, (o1689 P)) :: (nat_lit 1690, (o1690 P)) :: (nat_lit 1692, (o1692 P)) :: (nat_lit 1693, (o1693 P)) :: (nat_lit 1694, (o1694 P)) :: (nat_lit 1695, (o1695 P)) :: (nat_lit 1696, (o1696 P)) :: (nat_lit 1697, (o1697 P)) :: (nat_lit 1698, (o1698 P)) :: (nat_lit 1701, (o1701 P)) :: (nat_lit 1703, (o1703 P)) :: (nat_lit 1704, (o1704 P)) :: (nat_lit 1706, (o1706 P)) :: (nat_lit 1707, (o1707 P)) :: (nat_lit 1708, (o1708 P)) :: (nat_lit 1710, (o1710 P)) :: (nat_lit 1711, (o1711 P)) :: (nat_lit 1713, (o1713 P)) :: (nat_lit 1714, (o1714 P)) :: (nat_lit 1715, (o1715 P)) :: (nat_lit 1716, (o1716 P)) :: (nat_lit 1718, (o1718 P)) :: (nat_lit 1719, (o1719 P)) :: (nat_lit 1721, (o1721 P)) :: (nat_lit 1722, (o1722 P)) :: (nat_lit 1723, (o1723 P)) :: (nat_lit 1725, (o1725 P)) :: (nat_lit 1726, (o1726 P)) :: (nat_lit 1728, (o1728 P)) :: (nat_lit 1729, (o1729 P)) :: (nat_lit 1730, (o1730 P)) :: (nat_lit 1732, (o1732 P)) :: (nat_lit 1733, (o1733 P)) :: (nat_lit 1735, (o1735 P)) :: (nat_lit 1736, (o1736 P)) :: (nat_lit 1737, (o1737 P)) :: (nat_lit 1739, (o1739 P)) :: (nat_lit 1740, (o1740 P)) :: (nat_lit 1742, (o1742 P)) :: (nat_lit 1743, (o1743 P)) :: (nat_lit 1744, (o1744 P)) :: (nat_lit 1746, (o1746 P)) :: (nat_lit 1747, (o1747 P)) :: (nat_lit 1749, (o1749 P)) :: (nat_lit 1750, (o1750 P)) :: (nat_lit 1751, (o1751 P)) :: (nat_lit 1752, (o1752 P)) :: (nat_lit 1754, (o1754 P)) :: (nat_lit 1755, (o1755 P)) :: (nat_lit 1757, (o1757 P)) :: (nat_lit 1758, (o1758 P)) :: (nat_lit 1759, (o1759 P)) :: (nat_lit 1762, (o1762 P)) :: (nat_lit 1763, (o1763 P)) :: (nat_lit 1764, (o1764 P)) :: (nat_lit 1766, (o1766 P)) :: (nat_lit 1767, (o1767 P)) :: (nat_lit 1769, (o1769 P)) :: (nat_lit 1770, (o1770 P)) :: (nat_lit 1771, (o1771 P)) :: (nat_lit 1773, (o1773 P)) :: (nat_lit 1774, (o1774 P)) :: (nat_lit 1776, (o1776 P)) :: (nat_lit 1777, (o1777 P)) :: (nat_lit 1778, (o1778 P)) :: (nat_lit 1780, (o1780 P)) :: (nat_lit 1781, (o1781 P)) :: (nat_lit 1783, (o1783 P)) :: (nat_lit 1784, (o1784 P)) :: (nat_lit 1785, (o1785 P)) :: (nat_lit 1788, (o1788 P)) :: (nat_lit 1789, (o1789 P)) :: []
noncomputable def KA : List Addr := nat_lit 2 :: nat_lit 3 :: nat_lit 15 :: nat_lit 17 :: nat_lit 18 :: nat_lit 20 :: nat_lit 21 :: nat_lit 22 :: nat_lit 29 :: nat_lit 30 :: nat_lit 31 :: nat_lit 32 :: nat_lit 35 :: nat_lit 38 :: nat_lit 43 :: nat_lit 44 :: nat_lit 46 :: nat_lit 47 :: nat_lit 49 :: nat_lit 50 :: nat_lit 51 :: nat_lit 52 :: nat_lit 53 :: nat_lit 56 :: nat_lit 59 :: nat_lit 64 :: nat_lit 65 :: nat_lit 67 :: nat_lit 68 :: nat_lit 70 :: nat_lit 71 :: nat_lit 72 :: nat_lit 73 :: nat_lit 74 :: nat_lit 77 :: nat_lit 80 :: nat_lit 85 :: nat_lit 86 :: nat_lit 88 :: nat_lit 89 :: nat_lit 91 :: nat_lit 92 :: nat_lit 93 :: nat_lit 94 :: nat_lit 95 :: nat_lit 98 :: nat_lit 101 :: nat_lit 106 :: nat_lit 107 :: nat_lit 108 :: nat_lit 110 :: nat_lit 111 :: nat_lit 113 :: nat_lit 114 :: nat_lit 115 :: nat_lit 116 :: nat_lit 117 :: nat_lit 120 :: nat_lit 123 :: nat_lit 128 :: nat_lit 129 :: nat_lit 131 :: nat_lit 132 :: nat_lit 134 :: nat_lit 135 :: nat_lit 136 :: nat_lit 137 :: nat_lit 138 :: nat_lit 141 :: nat_lit 144 :: nat_lit 149 :: nat_lit 150 :: nat_lit 151 :: nat_lit 153 :: nat_lit 154 :: nat_lit 156 :: nat_lit 157 :: nat_lit 158 :: nat_lit 159 :: nat_lit 160 :: nat_lit 1450 :: nat_lit 1451 :: nat_lit 1453 :: nat_lit 1454 :: nat_lit 1456 :: nat_lit 1457 :: nat_lit 1458 :: nat_lit 1460 :: nat_lit 1461 :: nat_lit 1463 :: nat_lit 1464 :: nat_lit 1465 :: nat_lit 1467 :: nat_lit 1468 :: nat_lit 1470 :: nat_lit 1471 :: nat_lit 1479 :: nat_lit 1480 :: nat_lit 1482 :: nat_lit 1483 :: nat_lit 1485 :: nat_lit 1486 :: nat_lit 1487 :: nat_lit 1489 :: nat_lit 1490 :: nat_lit 1492 :: nat_lit 1493 :: nat_lit 1494 :: nat_lit 1496 :: nat_lit 1497 :: nat_lit 1499 :: nat_lit 1500 :: nat_lit 1501 :: nat_lit 1502 :: nat_lit 1503 :: nat_lit 1504 :: nat_lit 1505 :: nat_lit 1508 :: nat_lit 1509 :: nat_lit 1518 :: nat_lit 1519 :: nat_lit 1521 :: nat_lit 1522 :: nat_lit 1524 :: nat_lit 1525 :: nat_lit 1526 :: nat_lit 1527 :: nat_lit 1529 :: nat_lit 1530 :: nat_lit 1532 :: nat_lit 1533 :: nat_lit 1534 :: nat_lit 1535 :: nat_lit 1536 :: nat_lit 1537 :: nat_lit 1539 :: nat_lit 1540 :: nat_lit 1542 :: nat_lit 1543 :: nat_lit 1544 :: nat_lit 1545 :: nat_lit 1546 :: nat_lit 1547 :: nat_lit 1549 :: nat_lit 1550 :: nat_lit 1552 :: nat_lit 1553 :: nat_lit 1554 :: nat_lit 1556 :: nat_lit 1557 :: nat_lit 1559 :: nat_lit 1560 :: nat_lit 1561 :: nat_lit 1563 :: nat_lit 1564 :: nat_lit 1566 :: nat_lit 1567 :: nat_lit 1568 :: nat_lit 1569 :: nat_lit 1570 :: nat_lit 1571 :: nat_lit 1572 :: nat_lit 1575 :: nat_lit 1576 :: nat_lit 1585 :: nat_lit 1587 :: nat_lit 1588 :: nat_lit 1590 :: nat_lit 1591 :: nat_lit 1592 :: nat_lit 1594 :: nat_lit 1595 :: nat_lit 1597 :: nat_lit 1598 :: nat_lit 1599 :: nat_lit 1600 :: nat_lit 1601 :: nat_lit 1602 :: nat_lit 1603 :: nat_lit 1606 :: nat_lit 1607 :: nat_lit 1608 :: nat_lit 1610 :: nat_lit 1611 :: nat_lit 1613 :: nat_lit 1614 :: nat_lit 1615 :: nat_lit 1617 :: nat_lit 1618 :: nat_lit 1620 :: nat_lit 1621 :: nat_lit 1629 :: nat_lit 1630 :: nat_lit 1632 :: nat_lit 1633 :: nat_lit 1635 :: nat_lit 1636 :: nat_lit 1637 :: nat_lit 1639 :: nat_lit 1640 :: nat_lit 1642 :: nat_lit 1643 :: nat_lit 1644 :: nat_lit 1646 :: nat_lit 1647 :: nat_lit 1649 :: nat_lit 1650 :: nat_lit 1651 :: nat_lit 1653 :: nat_lit 1654 :: nat_lit 1656 :: nat_lit 1657 :: nat_lit 1658 :: nat_lit 1659 :: nat_lit 1660 :: nat_lit 1661 :: nat_lit 1662 :: nat_lit 1672 :: nat_lit 1673 :: nat_lit 1675 :: nat_lit 1676 :: nat_lit 1678 :: nat_lit 1679 :: nat_lit 1680 :: nat_lit 1682 :: nat_lit 1683 :: nat_lit 1685 :: nat_lit 1686 :: nat_lit 1687 :: nat_lit 1689 :: nat_lit 1690 :: nat_lit 1692 :: nat_lit 1693 :: nat_lit 1694 :: nat_lit 1695 :: nat_lit 1696 :: nat_lit 1697 :: nat_lit 1698 :: nat_lit 1701 :: nat_lit 1703 :: nat_lit 1704 :: nat_lit 1706 :: nat_lit 1707 :: nat_lit 1708 :: nat_lit 1710 :: nat_lit 1711 :: nat_lit 1713 :: nat_lit 1714 :: nat_lit 1715 :: nat_lit 1716 :: nat_lit 1718 :: nat_lit 1719 :: nat_lit 1721 :: nat_lit 1722 :: nat_lit 1723 :: nat_lit 1725 :: nat_lit 1726 :: nat_lit 1728 :: nat_lit 1729 :: nat_lit 1730 :: nat_lit 1732 :: nat_lit 1733 :: nat_lit 1735 :: nat_lit 1736 :: nat_lit 1737 :: nat_lit 1739 :: nat_lit 1740 :: nat_lit 1742 :: nat_lit 1743 :: nat_lit 1744 :: nat_lit 1746 :: nat_lit 1747 :: nat_lit 1749 :: nat_lit 1750 :: nat_lit 1751 :: nat_lit 1752 :: nat_lit 1754 :: nat_lit 1755 :: nat_lit 1757 :: nat_lit 1758 :: nat_lit 1759 :: nat_lit 1762 :: nat_lit 1763 :: nat_lit 1764 :: nat_lit 1766 :: nat_lit 1767 :: nat_lit 1769 :: nat_lit 1770 :: nat_lit 1771 :: nat_lit 1773 :: nat_lit 1774 :: nat_lit 1776 :: nat_lit 1777 :: nat_lit 1778 :: nat_lit 1780 :: nat_lit 1781 :: nat_lit 1783 :: nat_lit 1784 :: nat_lit 1785 :: nat_lit 1788 :: nat_lit 1789 :: []
abbrev rr : RowW := OpenRow.toRowW (OpenLaw.row PySem.Challenge.rw_bi0020_01)
theorem KAe (P : Params) : KA = (K P).map (·.1) := by kernel_rfl!
abbrev Hk : Hook := kHook K KA KAe
abbrev Xt : Shared → Bool := fun s => xlAt q [] s && recOk (RowW.records rr) s
theorem size0 (w : World) : ((boot_heap w.params).isNs mainGlobals && (⟨[]⟩ : Array GenState).size == 0, (boot_heap w.params).objs.size, (boot_heap w.params).nsMap mainGlobals "__annotations__") = (true, 11, ann0) := by kernel_rfl!
theorem bp0 (w : World) : (importEnds treeTable (opening pw) w 600 (start (opening pw)).1 (start (opening pw)).2).map (fun s => (s.heap, s.gens, s.drawn, s.toks)) = some (boot_heap w.params, ⟨[]⟩, boot_drawn, boot_toks) := by kernel_rfl!
theorem fence0 (s : Shared) : fenceModules? pw s = some s := by kernel_rfl!
theorem op0 (w : World) : (fencedOpening treeTable pw w 59238).map (fun s => (s.heap, s.gens, s.drawn, s.toks)) = some (boot_heap w.params, ⟨[]⟩, boot_drawn, boot_toks) := by
  obtain ⟨s, hs, hv⟩ := Option.map_eq_some_iff.mp (bp0 w)
  have m := importEnds_mono (59238 - 600) _ _ _ _ hs
  unfold fencedOpening
  rw [show 600 + (59238 - 600) = 59238 by decide] at m
  rw [m]
  show ((fenceModules? pw s)).map _ = _
  rw [fence0 s]
  exact congrArg some hv
abbrev osT := @PySem.W.Fast.tw4187177175401517315
abbrev md : List Str := importedModules pw.main.body
theorem look1 (w : World) : (fun _ => some (staticsOk md (boot_heap w.params) (H1 w.params), namesBound pw (H1 w.params), laidKept (boot_heap w.params) (H1 w.params))) ((#[some (true, true, true)])[0]?) = some (true, true, true) := by k_slotget
abbrev Sfin (w : World) (os : OsState) : Shared := ⟨H1 w.params, ⟨[]⟩, boot_drawn, 1683, os⟩
theorem getAll {t : BT} {n : Nat} {l : Life} : ∀ {K : Frag}, (K.all fun p => Nat.blt p.1 n) = true → (K.map fun p => t.get p.1) = K.map (fun p => some p.2) → (K.map fun p => alive p.2) = K.map (fun p => some p.2) → (K.map (·.1)).map (absHeap t n l).get? = K.map (fun p => some p.2)
  | [], _, _, _ => rfl
  | p :: K, h1, h2, h3 => by
    simp only [List.all_cons, Bool.and_eq_true, List.map_cons, List.cons.injEq] at h1 h2 h3 ⊢
    exact ⟨(abs_get (Nat.le_of_ble_eq_true h1.1) h2.1).trans h3.1, getAll h1.2 h2.2 h3.2⟩
theorem look4a (w : World) : (fun _ => some ((K w.params).all (fun p => Nat.blt p.1 1790), (K w.params).map (fun p => (T45 w.params).get p.1), (K w.params).map (fun p => alive p.2))) ((#[some (true, (K w.params).map (fun p => some p.2), (K w.params).map (fun p => some p.2))])[0]?) = some (true, (K w.params).map (fun p => some p.2), (K w.params).map (fun p => some p.2)) := by k_slotget
theorem look4 (w : World) (os : OsState) : Hook.obs Hk (Sfin w os) = Hook.val Hk w := by
  have h := Option.some.inj (look4a w)
  show KA.map (absHeap (T45 w.params) 1790 boot_life).get? = (K w.params).map (fun p => some p.2)
  rw [KAe w.params]
  exact getAll (Prod.mk.inj h).1 (Prod.mk.inj (Prod.mk.inj h).2).1 (Prod.mk.inj (Prod.mk.inj h).2).2
theorem look5 (w : World) (os : OsState) : (fun _ => some (openSeen q looseL md Xt true (Sfin w os))) ((#[some (openGood q looseL)])[0]?) = some (openGood q looseL) := by k_slotget

end Mine
end
end

section
set_option maxRecDepth 100000
set_option maxHeartbeats 0
set_option linter.unusedVariables false
set_option Elab.async false
open PySem PySem.W PyProof.Rows
noncomputable section
namespace Mine

theorem left0 : LeftO pw q looseL Xt (Hook.obs Hk) (Hook.val Hk) 59238 :=
  LeftO.of_pieces (H₀ := boot_heap) (H₁ := H1) (gs₀ := ⟨[]⟩) (gs₁ := ⟨[]⟩) (d₀ := boot_drawn) (d₁ := boot_drawn) (k₀ := boot_toks) (k₁ := 1683) (m₀ := 11) (ann := ann0) (M := 29619) op0 size0 run0 (by decide)
    (fun w => funext fun os => by
      refine Prod.ext ?_ (Prod.ext ?_ ?_)
      · have h := Option.some.inj (look1 w)
        show (staticsOk md (boot_heap w.params) (H1 w.params) && namesBound pw (H1 w.params) && gensDone (Sfin w os) && laidKept (boot_heap w.params) (H1 w.params)) = true
        rw [(Prod.mk.inj h).1, (Prod.mk.inj (Prod.mk.inj h).2).1, (Prod.mk.inj (Prod.mk.inj h).2).2]; rfl
      · exact Option.some.inj (look5 w os)
      · exact look4 w os)
noncomputable def dL : DefRec := ⟨Str.ofString "law", fargs (st 44), fbody (st 44), fscope (st 44), fpos (st 44)⟩
theorem def0 : defOf q rr.name = some (dL, []) := by kernel_rfl!
theorem def1 : rr.prog.theDef rr.name = some (dL.params, dL.body, dL.scope) := by kernel_rfl!
theorem def2 : kwWritten? dL.params.kwonlyargs dL.params.kw_defaults = some [] := by kernel_rfl!
abbrev Walk : Prop := WalkO q looseL (XL q []) Hk.says rr dL [] (fun f vs => PySem.call f vs)
theorem hd (said : (OpenLaw.row PySem.Challenge.rw_bi0020_01).wellSaid = true) (hc : Walk) : (OpenLaw.row PySem.Challenge.rw_bi0020_01).Holds := by
  refine holds_open (q := q) (loose := looseL) (Xt := Xt) (XP := XL q []) (Yf := Hook.obs Hk) (Ya := Hook.val Hk) (YP := Hook.says Hk) (N := 59238) left0 (Hook.of Hk) (Hook.keeps Hk) (fun s e => xl_of s (Bool.and_eq_true_iff.mp e).1) XL.keeps def0 def1 def2 (fun s e => recFacts_of (Bool.and_eq_true_iff.mp e).2) (by rfl) said (by decide +kernel) ⟨rfl, rfl, rfl, rfl, rfl, by decide +kernel⟩ ?hw hc
  case hw => w_witness2

end Mine
end
end

section
/-! the plain law: what the codec computes, in plain Lean -/
namespace Rlp
/-- a value of the codec: octets, or a row -/
inductive D where
  | b (x : List UInt8)
  | l (xs : List D)

/-- the octets of n, the most significant first, k of them -/
def beK : Nat → Nat → List UInt8
  | 0, _ => []
  | k + 1, n => beK k (n / 256) ++ [UInt8.ofNat (n % 256)]
/-- how many octets n has, at least one -/
def octs (n : Nat) : Nat := if n < 256 then 1 else octs (n / 256) + 1
termination_by n
def be (n : Nat) : List UInt8 := beK (octs n) n
def ofBe (x : List UInt8) : Nat := x.foldl (fun a c => a * 256 + c.toNat) 0
/-- a head -/
def pre (n off : Nat) : List UInt8 := if n < 56 then [UInt8.ofNat (off + n)] else UInt8.ofNat (off + 55 + octs n) :: be n

mutual
def enc : D → List UInt8
  | .b x => match x with
    | [c] => if c.toNat < 128 then [c] else pre 1 128 ++ [c]
    | x => pre x.length 128 ++ x
  | .l xs => pre (encs xs).length 192 ++ encs xs
def encs : List D → List UInt8
  | [] => []
  | d :: r => enc d ++ encs r
end

theorem beK_length : ∀ k n, (beK k n).length = k
  | 0, _ => rfl
  | k + 1, n => by simp [beK, beK_length k]
theorem octs_pos (n : Nat) : 0 < octs n := by unfold octs; split <;> omega
theorem lt_octs (n : Nat) : n < 256 ^ octs n := by
  induction n using Nat.strongRecOn with
  | ind n ih =>
    unfold octs
    split
    · simpa using by assumption
    · have h := ih (n / 256) (by omega)
      rw [Nat.pow_succ]; omega
theorem octs_le {n k : Nat} (hk : 0 < k) (h : n < 256 ^ k) : octs n ≤ k := by
  induction k generalizing n with
  | zero => omega
  | succ k ih =>
    unfold octs
    split
    · omega
    · rename_i h2
      cases k with
      | zero => simp at h; omega
      | succ k =>
        have := ih (n := n / 256) (by omega) (by rw [Nat.pow_succ] at h; omega)
        omega
theorem octs_ge {n : Nat} (h : 256 ≤ n) : 256 ^ (octs n - 1) ≤ n := by
  induction n using Nat.strongRecOn with
  | ind n ih =>
    unfold octs
    rw [if_neg (by omega)]
    by_cases h2 : n / 256 < 256
    · have : octs (n / 256) = 1 := by unfold octs; rw [if_pos h2]
      rw [this]; simpa using h
    · have h3 := ih (n / 256) (by omega) (by omega)
      have h4 := octs_pos (n / 256)
      obtain ⟨j, hj⟩ : ∃ j, octs (n / 256) = j + 1 := ⟨octs (n / 256) - 1, by omega⟩
      rw [hj] at h3 ⊢
      simp only [Nat.add_sub_cancel] at h3 ⊢
      rw [Nat.pow_succ]
      omega
theorem ofBe_append (x : List UInt8) (c : UInt8) : ofBe (x ++ [c]) = ofBe x * 256 + c.toNat := by simp [ofBe]
theorem ofBe_beK : ∀ k n, n < 256 ^ k → ofBe (beK k n) = n
  | 0, n, h => by simp at h; subst h; rfl
  | k + 1, n, h => by
    rw [beK, ofBe_append, ofBe_beK k (n / 256) (by rw [Nat.pow_succ] at h; omega)]
    rw [UInt8.toNat_ofNat']
    omega
theorem ofBe_be (n : Nat) : ofBe (be n) = n := ofBe_beK _ _ (lt_octs n)
theorem be_length (n : Nat) : (be n).length = octs n := beK_length _ _
theorem fold_ge : ∀ (x : List UInt8) (a : Nat), a * 256 ^ x.length ≤ x.foldl (fun a c => a * 256 + c.toNat) a ∧ x.foldl (fun a c => a * 256 + c.toNat) a < (a + 1) * 256 ^ x.length
  | [], a => by simp
  | c :: r, a => by
    have h := fold_ge r (a * 256 + c.toNat)
    have hc := c.toNat_lt
    rw [List.foldl_cons, List.length_cons, Nat.pow_succ]
    have e1 : a * (256 ^ r.length * 256) = (a * 256) * 256 ^ r.length := by rw [Nat.mul_comm (256 ^ r.length) 256, Nat.mul_assoc]
    have e2 : (a + 1) * (256 ^ r.length * 256) = (a * 256 + 256) * 256 ^ r.length := by rw [Nat.mul_comm (256 ^ r.length) 256, ← Nat.mul_assoc, Nat.add_mul, Nat.one_mul]
    rw [e1, e2]
    exact ⟨Nat.le_trans (Nat.mul_le_mul_right _ (by omega)) h.1, Nat.lt_of_lt_of_le h.2 (Nat.mul_le_mul_right _ (by omega))⟩
theorem ofBe_lt (x : List UInt8) : ofBe x < 256 ^ x.length := by have := (fold_ge x 0).2; simpa [ofBe] using this
theorem ofBe_cons (c : UInt8) (r : List UInt8) : c.toNat * 256 ^ r.length ≤ ofBe (c :: r) := by have := (fold_ge r c.toNat).1; simpa [ofBe] using this
theorem beK_ofBe : ∀ (x : List UInt8), beK x.length (ofBe x) = x := by
  intro x
  generalize hn : x.length = n
  induction n generalizing x with
  | zero => rw [List.eq_nil_of_length_eq_zero hn]; rfl
  | succ n ih =>
    obtain ⟨y, c, rfl⟩ : ∃ y c, x = y ++ [c] := by
      cases hx : x.reverse with
      | nil => simp at hx; subst hx; simp at hn
      | cons c r => exact ⟨r.reverse, c, by rw [← List.reverse_reverse x, hx, List.reverse_cons]⟩
    have hy : y.length = n := by simpa using hn
    rw [ofBe_append]
    have hc := c.toNat_lt
    show beK n ((ofBe y * 256 + c.toNat) / 256) ++ [UInt8.ofNat ((ofBe y * 256 + c.toNat) % 256)] = y ++ [c]
    rw [show (ofBe y * 256 + c.toNat) / 256 = ofBe y by omega, show (ofBe y * 256 + c.toNat) % 256 = c.toNat by omega, ih y hy]
    simp
/-- the head with no zero in front is the number's own -/
theorem be_ofBe {c : UInt8} {r : List UInt8} (h : c.toNat ≠ 0 ∨ r = []) : be (ofBe (c :: r)) = c :: r := by
  have hl : octs (ofBe (c :: r)) = (c :: r).length := by
    have h1 := octs_le (n := ofBe (c :: r)) (k := (c :: r).length) (by simp) (ofBe_lt _)
    rcases h with h | rfl
    · have h2 := ofBe_cons c r
      by_cases hr : r = []
      · subst hr; have := octs_pos (ofBe [c]); simp at h1 ⊢; omega
      · have h3 := lt_octs (ofBe (c :: r))
        have h4 : 256 ^ r.length ≤ ofBe (c :: r) := Nat.le_trans (by have : 1 ≤ c.toNat := by omega
                                                                     exact Nat.le_mul_of_pos_left _ this) h2
        have h5 : r.length < octs (ofBe (c :: r)) := (Nat.pow_lt_pow_iff_right (by decide)).mp (Nat.lt_of_le_of_lt h4 h3)
        simp at h1 ⊢; omega
    · have := octs_pos (ofBe [c]); simp at h1 ⊢; omega
  rw [be, hl]; exact beK_ofBe _
end Rlp
end

section
/-! the reader, as the text reckons it -/
namespace Rlp
/-- how a call ends: a value, an IndexError, a DecodingError; `out`: the depth given did not do -/
inductive R (α : Type) where
  | ok (a : α)
  | ix
  | de
  | out
/-- rlp[st : st + n] -/
def slice (x : List UInt8) (st n : Nat) : List UInt8 := (x.drop st).take n

/-- the head at st: its octets, whether a row, the length told, where the payload begins -/
def clp (x : List UInt8) (st : Nat) : R (List UInt8 × Bool × Nat × Nat) :=
  match x[st]? with
  | none => .ix
  | some c =>
    let b := c.toNat
    if b < 128 then .ok ([], false, 1, st)
    else if b < 184 then
      (if b = 129 then (match x[st + 1]? with
          | none => .ix
          | some c' => if c'.toNat < 128 then .de else .ok (slice x st 1, false, 1, st + 1))
        else .ok (slice x st 1, false, b - 128, st + 1))
    else if b < 192 then
      (if slice x (st + 1) 1 = [0] then .de
       else if ofBe (slice x (st + 1) (b - 183)) < 56 then .de
       else .ok (slice x st 1 ++ slice x (st + 1) (b - 183), false, ofBe (slice x (st + 1) (b - 183)), st + 1 + (b - 183)))
    else if b < 248 then .ok (slice x st 1, true, b - 192, st + 1)
    else
      (if slice x (st + 1) 1 = [0] then .de
       else if ofBe (slice x (st + 1) (b - 247)) < 56 then .de
       else .ok (slice x st 1 ++ slice x (st + 1) (b - 247), true, ofBe (slice x (st + 1) (b - 247)), st + 1 + (b - 247)))

/-- the items of a row, from next to fin -/
def clLoop (step : Nat → R (D × List UInt8 × Nat)) (fin : Nat) : Nat → Nat → R (List D × List UInt8 × Nat)
  | 0, next => if next < fin then .out else .ok ([], [], next)
  | n + 1, next => if next < fin then (match step next with
      | .ok (d, r, nx) => (match clLoop step fin n nx with
        | .ok (ds, rs, e) => .ok (d :: ds, r ++ rs, e)
        | .ix => .ix | .de => .de | .out => .out)
      | .ix => .ix | .de => .de | .out => .out)
    else .ok ([], [], next)

/-- the item at st: its value, its octets, where it ends -/
def item (x : List UInt8) : Nat → Nat → R (D × List UInt8 × Nat)
  | 0, _ => .out
  | dep + 1, st => match clp x st with
    | .ok (p, false, l, s) => .ok (.b (slice x s l), p ++ slice x s l, s + l)
    | .ok (p, true, l, s) => (match clLoop (item x dep) (s + l) (l + 1) s with
      | .ok (ds, rs, e) => if e > s + l then .de else .ok (.l ds, p ++ rs, e)
      | .ix => .ix | .de => .de | .out => .out)
    | .ix => .ix | .de => .de | .out => .out

/-- what decode tells: none, a DecodingError -/
def dec (strict : Bool) (dep : Nat) (x : List UInt8) : Option D := match item x dep 0 with
  | .ok (d, _, e) => if e ≠ x.length ∧ strict = true then none else some d
  | _ => none

theorem slice_append {a b : List UInt8} : slice (a ++ b) a.length b.length = b := by simp [slice]
theorem slice_mid {a b c : List UInt8} {st n : Nat} (h1 : st = a.length) (h2 : n = b.length) : slice (a ++ (b ++ c)) st n = b := by
  subst h1 h2; simp [slice]
theorem slice_length (x : List UInt8) (st n : Nat) : (slice x st n).length = min n (x.length - st) := by simp [slice]
theorem get_mid {a c : List UInt8} {b : UInt8} {st : Nat} (h : st = a.length) : (a ++ b :: c)[st]? = some b := by subst h; simp

mutual
def D.depth : D → Nat
  | .b _ => 0
  | .l xs => depths xs + 1
def depths : List D → Nat
  | [] => 0
  | d :: r => max d.depth (depths r)
end

/-- the head of n octets or of a row of n octets, read again -/
theorem clp_pre {a rest : List UInt8} {n : Nat} (hn : n < 256 ^ 8) (row : Bool) (h1 : row = false → n = 1 → ∀ c, rest[0]? = some c → 128 ≤ c.toNat) (h2 : row = false → n = 1 → rest ≠ []) :
    clp (a ++ (pre n (if row then 192 else 128) ++ rest)) a.length = .ok (pre n (if row then 192 else 128), row, n, a.length + (pre n (if row then 192 else 128)).length) := by
  unfold pre
  split
  · rename_i hs
    have hc : (UInt8.ofNat ((if row = true then 192 else 128) + n)).toNat = (if row = true then 192 else 128) + n := by
      rw [UInt8.toNat_ofNat']; split <;> omega
    have hget : (a ++ ([UInt8.ofNat ((if row = true then 192 else 128) + n)] ++ rest))[a.length]? = some (UInt8.ofNat ((if row = true then 192 else 128) + n)) := get_mid rfl
    have hsl : slice (a ++ ([UInt8.ofNat ((if row = true then 192 else 128) + n)] ++ rest)) a.length 1 = [UInt8.ofNat ((if row = true then 192 else 128) + n)] := slice_mid rfl rfl
    unfold clp
    rw [hget]
    dsimp only
    rw [hc, hsl]
    cases row with
    | false =>
      try simp only [Bool.false_eq_true, if_false]
      rw [if_neg (by omega), if_pos (by omega)]
      by_cases h129 : 128 + n = 129
      · have h1n : n = 1 := by omega
        rw [if_pos h129]
        have hne := h2 rfl h1n
        cases rest with
        | nil => exact absurd rfl hne
        | cons c r =>
          have hg2 : (a ++ ([UInt8.ofNat (128 + n)] ++ c :: r))[a.length + 1]? = some c := by
            rw [show a ++ ([UInt8.ofNat (128 + n)] ++ c :: r) = (a ++ [UInt8.ofNat (128 + n)]) ++ c :: r by simp]
            exact get_mid (by simp)
          try simp only [Bool.false_eq_true, if_false] at hg2 ⊢
          rw [hg2]
          dsimp only
          have := h1 rfl h1n c rfl
          rw [if_neg (by omega), h1n]
          rfl
      · rw [if_neg h129]
        simp
    | true =>
      try simp only [if_true]
      rw [if_neg (by omega), if_neg (by omega), if_neg (by omega), if_pos (by omega)]
      simp
  · rename_i hs
    have ho := octs_le (n := n) (k := 8) (by decide) hn
    have ho1 := octs_pos n
    have hc : (UInt8.ofNat ((if row = true then 192 else 128) + 55 + octs n)).toNat = (if row = true then 192 else 128) + 55 + octs n := by
      rw [UInt8.toNat_ofNat']; split <;> omega
    generalize hC : UInt8.ofNat ((if row = true then 192 else 128) + 55 + octs n) = C at hc
    have hget : (a ++ (C :: be n ++ rest))[a.length]? = some C := get_mid rfl
    have hsl : slice (a ++ (C :: be n ++ rest)) a.length 1 = [C] := slice_mid (b := [C]) (c := be n ++ rest) rfl rfl
    have hsl2 : slice (a ++ (C :: be n ++ rest)) (a.length + 1) (octs n) = be n := by
      rw [show a ++ (C :: be n ++ rest) = (a ++ [C]) ++ (be n ++ rest) by simp]
      exact slice_mid (by simp) (by rw [be_length])
    have hhead : slice (a ++ (C :: be n ++ rest)) (a.length + 1) 1 ≠ [0] := by
      intro h
      have hb : be n ≠ [] := fun e => by have := be_length n; rw [e] at this; simp at this; omega
      cases hbe : be n with
      | nil => exact hb hbe
      | cons c r =>
        rw [show a ++ (C :: be n ++ rest) = (a ++ [C]) ++ ([c] ++ (r ++ rest)) by rw [hbe]; simp] at h
        rw [slice_mid (a := a ++ [C]) (b := [c]) (c := r ++ rest) (st := a.length + 1) (n := 1) (by simp) rfl] at h
        have h0 : c = 0 := by simpa using h
        have hl := be_length n
        rw [hbe] at hl
        have hv := ofBe_be n
        rw [hbe, h0] at hv
        have hlt := ofBe_lt r
        have hv2 : ofBe r = n := by simpa [ofBe] using hv
        rw [hv2] at hlt
        have : octs n ≤ r.length := by
          by_cases hr : r.length = 0
          · rw [hr] at hlt; simp at hlt; omega
          · exact octs_le (by omega) hlt
        simp at hl
        omega
    unfold clp
    rw [hget]
    dsimp only
    rw [hc, hsl]
    have hv := ofBe_be n
    cases row with
    | false =>
      simp only [Bool.false_eq_true, if_false] at hhead hc ⊢
      rw [if_neg (by omega), if_neg (by omega), if_pos (by omega), if_neg hhead]
      rw [show 128 + 55 + octs n - 183 = octs n by omega, hsl2, hv, if_neg hs]
      simp [be_length]; omega
    | true =>
      simp only [if_true] at hhead hc ⊢
      rw [if_neg (by omega), if_neg (by omega), if_neg (by omega), if_neg (by omega), if_neg hhead]
      rw [show 192 + 55 + octs n - 247 = octs n by omega, hsl2, hv, if_neg hs]
      simp [be_length]; omega
end Rlp
end

section
namespace Rlp
theorem pre_length_pos (n off : Nat) : 0 < (pre n off).length := by unfold pre; split <;> simp
theorem enc_length_pos : ∀ d : D, 0 < (enc d).length
  | .b x => by
    unfold enc
    split
    · split <;> simp [pre]
    · have := pre_length_pos x.length 128; simp; omega
  | .l xs => by unfold enc; have := pre_length_pos (encs xs).length 192; simp; omega

theorem item_succ (x : List UInt8) (dep st : Nat) : item x (dep + 1) st = (match clp x st with
    | .ok (p, false, l, s) => .ok (.b (slice x s l), p ++ slice x s l, s + l)
    | .ok (p, true, l, s) => (match clLoop (item x dep) (s + l) (l + 1) s with
      | .ok (ds, rs, e) => if e > s + l then .de else .ok (.l ds, p ++ rs, e)
      | .ix => .ix | .de => .de | .out => .out)
    | .ix => .ix | .de => .de | .out => .out) := rfl

mutual
/-- what is written is read again -/
theorem item_enc (d : D) (dep : Nat) (a rest : List UInt8) (hd : d.depth < dep) (hz : (enc d).length < 256 ^ 8) :
    item (a ++ (enc d ++ rest)) dep a.length = .ok (d, enc d, a.length + (enc d).length) := by
  obtain ⟨dep, rfl⟩ : ∃ k, dep = k + 1 := ⟨dep - 1, by omega⟩
  match d with
  | .b x =>
    by_cases h1 : ∃ c, x = [c] ∧ c.toNat < 128
    · obtain ⟨c, rfl, hc⟩ := h1
      have he : enc (.b [c]) = [c] := by simp [enc, hc]
      rw [he, item_succ]
      have hg : (a ++ ([c] ++ rest))[a.length]? = some c := get_mid rfl
      have hcl : clp (a ++ ([c] ++ rest)) a.length = .ok ([], false, 1, a.length) := by
        unfold clp; rw [hg]; dsimp only; rw [if_pos hc]
      rw [hcl]
      dsimp only
      have hs : slice (a ++ ([c] ++ rest)) a.length 1 = [c] := slice_mid rfl rfl
      rw [hs]; rfl
    · have he : enc (.b x) = pre x.length 128 ++ x := by
        unfold enc
        split
        · rename_i c
          rw [if_neg (fun h => h1 ⟨c, rfl, h⟩)]; rfl
        · rfl
      have hz' : x.length < 256 ^ 8 := by rw [he] at hz; simp at hz; omega
      rw [he, item_succ]
      have hcl := clp_pre (a := a) (rest := x ++ rest) (n := x.length) hz' false (fun _ hn c hc => by
          match x, hn with
          | [c'], _ =>
            simp at hc; subst hc
            exact Nat.le_of_not_lt fun h => h1 ⟨c', rfl, h⟩) (fun _ hn h => by
          match x, hn with
          | [c'], _ => simp at h)
      simp only [Bool.false_eq_true, if_false] at hcl
      rw [show a ++ (pre x.length 128 ++ x ++ rest) = a ++ (pre x.length 128 ++ (x ++ rest)) by simp, hcl]
      dsimp only
      have hs : slice (a ++ (pre x.length 128 ++ (x ++ rest))) (a.length + (pre x.length 128).length) x.length = x := by
        rw [← List.append_assoc]; exact slice_mid (by simp) rfl
      rw [hs]; simp [Nat.add_assoc]
  | .l xs =>
    have he : enc (.l xs) = pre (encs xs).length 192 ++ encs xs := by unfold enc; rfl
    have hz' : (encs xs).length < 256 ^ 8 := by rw [he] at hz; simp at hz; omega
    rw [he, item_succ]
    have hcl := clp_pre (a := a) (rest := encs xs ++ rest) (n := (encs xs).length) hz' true (fun h => by cases h) (fun h => by cases h)
    simp only [if_true] at hcl
    rw [show a ++ (pre (encs xs).length 192 ++ encs xs ++ rest) = a ++ (pre (encs xs).length 192 ++ (encs xs ++ rest)) by simp, hcl]
    dsimp only
    have hd' : depths xs < dep := by simp only [D.depth] at hd; omega
    have hl := loop_enc xs dep (a ++ pre (encs xs).length 192) rest ((encs xs).length + 1) hd' hz' (by omega)
    simp only [List.append_assoc, List.length_append] at hl
    rw [hl]
    simp [Nat.add_assoc]
theorem loop_enc (xs : List D) (dep : Nat) (a rest : List UInt8) (n : Nat) (hd : depths xs < dep) (hz : (encs xs).length < 256 ^ 8) (hn : (encs xs).length < n) :
    clLoop (item (a ++ (encs xs ++ rest)) dep) (a.length + (encs xs).length) n a.length = .ok (xs, encs xs, a.length + (encs xs).length) := by
  obtain ⟨n, rfl⟩ : ∃ k, n = k + 1 := ⟨n - 1, by omega⟩
  match xs with
  | [] => simp [clLoop, encs]
  | d :: r =>
    have hd : max d.depth (depths r) < dep := by simpa [depths] using hd
    have he : encs (d :: r) = enc d ++ encs r := by rw [encs]
    have hp := enc_length_pos d
    rw [he] at hz hn ⊢
    simp only [List.length_append] at hz hn ⊢
    unfold clLoop
    rw [if_pos (by omega)]
    have h1 := item_enc d dep a (encs r ++ rest) (by omega) (by omega)
    rw [show a ++ (enc d ++ encs r ++ rest) = a ++ (enc d ++ (encs r ++ rest)) by simp, h1]
    dsimp only
    have h2 := loop_enc r dep (a ++ enc d) rest n (by omega) (by omega) (by omega)
    simp only [List.append_assoc, List.length_append] at h2
    rw [← Nat.add_assoc, h2]
end

/-- a head within the octets is the head of its length -/
theorem clp_back {x p : List UInt8} {st l s : Nat} {row : Bool} (h : clp x st = .ok (p, row, l, s)) (hs : s ≤ x.length) (hl : row = false → s + l ≤ x.length) :
    (row = false ∧ l = 1 ∧ s = st ∧ p = [] ∧ ∃ c, x[st]? = some c ∧ c.toNat < 128) ∨
    (p = pre l (if row then 192 else 128) ∧ s = st + p.length ∧ slice x st p.length = p ∧ (row = false → l = 1 → ∃ c, x[s]? = some c ∧ 128 ≤ c.toNat)) := by
  unfold clp at h
  cases hx : x[st]? with
  | none => rw [hx] at h; cases h
  | some c =>
    rw [hx] at h
    dsimp only at h
    have hst : st < x.length := by
      rcases Nat.lt_or_ge st x.length with q | q
      · exact q
      · rw [List.getElem?_eq_none q] at hx; cases hx
    have hcl := c.toNat_lt
    have hone : slice x st 1 = [c] := by
      have hd : x.drop st = c :: x.drop (st + 1) := by
        rw [List.drop_eq_getElem_cons hst]
        congr 1
        rw [List.getElem?_eq_getElem hst] at hx
        exact Option.some.inj hx
      simp [slice, hd]
    have hadd : ∀ n, slice x st (1 + n) = [c] ++ slice x (st + 1) n := by
      intro n
      have hd : x.drop st = c :: x.drop (st + 1) := by
        rw [List.drop_eq_getElem_cons hst]
        congr 1
        rw [List.getElem?_eq_getElem hst] at hx
        exact Option.some.inj hx
      simp [slice, hd, Nat.add_comm 1 n]
    -- the long heads
    have long : ∀ (k : Nat) (off : Nat) (rw_ : Bool), 0 < k → k ≤ 8 → c.toNat = off + 55 + k → ¬ slice x (st + 1) 1 = [0] → ¬ ofBe (slice x (st + 1) k) < 56 → st + 1 + k ≤ x.length →
        slice x st 1 ++ slice x (st + 1) k = pre (ofBe (slice x (st + 1) k)) off := by
      intro k off rw_ hk0 hk hc hz h56 hlen
      have hsl : (slice x (st + 1) k).length = k := by rw [slice_length]; omega
      cases hcs : slice x (st + 1) k with
      | nil => rw [hcs] at hsl; simp at hsl; omega
      | cons c1 r1 =>
        have hc1 : c1.toNat ≠ 0 := by
          intro h0
          apply hz
          have : slice x (st + 1) 1 = (slice x (st + 1) k).take 1 := by
            simp only [slice, List.take_take]
            rw [Nat.min_eq_left hk0]
          rw [this, hcs]
          have : c1 = 0 := UInt8.toNat_inj.mp (by simpa using h0)
          simp [this]
        have hbe := be_ofBe (c := c1) (r := r1) (Or.inl hc1)
        have hoc : octs (ofBe (c1 :: r1)) = k := by
          rw [← be_length, hbe, ← hcs, hsl]
        rw [hcs] at h56
        unfold pre
        rw [if_neg h56, hbe, hoc, hone, ← hc]
        simp
    split at h
    · rename_i h1
      simp only [R.ok.injEq, Prod.mk.injEq] at h
      obtain ⟨rfl, rfl, rfl, rfl⟩ := h
      exact Or.inl ⟨rfl, rfl, rfl, rfl, c, rfl, h1⟩
    · rename_i h1
      split at h
      · rename_i h2
        split at h
        · rename_i h3
          split at h
          · cases h
          · rename_i c' hc'
            split at h
            · cases h
            · rename_i h4
              simp only [R.ok.injEq, Prod.mk.injEq] at h
              obtain ⟨rfl, rfl, rfl, rfl⟩ := h
              refine Or.inr ⟨?_, by simp [hone], by rw [hone]; exact hone, fun _ _ => ⟨c', hc', by omega⟩⟩
              rw [hone]
              have : c = UInt8.ofNat (128 + 1) := UInt8.toNat_inj.mp (by rw [UInt8.toNat_ofNat']; omega)
              simp [pre, this]
        · rename_i h3
          simp only [R.ok.injEq, Prod.mk.injEq] at h
          obtain ⟨rfl, rfl, rfl, rfl⟩ := h
          refine Or.inr ⟨?_, by simp [hone], by rw [hone]; exact hone, fun _ h5 => by omega⟩
          rw [hone]
          have h6 : c.toNat - 128 < 56 := by omega
          have : c = UInt8.ofNat (128 + (c.toNat - 128)) := UInt8.toNat_inj.mp (by rw [UInt8.toNat_ofNat']; omega)
          unfold pre
          rw [if_pos h6]
          simpa using this
      · rename_i h2
        split at h
        · rename_i h3
          split at h
          · cases h
          · rename_i h4
            split at h
            · cases h
            · rename_i h5
              simp only [R.ok.injEq, Prod.mk.injEq] at h
              obtain ⟨rfl, rfl, rfl, rfl⟩ := h
              have hk : st + 1 + (c.toNat - 183) ≤ x.length := hs
              have e := long (c.toNat - 183) 128 false (by omega) (by omega) (by omega) h4 h5 hk
              have hlen : (slice x st 1 ++ slice x (st + 1) (c.toNat - 183)).length = 1 + (c.toNat - 183) := by rw [hone, List.length_append, slice_length]; simp; omega
              refine Or.inr ⟨e, by rw [hlen]; omega, by rw [hlen, hadd, hone], fun _ h6 => by omega⟩
        · rename_i h3
          split at h
          · rename_i h4
            simp only [R.ok.injEq, Prod.mk.injEq] at h
            obtain ⟨rfl, rfl, rfl, rfl⟩ := h
            refine Or.inr ⟨?_, by simp [hone], by rw [hone]; exact hone, fun h => by cases h⟩
            rw [hone]
            have h6 : c.toNat - 192 < 56 := by omega
            have : c = UInt8.ofNat (192 + (c.toNat - 192)) := UInt8.toNat_inj.mp (by rw [UInt8.toNat_ofNat']; omega)
            unfold pre
            rw [if_pos h6]
            simpa using this
          · rename_i h4
            split at h
            · cases h
            · rename_i h5
              split at h
              · cases h
              · rename_i h6
                simp only [R.ok.injEq, Prod.mk.injEq] at h
                obtain ⟨rfl, rfl, rfl, rfl⟩ := h
                have hk : st + 1 + (c.toNat - 247) ≤ x.length := hs
                have e := long (c.toNat - 247) 192 true (by omega) (by omega) (by omega) h5 h6 hk
                have hlen : (slice x st 1 ++ slice x (st + 1) (c.toNat - 247)).length = 1 + (c.toNat - 247) := by rw [hone, List.length_append, slice_length]; simp; omega
                exact Or.inr ⟨e, by rw [hlen]; omega, by rw [hlen, hadd, hone], fun h => by cases h⟩
end Rlp
end

section
namespace Rlp
theorem clp_ge {x p : List UInt8} {st l s : Nat} {row : Bool} (h : clp x st = .ok (p, row, l, s)) : st ≤ s ∧ (row = false → st < s + l) ∧ (row = true → st < s) ∧ st < x.length := by
  unfold clp at h
  cases hx : x[st]? with
  | none => rw [hx] at h; cases h
  | some c =>
    have hst : st < x.length := by
      rcases Nat.lt_or_ge st x.length with q | q
      · exact q
      · rw [List.getElem?_eq_none q] at hx; cases hx
    rw [hx] at h
    dsimp only at h
    (repeat' split at h) <;> first
      | (simp only [R.ok.injEq, Prod.mk.injEq] at h; obtain ⟨rfl, rfl, rfl, rfl⟩ := h; refine ⟨by omega, ?_, ?_, hst⟩ <;> intro h <;> first | omega | cases h)
      | (exact nomatch h)
mutual
theorem item_ge : ∀ {x : List UInt8} {dep st : Nat} {d : D} {r : List UInt8} {e : Nat}, item x dep st = .ok (d, r, e) → st < e
  | x, 0, st, d, r, e, h => by cases h
  | x, dep + 1, st, d, r, e, h => by
    rw [item_succ] at h
    cases hc : clp x st with
    | ok q =>
      obtain ⟨p, row, l, s⟩ := q
      rw [hc] at h
      have hg := clp_ge hc
      cases row with
      | false =>
        simp only [R.ok.injEq, Prod.mk.injEq] at h
        obtain ⟨_, _, rfl⟩ := h
        exact hg.2.1 rfl
      | true =>
        dsimp only at h
        cases hl : clLoop (item x dep) (s + l) (l + 1) s with
        | ok q =>
          obtain ⟨ds, rs, e'⟩ := q
          rw [hl] at h
          dsimp only at h
          split at h
          · cases h
          · simp only [R.ok.injEq, Prod.mk.injEq] at h
            obtain ⟨_, _, rfl⟩ := h
            have := (loop_ge hl).1
            have := hg.2.2.1 rfl
            omega
        | ix => rw [hl] at h; cases h
        | de => rw [hl] at h; cases h
        | out => rw [hl] at h; cases h
    | ix => rw [hc] at h; cases h
    | de => rw [hc] at h; cases h
    | out => rw [hc] at h; cases h
termination_by x dep => (dep, 0)
theorem loop_ge : ∀ {x : List UInt8} {dep fin n next : Nat} {ds : List D} {rs : List UInt8} {e : Nat}, clLoop (item x dep) fin n next = .ok (ds, rs, e) → next ≤ e ∧ fin ≤ e
  | x, dep, fin, 0, next, ds, rs, e, h => by
    unfold clLoop at h
    split at h
    · exact nomatch h
    · simp only [R.ok.injEq, Prod.mk.injEq] at h
      obtain ⟨_, _, rfl⟩ := h
      omega
  | x, dep, fin, n + 1, next, ds, rs, e, h => by
    unfold clLoop at h
    split at h
    · rename_i hlt
      cases hs : item x dep next with
      | ok q =>
        obtain ⟨d, r, nx⟩ := q
        rw [hs] at h
        dsimp only at h
        have h1 := item_ge hs
        cases hl : clLoop (item x dep) fin n nx with
        | ok q =>
          obtain ⟨ds', rs', e'⟩ := q
          rw [hl] at h
          simp only [R.ok.injEq, Prod.mk.injEq] at h
          obtain ⟨_, _, rfl⟩ := h
          have := loop_ge hl
          omega
        | ix => rw [hl] at h; cases h
        | de => rw [hl] at h; cases h
        | out => rw [hl] at h; cases h
      | ix => rw [hs] at h; cases h
      | de => rw [hs] at h; cases h
      | out => rw [hs] at h; cases h
    · simp only [R.ok.injEq, Prod.mk.injEq] at h
      obtain ⟨_, _, rfl⟩ := h
      omega
termination_by x dep fin n => (dep, n + 1)
end
theorem slice_join {x a b : List UInt8} {st : Nat} (h1 : slice x st a.length = a) (h2 : slice x (st + a.length) b.length = b) : slice x st (a ++ b).length = a ++ b := by
  simp only [slice, List.length_append] at *
  rw [List.take_add, List.drop_drop, h1, h2]
mutual
/-- what is read within the octets is what its value is written as -/
theorem enc_item : ∀ {x : List UInt8} {dep st : Nat} {d : D} {r : List UInt8} {e : Nat}, item x dep st = .ok (d, r, e) → e ≤ x.length → enc d = r ∧ e = st + r.length ∧ slice x st r.length = r
  | x, 0, st, d, r, e, h, _ => by cases h
  | x, dep + 1, st, d, r, e, h, he => by
    rw [item_succ] at h
    cases hc : clp x st with
    | ok q =>
      obtain ⟨p, row, l, s⟩ := q
      rw [hc] at h
      have hg := clp_ge hc
      cases row with
      | false =>
        simp only [R.ok.injEq, Prod.mk.injEq] at h
        obtain ⟨rfl, rfl, rfl⟩ := h
        rcases clp_back hc (by omega) (fun _ => he) with ⟨_, rfl, rfl, rfl, c, hx, hc⟩ | ⟨hp, hs, hsl, h1⟩
        · have hst : s < x.length := by omega
          have hone : slice x s 1 = [c] := by
            have hd : x.drop s = c :: x.drop (s + 1) := by
              rw [List.drop_eq_getElem_cons hst]
              congr 1
              rw [List.getElem?_eq_getElem hst] at hx
              exact Option.some.inj hx
            simp [slice, hd]
          rw [hone]
          refine ⟨?_, by simp, by simpa using hone⟩
          simp [enc, hc]
        · have hlen : (slice x s l).length = l := by rw [slice_length]; omega
          have hj : slice x st (p ++ slice x s l).length = p ++ slice x s l := slice_join hsl (by rw [hlen, ← hs])
          refine ⟨?_, by rw [List.length_append, hlen]; omega, hj⟩
          simp only [Bool.false_eq_true, if_false] at hp
          have hen : ∀ y : List UInt8, (y.length = 1 → ∃ c, y = [c] ∧ 128 ≤ c.toNat) → enc (.b y) = pre y.length 128 ++ y := by
            intro y hy
            unfold enc
            split
            · rename_i c
              obtain ⟨c', h2, h3⟩ := hy rfl
              cases h2
              rw [if_neg (by omega)]; rfl
            · rfl
          rw [hen, hlen, ← hp]
          intro hl1
          rw [hlen] at hl1
          subst hl1
          obtain ⟨c, hcx, h128⟩ := h1 rfl rfl
          refine ⟨c, ?_, h128⟩
          have hst : s < x.length := by omega
          have hd : x.drop s = c :: x.drop (s + 1) := by
            rw [List.drop_eq_getElem_cons hst]
            congr 1
            rw [List.getElem?_eq_getElem hst] at hcx
            exact Option.some.inj hcx
          simp [slice, hd]
      | true =>
        dsimp only at h
        cases hl : clLoop (item x dep) (s + l) (l + 1) s with
        | ok q =>
          obtain ⟨ds, rs, e'⟩ := q
          rw [hl] at h
          dsimp only at h
          split at h
          · cases h
          · rename_i hgt
            simp only [R.ok.injEq, Prod.mk.injEq] at h
            obtain ⟨rfl, rfl, rfl⟩ := h
            have h2 := (loop_ge hl)
            have h3 := encs_loop hl he
            rcases clp_back hc (by omega) (fun h => by cases h) with ⟨hf, _⟩ | ⟨hp, hs, hsl, _⟩
            · cases hf
            · simp only [if_true] at hp
              have hrl : rs.length = l := by omega
              refine ⟨?_, by rw [List.length_append]; omega, slice_join hsl (by rw [← hs]; exact h3.2.2)⟩
              unfold enc
              rw [h3.1, hrl, ← hp]
        | ix => rw [hl] at h; cases h
        | de => rw [hl] at h; cases h
        | out => rw [hl] at h; cases h
    | ix => rw [hc] at h; cases h
    | de => rw [hc] at h; cases h
    | out => rw [hc] at h; cases h
termination_by x dep => (dep, 0)
theorem encs_loop : ∀ {x : List UInt8} {dep fin n next : Nat} {ds : List D} {rs : List UInt8} {e : Nat}, clLoop (item x dep) fin n next = .ok (ds, rs, e) → e ≤ x.length → encs ds = rs ∧ e = next + rs.length ∧ slice x next rs.length = rs
  | x, dep, fin, 0, next, ds, rs, e, h, _ => by
    unfold clLoop at h
    split at h
    · exact nomatch h
    · simp only [R.ok.injEq, Prod.mk.injEq] at h
      obtain ⟨rfl, rfl, rfl⟩ := h
      exact ⟨by rw [encs], by simp, by simp [slice]⟩
  | x, dep, fin, n + 1, next, ds, rs, e, h, he => by
    unfold clLoop at h
    split at h
    · rename_i hlt
      cases hs : item x dep next with
      | ok q =>
        obtain ⟨d, r, nx⟩ := q
        rw [hs] at h
        dsimp only at h
        cases hl : clLoop (item x dep) fin n nx with
        | ok q =>
          obtain ⟨ds', rs', e'⟩ := q
          rw [hl] at h
          simp only [R.ok.injEq, Prod.mk.injEq] at h
          obtain ⟨rfl, rfl, rfl⟩ := h
          have h2 := loop_ge hl
          have h3 := encs_loop hl he
          have h4 := enc_item hs (by omega)
          refine ⟨by rw [encs, h4.1, h3.1], by rw [List.length_append]; omega, slice_join h4.2.2 (by rw [← h4.2.1]; exact h3.2.2)⟩
        | ix => rw [hl] at h; cases h
        | de => rw [hl] at h; cases h
        | out => rw [hl] at h; cases h
      | ix => rw [hs] at h; cases h
      | de => rw [hs] at h; cases h
      | out => rw [hs] at h; cases h
    · simp only [R.ok.injEq, Prod.mk.injEq] at h
      obtain ⟨rfl, rfl, rfl⟩ := h
      exact ⟨by rw [encs], by simp, by simp [slice]⟩
termination_by x dep fin n => (dep, n + 1)
end
theorem enc_of_dec {x : List UInt8} {dep : Nat} {d : D} (h : dec true dep x = some d) : enc d = x := by
  unfold dec at h
  split at h
  · rename_i d' r e hi
    split at h
    · cases h
    · rename_i hne
      cases h
      have he : e = x.length := by
        rcases Decidable.em (e = x.length) with q | q
        · exact q
        · exact absurd ⟨q, rfl⟩ hne
      have := enc_item hi (by omega)
      rw [this.1, ← this.2.2]
      have h2 := this.2.1
      rw [show r.length = x.length by omega]
      simp [slice]
  · cases h
theorem dec_enc {d : D} {dep : Nat} (hd : d.depth < dep) (hz : (enc d).length < 256 ^ 8) : dec true dep (enc d) = some d := by
  have h := item_enc d dep [] [] hd hz
  simp only [List.nil_append, List.append_nil, List.length_nil, Nat.zero_add] at h
  unfold dec
  rw [h]
  simp
/-- nothing behind an item is let -/
theorem dec_more {d : D} {dep : Nat} {y : List UInt8} (hd : d.depth < dep) (hz : (enc d).length < 256 ^ 8) (hy : y ≠ []) : dec true dep (enc d ++ y) = none := by
  have h := item_enc d dep [] y hd hz
  simp only [List.nil_append, List.length_nil, Nat.zero_add] at h
  unfold dec
  rw [h]
  have : y.length ≠ 0 := fun h => hy (List.eq_nil_of_length_eq_zero h)
  dsimp only
  rw [if_pos ⟨by rw [List.length_append]; omega, rfl⟩]

theorem clp_not_out (x : List UInt8) (st : Nat) : clp x st ≠ .out := by
  unfold clp
  intro h
  split at h
  · exact nomatch h
  · dsimp only at h
    (repeat' split at h) <;> exact nomatch h
theorem loop_in {x : List UInt8} {dep fin : Nat} : ∀ (n next : Nat), fin < n + next → (∀ st, next ≤ st → item x dep st ≠ .out) → clLoop (item x dep) fin n next ≠ .out
  | 0, next, hn, _ => by
    unfold clLoop
    rw [if_neg (by omega)]
    exact fun h => nomatch h
  | n + 1, next, hn, hs => by
    unfold clLoop
    split
    · intro h
      cases hi : item x dep next with
      | ok q =>
        obtain ⟨d, r, nx⟩ := q
        rw [hi] at h
        dsimp only at h
        have h1 := item_ge hi
        have h2 := loop_in (x := x) (dep := dep) (fin := fin) n nx (by omega) (fun st h => hs st (by omega))
        split at h
        · exact nomatch h
        · exact nomatch h
        · exact nomatch h
        · rename_i q; exact h2 q
      | ix => rw [hi] at h; exact nomatch h
      | de => rw [hi] at h; exact nomatch h
      | out => exact hs next (Nat.le_refl _) hi
    · exact fun h => nomatch h
/-- the depth that does for any octets -/
theorem item_in : ∀ (dep : Nat) (x : List UInt8) (st : Nat), 0 < dep → x.length < dep + st → item x dep st ≠ .out
  | 0, x, st, h0, h => by omega
  | dep + 1, x, st, _, h => by
    rw [item_succ]
    cases hc : clp x st with
    | ok q =>
      obtain ⟨p, row, l, s⟩ := q
      have hg := clp_ge hc
      cases row with
      | false => exact fun h => nomatch h
      | true =>
        dsimp only
        have h1 := hg.2.2.1 rfl
        have h2 := loop_in (x := x) (dep := dep) (fin := s + l) (l + 1) s (by omega) (fun st' h' => item_in dep x st' (by omega) (by omega))
        split
        · split <;> exact fun h => nomatch h
        · exact fun h => nomatch h
        · exact fun h => nomatch h
        · rename_i q; exact absurd q h2
    | ix => exact fun h => nomatch h
    | de => exact fun h => nomatch h
    | out => exact absurd hc (clp_not_out x st)
theorem clp_ix {x : List UInt8} {st : Nat} (h : x.length ≤ st) : clp x st = .ix := by
  unfold clp; rw [List.getElem?_eq_none h]
theorem item_ix {x : List UInt8} {dep st : Nat} (h : x.length ≤ st) (hd : 0 < dep) : item x dep st = .ix := by
  obtain ⟨k, rfl⟩ : ∃ k, dep = k + 1 := ⟨dep - 1, by omega⟩
  rw [item_succ, clp_ix h]
/-- a head in the first n octets: the same, or cut off -/
theorem clp_take {x p : List UInt8} {st l s n : Nat} {row : Bool} (h : clp x st = .ok (p, row, l, s)) :
    (s ≤ n ∧ (clp (x.take n) st = .ok (p, row, l, s) ∨ clp (x.take n) st = .ix)) ∨ (n < s ∧ (clp (x.take n) st = .ix ∨ clp (x.take n) st = .de ∨ ∃ p' l', clp (x.take n) st = .ok (p', row, l', s) ∧ (row = true → 0 < l))) := by
  have hg := clp_ge h
  rcases Nat.lt_or_ge st n with hn | hn
  · have hget : ∀ i, i < n → (x.take n)[i]? = x[i]? := fun i hi => by rw [List.getElem?_take, if_pos hi]
    have hsl : ∀ i k, i + k ≤ n → slice (x.take n) i k = slice x i k := fun i k hik => by
      simp only [slice, List.drop_take, List.take_take]
      rw [Nat.min_eq_left (by omega)]
    unfold clp at h ⊢
    rw [hget st hn]
    cases hx : x[st]? with
    | none => rw [hx] at h; exact nomatch h
    | some c =>
      rw [hx] at h
      dsimp only at h ⊢
      have h1 : slice (x.take n) st 1 = slice x st 1 := hsl st 1 (by omega)
      rw [h1]
      have long : ∀ (k : Nat) (row' : Bool), 0 < k → (if slice x (st + 1) 1 = [0] then R.de else if ofBe (slice x (st + 1) k) < 56 then R.de else R.ok (slice x st 1 ++ slice x (st + 1) k, row', ofBe (slice x (st + 1) k), st + 1 + k)) = R.ok (p, row, l, s) →
          (s ≤ n ∧ ((if slice (x.take n) (st + 1) 1 = [0] then R.de else if ofBe (slice (x.take n) (st + 1) k) < 56 then R.de else R.ok (slice x st 1 ++ slice (x.take n) (st + 1) k, row', ofBe (slice (x.take n) (st + 1) k), st + 1 + k)) = R.ok (p, row, l, s) ∨
            (if slice (x.take n) (st + 1) 1 = [0] then R.de else if ofBe (slice (x.take n) (st + 1) k) < 56 then R.de else R.ok (slice x st 1 ++ slice (x.take n) (st + 1) k, row', ofBe (slice (x.take n) (st + 1) k), st + 1 + k)) = R.ix)) ∨
          (n < s ∧ ((if slice (x.take n) (st + 1) 1 = [0] then R.de else if ofBe (slice (x.take n) (st + 1) k) < 56 then R.de else R.ok (slice x st 1 ++ slice (x.take n) (st + 1) k, row', ofBe (slice (x.take n) (st + 1) k), st + 1 + k)) = R.ix ∨
            (if slice (x.take n) (st + 1) 1 = [0] then R.de else if ofBe (slice (x.take n) (st + 1) k) < 56 then R.de else R.ok (slice x st 1 ++ slice (x.take n) (st + 1) k, row', ofBe (slice (x.take n) (st + 1) k), st + 1 + k)) = R.de ∨
            ∃ p' l', (if slice (x.take n) (st + 1) 1 = [0] then R.de else if ofBe (slice (x.take n) (st + 1) k) < 56 then R.de else R.ok (slice x st 1 ++ slice (x.take n) (st + 1) k, row', ofBe (slice (x.take n) (st + 1) k), st + 1 + k)) = R.ok (p', row, l', s) ∧ (row = true → 0 < l))) := by
        intro k row' hk hh
        split at hh
        · exact nomatch hh
        · rename_i hz
          split at hh
          · exact nomatch hh
          · rename_i h56
            simp only [R.ok.injEq, Prod.mk.injEq] at hh
            obtain ⟨rfl, rfl, rfl, rfl⟩ := hh
            rcases Nat.lt_or_ge n (st + 1 + k) with hs | hs
            · refine Or.inr ⟨hs, ?_⟩
              split
              · exact Or.inr (Or.inl rfl)
              · split
                · exact Or.inr (Or.inl rfl)
                · exact Or.inr (Or.inr ⟨_, _, rfl, fun _ => by omega⟩)
            · refine Or.inl ⟨hs, Or.inl ?_⟩
              rw [hsl (st + 1) 1 (by omega), hsl (st + 1) k (by omega), if_neg hz, if_neg h56]
      split at h
      · rename_i q; rw [if_pos q]
        simp only [R.ok.injEq, Prod.mk.injEq] at h
        obtain ⟨rfl, rfl, rfl, rfl⟩ := h
        exact Or.inl ⟨by omega, Or.inl rfl⟩
      · rename_i q; rw [if_neg q]
        split at h
        · rename_i q2; rw [if_pos q2]
          split at h
          · rename_i q3; rw [if_pos q3]
            split at h
            · exact nomatch h
            · rename_i c' hc'
              split at h
              · exact nomatch h
              · rename_i q4
                simp only [R.ok.injEq, Prod.mk.injEq] at h
                obtain ⟨rfl, rfl, rfl, rfl⟩ := h
                refine Or.inl ⟨by omega, ?_⟩
                rcases Nat.lt_or_ge (st + 1) n with q5 | q5
                · rw [hget _ q5, hc']
                  dsimp only
                  rw [if_neg q4]
                  exact Or.inl rfl
                · rw [List.getElem?_take, if_neg (by omega)]
                  exact Or.inr rfl
          · rename_i q3; rw [if_neg q3]
            simp only [R.ok.injEq, Prod.mk.injEq] at h
            obtain ⟨rfl, rfl, rfl, rfl⟩ := h
            exact Or.inl ⟨by omega, Or.inl rfl⟩
        · rename_i q2; rw [if_neg q2]
          split at h
          · rename_i q3; rw [if_pos q3]
            exact long _ _ (by omega) h
          · rename_i q3; rw [if_neg q3]
            split at h
            · rename_i q4; rw [if_pos q4]
              simp only [R.ok.injEq, Prod.mk.injEq] at h
              obtain ⟨rfl, rfl, rfl, rfl⟩ := h
              exact Or.inl ⟨by omega, Or.inl rfl⟩
            · rename_i q4; rw [if_neg q4]
              exact long _ _ (by omega) h
  · have hi : clp (x.take n) st = .ix := clp_ix (by rw [List.length_take]; omega)
    rcases Nat.lt_or_ge n s with q | q
    · exact Or.inr ⟨q, Or.inl hi⟩
    · exact Or.inl ⟨q, Or.inr hi⟩
mutual
/-- the first n octets of an item: no deeper than the item -/
theorem item_take : ∀ {x : List UInt8} {dep st n : Nat} {d : D} {r : List UInt8} {e : Nat}, item x dep st = .ok (d, r, e) → item (x.take n) dep st ≠ .out ∧ ∀ d' r' e', item (x.take n) dep st = .ok (d', r', e') → e' = e ∨ n < e'
  | x, 0, st, n, d, r, e, h => nomatch h
  | x, dep + 1, st, n, d, r, e, h => by
    rw [item_succ] at h
    rw [item_succ]
    cases hc : clp x st with
    | ok q =>
      obtain ⟨p, row, l, s⟩ := q
      rw [hc] at h
      rcases clp_take (n := n) hc with ⟨hs, ht | ht⟩ | ⟨hs, ht | ht | ⟨p', l', ht, hl0⟩⟩
      · rw [ht]
        cases row with
        | false =>
          simp only [R.ok.injEq, Prod.mk.injEq] at h
          obtain ⟨_, _, rfl⟩ := h
          refine ⟨(fun h => nomatch h), fun d' r' e' h' => ?_⟩
          simp only [R.ok.injEq, Prod.mk.injEq] at h'
          exact Or.inl h'.2.2.symm
        | true =>
          dsimp only at h ⊢
          cases hl : clLoop (item x dep) (s + l) (l + 1) s with
          | ok q =>
            obtain ⟨ds, rs, e1⟩ := q
            rw [hl] at h
            dsimp only at h
            split at h
            · exact nomatch h
            · rename_i hgt
              simp only [R.ok.injEq, Prod.mk.injEq] at h
              obtain ⟨_, _, rfl⟩ := h
              have ih := loop_take (n := n) (by omega) hl
              split
              · rename_i ds' rs' e' hq
                split
                · exact ⟨(fun h => nomatch h), fun _ _ _ h' => nomatch h'⟩
                · refine ⟨(fun h => nomatch h), fun d'' r'' e'' h' => ?_⟩
                  simp only [R.ok.injEq, Prod.mk.injEq] at h'
                  rw [← h'.2.2]
                  exact ih.2 _ _ _ hq
              · exact ⟨(fun h => nomatch h), fun _ _ _ h' => nomatch h'⟩
              · exact ⟨(fun h => nomatch h), fun _ _ _ h' => nomatch h'⟩
              · rename_i hq; exact absurd hq ih.1
          | ix => rw [hl] at h; exact nomatch h
          | de => rw [hl] at h; exact nomatch h
          | out => rw [hl] at h; exact nomatch h
      · rw [ht]; exact ⟨(fun h => nomatch h), fun _ _ _ h' => nomatch h'⟩
      · rw [ht]; exact ⟨(fun h => nomatch h), fun _ _ _ h' => nomatch h'⟩
      · rw [ht]; exact ⟨(fun h => nomatch h), fun _ _ _ h' => nomatch h'⟩
      · rw [ht]
        cases row with
        | false =>
          refine ⟨(fun h => nomatch h), fun d' r' e' h' => ?_⟩
          simp only [R.ok.injEq, Prod.mk.injEq] at h'
          exact Or.inr (by omega)
        | true =>
          dsimp only at h ⊢
          have hd : 0 < dep := by
            have := hl0 rfl
            rcases Nat.eq_zero_or_pos dep with q | q
            · subst q
              unfold clLoop at h
              rw [if_pos (by omega)] at h
              exact nomatch h
            · exact q
          unfold clLoop
          by_cases hlt : s < s + l'
          · rw [if_pos hlt, item_ix (by rw [List.length_take]; omega) hd]
            exact ⟨(fun h => nomatch h), fun _ _ _ h' => nomatch h'⟩
          · rw [if_neg hlt]
            dsimp only
            split
            · exact ⟨(fun h => nomatch h), fun _ _ _ h' => nomatch h'⟩
            · refine ⟨(fun h => nomatch h), fun d'' r'' e'' h' => ?_⟩
              simp only [R.ok.injEq, Prod.mk.injEq] at h'
              exact Or.inr (by omega)
    | ix => rw [hc] at h; exact nomatch h
    | de => rw [hc] at h; exact nomatch h
    | out => rw [hc] at h; exact nomatch h
termination_by x dep => (dep, 0)
theorem loop_take : ∀ {x : List UInt8} {dep fin k next n : Nat} {ds : List D} {rs : List UInt8} {e : Nat}, fin ≤ k + next → clLoop (item x dep) fin k next = .ok (ds, rs, e) →
    clLoop (item (x.take n) dep) fin k next ≠ .out ∧ ∀ ds' rs' e', clLoop (item (x.take n) dep) fin k next = .ok (ds', rs', e') → e' = e ∨ n < e'
  | x, dep, fin, 0, next, n, ds, rs, e, _, h => by
    unfold clLoop at h ⊢
    split at h
    · exact nomatch h
    · rename_i q
      rw [if_neg q]
      simp only [R.ok.injEq, Prod.mk.injEq] at h
      obtain ⟨_, _, rfl⟩ := h
      refine ⟨(fun h => nomatch h), fun d'' r'' e'' h' => ?_⟩
      simp only [R.ok.injEq, Prod.mk.injEq] at h'
      exact Or.inl h'.2.2.symm
  | x, dep, fin, k + 1, next, n, ds, rs, e, hf, h => by
    unfold clLoop at h ⊢
    split at h
    · rename_i hlt
      rw [if_pos hlt]
      cases hs : item x dep next with
      | ok q =>
        obtain ⟨d, r, nx⟩ := q
        rw [hs] at h
        dsimp only at h
        cases hl : clLoop (item x dep) fin k nx with
        | ok q =>
          obtain ⟨ds', rs', e1⟩ := q
          rw [hl] at h
          simp only [R.ok.injEq, Prod.mk.injEq] at h
          obtain ⟨_, _, rfl⟩ := h
          have ih := item_take (n := n) hs
          have hd : 0 < dep := by
            rcases Nat.eq_zero_or_pos dep with q | q
            · subst q; exact nomatch hs
            · exact q
          cases hs' : item (x.take n) dep next with
          | ok q =>
            obtain ⟨d2, r2, nx2⟩ := q
            dsimp only
            rcases ih.2 _ _ _ hs' with rfl | hn
            · have ih2 := loop_take (n := n) (by have := item_ge hs; omega) hl
              split
              · rename_i hq
                refine ⟨(fun h => nomatch h), fun d'' r'' e'' h' => ?_⟩
                simp only [R.ok.injEq, Prod.mk.injEq] at h'
                rw [← h'.2.2]
                exact ih2.2 _ _ _ hq
              · exact ⟨(fun h => nomatch h), fun _ _ _ h' => nomatch h'⟩
              · exact ⟨(fun h => nomatch h), fun _ _ _ h' => nomatch h'⟩
              · rename_i hq; exact absurd hq ih2.1
            · have hk : ∀ k, (k ≠ 0 ∨ fin ≤ nx2) → clLoop (item (x.take n) dep) fin k nx2 = .ix ∨ clLoop (item (x.take n) dep) fin k nx2 = .ok ([], [], nx2) := by
                intro k hk
                cases k with
                | zero =>
                  unfold clLoop
                  rw [if_neg (by omega)]
                  exact Or.inr rfl
                | succ k =>
                  unfold clLoop
                  split
                  · rw [item_ix (by rw [List.length_take]; omega) hd]
                    exact Or.inl rfl
                  · exact Or.inr rfl
              have hkk : k ≠ 0 ∨ fin ≤ nx2 := by
                rcases Nat.eq_zero_or_pos k with q | q
                · have := item_ge hs'; exact Or.inr (by omega)
                · exact Or.inl (by omega)
              rcases hk k hkk with q | q
              · rw [q]; exact ⟨(fun h => nomatch h), fun _ _ _ h' => nomatch h'⟩
              · rw [q]
                refine ⟨(fun h => nomatch h), fun d'' r'' e'' h' => ?_⟩
                simp only [R.ok.injEq, Prod.mk.injEq] at h'
                exact Or.inr (by omega)
          | ix => exact ⟨(fun h => nomatch h), fun _ _ _ h' => nomatch h'⟩
          | de => exact ⟨(fun h => nomatch h), fun _ _ _ h' => nomatch h'⟩
          | out => exact absurd hs' ih.1
        | ix => rw [hl] at h; exact nomatch h
        | de => rw [hl] at h; exact nomatch h
        | out => rw [hl] at h; exact nomatch h
      | ix => rw [hs] at h; exact nomatch h
      | de => rw [hs] at h; exact nomatch h
      | out => rw [hs] at h; exact nomatch h
    · rename_i q
      rw [if_neg q]
      simp only [R.ok.injEq, Prod.mk.injEq] at h
      obtain ⟨_, _, rfl⟩ := h
      refine ⟨(fun h => nomatch h), fun d'' r'' e'' h' => ?_⟩
      simp only [R.ok.injEq, Prod.mk.injEq] at h'
      exact Or.inl h'.2.2.symm
termination_by x dep fin k => (dep, k + 1)
end
end Rlp
end

section
set_option maxRecDepth 100000
set_option linter.unusedVariables false
set_option Elab.async false
open PySem PySem.W PyProof.Rows PySem.Spec PySem.Calls
namespace Mine
open Rlp
open PySem.Builtin.Int (intBits)
section
variable {prog : Program} {w : World} {M : Model} {A : Around} {E : Value → Shared → Prop} {s : Shared} {h₀ : Heap} {L : Addr} {m : Str → Option Value} {news : List (Addr × Obj)}
/-- a ledger's part, in any order -/
theorem News.sub {h₀ h : Heap} {l l' : List (Addr × Obj)} (N : News h₀ L h l) (k : ∀ p ∈ l', p ∈ l) : News h₀ L h l' := fun p hp => N p (k p hp)

/-- a ledger grown: all of the elder stands, what is new lies above it -/
def Grow (l l' : List (Addr × Obj)) : Prop := (∀ p ∈ l, p ∈ l') ∧ ∀ p ∈ l', p ∈ l ∨ ∀ q ∈ l, q.1 < p.1
theorem Grow.refl (l : List (Addr × Obj)) : Grow l l := ⟨fun _ h => h, fun _ h => .inl h⟩
theorem Grow.trans {a b c : List (Addr × Obj)} (x : Grow a b) (y : Grow b c) : Grow a c :=
  ⟨fun p h => y.1 p (x.1 p h), fun p h => (y.2 p h).elim (x.2 p) fun k => .inr fun q hq => k q (x.1 q hq)⟩
theorem Grow.cons {l : List (Addr × Obj)} {a : Addr} {o : Obj} (h : ∀ p ∈ l, p.1 < a) : Grow l ((a, o) :: l) :=
  ⟨fun _ h => .tail _ h, fun p hp => (List.mem_cons.mp hp).elim (fun e => .inr (by subst e; exact h)) .inl⟩
theorem Grow.then {l l' : List (Addr × Obj)} {a : Addr} {o : Obj} (g : Grow l l') (h : ∀ p ∈ l', p.1 < a) : Grow l ((a, o) :: l') := g.trans (.cons h)
theorem low_beK (X : Nat) : ∀ (k : Nat), ((List.range k).map fun i => ((X >>> (8 * i)) % 256).toUInt8).reverse = beK k X := by
  intro k
  induction k generalizing X with
  | zero => rfl
  | succ k ih =>
    rw [List.range_succ_eq_map, List.map_cons, List.map_map, List.reverse_cons, beK, ← ih (X / 256)]
    congr 1
    · congr 1
      refine List.map_congr_left fun i _ => ?_
      show ((X >>> (8 * (i + 1))) % 256).toUInt8 = ((X / 256) >>> (8 * i) % 256).toUInt8
      rw [show 8 * (i + 1) = 8 + 8 * i by omega, Nat.shiftRight_add, show X >>> 8 = X / 256 from Nat.shiftRight_eq_div_pow X 8]
theorem beK_zero : ∀ (j k n : Nat), n < 256 ^ k → beK (j + k) n = List.replicate j 0 ++ beK k n
  | j, 0, n, h => by
    simp at h; subst h
    induction j with
    | zero => rfl
    | succ j ih =>
      simp only [Nat.add_zero] at ih ⊢
      show beK j (0 / 256) ++ [UInt8.ofNat (0 % 256)] = _
      rw [show 0 / 256 = 0 from rfl, ih]
      simp [beK, List.replicate_succ']
  | j, k + 1, n, h => by
    rw [← Nat.add_assoc, beK, beK_zero j k (n / 256) (by rw [Nat.pow_succ] at h; omega), beK, List.append_assoc]
theorem lowBytes_rev {x k : Nat} (h : x < 256 ^ k) : (KTBy.low (x : Int) k).reverse = beK k x := by
  unfold KTBy.low
  generalize ho : min k (intBits (x : Int) / 8 + 1) = own
  have hle : own ≤ k := by omega
  have hown : x < 256 ^ own := by
    by_cases hc : k ≤ intBits (x : Int) / 8 + 1
    · rw [show own = k by omega]; exact h
    · have hb : intBits (x : Int) ≤ 8 * own := by omega
      have hn := intBits_le_iff.mp hb
      have e2 : (2 : Nat) ^ 8 = 256 := by decide
      rw [Nat.pow_mul, e2] at hn
      exact hn
  have hm : (((x : Int) % (256 ^ own : Int)).toNat) = x := by
    rw [KTBy.p256, ← Int.natCast_emod, Nat.mod_eq_of_lt hown, Int.toNat_natCast]
  rw [hm, if_neg (by omega), List.reverse_append, low_beK, List.reverse_replicate, ← beK_zero (k - own) own x hown]
  congr 1; omega
theorem to_big {Q : Value → Shared → Prop} {x k : Nat} {t u v : Tok} (hk : k ≤ 2 ^ 24) (h1 : x < 256 ^ k) (h : ∀ t' k', Q (.bytes (beK k x).toArray t') { s with toks := k' }) :
    wpAny (model prog w) A (call (.builtin "int.to_bytes") [.int (x : Int) t, .int (k : Int) u, .str (PySem.Str.ofString "big") v]) Q E s := by
  refine wpAny_call_entry KTBy.slot (typeIs_int s x t) KTBy.entry ?_ (KTBy.args _ _ _)
  have hb : intBits (x : Int) ≤ 8 * k := by
    refine intBits_le_iff.mpr ?_
    have e2 : (2 : Nat) ^ 8 = 256 := by decide
    rw [Nat.pow_mul, e2]
    omega
  show wpAny _ _ (Builtin.Int.intOfSelf (.int x t) >>= fun y => _) _ _ s
  refine wpAny_bind (wpAny_of_eq (a := (x : Int)) rfl ?_)
  show wpAny _ _ (Builtin.Int.intBindNamed "to_bytes" ["length", "byteorder", "signed"] 0 2 [.int (k : Int) u, .str (PySem.Str.ofString "big") v] [] >>= fun l => _) _ _ s
  refine wpAny_bind (wpAny_of_eq (a := [some (.int (k : Int) u), some (.str (PySem.Str.ofString "big") v), none]) (by kernel_rfl) ?_)
  show wpAny _ _ (Builtin.Int.intIndex "int.to_bytes" (.int (k : Int) u) >>= fun n => _) _ _ s
  refine wpAny_bind (wpAny_of_eq (a := (k : Int)) rfl ?_)
  refine KTBy.if_not (by show (decide ((k : Int) < -(2 ^ 63 : Int)) || decide ((k : Int) ≥ 2 ^ 63)) = false; rw [decide_eq_false (show ¬ ((k : Int) < -(2 ^ 63 : Int)) by omega), decide_eq_false (show ¬ ((k : Int) ≥ 2 ^ 63) by omega)]; rfl) ?_
  refine wpAny_bind (wpAny_of_eq (a := PySem.Str.ofString "big") (by kernel_rfl) ?_)
  refine wpAny_bind (wpAny_of_eq (a := false) rfl ?_)
  refine wpAny_bind (wpAny_of_eq (a := false) (by kernel_rfl) ?_)
  refine wpAny_ite_false (decide_eq_false (show ¬ ((k : Int) < 0) by omega)) ?_
  refine wpAny_ite_false (decide_eq_false (show ¬ ((k : Int) > 2 ^ 63 - 1 - 33) by omega)) ?_
  refine wpAny_ite_false (decide_eq_false (show ¬ ((k : Int) > (sizeLine : Int)) by rw [sizeLine_eq]; omega)) ?_
  refine KTBy.if_not (by show (decide ((x : Int) < 0) && !false) = false; rw [decide_eq_false (show ¬ (x : Int) < 0 by omega)]; rfl) ?_
  refine KTBy.if_not (by show (_ && decide ((intBits (x : Int) : Int) > 8 * (k : Int))) = false; rw [decide_eq_false (show ¬ ((intBits (x : Int) : Int) > 8 * (k : Int)) by omega), Bool.and_false]) ?_
  have e : List.reverse (KTBy.low (x : Int) (Int.toNat (k : Int))) = beK k x := by rw [Int.toNat_natCast, lowBytes_rev h1]
  refine wpAny_bind (wpAny_mkBytes (wpAny_pure ⟨_, rfl, ?_⟩) (by show (List.reverse (KTBy.low (x : Int) (Int.toNat (k : Int)))).length ≤ sizeLine; rw [e, beK_length, sizeLine_eq]; omega))
  show Q (.bytes (List.reverse (KTBy.low (x : Int) (Int.toNat (k : Int)))).toArray _) _
  rw [e]; exact h _ _

theorem fold_ofBe (b : List UInt8) : b.foldl (fun (acc : Int) (c : UInt8) => acc * 256 + (c.toNat : Int)) ((0 : Nat) : Int) = ((ofBe b : Nat) : Int) := KFB.foldI_eq b 0
theorem grown_nat {n k : Nat} {Q : Value → Shared → Prop} (hn : n < 2 ^ k) (hk : k ≤ 2 ^ 26) (h : Q (.int (n : Int) s.toks) { s with toks := s.toks + 1 }) : wpAny M A (mkIntGrown (n : Int)) Q E s := by
  unfold mkIntGrown
  have hl : ¬ ((n : Int).natAbs.log2 ≥ bitsLine) := by
    rw [Int.natAbs_natCast]
    have hb : bitsLine = 134217728 := by first | rfl | decide
    by_cases hz : n = 0
    · subst hz; rw [hb]; decide
    · have h1 := (Nat.log2_lt hz).mpr hn
      omega
  rw [if_neg hl]
  exact wpAny_mkInt h
theorem fb_tree {b : List UInt8} {t u : Tok} {P : Fin → Shared → Prop} (hl : b.length ≤ 2 ^ 23) (h : P (.done (.ret (.int (ofBe b : Nat) s.toks))) { s with toks := s.toks + 1 }) :
    wpAny M A (Builtin.«int.from_bytes» ⟨[.type "int", .bytes b.toArray t, .str (PySem.Str.ofString "big") u], []⟩) P E s := by
  have hn : ofBe b < 2 ^ (8 * b.length) := by
    have := ofBe_lt b
    have e2 : (2 : Nat) ^ 8 = 256 := by decide
    rw [Nat.pow_mul, e2]; exact this
  unfold Builtin.«int.from_bytes»
  refine wpAny_bind (wpAny_of_eq (a := true) KFB.type_int ?_)
  refine KFB.if_not rfl ?_
  refine wpAny_bind (wpAny_of_eq (a := true) F.conv_sub_int ?_)
  refine KFB.if_not rfl ?_
  refine wpAny_bind (wpAny_of_eq (a := [some (.bytes b.toArray t), some (.str (PySem.Str.ofString "big") u), none]) (by kernel_rfl) ?_)
  refine wpAny_bind (wpAny_of_eq (a := PySem.Str.ofString "big") (by kernel_rfl) ?_)
  refine wpAny_bind (wpAny_of_eq (a := false) rfl ?_)
  refine wpAny_bind (wpAny_of_eq (a := false) (by kernel_rfl) ?_)
  refine wpAny_bind (wpAny_of_eq (a := b.toArray) rfl ?_)
  show wpAny _ _ (mkIntGrown (b.toArray.toList.foldl (fun (acc : Int) (b : UInt8) => acc * 256 + (b.toNat : Int)) ((0 : Nat) : Int)) >>= fun v => _) _ _ _
  rw [show b.toArray.toList = b by simp, fold_ofBe]
  refine wpAny_bind (grown_nat hn (by omega) ?_)
  refine KFB.if_so (by decide +kernel) ?_
  exact wpAny_bind (wpAny_pure (wpAny_pure h))
theorem from_big {x : Addr} {b : List UInt8} {t u : Tok} {Q : Value → Shared → Prop} (N : News h₀ L s.heap news) (hm : (x, KFB.bound) ∈ news) (hl : b.length ≤ 2 ^ 23)
    (h : ∀ t' k, Q (.int (ofBe b : Nat) t') { s with toks := k }) : wpAny (model prog w) A (call (.ref x) [.bytes b.toArray t, .str (PySem.Str.ofString "big") u]) Q E s :=
  KFB.call_of (KFB.at_of N hm) (fun z => fb_tree hl z) (h _ _)

theorem slice_bytes {x : List UInt8} {t ta tb : Tok} {a b : Nat} {value slice : Expr} {Q : Value → Shared → Prop} (hF : Fr h₀ L s.heap m) (hN : News h₀ L s.heap news) (hz : x.length ≤ 16777216)
    (h : ∀ h' t' k, Fr h₀ L h' m → News h₀ L h' news → Q (.bytes ((x.drop a).take (b - a)).toArray t') { s with heap := h', toks := k })
    (hs : subscripted slice false (.bytes x.toArray t) (.ref s.heap.objs.size) = operate [.ref s.heap.objs.size, .bytes x.toArray t] (getItem (.bytes x.toArray t) (.ref s.heap.objs.size)) := by with_unfolding_all rfl)
    (ht : ∀ r, letTemporaryGo value (.bytes x.toArray t) r = pure () := by intro _; with_unfolding_all rfl) :
    wpAny (model prog w) A (subscriptTail value slice (.bytes x.toArray t) (.ref s.heap.objs.size)) Q E { s with heap := s.heap.push { cls := .type "slice", data := .fields #[.int (a : Int) ta, .int (b : Int) tb, .none] } } := by
  have e : KBy.picked x.toArray (some (a : Int)) (some (b : Int)) = ((x.drop a).take (b - a)).toArray := by
    rw [KBc.picked_eq]
    simp only [Option.elim, clipAt_nat, List.size_toArray]
    congr 1
    rcases Nat.le_total a x.length with h1 | h1
    · rw [Nat.min_eq_left h1]
      rcases Nat.le_total b x.length with h2 | h2
      · rw [Nat.min_eq_left h2]
      · rw [Nat.min_eq_right h2, List.take_of_length_le (by rw [List.length_drop]; omega), List.take_of_length_le (by rw [List.length_drop]; omega)]
    · rw [Nat.min_eq_right h1, List.drop_eq_nil_of_le (Nat.le_refl _), List.drop_eq_nil_of_le h1]; simp
  have hsz : x.toArray.size = (KBw.bInts x.toArray).length := (KBw.ints_length _).symm
  refine KBc.slice_K hF hN rfl (.int (a : Int) ta) (.int (b : Int) tb) (by rw [KBw.ints_length, List.size_toArray]; exact hz) (fun h' t' k F' N' _ => ?_) hs ht
  rw [e]; exact h h' t' k F' N'
end
end Mine
end

section
set_option maxRecDepth 100000
set_option linter.unusedVariables false
set_option Elab.async false
open PySem PySem.W PyProof.Rows PySem.Spec PySem.Calls
namespace Mine
open Rlp
section
variable {prog : Program} {w : World} {M : Model} {A : Around} {E : Value → Shared → Prop} {s : Shared} {h₀ : Heap} {L : Addr} {m : Str → Option Value} {news : List (Addr × Obj)}
theorem slice_int {x : List UInt8} {t ta tb : Tok} {a b : Int} {value slice : Expr} {Q : Value → Shared → Prop} (hF : Fr h₀ L s.heap m) (hN : News h₀ L s.heap news) (hz : x.length ≤ 16777216)
    (ha : 0 ≤ a) (hb : 0 ≤ b)
    (h : ∀ h' t' k, Fr h₀ L h' m → News h₀ L h' news → Q (.bytes (Rlp.slice x a.toNat (b - a).toNat).toArray t') { s with heap := h', toks := k })
    (hs : subscripted slice false (.bytes x.toArray t) (.ref s.heap.objs.size) = operate [.ref s.heap.objs.size, .bytes x.toArray t] (getItem (.bytes x.toArray t) (.ref s.heap.objs.size)) := by with_unfolding_all rfl)
    (ht : ∀ r, letTemporaryGo value (.bytes x.toArray t) r = pure () := by intro _; with_unfolding_all rfl) :
    wpAny (model prog w) A (subscriptTail value slice (.bytes x.toArray t) (.ref s.heap.objs.size)) Q E { s with heap := s.heap.push { cls := .type "slice", data := .fields #[.int a ta, .int b tb, .none] } } := by
  obtain ⟨i, rfl⟩ := Int.eq_ofNat_of_zero_le ha
  obtain ⟨j, rfl⟩ := Int.eq_ofNat_of_zero_le hb
  refine slice_bytes hF hN hz (fun h' t' k F' N' => ?_) hs ht
  have e : Rlp.slice x (Int.toNat (i : Int)) (Int.toNat ((j : Int) - (i : Int))) = (x.drop i).take (j - i) := by
    unfold Rlp.slice
    congr 1
    omega
  rw [← e]; exact h h' t' k F' N'
/-- what is around a piece within the frame of ev -/
abbrev ktrE (dp un : Nat) (gd : Option (List Code)) (ev : Env) (outer : List Env) : Around := { handled := none, depth := dp, frames := some (ev :: outer), guards := gd, units := un }
theorem ktr_dp {dp un : Nat} {gd : Option (List Code)} {ev : Env} {outer : List Env} : (ktrE dp un gd ev outer).depth = dp := rfl
theorem ktr_un {dp un : Nat} {gd : Option (List Code)} {ev : Env} {outer : List Env} : (ktrE dp un gd ev outer).units = un := rfl
end
end Mine
end

section
open PySem PySem.W PyProof.Rows PySem.Spec PySem.Calls Rlp
set_option Elab.async false
set_option maxRecDepth 100000
set_option maxHeartbeats 0
set_option linter.unusedVariables false
namespace Mine
open PySem.Builtin.Int (intBits)
abbrev pg : Program := PySem.Challenge.pw_bi0020_01
theorem fillK : (fun (_ : OpenLaw) (_ : Params → Frag) => True) PySem.Challenge.rw_bi0020_01 K := by
  k_fill
  trivial
local macro_rules | `(tactic| walk_at "ENTER0") => `(tactic| (refine wpAny_call ?_; k_dflt (refine' code_def ?k1 ?k2 ?k3 ?k4 ?k5 ?kA ?kF ?kK ?k6 ?k7 ?k8 ?k9 ?kB ?_ ?c2 ?c3 ?c4 ?c5; (case kA => exact rfl); (case kF => exact And.right (by assumption)); (case kK => exact And.left (by assumption)); (case k1 => k_asm); (case k2 => k_asm); (case k3 => k_asm); (case k4 => k_asm); (case k5 => k_asm); (case k6 => k_is); (case k7 => k_is); (case k8 => ktr_room); (case k9 => exact BindsTo.of_eq rfl); (case c5 => decide); (case kB => exact locs rfl); (case c2 => exact rfl); (case c3 => exact rfl); (case c4 => exact rfl); k_whole; intro g' L' h' FG' F' N' B' X' T'; (try dsimp only); (try k_fold))))
local macro_rules | `(tactic| walk_at "ENTER") => `(tactic| (walk_at "ENTER0"; k_steps))
theorem octs_bits {n : Nat} (h : 0 < n) : octs n = (intBits (n : Int) + 7) / 8 := by
  have e2 : (2 : Nat) ^ 8 = 256 := by decide
  have hb0 : ¬ intBits (n : Int) ≤ 0 := by
    rw [intBits_le_iff]; simp; omega
  have h1 : octs n ≤ (intBits (n : Int) + 7) / 8 := by
    refine octs_le (by omega) ?_
    have := (intBits_le_iff (x := (n : Int)) (m := 8 * ((intBits (n : Int) + 7) / 8))).mp (by omega)
    rw [Nat.pow_mul, e2] at this
    simpa using this
  have h2 : intBits (n : Int) ≤ 8 * octs n := by
    rw [intBits_le_iff, Nat.pow_mul, e2]
    simpa using lt_octs n
  omega
theorem all_bytes (P : Params) : (K P).lookup 1450 = some ⟨.type "tuple", none, .seq ((List.range 256).map fun i => Value.bytes ⟨[UInt8.ofNat i]⟩ (397 + 3 * i)).toArray 0, ⟨[]⟩⟩ := by kernel_rfl!
section
variable {w : World} {p : Program} {loose : List Str} {mean : ExcName → Option Value} {mg mb : Str → Option Value} {dp un : Nat} {gd : Option (List Code)} {ev : Env} {outer : List Env} {A₀ : Around} {base h₀ : Heap} {L : Addr} {m : Str → Option Value} {news : List (Addr × Obj)} {s : Shared} {Q E : Value → Shared → Prop}
theorem i2b {n : Nat} {t : Tok}
    (B : Below A₀ base outer h₀) (F : Fr h₀ L s.heap m) (X : (K w.params).In h₀) (N : News h₀ L s.heap news) (T : Top p loose mean mg mb h₀) (hk : ev.scope.kind = .function ∧ ev.frame = some L)
    (hd : dp + 10 < recursionLimit) (hu : un + 40 < cLine) (hn : octs n ≤ 2 ^ 23)
    (hret : ∀ h' tk' tk, Fr h₀ L h' m → News h₀ L h' news → Q (.bytes (be n).toArray tk) { s with heap := h', toks := tk' }) :
    wpAny (model pg w) (ktrE dp un gd ev outer) (call (.ref 1471) [.int n t]) Q E s := by
  walk_at "ENTER"
  · rename_i hb
    have h0 : 0 < n := by
      rcases Nat.eq_zero_or_pos n with q | q
      · subst q; exact absurd rfl hb
      · exact q
    have e : ((intBits (n : Int) : Int) + 7).fdiv 8 = ((octs n : Nat) : Int) := by
      rw [octs_bits h0, Int.fdiv_eq_ediv_of_nonneg _ (by decide)]; omega
    rw [e]
    refine to_big (by omega) (lt_octs n) fun t' k' => ?_
    k_steps
    exact hret _ _ _ (by k_asm) (by k_asm)
  · rename_i hb
    have h0 : n = 0 := by
      rcases Nat.eq_zero_or_pos n with q | q
      · exact q
      · have e : ((intBits (n : Int) : Int) + 7).fdiv 8 = ((octs n : Nat) : Int) := by
          rw [octs_bits q, Int.fdiv_eq_ediv_of_nonneg _ (by decide)]; omega
        have := octs_pos n
        rw [e] at hb
        omega
    subst h0
    refine to_big (k := 1) (by decide) (by decide) fun t' k' => ?_
    k_steps
    have e : beK 1 0 = be 0 := by decide +kernel
    rw [e]
    exact hret _ _ _ (by k_asm) (by k_asm)
theorem allb {value slice : Expr} {k : Int} {u : Tok} {n : Nat} {A : Around} {Q : Value → Shared → Prop} (F : Fr h₀ L s.heap m) (X : (K w.params).In h₀) (hk : k = (n : Int)) (hn : n < 256) (h : ∀ t', Q (.bytes [UInt8.ofNat n].toArray t') s)
    (hs : subscripted slice false (.ref 1450) (.int k u) = operate [.ref 1450, .int k u] (getItem (.ref 1450) (.int k u)) := by with_unfolding_all rfl) :
    wpAny (model pg w) A (subscriptTail value slice (.ref 1450) (.int k u)) Q E s := by
  subst hk
  refine topTup_K (j := n) F X (all_bytes _) (by omega) (by omega) ?_ (v := .bytes ⟨[UInt8.ofNat n]⟩ (397 + 3 * n)) ?_ (h _) hs
  · unfold seqIndex?
    simp only [List.length_map, List.length_range]
    have h1 : ¬ ((n : Int) < 0) := by omega
    simp [h1]; omega
  · rw [List.getElem?_map, List.getElem?_range hn]; rfl
local macro_rules | `(tactic| walk_at "bsz") => `(tactic| ((try simp only [List.size_toArray, List.length_append, List.length_cons, List.length_nil, be_length, beK_length]); omega))
local macro_rules | `(tactic| walk_at "call builtin:len") => `(tactic| ((with_reducible show wpAny _ _ (call (Value.builtin _) [Value.bytes (List.toArray _) _]) _ _ _); refine len_bytes (by walk_at "bsz") ?_; (try simp only [List.size_toArray, be_length])))
local macro_rules | `(tactic| walk_at "binaryOp Add bytes bytes") => `(tactic| ((with_reducible show wpAny _ _ (binaryOp Operator.Add (Value.bytes (List.toArray _) _) (Value.bytes (List.toArray _) _)) _ _ _); refine KBy.add_bytes (by walk_at "bsz") ?_; intro _ _; (try simp only [List.append_toArray, List.cons_append, List.nil_append])))
theorem lp {n off : Nat} {t u : Tok}
    (B : Below A₀ base outer h₀) (F : Fr h₀ L s.heap m) (X : (K w.params).In h₀) (N : News h₀ L s.heap news) (T : Top p loose mean mg mb h₀) (hk : ev.scope.kind = .function ∧ ev.frame = some L)
    (hd : dp + 20 < recursionLimit) (hu : un + 60 < cLine) (hn : n < 2 ^ 24) (ho : off = 128 ∨ off = 192)
    (hret : ∀ h' tk' tk, Fr h₀ L h' m → News h₀ L h' news → Q (.bytes (pre n off).toArray tk) { s with heap := h', toks := tk' }) :
    wpAny (model pg w) (ktrE dp un gd ev outer) (call (.ref 1729) [.int n t, .int off u]) Q E s := by
  walk_at "ENTER"
  · rename_i hb
    have hn' : n < 56 := by omega
    refine allb (n := off + n) (by k_asm) (by k_asm) (by omega) (by omega) fun t' => ?_
    k_steps
    have e : pre n off = [UInt8.ofNat (off + n)] := by unfold pre; rw [if_pos hn']
    rw [← e]
    exact hret _ _ _ (by k_asm) (by k_asm)
  · have h56 : ¬ n < 56 := by omega
    have ho8 : octs n ≤ 8 := octs_le (by decide) (by omega)
    k_dflt (refine' i2b ?k1 ?k2 ?k3 ?k4 ?k5 ?k6 ?k7 ?k8 ?k9 ?_; (case k1 => k_asm); (case k2 => k_asm); (case k3 => k_asm); (case k4 => k_asm); (case k5 => k_asm); (case k6 => exact ⟨rfl, rfl⟩); (case k7 => (show dp + 1 + 10 < recursionLimit); omega); (case k8 => (show un + 3 + 40 < cLine); omega); (case k9 => omega))
    intro h' tk' tk F1 N1
    k_steps
    refine allb (n := off + 55 + octs n) (by k_asm) (by k_asm) (by omega) (by omega) fun t' => ?_
    k_steps
    have e : pre n off = UInt8.ofNat (off + 55 + octs n) :: be n := by unfold pre; rw [if_neg h56]
    rw [← e]
    exact hret _ _ _ (by k_asm) (by k_asm)
end
end Mine
end

section
open PySem PySem.W PyProof.Rows PySem.Spec PySem.Calls Rlp
set_option Elab.async false
set_option maxRecDepth 100000
set_option maxHeartbeats 0
set_option linter.unusedVariables false
namespace Mine
theorem fillK2 : (fun (_ : OpenLaw) (_ : Params → Frag) => True) PySem.Challenge.rw_bi0020_01 K := by
  k_fill
  trivial
local macro_rules | `(tactic| walk_at "nil9") => `(tactic| fail "none")
local macro_rules | `(tactic| walk_at "ENTER0") => `(tactic| (refine wpAny_call ?_; k_dflt (refine' code_def ?k1 ?k2 ?k3 ?k4 ?k5 ?kA ?kF ?kK ?k6 ?k7 ?k8 ?k9 ?kB ?_ ?c2 ?c3 ?c4 ?c5; (case kA => exact rfl); (case kF => exact And.right (by assumption)); (case kK => exact And.left (by assumption)); (case k1 => k_asm); (case k2 => k_asm); (case k3 => k_asm); (case k4 => k_asm); (case k5 => k_asm); (case k6 => k_is); (case k7 => k_is); (case k8 => ktr_room); (case k9 => exact BindsTo.of_eq rfl); (case c5 => decide); (case kB => exact locs rfl); (case c2 => exact rfl); (case c3 => exact rfl); (case c4 => exact rfl); k_whole; intro g' L' h' FG' F' N' B' X' T'; (try dsimp only); (try k_fold))))
local macro_rules | `(tactic| walk_at "ENTER") => `(tactic| (walk_at "ENTER0"; k_steps))
local macro_rules | `(tactic| walk_at "bsz") => `(tactic| ((try simp only [List.size_toArray, List.length_append, List.length_cons, List.length_nil, be_length, beK_length]); omega))
local macro_rules | `(tactic| walk_at "call builtin:len") => `(tactic| ((with_reducible show wpAny _ _ (call (Value.builtin _) [Value.bytes (List.toArray _) _]) _ _ _); refine len_bytes (by walk_at "bsz") ?_; (try simp only [List.size_toArray, be_length])))
local macro_rules | `(tactic| walk_at "binaryOp Add bytes bytes") => `(tactic| ((with_reducible show wpAny _ _ (binaryOp Operator.Add (Value.bytes (List.toArray _) _) (Value.bytes (List.toArray _) _)) _ _ _); refine KBy.add_bytes (by walk_at "bsz") ?_; intro _ _; (try simp only [List.append_toArray, List.cons_append, List.nil_append])))
theorem pre_le {n : Nat} (off : Nat) (h : n < 256 ^ 8) : (pre n off).length ≤ 9 := by
  unfold pre
  split
  · simp
  · have := octs_le (n := n) (k := 8) (by decide) h
    simp [be_length]; omega
section
variable {w : World} {p : Program} {loose : List Str} {mean : ExcName → Option Value} {mg mb : Str → Option Value} {dp un : Nat} {gd : Option (List Code)} {ev : Env} {outer : List Env} {A₀ : Around} {base h₀ : Heap} {L : Addr} {m : Str → Option Value} {news : List (Addr × Obj)} {s : Shared} {Q E : Value → Shared → Prop}
theorem er_b {x : List UInt8} {t : Tok}
    (B : Below A₀ base outer h₀) (F : Fr h₀ L s.heap m) (X : (K w.params).In h₀) (N : News h₀ L s.heap news) (T : Top p loose mean mg mb h₀) (hk : ev.scope.kind = .function ∧ ev.frame = some L)
    (hd : dp + 30 < recursionLimit) (hu : un + 80 < cLine) (hx : x.length < 2 ^ 23)
    (hret : ∀ h' tk' tk, Fr h₀ L h' m → News h₀ L h' news → Q (.bytes (enc (.b x)).toArray tk) { s with heap := h', toks := tk' }) :
    wpAny (model pg w) (ktrE dp un gd ev outer) (call (.ref 1707) [.bytes x.toArray t]) Q E s := by
  walk_at "ENTER"
  · have h1 : x.length = 1 := by omega
    have h2 : ((x.getD (Int.toNat 0) 0).toNat : Int) < 128 := by assumption
    have e : enc (.b x) = x := by
      obtain ⟨c, rfl⟩ := List.length_eq_one_iff.mp h1
      have : c.toNat < 128 := by simp at h2; omega
      simp [enc, this]
    rw [← e]
    exact hret _ _ _ (by k_asm) (News.sub (by k_asm) fun _ h => .tail _ h)
  · have h1 : x.length = 1 := by omega
    have h2 : ¬ ((x.getD (Int.toNat 0) 0).toNat : Int) < 128 := by assumption
    have e : enc (.b x) = pre x.length 128 ++ x := by
      obtain ⟨c, rfl⟩ := List.length_eq_one_iff.mp h1
      have : ¬ c.toNat < 128 := by simp at h2; omega
      simp [enc, this]
    k_dflt (refine' lp (off := 128) ?k1 ?k2 ?k3 ?k4 ?k5 ?k6 ?k7 ?k8 ?k9 ?k0 ?_; (case k1 => k_asm); (case k2 => k_asm); (case k3 => k_asm); (case k4 => k_asm); (case k5 => k_asm); (case k6 => exact ⟨rfl, rfl⟩); (case k7 => (show dp + 1 + 20 < recursionLimit); omega); (case k8 => (show un + 3 + 60 < cLine); omega); (case k9 => omega); (case k0 => exact Or.inl rfl))
    intro h' tk' tk F1 N1
    have hp := pre_le (n := x.length) 128 (by omega)
    k_steps
    rw [← e]
    exact hret _ _ _ (by k_asm) (News.sub (by k_asm) fun _ h => .tail _ h)
  · have h1 : x.length ≠ 1 := by omega
    have e : enc (.b x) = pre x.length 128 ++ x := by
      unfold enc
      split
      · exact absurd rfl h1
      · rfl
    k_dflt (refine' lp (off := 128) ?k1 ?k2 ?k3 ?k4 ?k5 ?k6 ?k7 ?k8 ?k9 ?k0 ?_; (case k1 => k_asm); (case k2 => k_asm); (case k3 => k_asm); (case k4 => k_asm); (case k5 => k_asm); (case k6 => exact ⟨rfl, rfl⟩); (case k7 => (show dp + 1 + 20 < recursionLimit); omega); (case k8 => (show un + 3 + 60 < cLine); omega); (case k9 => omega); (case k0 => exact Or.inl rfl))
    intro h' tk' tk F1 N1
    have hp := pre_le (n := x.length) 128 (by omega)
    k_steps
    rw [← e]
    exact hret _ _ _ (by k_asm) (News.sub (by k_asm) fun _ h => .tail _ h)
end
end Mine
end

section
open PySem PySem.W PyProof.Rows PySem.Spec PySem.Calls Rlp
set_option Elab.async false
set_option maxRecDepth 100000
set_option maxHeartbeats 0
set_option linter.unusedVariables false
namespace Mine
theorem fillK3 : (fun (_ : OpenLaw) (_ : Params → Frag) => True) PySem.Challenge.rw_bi0020_01 K := by
  k_fill
  trivial
local macro_rules | `(tactic| walk_at "ENTER0") => `(tactic| (refine wpAny_call ?_; k_dflt (refine' code_def ?k1 ?k2 ?k3 ?k4 ?k5 ?kA ?kF ?kK ?k6 ?k7 ?k8 ?k9 ?kB ?_ ?c2 ?c3 ?c4 ?c5; (case kA => exact rfl); (case kF => exact And.right (by assumption)); (case kK => exact And.left (by assumption)); (case k1 => k_asm); (case k2 => k_asm); (case k3 => k_asm); (case k4 => k_asm); (case k5 => k_asm); (case k6 => k_is); (case k7 => k_is); (case k8 => ktr_room); (case k9 => exact BindsTo.of_eq rfl); (case c5 => decide); (case kB => exact locs rfl); (case c2 => exact rfl); (case c3 => exact rfl); (case c4 => exact rfl); k_whole; intro g' L' h' FG' F' N' B' X' T'; (try dsimp only); (try k_fold))))
local macro_rules | `(tactic| walk_at "ENTER") => `(tactic| (walk_at "ENTER0"; k_steps))
local macro_rules | `(tactic| walk_at "bsz") => `(tactic| ((try simp only [List.size_toArray, List.length_append, List.length_cons, List.length_nil, be_length, beK_length]); omega))
local macro_rules | `(tactic| walk_at "call builtin:len") => `(tactic| ((with_reducible show wpAny _ _ (call (Value.builtin _) [Value.bytes (List.toArray _) _]) _ _ _); refine len_bytes (by walk_at "bsz") ?_; (try simp only [List.size_toArray, be_length])))
local macro_rules | `(tactic| walk_at "binaryOp Add bytes bytes") => `(tactic| ((with_reducible show wpAny _ _ (binaryOp Operator.Add (Value.bytes (List.toArray _) _) (Value.bytes (List.toArray _) _)) _ _ _); refine KBy.add_bytes (by walk_at "bsz") ?_; intro _ _; (try simp only [List.append_toArray, List.cons_append, List.nil_append])))
section
variable {w : World} {p : Program} {loose : List Str} {mean : ExcName → Option Value} {mg mb : Str → Option Value} {dp un : Nat} {gd : Option (List Code)} {ev : Env} {outer : List Env} {A₀ : Around} {base h₀ : Heap} {L : Addr} {m : Str → Option Value} {news : List (Addr × Obj)} {s : Shared} {Q E : Value → Shared → Prop}
theorem b2i {x : List UInt8} {t : Tok}
    (B : Below A₀ base outer h₀) (F : Fr h₀ L s.heap m) (X : (K w.params).In h₀) (N : News h₀ L s.heap news) (T : Top p loose mean mg mb h₀) (hk : ev.scope.kind = .function ∧ ev.frame = some L)
    (hd : dp + 10 < recursionLimit) (hu : un + 40 < cLine) (hx : x.length ≤ 2 ^ 23)
    (hret : ∀ h' tk' tk, Fr h₀ L h' m → News h₀ L h' news → Q (.int (ofBe x : Nat) tk) { s with heap := h', toks := tk' }) :
    wpAny (model pg w) (ktrE dp un gd ev outer) (call (.ref 1464) [.bytes x.toArray t]) Q E s := by
  walk_at "ENTER"
  refine from_big (by k_asm) (by k_mem) hx fun t' k => ?_
  k_steps
  exact hret _ _ _ (by k_asm) (News.sub (by k_asm) fun _ h => .tail _ h)
theorem is_b {b : Array UInt8} {t : Tok}
    (B : Below A₀ base outer h₀) (F : Fr h₀ L s.heap m) (X : (K w.params).In h₀) (N : News h₀ L s.heap news) (T : Top p loose mean mg mb h₀) (hk : ev.scope.kind = .function ∧ ev.frame = some L)
    (hd : dp + 10 < recursionLimit) (hu : un + 40 < cLine)
    (hret : ∀ h' tk', Fr h₀ L h' m → News h₀ L h' news → Q (.bool true) { s with heap := h', toks := tk' }) :
    wpAny (model pg w) (ktrE dp un gd ev outer) (call (.ref 1457) [.bytes b t]) Q E s := by
  walk_at "ENTER"
  exact hret _ _ (by k_asm) (News.sub (by k_asm) fun _ h => .tail _ h)
/-- the octets of a number by the plain sedes -/
def ser0 (n : Nat) : List UInt8 := if n = 0 then [] else be n
end
end Mine
end

section
open PySem PySem.W PyProof.Rows PySem.Spec PySem.Calls Rlp
set_option Elab.async false
set_option maxRecDepth 100000
set_option maxHeartbeats 0
set_option linter.unusedVariables false
namespace Mine
theorem fillK4 : (fun (_ : OpenLaw) (_ : Params → Frag) => True) PySem.Challenge.rw_bi0020_01 K := by
  k_fill
  trivial
local macro_rules | `(tactic| walk_at "ENTER0") => `(tactic| (refine wpAny_call ?_; k_dflt (refine' code_def ?k1 ?k2 ?k3 ?k4 ?k5 ?kA ?kF ?kK ?k6 ?k7 ?k8 ?k9 ?kB ?_ ?c2 ?c3 ?c4 ?c5; (case kA => exact rfl); (case kF => exact And.right (by assumption)); (case kK => exact And.left (by assumption)); (case k1 => k_asm); (case k2 => k_asm); (case k3 => k_asm); (case k4 => k_asm); (case k5 => k_asm); (case k6 => k_is); (case k7 => k_is); (case k8 => ktr_room); (case k9 => exact BindsTo.of_eq rfl); (case c5 => decide); (case kB => exact locs rfl); (case c2 => exact rfl); (case c3 => exact rfl); (case c4 => exact rfl); k_whole; intro g' L' h' FG' F' N' B' X' T'; (try dsimp only); (try k_fold))))
local macro_rules | `(tactic| walk_at "ENTER") => `(tactic| (walk_at "ENTER0"; k_steps))
local macro_rules | `(tactic| walk_at "bsz") => `(tactic| ((try simp only [List.size_toArray, List.length_append, List.length_cons, List.length_nil, be_length, beK_length, slice_length]); omega))
local macro_rules | `(tactic| walk_at "call builtin:len") => `(tactic| ((with_reducible show wpAny _ _ (call (Value.builtin _) [Value.bytes (List.toArray _) _]) _ _ _); refine len_bytes (by walk_at "bsz") ?_; (try simp only [List.size_toArray, be_length])))
local macro_rules | `(tactic| walk_at "binaryOp Add bytes bytes") => `(tactic| ((with_reducible show wpAny _ _ (binaryOp Operator.Add (Value.bytes (List.toArray _) _) (Value.bytes (List.toArray _) _)) _ _ _); refine KBy.add_bytes (by walk_at "bsz") ?_; intro _ _; (try simp only [List.append_toArray, List.cons_append, List.nil_append])))
local macro_rules | `(tactic| walk_at "subscriptTail") => `(tactic| ((with_reducible show wpAny _ _ (subscriptTail _ _ (Value.bytes (List.toArray _) _) (Value.ref _)) _ _ _); refine slice_int (s := ⟨_, _, _, _, _⟩) (by k_asm) (by k_asm) (by omega) (by omega) (by omega) ?_; intro _ _ _ _ _))
local macro_rules | `(tactic| walk_at "dp") => `(tactic| ((show _ + _ < _); simp only [ktr_dp, ktr_un]; omega))
local macro_rules | `(tactic| walk_at "call ref") => `(tactic| ((with_reducible show wpAny _ _ (call (Value.ref 1464) _) _ _ _); (k_dflt (refine' b2i ?k1 ?k2 ?k3 ?k4 ?k5 ?k6 ?k7 ?k8 ?k9 ?_; (case k1 => k_asm); (case k2 => k_asm); (case k3 => k_asm); (case k4 => k_asm); (case k5 => k_asm); (case k6 => exact ⟨rfl, rfl⟩); (case k7 => walk_at "dp"); (case k8 => walk_at "dp"); (case k9 => walk_at "bsz"))); intro _ _ _ _ _))
theorem tup_new {h₀ hh : Heap} {L : Addr} {b : Addr} {nw : List (Addr × Obj)} {q q' : List UInt8} {z z' : Str} {l l' e e' : Int} {t1 t2 t3 t4 : Tok}
    (h : News h₀ L hh ((b, (⟨.type "tuple", none, .seq #[.bytes q'.toArray t1, .str z' t2, .int l' t3, .int e' t4] 0, ⟨[]⟩⟩ : Obj)) :: nw)) (hq : q' = q) (hz : z' = z) (hl : l' = l) (he : e' = e) :
    News h₀ L hh ((b, (⟨.type "tuple", none, .seq #[.bytes q.toArray t1, .str z t2, .int l t3, .int e t4] 0, ⟨[]⟩⟩ : Obj)) :: nw) := by
  subst hq hz hl he; exact h
section
variable {w : World} {p : Program} {loose : List Str} {mean : ExcName → Option Value} {mg mb : Str → Option Value} {dp un : Nat} {gd : Option (List Code)} {ev : Env} {outer : List Env} {A₀ : Around} {base h₀ : Heap} {L : Addr} {m : Str → Option Value} {news : List (Addr × Obj)} {s : Shared} {Q E : Value → Shared → Prop}
theorem clp_ok {x : List UInt8} {st : Nat} {t u : Tok}
    (B : Below A₀ base outer h₀) (F : Fr h₀ L s.heap m) (X : (K w.params).In h₀) (N : News h₀ L s.heap news) (T : Top p loose mean mg mb h₀) (hk : ev.scope.kind = .function ∧ ev.frame = some L)
    (hd : dp + 20 < recursionLimit) (hu : un + 60 < cLine) (hx : x.length < 2 ^ 23) {q : List UInt8} {row : Bool} {l e : Nat} (hc : clp x st = .ok (q, row, l, e))
    (hret : ∀ h' tk' b t1 t2 t3 t4, Fr h₀ L h' m → News h₀ L h' ((b, (⟨.type "tuple", none, .seq #[.bytes q.toArray t1, .str (Str.ofString (if row then "list" else "bytes")) t2, .int (l : Nat) t3, .int (e : Nat) t4] 0, ⟨[]⟩⟩ : Obj)) :: news) → (∀ p ∈ news, p.1 < b) → Q (.ref b) { s with heap := h', toks := tk' }) :
    wpAny (model pg w) (ktrE dp un gd ev outer) (call (.ref 1736) [.bytes x.toArray t, .int st u]) Q E s := by
  have hst : st < x.length := (clp_ge hc).2.2.2
  obtain ⟨c, hcc⟩ : ∃ c, x[st]? = some c := ⟨_, List.getElem?_eq_getElem hst⟩
  have hcn : (x.getD (Int.toNat (st : Int)) 0).toNat = c.toNat := by simp [List.getD, hcc]
  unfold clp at hc
  rw [hcc] at hc
  dsimp only at hc
  have h129 : c.toNat = 129 → st + 1 < x.length := by
    intro h9
    simp only [h9] at hc
    cases hg : x[st + 1]? with
    | none => simp [hg] at hc
    | some c' => exact (List.getElem?_eq_some_iff.mp hg).1
  walk_at "ENTER"
  · rw [if_pos (by omega)] at hc
    simp only [R.ok.injEq, Prod.mk.injEq] at hc
    obtain ⟨rfl, rfl, rfl, rfl⟩ := hc
    exact hret _ _ _ _ _ _ _ (by k_asm) (tup_new (by k_asm) rfl rfl rfl rfl) (by assumption)
  · exfalso
    rw [if_neg (by omega), if_pos (by omega), if_pos (by omega)] at hc
    have h1 := h129 (by omega)
    rw [List.getElem?_eq_getElem h1] at hc
    have e1 : x.getD (Int.toNat ((st : Int) + 1)) 0 = x[st + 1] := by
      rw [show Int.toNat ((st : Int) + 1) = st + 1 by omega]; simp [List.getD, h1]
    simp only [e1] at *
    rw [if_pos (by omega)] at hc
    cases hc
  · rw [if_neg (by omega), if_pos (by omega), if_pos (by omega)] at hc
    have h1 := h129 (by omega)
    rw [List.getElem?_eq_getElem h1] at hc
    have e1 : x.getD (Int.toNat ((st : Int) + 1)) 0 = x[st + 1] := by
      rw [show Int.toNat ((st : Int) + 1) = st + 1 by omega]; simp [List.getD, h1]
    have h2 : ¬ (((x.getD (Int.toNat ((st : Int) + 1)) 0).toNat : Nat) : Int) < 128 := by assumption
    rw [e1] at h2
    simp only at hc
    rw [if_neg (by omega)] at hc
    simp only [R.ok.injEq, Prod.mk.injEq] at hc
    obtain ⟨rfl, rfl, rfl, rfl⟩ := hc
    exact hret _ _ _ _ _ _ _ (by k_asm) (tup_new (by k_asm) (by congr 1; omega) rfl (by omega) (by omega)) (by assumption)
  · rw [if_neg (by omega), if_pos (by omega), if_neg (by omega)] at hc
    simp only [R.ok.injEq, Prod.mk.injEq] at hc
    obtain ⟨rfl, rfl, rfl, rfl⟩ := hc
    exact hret _ _ _ _ _ _ _ (by k_asm) (tup_new (by k_asm) (by congr 1; omega) rfl (by omega) (by omega)) (by assumption)
  · exfalso
    rw [if_neg (by omega), if_neg (by omega), if_pos (by omega)] at hc
    have h2 : ((slice x (Int.toNat ((st : Int) + 1)) (Int.toNat ((st : Int) + 2 - (st + 1)))).toArray.toList == #[0].toList) = true := by assumption
    rw [show Int.toNat ((st : Int) + 1) = st + 1 by omega, show Int.toNat ((st : Int) + 2 - (st + 1)) = 1 by omega] at h2
    rw [if_pos (by simpa using h2)] at hc
    cases hc
  · exfalso
    rw [if_neg (by omega), if_neg (by omega), if_pos (by omega)] at hc
    have h3 : ((ofBe (slice x (Int.toNat ((st : Int) + 1)) (Int.toNat ((st : Int) + 1 + ((((x.getD (Int.toNat (st : Int)) 0).toNat : Nat) : Int) - 183) - (st + 1)))) : Nat) : Int) < 56 := by assumption
    rw [show Int.toNat ((st : Int) + 1) = st + 1 by omega, show Int.toNat ((st : Int) + 1 + ((((x.getD (Int.toNat (st : Int)) 0).toNat : Nat) : Int) - 183) - (st + 1)) = c.toNat - 183 by omega] at h3
    split at hc
    · cases hc
    · rw [if_pos (by omega)] at hc
      cases hc
  · rw [if_neg (by omega), if_neg (by omega), if_pos (by omega)] at hc
    have h2 : ((slice x (Int.toNat ((st : Int) + 1)) (Int.toNat ((st : Int) + 2 - (st + 1)))).toArray.toList == #[0].toList) = false := by assumption
    rw [show Int.toNat ((st : Int) + 1) = st + 1 by omega, show Int.toNat ((st : Int) + 2 - (st + 1)) = 1 by omega] at h2
    have h3 : ¬ ((ofBe (slice x (Int.toNat ((st : Int) + 1)) (Int.toNat ((st : Int) + 1 + ((((x.getD (Int.toNat (st : Int)) 0).toNat : Nat) : Int) - 183) - (st + 1)))) : Nat) : Int) < 56 := by assumption
    have e1 : Int.toNat ((st : Int) + 1) = st + 1 := by omega
    have e2 : Int.toNat ((st : Int) + 1 + ((((x.getD (Int.toNat (st : Int)) 0).toNat : Nat) : Int) - 183) - (st + 1)) = c.toNat - 183 := by omega
    rw [e1, e2] at h3
    rw [if_neg (by simpa using h2), if_neg (by omega)] at hc
    simp only [R.ok.injEq, Prod.mk.injEq] at hc
    obtain ⟨rfl, rfl, rfl, rfl⟩ := hc
    refine hret _ _ _ _ _ _ _ (by k_asm) (tup_new (by k_asm) ?_ rfl ?_ ?_) (by assumption)
    · rw [e1, e2]; congr 1; congr 1; omega
    · rw [e1, e2]
    · omega
  · rw [if_neg (by omega), if_neg (by omega), if_neg (by omega), if_pos (by omega)] at hc
    simp only [R.ok.injEq, Prod.mk.injEq] at hc
    obtain ⟨rfl, rfl, rfl, rfl⟩ := hc
    exact hret _ _ _ _ _ _ _ (by k_asm) (tup_new (by k_asm) (by congr 1; omega) rfl (by omega) (by omega)) (by assumption)
  · exfalso
    rw [if_neg (by omega), if_neg (by omega), if_neg (by omega), if_neg (by omega)] at hc
    have h2 : ((slice x (Int.toNat ((st : Int) + 1)) (Int.toNat ((st : Int) + 2 - (st + 1)))).toArray.toList == #[0].toList) = true := by assumption
    rw [show Int.toNat ((st : Int) + 1) = st + 1 by omega, show Int.toNat ((st : Int) + 2 - (st + 1)) = 1 by omega] at h2
    rw [if_pos (by simpa using h2)] at hc
    cases hc
  · exfalso
    rw [if_neg (by omega), if_neg (by omega), if_neg (by omega), if_neg (by omega)] at hc
    have h3 : ((ofBe (slice x (Int.toNat ((st : Int) + 1)) (Int.toNat ((st : Int) + 1 + ((((x.getD (Int.toNat (st : Int)) 0).toNat : Nat) : Int) - 192 - 56 + 1) - (st + 1)))) : Nat) : Int) < 56 := by assumption
    rw [show Int.toNat ((st : Int) + 1) = st + 1 by omega, show Int.toNat ((st : Int) + 1 + ((((x.getD (Int.toNat (st : Int)) 0).toNat : Nat) : Int) - 192 - 56 + 1) - (st + 1)) = c.toNat - 247 by omega] at h3
    split at hc
    · cases hc
    · rw [if_pos (by omega)] at hc
      cases hc
  · rw [if_neg (by omega), if_neg (by omega), if_neg (by omega), if_neg (by omega)] at hc
    have h2 : ((slice x (Int.toNat ((st : Int) + 1)) (Int.toNat ((st : Int) + 2 - (st + 1)))).toArray.toList == #[0].toList) = false := by assumption
    rw [show Int.toNat ((st : Int) + 1) = st + 1 by omega, show Int.toNat ((st : Int) + 2 - (st + 1)) = 1 by omega] at h2
    have h3 : ¬ ((ofBe (slice x (Int.toNat ((st : Int) + 1)) (Int.toNat ((st : Int) + 1 + ((((x.getD (Int.toNat (st : Int)) 0).toNat : Nat) : Int) - 192 - 56 + 1) - (st + 1)))) : Nat) : Int) < 56 := by assumption
    have e1 : Int.toNat ((st : Int) + 1) = st + 1 := by omega
    have e2 : Int.toNat ((st : Int) + 1 + ((((x.getD (Int.toNat (st : Int)) 0).toNat : Nat) : Int) - 192 - 56 + 1) - (st + 1)) = c.toNat - 247 := by omega
    rw [e1, e2] at h3
    rw [if_neg (by simpa using h2), if_neg (by omega)] at hc
    simp only [R.ok.injEq, Prod.mk.injEq] at hc
    obtain ⟨rfl, rfl, rfl, rfl⟩ := hc
    refine hret _ _ _ _ _ _ _ (by k_asm) (tup_new (by k_asm) ?_ rfl ?_ ?_) (by assumption)
    · rw [e1, e2]; congr 1; congr 1; omega
    · rw [e1, e2]
    · omega
end
end Mine
end

section
open PySem PySem.W PyProof.Rows PySem.Spec PySem.Calls Rlp
set_option Elab.async false
set_option maxRecDepth 100000
set_option maxHeartbeats 0
set_option linter.unusedVariables false
namespace Mine
theorem fillK5 : (fun (_ : OpenLaw) (_ : Params → Frag) => True) PySem.Challenge.rw_bi0020_01 K := by
  k_fill
  trivial
local macro_rules | `(tactic| walk_at "ENTER0") => `(tactic| (refine wpAny_call ?_; k_dflt (refine' code_def ?k1 ?k2 ?k3 ?k4 ?k5 ?kA ?kF ?kK ?k6 ?k7 ?k8 ?k9 ?kB ?_ ?c2 ?c3 ?c4 ?c5; (case kA => exact rfl); (case kF => exact And.right (by assumption)); (case kK => exact And.left (by assumption)); (case k1 => k_asm); (case k2 => k_asm); (case k3 => k_asm); (case k4 => k_asm); (case k5 => k_asm); (case k6 => k_is); (case k7 => k_is); (case k8 => ktr_room); (case k9 => exact BindsTo.of_eq rfl); (case c5 => decide); (case kB => exact locs rfl); (case c2 => exact rfl); (case c3 => exact rfl); (case c4 => exact rfl); k_whole; intro g' L' h' FG' F' N' B' X' T'; (try dsimp only); (try k_fold))))
local macro_rules | `(tactic| walk_at "ENTER") => `(tactic| (walk_at "ENTER0"; k_steps))
local macro_rules | `(tactic| walk_at "bsz") => `(tactic| ((try simp only [List.size_toArray, List.length_append, List.length_cons, List.length_nil, be_length, beK_length, slice_length]); omega))
local macro_rules | `(tactic| walk_at "call builtin:len") => `(tactic| ((with_reducible show wpAny _ _ (call (Value.builtin _) [Value.bytes (List.toArray _) _]) _ _ _); refine len_bytes (by walk_at "bsz") ?_; (try simp only [List.size_toArray, be_length])))
local macro_rules | `(tactic| walk_at "binaryOp Add bytes bytes") => `(tactic| ((with_reducible show wpAny _ _ (binaryOp Operator.Add (Value.bytes (List.toArray _) _) (Value.bytes (List.toArray _) _)) _ _ _); refine KBy.add_bytes (by walk_at "bsz") ?_; intro _ _; (try simp only [List.append_toArray, List.cons_append, List.nil_append])))
local macro_rules | `(tactic| walk_at "subscriptTail") => `(tactic| ((with_reducible show wpAny _ _ (subscriptTail _ _ (Value.bytes (List.toArray _) _) (Value.ref _)) _ _ _); refine slice_int (s := ⟨_, _, _, _, _⟩) (by k_asm) (by k_asm) (by omega) (by omega) (by omega) ?_; intro _ _ _ _ _))
local macro_rules | `(tactic| walk_at "dp") => `(tactic| ((show _ + _ < _); simp only [ktr_dp, ktr_un]; omega))
local macro_rules | `(tactic| walk_at "call ref") => `(tactic| ((with_reducible show wpAny _ _ (call (Value.ref 1464) _) _ _ _); (k_dflt (refine' b2i ?k1 ?k2 ?k3 ?k4 ?k5 ?k6 ?k7 ?k8 ?k9 ?_; (case k1 => k_asm); (case k2 => k_asm); (case k3 => k_asm); (case k4 => k_asm); (case k5 => k_asm); (case k6 => exact ⟨rfl, rfl⟩); (case k7 => walk_at "dp"); (case k8 => walk_at "dp"); (case k9 => walk_at "bsz"))); intro _ _ _ _ _))
theorem Grow.on {l l' : List (Addr × Obj)} {a : Addr} {o : Obj} (g : Grow l l') (h : ∀ p ∈ l, p.1 < a) : Grow l ((a, o) :: l') :=
  ⟨fun _ k => .tail _ (g.1 _ k), fun p hp => (List.mem_cons.mp hp).elim (fun e => .inr (by subst e; exact h)) (g.2 p)⟩
theorem of_allLt {d : Nat} : ∀ {l : List (Addr × Obj)}, AllLt d l → ∀ p ∈ l, p.1 < d
  | [], _, _, hp => nomatch hp
  | _ :: _, h, p, hp => (List.mem_cons.mp hp).elim (fun e => by subst e; exact h.1) (of_allLt h.2 p)
theorem of_allLt1 {d x : Nat} {l : List (Addr × Obj)} (h : x < d ∧ AllLt d l) : ∀ p ∈ l, p.1 < d := of_allLt h.2
theorem of_allLt2 {d x y : Nat} {l : List (Addr × Obj)} (h : x < d ∧ y < d ∧ AllLt d l) : ∀ p ∈ l, p.1 < d := of_allLt h.2.2
theorem of_allLt3 {d x y z : Nat} {l : List (Addr × Obj)} (h : x < d ∧ y < d ∧ z < d ∧ AllLt d l) : ∀ p ∈ l, p.1 < d := of_allLt h.2.2.2
local macro_rules | `(tactic| walk_at "lt_in") => `(tactic| first | assumption | exact of_allLt (by assumption) | exact of_allLt1 (by assumption) | exact of_allLt2 (by assumption) | exact of_allLt3 (by assumption))
mutual
inductive DIn (nw : List (Addr × Obj)) : Value → D → Prop
  | b {x : List UInt8} {t : Tok} : DIn nw (.bytes x.toArray t) (.b x)
  | l {a : Addr} {vs : List Value} {n : Nat} {ds : List D} : (a, (⟨.type "list", none, .seq vs.toArray n, ⟨[]⟩⟩ : Obj)) ∈ nw → DsIn nw vs ds → DIn nw (.ref a) (.l ds)
inductive DsIn (nw : List (Addr × Obj)) : List Value → List D → Prop
  | nil : DsIn nw [] []
  | cons {v : Value} {d : D} {vs : List Value} {ds : List D} : DIn nw v d → DsIn nw vs ds → DsIn nw (v :: vs) (d :: ds)
end
mutual
theorem DIn.mono {l l' : List (Addr × Obj)} (h : ∀ p ∈ l, p ∈ l') : ∀ {v : Value} {d : D}, DIn l v d → DIn l' v d
  | _, _, .b => .b
  | _, _, .l a b => .l (h _ a) (DsIn.mono h b)
theorem DsIn.mono {l l' : List (Addr × Obj)} (h : ∀ p ∈ l, p ∈ l') : ∀ {vs : List Value} {ds : List D}, DsIn l vs ds → DsIn l' vs ds
  | _, _, .nil => .nil
  | _, _, .cons a b => .cons (DIn.mono h a) (DsIn.mono h b)
end
theorem DsIn.snoc {l : List (Addr × Obj)} : ∀ {vs : List Value} {ds : List D} {v : Value} {d : D}, DsIn l vs ds → DIn l v d → DsIn l (vs ++ [v]) (ds ++ [d])
  | _, _, _, _, .nil, h => .cons h .nil
  | _, _, _, _, .cons a b, h => .cons a (DsIn.snoc b h)
theorem slot_mem {b : Addr} {nw : List (Addr × Obj)} {q q' : List UInt8} {v v' : Value} {e e' : Int} {t1 t2 : Tok}
    (h : (b, (⟨.type "tuple", none, .seq #[.bytes q'.toArray t1, v', .int e' t2] 0, ⟨[]⟩⟩ : Obj)) ∈ nw) (hq : q' = q) (hz : v' = v) (he : e' = e) :
    (b, (⟨.type "tuple", none, .seq #[.bytes q.toArray t1, v, .int e t2] 0, ⟨[]⟩⟩ : Obj)) ∈ nw := by
  subst hq hz he; exact h
theorem one_mem {b : Addr} {nw : List (Addr × Obj)} {q q' : List UInt8} {t1 : Tok} {n : Nat}
    (h : (b, (⟨.type "list", none, .seq #[.bytes q'.toArray t1] n, ⟨[]⟩⟩ : Obj)) ∈ nw) (hq : q' = q) :
    (b, (⟨.type "list", none, .seq #[.bytes q.toArray t1] n, ⟨[]⟩⟩ : Obj)) ∈ nw := by
  subst hq; exact h
section
variable {w : World} {p : Program} {loose : List Str} {mean : ExcName → Option Value} {mg mb : Str → Option Value} {dp un : Nat} {gd : Option (List Code)} {ev : Env} {outer : List Env} {A₀ : Around} {base h₀ : Heap} {L : Addr} {m : Str → Option Value} {news : List (Addr × Obj)} {s : Shared} {Q E : Value → Shared → Prop}
theorem pay_b {x q : List UInt8} {e l : Nat} {t t1 t2 t3 t4 : Tok}
    (B : Below A₀ base outer h₀) (F : Fr h₀ L s.heap m) (X : (K w.params).In h₀) (N : News h₀ L s.heap news) (T : Top p loose mean mg mb h₀) (hk : ev.scope.kind = .function ∧ ev.frame = some L)
    (hd : dp + 20 < recursionLimit) (hu : un + 60 < cLine) (hx : x.length < 2 ^ 23) (hq : q.length < 20)
    (hret : ∀ h' tk' b v u2 u3 pr its n Z, Fr h₀ L h' m → News h₀ L h' (Z ++ news) → (∀ p ∈ Z, ∀ r ∈ news, r.1 < p.1) → (b, (⟨.type "tuple", none, .seq #[v, .ref pr, .int ((e + l : Nat) : Int) u2] 0, ⟨[]⟩⟩ : Obj)) ∈ Z → DIn Z v (.b (slice x e l)) → (pr, (⟨.type "list", none, .seq (Value.bytes (q ++ slice x e l).toArray u3 :: its).toArray n, ⟨[]⟩⟩ : Obj)) ∈ Z → Q (.ref b) { s with heap := h', toks := tk' }) :
    wpAny (model pg w) (ktrE dp un gd ev outer) (call (.ref 1743) [.bytes x.toArray t, .bytes q.toArray t1, .int e t2, .str (Str.ofString "bytes") t3, .int l t4]) Q E s := by
  walk_at "ENTER"
  have e1 : slice x (Int.toNat (e : Int)) (Int.toNat ((e : Int) + l - e)) = slice x e l := by congr 1; omega
  refine hret _ _ _ _ _ _ _ [] _ [(_, _), (_, _)] (by k_asm) (by k_asm) (fun p hp => ?_) (slot_mem (.head _) e1 rfl (by omega)) .b (one_mem (.tail _ (.head _)) (by rw [e1]))
  rcases List.mem_cons.mp hp with rfl | hp
  · walk_at "lt_in"
  · rcases List.mem_cons.mp hp with rfl | hp
    · walk_at "lt_in"
    · nomatch hp
end
end Mine
end

section
namespace Rlp
/-- the payload, as consume_payload reckons it -/
def pay (x : List UInt8) (dep : Nat) (q : List UInt8) (row : Bool) (l e : Nat) : R (D × List UInt8 × Nat) :=
  match row with
  | false => .ok (.b (slice x e l), q ++ slice x e l, e + l)
  | true => match clLoop (item x dep) (e + l) (l + 1) e with
    | .ok (ds, rs, e') => if e' > e + l then .de else .ok (.l ds, q ++ rs, e')
    | .ix => .ix | .de => .de | .out => .out
theorem item_pay (x : List UInt8) (dep st : Nat) : item x (dep + 1) st = (match clp x st with
    | .ok (p, row, l, s) => pay x dep p row l s
    | .ix => .ix | .de => .de | .out => .out) := by
  rw [item_succ]
  cases clp x st with
  | ok q => obtain ⟨p, row, l, s⟩ := q; cases row <;> rfl
  | ix => rfl
  | de => rfl
  | out => rfl
theorem item_split {x : List UInt8} {dep st : Nat} {d : D} {r : List UInt8} {e : Nat} (h : item x dep st = .ok (d, r, e)) :
    ∃ k q row l s, dep = k + 1 ∧ clp x st = .ok (q, row, l, s) ∧ pay x k q row l s = .ok (d, r, e) := by
  cases dep with
  | zero => cases h
  | succ k =>
    rw [item_pay] at h
    cases hc : clp x st with
    | ok q => obtain ⟨p, row, l, s⟩ := q; rw [hc] at h; exact ⟨k, p, row, l, s, rfl, rfl, h⟩
    | ix => rw [hc] at h; cases h
    | de => rw [hc] at h; cases h
    | out => rw [hc] at h; cases h
theorem pay_row {x : List UInt8} {k : Nat} {q : List UInt8} {l s : Nat} {d : D} {r : List UInt8} {e : Nat} (h : pay x k q true l s = .ok (d, r, e)) :
    ∃ ds rs, clLoop (item x k) (s + l) (l + 1) s = .ok (ds, rs, e) ∧ e ≤ s + l ∧ d = .l ds ∧ r = q ++ rs := by
  unfold pay at h
  dsimp only at h
  cases hl : clLoop (item x k) (s + l) (l + 1) s with
  | ok v =>
    obtain ⟨ds, rs, e'⟩ := v
    rw [hl] at h
    dsimp only at h
    split at h
    · cases h
    · simp only [R.ok.injEq, Prod.mk.injEq] at h
      obtain ⟨rfl, rfl, rfl⟩ := h
      exact ⟨_, _, rfl, by omega, rfl, rfl⟩
  | ix => rw [hl] at h; cases h
  | de => rw [hl] at h; cases h
  | out => rw [hl] at h; cases h
theorem loop_more {step : Nat → R (D × List UInt8 × Nat)} {fin n next : Nat} {ds : List D} {rs : List UInt8} {e : Nat} (h : clLoop step fin n next = .ok (ds, rs, e)) (hl : next < fin) :
    ∃ n' d r nx ds' rs', step next = .ok (d, r, nx) ∧ clLoop step fin n' nx = .ok (ds', rs', e) ∧ ds = d :: ds' ∧ rs = r ++ rs' := by
  cases n with
  | zero => unfold clLoop at h; rw [if_pos hl] at h; cases h
  | succ n =>
    unfold clLoop at h
    rw [if_pos hl] at h
    cases hs : step next with
    | ok v =>
      obtain ⟨d, r, nx⟩ := v
      rw [hs] at h
      dsimp only at h
      cases hq : clLoop step fin n nx with
      | ok v =>
        obtain ⟨ds', rs', e'⟩ := v
        rw [hq] at h
        simp only [R.ok.injEq, Prod.mk.injEq] at h
        obtain ⟨rfl, rfl, rfl⟩ := h
        exact ⟨n, d, r, nx, ds', rs', rfl, hq, rfl, rfl⟩
      | ix => rw [hq] at h; cases h
      | de => rw [hq] at h; cases h
      | out => rw [hq] at h; cases h
    | ix => rw [hs] at h; cases h
    | de => rw [hs] at h; cases h
    | out => rw [hs] at h; cases h
theorem loop_end {step : Nat → R (D × List UInt8 × Nat)} {fin n next : Nat} {ds : List D} {rs : List UInt8} {e : Nat} (h : clLoop step fin n next = .ok (ds, rs, e)) (hl : ¬ next < fin) :
    ds = [] ∧ rs = [] ∧ e = next := by
  cases n with
  | zero => unfold clLoop at h; rw [if_neg hl] at h; cases h; exact ⟨rfl, rfl, rfl⟩
  | succ n => unfold clLoop at h; rw [if_neg hl] at h; cases h; exact ⟨rfl, rfl, rfl⟩
theorem clp_len {x p : List UInt8} {st l s : Nat} {row : Bool} (h : clp x st = .ok (p, row, l, s)) : p.length ≤ s - st ∧ p.length ≤ x.length - st ∧ p.length ≤ 9 ∧ s ≤ st + 9 := by
  unfold clp at h
  cases hx : x[st]? with
  | none => rw [hx] at h; cases h
  | some c =>
    have hst : st < x.length := (List.getElem?_eq_some_iff.mp hx).1
    have hc : c.toNat < 256 := c.toNat_lt
    rw [hx] at h
    dsimp only at h
    (repeat' split at h) <;> first
      | (simp only [R.ok.injEq, Prod.mk.injEq] at h; obtain ⟨rfl, rfl, rfl, rfl⟩ := h; simp only [List.length_append, slice_length, List.length_nil]; omega)
      | (exact nomatch h)
mutual
theorem item_len : ∀ {x : List UInt8} {dep st : Nat} {d : D} {r : List UInt8} {e : Nat}, item x dep st = .ok (d, r, e) → r.length ≤ x.length - st ∧ r.length ≤ e - st
  | x, 0, st, d, r, e, h => by cases h
  | x, dep + 1, st, d, r, e, h => by
    obtain ⟨k, q, row, l, s, hk, hc, hp⟩ := item_split h
    cases hk
    have h1 := clp_len hc
    have h2 := clp_ge hc
    cases row with
    | false =>
      unfold pay at hp
      simp only [R.ok.injEq, Prod.mk.injEq] at hp
      obtain ⟨_, rfl, rfl⟩ := hp
      simp only [List.length_append, slice_length]
      omega
    | true =>
      obtain ⟨ds, rs, hl, he, rfl, rfl⟩ := pay_row hp
      have h3 := loop_len hl
      have h4 := loop_ge hl
      simp only [List.length_append]
      omega
termination_by x dep => (dep, 0)
theorem loop_len : ∀ {x : List UInt8} {dep fin n next : Nat} {ds : List D} {rs : List UInt8} {e : Nat}, clLoop (item x dep) fin n next = .ok (ds, rs, e) → rs.length ≤ x.length - next ∧ rs.length ≤ e - next ∧ ds.length ≤ x.length - next
  | x, dep, fin, 0, next, ds, rs, e, h => by
    by_cases hl : next < fin
    · unfold clLoop at h; rw [if_pos hl] at h; cases h
    · obtain ⟨rfl, rfl, rfl⟩ := loop_end h hl
      simp
  | x, dep, fin, n + 1, next, ds, rs, e, h => by
    by_cases hl : next < fin
    · unfold clLoop at h
      rw [if_pos hl] at h
      cases hs : item x dep next with
      | ok v =>
        obtain ⟨d, r, nx⟩ := v
        rw [hs] at h
        dsimp only at h
        cases hq : clLoop (item x dep) fin n nx with
        | ok v =>
          obtain ⟨ds', rs', e'⟩ := v
          rw [hq] at h
          simp only [R.ok.injEq, Prod.mk.injEq] at h
          obtain ⟨rfl, rfl, rfl⟩ := h
          have h1 := item_len hs
          have h2 := item_ge hs
          have h3 := loop_len hq
          have h4 := loop_ge hq
          obtain ⟨k, q, row, l, s, hk, hc, hp⟩ := item_split hs
          have h5 := clp_ge hc
          simp only [List.length_append, List.length_cons]
          omega
        | ix => rw [hq] at h; cases h
        | de => rw [hq] at h; cases h
        | out => rw [hq] at h; cases h
      | ix => rw [hs] at h; cases h
      | de => rw [hs] at h; cases h
      | out => rw [hs] at h; cases h
    · obtain ⟨rfl, rfl, rfl⟩ := loop_end h hl
      simp
termination_by x dep fin n => (dep, n + 1)
end
end Rlp
end

section
set_option maxRecDepth 100000
set_option linter.unusedVariables false
set_option Elab.async false
open PySem PySem.W PyProof.Rows PySem.Spec PySem.Calls
namespace Mine
open Rlp
theorem noI_bytes_add : typeLookup (.type "bytes") (dunderI "add") = pure none := by rw [typeLookup_type, builtinLookup_eq_fast]; kernel_rfl
section
variable {prog : Program} {w : World} {A : Around} {E : Value → Shared → Prop} {s : Shared} {b c : Array UInt8} {t u : Tok} {Q : Value → Shared → Prop}
theorem iadd_bytes (hsz : b.size + c.size ≤ 16777216) (h : ∀ t' k, Q (.bytes (b ++ c) t') { s with toks := k }) : wpAny (model prog w) A (inplaceOp .Add (.bytes b t) (.bytes c u)) Q E s := by
  refine iconcat_gives (typeIs_bytes s b t) (typeIs_bytes s c u) noI_bytes_add KBy.noFill_bytes_add KBy.seq_bytes_add FB.slot_bytes_add FB.entry_bytes_add (FB.args_bytes_add_2 _ _) (KBy.gives_bytes_add (KBy.tooLong_not hsz)) ?_
  split
  · rename_i hb
    have k := h u s.toks
    rw [Array.isEmpty_iff.1 hb, Array.empty_append] at k
    exact k
  · split
    · rename_i hc
      have k := h t s.toks
      rw [Array.isEmpty_iff.1 hc, Array.append_empty] at k
      exact k
    · exact ⟨by rw [Array.size_append, sizeLine_eq]; exact hsz, h _ _⟩
end
end Mine
end

section
open PySem PySem.W PyProof.Rows PySem.Spec PySem.Calls Rlp
set_option Elab.async false
set_option maxRecDepth 100000
set_option maxHeartbeats 0
set_option linter.unusedVariables false
namespace Mine
theorem fillK6 : (fun (_ : OpenLaw) (_ : Params → Frag) => True) PySem.Challenge.rw_bi0020_01 K := by
  k_fill
  trivial
local macro_rules | `(tactic| walk_at "ENTER0") => `(tactic| (refine wpAny_call ?_; k_dflt (refine' code_def ?k1 ?k2 ?k3 ?k4 ?k5 ?kA ?kF ?kK ?k6 ?k7 ?k8 ?k9 ?kB ?_ ?c2 ?c3 ?c4 ?c5; (case kA => exact rfl); (case kF => exact And.right (by assumption)); (case kK => exact And.left (by assumption)); (case k1 => k_asm); (case k2 => k_asm); (case k3 => k_asm); (case k4 => k_asm); (case k5 => k_asm); (case k6 => k_is); (case k7 => k_is); (case k8 => ktr_room); (case k9 => exact BindsTo.of_eq rfl); (case c5 => decide); (case kB => exact locs rfl); (case c2 => exact rfl); (case c3 => exact rfl); (case c4 => exact rfl); k_whole; intro g' L' h' FG' F' N' B' X' T'; (try dsimp only); (try k_fold))))
local macro_rules | `(tactic| walk_at "ENTER") => `(tactic| (walk_at "ENTER0"; k_steps))
local macro_rules | `(tactic| walk_at "bsz") => `(tactic| ((try simp only [List.size_toArray, List.length_append, List.length_cons, List.length_nil, be_length, beK_length, slice_length]); omega))
local macro_rules | `(tactic| walk_at "call builtin:len") => `(tactic| ((with_reducible show wpAny _ _ (call (Value.builtin _) [Value.bytes (List.toArray _) _]) _ _ _); refine len_bytes (by walk_at "bsz") ?_; (try simp only [List.size_toArray, be_length])))
local macro_rules | `(tactic| walk_at "binaryOp Add bytes bytes") => `(tactic| ((with_reducible show wpAny _ _ (binaryOp Operator.Add (Value.bytes (List.toArray _) _) (Value.bytes (List.toArray _) _)) _ _ _); refine KBy.add_bytes (by walk_at "bsz") ?_; intro _ _; (try simp only [List.append_toArray, List.cons_append, List.nil_append])))
local macro_rules | `(tactic| walk_at "subscriptTail") => `(tactic| ((with_reducible show wpAny _ _ (subscriptTail _ _ (Value.bytes (List.toArray _) _) (Value.ref _)) _ _ _); refine slice_int (s := ⟨_, _, _, _, _⟩) (by k_asm) (by k_asm) (by omega) (by omega) (by omega) ?_; intro _ _ _ _ _))
local macro_rules | `(tactic| walk_at "dp") => `(tactic| ((show _ + _ < _); simp only [ktr_dp, ktr_un]; omega))
local macro_rules | `(tactic| walk_at "call ref") => `(tactic| ((with_reducible show wpAny _ _ (call (Value.ref 1464) _) _ _ _); (k_dflt (refine' b2i ?k1 ?k2 ?k3 ?k4 ?k5 ?k6 ?k7 ?k8 ?k9 ?_; (case k1 => k_asm); (case k2 => k_asm); (case k3 => k_asm); (case k4 => k_asm); (case k5 => k_asm); (case k6 => exact ⟨rfl, rfl⟩); (case k7 => walk_at "dp"); (case k8 => walk_at "dp"); (case k9 => walk_at "bsz"))); intro _ _ _ _ _))
local macro_rules | `(tactic| walk_at "call ref") => `(tactic| ((with_reducible show wpAny _ _ (call (Value.ref 1736) _) _ _ _); (k_dflt (refine' clp_ok ?k1 ?k2 ?k3 ?k4 ?k5 ?k6 ?k7 ?k8 ?k9 ?k0 ?_; (case k1 => k_asm); (case k2 => k_asm); (case k3 => k_asm); (case k4 => k_asm); (case k5 => k_asm); (case k6 => exact ⟨rfl, rfl⟩); (case k7 => walk_at "dp"); (case k8 => walk_at "dp"); (case k9 => walk_at "bsz"); (case k0 => assumption))); intro _ _ _ _ _ _ _ _ _ _))
local macro_rules | `(tactic| walk_at "NOWHILE") => `(tactic| fail_if_success (with_reducible show wpAny _ _ (exec (Stmt.While _ _ _ _) _) _ _ _))
local macro_rules | `(tactic| walk_at "KUPTO") => `(tactic| repeat' (first | (k_unfold; (try dsimp only)) | (k_end; wrow_close) | ((walk_at "NOWHILE"); walk1) | (dsimp only; walk_at "NOWHILE"; walk1) | (walk_at "NOWHILE"; leave1; (try dsimp only)) | fail "no step"))
local macro_rules | `(tactic| k_all) => `(tactic| assumption)
local macro_rules | `(tactic| k_ne) => `(tactic| assumption)
local macro_rules | `(tactic| walk_at "inplaceOp Add bytes") => `(tactic| ((with_reducible show wpAny _ _ (inplaceOp Operator.Add (Value.bytes (List.toArray _) _) (Value.bytes (List.toArray _) _)) _ _ _); refine iadd_bytes (by walk_at "bsz") ?_; intro _ _; (try simp only [List.append_toArray, List.cons_append, List.nil_append])))
structure PS where
  ds : List D
  rs : List UInt8
  vs : List Value
  ps : List Value
  next : Nat
  n1 : Nat
  n2 : Nat
  t1 : Tok
  t2 : Tok
  Z : List (Addr × Obj)
/-- consume_payload, at the depth k -/
def PaySpec (w : World) (k : Nat) : Prop := ∀ {p : Program} {loose : List Str} {mean : ExcName → Option Value} {mg mb : Str → Option Value} {dp un : Nat} {gd : Option (List Code)} {ev : Env} {outer : List Env} {A₀ : Around} {base h₀ : Heap} {L : Addr} {m : Str → Option Value} {news : List (Addr × Obj)} {s : Shared} {Q E : Value → Shared → Prop}
    {x q r : List UInt8} {row : Bool} {e l e' : Nat} {d : D} {t t1 t2 t3 t4 : Tok}, Below A₀ base outer h₀ → Fr h₀ L s.heap m → (K w.params).In h₀ → News h₀ L s.heap news → Top p loose mean mg mb h₀ → (ev.scope.kind = .function ∧ ev.frame = some L) →
    dp + 30 + 2 * k < recursionLimit → un + 80 + 10 * k < cLine → x.length < 2 ^ 23 → q.length < 20 → pay x k q row l e = .ok (d, r, e') →
    (∀ h' tk' b v u2 u3 pr its n Z, Fr h₀ L h' m → News h₀ L h' (Z ++ news) → (∀ p ∈ Z, ∀ r ∈ news, r.1 < p.1) → (b, (⟨.type "tuple", none, .seq #[v, .ref pr, .int (e' : Int) u2] 0, ⟨[]⟩⟩ : Obj)) ∈ Z → DIn Z v d → (pr, (⟨.type "list", none, .seq (Value.bytes r.toArray u3 :: its).toArray n, ⟨[]⟩⟩ : Obj)) ∈ Z → Q (.ref b) { s with heap := h', toks := tk' }) →
    wpAny (model pg w) (ktrE dp un gd ev outer) (call (.ref 1743) [.bytes x.toArray t, .bytes q.toArray t1, .int e t2, .str (Str.ofString (if row then "list" else "bytes")) t3, .int l t4]) Q E s
theorem pay_call {w : World} {k : Nat} (H : PaySpec w k) {p : Program} {loose : List Str} {mean : ExcName → Option Value} {mg mb : Str → Option Value} {dp un : Nat} {gd : Option (List Code)} {ev : Env} {outer : List Env} {A₀ : Around} {base h₀ : Heap} {L : Addr} {m : Str → Option Value} {news : List (Addr × Obj)} {s : Shared} {Q E : Value → Shared → Prop}
    {x q r : List UInt8} {row : Bool} {e l e' : Nat} {d : D} {t t1 t2 t3 t4 : Tok} (B : Below A₀ base outer h₀) (F : Fr h₀ L s.heap m) (X : (K w.params).In h₀) (N : News h₀ L s.heap news) (T : Top p loose mean mg mb h₀) (hk : ev.scope.kind = .function ∧ ev.frame = some L)
    (hd : dp + 30 + 2 * k < recursionLimit) (hu : un + 80 + 10 * k < cLine) (hx : x.length < 2 ^ 23) (hq : q.length < 20) (hl : pay x k q row l e = .ok (d, r, e'))
    (hret : ∀ h' tk' b v u2 u3 pr its n Z, Fr h₀ L h' m → News h₀ L h' (Z ++ news) → (∀ p ∈ Z, ∀ r ∈ news, r.1 < p.1) → (b, (⟨.type "tuple", none, .seq #[v, .ref pr, .int (e' : Int) u2] 0, ⟨[]⟩⟩ : Obj)) ∈ Z → DIn Z v d → (pr, (⟨.type "list", none, .seq (Value.bytes r.toArray u3 :: its).toArray n, ⟨[]⟩⟩ : Obj)) ∈ Z → Q (.ref b) { s with heap := h', toks := tk' }) :
    wpAny (model pg w) (ktrE dp un gd ev outer) (call (.ref 1743) [.bytes x.toArray t, .bytes q.toArray t1, .int e t2, .str (Str.ofString (if row then "list" else "bytes")) t3, .int l t4]) Q E s := H B F X N T hk hd hu hx hq hl hret
theorem DsIn.len {l : List (Addr × Obj)} : ∀ {vs : List Value} {ds : List D}, DsIn l vs ds → vs.length = ds.length
  | _, _, .nil => rfl
  | _, _, .cons a b => by rw [List.length_cons, List.length_cons, DsIn.len b]
theorem pay_led {h₀ h : Heap} {L b pr : Addr} {Z W news : List (Addr × Obj)} {x y z : Addr × Obj} {ob op : Obj} (N : News h₀ L h (Z ++ x :: y :: z :: (W ++ news))) (hb : (b, ob) ∈ Z) (hp : (pr, op) ∈ Z) :
    News h₀ L h ((b, ob) :: (pr, op) :: y :: z :: ((Z ++ W) ++ news)) := by
  refine News.sub N fun p hp' => ?_
  simp only [List.mem_cons, List.mem_append] at hp' ⊢
  rcases hp' with rfl | rfl | h | h | (h | h) | h
  · exact .inl hb
  · exact .inl hp
  · exact .inr (.inr (.inl h))
  · exact .inr (.inr (.inr (.inl h)))
  · exact .inl h
  · exact .inr (.inr (.inr (.inr (.inl h))))
  · exact .inr (.inr (.inr (.inr (.inr h))))
section
variable {w : World} {p : Program} {loose : List Str} {mean : ExcName → Option Value} {mg mb : Str → Option Value} {dp un : Nat} {gd : Option (List Code)} {ev : Env} {outer : List Env} {A₀ : Around} {base h₀ : Heap} {L : Addr} {m : Str → Option Value} {news : List (Addr × Obj)} {s : Shared} {Q E : Value → Shared → Prop}
theorem pay_l (dep : Nat) (hrec : ∀ k, dep = k + 1 → PaySpec w k) {x q r : List UInt8} {e l e' : Nat} {d : D} {t t1 t2 t3 t4 : Tok}
    (B : Below A₀ base outer h₀) (F : Fr h₀ L s.heap m) (X : (K w.params).In h₀) (N : News h₀ L s.heap news) (T : Top p loose mean mg mb h₀) (hk : ev.scope.kind = .function ∧ ev.frame = some L)
    (hd : dp + 30 + 2 * dep < recursionLimit) (hu : un + 80 + 10 * dep < cLine) (hx : x.length < 2 ^ 23) (hq : q.length < 20) (hl : pay x dep q true l e = .ok (d, r, e'))
    (hret : ∀ h' tk' b v u2 u3 pr its n Z, Fr h₀ L h' m → News h₀ L h' (Z ++ news) → (∀ p ∈ Z, ∀ r ∈ news, r.1 < p.1) → (b, (⟨.type "tuple", none, .seq #[v, .ref pr, .int (e' : Int) u2] 0, ⟨[]⟩⟩ : Obj)) ∈ Z → DIn Z v d → (pr, (⟨.type "list", none, .seq (Value.bytes r.toArray u3 :: its).toArray n, ⟨[]⟩⟩ : Obj)) ∈ Z → Q (.ref b) { s with heap := h', toks := tk' }) :
    wpAny (model pg w) (ktrE dp un gd ev outer) (call (.ref 1743) [.bytes x.toArray t, .bytes q.toArray t1, .int e t2, .str (Str.ofString "list") t3, .int l t4]) Q E s := by
  obtain ⟨ds, rs, hlo, hle, rfl, rfl⟩ := pay_row hl
  walk_at "ENTER0"
  walk_at "KUPTO"
  rename_i I _ lI _ _ P _ lP _ _ _ h1 F1 N1
  have N2 : News _ _ h1 ((P, W.listOf (([] : List Value)).toArray 0) :: (I, W.listOf (([] : List Value)).toArray 0) :: (([] : List (Addr × Obj)) ++ news)) := N1
  skip
  refine ksw_while (σ := PS) (fun c => (P, W.listOf c.ps.toArray c.n2) :: (I, W.listOf c.vs.toArray c.n1) :: (c.Z ++ news)) (fun c => [(Str.ofString "list_rlp", .bytes (q ++ c.rs).toArray c.t1), (Str.ofString "next_item_start", .int (c.next : Int) c.t2)])
    (fun c => (∀ p ∈ c.Z, (∀ r ∈ news, r.1 < p.1) ∧ p.1 ≠ I ∧ p.1 ≠ P) ∧ DsIn c.Z c.vs c.ds ∧ c.ps.length = c.ds.length) [Str.ofString "p", Str.ofString "t", Str.ofString "l", Str.ofString "s", Str.ofString "item", Str.ofString "item_rlp"]
    (fun c => ∃ n ds' rs', clLoop (item x dep) (e + l) n c.next = .ok (ds', rs', e') ∧ c.ds ++ ds' = ds ∧ c.rs ++ rs' = rs) (fun c => e + l - c.next) ⟨[], [], [], [], e, 0, 0, t1, t2, []⟩ F1 N2 ?_ ?_ ?_ ?_ ?_
  · exact ⟨fun p hp => (List.not_mem_nil hp).elim, DsIn.nil, rfl⟩
  · simp only [List.append_nil]
    kst_all
  · exact ⟨l + 1, ds, rs, hlo, List.nil_append _, List.nil_append _⟩
  · intro c u h2 tk2 hf hP F2 N2
    obtain ⟨hZ, hDs, hps⟩ := hf
    have hvl := DsIn.len hDs
    have hlo1 := loop_len hlo
    obtain ⟨n, ds', rs', hcl, e1, e2⟩ := hP
    by_cases hlt : c.next < e + l
    · obtain ⟨n', d, r, nx, ds2, rs2, hit, hcl2, rfl, rfl⟩ := loop_more hcl hlt
      obtain ⟨k, qq, row, ll, ss, hdk, hc, hp⟩ := item_split hit
      subst hdk
      have hh : PaySpec w k := hrec k rfl
      have hrl : (q ++ c.rs).length + r.length ≤ 2 ^ 23 + 20 := by
        have := congrArg List.length e2
        simp only [List.length_append] at this ⊢
        omega
      have hdl : c.ds.length < 2 ^ 23 := by
        have := congrArg List.length e1
        simp only [List.length_append, List.length_cons] at this
        omega
      have hc9 := clp_len hc
      k_steps
      k_dflt (refine' pay_call hh ?k1 ?k2 ?k3 ?k4 ?k5 ?k6 ?k7 ?k8 ?k9 ?k0 ?ka ?_; (case k1 => k_asm); (case k2 => k_asm); (case k3 => k_asm); (case k4 => k_asm); (case k5 => k_asm); (case k6 => exact ⟨rfl, rfl⟩); (case k7 => walk_at "dp"); (case k8 => walk_at "dp"); (case k9 => exact hx); (case k0 => omega); (case ka => exact hp))
      intro h3 tk3 b2 v u2 u3 pr its n9 Z F3 N3 hZ3 hb3 hv3 hpr3
      have N4 := pay_led N3 hb3 hpr3
      have hPr : ∀ p ∈ (Z ++ c.Z) ++ news, p.1 ≠ P := by
        intro p hp
        rcases List.mem_append.mp hp with hp | hp
        · rcases List.mem_append.mp hp with hp | hp
          · exact Nat.ne_of_gt (hZ3 p hp _ (.tail _ (.head _)))
          · exact (hZ p hp).2.2
        · exact Nat.ne_of_lt (of_allLt1 lP p hp)
      have hIr : ∀ p ∈ (Z ++ c.Z) ++ news, p.1 ≠ I := by
        intro p hp
        rcases List.mem_append.mp hp with hp | hp
        · rcases List.mem_append.mp hp with hp | hp
          · exact Nat.ne_of_gt (hZ3 p hp _ (.tail _ (.tail _ (.head _))))
          · exact (hZ p hp).2.1
        · exact Nat.ne_of_lt (lI p hp)
      have hbP : b2 ≠ P := hPr _ (List.mem_append_left _ (List.mem_append_left _ hb3))
      have hbI : b2 ≠ I := hIr _ (List.mem_append_left _ (List.mem_append_left _ hb3))
      have hpP : pr ≠ P := hPr _ (List.mem_append_left _ (List.mem_append_left _ hpr3))
      have hpI : pr ≠ I := hIr _ (List.mem_append_left _ (List.mem_append_left _ hpr3))
      have hIP : I ≠ P := Nat.ne_of_lt lP.1
      have hPI : P ≠ I := hIP.symm
      clear N3
      k_steps
      skip
      refine iadd_bytes (b := (q ++ c.rs).toArray) (c := r.toArray) (by simpa using Nat.le_trans hrl (by decide)) fun t9 k9 => ?_
      rw [List.append_toArray]
      k_steps
      rename_i NZ
      simp only [List.push_toArray] at NZ
      have hnx := item_ge hit
      refine ksw_end (⟨c.ds ++ [d], c.rs ++ r, c.vs ++ [v], c.ps ++ [.ref pr], nx, c.n1 + 1, c.n2 + 1, t9, u2, Z ++ c.Z⟩ : PS) (by assumption) NZ (fun p hp => .tail _ (.tail _ hp)) ⟨fun p hp => ⟨?_, ?_, ?_⟩, ?_, ?_⟩ ?_ ?_ ⟨n', ds2, rs2, hcl2, by simpa using e1, by simpa using e2⟩ ?_
      · intro r' hr'
        rcases List.mem_append.mp hp with hp | hp
        · exact hZ3 p hp _ (.tail _ (.tail _ (.tail _ (List.mem_append_right _ hr'))))
        · exact (hZ p hp).1 r' hr'
      · exact hIr p (List.mem_append_left _ hp)
      · exact hPr p (List.mem_append_left _ hp)
      · exact DsIn.snoc (DsIn.mono (fun p hp => List.mem_append_right _ hp) hDs) (DIn.mono (fun p hp => List.mem_append_left _ hp) hv3)
      · simp [hps]
      · simp only [← List.append_assoc]
        kst_all
      · intro z h2 h3
        simp only [List.forall_mem_cons, List.not_mem_nil, false_implies, implies_true, and_true, ne_eq] at h2
        have h4 := h3
        simp only [List.contains_cons, List.contains_nil, Bool.or_false, Bool.or_eq_false_iff, beq_eq_false_iff_ne, ne_eq] at h4
        simp only [kstB, h2, h3, h4, if_false, Bool.false_eq_true]
      · show e + l - nx < e + l - c.next
        omega
    · obtain ⟨rfl, rfl, he⟩ := loop_end hcl hlt
      k_steps
      have e1' : ds = c.ds := by simpa using e1.symm
      have e2' : rs = c.rs := by simpa using e2.symm
      subst e1' e2' he
      refine kl_insert (l := Value.bytes (q ++ c.rs).toArray c.t1 :: c.ps) (n := c.n2) (its := c.ps.toArray) (by k_asm) (by k_asm) rfl (by simp [kl_ins]) (.head ?_) (by simp [sizeLine]; omega) ?_
      · intro p hp
        rcases List.mem_cons.mp hp with rfl | hp
        · exact Nat.ne_of_lt lP.1
        · rcases List.mem_append.mp hp with hp | hp
          · exact (hZ p hp).2.2
          · exact Nat.ne_of_lt (of_allLt1 lP p hp)
      intro h9 F9 N9
      k_steps
      rename_i D9 _ _ _ l9 kF kN _ _
      refine hret _ _ D9 (.ref I) _ _ P c.ps (c.n2 + 1) ((D9, _) :: (P, _) :: (I, _) :: c.Z) kF kN ?_ (.head _) (.l (.tail _ (.tail _ (.head _))) (DsIn.mono (fun p hp => .tail _ (.tail _ (.tail _ hp))) hDs)) (.tail _ (.head _))
      intro p hp r' hr'
      rcases List.mem_cons.mp hp with rfl | hp
      · exact of_allLt2 l9 r' (List.mem_append_right _ hr')
      · rcases List.mem_cons.mp hp with rfl | hp
        · exact of_allLt1 lP r' hr'
        · rcases List.mem_cons.mp hp with rfl | hp
          · exact lI r' hr'
          · exact (hZ p hp).1 r' hr'
  · passes_own
end
end Mine
end

section
open PySem PySem.W PyProof.Rows PySem.Spec PySem.Calls Rlp
set_option Elab.async false
set_option maxRecDepth 100000
set_option maxHeartbeats 0
set_option linter.unusedVariables false
namespace Mine
theorem fillK7 : (fun (_ : OpenLaw) (_ : Params → Frag) => True) PySem.Challenge.rw_bi0020_01 K := by
  k_fill
  trivial
local macro_rules | `(tactic| walk_at "ENTER0") => `(tactic| (refine wpAny_call ?_; k_dflt (refine' code_def ?k1 ?k2 ?k3 ?k4 ?k5 ?kA ?kF ?kK ?k6 ?k7 ?k8 ?k9 ?kB ?_ ?c2 ?c3 ?c4 ?c5; (case kA => exact rfl); (case kF => exact And.right (by assumption)); (case kK => exact And.left (by assumption)); (case k1 => k_asm); (case k2 => k_asm); (case k3 => k_asm); (case k4 => k_asm); (case k5 => k_asm); (case k6 => k_is); (case k7 => k_is); (case k8 => ktr_room); (case k9 => exact BindsTo.of_eq rfl); (case c5 => decide); (case kB => exact locs rfl); (case c2 => exact rfl); (case c3 => exact rfl); (case c4 => exact rfl); k_whole; intro g' L' h' FG' F' N' B' X' T'; (try dsimp only); (try k_fold))))
local macro_rules | `(tactic| walk_at "ENTER") => `(tactic| (walk_at "ENTER0"; k_steps))
local macro_rules | `(tactic| walk_at "bsz") => `(tactic| ((try simp only [List.size_toArray, List.length_append, List.length_cons, List.length_nil, be_length, beK_length, slice_length]); omega))
local macro_rules | `(tactic| walk_at "call builtin:len") => `(tactic| ((with_reducible show wpAny _ _ (call (Value.builtin _) [Value.bytes (List.toArray _) _]) _ _ _); refine len_bytes (by walk_at "bsz") ?_; (try simp only [List.size_toArray, be_length])))
local macro_rules | `(tactic| walk_at "binaryOp Add bytes bytes") => `(tactic| ((with_reducible show wpAny _ _ (binaryOp Operator.Add (Value.bytes (List.toArray _) _) (Value.bytes (List.toArray _) _)) _ _ _); refine KBy.add_bytes (by walk_at "bsz") ?_; intro _ _; (try simp only [List.append_toArray, List.cons_append, List.nil_append])))
local macro_rules | `(tactic| walk_at "subscriptTail") => `(tactic| ((with_reducible show wpAny _ _ (subscriptTail _ _ (Value.bytes (List.toArray _) _) (Value.ref _)) _ _ _); refine slice_int (s := ⟨_, _, _, _, _⟩) (by k_asm) (by k_asm) (by omega) (by omega) (by omega) ?_; intro _ _ _ _ _))
local macro_rules | `(tactic| walk_at "dp") => `(tactic| ((show _ + _ < _); simp only [ktr_dp, ktr_un]; omega))
local macro_rules | `(tactic| walk_at "call ref") => `(tactic| ((with_reducible show wpAny _ _ (call (Value.ref 1464) _) _ _ _); (k_dflt (refine' b2i ?k1 ?k2 ?k3 ?k4 ?k5 ?k6 ?k7 ?k8 ?k9 ?_; (case k1 => k_asm); (case k2 => k_asm); (case k3 => k_asm); (case k4 => k_asm); (case k5 => k_asm); (case k6 => exact ⟨rfl, rfl⟩); (case k7 => walk_at "dp"); (case k8 => walk_at "dp"); (case k9 => walk_at "bsz"))); intro _ _ _ _ _))
local macro_rules | `(tactic| walk_at "call ref") => `(tactic| ((with_reducible show wpAny _ _ (call (Value.ref 1736) _) _ _ _); (k_dflt (refine' clp_ok ?k1 ?k2 ?k3 ?k4 ?k5 ?k6 ?k7 ?k8 ?k9 ?k0 ?_; (case k1 => k_asm); (case k2 => k_asm); (case k3 => k_asm); (case k4 => k_asm); (case k5 => k_asm); (case k6 => exact ⟨rfl, rfl⟩); (case k7 => walk_at "dp"); (case k8 => walk_at "dp"); (case k9 => walk_at "bsz"); (case k0 => assumption))); intro _ _ _ _ _ _ _ _ _ _))
theorem pay_all (w : World) : ∀ k, PaySpec w k := by
  have all : ∀ n k, k < n → PaySpec w k := by
    intro n
    induction n with
    | zero => intro k h; exact absurd h (Nat.not_lt_zero _)
    | succ n ih =>
      intro k hk
      unfold PaySpec
      intro p loose mean mg mb dp un gd ev outer A₀ base h₀ L m news s Q E x q r row e l e' d t t1 t2 t3 t4 B F X N T hf hd hu hx hq hl hret
      cases row with
      | true => exact pay_l k (fun k' e => ih k' (by omega)) B F X N T hf hd hu hx hq hl hret
      | false =>
        unfold pay at hl
        simp only [R.ok.injEq, Prod.mk.injEq] at hl
        obtain ⟨rfl, rfl, rfl⟩ := hl
        exact pay_b B F X N T hf (by omega) (by omega) hx hq hret
  exact fun k => all (k + 1) k (Nat.lt_succ_self k)
local macro_rules | `(tactic| walk_at "call ref") => `(tactic| ((with_reducible show wpAny _ _ (call (Value.ref 1743) _) _ _ _); (k_dflt (refine' pay_call (pay_all _ _) ?k1 ?k2 ?k3 ?k4 ?k5 ?k6 ?k7 ?k8 ?k9 ?k0 ?ka ?_; (case k1 => k_asm); (case k2 => k_asm); (case k3 => k_asm); (case k4 => k_asm); (case k5 => k_asm); (case ka => assumption); (case k6 => exact ⟨rfl, rfl⟩); (case k7 => walk_at "dp"); (case k8 => walk_at "dp"); (case k9 => assumption); (case k0 => omega))); intro _ _ _ _ _ _ _ _ _ _ _ _ _ _ _ _))
section
variable {w : World} {p : Program} {loose : List Str} {mean : ExcName → Option Value} {mg mb : Str → Option Value} {dp un : Nat} {gd : Option (List Code)} {ev : Env} {outer : List Env} {A₀ : Around} {base h₀ : Heap} {L : Addr} {m : Str → Option Value} {news : List (Addr × Obj)} {s : Shared} {Q E : Value → Shared → Prop}
theorem news_drop {h₀ h : Heap} {L : Addr} {Z news : List (Addr × Obj)} {x : Addr × Obj} (N : News h₀ L h (Z ++ x :: news)) : News h₀ L h (Z ++ news) :=
  News.sub N fun p hp => (List.mem_append.mp hp).elim (fun h => List.mem_append_left _ h) fun h => List.mem_append_right _ (.tail _ h)
theorem above_cons {D : Addr} {o : Obj} {Z news : List (Addr × Obj)} (l9 : ∀ p ∈ Z ++ news, p.1 < D) (hZ : ∀ p ∈ Z, ∀ r ∈ news, r.1 < p.1) : ∀ p ∈ ((D, o) :: Z), ∀ r ∈ news, r.1 < p.1 := by
  intro p hp r' hr'
  rcases List.mem_cons.mp hp with rfl | hp
  · exact l9 r' (List.mem_append_right _ hr')
  · exact hZ p hp r' hr'
theorem it_ok {x r : List UInt8} {st dep e : Nat} {d : D} {t u : Tok}
    (B : Below A₀ base outer h₀) (F : Fr h₀ L s.heap m) (X : (K w.params).In h₀) (N : News h₀ L s.heap news) (T : Top p loose mean mg mb h₀) (hk : ev.scope.kind = .function ∧ ev.frame = some L)
    (hd : dp + 40 + 2 * dep < recursionLimit) (hu : un + 100 + 10 * dep < cLine) (hx : x.length < 2 ^ 23) (hi : item x dep st = .ok (d, r, e))
    (hret : ∀ h' tk' b v u2 u3 pr its n Z, Fr h₀ L h' m → News h₀ L h' (Z ++ news) → (∀ p ∈ Z, ∀ r ∈ news, r.1 < p.1) → (b, (⟨.type "tuple", none, .seq #[v, .ref pr, .int (e : Nat) u2] 0, ⟨[]⟩⟩ : Obj)) ∈ Z → DIn Z v d → (pr, (⟨.type "list", none, .seq (Value.bytes r.toArray u3 :: its).toArray n, ⟨[]⟩⟩ : Obj)) ∈ Z → Q (.ref b) { s with heap := h', toks := tk' }) :
    wpAny (model pg w) (ktrE dp un gd ev outer) (call (.ref 1750) [.bytes x.toArray t, .int st u]) Q E s := by
  obtain ⟨k, qq, row, ll, ss, hdk, hc, hp⟩ := item_split hi
  subst hdk
  have hc9 := clp_len hc
  walk_at "ENTER"
  rename_i hZ hb hv hpr kF kN _ _
  exact hret _ _ _ _ _ _ _ _ _ _ kF (news_drop kN) (fun p hp r hr => hZ p hp r (.tail _ hr)) hb hv hpr
local macro_rules | `(tactic| walk_at "call ref") => `(tactic| ((with_reducible show wpAny _ _ (call (Value.ref 1750) _) _ _ _); (k_dflt (refine' it_ok ?k1 ?k2 ?k3 ?k4 ?k5 ?k6 ?k7 ?k8 ?k9 ?ka ?_; (case k1 => k_asm); (case k2 => k_asm); (case k3 => k_asm); (case k4 => k_asm); (case k5 => k_asm); (case ka => assumption); (case k6 => exact ⟨rfl, rfl⟩); (case k7 => walk_at "dp"); (case k8 => walk_at "dp"); (case k9 => assumption))); intro _ _ _ _ _ _ _ _ _ _ _ _ _ _ _ _))
theorem dr_ok {x r : List UInt8} {dep e : Nat} {st y : Bool} {d : D} {t : Tok}
    (B : Below A₀ base outer h₀) (F : Fr h₀ L s.heap m) (X : (K w.params).In h₀) (N : News h₀ L s.heap news) (T : Top p loose mean mg mb h₀) (hk : ev.scope.kind = .function ∧ ev.frame = some L)
    (hd : dp + 50 + 2 * dep < recursionLimit) (hu : un + 120 + 10 * dep < cLine) (hx : x.length < 2 ^ 23) (hi : item x dep 0 = .ok (d, r, e)) (he : e = x.length ∨ st = false)
    (hret : ∀ h' tk' b v u3 pr its n Z, Fr h₀ L h' m → News h₀ L h' (Z ++ news) → (∀ p ∈ Z, ∀ r ∈ news, r.1 < p.1) → (b, (⟨.type "tuple", none, .seq #[v, .ref pr] 0, ⟨[]⟩⟩ : Obj)) ∈ Z → DIn Z v d → (pr, (⟨.type "list", none, .seq (Value.bytes r.toArray u3 :: its).toArray n, ⟨[]⟩⟩ : Obj)) ∈ Z → Q (.ref b) { s with heap := h', toks := tk' }) :
    wpAny (model pg w) (ktrE dp un gd ev outer) (call (.ref 1714) [.bytes x.toArray t, .bool st, .bool y]) Q E s := by
  have hi' : item x dep ((0 : Nat)) = .ok (d, r, e) := hi
  walk_at "ENTER"
  all_goals
    rename_i D9 _ _ _ l9 kF kN _ _
    rename DIn _ _ _ => hv
    exact hret _ _ D9 _ _ _ _ _ ((D9, _) :: _) kF kN (above_cons l9 (by assumption)) (.head _) (DIn.mono (fun p hp => .tail _ hp) hv) (.tail _ (by assumption))
end
end Mine
end

section
set_option maxRecDepth 100000
set_option linter.unusedVariables false
set_option Elab.async false
open PySem PySem.W PyProof.Rows PySem.Spec PySem.Calls
namespace Mine
open Sem (wp)
/-- more generators, none of the old ones touched -/
def GC (a b : Array GenState) : Prop := a.size ≤ b.size ∧ (∀ k, k < a.size → b[k]? = a[k]?) ∧ (AllBare a → AllBare b)
theorem GC.refl (a : Array GenState) : GC a a := ⟨Nat.le_refl _, fun _ _ => rfl, id⟩
theorem GC.trans {a b c : Array GenState} (x : GC a b) (y : GC b c) : GC a c :=
  ⟨Nat.le_trans x.1 y.1, fun k h => (y.2.1 k (Nat.lt_of_lt_of_le h x.1)).trans (x.2.1 k h), fun h => y.2.2 (x.2.2 h)⟩
/-- the same, but for the one generator g -/
def GX (g : Nat) (a b : Array GenState) : Prop := a.size ≤ b.size ∧ (∀ k, k < a.size → k ≠ g → b[k]? = a[k]?) ∧ (AllBare a → AllBare b)
theorem GX.refl (g : Nat) (a : Array GenState) : GX g a a := ⟨Nat.le_refl _, fun _ _ _ => rfl, id⟩
theorem GX.trans {g : Nat} {a b c : Array GenState} (x : GX g a b) (y : GX g b c) : GX g a c :=
  ⟨Nat.le_trans x.1 y.1, fun k h n => (y.2.1 k (Nat.lt_of_lt_of_le h x.1) n).trans (x.2.1 k h n), fun h => y.2.2 (x.2.2 h)⟩
theorem GX.of_GC {g : Nat} {a b : Array GenState} (x : GC a b) : GX g a b := ⟨x.1, fun k h _ => x.2.1 k h, x.2.2⟩
theorem GX.set {g : Nat} (s : Shared) {y : GenState} (hy : y.bare = true) : GX g s.gens (s.setGen g y).gens := by
  refine ⟨by simp [Shared.setGen], fun k _ hk => by simp [Shared.setGen, Ne.symm hk], fun h z hz => ?_⟩
  have hz' : z ∈ s.gens.setIfInBounds g y := by simpa [Shared.setGen] using hz
  obtain ⟨k, hk, e⟩ := Array.mem_iff_getElem.mp hz'
  rw [Array.getElem_setIfInBounds (by simpa using hk)] at e
  split at e
  · rw [← e]; exact hy
  · rw [← e]; exact h _ (Array.getElem_mem (by simpa using hk))
structure Since (wr : List Addr) (s₀ s : Shared) : Prop where
  heap : ∀ b o, b ∉ wr → s₀.heap.get? b = some o → s.heap.get? b = some o
  gens : GC s₀.gens s.gens
  drawn : s.drawn = s₀.drawn
  os : s.os = s₀.os
theorem Since.refl (wr : List Addr) (s : Shared) : Since wr s s := ⟨fun _ _ _ e => e, GC.refl _, rfl, rfl⟩
theorem Since.trans {wr : List Addr} {a b c : Shared} (x : Since wr a b) (y : Since wr b c) : Since wr a c :=
  ⟨fun p o h e => y.heap p o h (x.heap p o h e), x.gens.trans y.gens, y.drawn.trans x.drawn, y.os.trans x.os⟩
theorem Since.step {wr : List Addr} {s₀ s : Shared} (x : Since wr s₀ s) {h' : Heap} {tk : Nat} (hk : ∀ b o, b ∉ wr → s.heap.get? b = some o → h'.get? b = some o) : Since wr s₀ { s with heap := h', toks := tk } :=
  x.trans ⟨hk, GC.refl _, rfl, rfl⟩
/-- what a turn of the generator promises -/
def ownProto (fp wr : List Addr) (n₀ : Nat) (F : Nat → Value → Prop) : Protocol := fun m s₀ v s kap =>
  F (n₀ - 1 - m) v ∧ Since wr s₀ s ∧ ∀ s'' : Shared, (∀ b ∈ fp, ∀ o, s.heap.get? b = some o → s''.heap.get? b = some o) → kap (.send .none) s''
section
variable {prog : Program} {w : World} {A : Around}
abbrev ownR (wr : List Addr) : GenEnd := fun n s₀ r s₁ => r = .ok .next ∧ (n = 0 ∧ Since wr s₀ s₁)
/-- the element's own work -/
def EltOk (prog : Program) (w : World) (AE : Around) (cenv : Env) (x : Str) (elt : Expr) (fp wr we : List Addr) (P : Nat → Value → Prop) (F : Nat → Value → Prop) (href : Heap) : Prop :=
  ∀ (E' : Value → Shared → Prop) i v (s₂ : Shared) m₂, P i v → s₂.heap.Ns cenv.locals m₂ → m₂ x = some v → (∀ b ∈ fp, b ∉ wr → ∀ o, href.get? b = some o → s₂.heap.get? b = some o) →
    wpAny (model prog w) AE (eval elt cenv) (fun y s₃ => F i y ∧ (∃ m₃, s₃.heap.Ns cenv.locals m₃) ∧ Since we s₂ s₃) E' s₂
theorem seg_own {elt iter : Expr} {x : Str} {px : Pos} {scope : Scope} {pos : Pos} {I : Addr} {fp wr we fq : List Addr} {n₀ : Nat} {P : Nat → Value → Prop} {St₀ : Nat → Heap → Prop} {cenv : Env}
    (hh : A.handled = none) (W₀ : ∀ A' : Around, A'.handled = none → Walks prog w A' I fq [I] n₀ P St₀) (F : Nat → Value → Prop) (href : Heap)
    (hx : cenv.kindOf x = some .local) (hp : (cenv.scope.kind == .class || (cenv.scope.kind == .module && cenv.locals != cenv.globals)) = false)
    (hco : cenv.scope.isCoroutine = false) (hCw : cenv.locals ∈ wr) (hIw : I ∈ wr) (hsub : ∀ b ∈ wr, b ∈ fp) (hfq : ∀ b ∈ fq, b ∈ fp) (hCq : cenv.locals ∉ fq) (hwe : ∀ b ∈ we, b ∈ wr) (hqe : ∀ b ∈ fq, b ∉ we)
    (hq : EltOk prog w (A.over (.compLoop (.GeneratorExp elt [⟨.Name x px, iter, [], 0⟩] scope pos) 0 (.ref I) .none cenv) []) cenv x elt fp wr we P F href) :
    ∀ (k i : Nat) (s₀ s : Shared) (m : Str → Option Value), n₀ - i = k → i ≤ n₀ → St₀ i s.heap → s.heap.Ns cenv.locals m → Since wr s₀ s →
      (∀ b ∈ fp, b ∉ wr → ∀ o, href.get? b = some o → s.heap.get? b = some o) →
      Seg (model prog w) A (ownR wr) (ownProto fp wr n₀ F) (n₀ - i) s₀
        (.compLoop (.GeneratorExp elt [⟨.Name x px, iter, [], 0⟩] scope pos) 0 (.ref I) .none cenv)
        ((model prog w).den (.compLoop (.GeneratorExp elt [⟨.Name x px, iter, [], 0⟩] scope pos) 0 (.ref I) .none cenv)) [] s := by
  have hh' : (A.over (.compLoop (.GeneratorExp elt [⟨.Name x px, iter, [], 0⟩] scope pos) 0 (.ref I) .none cenv) []).handled = none := hh
  have hIC : cenv.locals ≠ I := fun e => hCq (e ▸ (W₀ A hh).sub _ (List.mem_singleton.mpr rfl))
  intro k
  induction k with
  | zero =>
    intro i s₀ s m hk hi hst hn hsince hkp
    have hin : i = n₀ := by omega
    subst hin
    show Seg _ A _ _ _ s₀ _ ((compTurn (.GeneratorExp elt [⟨.Name x px, iter, [], 0⟩] scope pos) 0 (.ref I) .none cenv).onRaise (leaving cenv)) [] s
    rw [compTurn_gen, Sem.onRaise_eq_wrap]
    refine seg_bind_wrap (wpAny_standAt ?_)
    refine seg_bind_wrap ((W₀ _ hh').done s _ _ hst fun h' tk hk' => ?_)
    exact seg_end (.ok .next) ⟨rfl, by omega, hsince.step fun b o hw e => hk' b o (fun h => hw (List.mem_singleton.mp h ▸ hIw)) e⟩
  | succ k ih =>
    intro i s₀ s m hk hi hst hn hsince hkp
    have hlt : i < n₀ := by omega
    show Seg _ A _ _ _ s₀ _ ((compTurn (.GeneratorExp elt [⟨.Name x px, iter, [], 0⟩] scope pos) 0 (.ref I) .none cenv).onRaise (leaving cenv)) [] s
    rw [compTurn_gen, Sem.onRaise_eq_wrap]
    refine seg_bind_wrap (wpAny_standAt ?_)
    refine seg_bind_wrap ((W₀ _ hh').item i s _ _ hlt hst fun v h₁ tk₁ hPv hst₁ hk₁ => ?_)
    refine seg_bind_wrap (wpAny_of_eq (rfl : letOwnedTupleGo (.Name x px) (.ref I) v = pure ()) ?_)
    refine seg_bind_wrap (wpAny_assign_Name (wpAny_storeName_local hx (hn.at' fun o e => hk₁ _ o (fun h => hIC (List.mem_singleton.mp h)) e) (fun h₂ hn₂ hs₂ => ?_) hp))
    have up₂ : ∀ b o, b ≠ cenv.locals → b ≠ I → s.heap.get? b = some o → h₂.get? b = some o := fun b o hbC hbI e => hs₂.extBut b o hbC (hk₁ b o (fun h => hbI (List.mem_singleton.mp h)) e)
    have hst₂ : St₀ (i + 1) h₂ := (W₀ A hh).frame _ _ _ hst₁ fun b hb o e => hs₂.extBut b o (fun h => hCq (h ▸ hb)) e
    have hkp₂ : ∀ b ∈ fp, b ∉ wr → ∀ o, href.get? b = some o → h₂.get? b = some o := fun b hb hbw o e => up₂ b o (fun h => hbw (h ▸ hCw)) (fun h => hbw (h ▸ hIw)) (hkp b hb hbw o e)
    refine seg_bind_wrap (wpAny_of_eq (a := true) rfl ?_)
    obtain ⟨j, hj⟩ : ∃ j, n₀ - i = j + 1 := ⟨n₀ - i - 1, by omega⟩
    rw [hj]
    simp only [if_true]
    have hy : ∀ v, yieldOut cenv v = yieldValue v := fun v => by simp only [yieldOut, hco, Bool.false_eq_true, if_false]
    simp only [hy]
    rw [Sem.bind_eq_wrap', Sem.bind_eq_wrap', Sem.wrap_wrap, Sem.wrap_wrap]
    refine seg_wrap (wpAny_mono (hq _ i v _ _ hPv hn₂ (by simp) hkp₂) (fun y s₄ h₄ => ?_) fun _ _ e => e)
    obtain ⟨hFy, ⟨m₄, hn₄⟩, hs₄⟩ := h₄
    have hsin₄ : Since wr s₀ s₄ := (hsince.step (h' := h₂) (tk := _) fun b o hbw e => up₂ b o (fun h => hbw (h ▸ hCw)) (fun h => hbw (h ▸ hIw)) e).trans
      ⟨fun b o hbw e => hs₄.heap b o (fun h => hbw (hwe _ h)) e, hs₄.gens, hs₄.drawn, hs₄.os⟩
    refine seg_at (seg_yield rfl rfl rfl ⟨by rw [show n₀ - 1 - j = i by omega]; exact hFy, hsin₄, fun s'' hal => ?_⟩)
    have ej : j = n₀ - (i + 1) := by omega
    rw [ej]
    refine seg_again rfl (ih (i + 1) s'' s'' m₄ (by omega) hlt ((W₀ A hh).frame _ _ _ hst₂ fun b hb o e => hal b (hfq b hb) o (hs₄.heap b o (hqe b hb) e))
      (hn₄.at' fun o e => hal _ (hsub _ hCw) o e) (Since.refl _ _) fun b hb hbw o e => hal b hb o (hs₄.heap b o (fun h => hbw (hwe _ h)) (hkp₂ b hb hbw o e)))
theorem seg_begin {elt iter : Expr} {x : Str} {px : Pos} {scope : Scope} {pos : Pos} {I : Addr} {fp wr we fq : List Addr} {n₀ : Nat} {P : Nat → Value → Prop} {St₀ : Nat → Heap → Prop} {cenv : Env}
    (hh : A.handled = none) (W₀ : ∀ A' : Around, A'.handled = none → Walks prog w A' I fq [I] n₀ P St₀) (F : Nat → Value → Prop) (href : Heap)
    (hx : cenv.kindOf x = some .local) (hp : (cenv.scope.kind == .class || (cenv.scope.kind == .module && cenv.locals != cenv.globals)) = false)
    (hco : cenv.scope.isCoroutine = false) (hCw : cenv.locals ∈ wr) (hIw : I ∈ wr) (hsub : ∀ b ∈ wr, b ∈ fp) (hfq : ∀ b ∈ fq, b ∈ fp) (hCq : cenv.locals ∉ fq) (hwe : ∀ b ∈ we, b ∈ wr) (hqe : ∀ b ∈ fq, b ∉ we)
    (hq : EltOk prog w (A.over (.compLoop (.GeneratorExp elt [⟨.Name x px, iter, [], 0⟩] scope pos) 0 (.ref I) .none cenv) []) cenv x elt fp wr we P F href)
    (s₀ s : Shared) (m : Str → Option Value) (hst : St₀ 0 s.heap) (hn : s.heap.Ns cenv.locals m) (hsince : Since wr s₀ s)
    (hkp : ∀ b ∈ fp, b ∉ wr → ∀ o, href.get? b = some o → s.heap.get? b = some o) :
    Seg (model prog w) A (ownR wr) (ownProto fp wr n₀ F) n₀ s₀
      (.compStart (.GeneratorExp elt [⟨.Name x px, iter, [], 0⟩] scope pos) 0 (.ref I) .none cenv)
      ((model prog w).den (.compStart (.GeneratorExp elt [⟨.Name x px, iter, [], 0⟩] scope pos) 0 (.ref I) .none cenv)) [] s := by
  have hh' : (A.over (.compStart (.GeneratorExp elt [⟨.Name x px, iter, [], 0⟩] scope pos) 0 (.ref I) .none cenv) []).handled = none := hh
  have loop := seg_own (iter := iter) (px := px) (scope := scope) (pos := pos) hh W₀ F href hx hp hco hCw hIw hsub hfq hCq hwe hqe hq n₀ 0 s₀ s m (Nat.sub_zero _) (Nat.zero_le _) hst hn hsince hkp
  rw [Nat.sub_zero] at loop
  show Seg _ A _ _ _ s₀ _ ((compStart (.GeneratorExp elt [⟨.Name x px, iter, [], 0⟩] scope pos) 0 (.ref I) .none cenv).onRaise (leaving cenv)) [] s
  unfold compStart
  rw [Sem.onRaise_eq_wrap]
  show Seg _ A _ _ _ s₀ _ ((ask >>= _).wrap _ _ _ _) [] s
  refine seg_bind_wrap (wpAny_askSetting ?_)
  split
  · exact seg_again rfl loop
  · refine seg_bind_wrap (wpAny_rule ?_)
    show Seg _ A _ _ _ s₀ _ ((standAt iter.pos >>= _).wrap _ _ _ _) [] s
    exact seg_bind_wrap (wpAny_standAt (seg_bind_wrap ((W₀ _ hh').self 0 s _ _ hst (seg_again rfl loop))))
/-- the generator a, about to tell its element j -/
def OwnAt (prog : Program) (w : World) (A : Around) (a : Addr) (g : Nat) (fp wr : List Addr) (n₀ : Nat) (F : Nat → Value → Prop) (j : Nat) (s : Shared) : Prop :=
  s.heap.IsGen a g ∧ s.heap.NoLimit ∧ ∃ gs, s.gens[g]? = some gs ∧ ∀ s'' : Shared, (∀ b ∈ fp, ∀ o, s.heap.get? b = some o → s''.heap.get? b = some o) →
    gs.Goes (model prog w) A.in1 (ownR wr) (ownProto fp wr n₀ F) (n₀ - j) (.send .none) s''
theorem set_size (s : Shared) (g : Nat) (y : GenState) : (s.setGen g y).gens.size = s.gens.size := by simp [Shared.setGen]
theorem walks_own (hh : A.handled = none) (a : Addr) (g : Nat) (fp wr : List Addr) (n₀ : Nat) (F : Nat → Value → Prop) (haf : a ∈ fp) (haw : a ∉ wr) (hsub : ∀ b ∈ wr, b ∈ fp)
    (hroom : A.depth < recursionLimit) (hcs : cStatics ∈ fp) (hcw : cStatics ∉ wr) :
    WalksS prog w A a fp wr (GX g) n₀ F (OwnAt prog w A a g fp wr n₀ F) where
  sub := hsub
  grefl := GX.refl g
  gtrans := fun _ _ _ x y => x.trans y
  frame := fun j s h' tk st _ hk =>
    ⟨let ⟨o, nm, qn, ho, r⟩ := st.1; ⟨o, nm, qn, hk a haf o ho, r⟩,
     (let ⟨mc, hns, hnn⟩ := st.2.1; ⟨mc, hns.at' fun o e => hk cStatics hcs o e, hnn⟩),
     let ⟨gs, hgs, hgo⟩ := st.2.2; ⟨gs, hgs, fun s'' hal => hgo s'' fun b hb o e => hal b hb o (hk b hb o e)⟩⟩
  item := fun j s Q E hj st hQ => by
    obtain ⟨hg, hl, gs, hgs, hgo⟩ := st
    obtain ⟨m, hm⟩ : ∃ m, n₀ - j = m + 1 := ⟨n₀ - j - 1, by omega⟩
    rw [hm] at hgo
    have hgl : g < s.gens.size := (Array.getElem?_eq_some_iff.mp hgs).1
    refine wpAny_with_toks (Nat.le_refl s.toks) ?_
    refine wpAny_pyNext_genexpQ (P := fun n s₀ s₁ => n = 0 ∧ Since wr s₀ s₁) hh hl hroom hg hgs (hgo _ fun _ _ _ e => e) (fun v s₁ gs' hb hv => ?_) (fun s₁ hp h' hk => ?_)
    · obtain ⟨hF, hs₁, hkap⟩ := hv
      have hidx : n₀ - 1 - (m + 1 - 1) = j := by omega
      rw [hidx] at hF
      intro htk
      have hrun : s₁.gens[g]? = some .running := (hs₁.gens.2.1 g (by rw [set_size]; exact hgl)).trans (setGen_self hgs)
      refine hQ v _ hF ⟨let ⟨o, nm, qn, ho, r⟩ := hg; ⟨o, nm, qn, hs₁.heap a o haw ho, r⟩, (let ⟨mc, hns, hnn⟩ := hl; ⟨mc, hns.at' fun o e => hs₁.heap cStatics o hcw e, hnn⟩), gs', setGen_self hrun, fun s'' hal => ?_⟩
        ⟨fun b o hb e => hs₁.heap b o hb e, ((GX.set s (y := .running) rfl).trans (GX.of_GC hs₁.gens)).trans (GX.set s₁ hb), hs₁.drawn, hs₁.os, htk⟩
      have e : n₀ - (j + 1) = m := by omega
      rw [e]
      exact hkap s'' hal
    · exact absurd hp.1 (Nat.succ_ne_zero m)
  done := fun s Q E st hQ => by
    obtain ⟨hg, hl, gs, hgs, hgo⟩ := st
    rw [Nat.sub_self] at hgo
    refine wpAny_with_toks (Nat.le_refl s.toks) ?_
    refine wpAny_pyNext_genexpQ (P := fun n s₀ s₁ => n = 0 ∧ Since wr s₀ s₁) hh hl hroom hg hgs (hgo _ fun _ _ _ e => e) (fun v s₁ gs' hb hv => ?_) (fun s₁ hp h' hk => ?_)
    · obtain ⟨_, _, hkap⟩ := hv
      exact False.elim (hkap s₁ fun _ _ _ e => e)
    · obtain ⟨_, hs₁⟩ := hp
      intro htk
      exact hQ _ ⟨fun b o hb e => hk b o (hs₁.heap b o hb e), ((GX.set s (y := .running) rfl).trans (GX.of_GC hs₁.gens)).trans (GX.set s₁ (y := .finished) rfl), hs₁.drawn, hs₁.os, htk⟩
  self := fun _ _ _ _ st hQ => wpAny_pyIter_gen st.1 hQ
theorem own_fresh {elt iter : Expr} {x : Str} {px : Pos} {scope : Scope} {pos : Pos} {I a : Addr} {g : Nat} {fp wr we fq : List Addr} {n₀ : Nat} {P : Nat → Value → Prop} {St₀ : Nat → Heap → Prop} {cenv : Env}
    (hh : A.handled = none) (W₀ : ∀ A' : Around, A'.handled = none → Walks prog w A' I fq [I] n₀ P St₀) (F : Nat → Value → Prop) {s : Shared} {m : Str → Option Value}
    (hx : cenv.kindOf x = some .local) (hp : (cenv.scope.kind == .class || (cenv.scope.kind == .module && cenv.locals != cenv.globals)) = false)
    (hco : cenv.scope.isCoroutine = false) (hCw : cenv.locals ∈ wr) (hIw : I ∈ wr) (hsub : ∀ b ∈ wr, b ∈ fp) (hfq : ∀ b ∈ fq, b ∈ fp) (hCq : cenv.locals ∉ fq) (hwe : ∀ b ∈ we, b ∈ wr) (hqe : ∀ b ∈ fq, b ∉ we)
    (hq : EltOk prog w (A.in1.over (.compLoop (.GeneratorExp elt [⟨.Name x px, iter, [], 0⟩] scope pos) 0 (.ref I) .none cenv) []) cenv x elt fp wr we P F s.heap)
    (hg : s.heap.IsGen a g) (hgs : s.gens[g]? = some (.fresh (.compStart (.GeneratorExp elt [⟨.Name x px, iter, [], 0⟩] scope pos) 0 (.ref I) .none cenv)))
    (hst : St₀ 0 s.heap) (hn : s.heap.Ns cenv.locals m) (hl : s.heap.NoLimit) : OwnAt prog w A a g fp wr n₀ F 0 s :=
  ⟨hg, hl, _, hgs, fun s'' hal => ⟨rfl, seg_begin (A := A.in1) hh W₀ F s.heap hx hp hco hCw hIw hsub hfq hCq hwe hqe hq s'' s'' m ((W₀ A hh).frame _ _ _ hst fun b hb o e => hal b (hfq b hb) o e)
    (hn.at' fun o e => hal _ (hsub _ hCw) o e) (Since.refl _ _) fun b hb _ o e => hal b hb o e⟩⟩
end
end Mine
end

section
set_option maxRecDepth 100000
set_option linter.unusedVariables false
set_option Elab.async false
open PySem PySem.W PyProof.Rows PySem.Spec PySem.Calls
namespace Mine
open Builtin
theorem slot_bytes_join : Slot "bytes" "join" "bytes.join" :=
  .of (owner := "bytes") (n := "join") (by rw [typeLookup_type, builtinLookup_eq_fast]; kernel_rfl) (by decide +kernel) (by decide +kernel) (by decide +kernel)
    (by first | exact .inl (by decide +kernel) | exact .inr (by decide +kernel)) (by rw [isSubtype_type]; kernel_rfl)
theorem entry_bytes_join : entryFor table "bytes.join" = some Builtin.«bytes.join» := entryFor_of_tree (by kernel_rfl)
theorem args_bytes_join_2 (a b : Value) : argsOk "bytes.join" ⟨[a, b], []⟩ := by
  unfold argsOk; rw [signature?_of (id := "bytes.join") (n := ['n', 'i', 'o', 'j']) (o := ['s', 'e', 't', 'y', 'b']) (by kernel_rfl) FB.owner_bytes]; kernel_rfl
theorem take_eq {id : String} {b : Array UInt8} {t : Tok} : Bytes.takeBuffer? id (.bytes b t) 0 = pure (some (b, none)) := by
  unfold Bytes.takeBuffer?
  rw [KBy.special_eq KBy.look_buffer, KBy.own_buffer]
  have e : Bytes.buffer? id (.bytes b t) ((0 : Int) == Bytes.fullReadOnly) = pure (some b) := by
    have : ((0 : Int) == Bytes.fullReadOnly) = false := by decide
    rw [this]; exact KBy.buffer_eq
  simp only [e]
  rfl
theorem takeQ_eq {id : String} {b : Array UInt8} {t : Tok} : Bytes.takeBufferQuiet? id (.bytes b t) 0 = pure (some (b, none)) := by
  unfold Bytes.takeBufferQuiet?
  rw [take_eq]; rfl
def bvals (l : List (List UInt8 × Tok)) : List Value := l.map fun p => .bytes p.1.toArray p.2
theorem exists_bvals : ∀ (vs : List Value), (∀ v ∈ vs, ∃ y u, v = Value.bytes (y : List UInt8).toArray u) → ∃ l, bvals l = vs
  | [], _ => ⟨[], rfl⟩
  | v :: vs, h => by
    obtain ⟨y, u, rfl⟩ := h v List.mem_cons_self
    obtain ⟨l, rfl⟩ := exists_bvals vs fun v hv => h v (List.mem_cons_of_mem _ hv)
    exact ⟨(y, u) :: l, rfl⟩
/-- what is taken up to now -/
def jst (l : List (List UInt8 × Tok)) (i : Nat) : Array (Array UInt8) × List (Value × Option Value) :=
  (((l.take i).map fun p => p.1.toArray).toArray, (l.take i).map fun p => (Value.bytes p.1.toArray p.2, none))
theorem jst_succ {l : List (List UInt8 × Tok)} {i : Nat} {p : List UInt8 × Tok} (h : l[i]? = some p) : ((jst l i).1.push p.1.toArray, (jst l i).2 ++ [(Value.bytes p.1.toArray p.2, none)]) = jst l (i + 1) := by
  unfold jst
  rw [List.take_add_one, h]
  simp
theorem jst_heap (l : List (List UInt8 × Tok)) (i : Nat) : ((jst l i).2.any fun x => x.1.onHeap) = false := by
  unfold jst
  rw [List.any_eq_false]
  intro x hx
  obtain ⟨p, _, rfl⟩ := List.mem_map.mp hx
  simp [Value.onHeap]
theorem joinLet {M : Model} {A : Around} {E : Value → Shared → Prop} {s : Shared} : ∀ (l : List (List UInt8 × Tok)) (keep : List Value) {Q : Unit → Shared → Prop}, Q () s →
    wpAny M A (Bytes.joinLetGo (l.map fun p => (Value.bytes p.1.toArray p.2, none)) keep) Q E s
  | [], _, _, h => wpAny_pure h
  | p :: l, keep, Q, h => by
    rw [List.map_cons]
    unfold Bytes.joinLetGo
    exact wpAny_bind (wpAny_letGo (joinLet l keep h))
theorem joined_flat (ps : List (Array UInt8)) : Bytes.joined #[] ps = (ps.map (·.toList)).flatten.toArray := by
  unfold Bytes.joined
  have all : ∀ (ps : List (Array UInt8)) (k : Nat) (out : Array UInt8), (ps.zipIdx k).foldl (fun out (x : Array UInt8 × Nat) => (if x.2 > 0 then out ++ #[] else out) ++ x.1) out = out ++ (ps.map (·.toList)).flatten.toArray := by
    intro ps
    induction ps with
    | nil => intro k out; simp
    | cons a r ih =>
      intro k out
      rw [List.zipIdx_cons, List.foldl_cons, ih]
      simp only [Array.append_empty, ite_self, List.map_cons, List.flatten_cons]
      rw [← List.append_toArray, Array.toArray_toList, Array.append_assoc]
  have := all ps 0 #[]
  rw [Array.empty_append] at this
  exact this
theorem sum_flat (l : List (List UInt8)) : ∀ k, (l.map List.toArray).foldl (fun (a : Nat) (b : Array UInt8) => a + b.size) k = k + l.flatten.length := by
  induction l with
  | nil => intro k; rfl
  | cons a r ih => intro k; rw [List.map_cons, List.foldl_cons, ih, List.flatten_cons, List.length_append]; simp only [List.size_toArray]; omega
section
variable {prog : Program} {w : World} {A : Around} {E : Value → Shared → Prop} {s : Shared} {Q : Value → Shared → Prop}
  {I : Addr} {fp wr : List Addr} {G : Array GenState → Array GenState → Prop} {n : Nat} {P : Nat → Value → Prop} {St : Nat → Shared → Prop}
theorem bytes_join {t : Tok} (W : WalksS prog w A.in1.in1.in1 I fp wr G n P St) (hT : ∀ i s, St i s → s.TypeIs (.ref I) "generator") (hst : St 0 s) (hfp : ∀ b ∈ fp, b < s.heap.objs.size) (hI : I ∈ fp) (hn : n ≤ sizeLine)
    (hq : ∀ s' (l : List (List UInt8 × Tok)), Moved (s.heap.objs.size :: wr) G { s with heap := s.heap.push { cls := .type "list", data := .seq #[] } } s' → ItemsOf P (bvals l).toArray n →
      (((l.map (·.1)).flatten.length ≤ 16777216) ∧ ∀ t' k, Q (.bytes (l.map (·.1)).flatten.toArray t') { s' with toks := k }))
    (hP : ∀ i v, P i v → ∃ y u, v = Value.bytes (y : List UInt8).toArray u) :
    wpAny (model prog w) A (call (.builtin "bytes.join") [.bytes #[] t, .ref I]) Q E s := by
  refine wpAny_call (codeAny_call_builtin slot_bytes_join.plain entry_bytes_join (slot_bytes_join.check _ _ _ _ _ _ _ _ (typeIs_bytes _ _ _) (args_bytes_join_2 _ _) ?_))
  show wpAny _ A.in1 (Bytes.joinM .bytes ⟨[.bytes #[] t, .ref I], []⟩) _ _ s
  unfold Bytes.joinM
  refine wpAny_bind (wpAny_of_eq (a := (Value.bytes #[] t, Value.ref I)) rfl ?_)
  show wpAny _ A.in1 (Bytes.joinItems (.ref I) >>= _) _ _ s
  refine wpAny_bind ?_
  unfold Bytes.joinItems
  refine wpAny_bind (wpAny_typeOf (hT 0 s hst) ?_)
  show wpAny _ A.in1 ((pyIter (.ref I)).tryCatch _ >>= fun it => call (.type "list") [it]) _ _ s
  refine wpAny_bind (wpAny_tryCatch (W.of_in1.of_in1.self 0 s _ _ hst ?_))
  refine call_list_gen W hT hst hfp hI (fun s' acc c hm hS hacc => ?_) hn
  obtain ⟨l, hl⟩ := exists_bvals acc.toList fun v hv => by
    obtain ⟨j, hj, rfl⟩ := Array.mem_iff_getElem.mp (Array.mem_toList_iff.mp hv)
    exact hP j _ (hacc.2 j _ (Array.getElem?_eq_getElem hj))
  obtain rfl : acc = (bvals l).toArray := by rw [hl]
  obtain ⟨hsz, hq⟩ := hq s' l hm hacc
  have seq9 : ∀ {Q : Option (Array Value) → Shared → Prop} {A : Around} {E : Value → Shared → Prop}, Q (some (bvals l).toArray) s' → wpAny (model prog w) A (seqItems? (.ref s.heap.objs.size)) Q E s' := fun h => wpAny_seqItems hS rfl h
  show wpAny _ A.in1 (seqItems? (.ref s.heap.objs.size) >>= _) _ _ s'
  refine wpAny_bind (seq9 ?_)
  have loop : ∀ (f : Nat → (Array (Array UInt8) × List (Value × Option Value)) → Sem (ForInStep (Array (Array UInt8) × List (Value × Option Value)))) {Q : Array (Array UInt8) × List (Value × Option Value) → Shared → Prop} {E : Value → Shared → Prop},
      (∀ i p, l[i]? = some p → ∀ {Q : ForInStep (Array (Array UInt8) × List (Value × Option Value)) → Shared → Prop}, Q (.yield (jst l (i + 1))) s' → wpAny (model prog w) A.in1 (f i (jst l i)) Q E s') →
      Q (jst l l.length) s' → wpAny (model prog w) A.in1 (forIn [:(bvals l).toArray.size] ((#[] : Array (Array UInt8)), ([] : List (Value × Option Value))) f) Q E s' := by
    intro f Q E hf hQ
    have all : ∀ k i, i + k = l.length → wpAny (model prog w) A.in1 (forIn (List.range' i k 1) (jst l i) f) Q E s' := by
      intro k
      induction k with
      | zero => intro i hi; rw [show i = l.length by omega]; exact wpAny_pure hQ
      | succ k ih =>
        intro i hi
        rw [List.range'_succ]
        exact KPc.turn (hf i _ (List.getElem?_eq_getElem (by omega)) (ih (i + 1) (by omega)))
    rw [KPc.range_list]
    have e0 : ((#[] : Array (Array UInt8)), ([] : List (Value × Option Value))) = jst l 0 := rfl
    rw [e0, show (bvals l).toArray.size = l.length by simp [bvals]]
    exact all _ 0 (by omega)
  have fin : ∀ {f : PySem.Fin → Shared → Prop} {e : Value → Shared → Prop}, (∀ t' k, f (.done (.ret (.bytes (l.map (·.1)).flatten.toArray t'))) { s' with toks := k }) →
      wpAny (model prog w) A.in1 (do
        let result ← Bytes.Kind.bytes.new (Bytes.joined #[] (jst l l.length).1.toList)
        holding (result :: (jst l l.length).2.flatMap fun (y, u) => y :: u.toList) point
        Bytes.joinLetGo (jst l l.length).2 [result]
        ret result) f e s' := by
    intro f e hf
    have ej : Bytes.joined #[] (jst l l.length).1.toList = (l.map (·.1)).flatten.toArray := by
      rw [joined_flat]
      unfold jst
      rw [List.take_length]
      simp only [List.map_map]
      rfl
    rw [ej]
    refine wpAny_bind (wpAny_mkBytes ?_ (by rw [sizeLine_eq, List.size_toArray]; exact hsz))
    refine wpAny_bind (wpAny_holding (wpAny_point ?_))
    unfold jst
    rw [List.take_length]
    exact wpAny_bind (joinLet l _ (wpAny_pure (hf _ _)))
  have big : Bytes.tooLong (Array.foldl (fun x1 x2 => x1 + x2.size) ((#[] : Array UInt8).size * ((jst l l.length).1.size - 1)) (jst l l.length).1) = false := by
    unfold jst
    rw [List.take_length]
    rw [← Array.foldl_toList]
    have := sum_flat (l.map (·.1)) 0
    rw [List.map_map] at this
    show Bytes.tooLong (List.foldl _ (0 * _) (l.map fun p => p.1.toArray)) = false
    rw [Nat.zero_mul]
    rw [show (List.foldl (fun (x1 : Nat) (x2 : Array UInt8) => x1 + x2.size) 0 (l.map fun p => p.1.toArray)) = 0 + (l.map (·.1)).flatten.length from this]
    exact KBy.tooLong_not (by omega)
  show wpAny _ A.in1 (if (Bytes.Kind.bytes == Bytes.Kind.bytes) = true then _ else _) _ _ s'
  rw [if_pos (show (Bytes.Kind.bytes == Bytes.Kind.bytes) = true by decide)]
  rcases l with _ | ⟨p, _ | ⟨q, r⟩⟩
  · show wpAny _ A.in1 (forIn [:(bvals []).toArray.size] (#[], []) _ >>= _) _ _ s'
    refine wpAny_bind (loop _ (fun i p hp Q hQ => ?_) ?_)
    · cases hp
    · refine wpAny_bind (wpAny_of_eq (a := #[]) rfl ?_)
      show wpAny _ A.in1 (if _ then _ else _) _ _ s'
      rw [big, if_neg Bool.false_ne_true]
      exact fin fun t' k => hq t' k
  · show wpAny _ A.in1 (typeOf (.bytes p.1.toArray p.2) >>= _) _ _ s'
    refine wpAny_bind (wpAny_typeOf (typeIs_bytes _ _ _) ?_)
    show wpAny _ A.in1 (rule _ >>= fun _ => ret _) _ _ s'
    refine wpAny_bind (wpAny_rule (wpAny_pure ?_))
    have := hq p.2 s'.toks
    rw [show (([p] : List (List UInt8 × Tok)).map (·.1)).flatten = p.1 by simp] at this
    exact this
  · show wpAny _ A.in1 (forIn [:(bvals (p :: q :: r)).toArray.size] (#[], []) _ >>= _) _ _ s'
    refine wpAny_bind (loop _ (fun i b hp Q hQ => ?_) ?_)
    · refine wpAny_bind (seq9 ?_)
      have hx : (bvals (p :: q :: r)).toArray.getD i .none = .bytes b.1.toArray b.2 := by
        have : (bvals (p :: q :: r))[i]? = some (.bytes b.1.toArray b.2) := by unfold bvals; rw [List.getElem?_map, hp]; rfl
        have hi := (List.getElem?_eq_some_iff.mp this).1
        simp only [Array.getD_eq_getD_getElem?, List.getElem?_toArray, this, Option.getD_some]
      dsimp only
      rw [hx]
      show wpAny _ A.in1 (if _ then _ else _) _ _ s'
      rw [show (Bytes.Kind.bytes == Bytes.Kind.bytearray || (jst (p :: q :: r) i).2.any fun x => x.1.onHeap) = false by rw [jst_heap]; rfl, if_neg Bool.false_ne_true]
      refine wpAny_bind (wpAny_holding (wpAny_of_eq takeQ_eq ?_))
      refine wpAny_bind (seq9 ?_)
      show wpAny _ A.in1 (if _ then _ else _) _ _ s'
      rw [if_neg (by simp)]
      refine wpAny_pure ?_
      have := jst_succ hp
      rw [← this] at hQ
      exact hQ
    · refine wpAny_bind (wpAny_of_eq (a := #[]) rfl ?_)
      show wpAny _ A.in1 (if _ then _ else _) _ _ s'
      rw [big, if_neg Bool.false_ne_true]
      exact fin fun t' k => hq t' k
end
end Mine
end

section
set_option maxRecDepth 100000
set_option linter.unusedVariables false
set_option Elab.async false
open PySem PySem.W PyProof.Rows PySem.Spec PySem.Calls
namespace Mine
theorem type_bytes_join : typeOf (.builtin "bytes.join") = pure (.type "method_descriptor") := by show builtinType _ = _; rw [builtinType_eq_fast]; kernel_rfl
theorem meth_join {M : Model} {A : Around} {E : Value → Shared → Prop} {s : Shared} {b : Array UInt8} {t : Tok} {pl : Sem Bool} {Q : Value × List Value → Shared → Prop} (h : Q (.builtin "bytes.join", [.bytes b t]) s) : wpAny M A (getMethod (.bytes b t) (Str.ofString "join") pl) Q E s := by
  with_reducible exact KBd.method_of (.bytes b t) (typeIs_bytes _ _ _) slot_bytes_join type_bytes_join KBd.noRef h
/-- the code object of the generator: there already, or made now -/
theorem code_made {M : Model} {A : Around} {E : Value → Shared → Prop} {s : Shared} {env : Env} {c P : Addr} {ps : Array Value} {pos : Pos} {qualname : Str} {scope : Scope} {Q : Value → Shared → Prop} (hc : env.code = .ref c)
    (hok : s.heap.IsCode c P ps) (htab : s.heap.TableAt c P ps)
    (hQ : ∀ c' h' tk ps', Heap.ExtBut P s.heap h' → s.heap.objs.size ≤ h'.objs.size → h'.TableAt c P ps' → TriplesOk ps'.toList → (codeAmong pos ps'.toList).isSome = true → ((codeAmong pos ps.toList).isSome = true → ps' = ps) → Q c' { s with heap := h', toks := tk }) :
    wpAny M A (genexprCode env pos qualname scope) Q E s := by
  cases hnf : codeAmong pos ps.toList with
  | none =>
    refine wpAny_genexprCodeX hc hok htab hnf fun c' h' tk hx hge hlt hcode _ htab' _ => ?_
    have htr : TriplesOk ps.toList := by obtain ⟨o, vs, file, tf, flags, tg, inF, text, tt, op, _, _, _, _, _, _, _, _, _, h, _⟩ := hok; exact h
    have htr' : TriplesOk (ps ++ #[rawInt pos.line, rawInt pos.col, .ref c']).toList := by obtain ⟨o, vs, file, tf, flags, tg, inF, text, tt, op, _, _, _, _, _, _, _, _, _, h, _⟩ := hcode; exact h
    refine hQ _ _ _ _ hx (by omega) htab' htr' ?_ (fun h => by rw [hnf] at h; cases h)
    have e : (ps ++ #[rawInt pos.line, rawInt pos.col, Value.ref c']).toList = ps.toList ++ [rawInt pos.line, rawInt pos.col, .ref c'] := by simp
    rw [e, codeAmong_snoc _ htr hnf]; rfl
  | some cv =>
    have htr : TriplesOk ps.toList := by obtain ⟨o, vs, file, tf, flags, tg, inF, text, tt, op, _, _, _, _, _, _, _, _, _, h, _⟩ := hok; exact h
    obtain ⟨o, vs, file, tf, flags, tg, inF, text, tt, op, ho, hd, h11, h2, h7, h9, h10, hop, hpd, _, hne⟩ := hok
    unfold genexprCode codeAt
    rw [hc, if_neg (show ¬ ((Value.ref c == Value.none) = true) from Bool.false_ne_true)]
    refine wpAny_bind (wpAny_fieldsOf ho hd ?_)
    rw [h11]
    refine wpAny_bind (wpAny_fieldsOf hop hpd ?_)
    rw [hnf]
    exact wpAny_pure (hQ cv s.heap s.toks ps (Heap.ExtBut.refl _ _) (Nat.le_refl _) htab htr (by rw [hnf]; rfl) fun _ => rfl)
section
variable {prog : Program} {w : World} {A : Around} {E : Value → Shared → Prop} {s : Shared}
theorem gen_make {env : Env} {elt iter : Expr} {x : Str} {px : Pos} {scope : Scope} {pos : Pos} {Q : Value → Shared → Prop} {c P l : Addr} {ps items : Array Value} {mg : Str → Option Value} {bm : Addr} {ob : Obj}
    (hco : scope.isCoroutine = false) (hclos : closureFor scope env = pure []) (hcell : ∀ y ∈ scope.names, y.2 ≠ .cell) (h0 : scope.names.lookup (".0" : Str) = some NameKind.local) (hkind : scope.kind = .function)
    (hroom : A.depth < recursionLimit) (hc : env.code = .ref c) (hlim : s.heap.NoLimit) (hl : s.heap.IsList l items) (hlP : l ≠ P)
    (hok : s.heap.IsCode c P ps) (htab : s.heap.TableAt c P ps) (Mb : BMod s.heap env.globals mg bm ob)
    (hiter : wpAny (model prog w) A (eval iter env) (fun v s₁ => v = .ref l ∧ s₁ = s) E s)
    (hQ : ∀ C I a h₅ tk code ps', I = s.heap.objs.size → I < C → a = C + 1 → h₅.objs.size = a + 1 → Heap.ExtBut P s.heap h₅ → h₅.IsListIter I l 0 → h₅.IsList l items → h₅.Ns C (fun y => if y = (".0" : Str) then some (.ref I) else none) →
      h₅.IsGen a s.gens.size → h₅.NoLimit → h₅.TableAt c P ps' → TriplesOk ps'.toList → (codeAmong pos ps'.toList).isSome = true → ((codeAmong pos ps.toList).isSome = true → ps' = ps) →
      Q (.ref a) { s with gens := s.gens.push (.fresh (.compStart (.GeneratorExp elt [⟨.Name x px, iter, [], 0⟩] scope pos) 0 (.ref I) .none (genEnv scope [] C code builtinsNs env))), toks := tk, heap := h₅ })
    (hs : ∀ x, genFold iter env x = pure x) :
    wpAny (model prog w) A (eval (.GeneratorExp elt [⟨.Name x px, iter, [], 0⟩] scope pos) env) Q E s := by
  refine wpAny_GeneratorExp_make hco hclos hcell h0 hkind hroom (wpAny_mono hiter (fun v s₁ h₁ => ?_) fun _ _ e => e) hs
  obtain ⟨rfl, rfl⟩ := h₁
  have hllt : l < s₁.heap.objs.size := by obtain ⟨_, e, _⟩ := hl; exact Heap.lt_size e
  have hPlt : P < s₁.heap.objs.size := Heap.lt_size htab.2
  have hcP : cStatics ≠ P := fun e => by
    obtain ⟨_, hns, _⟩ := hlim
    obtain ⟨o, es, ep, ho, hd, _⟩ := hns
    rw [e, htab.2] at ho; cases ho; cases hd
  have push1 : ∀ b o, s₁.heap.get? b = some o → (s₁.heap.push { cls := .type "list_iterator", data := .fields #[.ref l, .int 0 0] }).get? b = some o := fun b o e => Heap.get?_push_of_some _ e
  refine wpAny_pyIter_list hl ⟨hlim.keeps push1, code_made hc (hok.keeps push1) (htab.keeps push1) fun c' h₃ tk₃ ps' hx₃ hge htab₃ htr₃ hsome hsame => ?_⟩
  have hg3 : s₁.heap.objs.size + 1 ≤ h₃.objs.size := by rw [Heap.size_push] at hge; exact hge
  have M₃ : BMod h₃ env.globals mg bm ob := (Mb.keeps push1).extBut (htab.keeps push1) hx₃
  refine wpAny_builtinsFor M₃.ns M₃.name M₃.ne M₃.obj M₃.cls M₃.dict M₃.data fun h' hn' hs' => ?_
  have hsz : h'.objs.size = h₃.objs.size + 1 := by rw [hs'.1, Heap.size_push]
  have keep' : ∀ b o, h₃.get? b = some o → h'.get? b = some o := fun b o e => hs'.extBut b o (Nat.ne_of_lt (Heap.lt_size e)) (Heap.get?_push_of_some _ e)
  have keep₅ : ∀ (g : Obj) b o, h₃.get? b = some o → (h'.push g).get? b = some o := fun g b o e => Heap.get?_push_of_some _ (keep' b o e)
  have hit : (s₁.heap.push { cls := .type "list_iterator", data := .fields #[.ref l, .int 0 0] }).IsListIter s₁.heap.objs.size l 0 := ⟨_, Heap.get?_push_size _ rfl, rfl, rfl⟩
  have hIP : s₁.heap.objs.size ≠ P := (Nat.ne_of_lt hPlt).symm
  refine hQ h₃.objs.size s₁.heap.objs.size h'.objs.size _ _ _ ps' rfl (by omega) (by omega) (by rw [Heap.size_push]) (fun b o hb e => keep₅ _ b o (hx₃ b o hb (push1 b o e)))
    (let ⟨o, ho, r⟩ := hit; ⟨o, keep₅ _ _ _ (hx₃ _ o hIP ho), r⟩) (let ⟨o, ho, r⟩ := hl; ⟨o, keep₅ _ _ _ (hx₃ _ o hlP (push1 _ _ ho)), r⟩) (hn'.push _) ⟨_, _, _, Heap.get?_push_size _ rfl, rfl, rfl, rfl⟩
    ((hlim.keeps push1).extBut hx₃ hcP |>.keeps (keep₅ _)) (htab₃.keeps (keep₅ _)) htr₃ hsome hsame
end
end Mine
end

section
set_option maxRecDepth 100000
set_option linter.unusedVariables false
set_option Elab.async false
open PySem PySem.W PyProof.Rows PySem.Spec PySem.Calls
namespace Mine
/-- what stands in the heap at lo and above, but for C -/
def restOf (lo C : Addr) (h : Heap) : List (Addr × Obj) := (List.range h.objs.size).filterMap fun b => if lo ≤ b ∧ b ≠ C then (h.get? b).map fun o => (b, o) else none
theorem mem_rest {lo C b : Addr} {h : Heap} {o : Obj} : (b, o) ∈ restOf lo C h ↔ lo ≤ b ∧ b ≠ C ∧ h.get? b = some o := by
  unfold restOf
  rw [List.mem_filterMap]
  constructor
  · rintro ⟨x, hx, e⟩
    split at e
    · rename_i hc
      cases hg : h.get? x with
      | none => rw [hg] at e; cases e
      | some o' =>
        rw [hg] at e
        simp only [Option.map_some, Option.some.injEq, Prod.mk.injEq] at e
        obtain ⟨rfl, rfl⟩ := e
        exact ⟨hc.1, hc.2, hg⟩
    · cases e
  · rintro ⟨h1, h2, h3⟩
    exact ⟨b, List.mem_range.mpr (Heap.lt_size h3), by rw [if_pos ⟨h1, h2⟩, h3]; rfl⟩
/-- a base for a frame further in: all that stands, but for the ledger -/
theorem hide_base {A : Around} {base g h : Heap} {outer : List Env} {L a : Addr} {m : Str → Option Value} {ledger : List (Addr × Obj)} {name : Str} {scope : Scope} {cd : Value}
    (B : Below A base outer g) (F : Fr g L h m) (N : News g L h ledger) (hk : scope.kind = .function) :
    ∃ g₂ : Heap, (∀ b o, g.get? b = some o → g₂.get? b = some o) ∧ Below (A.deeper (envOf name scope L a cd)) base (envOf name scope L a cd :: outer) g₂ ∧ g₂.objs.size = h.objs.size ∧ (∀ b o, g₂.get? b = some o → h.get? b = some o) ∧
      (∀ p ∈ ledger, g₂.get? p.1 = none) ∧ (∀ b o, h.get? b = some o → (∀ p ∈ ledger, p.1 ≠ b) → g₂.get? b = some o) := by
  have nm : ∀ b o, g.get? b = some o → b ∉ ledger.map (·.1) := fun b o e q => by
    obtain ⟨p, hp, rfl⟩ := List.mem_map.mp q
    rw [(N p hp).2.2] at e; cases e
  have st : ∀ b o, g.get? b = some o → (hideAll h (ledger.map (·.1))).get? b = some o := fun b o e => hideAll_get _ (F.keep b o e) (nm b o e)
  have nL : L ∉ ledger.map (·.1) := fun q => by
    obtain ⟨p, hp, e⟩ := List.mem_map.mp q
    exact (N p hp).2.1 e
  have B₁ := B.push (name := name) (scope := scope) (a := a) (cd := cd) F hk
  refine ⟨hideAll h (ledger.map (·.1)), st, ⟨B₁.stack, fun b o e => st b o (B.stays b o e), funFrames_hideAll B₁.frames fun env he b hb hf => ?_⟩, hideAll_size _ _, fun b o e => of_hideAll _ e,
    fun p hp => hideAll_none _ (List.mem_map_of_mem hp), fun b o e hne => hideAll_get _ e fun q => ?_⟩
  · cases he with
    | head => exact nL ((Option.some.inj hf : L = b) ▸ hb)
    | tail _ he =>
      obtain ⟨L₁, o₁, hf₁, ho₁⟩ := funFrames_in B.frames env he
      rw [hf₁] at hf
      exact nm L₁ o₁ ho₁ ((Option.some.inj hf : L₁ = b) ▸ hb)
  · obtain ⟨p, hp, rfl⟩ := List.mem_map.mp q
    exact hne p hp rfl
theorem items_are {bs : List (List UInt8)} {n : Nat} {l : List (List UInt8 × Tok)} (hlen : bs.length = n)
    (h : ItemsOf (fun i v => ∃ b tk, bs[i]? = some b ∧ v = Value.bytes b.toArray tk) (bvals l).toArray n) : l.map (·.1) = bs := by
  have hl : l.length = n := by have := h.1; simpa [bvals] using this
  apply List.ext_getElem?
  intro i
  by_cases hi : i < l.length
  · have hv : (bvals l).toArray[i]? = some (.bytes (l[i]).1.toArray (l[i]).2) := by simp [bvals, hi]
    obtain ⟨b, tk, hb, e⟩ := h.2 i _ hv
    have hb' : (l[i]).1 = b := by
      have := (Value.bytes.inj e).1
      have := congrArg Array.toList this
      simpa using this
    rw [List.getElem?_map, List.getElem?_eq_getElem hi, hb, ← hb']
    rfl
  · rw [List.getElem?_eq_none (by simpa using hi), List.getElem?_eq_none (by omega)]
section
variable {prog : Program} {w : World} {A : Around} {E : Value → Shared → Prop} {s : Shared}
theorem gen_run {t : Tok} {a C I l g : Nat} {items : Array Value} {elt iter : Expr} {x : Str} {px : Pos} {scope : Scope} {pos : Pos} {code : Value} {env : Env} {bs : List (List UInt8)} {m : Str → Option Value} {Q : Value → Shared → Prop}
    (hh : A.handled = none) (hroom : A.depth < recursionLimit) (hco : scope.isCoroutine = false) (hkind : scope.kind = .function) (hx : scope.names.lookup x = some .local)
    (hgen : s.heap.IsGen a g) (hgs : s.gens[g]? = some (.fresh (.compStart (.GeneratorExp elt [⟨.Name x px, iter, [], 0⟩] scope pos) 0 (.ref I) .none (genEnv scope [] C code builtinsNs env))))
    (hit : s.heap.IsListIter I l 0) (hlist : s.heap.IsList l items) (hns : s.heap.Ns C m) (hlim : s.heap.NoLimit) (hsz : s.heap.objs.size = a + 1) (hI : I < C) (hC : a = C + 1) (hl : l < I) (hcs : @LT.lt Nat _ cStatics I)
    (dead : List Addr) (hdead : ∀ b ∈ dead, @LT.lt Nat _ b I ∧ b ≠ l ∧ b ≠ cStatics)
    (hq : EltOk prog w (A.in1.in1.in1.in1.over (.compLoop (.GeneratorExp elt [⟨.Name x px, iter, [], 0⟩] scope pos) 0 (.ref I) .none (genEnv scope [] C code builtinsNs env)) []) (genEnv scope [] C code builtinsNs env) x elt (List.range (a + 1)) (C :: I :: dead) (C :: dead)
      (fun i v => items[i]? = some v) (fun i v => ∃ b tk, bs[i]? = some b ∧ v = Value.bytes b.toArray tk) s.heap)
    (hlen : bs.length = items.size) (hbs : bs.flatten.length ≤ 16777216) (hn : items.size ≤ sizeLine)
    (hQ : ∀ h' gs' tk' t', (∀ b o, b ≠ C → b ≠ I → b ∉ dead → s.heap.get? b = some o → h'.get? b = some o) → GX g s.gens gs' → Q (.bytes bs.flatten.toArray t') { s with heap := h', gens := gs', toks := tk' }) :
    wpAny (model prog w) A (call (.builtin "bytes.join") [.bytes #[] t, .ref a]) Q E s := by
  have hwr : ∀ b, b ∈ C :: I :: dead → @LT.lt Nat _ b a := by
    intro b hb
    rcases List.mem_cons.mp hb with rfl | hb
    · omega
    · rcases List.mem_cons.mp hb with rfl | hb
      · omega
      · have := (hdead b hb).1; omega
  have hsub : ∀ b ∈ C :: I :: dead, b ∈ List.range (a + 1) := fun b hb => List.mem_range.mpr (Nat.lt_succ_of_lt (hwr b hb))
  have hcw : cStatics ∉ C :: I :: dead := by
    intro h
    rcases List.mem_cons.mp h with h | h
    · exact absurd hI (Nat.not_lt.mpr (Nat.le_of_lt (h ▸ hcs)))
    · rcases List.mem_cons.mp h with h | h
      · exact Nat.lt_irrefl I (h ▸ hcs)
      · exact (hdead _ h).2.2 rfl
  have W := walks_own (prog := prog) (w := w) (A := A.in1.in1.in1) hh a g (List.range (a + 1)) (C :: I :: dead) items.size (fun i v => ∃ b tk, bs[i]? = some b ∧ v = Value.bytes b.toArray tk)
    (List.mem_range.mpr (Nat.lt_succ_self a)) (fun h => Nat.lt_irrefl _ (hwr a h)) hsub hroom (List.mem_range.mpr (Nat.lt_trans hcs (by omega))) hcw
  have hst : OwnAt prog w A.in1.in1.in1 a g (List.range (a + 1)) (C :: I :: dead) items.size (fun i v => ∃ b tk, bs[i]? = some b ∧ v = Value.bytes b.toArray tk) 0 s := by
    refine own_fresh (A := A.in1.in1.in1) (P := fun i v => items[i]? = some v) (St₀ := fun i h => h.IsListIter I l i ∧ h.IsList l items) (fq := [I, l]) (we := C :: dead) (cenv := genEnv scope [] C code builtinsNs env) (m := m) hh
      (fun A' hA => Walks.list hA I l (Nat.ne_of_lt hl) items) _ hx (by simp [genEnv, hkind]) hco (List.mem_cons_self ..) (List.mem_cons_of_mem _ (List.mem_cons_self ..)) hsub ?_ ?_ ?_ ?_ hq hgen hgs ⟨hit, hlist⟩ hns hlim
    · intro b hb
      rcases List.mem_cons.mp hb with rfl | hb
      · exact List.mem_range.mpr (by omega)
      · rcases List.mem_cons.mp hb with rfl | hb
        · exact List.mem_range.mpr (by omega)
        · nomatch hb
    · show C ∉ [I, l]
      intro h
      rcases List.mem_cons.mp h with h | h
      · omega
      · rcases List.mem_cons.mp h with h | h
        · omega
        · nomatch h
    · intro b hb
      rcases List.mem_cons.mp hb with rfl | hb
      · exact List.mem_cons_self ..
      · exact List.mem_cons_of_mem _ (List.mem_cons_of_mem _ hb)
    · intro b hb h
      have h1 : @LT.lt Nat _ b C := by
        rcases List.mem_cons.mp hb with rfl | hb
        · omega
        · rcases List.mem_cons.mp hb with rfl | hb
          · omega
          · nomatch hb
      rcases List.mem_cons.mp h with rfl | h
      · exact Nat.lt_irrefl _ h1
      · rcases List.mem_cons.mp hb with rfl | hb
        · exact Nat.lt_irrefl _ (hdead b h).1
        · rcases List.mem_cons.mp hb with rfl | hb
          · exact (hdead b h).2.1 rfl
          · nomatch hb
  refine bytes_join W (fun i s st => st.1.typeIs) hst (fun b hb => by rw [hsz]; exact List.mem_range.mp hb) (List.mem_range.mpr (Nat.lt_succ_self a)) hn (fun s' l' hm hacc => ?_) (fun i v h => by obtain ⟨b, tk, _, e⟩ := h; exact ⟨b, tk, e⟩)
  rw [items_are hlen hacc]
  refine ⟨hbs, fun t' k => ?_⟩
  obtain ⟨h', gs', d', tk', o'⟩ := s'
  obtain ⟨hm1, hm2, hm3, hm4, hm5⟩ := hm
  dsimp only at hm1 hm2 hm3 hm4 hm5
  subst hm3 hm4
  refine hQ h' gs' k t' (fun b o h1 h2 h3 e => hm1 b o ?_ (Heap.get?_push_of_some _ e)) hm2
  intro hb
  rcases List.mem_cons.mp hb with rfl | hb
  · exact Nat.lt_irrefl _ (Heap.lt_size e)
  · rcases List.mem_cons.mp hb with rfl | hb
    · exact h1 rfl
    · rcases List.mem_cons.mp hb with rfl | hb
      · exact h2 rfl
      · exact h3 hb
end
end Mine
end

section
open PySem PySem.W PyProof.Rows PySem.Spec PySem.Calls Rlp
set_option Elab.async false
set_option maxRecDepth 100000
set_option maxHeartbeats 0
set_option linter.unusedVariables false
namespace Mine
theorem fillK10 : (fun (_ : OpenLaw) (_ : Params → Frag) => True) PySem.Challenge.rw_bi0020_01 K := by
  k_fill
  trivial
local macro_rules | `(tactic| walk_at "ENTER0") => `(tactic| (refine wpAny_call ?_; k_dflt (refine' code_def ?k1 ?k2 ?k3 ?k4 ?k5 ?kA ?kF ?kK ?k6 ?k7 ?k8 ?k9 ?kB ?_ ?c2 ?c3 ?c4 ?c5; (case kA => exact rfl); (case kF => exact And.right (by assumption)); (case kK => exact And.left (by assumption)); (case k1 => k_asm); (case k2 => k_asm); (case k3 => k_asm); (case k4 => k_asm); (case k5 => k_asm); (case k6 => k_is); (case k7 => k_is); (case k8 => ktr_room); (case k9 => first | exact BindsTo.of_eq rfl | exact binds_K (by k_in) rfl (by k_is) rfl rfl rfl); (case c5 => decide); (case kB => exact locs rfl); (case c2 => exact rfl); (case c3 => exact rfl); (case c4 => exact rfl); k_whole; intro g' L' h' FG' F' N' B' X' T'; (try dsimp only); (try k_fold))))
local macro_rules | `(tactic| walk_at "ENTER") => `(tactic| (walk_at "ENTER0"; k_steps))
local macro_rules | `(tactic| walk_at "bsz") => `(tactic| ((try simp only [List.size_toArray, List.length_append, List.length_cons, List.length_nil, be_length, beK_length, slice_length]); omega))
local macro_rules | `(tactic| walk_at "call builtin:len") => `(tactic| ((with_reducible show wpAny _ _ (call (Value.builtin _) [Value.bytes (List.toArray _) _]) _ _ _); refine len_bytes (by walk_at "bsz") ?_; (try simp only [List.size_toArray, be_length])))
local macro_rules | `(tactic| walk_at "binaryOp Add bytes bytes") => `(tactic| ((with_reducible show wpAny _ _ (binaryOp Operator.Add (Value.bytes (List.toArray _) _) (Value.bytes (List.toArray _) _)) _ _ _); refine KBy.add_bytes (by walk_at "bsz") ?_; intro _ _; (try simp only [List.append_toArray, List.cons_append, List.nil_append])))
local macro_rules | `(tactic| walk_at "subscriptTail") => `(tactic| ((with_reducible show wpAny _ _ (subscriptTail _ _ (Value.bytes (List.toArray _) _) (Value.ref _)) _ _ _); refine slice_int (s := ⟨_, _, _, _, _⟩) (by k_asm) (by k_asm) (by omega) (by omega) (by omega) ?_; intro _ _ _ _ _))
local macro_rules | `(tactic| walk_at "dp") => `(tactic| ((show _ + _ < _); simp only [ktr_dp, ktr_un]; omega))
local macro_rules | `(tactic| walk_at "call ref") => `(tactic| ((with_reducible show wpAny _ _ (call (Value.ref 1464) _) _ _ _); (k_dflt (refine' b2i ?k1 ?k2 ?k3 ?k4 ?k5 ?k6 ?k7 ?k8 ?k9 ?_; (case k1 => k_asm); (case k2 => k_asm); (case k3 => k_asm); (case k4 => k_asm); (case k5 => k_asm); (case k6 => exact ⟨rfl, rfl⟩); (case k7 => walk_at "dp"); (case k8 => walk_at "dp"); (case k9 => walk_at "bsz"))); intro _ _ _ _ _))
local macro_rules | `(tactic| walk_at "call ref") => `(tactic| ((with_reducible show wpAny _ _ (call (Value.ref 1736) _) _ _ _); (k_dflt (refine' clp_ok ?k1 ?k2 ?k3 ?k4 ?k5 ?k6 ?k7 ?k8 ?k9 ?k0 ?_; (case k1 => k_asm); (case k2 => k_asm); (case k3 => k_asm); (case k4 => k_asm); (case k5 => k_asm); (case k6 => exact ⟨rfl, rfl⟩); (case k7 => walk_at "dp"); (case k8 => walk_at "dp"); (case k9 => walk_at "bsz"); (case k0 => assumption))); intro _ _ _ _ _ _ _ _ _ _))
local macro_rules | `(tactic| walk_at "call ref") => `(tactic| ((with_reducible show wpAny _ _ (call (Value.ref 1457) _) _ _ _); (k_dflt (refine' is_b ?k1 ?k2 ?k3 ?k4 ?k5 ?k6 ?k7 ?k8 ?_; (case k1 => k_asm); (case k2 => k_asm); (case k3 => k_asm); (case k4 => k_asm); (case k5 => k_asm); (case k6 => exact ⟨rfl, rfl⟩); (case k7 => walk_at "dp"); (case k8 => walk_at "dp"))); intro _ _ _ _))
local macro_rules | `(tactic| walk_at "call ref") => `(tactic| ((with_reducible show wpAny _ _ (call (Value.ref 1714) _) _ _ _); (k_dflt (refine' dr_ok ?k1 ?k2 ?k3 ?k4 ?k5 ?k6 ?k7 ?k8 ?k9 ?ka ?kb ?_; (case k1 => k_asm); (case k2 => k_asm); (case k3 => k_asm); (case k4 => k_asm); (case k5 => k_asm); (case ka => assumption); (case kb => assumption); (case k6 => exact ⟨rfl, rfl⟩); (case k7 => walk_at "dp"); (case k8 => walk_at "dp"); (case k9 => assumption))); intro _ _ _ _ _ _ _ _ _ _ _ _ _ _ _))
local macro_rules | `(tactic| walk_at "call ref") => `(tactic| ((with_reducible show wpAny _ _ (call (Value.ref 1500) [Value.ref 1509, _]) _ _ _); (k_dflt (refine' des_plain ?k1 ?k2 ?k3 ?k4 ?k5 ?k6 ?k7 ?k8 ?k9 ?k0 ?_; (case k1 => k_asm); (case k2 => k_asm); (case k3 => k_asm); (case k4 => k_asm); (case k5 => k_asm); (case k6 => exact ⟨rfl, rfl⟩); (case k7 => walk_at "dp"); (case k8 => walk_at "dp"); (case k9 => walk_at "bsz"); (case k0 => assumption))); intro _ _ _ _ _))
local macro_rules | `(tactic| walk_at "call ref") => `(tactic| ((with_reducible show wpAny _ _ (call (Value.ref 1471) _) _ _ _); (k_dflt (refine' i2b ?k1 ?k2 ?k3 ?k4 ?k5 ?k6 ?k7 ?k8 ?k9 ?_; (case k1 => k_asm); (case k2 => k_asm); (case k3 => k_asm); (case k4 => k_asm); (case k5 => k_asm); (case k6 => exact ⟨rfl, rfl⟩); (case k7 => walk_at "dp"); (case k8 => walk_at "dp"); (case k9 => walk_at "bsz"))); intro _ _ _ _ _))
theorem mem_of {α : Type} {x : α} {l : List α} (h : x ∈ l) : List.Mem x l := h
local macro_rules | `(tactic| k_mem) => `(tactic| (refine mem_of ?_; ktr_member))
local macro_rules | `(tactic| walk_at "getMethod bytes") => `(tactic| ((with_reducible show wpAny _ _ (getMethod (Value.bytes _ _) _ _) _ _ _); refine meth_join ?_))
local macro_rules | `(tactic| walk_at "call ref") => `(tactic| ((with_reducible show wpAny _ _ (call (Value.ref 1729) [_, Value.int 192 _]) _ _ _); (k_dflt (refine' lp (off := 192) ?k1 ?k2 ?k3 ?k4 ?k5 ?k6 ?k7 ?k8 ?k9 ?k0 ?_; (case k1 => k_asm); (case k2 => k_asm); (case k3 => k_asm); (case k4 => k_asm); (case k5 => k_asm); (case k6 => exact ⟨rfl, rfl⟩); (case k7 => walk_at "dp"); (case k8 => walk_at "dp"); (case k9 => omega); (case k0 => exact Or.inr rfl))); intro _ _ _ _ _))
/-- the table of the code objects made within a code object -/
abbrev tabObj (ps : Array Value) : Obj := { cls := .none, data := .fields ps }
/-- where encode_raw's generator stands -/
def gpos : Pos := { line := 226, col := 27, endLine := 226, endCol := 56 }
/-- encode_raw, of values less deep than k -/
def ErSpec (w : World) (k : Nat) : Prop := ∀ {p : Program} {loose : List Str} {mean : ExcName → Option Value} {mg mb : Str → Option Value} {dp un : Nat} {gd : Option (List Code)} {ev : Env} {outer : List Env} {A₀ : Around} {base h₀ : Heap} {L : Addr} {m : Str → Option Value} {news : List (Addr × Obj)} {s : Shared} {Q E : Value → Shared → Prop} {ps : Array Value} {v : Value} {d : D},
    Below A₀ base outer h₀ → Fr h₀ L s.heap m → (K w.params).In h₀ → News h₀ L s.heap ((1702, tabObj ps) :: news) → Top p loose mean mg mb h₀ → ev.scope.kind = .function ∧ ev.frame = some L →
    dp + 30 + 4 * k < recursionLimit → un + 100 + 30 * k < cLine → TriplesOk ps.toList → (∀ p ∈ news, p.1 ≠ 1702) → DIn news v d → d.depth < k → (enc d).length < 2 ^ 23 →
    (∀ h' gs' tk' tk ps', Fr h₀ L h' m → News h₀ L h' ((1702, tabObj ps') :: news) → GC s.gens gs' → TriplesOk ps'.toList → ((codeAmong gpos ps.toList).isSome = true → ps' = ps) → Q (.bytes (enc d).toArray tk) { s with heap := h', gens := gs', toks := tk' }) →
    wpAny (model pg w) (ktrE dp un gd ev outer) (call (.ref 1707) [v]) Q E s
theorem er_call {w : World} {k : Nat} (H : ErSpec w k) {p : Program} {loose : List Str} {mean : ExcName → Option Value} {mg mb : Str → Option Value} {dp un : Nat} {gd : Option (List Code)} {ev : Env} {outer : List Env} {A₀ : Around} {base h₀ : Heap} {L : Addr} {m : Str → Option Value} {news : List (Addr × Obj)} {s : Shared} {Q E : Value → Shared → Prop} {ps : Array Value} {v : Value} {d : D}
    (B : Below A₀ base outer h₀) (F : Fr h₀ L s.heap m) (X : (K w.params).In h₀) (N : News h₀ L s.heap ((1702, tabObj ps) :: news)) (T : Top p loose mean mg mb h₀) (hk : ev.scope.kind = .function ∧ ev.frame = some L)
    (hd : dp + 30 + 4 * k < recursionLimit) (hu : un + 100 + 30 * k < cLine) (hps : TriplesOk ps.toList) (h17 : ∀ p ∈ news, p.1 ≠ 1702) (hv : DIn news v d) (hdk : d.depth < k) (hz : (enc d).length < 2 ^ 23)
    (hret : (∀ h' gs' tk' tk ps', Fr h₀ L h' m → News h₀ L h' ((1702, tabObj ps') :: news) → GC s.gens gs' → TriplesOk ps'.toList → ((codeAmong gpos ps.toList).isSome = true → ps' = ps) → Q (.bytes (enc d).toArray tk) { s with heap := h', gens := gs', toks := tk' })) :
    wpAny (model pg w) (ktrE dp un gd ev outer) (call (.ref 1707) [v]) Q E s := H B F X N T hk hd hu hps h17 hv hdk hz hret
theorem DsIn.at {nw : List (Addr × Obj)} : ∀ {vs : List Value} {ds : List D}, DsIn nw vs ds → ∀ {i : Nat} {v : Value}, vs[i]? = some v → ∃ d, ds[i]? = some d ∧ DIn nw v d
  | _, _, .nil, _, _, h => by simp at h
  | _, _, .cons a b, i, v, h => by
    cases i with
    | zero => simp only [List.getElem?_cons_zero, Option.some.injEq] at h; subst h; exact ⟨_, rfl, a⟩
    | succ i => simp only [List.getElem?_cons_succ] at h ⊢; exact DsIn.at b h
theorem depths_at : ∀ {ds : List D} {i : Nat} {d : D}, ds[i]? = some d → d.depth ≤ depths ds
  | [], _, _, h => by simp at h
  | x :: r, i, d, h => by
    unfold depths
    cases i with
    | zero => simp only [List.getElem?_cons_zero, Option.some.injEq] at h; subst h; omega
    | succ i => simp only [List.getElem?_cons_succ] at h; have := depths_at h; omega
theorem encs_flat : ∀ (ds : List D), (ds.map enc).flatten = encs ds
  | [] => rfl
  | d :: r => by rw [List.map_cons, List.flatten_cons, encs_flat r]; rfl
theorem encs_at : ∀ {ds : List D} {i : Nat} {d : D}, ds[i]? = some d → (enc d).length ≤ (encs ds).length
  | [], _, _, h => by simp at h
  | x :: r, i, d, h => by
    unfold encs
    rw [List.length_append]
    cases i with
    | zero => simp only [List.getElem?_cons_zero, Option.some.injEq] at h; subst h; omega
    | succ i => simp only [List.getElem?_cons_succ] at h; have := encs_at h; omega
theorem encs_count : ∀ (ds : List D), ds.length ≤ (encs ds).length
  | [] => Nat.le_refl _
  | d :: r => by unfold encs; rw [List.length_append, List.length_cons]; have := encs_count r; have := enc_length_pos d; omega
theorem elt_ok {w : World} {k : Nat} (H : ErSpec w k) {AE : Around} {cenv : Env} {C I a : Nat} {dead : List Addr} {vs : List Value} {ds : List D} {g₂ h₅ : Heap} {ps : Array Value} {p1 p2 p3 : Pos}
    {p : Program} {loose : List Str} {mean : ExcName → Option Value} {mg mb : Str → Option Value} {dp un : Nat} {gd : Option (List Code)} {outer : List Env} {A₀ : Around} {base : Heap} {news : List (Addr × Obj)}
    (hAE : AE = ktrE dp un gd cenv outer) (hcs : cenv.scope.kind = .function) (hcf : cenv.frame = some C) (hcl : cenv.locals = C) (hcg : cenv.globals = mainGlobals)
    (hkx : cenv.kindOf (Str.ofString "x") = some .local) (hkf : cenv.kindOf (Str.ofString "encode_raw") = some .globalImplicit)
    (B₂ : Below A₀ base outer g₂) (X₂ : (K w.params).In g₂) (T₂ : Top p loose mean mg mb g₂) (hg2 : g₂.objs.size = I) (hIC : I < C) (hCa : C < a + 1) (hI17 : 1702 < I)
    (hd : dp + 30 + 4 * k < recursionLimit) (hu : un + 100 + 30 * k < cLine) (hps : TriplesOk ps.toList) (hot : (codeAmong gpos ps.toList).isSome = true)
    (hkeep : ∀ b o, g₂.get? b = some o → h₅.get? b = some o ∧ b ∉ C :: I :: dead)
    (hled : ∀ p ∈ (1702, tabObj ps) :: news, h₅.get? p.1 = some p.2 ∧ g₂.get? p.1 = none ∧ @LT.lt Nat _ p.1 I ∧ p.1 ∉ dead) (h17 : ∀ p ∈ news, p.1 ≠ 1702)
    (hcov : ∀ b : Nat, b < I → b ∉ dead → (∃ o, g₂.get? b = some o) ∨ (∃ o, (b, o) ∈ (1702, tabObj ps) :: news))
    (hv : DsIn news vs ds) (hdk : depths ds < k) (hz : (encs ds).length < 2 ^ 23) :
    EltOk pg w AE cenv (Str.ofString "x") ((Expr.Name (Str.ofString "encode_raw") p1).Call [Expr.Name (Str.ofString "x") p2] [] p3) (List.range (a + 1)) (C :: I :: dead) (C :: dead)
      (fun i v => vs.toArray[i]? = some v) (fun i v => ∃ b tk, (ds.map enc)[i]? = some b ∧ v = Value.bytes b.toArray tk) h₅ := by
  subst hAE hcl
  intro E' i v s₂ m₂ hi hn₂ hm hkp
  obtain ⟨d, hdi, hdv⟩ := DsIn.at hv (by simpa using hi)
  have hlow : ∀ b o, @LT.lt Nat _ b I → b ∉ dead → h₅.get? b = some o → s₂.heap.get? b = some o := fun b o hb hdd e => hkp b (List.mem_range.mpr (Nat.lt_trans hb (Nat.lt_trans hIC hCa))) (fun h => by
    rcases List.mem_cons.mp h with h | h
    · exact Nat.lt_irrefl _ (Nat.lt_trans hIC (h ▸ hb))
    · rcases List.mem_cons.mp h with h | h
      · exact Nat.lt_irrefl _ (h ▸ hb)
      · exact hdd h) o e
  have F₂ : Fr g₂ cenv.locals s₂.heap m₂ := ⟨hn₂, fun b o e => hlow b o (by rw [← hg2]; exact Heap.lt_size e) (fun h => (hkeep b o e).2 (List.mem_cons_of_mem _ (List.mem_cons_of_mem _ h))) (hkeep b o e).1, by rw [hg2]; exact Nat.le_of_lt hIC⟩
  have N₂ : News g₂ cenv.locals s₂.heap ((1702, tabObj ps) :: (news ++ restOf I cenv.locals s₂.heap)) := by
    intro q hq
    have : q ∈ (1702, tabObj ps) :: news ∨ q ∈ restOf I cenv.locals s₂.heap := by
      rcases List.mem_cons.mp hq with h | h
      · exact .inl (h ▸ List.mem_cons_self ..)
      · exact (List.mem_append.mp h).imp (List.mem_cons_of_mem _) id
    rcases this with h | h
    · have z := hled q h
      exact ⟨hlow _ _ z.2.2.1 z.2.2.2 z.1, fun e => Nat.lt_irrefl _ (Nat.lt_trans hIC (e ▸ z.2.2.1)), z.2.1⟩
    · obtain ⟨b, o⟩ := q
      obtain ⟨h1, h2, h3⟩ := mem_rest.mp h
      refine ⟨h3, h2, ?_⟩
      cases e : g₂.get? b with
      | none => rfl
      | some o' => exact absurd (Heap.lt_size e) (Nat.not_lt.mpr (by rw [hg2]; exact h1))
  have kf : (K w.params).lookup 1707 = some (o1707 w.params) := by k_is
  have hk1 : keepIn (K w.params) (.ref 1707) = true := by k_is
  have hk2 : nsIn (K w.params) mainGlobals (Str.ofString "encode_raw") = some (some (.ref 1707)) := by k_is
  refine Call_ ?_
  refine nameG_K F₂ X₂ (topRead_of T₂) hk2 ?_ hcg hcs hkf (by decide)
  refine callWith_K X₂ hk1 ?_
  refine args_cons (wpAny_Name (wpAny_loadName_local hcs hkx hn₂ hm ?_) (by decide))
  refine args_nil ⟨X₂.keeps F₂.keep, ?_⟩
  refine er_call H (ps := ps) (d := d) B₂ F₂ X₂ N₂ T₂ ⟨hcs, hcf⟩ hd hu hps ?_ (DIn.mono (fun p hp => List.mem_append_left _ hp) hdv) (Nat.lt_of_le_of_lt (depths_at hdi) hdk) (Nat.lt_of_le_of_lt (encs_at hdi) hz) ?_
  · intro q hq
    rcases List.mem_append.mp hq with h | h
    · exact h17 q h
    · obtain ⟨b, o⟩ := q
      intro e
      have e' : b = 1702 := e
      subst e'
      exact absurd (mem_rest.mp h).1 (Nat.not_le.mpr hI17)
  · intro h' gs' tk' tk ps' F₃ N₃ hgc htr hsame
    obtain rfl := hsame hot
    refine ⟨⟨enc d, tk, by rw [List.getElem?_map, hdi]; rfl, rfl⟩, ⟨_, F₃.ns⟩, ⟨fun b o hb e => ?_, hgc, rfl, rfl⟩⟩
    have hbC : b ≠ cenv.locals := fun h => hb (h ▸ List.mem_cons_self ..)
    have hbd : b ∉ dead := fun h => hb (List.mem_cons_of_mem _ h)
    by_cases hlo : @LT.lt Nat _ b I
    · rcases hcov b hlo hbd with ⟨o', e'⟩ | ⟨o', e'⟩
      · have z := F₂.keep b o' e'
        rw [e] at z
        cases z
        exact F₃.keep b o e'
      · have e2 : (b, o') ∈ (1702, tabObj ps') :: (news ++ restOf I cenv.locals s₂.heap) := by
          rcases List.mem_cons.mp e' with h | h
          · exact h ▸ List.mem_cons_self ..
          · exact List.mem_cons_of_mem _ (List.mem_append_left _ h)
        have z := (N₂ _ e2).1
        rw [e] at z
        cases z
        exact (N₃ _ e2).1
    · exact (N₃ (b, o) (List.mem_cons_of_mem _ (List.mem_append_right _ (mem_rest.mpr ⟨Nat.not_lt.mp hlo, hbC, e⟩)))).1
theorem code_1706 {P : Params} {h : Heap} {ps : Array Value} (X : (K P).In h) (h17 : h.get? 1702 = some (tabObj ps)) (hps : TriplesOk ps.toList) : h.IsCode 1706 1702 ps ∧ h.TableAt 1706 1702 ps := by
  have hl : (K P).lookup 1706 = some (o1706 P) := by k_is
  have ho := X _ _ hl
  exact ⟨⟨_, _, z162, 1536, 3, 0, true, 181, 0, _, ho, rfl, rfl, rfl, rfl, rfl, rfl, h17, rfl, hps, by decide⟩, ⟨⟨_, _, ho, rfl, rfl, rfl⟩, h17⟩⟩
theorem ext_frame {g h h₅ : Heap} {L P : Addr} {m : Str → Option Value} {o o' : Obj} {rest : List (Addr × Obj)} (F : Fr g L h m) (N : News g L h ((P, o) :: rest)) (hne : ∀ p ∈ rest, p.1 ≠ P) (hx : Heap.ExtBut P h h₅) (hP : h₅.get? P = some o') :
    Fr g L h₅ m ∧ News g L h₅ ((P, o') :: rest) := by
  have z := N _ (List.mem_cons_self ..)
  refine ⟨⟨F.ns.at' fun o e => hx _ o (fun h => z.2.1 h.symm) e, fun b o e => hx b o (fun h => ?_) (F.keep b o e), F.above⟩, fun p hp => ?_⟩
  · rw [h] at e; have := z.2.2; rw [e] at this; cases this
  · rcases List.mem_cons.mp hp with rfl | hp
    · exact ⟨hP, z.2⟩
    · have y := N p (List.mem_cons_of_mem _ hp)
      exact ⟨hx _ _ (hne p hp) y.1, y.2⟩
section
variable {w : World} {p : Program} {loose : List Str} {mean : ExcName → Option Value} {mg mb : Str → Option Value} {dp un : Nat} {gd : Option (List Code)} {ev : Env} {outer : List Env} {A₀ : Around} {base h₀ : Heap} {L : Addr} {m : Str → Option Value} {news : List (Addr × Obj)} {s : Shared} {Q E : Value → Shared → Prop}
theorem er_list {k : Nat} (H : ErSpec w k) {ps : Array Value} {v : Value} {ds : List D}
    (B : Below A₀ base outer h₀) (F : Fr h₀ L s.heap m) (X : (K w.params).In h₀) (N : News h₀ L s.heap ((1702, tabObj ps) :: news)) (T : Top p loose mean mg mb h₀) (hk : ev.scope.kind = .function ∧ ev.frame = some L)
    (hd : dp + 30 + 4 * (k + 1) < recursionLimit) (hu : un + 100 + 30 * (k + 1) < cLine) (hps : TriplesOk ps.toList) (h17 : ∀ p ∈ news, p.1 ≠ 1702) (hv : DIn news v (.l ds)) (hdk : depths ds < k) (hz : (enc (.l ds)).length < 2 ^ 23)
    (hret : (∀ h' gs' tk' tk ps', Fr h₀ L h' m → News h₀ L h' ((1702, tabObj ps') :: news) → GC s.gens gs' → TriplesOk ps'.toList → ((codeAmong gpos ps.toList).isSome = true → ps' = ps) → Q (.bytes (enc (.l ds)).toArray tk) { s with heap := h', gens := gs', toks := tk' })) :
    wpAny (model pg w) (ktrE dp un gd ev outer) (call (.ref 1707) [v]) Q E s := by
  cases hv with
  | l ha hvs =>
  rename_i a vs n
  have ha17 : a ≠ 1702 := h17 _ ha
  walk_at "ENTER"
  rename_i g' L' h0 FG B' X' T' D1 h1 l1 tk1 D2 h2 F' N' l2 tk2
  have N2 : News g' L' h2 ((1702, tabObj ps) :: (D2, _) :: (D1, _) :: news) := News.sub N' fun p hp => by
    simp only [List.mem_cons] at hp ⊢
    rcases hp with h | h | h | h
    · exact Or.inr (Or.inr (Or.inl h))
    · exact Or.inl h
    · exact Or.inr (Or.inl h)
    · exact Or.inr (Or.inr (Or.inr h))
  have hx17 : h2.get? 1702 = some (tabObj ps) := (N2 _ (.head _)).1
  obtain ⟨hcode, htab⟩ := code_1706 (X'.keeps F'.keep) hx17 hps
  have hlim := T'.nolimit.keeps F'.keep
  obtain ⟨bm, ob, M⟩ := bmod_of_top T'
  have hled17 : ∀ p ∈ ((D2, (⟨.type "tuple", none, .seq #[.type "list", .type "tuple"] 0, ⟨[]⟩⟩ : Obj)) :: (D1, (⟨.type "tuple", none, .seq #[.type "bytes", .type "bytearray"] 0, ⟨[]⟩⟩ : Obj)) :: news), p.1 ≠ 1702 := by
    intro p hp
    rcases List.mem_cons.mp hp with rfl | hp
    · exact Nat.ne_of_gt l2.2.1
    · rcases List.mem_cons.mp hp with rfl | hp
      · exact Nat.ne_of_gt l1.1
      · exact h17 p hp
  have hlist : h2.IsList a vs.toArray := ⟨_, (N2 _ (.tail _ (.tail _ (.tail _ ha)))).1, rfl, ⟨_, rfl⟩⟩
  obtain ⟨g₂, hg1, hB2, hgs, hof, hno, hyes⟩ := hide_base (name := z256) (scope := fscope (st 29)) (a := 1707) (cd := .ref 1706) B' F' N2 rfl
  refine gen_make (c := 1706) (P := 1702) (l := a) (ps := ps) (items := vs.toArray) (mg := mg) rfl rfl (by decide) rfl rfl ?hroom rfl hlim hlist ha17 hcode htab (M.keeps F'.keep) ?hiter ?hQ (fun x => rfl)
  case hroom => ktr_room
  case hiter => k_steps
  case hQ =>
    intro C I a5 h5 tk5 code ps' hI hIC haC hsz hext hit hlist5 hns hgen hlim5 htab5 htr5 hsome hsame
    obtain ⟨F5, N5⟩ := ext_frame F' N2 hled17 hext htab5.2
    k_steps
    have hdead : ∀ b ∈ (List.range I).filter (fun b => (h2.get? b).isNone), @LT.lt Nat _ b I ∧ h2.get? b = none := fun b hb => ⟨List.mem_range.mp (List.mem_filter.mp hb).1, Option.isNone_iff_eq_none.mp (List.mem_filter.mp hb).2⟩
    have halive : ∀ b o, h2.get? b = some o → b ∉ (List.range I).filter (fun b => (h2.get? b).isNone) := fun b o e h => by have := (hdead b h).2; rw [e] at this; cases this
    have hlt2 : ∀ b o, h2.get? b = some o → @LT.lt Nat _ b I := fun b o e => by rw [hI]; exact Heap.lt_size e
    have hcsl : ∃ o, h2.get? cStatics = some o := by obtain ⟨_, ⟨o, _, _, ho, _⟩, _⟩ := hlim; exact ⟨o, ho⟩
    have hIC' : I < C := hIC
    have hCI : ∀ b o, h2.get? b = some o → b ≠ C ∧ b ≠ I := fun b o e => ⟨fun h => Nat.lt_irrefl _ (Nat.lt_trans hIC (h ▸ hlt2 b o e)), fun h => Nat.lt_irrefl _ (h ▸ hlt2 b o e)⟩
    have hsz2 : (encs ds).length < 2 ^ 23 := by
      have : (enc (.l ds)).length = (pre (encs ds).length 192).length + (encs ds).length := by unfold enc; rw [List.length_append]
      omega
    have hpr := pre_le (n := (encs ds).length) 192 (by omega)
    refine gen_run (C := C) (I := I) (l := a) (g := s.gens.size) (items := vs.toArray) (bs := ds.map enc) rfl ?r1 rfl rfl rfl hgen (Array.getElem?_push_size ..) hit hlist5 hns hlim5 hsz hIC haC (hlt2 a _ (N2 _ (.tail _ (.tail _ (.tail _ ha)))).1) (hlt2 _ _ hcsl.choose_spec)
      ((List.range I).filter (fun b => (h2.get? b).isNone)) ?r2 ?r3 ?r4 ?r5 ?r6 ?r7
    case r1 => ktr_room
    case r2 =>
      intro b hb
      refine ⟨(hdead b hb).1, fun e => ?_, fun e => ?_⟩
      · exact halive a _ (N2 _ (.tail _ (.tail _ (.tail _ ha)))).1 (e ▸ hb)
      · exact halive _ _ hcsl.choose_spec (e ▸ hb)
    case r3 =>
      refine elt_ok H (news := (D2, (⟨.type "tuple", none, .seq #[.type "list", .type "tuple"] 0, ⟨[]⟩⟩ : Obj)) :: (D1, (⟨.type "tuple", none, .seq #[.type "bytes", .type "bytearray"] 0, ⟨[]⟩⟩ : Obj)) :: news) (ps := ps') (dp := dp + 2) (un := un + 10) (ds := ds) (g₂ := g₂) rfl rfl rfl rfl rfl rfl rfl hB2 (X'.keeps hg1) (T'.keeps hg1) (by rw [hgs, hI]) hIC (by omega) (hlt2 _ _ hx17) (by omega) (by omega) htr5 hsome ?_ ?_ hled17 ?_ (DsIn.mono (fun p hp => .tail _ (.tail _ hp)) hvs) hdk hsz2
      · intro b o e
        have e2 := hof b o e
        have hb17 : b ≠ 1702 := fun h => by rw [h] at e; have := hno _ (List.mem_cons_self ..); rw [e] at this; cases this
        refine ⟨hext b o hb17 e2, fun h => ?_⟩
        rcases List.mem_cons.mp h with h | h
        · exact (hCI b o e2).1 h
        · rcases List.mem_cons.mp h with h | h
          · exact (hCI b o e2).2 h
          · exact halive b o e2 h
      · intro q hq
        have e5 := N5 q hq
        have e2 : ∃ o, h2.get? q.1 = some o := by
          rcases List.mem_cons.mp hq with rfl | hq
          · exact ⟨_, hx17⟩
          · exact ⟨_, (N2 _ (List.mem_cons_of_mem _ hq)).1⟩
        obtain ⟨o2, e2⟩ := e2
        refine ⟨e5.1, ?_, hlt2 _ _ e2, halive _ _ e2⟩
        rcases List.mem_cons.mp hq with rfl | hq
        · exact hno (1702, tabObj ps) (List.mem_cons_self ..)
        · exact hno q (List.mem_cons_of_mem _ hq)
      · intro b hb hbd
        have e2 : ∃ o, h2.get? b = some o := by
          cases e : h2.get? b with
          | some o => exact ⟨o, rfl⟩
          | none => exact absurd (List.mem_filter.mpr ⟨List.mem_range.mpr hb, by rw [e]; rfl⟩) hbd
        obtain ⟨o2, e2⟩ := e2
        by_cases hin : ∃ q ∈ ((1702, tabObj ps) :: (D2, (⟨.type "tuple", none, .seq #[.type "list", .type "tuple"] 0, ⟨[]⟩⟩ : Obj)) :: (D1, (⟨.type "tuple", none, .seq #[.type "bytes", .type "bytearray"] 0, ⟨[]⟩⟩ : Obj)) :: news), q.1 = b
        · obtain ⟨q, hq, rfl⟩ := hin
          refine .inr ?_
          rcases List.mem_cons.mp hq with rfl | hq
          · exact ⟨_, List.mem_cons_self ..⟩
          · exact ⟨q.2, List.mem_cons_of_mem _ hq⟩
        · exact .inl ⟨o2, hyes b o2 e2 fun q hq e => hin ⟨q, hq, e⟩⟩
    case r4 =>
      have := hvs
      rw [List.length_map, List.size_toArray, DsIn.len hvs]
    case r5 => rw [encs_flat]; omega
    case r6 =>
      rw [List.size_toArray, DsIn.len hvs, sizeLine_eq]
      have := encs_count ds
      omega
    case r7 =>
      intro h' gs' tk' t' hkeep hgx
      rw [encs_flat]
      have hk6 : ∀ b o o', h2.get? b = some o' → h5.get? b = some o → h'.get? b = some o := fun b o o' e' e => hkeep b o (hCI b o' e').1 (hCI b o' e').2 (halive b o' e') e
      obtain ⟨oL, eL, epL, hL, hL'⟩ := F'.ns
      have F6 : Fr g' L' h' _ := ⟨F5.ns.at' fun o e => hk6 _ _ _ hL e, fun b o e => hk6 b o _ (F'.keep b o e) (F5.keep b o e), F5.above⟩
      have N6 : News g' L' h' ((1702, tabObj ps') :: (D2, (⟨.type "tuple", none, .seq #[.type "list", .type "tuple"] 0, ⟨[]⟩⟩ : Obj)) :: (D1, (⟨.type "tuple", none, .seq #[.type "bytes", .type "bytearray"] 0, ⟨[]⟩⟩ : Obj)) :: news) := by
        intro q hq
        have z := N5 q hq
        refine ⟨?_, z.2⟩
        rcases List.mem_cons.mp hq with rfl | hq
        · exact hk6 _ _ _ hx17 z.1
        · exact hk6 _ _ _ (N2 _ (List.mem_cons_of_mem _ hq)).1 z.1
      have hgc : GC s.gens gs' := by
        refine ⟨Nat.le_trans (by simp) hgx.1, fun k hk => (hgx.2.1 k (by simp; omega) (Nat.ne_of_lt hk)).trans (by rw [Array.getElem?_push_lt hk, Array.getElem?_eq_getElem hk]), fun hb => hgx.2.2 (hb.push rfl)⟩
      clear F5 N5 F' N'
      k_steps
      have ee : enc (.l ds) = pre (encs ds).length 192 ++ encs ds := by unfold enc; rfl
      rw [← ee]
      exact hret _ _ _ _ ps' (by k_asm) (News.sub (by k_asm) fun q hq => by
        rcases List.mem_cons.mp hq with h | h
        · exact h ▸ List.mem_cons_self ..
        · exact .tail _ (.tail _ (.tail _ h))) hgc htr5 hsame
end
theorem enc_b_ge (x : List UInt8) : x.length ≤ (enc (.b x)).length := by
  unfold enc
  split
  · split <;> simp
  · rw [List.length_append]; omega
theorem er_all (w : World) : ∀ k, ErSpec w k := by
  intro k
  induction k with
  | zero => intro p loose mean mg mb dp un gd ev outer A₀ base h₀ L m news s Q E ps v d B F X N T hk hd hu hps h17 hv hdk; exact absurd hdk (Nat.not_lt_zero _)
  | succ k ih =>
    intro p loose mean mg mb dp un gd ev outer A₀ base h₀ L m news s Q E ps v d B F X N T hk hd hu hps h17 hv hdk hz hret
    cases d with
    | l ds => exact er_list ih B F X N T hk hd hu hps h17 hv (by unfold D.depth at hdk; omega) hz hret
    | b x =>
      cases hv with
      | b => exact er_b B F X N T hk (by omega) (by omega) (Nat.lt_of_le_of_lt (enc_b_ge x) hz) fun h' tk' tk F' N' => hret h' s.gens tk' tk ps F' N' (GC.refl _) hps fun _ => rfl
end Mine
end

section
set_option maxRecDepth 100000
set_option linter.unusedVariables false
set_option Elab.async false
open PySem PySem.W PyProof.Rows PySem.Spec PySem.Calls
namespace Mine
section
variable {prog : Program} {w : World} {A : Around} {E : Value → Shared → Prop} {s : Shared} {h₀ : Heap} {L : Addr} {m : Str → Option Value} {news : List (Addr × Obj)} {a : Addr} {xs : List Value} {n : Nat} {value slice : Expr}
theorem led_list (N : News h₀ L s.heap news) (hm : (a, W.listOf xs.toArray n) ∈ news) : s.heap.IsList a xs.toArray := ⟨_, (N _ hm).1, rfl, _, rfl⟩
theorem item_led {k : Int} {u : Tok} {v : Value} {Q : Value → Shared → Prop} (N : News h₀ L s.heap news) (hm : (a, W.listOf xs.toArray n) ∈ news) (h0 : 0 ≤ k) (hf : k < 2 ^ 63) (hx : xs[k.toNat]? = some v) (h : Q v s)
    (hs : subscripted slice false (.ref a) (.int k u) = operate [.ref a, .int k u] (getItem (.ref a) (.int k u)) := by with_unfolding_all rfl) (hg : ∀ r, letTemporaryGo value (.ref a) r = pure () := by intro _; with_unfolding_all rfl) :
    wpAny (model prog w) A (subscriptTail value slice (.ref a) (.int k u)) Q E s := item_listL (led_list N hm) h0 hf hx h hs hg
theorem slice_from_led {k : Int} {u : Tok} {Q : Value → Shared → Prop} (F : Fr h₀ L s.heap m) (N : News h₀ L s.heap news) (hm : (a, W.listOf xs.toArray n) ∈ news) (h0 : 0 ≤ k) (hz : xs.length ≤ sizeLine)
    (h : ∀ D h', Fr h₀ L h' m → News h₀ L h' ((D, W.listOf (xs.drop k.toNat).toArray 0) :: news) → (∀ p ∈ news, p.1 < D) → Q (.ref D) { s with heap := h' })
    (hs : subscripted slice false (.ref a) (.ref s.heap.objs.size) = operate [.ref s.heap.objs.size, .ref a] (getItem (.ref a) (.ref s.heap.objs.size)) := by with_unfolding_all rfl)
    (ht : ∀ r, letTemporaryGo value (.ref a) r = pure () := by intro _; with_unfolding_all rfl) :
    wpAny (model prog w) A (subscriptTail value slice (.ref a) (.ref s.heap.objs.size)) Q E { s with heap := s.heap.push { cls := .type "slice", data := .fields #[.int k u, .none, .none] } } := by
  refine slice_list F N (led_list N hm) (.int k u) .none (fun h' F' N' => ?_) hs ht (by simpa using hz)
  have e : slicePick xs.toArray (some k) none none = (xs.drop k.toNat).toArray := by
    obtain ⟨j, rfl⟩ := Int.eq_ofNat_of_zero_le h0
    rw [slicePick_from' xs.toArray j]
    simp
  rw [e] at N'
  exact h _ h' F' N' fun p hp => Nat.lt_succ_of_lt (Heap.lt_size (N p hp).1)
theorem slice_upto_led {k : Int} {u : Tok} {Q : Value → Shared → Prop} (F : Fr h₀ L s.heap m) (N : News h₀ L s.heap news) (hm : (a, W.listOf xs.toArray n) ∈ news) (h0 : 0 ≤ k) (hz : xs.length ≤ sizeLine)
    (h : ∀ D h', Fr h₀ L h' m → News h₀ L h' ((D, W.listOf (xs.take k.toNat).toArray 0) :: news) → (∀ p ∈ news, p.1 < D) → Q (.ref D) { s with heap := h' })
    (hs : subscripted slice false (.ref a) (.ref s.heap.objs.size) = operate [.ref s.heap.objs.size, .ref a] (getItem (.ref a) (.ref s.heap.objs.size)) := by with_unfolding_all rfl)
    (ht : ∀ r, letTemporaryGo value (.ref a) r = pure () := by intro _; with_unfolding_all rfl) :
    wpAny (model prog w) A (subscriptTail value slice (.ref a) (.ref s.heap.objs.size)) Q E { s with heap := s.heap.push { cls := .type "slice", data := .fields #[.none, .int k u, .none] } } := by
  refine slice_list F N (led_list N hm) .none (.int k u) (fun h' F' N' => ?_) hs ht (by simpa using hz)
  have e : slicePick xs.toArray none (some k) none = (xs.take k.toNat).toArray := by
    obtain ⟨j, rfl⟩ := Int.eq_ofNat_of_zero_le h0
    rw [slicePick_upto' xs.toArray j]
    simp
  rw [e] at N'
  exact h _ h' F' N' fun p hp => Nat.lt_succ_of_lt (Heap.lt_size (N p hp).1)
theorem len_led {Q : Value → Shared → Prop} (N : News h₀ L s.heap news) (hm : (a, W.listOf xs.toArray n) ∈ news) (hz : xs.length ≤ sizeLine) (h : ∀ tk tk', Q (.int (xs.length : Nat) tk) { s with toks := tk' }) : wpAny (model prog w) A (call (.builtin "len") [.ref a]) Q E s := by
  refine PyProof.Rows.len_list (led_list N hm) ?_ ?_
  · rw [List.size_toArray]; rw [sizeLine_eq] at hz; omega
  · rw [List.size_toArray]; exact h _ _
theorem eq_ne_len {b : Addr} {ys : List Value} {n2 : Nat} {Q : Value → Shared → Prop} (N : News h₀ L s.heap news) (ha : (a, W.listOf xs.toArray n) ∈ news) (hb : (b, W.listOf ys.toArray n2) ∈ news) (hl : xs.length ≠ ys.length) (hu : A.units < cLine) (h : Q (.bool false) s) :
    wpAny (model prog w) A (compareOp .Eq (.ref a) (.ref b)) Q E s :=
  SeqAt.RcAt.lists_lengths ⟨_, (N _ ha).1, rfl, _, rfl⟩ ⟨_, (N _ hb).1, rfl, _, rfl⟩ (by simpa using hl) hu prog w E Q h
theorem ints_rep (n : Int) (t : Tok) : ∀ k : Nat, IntsAre (List.replicate k (.int n t)) (List.replicate k n)
  | 0 => .nil
  | k + 1 => .cons n t (ints_rep n t k)
theorem mul1_led {v : Value} {k : Int} {u : Tok} {Q : Value → Shared → Prop} (F : Fr h₀ L s.heap m) (N : News h₀ L s.heap news) (hm : (a, W.listOf #[v] n) ∈ news) (hf : k ≤ 2 ^ 23) (hf0 : -(2 ^ 23 : Int) ≤ k)
    (h : ∀ D h', Fr h₀ L h' m → News h₀ L h' ((D, W.listOf (List.replicate k.toNat v).toArray 0) :: news) → (∀ p ∈ news, p.1 < D) → Q (.ref D) { s with heap := h' }) :
    wpAny (model prog w) A (binaryOp .Mult (.ref a) (.int k u)) Q E s := by
  refine mul_list F N (N _ hm).1 (by omega) (by omega) (by simp; omega) fun h' F' N' => ?_
  rw [listMul_foldl_if] at N'
  have e : (List.replicate k.toNat (#[v] : Array Value).toList).flatten = List.replicate k.toNat v := by simp
  rw [e] at N'
  exact h _ h' F' N' fun p hp => Heap.lt_size (N p hp).1
theorem add_led {b : Addr} {ys : List Value} {n2 : Nat} {Q : Value → Shared → Prop} (F : Fr h₀ L s.heap m) (N : News h₀ L s.heap news) (hm : (a, W.listOf xs.toArray n) ∈ news) (hm2 : (b, W.listOf ys.toArray n2) ∈ news) (hz : xs.length + ys.length ≤ sizeLine)
    (h : ∀ D h', Fr h₀ L h' m → News h₀ L h' ((D, W.listOf (xs ++ ys).toArray 0) :: news) → (∀ p ∈ news, p.1 < D) → Q (.ref D) { s with heap := h' }) :
    wpAny (model prog w) A (binaryOp .Add (.ref a) (.ref b)) Q E s :=
  add_lists (hsz := hz) F N (led_list N hm) (led_list N hm2) fun h' F' N' => h _ h' F' N' fun p hp => Heap.lt_size (N p hp).1
theorem bytes_led {ns : List Int} {Q : Value → Shared → Prop} (F : Fr h₀ L s.heap m) (N : News h₀ L s.heap news) (hm : (a, W.listOf xs.toArray n) ∈ news) (hi : IntsAre xs ns) (hr : ∀ n ∈ ns, 0 ≤ n ∧ n < 256) (hz : xs.length ≤ sizeLine) (hh : A.handled = none)
    (h : ∀ h' t k, Fr h₀ L h' m → News h₀ L h' news → Q (.bytes (ns.map fun n => n.toNat.toUInt8).toArray t) { s with heap := h', toks := k }) : wpAny (model prog w) A (call (.type "bytes") [.ref a]) Q E s :=
  bytes_K F N (led_list N hm) hi hr hz hh fun h' t k F' N' _ => h h' t k F' N'
theorem ints_getD : ∀ {vs : List Value} {is : List Int}, IntsAre vs is → ∀ j : Nat, j < is.length → ∃ t, vs[j]? = some (.int (is.getD j 0) t)
  | _, _, .cons n t h, 0, _ => ⟨t, rfl⟩
  | _, _, .cons n t h, j + 1, hj => by
    obtain ⟨t', e⟩ := ints_getD h j (by simpa using hj)
    exact ⟨t', by simpa using e⟩
theorem menu_led {is : List Int} {k : Int} {u : Tok} {Q : Value → Shared → Prop} (N : News h₀ L s.heap news) (hm : (a, W.listOf xs.toArray n) ∈ news) (hi : IntsAre xs is) (h0 : 0 ≤ k) (hl : k < is.length) (hz : is.length ≤ 1000) (h : ∀ t, Q (.int (is.getD k.toNat 0) t) s)
    (hs : subscripted slice false (.ref a) (.int k u) = operate [.ref a, .int k u] (getItem (.ref a) (.int k u)) := by with_unfolding_all rfl) (hg : ∀ r, letTemporaryGo value (.ref a) r = pure () := by intro _; with_unfolding_all rfl) :
    wpAny (model prog w) A (subscriptTail value slice (.ref a) (.int k u)) Q E s := by
  obtain ⟨t, e⟩ := ints_getD hi k.toNat (by omega)
  exact item_led N hm h0 (by omega) e (h t) hs hg
theorem menu_ledT {is : List Int} {k : Int} {u : Tok} {Q : Value → Shared → Prop} (N : News h₀ L s.heap news) (hm : (a, W.listOf xs.toArray n) ∈ news) (hi : IntsAre xs is) (h0 : 0 ≤ k) (hl : k < is.length) (hz : is.length ≤ 1000) (h : ∀ t, Q (.int (is.getD k.toNat 0) t) s)
    (hs : subscripted slice false (.ref a) (.int k u) = operate [.ref a, .int k u] (getItem (.ref a) (.int k u)) := by with_unfolding_all rfl) :
    wpAny (model prog w) A (subscriptTail value slice (.ref a) (.int k u)) Q E s :=
  kba_turn (value' := .Name default default) (fun _ => rfl) (menu_led N hm hi h0 hl hz h hs (fun _ => rfl))
theorem menu_ledB {is : List Int} {k lo hi : Int} {u : Tok} {Q : Value → Shared → Prop} (N : News h₀ L s.heap news) (hm : (a, W.listOf xs.toArray n) ∈ news) (hi' : IntsAre xs is) (h0 : 0 ≤ k) (hl : k < is.length) (hz : is.length ≤ 1000) (hb : ∀ x ∈ is, lo ≤ x ∧ x ≤ hi)
    (h : ∀ v t, lo ≤ v → v ≤ hi → Q (.int v t) s)
    (hs : subscripted slice false (.ref a) (.int k u) = operate [.ref a, .int k u] (getItem (.ref a) (.int k u)) := by with_unfolding_all rfl) :
    wpAny (model prog w) A (subscriptTail value slice (.ref a) (.int k u)) Q E s := by
  refine menu_ledT N hm hi' h0 hl hz (fun t => ?_) hs
  have hk : k.toNat < is.length := by omega
  have hx : is.getD k.toNat 0 ∈ is := by
    rw [List.getD_eq_getElem?_getD, List.getElem?_eq_getElem hk]
    exact List.getElem_mem hk
  exact h _ t (hb _ hx).1 (hb _ hx).2
end
end Mine
end

section
set_option maxRecDepth 100000
set_option linter.unusedVariables false
set_option Elab.async false
open PySem PySem.W PyProof.Rows PySem.Spec PySem.Calls
namespace Mine
section
variable {prog : Program} {w : World} {A : Around} {E : Value → Shared → Prop} {s : Shared} {h₀ : Heap} {L : Addr} {m : Str → Option Value} {news : List (Addr × Obj)} {a : Addr} {xs : List Value} {n : Nat} {value slice : Expr}
/-- told[-1] -/
theorem item_last {u : Tok} {v : Value} {Q : Value → Shared → Prop} (N : News h₀ L s.heap news) (hm : (a, W.listOf (xs ++ [v]).toArray n) ∈ news) (h : Q v s)
    (hs : subscripted slice false (.ref a) (.int (-1) u) = operate [.ref a, .int (-1) u] (getItem (.ref a) (.int (-1) u)) := by with_unfolding_all rfl) (hg : ∀ r, letTemporaryGo value (.ref a) r = pure () := by intro _; with_unfolding_all rfl) :
    wpAny (model prog w) A (subscriptTail value slice (.ref a) (.int (-1) u)) Q E s := by
  have e : (-1 + (((xs ++ [v]).toArray.size : Nat) : Int)).toNat = xs.length := by rw [List.size_toArray, List.length_append, List.length_singleton]; omega
  refine PyProof.Rows.subscriptTail_builtin (led_list N hm).typeIs slot_list_getitem.lookup (wpAny_getItem_list_neg (led_list N hm) (by decide) ?_ (by decide) ?_ h) hs hg
  · rw [List.size_toArray, List.length_append, List.length_singleton]; omega
  · rw [e]; simp
theorem item_lastP {u : Tok} {v : Value} {Q : Value → Shared → Prop} (N : News h₀ L s.heap news) (hm : (a, W.listOf (xs.toArray.push v) n) ∈ news) (h : Q v s)
    (hs : subscripted slice false (.ref a) (.int (-1) u) = operate [.ref a, .int (-1) u] (getItem (.ref a) (.int (-1) u)) := by with_unfolding_all rfl) (hg : ∀ r, letTemporaryGo value (.ref a) r = pure () := by intro _; with_unfolding_all rfl) :
    wpAny (model prog w) A (subscriptTail value slice (.ref a) (.int (-1) u)) Q E s := by
  rw [List.push_toArray] at hm
  exact item_last N hm h hs hg
/-- x[a:] of octets -/
theorem slice_bytes_from {x : List UInt8} {t ta : Tok} {a : Nat} {Q : Value → Shared → Prop} (hF : Fr h₀ L s.heap m) (hN : News h₀ L s.heap news) (hz : x.length ≤ 16777216)
    (h : ∀ h' t' k, Fr h₀ L h' m → News h₀ L h' news → Q (.bytes (x.drop a).toArray t') { s with heap := h', toks := k })
    (hs : subscripted slice false (.bytes x.toArray t) (.ref s.heap.objs.size) = operate [.ref s.heap.objs.size, .bytes x.toArray t] (getItem (.bytes x.toArray t) (.ref s.heap.objs.size)) := by with_unfolding_all rfl)
    (ht : ∀ r, letTemporaryGo value (.bytes x.toArray t) r = pure () := by intro _; with_unfolding_all rfl) :
    wpAny (model prog w) A (subscriptTail value slice (.bytes x.toArray t) (.ref s.heap.objs.size)) Q E { s with heap := s.heap.push { cls := .type "slice", data := .fields #[.int (a : Int) ta, .none, .none] } } := by
  have e : KBy.picked x.toArray (some (a : Int)) none = (x.drop a).toArray := by
    rw [KBc.picked_eq]
    simp only [Option.elim, clipAt_nat, List.size_toArray]
    congr 1
    rcases Nat.le_total a x.length with h1 | h1
    · rw [Nat.min_eq_left h1, List.take_of_length_le (by rw [List.length_drop]; omega)]
    · rw [Nat.min_eq_right h1, List.drop_eq_nil_of_le (Nat.le_refl _), List.drop_eq_nil_of_le h1]; simp
  refine KBc.slice_K hF hN rfl (.int (a : Int) ta) .none (by rw [KBw.ints_length, List.size_toArray]; exact hz) (fun h' t' k F' N' _ => ?_) hs ht
  rw [e]; exact h h' t' k F' N'
end
end Mine
end

section
set_option maxRecDepth 100000
set_option linter.unusedVariables false
set_option Elab.async false
open PySem PySem.W PyProof.Rows PySem.Spec PySem.Calls
namespace Mine
section
variable {prog : Program} {w : World} {A : Around} {E : Value → Shared → Prop} {s : Shared} {h₀ : Heap} {L : Addr} {m : Str → Option Value} {news : List (Addr × Obj)} {value slice : Expr}
/-- x[:b] of octets -/
theorem slice_bytes_upto {x : List UInt8} {t tb : Tok} {b : Nat} {Q : Value → Shared → Prop} (hF : Fr h₀ L s.heap m) (hN : News h₀ L s.heap news) (hz : x.length ≤ 16777216)
    (h : ∀ h' t' k, Fr h₀ L h' m → News h₀ L h' news → Q (.bytes (x.take b).toArray t') { s with heap := h', toks := k })
    (hs : subscripted slice false (.bytes x.toArray t) (.ref s.heap.objs.size) = operate [.ref s.heap.objs.size, .bytes x.toArray t] (getItem (.bytes x.toArray t) (.ref s.heap.objs.size)) := by with_unfolding_all rfl)
    (ht : ∀ r, letTemporaryGo value (.bytes x.toArray t) r = pure () := by intro _; with_unfolding_all rfl) :
    wpAny (model prog w) A (subscriptTail value slice (.bytes x.toArray t) (.ref s.heap.objs.size)) Q E { s with heap := s.heap.push { cls := .type "slice", data := .fields #[.none, .int (b : Int) tb, .none] } } := by
  have e : KBy.picked x.toArray none (some (b : Int)) = (x.take b).toArray := by
    rw [KBc.picked_eq]
    simp only [Option.elim, clipAt_nat, List.size_toArray, List.drop_zero, Nat.sub_zero]
    congr 1
    rcases Nat.le_total b x.length with h1 | h1
    · rw [Nat.min_eq_left h1]
    · rw [Nat.min_eq_right h1, List.take_of_length_le (Nat.le_refl _), List.take_of_length_le h1]
  refine KBc.slice_K hF hN rfl .none (.int (b : Int) tb) (by rw [KBw.ints_length, List.size_toArray]; exact hz) (fun h' t' k F' N' _ => ?_) hs ht
  rw [e]; exact h h' t' k F' N'
/-- x[:-1] of octets -/
theorem slice_bytes_but {x : List UInt8} {t tb : Tok} {Q : Value → Shared → Prop} (hF : Fr h₀ L s.heap m) (hN : News h₀ L s.heap news) (hz : x.length ≤ 16777216) (hp : 0 < x.length)
    (h : ∀ h' t' k, Fr h₀ L h' m → News h₀ L h' news → Q (.bytes (x.take (x.length - 1)).toArray t') { s with heap := h', toks := k })
    (hs : subscripted slice false (.bytes x.toArray t) (.ref s.heap.objs.size) = operate [.ref s.heap.objs.size, .bytes x.toArray t] (getItem (.bytes x.toArray t) (.ref s.heap.objs.size)) := by with_unfolding_all rfl)
    (ht : ∀ r, letTemporaryGo value (.bytes x.toArray t) r = pure () := by intro _; with_unfolding_all rfl) :
    wpAny (model prog w) A (subscriptTail value slice (.bytes x.toArray t) (.ref s.heap.objs.size)) Q E { s with heap := s.heap.push { cls := .type "slice", data := .fields #[.none, .int (-1) tb, .none] } } := by
  have hc : clipAt x.length (-1) = x.length - 1 := by
    unfold clipAt
    first
      | omega
      | (simp; omega)
      | (split <;> omega)
  have e : KBy.picked x.toArray none (some (-1)) = (x.take (x.length - 1)).toArray := by
    rw [KBc.picked_eq]
    simp only [Option.elim, List.size_toArray, List.drop_zero, Nat.sub_zero, hc]
  refine KBc.slice_K hF hN rfl .none (.int (-1) tb) (by rw [KBw.ints_length, List.size_toArray]; exact hz) (fun h' t' k F' N' _ => ?_) hs ht
  rw [e]; exact h h' t' k F' N'
end
end Mine
end

section
set_option maxRecDepth 100000
set_option linter.unusedVariables false
set_option Elab.async false
open PySem PySem.W PyProof.Rows PySem.Spec PySem.Calls
namespace Mine
theorem unrPost_mono {h₀ : Heap} {L : Addr} {s₁ : Shared} {its : List (Addr × Obj)} {rest rest' : (Str → Option Value) → List (Addr × Obj) → Prop} {Q : Flow → Shared → Prop} {f : Flow} {s₂ : Shared}
    (x : UnrPostW h₀ L s₁ its rest Q f s₂) (h : ∀ m n, rest m n → rest' m n) : UnrPostW h₀ L s₁ its rest' Q f s₂ := by
  cases f with
  | ret v => exact x
  | brk => exact x
  | next => obtain ⟨a, b, c, d, e, f, g, i, j⟩ := x; exact ⟨a, b, c, d, e, f, g, i, h _ _ j⟩
  | cont => obtain ⟨a, b, c, d, e, f, g, i, j⟩ := x; exact ⟨a, b, c, d, e, f, g, i, h _ _ j⟩
theorem allObj_mono : ∀ {ws : List (Addr × String)} {k k' : List (Addr × Obj) → Prop}, AllObj ws k → (∀ its, k its → k' its) → AllObj ws k'
  | [], _, _, x, h => h _ x
  | _ :: _, _, _, x, h => fun o e => allObj_mono (x o e) fun its => h _
section
variable {prog : Program} {w : World} {A : Around} {E : Value → Shared → Prop} {h₀ : Heap} {env : Env} {target : Expr} {body : List Stmt} {Q : Flow → Shared → Prop} {s : Shared} {ws : List (Addr × String)} {keep : List (Addr × Obj)}
/-- what one turn owes -/
def TurnOk (prog : Program) (w : World) (A : Around) (E : Value → Shared → Prop) (h₀ : Heap) (env : Env) (target : Expr) (body : List Stmt) (Q : Flow → Shared → Prop) (s : Shared) (ws : List (Addr × String)) (keep : List (Addr × Obj)) (v : Value) (h : Heap) (tk : Nat) (Inv : (Str → Option Value) → List (Addr × Obj) → Prop) (news : List (Addr × Obj)) : Prop :=
  AllObj ws (fun its => News h₀ env.locals h (its ++ news) →
      wpAny (model prog w) A (assign target env v) (fun _ s₂ => wpAny (model prog w) A (execs body env) (UnrPostW h₀ env.locals { s with heap := h, toks := tk } its (fun m' n' => SubL keep n' ∧ Inv m' n') Q) E s₂) E { s with heap := h, toks := tk })
theorem items_rest {xs : List Itm} (Inv : Nat → (Str → Option Value) → List (Addr × Obj) → Prop)
    (step : ∀ i a m news v h tk, xs[i]? = some a → Inv i m news → a.Is v h → Fr h₀ env.locals h m → SubL keep news → TurnOk prog w A E h₀ env target body Q s ws keep v h tk (Inv (i + 1)) news)
    (fin : ∀ m news h tk, Inv xs.length m news → Fr h₀ env.locals h m → News h₀ env.locals h news → Q .next { s with heap := h, toks := tk }) :
    ∀ k i m news, i + k = xs.length → Inv i m news → SubL keep news → ItemsRest prog w A E h₀ env target body Q s ws keep (xs.drop i) m news := by
  intro k
  induction k with
  | zero =>
    intro i m news hi hI hs
    rw [List.drop_of_length_le (by omega)]
    rw [show i = xs.length by omega] at hI
    exact fun h tk F N => fin m news h tk hI F N
  | succ k ih =>
    intro i m news hi hI hs
    have hlt : i < xs.length := by omega
    rw [List.drop_eq_getElem_cons hlt]
    intro v h tk hv F
    refine allObj_mono (step i _ m news v h tk (List.getElem?_eq_getElem hlt) hI hv F hs) fun its hq N => ?_
    refine wpAny_mono (hq N) (fun _ s₂ h₂ => wpAny_mono h₂ (fun f s₃ h₃ => unrPost_mono h₃ fun m' n' z => ⟨z.1, ih (i + 1) m' n' (by omega) z.2 z.1⟩) fun _ _ e => e) fun _ _ e => e
end
section
variable {prog : Program} {w : World} {A : Around} {E : Value → Shared → Prop} {s : Shared} {env : Env} {h₀ : Heap} {body : List Stmt} {Q : Flow → Shared → Prop}
/-- for (i, v) in enumerate(list) -/
theorem for_enum {elts : List Expr} {k : Nat} {pos : Pos} {l : Addr} {vs : List Value} {n : Nat} {m₀ : Str → Option Value} {news : List (Addr × Obj)}
    (hh : A.handled = none) (F : Fr h₀ env.locals s.heap m₀) (N : News h₀ env.locals s.heap news) (hm : (l, W.listOf vs.toArray n) ∈ news)
    (Inv : Nat → (Str → Option Value) → List (Addr × Obj) → Prop) (h0 : Inv 0 m₀ news)
    (step : ∀ I i x m news' h tk T t, (∀ p ∈ news, p.1 < I) → vs[i]? = some x → Inv i m news' → IsTup h T #[.int ((i : Nat) : Int) t, x] → Fr h₀ env.locals h m → (l, W.listOf vs.toArray n) ∈ news' →
      TurnOk prog w A E h₀ env (.Tuple elts k pos) body Q s [(I + 1, "enumerate"), (I, "list_iterator")] [(l, W.listOf vs.toArray n)] (.ref T) h tk (Inv (i + 1)) news')
    (fin : ∀ m news h tk, Inv vs.length m news → Fr h₀ env.locals h m → News h₀ env.locals h news → Q .next { s with heap := h, toks := tk }) :
    wpAny (model prog w) A (call (.type "enumerate") [.ref l]) (fun xv s₁ => wpAny (model prog w) A (pyIter xv) (fun it s₂ => TurnsAt prog w A h₀ env (.Tuple elts k pos) body Q E it s₂) E s₁) E s := by
  refine ktu_enum hh F N hm rfl rfl rfl fun I hI => ?_
  have := items_rest (prog := prog) (w := w) (A := A) (E := E) (h₀ := h₀) (env := env) (target := .Tuple elts k pos) (body := body) (Q := Q) (s := s) (ws := [(I + 1, "enumerate"), (I, "list_iterator")]) (keep := [(l, W.listOf vs.toArray n)]) (xs := enumItems 0 vs) Inv
    (fun i a m news' v h tk ha hi hv F' hs => by
      have hlt : i < vs.length := by have := (List.getElem?_eq_some_iff.mp ha).1; rwa [enumItems_length] at this
      have e := enumItems_get vs 0 i (List.getElem?_eq_getElem hlt)
      rw [ha] at e
      cases e
      obtain ⟨T, t, rfl, hT⟩ := hv
      rw [Nat.zero_add] at hT
      exact step I i _ m news' h tk T t hI (List.getElem?_eq_getElem hlt) hi hT F' hs.1)
    (fun m news' h tk hi F' N' => fin m news' h tk (by rwa [enumItems_length] at hi) F' N') vs.length 0 m₀ news (by rw [enumItems_length]; omega) h0 ⟨hm, trivial⟩
  simpa using this
/-- for (x, y) in zip(list, list) -/
theorem for_zip {elts : List Expr} {k : Nat} {pos : Pos} {l1 l2 : Addr} {xs ys : List Value} {n1 n2 : Nat} {m₀ : Str → Option Value} {news : List (Addr × Obj)}
    (hh : A.handled = none) (F : Fr h₀ env.locals s.heap m₀) (N : News h₀ env.locals s.heap news) (hm1 : (l1, W.listOf xs.toArray n1) ∈ news) (hm2 : (l2, W.listOf ys.toArray n2) ∈ news) (hlen : xs.length = ys.length)
    (Inv : Nat → (Str → Option Value) → List (Addr × Obj) → Prop) (h0 : Inv 0 m₀ news)
    (step : ∀ I i x y m news' h tk T, (∀ p ∈ news, p.1 < I) → xs[i]? = some x → ys[i]? = some y → Inv i m news' → IsTup h T #[x, y] → Fr h₀ env.locals h m → (l1, W.listOf xs.toArray n1) ∈ news' → (l2, W.listOf ys.toArray n2) ∈ news' →
      TurnOk prog w A E h₀ env (.Tuple elts k pos) body Q s [(I + 4, "zip"), (I + 2, "tuple"), (I + 3, "tuple"), (I, "list_iterator"), (I + 1, "list_iterator")] [(l1, W.listOf xs.toArray n1), (l2, W.listOf ys.toArray n2)] (.ref T) h tk (Inv (i + 1)) news')
    (fin : ∀ m news h tk, Inv xs.length m news → Fr h₀ env.locals h m → News h₀ env.locals h news → Q .next { s with heap := h, toks := tk }) :
    wpAny (model prog w) A (call (.type "zip") [.ref l1, .ref l2]) (fun xv s₁ => wpAny (model prog w) A (pyIter xv) (fun it s₂ => TurnsAt prog w A h₀ env (.Tuple elts k pos) body Q E it s₂) E s₁) E s := by
  refine ktu_zip hh F N hm1 rfl rfl hm2 rfl rfl fun I hI => ?_
  have hzl : (zipItems xs ys).length = xs.length := by rw [zipItems_length, hlen, Nat.min_self]
  have := items_rest (prog := prog) (w := w) (A := A) (E := E) (h₀ := h₀) (env := env) (target := .Tuple elts k pos) (body := body) (Q := Q) (s := s) (ws := [(I + 4, "zip"), (I + 2, "tuple"), (I + 3, "tuple"), (I, "list_iterator"), (I + 1, "list_iterator")]) (keep := [(l1, W.listOf xs.toArray n1), (l2, W.listOf ys.toArray n2)]) (xs := zipItems xs ys) Inv
    (fun i a m news' v h tk ha hi hv F' hs => by
      have hlt : i < xs.length := by have := (List.getElem?_eq_some_iff.mp ha).1; rwa [hzl] at this
      have e := zipItems_get xs ys i (List.getElem?_eq_getElem hlt) (List.getElem?_eq_getElem (by omega))
      rw [ha] at e
      cases e
      obtain ⟨T, t, rfl, hT⟩ := hv
      exact step I i _ _ m news' h tk T hI (List.getElem?_eq_getElem hlt) (List.getElem?_eq_getElem (by omega)) hi hT F' hs.1 hs.2.1)
    (fun m news' h tk hi F' N' => fin m news' h tk (by rwa [hzl] at hi) F' N') xs.length 0 m₀ news (by rw [hzl]; omega) h0 ⟨hm1, hm2, trivial⟩
  simpa using this
theorem off_frame {stored : List Str} {m m₀ : Str → Option Value} (h : ∀ z, stored.contains z = false → m z = m₀ z) : m = fun z => if stored.contains z then m z else m₀ z := by
  funext z
  cases hz : stored.contains z with
  | true => simp
  | false => simp [h z hz]
/-- the same loops, with a state of one's own and the names that a turn may store -/
theorem for_enumS {σ : Type} (stored : List Str) (Led : Nat → σ → List (Addr × Obj)) (Facts : Nat → σ → Prop) (c₀ : σ) {elts : List Expr} {k : Nat} {pos : Pos} {l : Addr} {vs : List Value} {n : Nat} {m₀ : Str → Option Value}
    (hh : A.handled = none) (F : Fr h₀ env.locals s.heap m₀) (N : News h₀ env.locals s.heap (Led 0 c₀)) (hm : (l, W.listOf vs.toArray n) ∈ Led 0 c₀) (h0 : Facts 0 c₀)
    (step : ∀ I i x c (u : Str → Option Value) h tk T t, (∀ p ∈ Led 0 c₀, p.1 < I) → vs[i]? = some x → Facts i c → IsTup h T #[.int ((i : Nat) : Int) t, x] → Fr h₀ env.locals h (fun z => if stored.contains z then u z else m₀ z) → (l, W.listOf vs.toArray n) ∈ Led i c →
      TurnOk prog w A E h₀ env (.Tuple elts k pos) body Q s [(I + 1, "enumerate"), (I, "list_iterator")] [(l, W.listOf vs.toArray n)] (.ref T) h tk (fun m' n' => ∃ c', n' = Led (i + 1) c' ∧ Facts (i + 1) c' ∧ ∀ z, stored.contains z = false → m' z = m₀ z) (Led i c))
    (fin : ∀ c (u : Str → Option Value) h tk, Facts vs.length c → Fr h₀ env.locals h (fun z => if stored.contains z then u z else m₀ z) → News h₀ env.locals h (Led vs.length c) → Q .next { s with heap := h, toks := tk }) :
    wpAny (model prog w) A (call (.type "enumerate") [.ref l]) (fun xv s₁ => wpAny (model prog w) A (pyIter xv) (fun it s₂ => TurnsAt prog w A h₀ env (.Tuple elts k pos) body Q E it s₂) E s₁) E s := by
  refine for_enum hh F N hm (fun i m' n' => ∃ c', n' = Led i c' ∧ Facts i c' ∧ ∀ z, stored.contains z = false → m' z = m₀ z) ⟨c₀, rfl, h0, fun _ _ => rfl⟩ ?_ ?_
  · rintro I i x m news' h tk T t hI hx ⟨c, rfl, hf, hz⟩ hT F' hl
    rw [off_frame hz] at F'
    exact step I i x c m h tk T t hI hx hf hT F' hl
  · rintro m news' h tk ⟨c, rfl, hf, hz⟩ F' N'
    rw [off_frame hz] at F'
    exact fin c m h tk hf F' N'
theorem for_zipS {σ : Type} (stored : List Str) (Led : Nat → σ → List (Addr × Obj)) (Facts : Nat → σ → Prop) (c₀ : σ) {elts : List Expr} {k : Nat} {pos : Pos} {l1 l2 : Addr} {xs ys : List Value} {n1 n2 : Nat} {m₀ : Str → Option Value}
    (hh : A.handled = none) (F : Fr h₀ env.locals s.heap m₀) (N : News h₀ env.locals s.heap (Led 0 c₀)) (hm1 : (l1, W.listOf xs.toArray n1) ∈ Led 0 c₀) (hm2 : (l2, W.listOf ys.toArray n2) ∈ Led 0 c₀) (hlen : xs.length = ys.length) (h0 : Facts 0 c₀)
    (step : ∀ I i x y c (u : Str → Option Value) h tk T, (∀ p ∈ Led 0 c₀, p.1 < I) → xs[i]? = some x → ys[i]? = some y → Facts i c → IsTup h T #[x, y] → Fr h₀ env.locals h (fun z => if stored.contains z then u z else m₀ z) → (l1, W.listOf xs.toArray n1) ∈ Led i c → (l2, W.listOf ys.toArray n2) ∈ Led i c →
      TurnOk prog w A E h₀ env (.Tuple elts k pos) body Q s [(I + 4, "zip"), (I + 2, "tuple"), (I + 3, "tuple"), (I, "list_iterator"), (I + 1, "list_iterator")] [(l1, W.listOf xs.toArray n1), (l2, W.listOf ys.toArray n2)] (.ref T) h tk (fun m' n' => ∃ c', n' = Led (i + 1) c' ∧ Facts (i + 1) c' ∧ ∀ z, stored.contains z = false → m' z = m₀ z) (Led i c))
    (fin : ∀ c (u : Str → Option Value) h tk, Facts xs.length c → Fr h₀ env.locals h (fun z => if stored.contains z then u z else m₀ z) → News h₀ env.locals h (Led xs.length c) → Q .next { s with heap := h, toks := tk }) :
    wpAny (model prog w) A (call (.type "zip") [.ref l1, .ref l2]) (fun xv s₁ => wpAny (model prog w) A (pyIter xv) (fun it s₂ => TurnsAt prog w A h₀ env (.Tuple elts k pos) body Q E it s₂) E s₁) E s := by
  refine for_zip hh F N hm1 hm2 hlen (fun i m' n' => ∃ c', n' = Led i c' ∧ Facts i c' ∧ ∀ z, stored.contains z = false → m' z = m₀ z) ⟨c₀, rfl, h0, fun _ _ => rfl⟩ ?_ ?_
  · rintro I i x y m news' h tk T hI hx hy ⟨c, rfl, hf, hz⟩ hT F' hl1 hl2
    rw [off_frame hz] at F'
    exact step I i x y c m h tk T hI hx hy hf hT F' hl1 hl2
  · rintro m news' h tk ⟨c, rfl, hf, hz⟩ F' N'
    rw [off_frame hz] at F'
    exact fin c m h tk hf F' N'
theorem turn_end {L : Addr} {s₁ : Shared} {its all : List (Addr × Obj)} {rest : (Str → Option Value) → List (Addr × Obj) → Prop} {h' : Heap} {tk : Nat} {m' : Str → Option Value} (news' : List (Addr × Obj)) (F : Fr h₀ L h' m') (N : News h₀ L h' all)
    (hI : ∀ p ∈ its ++ news', p ∈ all) (off : ∀ p ∈ news', ∀ q ∈ its, p.1 ≠ q.1) (r : rest m' news') : UnrEndW h₀ L s₁ its rest { s₁ with heap := h', toks := tk } := ⟨h', tk, m', news', rfl, F, News.sub N hI, off, r⟩
end
end Mine
end

section
set_option maxRecDepth 100000
set_option linter.unusedVariables false
set_option Elab.async false
open PySem PySem.W PyProof.Rows PySem.Spec PySem.Calls
namespace Mine
section
variable {prog : Program} {w : World} {A : Around} {h₀ : Heap} {L : Addr} {m : Str → Option Value} {env : Env} {elt : Expr} {x : Str} {scope : Scope} {cl : List (Str × Addr)} {s : Shared} {S : List (Addr × Obj) → Prop} {P : Nat → Value → Prop} {Fin : List Value → List (Addr × Obj) → Prop} {news : List (Addr × Obj)}
theorem comp_rest {n : Nat} (Good : Nat → List Value → List (Addr × Obj) → Prop)
    (turn : ∀ i v I oI C oC D m₂ ys nw h tk (E' : Value → Shared → Prop), i < n → P i v → Good i ys nw → LCg.NsObj oC m₂ → m₂ x = some v → Fr h₀ L h m → News h₀ L h ((I, oI) :: (C, oC) :: (D, LCg.lst ys) :: nw) → LCg.Off3 I C D nw → ((@Ne Nat I C) ∧ (@Ne Nat I D) ∧ (@Ne Nat C D)) →
      wpAny (model prog w) A (eval elt (compEnvC scope cl C env)) (LCg.CompEnd h₀ L m { s with heap := h, toks := tk } I oI C oC D (LCg.lst ys) S (fun y nw' => Good (i + 1) (ys ++ [y]) nw')) E' { s with heap := h, toks := tk })
    (fin : ∀ ys nw, Good n ys nw → Fin ys nw) : ∀ k i ys nw, i + k = n → Good i ys nw → LCg.CompRest prog w A h₀ L m env elt x scope cl s S P Fin k i ys nw := by
  intro k
  induction k with
  | zero => intro i ys nw hi hg; rw [show i = n by omega] at hg; exact LCg.CompRest.zero (fin ys nw hg)
  | succ k ih =>
    intro i ys nw hi hg
    refine LCg.CompRest.succ ?_
    intro v I oI C oC D m₂ h tk E' hv hC hx F N off ne
    refine wpAny_mono (turn i v I oI C oC D m₂ ys nw h tk E' (by omega) hv hg hC hx F N off ne) (fun y s₂ hq => ?_) fun _ _ e => e
    obtain ⟨h', tk', nw', e, F', N', off', hS, hg'⟩ := hq
    exact ⟨h', tk', nw', e, F', N', off', hS, ih (i + 1) _ nw' (by omega) hg'⟩
end
theorem kst_name {m : Str → Option Value} {ps : List (Str × Value)} (h : ∀ p ∈ ps, m p.1 = some p.2) : m = kstB m ps := by
  funext y
  exact (kstB_eq h fun _ => rfl).symm
end Mine
end

section
open PySem PySem.W PyProof.Rows PySem.Spec PySem.Calls Rlp
set_option Elab.async false
set_option maxRecDepth 100000
set_option maxHeartbeats 1500000
set_option linter.unusedVariables false
namespace Mine
theorem fillKM1 : (fun (_ : OpenLaw) (_ : Params → Frag) => True) PySem.Challenge.rw_bi0020_01 K := by
  k_fill
  trivial
local macro_rules | `(tactic| walk_at "ENTER0") => `(tactic| (refine wpAny_call ?_; k_dflt (refine' code_def ?k1 ?k2 ?k3 ?k4 ?k5 ?kA ?kF ?kK ?k6 ?k7 ?k8 ?k9 ?kB ?_ ?c2 ?c3 ?c4 ?c5; (case kA => exact rfl); (case kF => exact And.right (by assumption)); (case kK => exact And.left (by assumption)); (case k1 => k_asm); (case k2 => k_asm); (case k3 => k_asm); (case k4 => k_asm); (case k5 => k_asm); (case k6 => k_is); (case k7 => k_is); (case k8 => ktr_room); (case k9 => first | exact BindsTo.of_eq rfl | exact binds_K (by k_in) rfl (by k_is) rfl rfl rfl); (case c5 => decide); (case kB => exact locs rfl); (case c2 => exact rfl); (case c3 => exact rfl); (case c4 => exact rfl); k_whole; intro g' L' h' FG' F' N' B' X' T'; (try dsimp only); (try k_fold))))
local macro_rules | `(tactic| walk_at "ENTER") => `(tactic| (walk_at "ENTER0"; k_steps))
local macro_rules | `(tactic| walk_at "bsz") => `(tactic| ((try simp only [List.size_toArray, List.length_append, List.length_cons, List.length_nil, be_length, beK_length, slice_length]); omega))
local macro_rules | `(tactic| walk_at "call builtin:len") => `(tactic| ((with_reducible show wpAny _ _ (call (Value.builtin _) [Value.bytes (List.toArray _) _]) _ _ _); refine len_bytes (by walk_at "bsz") ?_; (try simp only [List.size_toArray, be_length])))
local macro_rules | `(tactic| walk_at "binaryOp Add bytes bytes") => `(tactic| ((with_reducible show wpAny _ _ (binaryOp Operator.Add (Value.bytes (List.toArray _) _) (Value.bytes (List.toArray _) _)) _ _ _); refine KBy.add_bytes (by walk_at "bsz") ?_; intro _ _; (try simp only [List.append_toArray, List.cons_append, List.nil_append])))
local macro_rules | `(tactic| walk_at "call ref") => `(tactic| ((with_reducible show wpAny _ _ (call (Value.ref 1464) _) _ _ _); (k_dflt (refine' b2i ?k1 ?k2 ?k3 ?k4 ?k5 ?k6 ?k7 ?k8 ?k9 ?_; (case k1 => k_asm); (case k2 => k_asm); (case k3 => k_asm); (case k4 => k_asm); (case k5 => k_asm); (case k6 => exact ⟨rfl, rfl⟩); (case k7 => walk_at "dp"); (case k8 => walk_at "dp"); (case k9 => walk_at "bsz"))); intro _ _ _ _ _))
local macro_rules | `(tactic| walk_at "call ref") => `(tactic| ((with_reducible show wpAny _ _ (call (Value.ref 1736) _) _ _ _); (k_dflt (refine' clp_ok ?k1 ?k2 ?k3 ?k4 ?k5 ?k6 ?k7 ?k8 ?k9 ?k0 ?_; (case k1 => k_asm); (case k2 => k_asm); (case k3 => k_asm); (case k4 => k_asm); (case k5 => k_asm); (case k6 => exact ⟨rfl, rfl⟩); (case k7 => walk_at "dp"); (case k8 => walk_at "dp"); (case k9 => walk_at "bsz"); (case k0 => assumption))); intro _ _ _ _ _ _ _ _ _ _))
local macro_rules | `(tactic| walk_at "call ref") => `(tactic| ((with_reducible show wpAny _ _ (call (Value.ref 1457) _) _ _ _); (k_dflt (refine' is_b ?k1 ?k2 ?k3 ?k4 ?k5 ?k6 ?k7 ?k8 ?_; (case k1 => k_asm); (case k2 => k_asm); (case k3 => k_asm); (case k4 => k_asm); (case k5 => k_asm); (case k6 => exact ⟨rfl, rfl⟩); (case k7 => walk_at "dp"); (case k8 => walk_at "dp"))); intro _ _ _ _))
local macro_rules | `(tactic| walk_at "call ref") => `(tactic| ((with_reducible show wpAny _ _ (call (Value.ref 74) [_, _]) _ _ _); (k_dflt (refine' mk_DE ?k1 ?k2 ?k3 ?k4 ?k5 ?k6 ?k7 ?k8 ?_; (case k1 => k_asm); (case k2 => k_asm); (case k3 => k_asm); (case k4 => k_asm); (case k5 => k_asm); (case k6 => exact ⟨rfl, rfl⟩); (case k7 => walk_at "dp"); (case k8 => walk_at "dp"))); intro _ _ _ _ _ _ _ _ _ _; refine RaiseOk.intro (by k_asm) (by k_asm) (by k_asm) (.head _) (exc74 _) ?_))
local macro_rules | `(tactic| walk_at "ENTER0") => `(tactic| (refine wpAny_call ?_; k_dflt (refine' code_def ?k1 ?k2 ?k3 ?k4 ?k5 ?kA ?kF ?kK ?k6 ?k7 ?k8 ?k9 ?kB ?_ ?c2 ?c3 ?c4 ?c5; (case kA => exact rfl); (case kF => exact And.right (by assumption)); (case kK => exact And.left (by assumption)); (case k1 => k_asm); (case k2 => k_asm); (case k3 => k_asm); (case k4 => k_asm); (case k5 => k_asm); (case k6 => k_is); (case k7 => k_is); (case k8 => ktr_room); (case k9 => first | exact BindsTo.of_eq rfl | exact binds_K (by k_in) rfl (by k_is) rfl rfl rfl); (case c5 => decide); (case kB => exact locs rfl); (case c2 => exact rfl); (case c3 => exact rfl); (case c4 => exact rfl); k_whole; intro g' L' h' FG' F' N' B' X' T'; (try dsimp only); (try k_fold))))
local macro_rules | `(tactic| walk_at "call ref") => `(tactic| ((with_reducible show wpAny _ _ (call (Value.ref 1714) _) _ _ _); (k_dflt (refine' dr_ok ?k1 ?k2 ?k3 ?k4 ?k5 ?k6 ?k7 ?k8 ?k9 ?ka ?kb ?_; (case k1 => k_asm); (case k2 => k_asm); (case k3 => k_asm); (case k4 => k_asm); (case k5 => k_asm); (case ka => assumption); (case kb => first | assumption | exact Or.inr rfl); (case k6 => exact ⟨rfl, rfl⟩); (case k7 => walk_at "dp"); (case k8 => walk_at "dp"); (case k9 => assumption))); intro _ _ _ _ _ _ _ _ _ _ _ _ _ _ _))
local macro_rules | `(tactic| walk_at "call ref") => `(tactic| ((with_reducible show wpAny _ _ (call (Value.ref 1714) _) _ _ _); (k_dflt (refine' dr_de ?k1 ?k2 ?k3 ?k4 ?k5 ?k6 ?k7 ?k8 ?k9 ?ka ?kb ?_; (case k1 => k_asm); (case k2 => k_asm); (case k3 => k_asm); (case k4 => k_asm); (case k5 => k_asm); (case ka => assumption); (case kb => with_reducible assumption); (case k6 => exact ⟨rfl, rfl⟩); (case k7 => walk_at "dp"); (case k8 => walk_at "dp"); (case k9 => assumption))); intro _ _ _ _ _ _ _ _ _))
local macro_rules | `(tactic| walk_at "compareOp Eq ref ref") => `(tactic| ((with_reducible show wpAny _ _ (compareOp CmpOp.Eq (Value.ref _) (Value.ref _)) _ _ _); k_dflt (refine' eq_ne_len ?k1 ?k2 ?k3 ?k4 ?k5 ?_; (case k1 => k_asm); (case k2 => k_mem); (case k3 => k_mem); (case k4 => simp; done); (case k5 => walk_at "dp"))))
local macro_rules | `(tactic| walk_at "lsz") => `(tactic| (rw [sizeLine_eq]; (try simp only [List.length_cons, List.length_append, List.length_nil, List.length_replicate]); omega))
local macro_rules | `(tactic| walk_at "mb") => `(tactic| ((try simp only [List.length_cons, List.length_nil]); omega))
local macro_rules | `(tactic| walk_at "binaryOp Mult ref int") => `(tactic| ((with_reducible show wpAny _ _ (binaryOp Operator.Mult (Value.ref _) (Value.int _ _)) _ _ _); k_dflt (refine' mul1_led ?k1 ?k2 ?k3 ?k4 ?k5 ?_; (case k1 => k_asm); (case k2 => k_asm); (case k3 => k_mem); (case k4 => first | omega | (split <;> omega)); (case k5 => first | omega | (split <;> omega))); intro _ _ _ _ l1; (try k_lt l1)))
local macro_rules | `(tactic| walk_at "binaryOp Add ref ref") => `(tactic| ((with_reducible show wpAny _ _ (binaryOp Operator.Add (Value.ref _) (Value.ref _)) _ _ _); k_dflt (refine' add_led ?k1 ?k2 ?k3 ?k4 ?k5 ?_; (case k1 => k_asm); (case k2 => k_asm); (case k3 => k_mem); (case k4 => k_mem); (case k5 => walk_at "lsz")); intro _ _ _ _ l1; (try k_lt l1)))
local macro_rules | `(tactic| walk_at "bin") => `(tactic| (intro n hn; rcases List.mem_append.mp hn with hn | hn <;> (rw [(List.mem_replicate.mp hn).2]; omega)))
local macro_rules | `(tactic| walk_at "lt1") => `(tactic| first | assumption | exact of_allLt (by assumption) | exact of_allLt1 (by assumption) | exact of_allLt2 (by assumption) | exact of_allLt3 (by assumption) | exact lt4 (by assumption) | exact lt5 (by assumption) | exact lt6 (by assumption) | exact lt7 (by assumption) | exact lt8 (by assumption) | exact lt9 (by assumption) | exact lt10 (by assumption))
local macro_rules | `(tactic| walk_at "above") => `(tactic| (repeat (refine List.forall_mem_cons.mpr ⟨by walk_at "lt1", ?_⟩)); exact fun _ h => nomatch h)
noncomputable abbrev lawE (L fa : Addr) (cd : Value) : Env := envOfC dL.name dL.scope L fa cd
local macro_rules | `(tactic| walk_at "GR1") => `(tactic| (fail_if_success (with_reducible show wpAny _ _ (execs (Stmt.Assign [Expr.Name ("values" : Str) _] _ _ :: _) _) _ _ _)))
local macro_rules | `(tactic| walk_at "UP1") => `(tactic| repeat' (first | (k_unfold; (try dsimp only)) | (k_end; wrow_close) | (walk_at "GR1"; walk1) | (dsimp only; walk_at "GR1"; walk1) | (walk_at "GR1"; leave1; (try dsimp only)) | fail "no step"))
local macro_rules | `(tactic| k_mem) => `(tactic| (refine mem_of ?_; ktr_member))
local macro_rules | `(tactic| walk_at "dp") => `(tactic| (k_dflt ((try simp only [depth_deeper, depth_caller, units_in1, units_deeper, units_caller]); decide)))
local macro_rules | `(tactic| walk_at "itd") => `(tactic| ((try simp only [decide_eq_true_eq, beq_iff_eq, Bool.not_eq_true', decide_eq_false_iff_not, bne_iff_ne, ne_eq, List.length_append, List.length_cons, List.length_nil]); omega))
local macro_rules | `(tactic| walk_at "ite") => `(tactic| first | (rw [if_pos (by walk_at "itd")]) | (rw [if_neg (by walk_at "itd")]))
local macro_rules | `(tactic| walk_at "GR") => `(tactic| ((fail_if_success (with_reducible show wpAny _ _ (call (Value.ref 1777) _) _ _ _)); (fail_if_success (with_reducible show wpAny _ _ (pyIter (Value.ref _)) (fun it s₂ => LoopAtV _ _ _ _ _ _ _ _ _ it s₂) _ _)); (fail_if_success (with_reducible show UnrEnd _ _ _ _ _ _ _))))
local macro_rules | `(tactic| walk_at "UPR") => `(tactic| repeat' (first | (k_unfold; (try dsimp only)) | (k_end; wrow_close) | (walk_at "GR"; walk1) | (dsimp only; walk_at "GR"; walk1) | (walk_at "GR"; leave1; (try dsimp only)) | fail "no step"))
local macro_rules | `(tactic| walk_at "call type:range") => `(tactic| ((with_reducible show wpAny _ _ (call (Value.type "range") [Value.int _ _]) _ _ _); (k_dflt (refine' range1_rows ?k1 ?k2 ?_; (case k1 => k_asm); (case k2 => k_asm))); intro _ _ _ _ _ rg9 _ _ _))
local macro_rules | `(tactic| walk_at "call ref") => `(tactic| ((with_reducible show wpAny _ _ (call (Value.ref 1770) [Value.ref _, Value.int 0 _, Value.int _ _]) _ _ _); (fail_if_success skip); (k_dflt (refine' lawat (k := 0) ?k1 ?k2 ?k3 ?k4 ?k5 ?k6 ?k7 ?k8 ?k9 ?ka ?kb ?_; (case k1 => k_asm); (case k2 => k_asm); (case k3 => k_asm); (case k4 => k_asm); (case k5 => k_asm); (case k6 => exact ⟨rfl, rfl⟩); (case k7 => walk_at "dp"); (case k8 => walk_at "dp"); (case k9 => assumption); (case ka => assumption); (case kb => omega))); intro _ _ _ _ _))
local macro_rules | `(tactic| walk_at "GM") => `(tactic| ((fail_if_success (with_reducible show wpAny _ _ (execs (Stmt.Assign [Expr.Name ("told" : Str) _] _ _ :: _) _) _ _ _)); (fail_if_success (with_reducible show wpAny _ _ (call (Value.ref 1784) _ _) _ _ _)); (fail_if_success (with_reducible show wpAny _ _ (call (Value.type "bytes") _ _) _ _ _)); (fail_if_success (with_reducible show LCg.CompSrc _ _ _ _ _ _ _ _ _ _ _ _ _ _)); (fail_if_success (with_reducible show LCg.CompEnd _ _ _ _ _ _ _ _ _ _ _ _ _ _)); (fail_if_success (with_reducible show wpAny _ _ (eval (Expr.ListComp _ _ _ _) _) _ _ _))))
local macro_rules | `(tactic| walk_at "UPM") => `(tactic| repeat' (first | (k_unfold; (try dsimp only)) | (k_end; wrow_close) | (walk_at "GM"; walk1) | (dsimp only; walk_at "GM"; walk1) | (walk_at "GM"; leave1; (try dsimp only)) | fail "no step"))
def heads01 : List Int := [128, 129, 130, 184, 192, 193, 194, 195, 248, 0, 1, 56, 127, 255]
def f01 (n : Int) : Int := if n.fmod 2 = 1 ∧ 255 < n then heads01.getD ((n.fdiv 2).fmod 14).toNat 0 else n.fmod 256
theorem heads_range : ∀ x ∈ heads01, (0 : Int) ≤ x ∧ x < 256 := by decide
theorem f01_range (n : Int) : 0 ≤ f01 n ∧ f01 n < 256 := by
  have e1 := Int.fmod_nonneg_of_pos n (b := 256) (by decide)
  have e2 := Int.fmod_lt_of_pos n (b := 256) (by decide)
  unfold f01
  split
  · have e3 := Int.fmod_nonneg_of_pos (n.fdiv 2) (b := 14) (by decide)
    have e4 := Int.fmod_lt_of_pos (n.fdiv 2) (b := 14) (by decide)
    have hk : ((n.fdiv 2).fmod 14).toNat < heads01.length := by show _ < 14; omega
    rw [List.getD_eq_getElem?_getD, List.getElem?_eq_getElem hk]
    exact heads_range _ (List.getElem_mem hk)
  · exact ⟨e1, e2⟩
theorem f01_a {n : Int} (h1 : n.fmod 2 = 1) (h2 : 255 < n) : heads01.getD ((n.fdiv 2).fmod 14).toNat 0 = f01 n := (if_pos ⟨h1, h2⟩).symm
theorem f01_b {n : Int} (h1 : ¬ (n.fmod 2 = 1 ∧ 255 < n)) : n.fmod 256 = f01 n := (if_neg h1).symm
theorem ints_snoc : ∀ {vs : List Value} {ns : List Int} {n : Int} {t : Tok}, IntsAre vs ns → IntsAre (vs ++ [.int n t]) (ns ++ [n])
  | _, _, n, t, .nil => .cons n t .nil
  | _, _, n, t, .cons k u h => .cons k u (ints_snoc h)
/-- a goal that is not looked into -/
structure Box (P : Prop) : Prop where
  out : P
section
variable {w : World} {p : Program} {loose : List Str} {mean : ExcName → Option Value} {mg mb : Str → Option Value} {g : Heap} {L fa : Addr} {cd : Value} {m : Str → Option Value} {s : Shared} {Q : Flow → Shared → Prop} {E : Value → Shared → Prop}
theorem ms0 {scr : Addr} {vs : List Value} {is : List Int} {c1 : Obj}
    (K0 : Below callerA g [] g) (X : (K w.params).In g) (T : Top p loose mean mg mb g) (hL : g.IsList scr vs.toArray) (hI : IntsAre vs is) (hlen : is.length ≤ 63)
    (F : Fr g L s.heap m) (hm : m (Str.ofString "script") = some (.ref scr)) (N : News g L s.heap [(L + 1, c1), (1702, tabObj #[])]) (hc1 : c1.data = .cell none) (h17 : 1702 < L)
    (hE : PassesOwn (model rr.prog w) (callerA.deeper (lawE L fa cd)) (lawE L fa cd) E)
    (hnext : ∀ m' h' tk x t, Fr g L h' m' → m' (Str.ofString "script") = some (.ref scr) → m' (Str.ofString "drawn") = some (.bytes (List.toArray x) t) → List.length x ≤ 9 → News g L h' [(1702, tabObj #[])] →
      wpAny (model rr.prog w) (callerA.deeper (lawE L fa cd)) (execs (dL.body.drop 2) (lawE L fa cd)) Q E { s with heap := h', toks := tk }) :
    Box (wpAny (model rr.prog w) (callerA.deeper (lawE L fa cd)) (execs dL.body (lawE L fa cd)) Q E s) := by
  refine ⟨?_⟩
  show wpAny (model rr.prog w) (callerA.deeper (lawE L fa cd)) (execs (dL.body.drop 0) (lawE L fa cd)) Q E s
  have hvl := IntsAre.length hI
  rw [kst_name (m := m) (ps := [(Str.ofString "script", .ref scr)]) (fun q hq => by rw [List.mem_singleton.mp hq]; exact hm)] at F
  walk_at "UPM"
  rename Fr g L _ _ => F1
  k_dflt (refine LCg.ListComp_U (F₀ := F1) (by with_unfolding_all rfl) (by decide) (by rfl) (by decide) (by rfl) ?_)
  walk_at "UPM"
  dsimp only
  rename News g L _ _ => N2
  rename Fr g L _ _ => F2
  rename IntsAre _ _ => hW
  rename_i lH h1 l1 h2 oC hoC D2 ws h3 l2 hl9 hl8
  obtain ⟨hs, hsI, N3⟩ : ∃ hs, IntsAre hs heads01 ∧ News g L h3 ((D2, W.listOf ws.toArray 0) :: (lH, W.listOf hs.toArray 0) :: (L + 1, oC) :: [(1702, tabObj #[])]) := ⟨_, by repeat' constructor, N2⟩
  clear N2 l2
  have hwl : ws.length ≤ 9 := by
    have h1 := IntsAre.length hW
    simp only [List.length_take] at h1
    omega
  refine LCg.CompSrc.ledger (its := ws.toArray) rfl F2 N3 (.head _) (by rw [List.size_toArray, sizeLine_eq]; omega) fun g' => ?_
  rw [List.size_toArray]
  refine comp_rest (n := ws.length) (fun i ys nw => nw = _ ∧ IntsAre ys (((is.take 9).take i).map f01)) ?_ ?_ ws.length 0 [] _ (by omega) ⟨rfl, .nil⟩
  · intro i v I oI C oC' D m₂ ys nw h tk E' hi hv hg hC hx F5 N5 off ne
    obtain ⟨rfl, hys⟩ := hg
    obtain ⟨y, ty, rfl, hy⟩ := IntsAre.at hW i v (by simpa using hv)
    clear F2 N3
    have e1 := Int.fmod_nonneg_of_pos (y.fdiv 2) (b := 14) (by decide)
    have e2 := Int.fmod_lt_of_pos (y.fdiv 2) (b := 14) (by decide)
    walk_at "UPM"
    all_goals dsimp only
    all_goals (
      refine LCg.CompEnd.intro (by k_asm) (by k_asm) _ (fun p hp => hp) off (.inr ⟨_, .head _, rfl, _, rfl⟩) ⟨rfl, ?_⟩
      rw [List.take_add_one, hy, List.map_append]
      first
        | (rw [f01_a (by assumption) (by assumption)]; exact ints_snoc hys)
        | (rw [f01_b (by omega)]; exact ints_snoc hys))
  · intro ys nw hg
    obtain ⟨rfl, hys⟩ := hg
    intro D h tk F5 N5 off
    have hyl : ys.length ≤ 9 := by
      have h1 := IntsAre.length hys
      simp only [List.length_take, List.length_map] at h1
      omega
    clear F2 N3
    walk_at "UPM"
    refine bytes_led F5 N5 (.head _) hys (fun n hn => ?_) (by rw [sizeLine_eq]; omega) rfl ?_
    · obtain ⟨k, _, rfl⟩ := List.mem_map.mp hn
      exact f01_range k
    intro h' t k F6 N6
    walk_at "UPM"
    (try dsimp only)
    rename Fr g L _ _ => F7
    rename News g L _ _ => N7
    exact hnext _ _ _ _ _ F7 rfl rfl (by simp only [List.length_map, List.length_take]; omega) (News.sub N7 fun p hp => .tail _ (.tail _ (.tail _ (.tail _ hp))))
end
end Mine
end

section
/-! how a reader refuses: true, an IndexError; false, a DecodingError -/
namespace Rlp
def flaw {α : Type} : R α → Option Bool
  | .ok _ => none
  | .ix => some true
  | .de => some false
  | .out => none
def flawL (fin : Nat) : R (List D × List UInt8 × Nat) → Option Bool
  | .ok (_, _, e) => if e > fin then some false else none
  | .ix => some true
  | .de => some false
  | .out => none
theorem flaw_item {x : List UInt8} {dep st : Nat} {b : Bool} (h : flaw (item x dep st) = some b) :
    ∃ k, dep = k + 1 ∧ (flaw (clp x st) = some b ∨ ∃ p row l s, clp x st = .ok (p, row, l, s) ∧ flaw (pay x k p row l s) = some b) := by
  cases dep with
  | zero => unfold item at h; cases h
  | succ k =>
    refine ⟨k, rfl, ?_⟩
    rw [item_pay] at h
    cases hc : clp x st with
    | ok q => obtain ⟨p, row, l, s⟩ := q; rw [hc] at h; exact .inr ⟨p, row, l, s, rfl, h⟩
    | ix => rw [hc] at h; exact .inl h
    | de => rw [hc] at h; exact .inl h
    | out => rw [hc] at h; exact .inl h
theorem flaw_pay {x q : List UInt8} {dep l e : Nat} {row b : Bool} (h : flaw (pay x dep q row l e) = some b) : row = true ∧ flawL (e + l) (clLoop (item x dep) (e + l) (l + 1) e) = some b := by
  cases row with
  | false => cases h
  | true =>
    refine ⟨rfl, ?_⟩
    unfold pay at h
    dsimp only at h
    cases hl : clLoop (item x dep) (e + l) (l + 1) e with
    | ok v =>
      obtain ⟨ds, rs, e'⟩ := v
      rw [hl] at h
      dsimp only at h
      unfold flawL
      dsimp only
      split at h
      · rename_i hg; rw [if_pos hg]; exact h
      · cases h
    | ix => rw [hl] at h; exact h
    | de => rw [hl] at h; exact h
    | out => rw [hl] at h; exact h
theorem flaw_loop {step : Nat → R (D × List UInt8 × Nat)} {fin n next : Nat} {b : Bool} (h : flawL fin (clLoop step fin n next) = some b) :
    (next < fin ∧ ∃ n', flaw (step next) = some b ∨ ∃ d r nx, step next = .ok (d, r, nx) ∧ flawL fin (clLoop step fin n' nx) = some b) ∨ (¬ next < fin ∧ b = false ∧ fin < next) := by
  by_cases hl : next < fin
  · refine .inl ⟨hl, ?_⟩
    cases n with
    | zero => unfold clLoop at h; rw [if_pos hl] at h; cases h
    | succ n =>
      unfold clLoop at h
      rw [if_pos hl] at h
      refine ⟨n, ?_⟩
      cases hs : step next with
      | ok v =>
        obtain ⟨d, r, nx⟩ := v
        rw [hs] at h
        dsimp only at h
        refine .inr ⟨d, r, nx, rfl, ?_⟩
        cases hq : clLoop step fin n nx with
        | ok v => obtain ⟨ds', rs', e'⟩ := v; rw [hq] at h; exact h
        | ix => rw [hq] at h; exact h
        | de => rw [hq] at h; exact h
        | out => rw [hq] at h; exact h
      | ix => rw [hs] at h; exact .inl h
      | de => rw [hs] at h; exact .inl h
      | out => rw [hs] at h; exact .inl h
  · refine .inr ⟨hl, ?_⟩
    have e : flawL fin (clLoop step fin n next) = if next > fin then some false else none := by
      cases n <;> (unfold clLoop; rw [if_neg hl]; rfl)
    rw [e] at h
    split at h
    · rename_i hg
      cases h
      exact ⟨rfl, hg⟩
    · cases h
end Rlp
end

section
namespace Rlp
theorem ofBe_slice {x : List UInt8} {st n : Nat} (hn : n ≤ 8) : ofBe (slice x st n) < 256 ^ 8 := by
  have h1 := ofBe_lt (slice x st n)
  have h2 : (slice x st n).length ≤ 8 := by rw [slice_length]; omega
  exact Nat.lt_of_lt_of_le h1 (Nat.pow_le_pow_right (by decide) h2)
theorem clp_l {x p : List UInt8} {st l s : Nat} {row : Bool} (h : clp x st = .ok (p, row, l, s)) : l < 256 ^ 8 := by
  have e8 : (256 : Nat) ^ 8 = 18446744073709551616 := rfl
  unfold clp at h
  split at h
  · cases h
  · rename_i c hc
    have hc2 := c.toNat_lt
    dsimp only at h
    split at h
    · simp only [R.ok.injEq, Prod.mk.injEq] at h; omega
    split at h
    · split at h
      · split at h
        · cases h
        · split at h
          · cases h
          · simp only [R.ok.injEq, Prod.mk.injEq] at h; omega
      · simp only [R.ok.injEq, Prod.mk.injEq] at h; omega
    split at h
    · split at h
      · cases h
      split at h
      · cases h
      simp only [R.ok.injEq, Prod.mk.injEq] at h
      obtain ⟨_, _, rfl, _⟩ := h
      exact ofBe_slice (by omega)
    split at h
    · simp only [R.ok.injEq, Prod.mk.injEq] at h; omega
    split at h
    · cases h
    split at h
    · cases h
    simp only [R.ok.injEq, Prod.mk.injEq] at h
    obtain ⟨_, _, rfl, _⟩ := h
    exact ofBe_slice (by omega)
theorem item_end {x : List UInt8} {dep st : Nat} {d : D} {r : List UInt8} {e : Nat} (h : item x dep st = .ok (d, r, e)) : e ≤ st + 9 + 256 ^ 8 := by
  obtain ⟨k, q, row, l, s, _, hc, hp⟩ := item_split h
  have h1 := clp_l hc
  have h2 := clp_len hc
  cases row with
  | false =>
    unfold pay at hp
    simp only [R.ok.injEq, Prod.mk.injEq] at hp
    omega
  | true =>
    obtain ⟨ds, rs, _, hle, _⟩ := pay_row hp
    omega
theorem log2_small {a : Int} {e n : Nat} (ha : a.natAbs ≤ n + e) (hn : n < 2 ^ 23) (he : e ≤ 0 + 9 + 256 ^ 8) : a.natAbs.log2 < 1920 := by
  have h1 : a.natAbs < 2 ^ 66 := by
    have e8 : (256 : Nat) ^ 8 = 18446744073709551616 := rfl
    have e6 : (2 : Nat) ^ 66 = 73786976294838206464 := rfl
    omega
  by_cases h0 : a.natAbs = 0
  · rw [h0]; decide
  · exact Nat.lt_of_lt_of_le ((Nat.log2_lt h0).mpr h1) (by decide)
end Rlp
end

section
/-! what law 01 asks, without a program -/
namespace Rlp
/-- what decode refuses -/
def Refu (x : List UInt8) (dep : Nat) : Prop := (∃ b, flaw (item x dep 0) = some b) ∨ ∃ d r e, item x dep 0 = .ok (d, r, e) ∧ e ≠ x.length
theorem refu_or {x : List UInt8} {dep : Nat} (h : item x dep 0 ≠ .out) : (∃ d r, item x dep 0 = .ok (d, r, x.length) ∧ enc d = x) ∨ Refu x dep := by
  cases hi : item x dep 0 with
  | ok v =>
    obtain ⟨d, r, e⟩ := v
    by_cases he : e = x.length
    · subst he
      refine .inl ⟨d, r, rfl, ?_⟩
      have := enc_item hi (Nat.le_refl _)
      obtain ⟨h1, h2, h3⟩ := this
      rw [h1, ← h3]
      unfold slice
      rw [List.drop_zero, List.take_of_length_le (by omega)]
    · exact .inr (.inr ⟨d, r, e, hi, he⟩)
  | ix => exact .inr (.inl ⟨true, by rw [hi]; rfl⟩)
  | de => exact .inr (.inl ⟨false, by rw [hi]; rfl⟩)
  | out => exact absurd hi h
theorem refu_short {x : List UInt8} {dep : Nat} (h : x.length < dep) : (∃ d r, item x dep 0 = .ok (d, r, x.length) ∧ enc d = x) ∨ Refu x dep := refu_or (item_in dep x 0 (by omega) (by omega))
theorem item_whole2 {d : D} {dep : Nat} (hd : d.depth < dep) (hz : (enc d).length < 256 ^ 8) : item (enc d) dep 0 = .ok (d, enc d, (enc d).length) := by
  have := item_enc d dep [] [] hd hz
  rw [List.append_nil] at this
  have e : 0 + (enc d).length = (enc d).length := Nat.zero_add _
  rw [← e]
  exact this
theorem refu_cut {d : D} {dep : Nat} (hd : d.depth < dep) (hz : (enc d).length < 256 ^ 8) : Refu ((enc d).take ((enc d).length - 1)) dep := by
  have hp := enc_length_pos d
  obtain ⟨h1, h2⟩ := item_take (n := (enc d).length - 1) (item_whole2 hd hz)
  have hl : ((enc d).take ((enc d).length - 1)).length = (enc d).length - 1 := by rw [List.length_take]; omega
  rcases refu_or h1 with ⟨d', r', hi, _⟩ | h
  · rw [hl] at hi
    rcases h2 _ _ _ hi with h | h <;> omega
  · exact h
theorem refu_more {d : D} {dep : Nat} {y : List UInt8} (hd : d.depth < dep) (hz : (enc d).length < 256 ^ 8) (hy : y ≠ []) : Refu (enc d ++ y) dep := by
  have := item_enc d dep [] y hd hz
  refine .inr ⟨d, enc d, 0 + (enc d).length, this, ?_⟩
  rw [List.length_append]
  have := List.length_pos_iff.mpr hy
  omega
theorem refu_long {c : UInt8} {r : List UInt8} {dep : Nat} (h1 : 128 < c.toNat) (h2 : c.toNat < 184) (hd : 0 < dep) : Refu (184 :: UInt8.ofNat (c.toNat - 128) :: r) dep := by
  obtain ⟨k, rfl⟩ : ∃ k, dep = k + 1 := ⟨dep - 1, by omega⟩
  refine .inl ⟨false, ?_⟩
  have hc : clp (184 :: UInt8.ofNat (c.toNat - 128) :: r) 0 = .de := by
    have hn : (UInt8.ofNat (c.toNat - 128)).toNat = c.toNat - 128 := by rw [UInt8.toNat_ofNat']; omega
    have h0 : ¬ ([UInt8.ofNat (c.toNat - 128)] : List UInt8) = [0] := by
      intro h
      have := congrArg UInt8.toNat (List.head_eq_of_cons_eq h)
      rw [hn] at this
      simp at this
      omega
    have hs : slice (184 :: UInt8.ofNat (c.toNat - 128) :: r) 1 1 = [UInt8.ofNat (c.toNat - 128)] := rfl
    have ho : ofBe [UInt8.ofNat (c.toNat - 128)] = c.toNat - 128 := by
      show 0 * 256 + (UInt8.ofNat (c.toNat - 128)).toNat = _
      rw [hn]; omega
    unfold clp
    simp only [List.getElem?_cons_zero, Nat.zero_add]
    have e : (184 : UInt8).toNat = 184 := rfl
    simp only [e]
    rw [if_neg (by decide), if_neg (by decide), if_pos (by decide), show 184 - 183 = 1 from rfl, hs, if_neg h0, ho, if_pos (by omega)]
  rw [item_succ, hc]
  rfl
theorem refu_longl {c : UInt8} {r : List UInt8} {dep : Nat} (h1 : 192 < c.toNat) (h2 : c.toNat < 248) (hd : 0 < dep) : Refu (248 :: UInt8.ofNat (c.toNat - 192) :: r) dep := by
  obtain ⟨k, rfl⟩ : ∃ k, dep = k + 1 := ⟨dep - 1, by omega⟩
  refine .inl ⟨false, ?_⟩
  have hc : clp (248 :: UInt8.ofNat (c.toNat - 192) :: r) 0 = .de := by
    have hn : (UInt8.ofNat (c.toNat - 192)).toNat = c.toNat - 192 := by rw [UInt8.toNat_ofNat']; omega
    have h0 : ¬ ([UInt8.ofNat (c.toNat - 192)] : List UInt8) = [0] := by
      intro h
      have := congrArg UInt8.toNat (List.head_eq_of_cons_eq h)
      rw [hn] at this
      simp at this
      omega
    have hs : slice (248 :: UInt8.ofNat (c.toNat - 192) :: r) 1 1 = [UInt8.ofNat (c.toNat - 192)] := rfl
    have ho : ofBe [UInt8.ofNat (c.toNat - 192)] = c.toNat - 192 := by
      show 0 * 256 + (UInt8.ofNat (c.toNat - 192)).toNat = _
      rw [hn]; omega
    unfold clp
    simp only [List.getElem?_cons_zero, Nat.zero_add]
    have e : (248 : UInt8).toNat = 248 := rfl
    simp only [e]
    rw [if_neg (by decide), if_neg (by decide), if_neg (by decide), if_neg (by decide), show 248 - 247 = 1 from rfl, hs, if_neg h0, ho, if_pos (by omega)]
  rw [item_succ, hc]
  rfl
end Rlp
end

section
/-! what law 01's last statements ask, without a program -/
namespace Rlp
theorem enc_row (ds : List D) : enc (D.l ds) = pre (encs ds).length 192 ++ encs ds := by unfold enc; rfl
mutual
theorem depth_lt : ∀ d : D, d.depth ≤ (enc d).length
  | .b x => by
    have := enc_length_pos (D.b x)
    unfold D.depth
    omega
  | .l xs => by
    have h1 := pre_length_pos (encs xs).length 192
    have h2 := depths_le_len xs
    rw [enc_row, List.length_append]
    unfold D.depth
    omega
theorem depths_le_len : ∀ ds : List D, depths ds ≤ (encs ds).length
  | [] => by unfold depths; exact Nat.zero_le _
  | d :: r => by
    have h1 := depth_lt d
    have h2 := depths_le_len r
    unfold depths encs
    rw [List.length_append]
    omega
end
/-- one octet changed -/
theorem changed_ne {x : List UInt8} {p : Nat} {b : UInt8} (hp : p < x.length) (hb : b ≠ x[p]) : x.take p ++ [b] ++ x.drop (p + 1) ≠ x := by
  intro h
  have h1 := congrArg (fun l : List UInt8 => l[p]?) h
  simp only [List.append_assoc] at h1
  rw [List.getElem?_append_right (by rw [List.length_take]; omega)] at h1
  have e : p - (x.take p).length = 0 := by rw [List.length_take]; omega
  rw [e, List.getElem?_eq_getElem hp] at h1
  simp at h1
  exact hb h1
theorem changed_len {x : List UInt8} {p : Nat} {b : UInt8} (hp : p < x.length) : (x.take p ++ [b] ++ x.drop (p + 1)).length = x.length := by
  simp only [List.length_append, List.length_take, List.length_drop, List.length_singleton]
  omega
theorem octet_ne {c : UInt8} {j : Int} (h0 : 0 ≤ j) (h1 : j < 255) : ((((c.toNat : Int) + 1 + j).fmod 256).toNat).toUInt8 ≠ c := by
  intro h
  have hc := c.toNat_lt
  have h2 := congrArg UInt8.toNat h
  obtain ⟨k, rfl⟩ := Int.eq_ofNat_of_zero_le h0
  have e : ((c.toNat : Int) + 1 + (k : Int)).fmod 256 = (((c.toNat + 1 + k) % 256 : Nat) : Int) := by
    rw [Int.fmod_eq_emod_of_nonneg _ (by decide)]
    omega
  rw [e, Int.toNat_natCast] at h2
  have e2 : (((c.toNat + 1 + k) % 256).toUInt8).toNat = (c.toNat + 1 + k) % 256 := by
    show (UInt8.ofNat _).toNat = _
    rw [UInt8.toNat_ofNat']
    omega
  rw [e2] at h2
  omega
end Rlp
end

section
set_option maxRecDepth 100000
set_option linter.unusedVariables false
set_option Elab.async false
open PySem PySem.W PyProof.Rows PySem.Spec PySem.Calls
namespace Mine
/-- Exception and what stands above it -/
abbrev excB : List Value := [.type "Exception", .type "BaseException", .type "object"]
abbrev FE := PySem.F.excBase_Exception
/-- a class of the text's own, above Exception -/
structure OwnExc (h : Heap) (C : Addr) (bm : List Value) : Prop where
  cls : ∃ nm q N bs hdct sn sub ab col dd k0 k1 k2 k3 k5, h.get? C = some (excClassObj nm q C N bs bm hdct sn sub ab col dd k0 k1 k2 k3 k5 "Exception.__new__")
  exc : bm.contains (.type "Exception") = true
  base : bm.contains (.type "BaseException") = true
  attr : bm.contains (.type "AttributeError") = false
  name : bm.contains (.type "NameError") = false
theorem OwnExc.keeps {h h' : Heap} {C : Addr} {bm : List Value} (x : OwnExc h C bm) (k : ∀ b o, h.get? b = some o → h'.get? b = some o) : OwnExc h' C bm :=
  ⟨let ⟨nm, q, N, bs, hdct, sn, sub, ab, col, dd, k0, k1, k2, k3, k5, e⟩ := x.cls; ⟨nm, q, N, bs, hdct, sn, sub, ab, col, dd, k0, k1, k2, k3, k5, k _ _ e⟩, x.exc, x.base, x.attr, x.name⟩
/-- a thing of such a class -/
abbrev excO (C t : Addr) (d : Option Addr) : Obj := { cls := .ref C, dict := d, data := .fields #[.ref t, .none, .none, .none, .bool false, .none], slots := #[] }
abbrev tupO (vs : List Value) : Obj := { cls := .type "tuple", dict := none, data := .seq vs.toArray 0, slots := #[] }
section
variable {prog : Program} {w : World} {A : Around} {E : Value → Shared → Prop} {h : Heap} {g : Array GenState} {d : Drawn} {t : Nat} {os : OsState} {C fI : Addr} {bm : List Value}
theorem check_newE {M : Model} {rest : List Value} {Q : Unit → Shared → Prop} (hC : OwnExc h C bm) (hq : Q () ⟨h, g, d, t, os⟩) : wpAny M A (checkBuiltinCall "Exception.__new__" ⟨.ref C :: rest, []⟩) Q E ⟨h, g, d, t, os⟩ := by
  obtain ⟨⟨nm, q, N, bs, hdct, sn, sub, ab, col, dd, k0, k1, k2, k3, k5, hC⟩, he, hb, ha, hn⟩ := hC
  have F := FE
  have hcont : (Value.ref C :: bm).contains (.type "Exception") = true := by rw [List.contains_cons, he, Bool.or_true]
  have hstar := F.noStar
  simp only [checkBuiltinCall, F.newKind, F.newSplit, F.newRow]
  repeat (first | refine wpAny_loadPart_at hC ?_ | (refine wpAny_isSubtype_exc hC ?_; rw [hcont]) | refine wpAny_staticBase_exc hC ?_ | refine wpAny_madeBy_exc hC ?_ | simp only [bne_self_eq_false, Bool.false_eq_true, if_false] | wp_step)
  exact hq
theorem code_newE {rest : List Value} {R : Result → Shared → Prop} (hC : OwnExc h C bm)
    (hq : R (.ok (.ret (.ref (h.objs.size + 1)))) ⟨(h.push (tupO rest)).push (excO C h.objs.size none), g, d, t, os⟩) (hrest : rest.length ≤ sizeLine) :
    codeAny (model prog w) A (.builtin "Exception.__new__" ⟨.ref C :: rest, []⟩) R ⟨h, g, d, t, os⟩ := by
  obtain ⟨⟨nm, q, N, bs, hdct, sn, sub, ab, col, dd, k0, k1, k2, k3, k5, hC⟩, he, hb, ha, hn⟩ := hC
  have F := FE
  have hends := F.ends
  have hcB : (Value.ref C :: bm).contains (.type "Exception") = true := by rw [List.contains_cons, he, Bool.or_true]
  have hcA : (Value.ref C :: bm).contains (.type "AttributeError") = false := by rw [List.contains_cons, ha]; rfl
  have hcN : (Value.ref C :: bm).contains (.type "NameError") = false := by rw [List.contains_cons, hn]; rfl
  refine codeAny_builtinAt F.entry ?_
  unfold Builtin.«BaseException.__new__»
  refine _root_.PySem.wpAt_bind ?_
  show _root_.PySem.wpAt _ _ _ (stack >>= _) _ _ _
  refine _root_.PySem.wpAt_bind (_root_.PySem.wpAt_stack fun p below => _root_.PySem.wpAt_of_wpAny ?_)
  wp_walk
  refine _root_.PySem.wpAt_of_wpAny ?_
  rw [F.owner]
  repeat (first | with_reducible refine wpAny_madeHere_exc F.canon hC ?_ | with_reducible refine wpAny_loadPart_at hC ?_ | (with_reducible refine wpAny_isSubtype_exc hC ?_; first | rw [hcB] | rw [hcA] | rw [hcN]) | wp_step)
  show R _ _
  rw [Heap.size_push]
  exact hq
/-- the call of such a class, its __init__ the text's own -/
theorem call_excE {K : Frag} {rest : List Value} {Q : Value → Shared → Prop} (X : K.In h) (hC : OwnExc h C bm)
    (hi : findIn K (.ref C) "__init__" = some (some (.ref fI))) (hf : typeIn K (.ref fI) = some (.type "function")) (hrest : rest.length ≤ sizeLine)
    (hq : ∀ h', (∀ b o, h.get? b = some o → h'.get? b = some o) → h'.get? h.objs.size = some (tupO rest) → h'.get? (h.objs.size + 1) = some (excO C h.objs.size none) →
      wpAny (model prog w) (A.under (.builtin "type.__call__" ⟨.ref C :: rest, []⟩)) (call (.ref fI) (.ref (h.objs.size + 1) :: rest)) (fun r s' => r = .none ∧ Q (.ref (h.objs.size + 1)) s') E ⟨h', g, d, t, os⟩) :
    wpAny (model prog w) A (call (.ref C) rest) Q E ⟨h, g, d, t, os⟩ := by
  obtain ⟨⟨nm, q, N, bs, hdct, sn, sub, ab, col, dd, k0, k1, k2, k3, k5, hC1⟩, _⟩ := id hC
  have F := FE
  have f1 := tc_lookup
  have f2 := tc_bind (.ref C)
  have hT : (⟨h, g, d, t, os⟩ : Shared).TypeIs (.ref C) "type" := ⟨_, hC1, rfl⟩
  refine wpAny_call (codeAny_of_tree ?_)
  show wpAny _ _ (callAny (.ref C) _) _ _ _
  repeat (any_goals (first | assumption | with_reducible refine wpAny_loadPart_at hC1 ?_ | wp_step))
  refine ⟨rfl, ?_⟩
  refine codeAny_call_builtin_at (Code.quiet_builtin _ (by decide +kernel)) entry_typeCall (wpAny_check_type_call_sub hC1 ?_)
  repeat (first | with_reducible refine wpAny_loadPart_at hC1 ?_ | with_reducible refine wpAny_madeBy_exc hC1 ?_ | wp_step)
  refine codeAny_call_builtin_code (Code.quiet_builtin _ F.quiet) (check_newE hC ?_)
  refine code_newE hC ?_ hrest
  show wpAny _ _ _ _ _ _
  have up : ∀ b o, h.get? b = some o → ((h.push (tupO rest)).push (excO C h.objs.size none)).get? b = some o := fun b o e => Heap.get?_push_of_some _ (Heap.get?_push_of_some _ e)
  have hC₁ := up _ _ hC1
  have X₁ := X.keeps up
  have hget : ((h.push (tupO rest)).push (excO C h.objs.size none)).get? (h.objs.size + 1) = some (excO C h.objs.size none) := by heap_get
  have hgt : ((h.push (tupO rest)).push (excO C h.objs.size none)).get? h.objs.size = some (tupO rest) := Heap.get?_push_of_some _ (Heap.get?_push_at rfl rfl)
  have hcC : (Value.ref C :: bm).contains (.ref C) = true := by simp
  unfold isInstance
  repeat (first | with_reducible refine wpAny_loadPart_at hget ?_ | (with_reducible refine wpAny_isSubtype_exc hC₁ ?_; rw [hcC]) | wp_step | (show wpAny _ _ (isSubtype (.ref C) _) _ _ _; refine wpAny_isSubtype_exc hC₁ ?_; rw [hcC]))
  show wpAny _ _ (typeLookup (.ref C) _) _ _ _
  refine (looks_findIn X₁ hi).here ?_
  refine wpAny_holding (wpAny_bind ?_)
  refine (bind_fn X₁ _ hf).here ?_
  refine wpAny_bind (wpAny_mono (hq _ up hgt hget) (fun r s' hr => ?_) fun _ _ x => x)
  obtain ⟨rfl, hQ⟩ := hr
  wp_walk
  exact hQ
end
end Mine
end

section
set_option maxRecDepth 100000
set_option linter.unusedVariables false
set_option Elab.async false
open PySem PySem.W PyProof.Rows PySem.Spec PySem.Calls
namespace Mine
theorem slot_wdget : Slot "wrapper_descriptor" "__get__" "wrapper_descriptor.__get__" :=
  .of (owner := "wrapper_descriptor") (n := "__get__") (by rw [typeLookup_type, builtinLookup_eq_fast]; kernel_rfl) (by decide +kernel) (by decide +kernel) (by decide +kernel)
    (by first | exact .inl (by decide +kernel) | exact .inr (by decide +kernel)) (by rw [isSubtype_type]; kernel_rfl)
theorem entry_wdget : entryFor table "wrapper_descriptor.__get__" = some Builtin.«wrapper_descriptor.__get__» := entryFor_of_tree (by kernel_rfl)
theorem args_wdget (a b c : Value) : argsOk "wrapper_descriptor.__get__" ⟨[a, b, c], []⟩ := by unfold argsOk; kernel_rfl
theorem type_einit : typeOf (.builtin "Exception.__init__") = pure (.type "wrapper_descriptor") := by show builtinType _ = _; rw [builtinType_eq_fast]; kernel_rfl
theorem owner_einit : (kfb_private% "ownerAndName") "Exception.__init__" = ("Exception", "__init__") := by first | decide +kernel | kernel_rfl
theorem type_exc : typeOf (.type "Exception") = pure (.type "type") := by first | rfl | kernel_rfl
/-- the bound __init__ of Exception -/
abbrev mwO (x : Addr) : Obj := { cls := .type "method-wrapper", dict := none, data := .fields #[.builtin "Exception.__init__", .ref x], slots := #[] }
section
variable {prog : Program} {w : World} {M : Model} {A : Around} {E : Value → Shared → Prop} {s : Shared} {h : Heap} {g : Array GenState} {d : Drawn} {t : Nat} {os : OsState} {C x : Addr} {bm : List Value} {ox : Obj}
theorem inst_excE {Q : Bool → Shared → Prop} (hC : OwnExc h C bm) (hx : h.get? x = some ox) (hc : ox.cls = .ref C) (hq : Q true ⟨h, g, d, t, os⟩) : wpAny M A (isInstance (.ref x) (.type "Exception")) Q E ⟨h, g, d, t, os⟩ := by
  obtain ⟨⟨nm, q, N, bs, hdct, sn, sub, ab, col, dd, k0, k1, k2, k3, k5, hC⟩, he, hb, ha, hn⟩ := hC
  have hcont : (Value.ref C :: bm).contains (.type "Exception") = true := by rw [List.contains_cons, he, Bool.or_true]
  unfold isInstance
  repeat (first | (with_reducible refine wpAny_loadPart_at hx ?_; rw [hc]) | (with_reducible refine wpAny_isSubtype_exc hC ?_; rw [hcont]) | wp_step)
  exact hq
theorem run_wdget {P : Fin → Shared → Prop} (hC : OwnExc h C bm) (hx : h.get? x = some ox) (hc : ox.cls = .ref C) (hq : P (.done (.ret (.ref h.objs.size))) ⟨h.push (mwO x), g, d, t, os⟩) :
    wpAny M A (Builtin.«wrapper_descriptor.__get__» ⟨[.builtin "Exception.__init__", .ref x, .ref C], []⟩) P E ⟨h, g, d, t, os⟩ := by
  unfold Builtin.«wrapper_descriptor.__get__»
  refine wpAny_bind (wpAny_of_eq (a := (.builtin "Exception.__init__", some (.ref x), some (.ref C))) (by first | rfl | kernel_rfl) ?_)
  show wpAny _ _ ((kfb_private% "checkInstance") (.builtin "Exception.__init__") (.ref x) >>= fun _ => newFields "method-wrapper" [.builtin "Exception.__init__", .ref x] >>= fun v => ret v) _ _ _
  refine wpAny_bind ?_
  show wpAny _ _ ((kfb_private% "nameAndClass") (.builtin "Exception.__init__") >>= fun r => _) _ _ _
  have hn : (kfb_private% "nameAndClass") (.builtin "Exception.__init__") = (pure (("__init__" : PySem.Str), Value.type "Exception") : Sem (PySem.Str × Value)) := by
    show (pure ((((kfb_private% "ownerAndName") "Exception.__init__").2 : PySem.Str), Value.type (((kfb_private% "ownerAndName") "Exception.__init__").1)) : Sem (PySem.Str × Value)) = _
    rw [owner_einit]
  rw [hn]
  refine wpAny_bind (wpAny_pure ?_)
  refine wpAny_bind (inst_excE hC hx hc ?_)
  refine KFB.if_not rfl ?_
  refine wpAny_pure ?_
  exact wpAny_bind (wpAny_newObj_type (wpAny_pure hq))
theorem ks_along {β : Type} {K : Frag} {name : Str} {v : Value} {init : β} {body : Value → β → Sem (ForInStep β)} {k : Option Value → Sem (ForInStep β)} {Q : β → Shared → Prop}
    (X : K.In h) (hb : ∀ c r, body c r = classOwn c name >>= k) (hk : k none = pure (.yield init))
    (hq : wpAny M A (k (some v)) (fun st s' => match st with | .done b => Q b s' | .yield _ => False) E ⟨h, g, d, t, os⟩) {l : List Value} (e : alongIn K name l = some (some v)) : wpAny M A (forIn l init body) Q E ⟨h, g, d, t, os⟩ :=
  ks_forIn_along X hb hk hq e
theorem super_gaE {so D : Addr} {l₀ l : List Value} {K : Frag} {tk : Tok} {Q : Fin → Shared → Prop}
    (hso : h.get? so = some { cls := .type "super", dict := none, data := .fields #[.ref D, .ref x, .ref C], slots := #[] }) (hno : Looks (model prog w) h (opaqueClassAbove (.ref C)) none)
    (hC : Looks (model prog w) h (mroOf (.ref C)) l₀) (hl : (l₀.dropWhile (· != .ref D)).drop 1 = l) (X : K.In h)
    (hf : alongIn K "__init__" l = some (some (.builtin "Exception.__init__"))) (hE : OwnExc h C bm) (hx : h.get? x = some ox) (hc : ox.cls = .ref C) (hxC : x ≠ C)
    (hq : Q (.done (.ret (.ref h.objs.size))) ⟨h.push (mwO x), g, d, t, os⟩) :
    wpAny (model prog w) A (Builtin.«super.__getattribute__» ⟨[.ref so, .str "__init__" tk], []⟩) Q E ⟨h, g, d, t, os⟩ := by
  have hlk := slot_wdget.lookup
  have hne : (Value.ref x == Value.ref C) = false := by simp [hxC]
  have hTf : ∀ s' : Shared, s'.TypeIs (.builtin "Exception.__init__") "wrapper_descriptor" := fun _ => type_einit
  have hdt : ({ cls := .type "super", dict := none, data := .fields #[.ref D, .ref x, .ref C], slots := #[] } : Obj).data = .fields #[.ref D, .ref x, .ref C] := rfl
  have f0 : (#[.ref D, .ref x, .ref C] : Array Value)[0]? = some (.ref D) := rfl
  have f1 : (#[.ref D, .ref x, .ref C] : Array Value)[1]? = some (.ref x) := rfl
  have f2 : (#[.ref D, .ref x, .ref C] : Array Value)[2]? = some (.ref C) := rfl
  unfold Builtin.«super.__getattribute__»
  repeat (first
    | (with_reducible refine wpAny_field hso hdt f0 ?_) | (with_reducible refine wpAny_field hso hdt f1 ?_) | (with_reducible refine wpAny_field hso hdt f2 ?_)
    | (with_reducible refine ks_wpAny_notOpaque hno ?_)
    | (with_reducible refine Looks.at hC ?_; rw [hl])
    | (refine ks_along X (fun _ _ => rfl) rfl ?_ hf)
    | (with_reducible refine wpAny_typeOf (hTf _) ?_)
    | (with_reducible refine wpAny_call_entry slot_wdget (hTf _) entry_wdget (run_wdget hE hx hc ?_) (args_wdget _ _ _))
    | (with_reducible refine ⟨_, rfl, ?_⟩)
    | (simp only [hne, Bool.or_false, Bool.false_eq_true, if_false])
    | wp_step
    | dsimp only)
  all_goals exact hq
end
end Mine
end

section
set_option maxRecDepth 100000
set_option linter.unusedVariables false
set_option Elab.async false
open PySem PySem.W PyProof.Rows PySem.Spec PySem.Calls
namespace Mine
theorem slot_einit : Slot "Exception" "__init__" "Exception.__init__" := FE.init
theorem check_bei {M : Model} {A : Around} {E : Value → Shared → Prop} {h : Heap} {g : Array GenState} {d : Drawn} {t : Nat} {os : OsState} {C e : Addr} {bm : List Value} {oe : Obj} {rest : List Value} {Q : Unit → Shared → Prop}
    (hC : OwnExc h C bm) (he : h.get? e = some oe) (hcls : oe.cls = .ref C) (hq : Q () ⟨h, g, d, t, os⟩) : wpAny M A (checkBoundCall "Exception.__init__" ⟨.ref e :: rest, []⟩) Q E ⟨h, g, d, t, os⟩ := by
  obtain ⟨⟨nm, q, N, bs, hdct, sn, sub, ab, col, dd, k0, k1, k2, k3, k5, hC⟩, hex, hb, ha, hn⟩ := hC
  have F := FE
  have hcB : (Value.ref C :: bm).contains (.type "Exception") = true := by rw [List.contains_cons, hex, Bool.or_true]
  have hshort := F.noStar
  simp only [checkBoundCall, F.initKind, F.initRow]
  repeat (first | (with_reducible refine wpAny_loadPart_at he ?_; rw [hcls]) | with_reducible refine wpAny_loadPart_at hC ?_ | (with_reducible refine wpAny_isSubtype_exc hC ?_; rw [hcB]) | wp_step)
  refine wpAny_onRaise ?_
  rw [show ∀ (a b : String) (n : Nat), Bind.check ⟨.positional, "*", "Exception", .self, [⟨"args", .varPos, false⟩]⟩ a b n (List.map (fun x => x.fst) ({ pos := Value.ref e :: rest } : Args).kw) = pure () from
    fun a b n => check_star_args _ _ _ _ _ _]
  exact wpAny_pure hq
theorem quiet_ei {as : Args} : (Code.builtin "Exception.__init__" as).quiet = true := Code.quiet_builtin _ (by decide +kernel)
/-- only Exception's own above the text's classes -/
def onlyExc : List Value → Bool
  | [.type a, .type b, .type c] => a == "Exception" && b == "BaseException" && c == "object"
  | .ref _ :: r => onlyExc r
  | _ => false
theorem onlyExc_cons {c : Addr} {r : List Value} (e : onlyExc (.ref c :: r) = true) : onlyExc r = true := by
  unfold onlyExc at e
  exact e
theorem refuse_exc (self : Value) : ∀ {l : List Value}, onlyExc l = true → refuseLoop self "__setattr__" l = pure ()
  | [.type a, .type b, .type c], e => by
    simp only [onlyExc, Bool.and_eq_true, beq_iff_eq] at e
    obtain ⟨⟨rfl, rfl⟩, rfl⟩ := e
    exact PySem.F.store_Exception.passes self
  | .ref c :: r, e => by rw [refuseLoop_ref]; exact refuse_exc self (onlyExc_cons e)
theorem exc_has {T : String} {b : Bool} (hb : ([.type "Exception", .type "BaseException", .type "object"] : List Value).contains (.type T) = b) : ∀ {l : List Value}, onlyExc l = true → l.contains (.type T) = b
  | [.type a, .type b, .type c], e => by
    simp only [onlyExc, Bool.and_eq_true, beq_iff_eq] at e
    obtain ⟨⟨rfl, rfl⟩, rfl⟩ := e
    exact hb
  | .ref c :: r, e => by
    rw [List.contains_cons, exc_has hb (onlyExc_cons e)]; rfl
def excOver (K : Frag) (C : Addr) : Bool := (clsIn K C).any fun cd => onlyExc cd.mro
def excIn (K : Frag) (C : Addr) : Bool := match K.lookup C with
  | some ⟨.type t, _, .cls cd, sl⟩ => (match cd.mro, sl.toList with
    | .ref C' :: bm, [_, _, _, _, some (.builtin n), _] => t == "type" && C' == C && !cd.hasDel && onlyExc bm && n == "Exception.__new__"
    | _, _ => false)
  | _ => false
theorem ownExc_of {K : Frag} {h : Heap} {C : Addr} (X : K.In h) (q : excIn K C = true) : ∃ bm, OwnExc h C bm := by
  unfold excIn at q
  split at q
  · rename_i t dd cd sl ho
    split at q
    · rename_i C' bm k0 k1 k2 k3 n k5 hm hs
      simp only [Bool.and_eq_true, beq_iff_eq, Bool.not_eq_true'] at q
      obtain ⟨⟨⟨⟨rfl, rfl⟩, hdel⟩, hb⟩, rfl⟩ := q
      obtain ⟨nm, bs, mro, ns, qn, hd, sn, sub, ab, col, del⟩ := cd
      dsimp only at hm hdel
      subst hm hdel
      have hsl : sl = #[k0, k1, k2, k3, some (.builtin "Exception.__new__"), k5] := by
        obtain ⟨l⟩ := sl
        simp only at hs
        rw [hs]
      subst hsl
      exact ⟨bm, ⟨nm, qn, ns, bs, hd, sn, sub, ab, col, dd, k0, k1, k2, k3, k5, X _ _ ho⟩, exc_has (by decide) hb, exc_has (by decide) hb, exc_has (by decide) hb, exc_has (by decide) hb⟩
    · cases q
  · cases q
section
variable {prog : Program} {w : World} {M : Model} {A : Around} {E : Value → Shared → Prop} {s : Shared} {K : Frag} {h₀ : Heap} {L C D x q so fI : Addr} {m : Str → Option Value} {news news' : List (Addr × Obj)} {ox : Obj} {od : Option Obj}
/-- R1 -/
theorem call_excK {rest : List Value} {Q : Value → Shared → Prop} (F : Fr h₀ L s.heap m) (X₀ : K.In h₀) (N : News h₀ L s.heap news) (hC : excIn K C = true)
    (hi : findIn K (.ref C) "__init__" = some (some (.ref fI))) (hf : typeIn K (.ref fI) = some (.type "function")) (hrest : rest.length ≤ sizeLine)
    (hq : ∀ e t h', Fr h₀ L h' m → News h₀ L h' ((e, excO C t none) :: (t, tupO rest) :: news) → (∀ p ∈ news, p.1 < t) → (∀ p ∈ ((t, tupO rest) :: news), p.1 < e) →
      wpAny (model prog w) (A.under (.builtin "type.__call__" ⟨.ref C :: rest, []⟩)) (call (.ref fI) (.ref e :: rest)) (fun r s' => r = .none ∧ Q (.ref e) s') E { s with heap := h' }) :
    wpAny (model prog w) A (call (.ref C) rest) Q E s := by
  have X : K.In s.heap := X₀.keeps F.keep
  obtain ⟨bm, hE⟩ := ownExc_of X hC
  obtain ⟨hp, g, d, tk, os⟩ := s
  refine call_excE X hE hi hf hrest fun h' up ht he => ?_
  have F' := F.keeps up
  have nt : ∀ p ∈ news, @LT.lt Nat _ p.1 hp.objs.size := fun p hp => Heap.lt_size (N p hp).1
  have nL : @LT.lt Nat _ L hp.objs.size := F.ns.lt
  have n0 : ∀ b, @LE.le Nat _ hp.objs.size b → h₀.get? b = none := fun b hb => by
    cases z : h₀.get? b with
    | none => rfl
    | some o => exact absurd (Heap.lt_size (F.keep _ _ z)) (Nat.not_lt.mpr hb)
  refine hq (hp.objs.size + 1) hp.objs.size h' F' (fun p hp' => ?_) nt (fun p hp' => ?_)
  · rcases List.mem_cons.mp hp' with rfl | hp'
    · exact ⟨he, Nat.ne_of_gt (Nat.lt_succ_of_lt nL), n0 _ (Nat.le_succ _)⟩
    rcases List.mem_cons.mp hp' with rfl | hp'
    · exact ⟨ht, Nat.ne_of_gt nL, n0 _ (Nat.le_refl _)⟩
    · exact ⟨up _ _ (N p hp').1, (N p hp').2⟩
  · rcases List.mem_cons.mp hp' with rfl | hp'
    · exact Nat.lt_succ_self _
    · exact Nat.lt_succ_of_lt (nt p hp')
/-- R2 -/
theorem method_excK {pl : Sem Bool} {Q : Value × List Value → Shared → Prop} (F : Fr h₀ L s.heap m) (X₀ : K.In h₀) (N : News h₀ L s.heap news) (hso : (so, ks_superObj D x C) ∈ news) (hx : (x, ox) ∈ news) (hxc : ox.cls = .ref C)
    (ho : nsIn K cStatics "thirdparty.any" = some none) (hC : excIn K C = true)
    (hm : ks_superIn K C D "__init__" = some (some (.builtin "Exception.__init__")))
    (h : ∀ q h', Fr h₀ L h' m → News h₀ L h' ((q, mwO x) :: news) → (∀ p ∈ news, p.1 < q) → Q (.ref q, []) { s with heap := h', toks := s.toks + 1 }) : wpAny (model prog w) A (getMethod (.ref so) "__init__" pl) Q E s := by
  have X : K.In s.heap := X₀.keeps F.keep
  obtain ⟨bm, hE⟩ := ownExc_of X hC
  obtain ⟨bm0, hE0⟩ := ownExc_of X₀ hC
  have hne : x ≠ C := by
    obtain ⟨_, _, _, _, _, _, _, _, _, _, _, _, _, _, _, z⟩ := hE0.cls
    intro e
    have z2 := (N _ hx).2.2
    dsimp only at z2
    rw [e, z] at z2
    cases z2
  obtain ⟨hh, g, d, t, os⟩ := s
  cases hc : clsIn K C with
  | none => unfold ks_superIn at hm; rw [hc] at hm; cases hm
  | some cd =>
    unfold ks_superIn at hm
    rw [hc] at hm
    have hlk := PySem.F.ks_slot_super_ga.lookup
    have hcan := PySem.F.ks_canon_super_ga
    have hT : ∀ t', (⟨hh, g, d, t', os⟩ : Shared).TypeIs (.ref so) "super" := fun _ => ⟨_, (N _ hso).1, rfl⟩
    have hmro : Looks (model prog w) hh (mroOf (.ref C)) cd.mro := fun A Q E s k q => wpAny_bind ((looks_clsIn X hc) A _ E s k (wpAny_pure q))
    have hq : Q (.ref hh.objs.size, []) ⟨hh.push (mwO x), g, d, t + 1, os⟩ := by
      obtain ⟨F', N', l'⟩ := ks_newsPush (s := ⟨hh, g, d, t, os⟩) (o := mwO x) F N rfl (Heap.get?_push_at rfl rfl) (fun b o e => Heap.get?_push_of_some _ e)
      exact h _ _ F' N' l'
    unfold getMethod
    refine wpAny_bind (wpAny_specialOf (hT _) hlk ?_)
    show wpAny _ _ (if (Manifest.canonical "super.__getattribute__" != "object.__getattribute__") = true then _ else _) _ _ _
    rw [if_pos hcan]
    unfold getAttr getAttrBy
    refine wpAny_bind (wpAny_bind (wpAny_mkText (wpAny_holding (wpAny_bind (wpAny_typeOf (hT _) (wpAny_bind (wpAny_of_eq hlk ?_)))))))
    show wpAny _ _ (getAttrByItsOwn (.ref so) (.str "__init__" t) (.type "super") (.builtin "super.__getattribute__") true false) _ _ _
    unfold getAttrByItsOwn hookBefore callGetattribute boundAndCalled
    refine wpAny_bind (wpAny_of_eq (show (if onTheHeap (.type "super") then typeLookup (.type "super") "__getattr__" else pure none) = pure none from rfl) ?_)
    refine wpAny_bind (wpAny_attempt (wpAny_holding ?_))
    show wpAny _ _ (bindSpecial (.builtin "super.__getattribute__") (.ref so) >>= _) _ _ _
    refine wpAny_bind (wpAny_of_eq (PySem.F.ks_slot_super_ga.bind _) ?_)
    refine wpAny_mono (Q := fun v s' => v = .ref hh.objs.size ∧ s' = ⟨hh.push (mwO x), g, d, t + 1, os⟩) (E := fun _ _ => False)
      (wpAny_call_entry PySem.F.ks_slot_super_ga (hT _) PySem.F.ks_entry_super_ga (super_gaE (N _ hso).1 (looks_opaque X ho) hmro rfl X hm hE (N _ hx).1 hxc hne ⟨_, rfl, rfl, rfl⟩) (PySem.F.ks_gaArgs_super _ _)) (fun v s' hv => ?_) fun _ _ z => z.elim
    obtain ⟨rfl, rfl⟩ := hv
    exact wpAny_pure (wpAny_pure hq)
end
end Mine
end

section
set_option maxRecDepth 100000
set_option linter.unusedVariables false
set_option Elab.async false
open PySem PySem.W PyProof.Rows PySem.Spec PySem.Calls PySem.Builtin PySem.Builtin.ObjectAttr
namespace Mine
section
variable {prog : Program} {w : World} {M : Model} {A : Around} {E : Value → Shared → Prop} {R : Result → Shared → Prop} {s : Shared} {K : Frag} {h₀ : Heap} {L C D x q so fI dx : Addr} {m : Str → Option Value} {news news' : List (Addr × Obj)} {ox : Obj} {od : Option Obj} {gN : Obj → List (Addr × Obj)}
theorem ledger_updF {h : Heap} {o o' : Obj} {f : Obj → Obj} (F : Fr h₀ L h m) (N : News h₀ L h news) (U : UpdF dx o news gN) (e : f o = o') (hf : o'.isFreed = false) : Fr h₀ L (h.update dx f) m ∧ News h₀ L (h.update dx f) (gN o') := by
  obtain ⟨pre, post, rfl, hg, a, b⟩ := U.split
  obtain ⟨U1, U2⟩ := news_upd F N a b e hf
  exact ⟨U1, by rw [hg]; exact U2⟩
theorem ledger_updF_mem {o o' : Obj} (U : UpdF dx o news gN) : (dx, o) ∈ news ∧ (dx, o') ∈ gN o' := by
  obtain ⟨pre, post, rfl, hg, a, b⟩ := U.split
  exact ⟨by simp, by rw [hg]; simp⟩
theorem updF_other {o o' : Obj} (U : UpdF dx o news gN) : (∀ p ∈ news, p.1 ≠ dx → p ∈ gN o') ∧ ∀ p ∈ gN o', p = (dx, o') ∨ (p ∈ news ∧ p.1 ≠ dx) := by
  obtain ⟨pre, post, rfl, hg, a, b⟩ := U.split
  rw [hg]
  refine ⟨fun p hp hne => ?_, fun p hp => ?_⟩
  · rcases List.mem_append.mp hp with h | h
    · exact List.mem_append_left _ h
    · rcases List.mem_cons.mp h with rfl | h
      · exact absurd rfl hne
      · exact List.mem_append_right _ (.tail _ h)
  · rcases List.mem_append.mp hp with h | h
    · exact .inr ⟨List.mem_append_left _ h, a p h⟩
    · rcases List.mem_cons.mp h with h | h
      · exact .inl h
      · exact .inr ⟨List.mem_append_right _ (.tail _ h), b p h⟩
/-- a fresh thing on the ledger -/
theorem push_led {o : Obj} (F : Fr h₀ L s.heap m) (N : News h₀ L s.heap news) (ho : o.isFreed = false) : Fr h₀ L (s.heap.push o) m ∧ News h₀ L (s.heap.push o) ((s.heap.objs.size, o) :: news) ∧ ∀ p ∈ news, p.1 < s.heap.objs.size :=
  ks_newsPush F N rfl (Heap.get?_push_at rfl ho) (fun b o e => Heap.get?_push_of_some _ e)
/-- R3: the bound __init__ is called -/
theorem call_mwK {t : Addr} {d : Option Addr} {v : Value} {Q : Value → Shared → Prop} (F : Fr h₀ L s.heap m) (X₀ : K.In h₀) (N : News h₀ L s.heap news) (hC : excIn K C = true) (hq : (q, mwO x) ∈ news) (U : UpdF x (excO C t d) news gN)
    (h : ∀ t' h' tk', Fr h₀ L h' m → News h₀ L h' ((t', tupO [v]) :: gN (excO C t' d)) → (∀ p ∈ news, p.1 < t') → Q .none { s with heap := h', toks := tk' }) : wpAny (model prog w) A (call (.ref q) [v]) Q E s := by
  have X : K.In s.heap := X₀.keeps F.keep
  obtain ⟨bm, hE⟩ := ownExc_of X hC
  have zx := (N _ (ledger_updF_mem (o' := excO C t d) U).1).1
  obtain ⟨P1, P2, P3⟩ := push_led (o := tupO [v]) F N rfl
  obtain ⟨hp, g, dr, tk, os⟩ := s
  dsimp only at P1 P2 P3 zx
  have hget : (hp.push (tupO [v])).get? x = some (excO C t d) := Heap.get?_push_of_some _ zx
  have hT : ∀ t', (⟨hp.push (tupO [v]), g, dr, t', os⟩ : Shared).heap.get? x = some (excO C t d) := fun _ => hget
  refine wpAny_call (codeAny_of_tree ?_)
  show wpAny _ A.in1 (callAny (.ref q) ⟨[v], []⟩) _ _ _
  simp only [callAny]
  refine wpAny_bind (wpAny_load (N _ hq).1 ?_)
  simp only [show (Value.type "method-wrapper" == Value.type "method" || Value.type "method-wrapper" == Value.type "builtin_function_or_method" || Value.type "method-wrapper" == Value.type "method-wrapper") = true by decide, if_true]
  refine KFB.if_so (by decide) ?_
  refine wpAny_bind (check_bei hE zx rfl ?_)
  refine wpAny_bind (wpAny_pure (wpAny_pure ⟨quiet_ei, codeAny_builtin FE.initEntry ?_⟩))
  unfold Builtin.«BaseException.__init__»
  have U' : UpdF x (excO C t d) ((hp.objs.size, tupO [v]) :: news) (fun o' => (hp.objs.size, tupO [v]) :: gN o') := .tail (Nat.ne_of_gt (Heap.lt_size zx)) U
  obtain ⟨F9, N9⟩ := ledger_updF (f := Obj.mapFields (·.setIfInBounds 0 (.ref hp.objs.size))) (o' := excO C hp.objs.size d) P1 P2 U' rfl rfl
  wp_walk
  refine h _ _ _ F9 N9 P3
def excTaker (K : Frag) (C : Addr) (name : Str) : Bool := takerIn K C name == some none
/-- the store of a thing's name, seen by its class -/
theorem osa_openE {name : Str} {tk : Tok} {v : Value} (X : K.In s.heap) (I : InstAt s.heap x ox C od) (hp : excOver K C = true) (ht : takerIn K C name = some none)
    (h : ∀ b, wpAny (model prog w) A.in1 (storeInOwnDict (.ref x) (.ref C) (.str name tk) name v b)
      (fun fin s' => match fin with | .done f => R (.ok f) s' | .again c' => c'.quiet = true ∧ codeAny (model prog w) A c' R s') (fun e s' => R (.error e) s') s) :
    codeAny (model prog w) A (.call (.builtin "object.__setattr__") ⟨[.ref x, .str name tk, v], []⟩) R s := by
  have SF := PySem.F.store_object
  obtain ⟨cd, hc, ho⟩ := any_some hp
  have ne : cd.mro.isEmpty = false := by cases q : cd.mro with | nil => rw [q] at ho; cases ho | cons _ _ => rfl
  have sub : Looks (model prog w) s.heap (isInstance (.ref x) (.type "object")) true := I.type.andThen (looks_mroIn X (by unfold mroIn; rw [hc, Option.bind_some, if_neg (by rw [ne]; decide), exc_has (T := "object") (b := true) (by decide) ho]))
  refine codeAny_call_builtin SF.slot.plain SF.entry (@check_slot (model prog w) _ _ s "object.__setattr__" "object" "__setattr__" (.ref x) [.str name tk, v] [] _ SF.kind SF.split sub (SF.args (.ref x) (.str name tk) v) ?_)
  obtain ⟨attr, ha, hr⟩ := Option.bind_eq_some_iff.mp ht
  have hm : Looks (model prog w) s.heap (mroOf (.ref C)) cd.mro := (looks_clsIn X hc).andThen .now
  have L3 : Looks (model prog w) s.heap (storeTaker? attr) none := by
    cases attr with
    | none => exact .now
    | some a =>
      obtain ⟨b, hb, hbe⟩ := Option.map_eq_some_iff.mp hr
      cases b with
      | true => cases hbe
      | false => exact (looks_takesIn X hb).andThen .now
  rw [osa_eq, refuse_eq]
  refine wpAny_bind (wpAny_bind (I.type.here (wpAny_bind (hm.here ?_))))
  rw [refuse_exc _ ho]
  refine wpAny_pure (wpAny_bind (I.type.here (wpAny_bind ((looks_findIn X ha).here (wpAny_bind (L3.here ?_))))))
  exact h _
/-- a store into a dict of the ledger -/
theorem store_dictK {es es' : List DictEntry} {n n' : Nat} {name : Str} {tk : Tok} {v : Value} {Q : Fin → Shared → Prop} (F : Fr h₀ L s.heap m) (N : News h₀ L s.heap news) (U : UpdF dx (dictOf es n) news gN)
    (hr : es.any (·.refKey) = false) (e : (putL name (PyData.keyHash w.params name) (.str name s.toks) v es, putN name es n) = (es', n')) (hz : es'.length ≤ 1000)
    (h : ∀ h', Fr h₀ L h' m → News h₀ L h' (gN (dictOf es' n')) → Q (.done (.ret .none)) { s with heap := h', toks := s.toks + 1 }) :
    wpAny (model prog w) A (storeInDict dx (.str name tk) name v) Q E s := by
  obtain ⟨e1, e2⟩ := Prod.mk.inj e
  obtain ⟨U1, U2⟩ := ledger_updF (f := Obj.putName name (PyData.keyHash w.params name) (.str name s.toks) v) (o' := dictOf es' n') F N U (by rw [putName_dict, e1, e2]) rfl
  have hd := (N _ (ledger_updF_mem (o' := dictOf es n) U).1).1
  have hd' := (U2 _ (ledger_updF_mem (o' := dictOf es' n') U).2).1
  obtain ⟨hp, g, dr, t, os⟩ := s
  unfold storeInDict newKeyGuard
  refine wpAny_bind (wpAny_pure (wpAny_bind ?_))
  unfold nsSet
  refine wpAny_bind (wpAny_bind (wpAny_askSetting (wpAny_pure (wpAny_bind (wpAny_mkText (wpAny_bind (wpAny_loadPart hd ?_)))))))
  have c : (!es.toArray.any (·.key.isStr name) && es.toArray.any (·.refKey)) = false := by
    rw [← Array.any_toList, ← Array.any_toList, hr, Bool.and_false]
  dsimp only [dictOf]
  rw [aRefKeyMayBeTheName_at, c]
  refine wpAny_updatePart hd ?_
  refine wpAny_bind (wpAny_lookBehind hd' (pastItsLine_dict (by rw [List.size_toArray, sizeLine_eq]; omega)) ?_)
  exact wpAny_pure (h _ U1 U2)
end
end Mine
end

section
set_option maxRecDepth 100000
set_option linter.unusedVariables false
set_option Elab.async false
open PySem PySem.W PyProof.Rows PySem.Spec PySem.Calls PySem.Builtin PySem.Builtin.ObjectAttr
namespace Mine
section
variable {prog : Program} {w : World} {M : Model} {A : Around} {E : Value → Shared → Prop} {R : Result → Shared → Prop} {s : Shared} {K : Frag} {h₀ : Heap} {L C D x q so fI dx : Addr} {m : Str → Option Value} {news news' : List (Addr × Obj)} {ox : Obj} {od : Option Obj} {gN : Obj → List (Addr × Obj)}
/-- R4a: the first name of a thing of an exception class -/
theorem set_exc1 {t : Addr} {name : Str} {v : Value} {Q : Unit → Shared → Prop} (F : Fr h₀ L s.heap m) (X₀ : K.In h₀) (N : News h₀ L s.heap news) (U : UpdF x (excO C t none) news gN)
    (hs : findIn K (.ref C) "__setattr__" = some (some (.builtin "object.__setattr__"))) (hp : excOver K C = true) (ht : takerIn K C name = some none) (hh : hasDictIn K C = true)
    (h : ∀ dx h' k1 tk', Fr h₀ L h' m → News h₀ L h' ((dx, dictOf [⟨PyData.keyHash w.params name, .str name k1, v⟩] 1) :: gN (excO C t (some dx))) → (∀ p ∈ news, p.1 < dx) → Q () { s with heap := h', toks := tk' }) :
    wpAny (model prog w) A (setAttr (.ref x) name v) Q E s := by
  have X : K.In s.heap := X₀.keeps F.keep
  have zx := (N _ (ledger_updF_mem (o' := excO C t none) U).1).1
  refine set_plain X (od := none) ⟨zx, rfl, rfl, trivial⟩ hs (osa_openE (od := none) (s := { s with toks := s.toks + 1 }) X ⟨zx, rfl, rfl, trivial⟩ hp ht fun b => ?_)
  obtain ⟨cd, hc, hd'⟩ := any_some hh
  obtain ⟨hp, g, dr, tk, os⟩ := s
  dsimp only at *
  obtain ⟨P1, P2, P3⟩ := push_led (s := ⟨hp, g, dr, tk, os⟩) (o := dictOf [] 0) F N rfl
  dsimp only at P1 P2 P3
  have hget : (hp.push (dictOf [] 0)).get? x = some (excO C t none) := Heap.get?_push_of_some _ zx
  have U' : UpdF x (excO C t none) ((hp.objs.size, dictOf [] 0) :: news) (fun o' => (hp.objs.size, dictOf [] 0) :: gN o') := .tail (Nat.ne_of_gt (Heap.lt_size zx)) U
  obtain ⟨F9, N9⟩ := ledger_updF (f := fun o => { o with dict := some hp.objs.size }) (o' := excO C t (some hp.objs.size)) P1 P2 U' rfl rfl
  unfold storeInOwnDict
  refine wpAny_bind (wpAny_pure (wpAny_bind (wpAny_bind (wpAny_loadPart zx (wpAny_bind ((looks_clsIn X hc).here ?_))))))
  rw [hd']
  show wpAny _ _ (do let d ← alloc { cls := .type "dict", data := .dict #[] }; update x fun o => { o with dict := some d }; dictMade (.ref C) x d) _ _ _
  refine wpAny_bind (wpAny_alloc' ?_)
  refine wpAny_bind (wpAny_update' hget ?_)
  refine wpAny_pure ?_
  refine store_dictK (s := ⟨_, g, dr, tk + 1, os⟩) (es := []) (n := 0) F9 N9 (.head fun p hp' => ?_) rfl rfl (by show (1 : Nat) ≤ 1000; decide) fun h' F' N' => h _ h' _ _ F' N' P3
  rcases (updF_other (o' := excO C t (some hp.objs.size)) U).2 p hp' with rfl | ⟨hm, _⟩
  · exact Nat.ne_of_lt (Heap.lt_size zx)
  · exact Nat.ne_of_lt (P3 p hm)
/-- R4b: a further name -/
theorem set_exc2 {t : Addr} {es : List DictEntry} {n : Nat} {name : Str} {v : Value} {Q : Unit → Shared → Prop} (F : Fr h₀ L s.heap m) (X₀ : K.In h₀) (N : News h₀ L s.heap news) (hx : (x, excO C t (some dx)) ∈ news) (U : UpdF dx (dictOf es n) news gN)
    (hs : findIn K (.ref C) "__setattr__" = some (some (.builtin "object.__setattr__"))) (hp : excOver K C = true) (ht : takerIn K C name = some none) (hh : hasDictIn K C = true)
    (hr : es.any (·.refKey) = false) (hz : es.length ≤ 900)
    (h : ∀ h' k1 tk', Fr h₀ L h' m → News h₀ L h' (gN (dictOf (putL name (PyData.keyHash w.params name) (.str name k1) v es) (putN name es n))) → Q () { s with heap := h', toks := tk' }) :
    wpAny (model prog w) A (setAttr (.ref x) name v) Q E s := by
  have X : K.In s.heap := X₀.keeps F.keep
  have zx := (N _ hx).1
  have zd := (N _ (ledger_updF_mem (o' := dictOf es n) U).1).1
  refine set_plain X (od := some (dictOf es n)) ⟨zx, rfl, rfl, zd⟩ hs (osa_openE (od := some (dictOf es n)) (s := { s with toks := s.toks + 1 }) X ⟨zx, rfl, rfl, zd⟩ hp ht fun b => ?_)
  obtain ⟨cd, hc, hd'⟩ := any_some hh
  obtain ⟨hp, g, dr, tk, os⟩ := s
  dsimp only at *
  unfold storeInOwnDict
  refine wpAny_bind (wpAny_pure (wpAny_bind (wpAny_bind (wpAny_loadPart zx (wpAny_bind ((looks_clsIn X hc).here ?_))))))
  rw [hd']
  refine wpAny_pure ?_
  have hl : (putL name (PyData.keyHash w.params name) (.str name (tk + 1)) v es).length ≤ es.length + 1 := by
    clear h hr hz zd U
    induction es with
    | nil => exact Nat.le_refl _
    | cons a r ih =>
      unfold putL
      split <;> simp only [List.length_cons] <;> omega
  exact store_dictK (s := ⟨_, g, dr, tk + 1, os⟩) F N U hr rfl (Nat.le_trans hl (by omega)) fun h' F' N' => h _ _ _ F' N'
/-- what a raise wants of a value -/
def RaiseOk (K : Frag) (v : Value) (s : Shared) (P : Prop) : Prop :=
  ∃ e C oe vs, v = .ref e ∧ K.In s.heap ∧ excIn K C = true ∧ s.heap.get? e = some oe ∧ oe.cls = .ref C ∧ oe.data = .fields vs ∧ vs[1]? = some .none ∧ P
theorem RaiseOk.intro {t : Addr} {d : Option Addr} {P : Prop} (F : Fr h₀ L s.heap m) (X₀ : K.In h₀) (N : News h₀ L s.heap news) (hx : (x, excO C t d) ∈ news) (hC : excIn K C = true) (h : P) : RaiseOk K (.ref x) s P :=
  ⟨x, C, _, _, rfl, X₀.keeps F.keep, hC, (N _ hx).1, rfl, rfl, rfl, h⟩
theorem isInst_base {bm : List Value} {Q : Bool → Shared → Prop} {hp : Heap} {g : Array GenState} {d : Drawn} {t : Nat} {os : OsState} (hC : OwnExc hp C bm) (hx : hp.get? x = some ox) (hc : ox.cls = .ref C) (hq : Q true ⟨hp, g, d, t, os⟩) : wpAny M A (isInstance (.ref x) (.type "BaseException")) Q E ⟨hp, g, d, t, os⟩ := by
  obtain ⟨⟨nm, q, N, bs, hdct, sn, sub, ab, col, dd, k0, k1, k2, k3, k5, hC⟩, he, hb, ha, hn⟩ := hC
  have hcont : (Value.ref C :: bm).contains (.type "BaseException") = true := by rw [List.contains_cons, hb, Bool.or_true]
  unfold isInstance
  repeat (first | (with_reducible refine wpAny_loadPart_at hx ?_; rw [hc]) | (with_reducible refine wpAny_isSubtype_exc hC ?_; rw [hcont]) | wp_step)
  exact hq
/-- R5: raise, of a value that a tree makes -/
theorem raise_ownK {env : Env} {cx : Expr} {pos : Pos} {Q : Flow → Shared → Prop} (hh : A.handled = none) (h : wpAny (model prog w) A (eval cx env) (fun v s₁ => RaiseOk K v s₁ (E v s₁)) E s) :
    wpAny (model prog w) A (exec (.Raise (some cx) none pos) env) Q E s := by
  rw [arm_exec_Raise]
  refine wpAny_bind (wpAny_standAt ?_)
  show wpAny _ _ (raiseStmt env (some (do let v ← eval cx env; standAt pos; pure v)) none) _ _ _
  unfold raiseStmt
  refine wpAny_bind (wpAny_bind (wpAny_mono h (fun v s₁ h₁ => ?_) fun _ _ z => z))
  refine wpAny_bind (wpAny_standAt (wpAny_pure ?_))
  obtain ⟨e, C, oe, vs, rfl, X, hC, hx, hc, hd, h1, hP⟩ := h₁
  obtain ⟨bm, hE⟩ := ownExc_of X hC
  obtain ⟨hp, g, d, tk, os⟩ := s₁
  obtain ⟨nm, q, Nn, bs, hdct, sn, sub, ab, col, dd, k0, k1, k2, k3, k5, hC1⟩ := hE.cls
  refine wpAny_bind (wpAny_pure ?_)
  have hnc : ∀ c, oe.data ≠ .cls c := fun c z => by rw [hd] at z; cases z
  refine wpAny_bind (wpAny_holding ?_)
  unfold excFromValue isExcClass
  refine wpAny_bind (wpAny_bind (ks_wpAny_isType_inst hx hnc ?_))
  rw [if_neg (by decide)]
  refine wpAny_pure ?_
  rw [if_neg (by decide)]
  refine wpAny_bind (isInst_base hE hx hc ?_)
  rw [if_pos rfl]
  refine wpAny_pure ?_
  dsimp only
  refine wpAny_bind (ks_wpAny_isType_inst hx hnc ?_)
  rw [if_neg (by decide)]
  unfold raisedInstance
  have hTC : (⟨hp, g, d, tk, os⟩ : Shared).TypeIs (.ref C) "type" := ⟨_, hC1, rfl⟩
  refine wpAny_bind (wpAny_bind (m := typeOf (.ref e)) ?_)
  show wpAny _ _ (loadPart e (some headPart) >>= fun o => pure o.cls) _ _ _
  refine wpAny_bind (wpAny_loadPart_at hx (wpAny_pure ?_))
  rw [hc]
  refine wpAny_bind (wpAny_typeOf hTC ?_)
  rw [if_pos (by decide)]
  refine wpAny_pure ?_
  unfold setFlight
  refine wpAny_bind (wpAny_bind (wpAny_field hx hd h1 ?_))
  rw [if_neg (by decide)]
  refine wpAny_pure ?_
  exact wpAny_raiseNew_none hh hP
end
section
variable {M : Model} {A : Around} {E : Value → Shared → Prop} {s' : Shared} {base g : Heap} {outer : List Env} {L a e t C : Addr} {m : Str → Option Value} {name : Str} {scope : Scope} {cd : Value} {Q : Unit → Shared → Prop} {news : List (Addr × Obj)}
/-- R6: a thing that was raised leaves the frame that raised it -/
theorem leave_excS {d : Option Addr} {vs : List Value} (K : Below A base outer g) (F : Fr g L s'.heap m) (N : News g L s'.heap ((e, excO C t d) :: (t, tupO vs) :: news)) (off : ∀ p ∈ news, p.1 ≠ e ∧ p.1 ≠ t) (het : e ≠ t)
    (hQ : ∀ h', RaisedS base g outer e (.ref C) t vs news h' → RaisedK base outer e (.ref C) t vs news h' → g.UpToSlots h' → Q () { s' with heap := h' }) (hk : scope.kind = .function := by rfl) :
    wpAny M (A.deeper (envOf name scope L a cd)) (leaving (envOf name scope L a cd) (.ref e)) Q E s' := by
  have K' := K.push (name := name) (a := a) (cd := cd) F hk
  obtain ⟨he, heL, hen⟩ := N (e, excO C t d) (List.mem_cons_self ..)
  obtain ⟨ht, htL, htn⟩ := N (t, tupO vs) (List.mem_cons_of_mem _ (List.mem_cons_self ..))
  dsimp only at he heL hen ht htL htn
  have Nn : News g L s'.heap news := fun p hp => N p (List.mem_cons_of_mem _ (List.mem_cons_of_mem _ hp))
  have hin : ∀ env ∈ (envOf name scope L a cd :: outer), ∀ b, env.frame = some b → b ∈ e :: t :: (envOf name scope L a cd :: outer).filterMap (·.frame) := fun env he b hb => .tail _ (.tail _ (List.mem_filterMap.mpr ⟨env, he, hb⟩))
  have bn : ∀ b, g.get? b = none → base.get? b = none := fun b h => fresh_of_stays K.stays h
  have st : base.StaysIn (hideAll s'.heap (e :: t :: (envOf name scope L a cd :: outer).filterMap (·.frame))) := fun b o q => hideAll_get _ (K'.stays b o q) fun hm => by
    rcases List.mem_cons.mp hm with rfl | hm
    · rw [bn _ hen] at q; cases q
    rcases List.mem_cons.mp hm with rfl | hm
    · rw [bn _ htn] at q; cases q
    · rw [(K'.frames.mem hm).1] at q; cases q
  have sg : ∀ b o, g.get? b = some o → b ∉ outer.filterMap (·.frame) → (hideAll s'.heap (e :: t :: (envOf name scope L a cd :: outer).filterMap (·.frame))).get? b = some o := fun b o q nm => hideAll_get _ (F.keep b o q) fun hm => by
    rcases List.mem_cons.mp hm with rfl | hm
    · rw [hen] at q; cases q
    rcases List.mem_cons.mp hm with rfl | hm
    · rw [htn] at q; cases q
    · rcases kts_mem hm with z | z
      · rw [z, kts_self F] at q
        cases q
      · exact nm z
  have hl : ∀ q ∈ news, (hideAll s'.heap (e :: t :: (envOf name scope L a cd :: outer).filterMap (·.frame))).get? q.1 = some q.2 ∧ g.get? q.1 = none ∧ base.get? q.1 = none := fun q hq => by
    refine ⟨hideAll_get _ (Nn q hq).1 fun hm => ?_, (Nn q hq).2.2, bn _ (Nn q hq).2.2⟩
    rcases List.mem_cons.mp hm with z | hm
    · exact (off q hq).1 z
    rcases List.mem_cons.mp hm with z | hm
    · exact (off q hq).2 z
    obtain ⟨env, he', hf⟩ := List.mem_filterMap.mp hm
    rcases List.mem_cons.mp he' with rfl | he'
    · exact (Nn q hq).2.1 (Option.some.inj hf).symm
    · obtain ⟨o, ho, _⟩ := (K.frames.mem (List.mem_filterMap.mpr ⟨env, he', hf⟩)).2
      rw [(Nn q hq).2.2] at ho; cases ho
  have hBe : (hideAll s'.heap (e :: t :: (envOf name scope L a cd :: outer).filterMap (·.frame))).get? e = none := hideAll_none _ (.head _)
  have hBt : (hideAll s'.heap (e :: t :: (envOf name scope L a cd :: outer).filterMap (·.frame))).get? t = none := hideAll_none _ (.tail _ (.head _))
  refine wpAny_leaving_firstW (base := hideAll s'.heap (e :: t :: (envOf name scope L a cd :: outer).filterMap (·.frame))) (a0 := .ref t) K'.stack (funFrames_hide K'.frames hin) rfl he (fun b o hb => of_hideAll _ hb) hBe rfl rfl rfl fun h' hL => ?_
  obtain ⟨k1, ⟨_, _, k2⟩, k3, k4⟩ := hL
  have R : RaisedS base g outer e (.ref C) t vs news h' := ⟨⟨_, st, sg, hl, ⟨k1, hBe, k2, k3⟩, hBt⟩, Heap.TupAt.of_slots ⟨_, _, ht, rfl, rfl⟩ k4⟩
  exact hQ h' R R.toK ((Heap.UpToSlots.of_keeps F.keep).trans k4)
end
section
variable {M : Model} {A : Around} {E : Value → Shared → Prop} {s : Shared} {q x : Addr}
theorem callWith_mwf {pos : Pos} {first : List Value} {args : List (Bool × Sem Value)} {Q : Value → Shared → Prop} (hplain : args.any (·.1) = false)
    (h : wpAny M A (evalArgs (.ref q) true args []) (fun y s₁ => s₁.heap.get? q = some (mwO x) ∧ wpAny M A (call (.ref q) (first ++ y.pos) y.kw) Q E s₁) E s) : wpAny M A (callWith pos (.ref q) first args []) Q E s := by
  unfold callWith
  refine wpAny_bind (wpAny_holding (wpAny_mono h (fun y s₁ h₁ => wpAny_bind (wpAny_standAt ?_)) fun _ _ z => z))
  obtain ⟨ho, hcall⟩ := h₁
  simp only [hplain, List.any_nil, Bool.or_false]
  refine wpAny_bind (m := keeperOf (.ref q)) ?_
  unfold keeperOf
  refine wpAny_bind (wpAny_load ho ?_)
  simp only [show (Value.type "method-wrapper" != Value.type "method") = true by decide, show (Value.type "method-wrapper" == Value.type "builtin_function_or_method" || Value.type "method-wrapper" == Value.type "method-wrapper") = true by decide, if_true]
  refine wpAny_pure ?_
  exact wpAny_bind (wpAny_mono hcall (fun r s₂ hr => wpAny_bind (wpAny_holding (wpAny_point (wpAny_pure hr)))) fun _ _ z => z)
theorem callWith_mw {pos : Pos} {first : List Value} {env : Env} {e : Expr} {rest : List Expr} {Q : Value → Shared → Prop}
    (h : wpAny M A (spliced (backTo pos (starEach (e :: rest) env))) (fun vs s₁ => s₁.heap.get? q = some (mwO x) ∧ wpAny M A (call (.ref q) (first ++ vs)) Q E s₁) E s)
    (he : starEach (e :: rest) env = (false, eval e env) :: starEach rest env := by rfl) (hplain : (backTo pos (starEach rest env)).any (·.1) = false := by rfl) :
    wpAny M A (callWith pos (.ref q) first (backTo pos (starEach (e :: rest) env)) []) Q E s := by
  rw [he] at h ⊢
  refine callWith_mwf (x := x) (by show (false || (backTo pos (starEach rest env)).any (·.1)) = false; rw [hplain]; rfl) ?_
  exact evalArgs_plain h
end
theorem RaisedS.sub {base G : Heap} {l : List Env} {e t : Addr} {cls : Value} {vs : List Value} {news news' : List (Addr × Obj)} {h : Heap} (R : RaisedS base G l e cls t vs news h) (k : ∀ p ∈ news', p ∈ news) : RaisedS base G l e cls t vs news' h :=
  let ⟨⟨B, a, b, c, d, e⟩, f⟩ := R; ⟨⟨B, a, b, fun q hq => c q (k q hq), d, e⟩, f⟩
theorem off_both {e t : Addr} {r : List (Addr × Obj)} (h1 : ∀ p ∈ r, p.1 < t) (h2 : ∀ p ∈ r, p.1 < e) : ∀ p ∈ r, p.1 ≠ e ∧ p.1 ≠ t := fun p hp => ⟨Nat.ne_of_lt (h2 p hp), Nat.ne_of_lt (h1 p hp)⟩
end Mine
end

section
open PySem PySem.W PyProof.Rows PySem.Spec PySem.Calls Rlp
set_option Elab.async false
set_option maxRecDepth 100000
set_option maxHeartbeats 0
set_option linter.unusedVariables false
namespace Mine
theorem fillKE : (fun (_ : OpenLaw) (_ : Params → Frag) => True) PySem.Challenge.rw_bi0020_01 K := by
  k_fill
  trivial
theorem exc74 (P : Params) : excIn (K P) 74 = true := by kernel_rfl
theorem over74 (P : Params) : excOver (K P) 74 = true := by kernel_rfl
section
variable {w : World} {p : Program} {loose : List Str} {mean : ExcName → Option Value} {mg mb : Str → Option Value} {dp un : Nat} {gd : Option (List Code)} {ev : Env} {outer : List Env} {A₀ : Around} {base h₀ : Heap} {L : Addr} {m : Str → Option Value} {news : List (Addr × Obj)} {s : Shared} {Q E : Value → Shared → Prop}
theorem raise_row {A : Around} {env : Env} {cx : Expr} {pos : Pos} {Q : Flow → Shared → Prop} (hh : A.handled = none) (h : wpAny (model pg w) A (eval cx env) (fun v s₁ => RaiseOk (K w.params) v s₁ (E v s₁)) E s) :
    wpAny (model pg w) A (exec (.Raise (some cx) none pos) env) Q E s := raise_ownK hh h
local macro_rules | `(tactic| walk_at "getMethod ref") => `(tactic| ((with_reducible show wpAny _ _ (getMethod (Value.ref _) _ _) _ _ _); k_dflt (refine' method_excK ?k1 ?k2 ?k3 ?k4 ?k5 ?k6 ?k7 ?k8 ?k9 ?_; (case k1 => k_asm); (case k2 => k_asm); (case k3 => k_asm); (case k4 => k_mem); (case k5 => k_mem); (case k6 => rfl); (case k7 => k_is); (case k8 => exact exc74 _); (case k9 => ks_is); intro q' h' F' N' l1; (try k_lt l1))))
local macro_rules | `(tactic| k_all) => `(tactic| assumption)
theorem mk_DE {msg : Str} {v : Value} {u : Tok}
    (B : Below A₀ base outer h₀) (F : Fr h₀ L s.heap m) (X : (K w.params).In h₀) (N : News h₀ L s.heap news) (T : Top p loose mean mg mb h₀) (hk : ev.scope.kind = .function ∧ ev.frame = some L)
    (hd : dp + 20 < recursionLimit) (hu : un + 60 < cLine)
    (hret : ∀ e t d h' tk', Fr h₀ L h' m → News h₀ L h' ((e, excO 74 t (some d)) :: (t, tupO [.str msg u]) :: news) → (∀ p ∈ news, p.1 < t) → (∀ p ∈ news, p.1 < e) → e ≠ t → Q (.ref e) { s with heap := h', toks := tk' }) :
    wpAny (model pg w) (ktrE dp un gd ev outer) (call (.ref 74) [.str msg u, v]) Q E s := by
  k_dflt (refine' call_excK (fI := 71) (K := K w.params) F X N ?k4 ?k5 ?k6 ?k7 ?_; (case k4 => exact exc74 _); (case k5 => k_is); (case k6 => k_is); (case k7 => exact Nat.le_of_ble_eq_true rfl))
  intro e t h1 F1 N1 l1 l2
  have l1' := l1
  have l2' := l2
  have hne : ∀ p ∈ news, p.1 ≠ e := fun p hp => Nat.ne_of_lt (l2' p (.tail _ hp))
  have hte : t < e := l2' _ (.head _)
  (try k_lt l1)
  (try k_lt l2)
  refine wpAny_call ?_
  k_dflt (refine' ks_code_super ?k1 ?k2 ?k3 ?k4 ?k5 ?kA ?kF ?kK ?k6 ?k7 ?k8 ?k9 ?kB ?_ ?c1 ?c2 ?c3 ?c4; (case kA => exact rfl); (case kF => exact hk.2); (case kK => exact hk.1); (case k1 => k_asm); (case k2 => k_asm); (case k3 => k_asm); (case k4 => k_asm); (case k5 => k_asm); (case k6 => k_is); (case k7 => k_is); (case k8 => ktr_room); (case k9 => exact BindsTo.of_eq rfl); (case kB => exact locs rfl); (case c1 => decide); (case c2 => exact rfl); (case c3 => exact rfl); (case c4 => exact rfl))
  intro g' L' h' FG' F' N' B' X' T' l3
  (try k_lt l3)
  k_steps
  k_dflt (refine ks_node (x := e) (C := 74) (D := 74) (by k_asm) (by k_asm) (by k_asm) (by k_asm) (by k_is) (by rfl) (by rfl) (odx := none) ⟨(N' _ (.head _)).1, rfl, rfl, trivial⟩ (by k_is) (by rfl) (by first | rfl | decide +kernel) (by k_is) (by k_is) (by k_is) (by k_is) (by decide) (by rfl) (by rfl) (by rfl) (by rfl) (by decide +kernel) (by first | boot_by_name | rfl | kernel_rfl) ?_)
  intro so h2 F2 N2 l4
  (try k_lt l4)
  k_steps
  rename_i q h3 F3 N3 l5
  refine callWith_mw (x := e) ?_
  k_steps
  · exact (N3 _ (.head _)).1
  k_dflt (refine' call_mwK (x := e) (C := 74) (t := t) (d := none) ?k1 ?k2 ?k3 ?k4 ?k5 ?k6 ?_; (case k1 => k_asm); (case k2 => k_asm); (case k3 => k_asm); (case k4 => exact exc74 _); (case k5 => k_mem); (case k6 => k_updF))
  intro t2 h4 tk4 F4 N4 l6
  have l6' := l6
  (try k_lt l6)
  k_steps
  k_dflt (refine' set_exc1 (x := e) (C := 74) (t := t2) ?k1 ?k2 ?k3 ?k4 ?k5 ?k6 ?k7 ?k8 ?_; (case k1 => k_asm); (case k2 => k_asm); (case k3 => k_asm); (case k4 => k_updF); (case k5 => k_is); (case k6 => exact over74 _); (case k7 => k_is); (case k8 => k_is))
  intro dx h5 k1 tk5 F5 N5 l7
  (try k_lt l7)
  k_steps
  refine hret e t2 dx _ _ (by k_asm) (News.sub (by k_asm) fun p hp => ?_) (fun p hp => l6' p (.tail _ (.tail _ (.tail _ (.tail _ hp))))) (fun p hp => l2' p (.tail _ hp)) (Nat.ne_of_lt l6.2.2.1)
  rcases List.mem_cons.mp hp with rfl | hp
  · exact .tail _ (.tail _ (.tail _ (.tail _ (.head _))))
  rcases List.mem_cons.mp hp with rfl | hp
  · exact .tail _ (.head _)
  · exact .tail _ (.tail _ (.tail _ (.tail _ (.tail _ (.tail _ hp)))))
end
end Mine
end

section
open PySem PySem.W PyProof.Rows PySem.Spec PySem.Calls Rlp
set_option Elab.async false
set_option maxRecDepth 100000
set_option maxHeartbeats 1500000
set_option linter.unusedVariables false
namespace Mine
theorem fillKF : (fun (_ : OpenLaw) (_ : Params → Frag) => True) PySem.Challenge.rw_bi0020_01 K := by
  k_fill
  trivial
local macro_rules | `(tactic| walk_at "ENTER0") => `(tactic| (refine wpAny_call ?_; k_dflt (refine' code_def ?k1 ?k2 ?k3 ?k4 ?k5 ?kA ?kF ?kK ?k6 ?k7 ?k8 ?k9 ?kB ?_ ?c2 ?c3 ?c4 ?c5; (case kA => exact rfl); (case kF => exact And.right (by assumption)); (case kK => exact And.left (by assumption)); (case k1 => k_asm); (case k2 => k_asm); (case k3 => k_asm); (case k4 => k_asm); (case k5 => k_asm); (case k6 => k_is); (case k7 => k_is); (case k8 => ktr_room); (case k9 => first | exact BindsTo.of_eq rfl | exact binds_K (by k_in) rfl (by k_is) rfl rfl rfl); (case c5 => decide); (case kB => exact locs rfl); (case c2 => exact rfl); (case c3 => exact rfl); (case c4 => exact rfl); k_whole; intro g' L' h' FG' F' N' B' X' T'; (try dsimp only); (try k_fold))))
local macro_rules | `(tactic| walk_at "ENTER") => `(tactic| (walk_at "ENTER0"; k_steps))
local macro_rules | `(tactic| walk_at "bsz") => `(tactic| ((try simp only [List.size_toArray, List.length_append, List.length_cons, List.length_nil, be_length, beK_length, slice_length]); omega))
local macro_rules | `(tactic| walk_at "call builtin:len") => `(tactic| ((with_reducible show wpAny _ _ (call (Value.builtin _) [Value.bytes (List.toArray _) _]) _ _ _); refine len_bytes (by walk_at "bsz") ?_; (try simp only [List.size_toArray, be_length])))
local macro_rules | `(tactic| walk_at "binaryOp Add bytes bytes") => `(tactic| ((with_reducible show wpAny _ _ (binaryOp Operator.Add (Value.bytes (List.toArray _) _) (Value.bytes (List.toArray _) _)) _ _ _); refine KBy.add_bytes (by walk_at "bsz") ?_; intro _ _; (try simp only [List.append_toArray, List.cons_append, List.nil_append])))
local macro_rules | `(tactic| walk_at "subscriptTail") => `(tactic| ((with_reducible show wpAny _ _ (subscriptTail _ _ (Value.bytes (List.toArray _) _) (Value.ref _)) _ _ _); refine slice_int (s := ⟨_, _, _, _, _⟩) (by k_asm) (by k_asm) (by omega) (by omega) (by omega) ?_; intro _ _ _ _ _))
local macro_rules | `(tactic| walk_at "dp") => `(tactic| ((show _ + _ < _); simp only [ktr_dp, ktr_un]; omega))
local macro_rules | `(tactic| walk_at "call ref") => `(tactic| ((with_reducible show wpAny _ _ (call (Value.ref 1464) _) _ _ _); (k_dflt (refine' b2i ?k1 ?k2 ?k3 ?k4 ?k5 ?k6 ?k7 ?k8 ?k9 ?_; (case k1 => k_asm); (case k2 => k_asm); (case k3 => k_asm); (case k4 => k_asm); (case k5 => k_asm); (case k6 => exact ⟨rfl, rfl⟩); (case k7 => walk_at "dp"); (case k8 => walk_at "dp"); (case k9 => walk_at "bsz"))); intro _ _ _ _ _))
local macro_rules | `(tactic| walk_at "call ref") => `(tactic| ((with_reducible show wpAny _ _ (call (Value.ref 1736) _) _ _ _); (k_dflt (refine' clp_ok ?k1 ?k2 ?k3 ?k4 ?k5 ?k6 ?k7 ?k8 ?k9 ?k0 ?_; (case k1 => k_asm); (case k2 => k_asm); (case k3 => k_asm); (case k4 => k_asm); (case k5 => k_asm); (case k6 => exact ⟨rfl, rfl⟩); (case k7 => walk_at "dp"); (case k8 => walk_at "dp"); (case k9 => walk_at "bsz"); (case k0 => assumption))); intro _ _ _ _ _ _ _ _ _ _))
local macro_rules | `(tactic| walk_at "call ref") => `(tactic| ((with_reducible show wpAny _ _ (call (Value.ref 1457) _) _ _ _); (k_dflt (refine' is_b ?k1 ?k2 ?k3 ?k4 ?k5 ?k6 ?k7 ?k8 ?_; (case k1 => k_asm); (case k2 => k_asm); (case k3 => k_asm); (case k4 => k_asm); (case k5 => k_asm); (case k6 => exact ⟨rfl, rfl⟩); (case k7 => walk_at "dp"); (case k8 => walk_at "dp"))); intro _ _ _ _))
local macro_rules | `(tactic| walk_at "call ref") => `(tactic| ((with_reducible show wpAny _ _ (call (Value.ref 1714) _) _ _ _); (k_dflt (refine' dr_ok ?k1 ?k2 ?k3 ?k4 ?k5 ?k6 ?k7 ?k8 ?k9 ?ka ?kb ?_; (case k1 => k_asm); (case k2 => k_asm); (case k3 => k_asm); (case k4 => k_asm); (case k5 => k_asm); (case ka => assumption); (case kb => assumption); (case k6 => exact ⟨rfl, rfl⟩); (case k7 => walk_at "dp"); (case k8 => walk_at "dp"); (case k9 => assumption))); intro _ _ _ _ _ _ _ _ _ _ _ _ _ _ _))
local macro_rules | `(tactic| walk_at "call ref") => `(tactic| ((with_reducible show wpAny _ _ (call (Value.ref 1500) [Value.ref 1509, _]) _ _ _); (k_dflt (refine' des_plain ?k1 ?k2 ?k3 ?k4 ?k5 ?k6 ?k7 ?k8 ?k9 ?k0 ?_; (case k1 => k_asm); (case k2 => k_asm); (case k3 => k_asm); (case k4 => k_asm); (case k5 => k_asm); (case k6 => exact ⟨rfl, rfl⟩); (case k7 => walk_at "dp"); (case k8 => walk_at "dp"); (case k9 => walk_at "bsz"); (case k0 => assumption))); intro _ _ _ _ _))
local macro_rules | `(tactic| walk_at "call ref") => `(tactic| ((with_reducible show wpAny _ _ (call (Value.ref 1750) _) _ _ _); (k_dflt (refine' it_ok ?k1 ?k2 ?k3 ?k4 ?k5 ?k6 ?k7 ?k8 ?k9 ?ka ?_; (case k1 => k_asm); (case k2 => k_asm); (case k3 => k_asm); (case k4 => k_asm); (case k5 => k_asm); (case ka => assumption); (case k6 => exact ⟨rfl, rfl⟩); (case k7 => walk_at "dp"); (case k8 => walk_at "dp"); (case k9 => assumption))); intro _ _ _ _ _ _ _ _ _ _ _ _ _ _ _ _))
local macro_rules | `(tactic| walk_at "exec Raise some none") => `(tactic| (k_here; (with_reducible show wpAny _ _ (exec (Stmt.Raise (some _) none _) _) _ _ _); k_dflt (refine raise_row rfl ?_)))
local macro_rules | `(tactic| walk_at "call ref") => `(tactic| ((with_reducible show wpAny _ _ (call (Value.ref 74) [_, _]) _ _ _); (k_dflt (refine' mk_DE ?k1 ?k2 ?k3 ?k4 ?k5 ?k6 ?k7 ?k8 ?_; (case k1 => k_asm); (case k2 => k_asm); (case k3 => k_asm); (case k4 => k_asm); (case k5 => k_asm); (case k6 => exact ⟨rfl, rfl⟩); (case k7 => walk_at "dp"); (case k8 => walk_at "dp"))); intro _ _ _ _ _ _ _ _ _ _; refine RaiseOk.intro (by k_asm) (by k_asm) (by k_asm) (.head _) (exc74 _) ?_))
local macro_rules | `(tactic| walk_at "leaving ref") => `(tactic| ((with_reducible show wpAny _ _ (leaving _ (Value.ref _)) _ _ _); (refine' leave_excS ?k1 ?k2 ?k3 ?k4 ?k5 ?_; (case k1 => assumption); (case k2 => assumption); (case k3 => k_asm); (case k4 => exact off_both (by assumption) (by assumption)); (case k5 => assumption)); intro _ _ _ _))
theorem joinAnd_nil {M : Model} {A : Around} {E : Value → Shared → Prop} {s : Shared} {a b : Str} {Q : Value → Shared → Prop} (h : PySem.Str.length (a ++ b) ≤ sizeLine) (k : ∀ out tk k', Q (.str out tk) { s with toks := k' }) :
    PySem.Str.length (a ++ b) ≤ sizeLine ∧ wpAny M A (joinParts (a ++ b) []) Q E s := ⟨h, joinParts_nil (k _ _ _) h⟩
theorem joinAnd_nilE {M : Model} {A : Around} {E : Value → Shared → Prop} {s : Shared} {a b : Str} {env : Env} {Q : Value → Shared → Prop} (h : PySem.Str.length (a ++ b) ≤ sizeLine) (k : ∀ out tk k', Q (.str out tk) { s with toks := k' }) :
    PySem.Str.length (a ++ b) ≤ sizeLine ∧ wpAny M A (joinParts (a ++ b) (evalEach [] env)) Q E s := ⟨h, joinParts_nil (k _ _ _) h⟩
local macro_rules | `(tactic| walk_at "And") => `(tactic| first | ((with_reducible show PySem.Str.length (_ ++ _) ≤ sizeLine ∧ wpAny _ _ (joinParts _ []) _ _ _); refine joinAnd_nil (by size_fits) ?_; intro _ _ _) | ((with_reducible show PySem.Str.length (_ ++ _) ≤ sizeLine ∧ wpAny _ _ (joinParts _ (evalEach [] _)) _ _ _); refine joinAnd_nilE (by size_fits) ?_; intro _ _ _))
section
variable {w : World} {p : Program} {loose : List Str} {mean : ExcName → Option Value} {mg mb : Str → Option Value} {dp un : Nat} {gd : Option (List Code)} {ev : Env} {outer : List Env} {A₀ : Around} {base h₀ : Heap} {L : Addr} {m : Str → Option Value} {news : List (Addr × Obj)} {s : Shared} {Q E : Value → Shared → Prop}
end
end Mine
end

section
open PySem PySem.W PyProof.Rows PySem.Spec PySem.Calls Rlp
set_option Elab.async false
set_option maxRecDepth 100000
set_option maxHeartbeats 1500000
set_option linter.unusedVariables false
namespace Mine
theorem fillKI : (fun (_ : OpenLaw) (_ : Params → Frag) => True) PySem.Challenge.rw_bi0020_01 K := by
  k_fill
  trivial
local macro_rules | `(tactic| walk_at "ENTER0") => `(tactic| (refine wpAny_call ?_; k_dflt (refine' code_def ?k1 ?k2 ?k3 ?k4 ?k5 ?kA ?kF ?kK ?k6 ?k7 ?k8 ?k9 ?kB ?_ ?c2 ?c3 ?c4 ?c5; (case kA => exact rfl); (case kF => exact And.right (by assumption)); (case kK => exact And.left (by assumption)); (case k1 => k_asm); (case k2 => k_asm); (case k3 => k_asm); (case k4 => k_asm); (case k5 => k_asm); (case k6 => k_is); (case k7 => k_is); (case k8 => ktr_room); (case k9 => first | exact BindsTo.of_eq rfl | exact binds_K (by k_in) rfl (by k_is) rfl rfl rfl); (case c5 => decide); (case kB => exact locs rfl); (case c2 => exact rfl); (case c3 => exact rfl); (case c4 => exact rfl); k_whole; intro g' L' h' FG' F' N' B' X' T'; (try dsimp only); (try k_fold))))
local macro_rules | `(tactic| walk_at "ENTER") => `(tactic| (walk_at "ENTER0"; k_steps))
local macro_rules | `(tactic| walk_at "bsz") => `(tactic| ((try simp only [List.size_toArray, List.length_append, List.length_cons, List.length_nil, be_length, beK_length, slice_length]); omega))
local macro_rules | `(tactic| walk_at "call builtin:len") => `(tactic| ((with_reducible show wpAny _ _ (call (Value.builtin _) [Value.bytes (List.toArray _) _]) _ _ _); refine len_bytes (by walk_at "bsz") ?_; (try simp only [List.size_toArray, be_length])))
local macro_rules | `(tactic| walk_at "binaryOp Add bytes bytes") => `(tactic| ((with_reducible show wpAny _ _ (binaryOp Operator.Add (Value.bytes (List.toArray _) _) (Value.bytes (List.toArray _) _)) _ _ _); refine KBy.add_bytes (by walk_at "bsz") ?_; intro _ _; (try simp only [List.append_toArray, List.cons_append, List.nil_append])))
local macro_rules | `(tactic| walk_at "subscriptTail") => `(tactic| ((with_reducible show wpAny _ _ (subscriptTail _ _ (Value.bytes (List.toArray _) _) (Value.ref _)) _ _ _); refine slice_int (s := ⟨_, _, _, _, _⟩) (by k_asm) (by k_asm) (by omega) (by omega) (by omega) ?_; intro _ _ _ _ _))
local macro_rules | `(tactic| walk_at "dp") => `(tactic| ((show _ + _ < _); simp only [ktr_dp, ktr_un]; omega))
local macro_rules | `(tactic| walk_at "call ref") => `(tactic| ((with_reducible show wpAny _ _ (call (Value.ref 1464) _) _ _ _); (k_dflt (refine' b2i ?k1 ?k2 ?k3 ?k4 ?k5 ?k6 ?k7 ?k8 ?k9 ?_; (case k1 => k_asm); (case k2 => k_asm); (case k3 => k_asm); (case k4 => k_asm); (case k5 => k_asm); (case k6 => exact ⟨rfl, rfl⟩); (case k7 => walk_at "dp"); (case k8 => walk_at "dp"); (case k9 => walk_at "bsz"))); intro _ _ _ _ _))
local macro_rules | `(tactic| walk_at "call ref") => `(tactic| ((with_reducible show wpAny _ _ (call (Value.ref 1457) _) _ _ _); (k_dflt (refine' is_b ?k1 ?k2 ?k3 ?k4 ?k5 ?k6 ?k7 ?k8 ?_; (case k1 => k_asm); (case k2 => k_asm); (case k3 => k_asm); (case k4 => k_asm); (case k5 => k_asm); (case k6 => exact ⟨rfl, rfl⟩); (case k7 => walk_at "dp"); (case k8 => walk_at "dp"))); intro _ _ _ _))
local macro_rules | `(tactic| walk_at "exec Raise some none") => `(tactic| (k_here; (with_reducible show wpAny _ _ (exec (Stmt.Raise (some _) none _) _) _ _ _); k_dflt (refine raise_row rfl ?_)))
local macro_rules | `(tactic| walk_at "call ref") => `(tactic| ((with_reducible show wpAny _ _ (call (Value.ref 74) [_, _]) _ _ _); (k_dflt (refine' mk_DE ?k1 ?k2 ?k3 ?k4 ?k5 ?k6 ?k7 ?k8 ?_; (case k1 => k_asm); (case k2 => k_asm); (case k3 => k_asm); (case k4 => k_asm); (case k5 => k_asm); (case k6 => exact ⟨rfl, rfl⟩); (case k7 => walk_at "dp"); (case k8 => walk_at "dp"))); intro _ _ _ _ _ _ _ _ _ _; refine RaiseOk.intro (by k_asm) (by k_asm) (by k_asm) (.head _) (exc74 _) ?_))
local macro_rules | `(tactic| walk_at "leaving ref") => `(tactic| ((with_reducible show wpAny _ _ (leaving _ (Value.ref _)) _ _ _); (refine' leave_excS ?k1 ?k2 ?k3 ?k4 ?k5 ?_; (case k1 => assumption); (case k2 => assumption); (case k3 => k_asm); (case k4 => exact off_both (by assumption) (by assumption)); (case k5 => assumption)); intro _ _ _ _))
section
variable {w : World} {p : Program} {loose : List Str} {mean : ExcName → Option Value} {mg mb : Str → Option Value} {dp un : Nat} {gd : Option (List Code)} {ev : Env} {outer : List Env} {A₀ : Around} {base h₀ : Heap} {L : Addr} {m : Str → Option Value} {news : List (Addr × Obj)} {s : Shared} {Q E : Value → Shared → Prop}
/-- the head at st is refused -/
theorem clp_de {x : List UInt8} {st : Nat} {t u : Tok}
    (B : Below A₀ base outer h₀) (F : Fr h₀ L s.heap m) (X : (K w.params).In h₀) (N : News h₀ L s.heap news) (T : Top p loose mean mg mb h₀) (hk : ev.scope.kind = .function ∧ ev.frame = some L)
    (hd : dp + 40 < recursionLimit) (hu : un + 100 < cLine) (hx : x.length < 2 ^ 23) (hc : clp x st = .de)
    (hraise : ∀ h' tk' ex g' t vs, Fr h₀ L g' m → RaisedS base g' (ev :: outer) ex (.ref 74) t vs news h' → g'.UpToSlots h' → E (.ref ex) { s with heap := h', toks := tk' }) :
    wpAny (model pg w) (ktrE dp un gd ev outer) (call (.ref 1736) [.bytes x.toArray t, .int st u]) Q E s := by
  obtain ⟨c, hcc⟩ : ∃ c, x[st]? = some c := by
    cases h : x[st]? with
    | none => unfold clp at hc; rw [h] at hc; cases hc
    | some c => exact ⟨c, rfl⟩
  have hst : st < x.length := (List.getElem?_eq_some_iff.mp hcc).1
  have hcn : (x.getD (Int.toNat (st : Int)) 0).toNat = c.toNat := by simp [List.getD, hcc]
  unfold clp at hc
  rw [hcc] at hc
  dsimp only at hc
  have h129 : c.toNat = 129 → st + 1 < x.length := by
    intro h9
    simp only [h9] at hc
    cases hg : x[st + 1]? with
    | none => simp [hg] at hc
    | some c' => exact (List.getElem?_eq_some_iff.mp hg).1
  have e1 : Int.toNat ((st : Int) + 1) = st + 1 := by omega
  have e2 : Int.toNat ((st : Int) + 2 - (st + 1)) = 1 := by omega
  have e3 : Int.toNat ((st : Int) + 1 + ((((x.getD (Int.toNat (st : Int)) 0).toNat : Nat) : Int) - 183) - (st + 1)) = c.toNat - 183 := by omega
  have e4 : Int.toNat ((st : Int) + 1 + ((((x.getD (Int.toNat (st : Int)) 0).toNat : Nat) : Int) - 192 - 56 + 1) - (st + 1)) = c.toNat - 247 := by omega
  walk_at "ENTER"
  all_goals (try (
    rename RaisedS _ _ _ _ _ _ _ _ _ => R9
    rename Heap.UpToSlots _ _ => U9
    exact hraise _ _ _ _ _ _ (by assumption) (RaisedS.sub R9 fun p hp => by first | exact hp | exact .tail _ hp | exact .tail _ (.tail _ hp) | exact List.mem_append_right _ hp) U9))
  all_goals exfalso
  · rw [if_pos (by omega)] at hc
    cases hc
  · rw [if_neg (by omega), if_pos (by omega), if_pos (by omega)] at hc
    have h1 := h129 (by omega)
    rw [List.getElem?_eq_getElem h1] at hc
    have e1' : x.getD (Int.toNat ((st : Int) + 1)) 0 = x[st + 1] := by
      rw [show Int.toNat ((st : Int) + 1) = st + 1 by omega]; simp [List.getD, h1]
    have h2 : ¬ (((x.getD (Int.toNat ((st : Int) + 1)) 0).toNat : Nat) : Int) < 128 := by assumption
    rw [e1'] at h2
    simp only at hc
    rw [if_neg (by omega)] at hc
    cases hc
  · rw [if_neg (by omega), if_pos (by omega), if_neg (by omega)] at hc
    cases hc
  · have h2 : ((slice x (Int.toNat ((st : Int) + 1)) (Int.toNat ((st : Int) + 2 - (st + 1)))).toArray.toList == #[0].toList) = false := by assumption
    have h3 : ¬ ((ofBe (slice x (Int.toNat ((st : Int) + 1)) (Int.toNat ((st : Int) + 1 + ((((x.getD (Int.toNat (st : Int)) 0).toNat : Nat) : Int) - 183) - (st + 1)))) : Nat) : Int) < 56 := by assumption
    rw [e1, e2] at h2
    rw [e1, e3] at h3
    rw [if_neg (by omega), if_neg (by omega), if_pos (by omega), if_neg (by simpa using h2), if_neg (by omega)] at hc
    cases hc
  · rw [if_neg (by omega), if_neg (by omega), if_neg (by omega), if_pos (by omega)] at hc
    cases hc
  · have h2 : ((slice x (Int.toNat ((st : Int) + 1)) (Int.toNat ((st : Int) + 2 - (st + 1)))).toArray.toList == #[0].toList) = false := by assumption
    have h3 : ¬ ((ofBe (slice x (Int.toNat ((st : Int) + 1)) (Int.toNat ((st : Int) + 1 + ((((x.getD (Int.toNat (st : Int)) 0).toNat : Nat) : Int) - 192 - 56 + 1) - (st + 1)))) : Nat) : Int) < 56 := by assumption
    rw [e1, e2] at h2
    rw [e1, e4] at h3
    rw [if_neg (by omega), if_neg (by omega), if_neg (by omega), if_neg (by omega), if_neg (by simpa using h2), if_neg (by omega)] at hc
    cases hc
end
end Mine
end

section
set_option maxRecDepth 100000
set_option linter.unusedVariables false
set_option Elab.async false
open PySem PySem.W PyProof.Rows PySem.Spec PySem.Calls
namespace Mine
/-- what runs, runs one way -/
theorem runs_det {M : Model} {Γ : PySem.Ctx} {p : Pos} {t : Sem Fin} {fs : List Frame} {s s' : Shared} {e : End} (h : Runs M Γ p t fs s e s') : ∀ {e₂ : End} {s₂ : Shared}, Runs M Γ p t fs s e₂ s₂ → e₂ = e ∧ s₂ = s' := by
  induction h with
  | done => intro _ _ h; cases h; exact ⟨rfl, rfl⟩
  | raise => intro _ _ h; cases h; exact ⟨rfl, rfl⟩
  | again _ _ ih => intro _ _ h; cases h with | again _ h => exact ih h
  | rule _ ih => intro _ _ h; cases h with | rule h => exact ih h
  | «at» _ ih => intro _ _ h; cases h with | «at» h => exact ih h
  | load hg _ ih =>
    intro _ _ h
    cases h with
    | load hg' h =>
      rw [hg] at hg'
      cases hg'
      exact ih h
  | update _ _ ih => intro _ _ h; cases h with | update _ h => exact ih h
  | loadIfAlive _ ih => intro _ _ h; cases h with | loadIfAlive h => exact ih h
  | point _ ih => intro _ _ h; cases h with | point h => exact ih h
  | alloc _ ih => intro _ _ h; cases h with | alloc h => exact ih h
  | fresh _ ih => intro _ _ h; cases h with | fresh h => exact ih h
  | ask _ ih => intro _ _ h; cases h with | ask h => exact ih h
  | choose _ _ ih => intro _ _ h; cases h with | choose _ h => exact ih h
  | os _ ih => intro _ _ h; cases h with | os h => exact ih h
  | handled _ ih => intro _ _ h; cases h with | handled h => exact ih h
  | genState hg _ ih =>
    intro _ _ h
    cases h with
    | genState hg' h =>
      rw [hg] at hg'
      cases hg'
      exact ih h
  | stack _ ih => intro _ _ h; cases h with | stack h => exact ih h
  | thread _ ih => intro _ _ h; cases h with | thread h => exact ih h
  | newGen _ ih => intro _ _ h; cases h with | newGen h => exact ih h
  | call _ _ ih1 ih2 =>
    intro _ _ h
    cases h with
    | call h1 h2 =>
      obtain ⟨he, rfl⟩ := ih1 h1
      cases he
      exact ih2 h2
    | callSusp h1 => obtain ⟨he, _⟩ := ih1 h1; cases he
  | callSusp _ ih1 =>
    intro _ _ h
    cases h with
    | call h1 h2 => obtain ⟨he, _⟩ := ih1 h1; cases he
    | callSusp h1 =>
      obtain ⟨he, rfl⟩ := ih1 h1
      cases he
      exact ⟨rfl, rfl⟩
  | yield => intro _ _ h; cases h; exact ⟨rfl, rfl⟩
  | resumeFresh hg _ _ _ ih1 ih2 =>
    intro _ _ h
    cases h with
    | resumeFresh hg' h1 _ h2 =>
      rw [hg] at hg'
      cases hg'
      obtain ⟨rfl, rfl⟩ := ih1 h1
      exact ih2 h2
    | resumeSuspended hg' => rw [hg] at hg'; cases hg'
    | resumeJustStarted hg' hv => exact absurd rfl hv
    | resumeRunning hg' => rw [hg] at hg'; cases hg'
    | resumeFinished hg' => rw [hg] at hg'; cases hg'
  | resumeSuspended hg _ _ _ ih1 ih2 =>
    intro _ _ h
    cases h with
    | resumeFresh hg' => rw [hg] at hg'; cases hg'
    | resumeSuspended hg' h1 _ h2 =>
      rw [hg] at hg'
      cases hg'
      obtain ⟨rfl, rfl⟩ := ih1 h1
      exact ih2 h2
    | resumeJustStarted hg' => rw [hg] at hg'; cases hg'
    | resumeThrowFresh hg' => rw [hg] at hg'; cases hg'
    | resumeRunning hg' => rw [hg] at hg'; cases hg'
    | resumeFinished hg' => rw [hg] at hg'; cases hg'
  | resumeJustStarted hg hv _ ih =>
    intro _ _ h
    cases h with
    | resumeFresh hg' => exact absurd rfl hv
    | resumeSuspended hg' => rw [hg] at hg'; cases hg'
    | resumeJustStarted hg' _ h => exact ih h
    | resumeRunning hg' => rw [hg] at hg'; cases hg'
    | resumeFinished hg' => rw [hg] at hg'; cases hg'
  | resumeThrowFresh hg _ ih =>
    intro _ _ h
    cases h with
    | resumeSuspended hg' => rw [hg] at hg'; cases hg'
    | resumeThrowFresh hg' h => exact ih h
    | resumeRunning hg' => rw [hg] at hg'; cases hg'
    | resumeFinished hg' => rw [hg] at hg'; cases hg'
  | resumeRunning hg _ ih =>
    intro _ _ h
    cases h with
    | resumeFresh hg' => rw [hg] at hg'; cases hg'
    | resumeSuspended hg' => rw [hg] at hg'; cases hg'
    | resumeJustStarted hg' => rw [hg] at hg'; cases hg'
    | resumeThrowFresh hg' => rw [hg] at hg'; cases hg'
    | resumeRunning _ h => exact ih h
    | resumeFinished hg' => rw [hg] at hg'; cases hg'
  | resumeFinished hg _ ih =>
    intro _ _ h
    cases h with
    | resumeFresh hg' => rw [hg] at hg'; cases hg'
    | resumeSuspended hg' => rw [hg] at hg'; cases hg'
    | resumeJustStarted hg' => rw [hg] at hg'; cases hg'
    | resumeThrowFresh hg' => rw [hg] at hg'; cases hg'
    | resumeRunning hg' => rw [hg] at hg'; cases hg'
    | resumeFinished _ h => exact ih h
  | segRet _ _ ih1 ih2 =>
    intro _ _ h
    cases h with
    | segRet h1 h2 =>
      obtain ⟨he, rfl⟩ := ih1 h1
      cases he
      exact ih2 h2
    | segSuspOut _ h1 => obtain ⟨he, _⟩ := ih1 h1; cases he
    | segSuspGen _ h1 => obtain ⟨he, _⟩ := ih1 h1; cases he
  | segGen _ _ ih1 ih2 =>
    intro _ _ h
    cases h with
    | segGen h1 h2 =>
      obtain ⟨he, rfl⟩ := ih1 h1
      cases he
      exact ih2 h2
    | segSuspOut _ h1 => obtain ⟨he, _⟩ := ih1 h1; cases he
    | segSuspGen _ h1 => obtain ⟨he, _⟩ := ih1 h1; cases he
  | segSuspOut hs _ ih1 =>
    intro _ _ h
    cases h with
    | segRet h1 h2 => obtain ⟨he, _⟩ := ih1 h1; cases he
    | segGen h1 h2 => obtain ⟨he, _⟩ := ih1 h1; cases he
    | segSuspOut _ h1 =>
      obtain ⟨he, rfl⟩ := ih1 h1
      cases he
      exact ⟨rfl, rfl⟩
    | segSuspGen hs' => rw [hs] at hs'; cases hs'
  | segSuspGen hs _ _ _ ih1 ih2 =>
    intro _ _ h
    cases h with
    | segRet h1 h2 => obtain ⟨he, _⟩ := ih1 h1; cases he
    | segGen h1 h2 => obtain ⟨he, _⟩ := ih1 h1; cases he
    | segSuspOut hs' => rw [hs] at hs'; cases hs'
    | segSuspGen hs' h1 _ h2 =>
      rw [hs] at hs'
      cases hs'
      obtain ⟨he, rfl⟩ := ih1 h1
      cases he
      exact ih2 h2
theorem wakes_det {M : Model} {Γ : PySem.Ctx} {p : Pos} {g : Nat} {r : Resume} {s s₁ s₂ : Shared} {a b : GenResult} (h1 : Wakes M Γ p g r s a s₁) (h2 : Wakes M Γ p g r s b s₂) : b = a ∧ s₂ = s₁ := by
  unfold Wakes at h1 h2
  split at h1
  · exact h1.elim
  · rename_i hg
    simp only [hg] at h2
    cases r with
    | send v =>
      cases v with
      | none =>
        obtain ⟨e₁, t₁, x1, _, rfl, rfl⟩ := h1
        obtain ⟨e₂, t₂, x2, _, rfl, rfl⟩ := h2
        obtain ⟨rfl, rfl⟩ := runs_det x1 x2
        exact ⟨rfl, rfl⟩
      | _ =>
        obtain ⟨rfl, rfl⟩ := h1
        obtain ⟨rfl, rfl⟩ := h2
        exact ⟨rfl, rfl⟩
    | throw x =>
      obtain ⟨rfl, rfl⟩ := h1
      obtain ⟨rfl, rfl⟩ := h2
      exact ⟨rfl, rfl⟩
  · rename_i hg
    simp only [hg] at h2
    obtain ⟨e₁, t₁, x1, _, rfl, rfl⟩ := h1
    obtain ⟨e₂, t₂, x2, _, rfl, rfl⟩ := h2
    obtain ⟨rfl, rfl⟩ := runs_det x1 x2
    exact ⟨rfl, rfl⟩
  · rename_i hg
    simp only [hg] at h2
    obtain ⟨rfl, rfl⟩ := h1
    obtain ⟨rfl, rfl⟩ := h2
    exact ⟨rfl, rfl⟩
  · rename_i hg
    simp only [hg] at h2
    obtain ⟨rfl, rfl⟩ := h1
    obtain ⟨rfl, rfl⟩ := h2
    exact ⟨rfl, rfl⟩
theorem wp_and {α : Type} {M : Model} {Γ : PySem.Ctx} (t : Sem α) : ∀ {Q₁ Q₂ : α → Pos → Shared → Prop} {E₁ E₂ : Value → Pos → Shared → Prop} {p : Pos} {s : Shared}, Sem.wp M Γ t Q₁ E₁ p s → Sem.wp M Γ t Q₂ E₂ p s →
    Sem.wp M Γ t (fun a p s => Q₁ a p s ∧ Q₂ a p s) (fun a p s => E₁ a p s ∧ E₂ a p s) p s := by
  induction t with
  | pure a => intro _ _ _ _ _ _ h1 h2; rw [Sem.wp] at *; exact ⟨h1, h2⟩
  | raise a => intro _ _ _ _ _ _ h1 h2; rw [Sem.wp] at *; exact ⟨h1, h2⟩
  | unsupported a => intro _ _ _ _ _ _ h1 h2; rw [Sem.wp] at *; exact h1
  | finish a => intro _ _ _ _ _ _ h1 h2; rw [Sem.wp] at *; exact h1
  | rule a k ih => intro _ _ _ _ _ _ h1 h2; rw [Sem.wp] at *; exact ih () h1 h2
  | «at» a k ih => intro _ _ _ _ _ _ h1 h2; rw [Sem.wp] at *; exact ih () h1 h2
  | load a b k ih =>
    intro _ _ _ _ _ _ h1 h2
    rw [Sem.wp] at *
    obtain ⟨o, e, h1⟩ := h1
    obtain ⟨o', e', h2⟩ := h2
    rw [e] at e'
    cases e'
    exact ⟨o, e, ih o h1 h2⟩
  | update a b f k ih => intro _ _ _ _ _ _ h1 h2; rw [Sem.wp] at *; exact ⟨h1.1, ih () h1.2 h2.2⟩
  | loadIfAlive a k ih => intro _ _ _ _ _ _ h1 h2; rw [Sem.wp] at *; exact ih _ h1 h2
  | point a k ih => intro _ _ _ _ _ _ h1 h2; rw [Sem.wp] at *; exact ih () h1 h2
  | register a k ih => intro _ _ _ _ _ _ h1 h2; rw [Sem.wp] at *; exact h1
  | alloc a k ih => intro _ _ _ _ _ _ h1 h2; rw [Sem.wp] at *; exact ih _ h1 h2
  | fresh k ih => intro _ _ _ _ _ _ h1 h2; rw [Sem.wp] at *; exact ih _ h1 h2
  | ask k ih => intro _ _ _ _ _ _ h1 h2; rw [Sem.wp] at *; exact ih _ h1 h2
  | choose a n k ih => intro _ _ _ _ _ _ h1 h2; rw [Sem.wp] at *; exact ⟨h1.1, ih _ h1.2 h2.2⟩
  | os a l k ih => intro _ _ _ _ _ _ h1 h2; rw [Sem.wp] at *; exact ih _ h1 h2
  | call c h a b k ih =>
    intro _ _ _ _ _ _ h1 h2
    rw [Sem.wp] at *
    obtain ⟨r, t, x1, h1⟩ := h1
    obtain ⟨r', t', x2, h2⟩ := h2
    obtain ⟨e, rfl⟩ := runs_det x1 x2
    cases e
    exact ⟨r, _, x1, ih r h1 h2⟩
  | handled a k ih => intro _ _ _ _ _ _ h1 h2; rw [Sem.wp] at *; exact ih _ h1 h2
  | genState a k ih =>
    intro _ _ _ _ _ _ h1 h2
    rw [Sem.wp] at *
    obtain ⟨o, e, h1⟩ := h1
    obtain ⟨o', e', h2⟩ := h2
    rw [e] at e'
    cases e'
    exact ⟨o, e, ih _ h1 h2⟩
  | newGen a k ih => intro _ _ _ _ _ _ h1 h2; rw [Sem.wp] at *; exact ih _ h1 h2
  | resume g r l k ih =>
    intro _ _ _ _ _ _ h1 h2
    rw [Sem.wp] at *
    obtain ⟨a, t, x1, h1⟩ := h1
    obtain ⟨b, t', x2, h2⟩ := h2
    obtain ⟨rfl, rfl⟩ := wakes_det x1 x2
    exact ⟨_, _, x1, ih _ h1 h2⟩
  | yield a b c k ih => intro _ _ _ _ _ _ h1 h2; rw [Sem.wp] at *; exact h1
  | stack k ih => intro _ _ _ _ _ _ h1 h2; rw [Sem.wp] at *; exact ih _ h1 h2
  | fork c k ih => intro _ _ _ _ _ _ h1 h2; rw [Sem.wp] at *; exact h1
  | thread k ih => intro _ _ _ _ _ _ h1 h2; rw [Sem.wp] at *; exact ih _ h1 h2
  | await a f d l k ih => intro _ _ _ _ _ _ h1 h2; rw [Sem.wp] at *; exact h1
/-- two things that hold of what a tree does hold together -/
theorem wpAny_both {α : Type} {M : Model} {A : Around} {t : Sem α} {Q₁ Q₂ : α → Shared → Prop} {E₁ E₂ : Value → Shared → Prop} {s : Shared} (h1 : wpAny M A t Q₁ E₁ s) (h2 : wpAny M A t Q₂ E₂ s) :
    wpAny M A t (fun a s => Q₁ a s ∧ Q₂ a s) (fun a s => E₁ a s ∧ E₂ a s) s := fun Γ p hi => wp_and t (h1 Γ p hi) (h2 Γ p hi)
end Mine
end

section
set_option maxRecDepth 100000
set_option linter.unusedVariables false
set_option Elab.async false
open PySem PySem.W PyProof.Rows PySem.Spec PySem.Calls
namespace Mine
/-- a tree without calls whose changes keep what I says of an object -/
def KeepsI {α : Type} (I : Obj → Prop) : Sem α → Prop
  | .pure _ => True
  | .raise _ => True
  | .unsupported _ => True
  | .finish _ => True
  | .rule _ k => KeepsI I (k ())
  | .at _ k => KeepsI I (k ())
  | .load _ _ k => ∀ o, KeepsI I (k o)
  | .update _ _ f k => (∀ o, I o → I (f o)) ∧ KeepsI I (k ())
  | .loadIfAlive _ k => ∀ o, KeepsI I (k o)
  | .point _ k => KeepsI I (k ())
  | .register _ _ => True
  | .alloc _ k => ∀ a, KeepsI I (k a)
  | .fresh k => ∀ t, KeepsI I (k t)
  | .ask k => ∀ x, KeepsI I (k x)
  | .choose _ _ k => ∀ n, KeepsI I (k n)
  | .os _ _ k => ∀ r, KeepsI I (k r)
  | .call .. => False
  | .handled _ k => ∀ h, KeepsI I (k h)
  | .genState _ k => ∀ x, KeepsI I (k x)
  | .newGen _ k => ∀ g, KeepsI I (k g)
  | .resume .. => False
  | .yield .. => False
  | .stack k => ∀ l, KeepsI I (k l)
  | .fork .. => True
  | .thread k => ∀ n, KeepsI I (k n)
  | .await .. => True
/-- what I says holds of the object at e -/
def HasI (I : Obj → Prop) (e : Addr) (h : Heap) : Prop := ∃ o, h.get? e = some o ∧ I o
theorem keepsI_wp {α : Type} {M : Model} {Γ : PySem.Ctx} {I : Obj → Prop} (hI : ∀ o, I o → o.isFreed = false) {e : Addr} (t : Sem α) : ∀ {Q : α → Pos → Shared → Prop} {E : Value → Pos → Shared → Prop} {p : Pos} {s : Shared}, KeepsI I t → HasI I e s.heap → Sem.wp M Γ t Q E p s →
    Sem.wp M Γ t (fun a p s' => Q a p s' ∧ HasI I e s'.heap) (fun a p s' => E a p s' ∧ HasI I e s'.heap) p s := by
  induction t with
  | pure a => intro _ _ _ _ k h w; rw [Sem.wp] at *; exact ⟨w, h⟩
  | raise a => intro _ _ _ _ k h w; rw [Sem.wp] at *; exact ⟨w, h⟩
  | unsupported a => intro _ _ _ _ k h w; rw [Sem.wp] at *; exact w
  | finish a => intro _ _ _ _ k h w; rw [Sem.wp] at *; exact w
  | rule a f ih => intro _ _ _ _ k h w; rw [Sem.wp] at *; exact ih () k h w
  | «at» a f ih => intro _ _ _ _ k h w; rw [Sem.wp] at *; exact ih () k h w
  | load a b f ih =>
    intro _ _ _ _ k h w
    rw [Sem.wp] at *
    obtain ⟨o, x, w⟩ := w
    exact ⟨o, x, ih o (k o) h w⟩
  | update a b g f ih =>
    intro _ _ _ s k h w
    rw [Sem.wp] at *
    refine ⟨w.1, ih () k.2 ?_ w.2⟩
    obtain ⟨o, x, hi⟩ := h
    by_cases hab : a = e
    · subst hab
      exact ⟨_, Heap.get?_update_self g x (hI _ (k.1 o hi)), k.1 o hi⟩
    · exact ⟨o, (Heap.get?_update_other _ _ hab).trans x, hi⟩
  | loadIfAlive a f ih => intro _ _ _ _ k h w; rw [Sem.wp] at *; exact ih _ (k _) h w
  | point a f ih => intro _ _ _ _ k h w; rw [Sem.wp] at *; exact ih () k h w
  | register a f ih => intro _ _ _ _ k h w; rw [Sem.wp] at *; exact w
  | alloc a f ih =>
    intro _ _ _ _ k h w
    rw [Sem.wp] at *
    refine ih _ (k _) ?_ w
    obtain ⟨o, x, hi⟩ := h
    exact ⟨o, Heap.get?_push_of_some _ x, hi⟩
  | fresh f ih => intro _ _ _ _ k h w; rw [Sem.wp] at *; exact ih _ (k _) h w
  | ask f ih => intro _ _ _ _ k h w; rw [Sem.wp] at *; exact ih _ (k _) h w
  | choose a n f ih => intro _ _ _ _ k h w; rw [Sem.wp] at *; exact ⟨w.1, ih _ (k _) h w.2⟩
  | os a l f ih => intro _ _ _ _ k h w; rw [Sem.wp] at *; exact ih _ (k _) h w
  | call c x a b f ih => intro _ _ _ _ k h w; exact k.elim
  | handled a f ih => intro _ _ _ _ k h w; rw [Sem.wp] at *; exact ih _ (k _) h w
  | genState a f ih =>
    intro _ _ _ _ k h w
    rw [Sem.wp] at *
    obtain ⟨o, x, w⟩ := w
    exact ⟨o, x, ih _ (k _) h w⟩
  | newGen a f ih => intro _ _ _ _ k h w; rw [Sem.wp] at *; exact ih _ (k _) h w
  | resume g r l f ih => intro _ _ _ _ k h w; exact k.elim
  | yield a b c f ih => intro _ _ _ _ k h w; exact k.elim
  | stack f ih => intro _ _ _ _ k h w; rw [Sem.wp] at *; exact ih _ (k _) h w
  | fork c f ih => intro _ _ _ _ k h w; rw [Sem.wp] at *; exact w
  | thread f ih => intro _ _ _ _ k h w; rw [Sem.wp] at *; exact ih _ (k _) h w
  | await a x d l f ih => intro _ _ _ _ k h w; rw [Sem.wp] at *; exact w
theorem keepsI_any {α : Type} {M : Model} {A : Around} {I : Obj → Prop} (hI : ∀ o, I o → o.isFreed = false) {e : Addr} {t : Sem α} {Q : α → Shared → Prop} {E : Value → Shared → Prop} {s : Shared} (k : KeepsI I t) (h : HasI I e s.heap) (w : wpAny M A t Q E s) :
    wpAny M A t (fun a s' => Q a s' ∧ HasI I e s'.heap) (fun a s' => E a s' ∧ HasI I e s'.heap) s := fun Γ p hi => keepsI_wp hI t k h (w Γ p hi)
theorem keepsI_bind {α β : Type} {I : Obj → Prop} (t : Sem α) : ∀ {f : α → Sem β}, KeepsI I t → (∀ a, KeepsI I (f a)) → KeepsI I (t >>= f) := by
  show ∀ {f : α → Sem β}, KeepsI I t → (∀ a, KeepsI I (f a)) → KeepsI I (t.bind f)
  induction t with
  | pure a => intro f _ h; exact h a
  | raise a => intro f _ _; trivial
  | unsupported a => intro f _ _; trivial
  | finish a => intro f _ _; trivial
  | rule a k ih => intro f k h; exact ih () k h
  | «at» a k ih => intro f k h; exact ih () k h
  | load a b k ih => intro f k h; exact fun o => ih o (k o) h
  | update a b g k ih => intro f k h; exact ⟨k.1, ih () k.2 h⟩
  | loadIfAlive a k ih => intro f k h; exact fun o => ih o (k o) h
  | point a k ih => intro f k h; exact ih () k h
  | register a k ih => intro f _ _; trivial
  | alloc a k ih => intro f k h; exact fun o => ih o (k o) h
  | fresh k ih => intro f k h; exact fun o => ih o (k o) h
  | ask k ih => intro f k h; exact fun o => ih o (k o) h
  | choose a n k ih => intro f k h; exact fun o => ih o (k o) h
  | os a l k ih => intro f k h; exact fun o => ih o (k o) h
  | call c x a b k ih => intro f k h; exact k.elim
  | handled a k ih => intro f k h; exact fun o => ih o (k o) h
  | genState a k ih => intro f k h; exact fun o => ih o (k o) h
  | newGen a k ih => intro f k h; exact fun o => ih o (k o) h
  | resume g r l k ih => intro f k h; exact k.elim
  | yield a b c k ih => intro f k h; exact k.elim
  | stack k ih => intro f k h; exact fun o => ih o (k o) h
  | fork c k ih => intro f _ _; trivial
  | thread k ih => intro f k h; exact fun o => ih o (k o) h
  | await a x d l k ih => intro f _ _; trivial
/-- the context of the exception at hand is none -/
def NoCtx (o : Obj) : Prop := ∃ ws, o.data = .fields ws ∧ ws[2]? = some .none
theorem noCtx_alive (o : Obj) (h : NoCtx o) : o.isFreed = false := by
  obtain ⟨ws, hd, _⟩ := h
  exact Obj.isFreed_of_fields hd
theorem noCtx_field {i : Nat} {v : Value} (hi : i ≠ 2) (o : Obj) (h : NoCtx o) : NoCtx (Obj.mapFields (·.setIfInBounds i v) o) := by
  obtain ⟨ws, hd, h2⟩ := h
  exact ⟨_, Obj.data_mapFields hd _, by rw [Array.getElem?_setIfInBounds_ne hi]; exact h2⟩
theorem keeps_field {v : Value} {i : Nat} : KeepsI NoCtx (field v i) := by
  unfold field fieldsOf
  refine keepsI_bind _ ?_ fun vs => ?_
  · split
    · refine keepsI_bind _ (fun o => trivial) fun o => ?_
      split <;> trivial
    · trivial
  · split <;> trivial
theorem keeps_setField {v x : Value} {i : Nat} (hi : i ≠ 2) : KeepsI NoCtx (setField v i x) := by
  unfold setField
  split
  · unfold updateField
    refine keepsI_bind _ (fun o => trivial) fun o => ?_
    split
    · split
      · exact ⟨fun o h => noCtx_field hi o h, trivial⟩
      · trivial
    · trivial
  · trivial
theorem keeps_stack : KeepsI NoCtx (PySem.stack) := fun _ => trivial
theorem keeps_pure {α : Type} {a : α} : KeepsI NoCtx (pure a : Sem α) := trivial
theorem keeps_setFlight {e : Value} {f : Option Addr} : KeepsI NoCtx (setFlight e f) := by
  unfold setFlight
  refine keepsI_bind _ keeps_field fun tb => ?_
  split
  · exact keeps_setField (by decide)
  · trivial
theorem keeps_claims : KeepsI NoCtx underTheClaimsCaller := by
  unfold underTheClaimsCaller
  exact keepsI_bind _ keeps_stack fun _ => trivial
theorem keeps_back (env : Env) (i : Bool) (outer : List Env) : KeepsI NoCtx (keptBack env i outer) := by
  unfold keptBack
  split
  · split
    · trivial
    · exact keepsI_bind _ keeps_claims fun _ => trivial
  · trivial
theorem keeps_import (env : Env) (outer : List Env) : KeepsI NoCtx (behindIsImport env outer) := by
  unfold behindIsImport
  split
  · trivial
  · split
    · trivial
    · exact keepsI_bind _ keeps_field fun _ => trivial
theorem keeps_ready : ∀ l : List Env, KeepsI NoCtx (readyFrames l)
  | [] => trivial
  | env :: outer => by
    unfold readyFrames
    split
    · refine keepsI_bind _ (fun o => trivial) fun o => ?_
      split
      · trivial
      · refine keepsI_bind _ (keeps_import _ _) fun _ => keepsI_bind _ (keeps_back _ _ _) fun _ => keepsI_bind _ ?_ fun _ => keeps_ready outer
        exact ⟨fun o h => h, trivial⟩
    · trivial
theorem keeps_frameObject (l : List Env) : KeepsI NoCtx (frameObject l) := by
  unfold frameObject
  split
  · trivial
  · exact keepsI_bind _ (keeps_ready _) fun _ => trivial
theorem keeps_frameOf (env : Env) : KeepsI NoCtx (PySem.frameOf env) := by
  unfold PySem.frameOf frameEnvs
  refine keepsI_bind _ (keepsI_bind _ keeps_stack fun _ => trivial) fun _ => keepsI_bind _ (keeps_frameObject _) fun f => ?_
  split <;> trivial
theorem keeps_place (f : Addr) (b : Bool) : KeepsI NoCtx (entryPlaceOf f b) := by
  unfold entryPlaceOf
  refine keepsI_bind _ keeps_stack fun _ => ?_
  split <;> trivial
theorem keeps_newEntry (a b c d e : Value) (pl : List Value) : KeepsI NoCtx (EntryCells.newEntry a b c d e pl) := by
  unfold EntryCells.newEntry newFields newObj
  dsimp only
  generalize ([a, b, c, d, e] ++ if pl.isEmpty = true then List.replicate 6 Value.none else pl).toArray = vs
  split
  · trivial
  · exact fun _ => trivial
theorem keeps_note (e : Value) (env : Env) : KeepsI NoCtx (noteFrame e env) := by
  unfold noteFrame
  split
  · refine keepsI_bind _ keeps_field fun head => ?_
    have rest : ∀ b : Bool, KeepsI NoCtx (do setField e 1 (← EntryCells.newEntry head (← PySem.frameOf env) .none (rawInt ‹Addr›) .none (← entryPlaceOf ‹Addr› b))) := fun b =>
      keepsI_bind _ (keeps_frameOf _) fun _ => keepsI_bind _ (keeps_place _ _) fun _ => keepsI_bind _ (keeps_newEntry _ _ _ _ _ _) fun _ => keeps_setField (by decide)
    dsimp only
    split
    · refine keepsI_bind _ keeps_field fun _ => ?_
      split
      · trivial
      · exact keepsI_bind _ (keeps_setField (by decide)) fun _ => rest _
    · exact rest _
  · trivial
theorem keeps_leaving (env : Env) (e : Value) : KeepsI NoCtx (leaving env e) := by
  unfold leaving
  exact keepsI_bind _ (keeps_note _ _) fun _ => keeps_setFlight
end Mine
end

section
set_option maxRecDepth 100000
set_option linter.unusedVariables false
set_option Elab.async false
open PySem PySem.W PyProof.Rows PySem.Spec PySem.Calls
namespace Mine
section
variable {M : Model} {A : Around} {E : Value → Shared → Prop} {s' : Shared} {base g g₂ h : Heap} {outer : List Env} {L a e t : Addr} {m : Str → Option Value} {name : Str} {scope : Scope} {cd : Value} {Q : Unit → Shared → Prop} {news : List (Addr × Obj)} {cls : Value} {vs : List Value}
theorem made_noCtx (hx : Heap.MadeExcOf h s'.heap e cls vs) : HasI NoCtx e s'.heap := by
  obtain ⟨t, ht, _⟩ := hx.there
  exact ⟨_, ht, _, rfl, rfl⟩
/-- a new exception of the library leaves the frame that raised it: its context is none -/
theorem leave_raiseC (K : Below A base outer g) (hx : Heap.MadeExcOf h s'.heap e cls vs) (F : Fr g L h m) (N : News g L h news)
    (hQ : ∀ h' t, RaisedS base g outer e cls t vs news h' → HasI NoCtx e h' → g.UpToSlots h' → Q () { s' with heap := h' }) (hk : scope.kind = .function := by rfl) :
    wpAny M (A.deeper (envOf name scope L a cd)) (leaving (envOf name scope L a cd) (.ref e)) Q E s' :=
  wpAny_mono (keepsI_any noCtx_alive (keeps_leaving _ _) (made_noCtx hx) (leave_raiseS (E := fun _ _ => False) (Q := fun _ s => ∃ h' t, s = { s' with heap := h' } ∧ RaisedS base g outer e cls t vs news h' ∧ g.UpToSlots h') K hx F N (fun h' t r _ u => ⟨h', t, rfl, r, u⟩) hk))
    (fun _ _ ⟨⟨h', t, hs, r, u⟩, c⟩ => by subst hs; exact hQ h' t r c u) fun _ _ x => x.1.elim
/-- it leaves a frame further out -/
theorem leave_onC (K : Below A base outer g) (F : Fr g L g₂ m) (R : RaisedS base g₂ (envOf name scope L a cd :: outer) e cls t vs news s'.heap) (C : HasI NoCtx e s'.heap) (hsm : g₂.UpToSlots s'.heap)
    (hQ : ∀ h', RaisedS base g outer e cls t vs news h' → HasI NoCtx e h' → g.UpToSlots h' → Q () { s' with heap := h' }) :
    wpAny M (A.deeper (envOf name scope L a cd)) (leaving (envOf name scope L a cd) (.ref e)) Q E s' :=
  wpAny_mono (keepsI_any noCtx_alive (keeps_leaving _ _) C (leave_onS (E := fun _ _ => False) (Q := fun _ s => ∃ h', s = { s' with heap := h' } ∧ RaisedS base g outer e cls t vs news h' ∧ g.UpToSlots h') K F R hsm (fun h' r _ u => ⟨h', rfl, r, u⟩)))
    (fun _ _ ⟨⟨h', hs, r, u⟩, c⟩ => by subst hs; exact hQ h' r c u) fun _ _ x => x.1.elim
end
end Mine
end

section
set_option maxRecDepth 100000
set_option linter.unusedVariables false
set_option Elab.async false
open PySem PySem.W PyProof.Rows PySem.Spec PySem.Calls
namespace Mine
open Builtin
section
variable {M : Model} {A : Around} {E : Value → Shared → Prop} {s : Shared}
theorem raise_words {α : Type} {X N I : String} (hc : ExcClass X N I) {msg : String} {Q : α → Shared → Prop} (hh : A.handled = none)
    (h : ∀ h' tk e v, Heap.MadeExcOf s.heap h' e (.type X) [v] → E (.ref e) { s with heap := h', toks := tk }) : wpAny M A (raiseErrorWords X msg : Sem α) Q E s := by
  unfold raiseErrorWords
  refine wpAny_bind (wpAny_mkText (wpAny_bind ?_))
  unfold newExc newTuple
  refine wpAny_bind (wpAny_newObj_type ?_ (by size_fits))
  refine wpAny_bind (m := firstArgMember _ _) (wpAny_of_eq (a := Value.none) (by simp only [firstArgMember, hc.noFirst]; rfl) ?_)
  rw [hc.noOwn]
  refine wpAny_newObj_type ?_ (by size_fits)
  unfold raiseNew
  refine wpAny_bind (wpAny_handled ?_)
  rw [hh]
  first
    | refine wpAny_throw ?_
    | refine wpAny_bind (wpAny_pure (wpAny_throw ?_))
  have hT : (s.heap.push { cls := .type "tuple", dict := none, data := .seq [Value.str (PySem.Str.ofString msg) s.toks].toArray }).get? s.heap.objs.size = some _ := Heap.get?_push_size _ rfl
  exact h _ _ _ _ ⟨fun b o hb => Heap.get?_push_of_some _ (Heap.get?_push_of_some _ hb), Heap.get?_none_of_le (by simp), s.heap.objs.size, Heap.get?_push_size _ rfl, Heap.get?_none_of_le (Nat.le_refl _), Heap.get?_push_of_some _ hT⟩
end
section
variable {prog : Program} {w : World} {A : Around} {E : Value → Shared → Prop} {s : Shared} {x : List UInt8} {k : Nat} {t u : Tok}
theorem raise_made {α : Type} {M : Model} {X N I : String} (hc : ExcClass X N I) {msg : String} {Q : α → Shared → Prop} (hh : A.handled = none)
    (h : ∀ h' tk e v, Heap.MadeExcOf s.heap h' e (.type X) [v] → E (.ref e) { s with heap := h', toks := tk }) (hm : PySem.Str.length (msg : PySem.Str) ≤ sizeLine) : wpAny M A (raiseErrorMade X msg : Sem α) Q E s := by
  unfold raiseErrorMade
  refine wpAny_bind (wpAny_mkStr (wpAny_bind ?_) hm)
  unfold newExc newTuple
  refine wpAny_bind (wpAny_newObj_type ?_ (by size_fits))
  refine wpAny_bind (m := firstArgMember _ _) (wpAny_of_eq (a := Value.none) (by simp only [firstArgMember, hc.noFirst]; rfl) ?_)
  rw [hc.noOwn]
  refine wpAny_newObj_type ?_ (by size_fits)
  unfold raiseNew
  refine wpAny_bind (wpAny_handled ?_)
  rw [hh]
  first
    | refine wpAny_throw ?_
    | refine wpAny_bind (wpAny_pure (wpAny_throw ?_))
  have hT : (s.heap.push { cls := .type "tuple", dict := none, data := .seq [Value.str (PySem.Str.ofString msg) s.toks].toArray }).get? s.heap.objs.size = some _ := Heap.get?_push_size _ rfl
  exact h _ _ _ _ ⟨fun b o hb => Heap.get?_push_of_some _ (Heap.get?_push_of_some _ hb), Heap.get?_none_of_le (by simp), s.heap.objs.size, Heap.get?_push_size _ rfl, Heap.get?_none_of_le (Nat.le_refl _), Heap.get?_push_of_some _ hT⟩
theorem run_bytes_out {M : Model} {b : Array UInt8} {i : Int} {Q : PySem.Fin → Shared → Prop} (hA : A.handled = none) (hn : (seqIndex? i b.size).bind (b[·]?) = none)
    (h : ∀ h' tk e v, Heap.MadeExcOf s.heap h' e (.type "IndexError") [v] → E (.ref e) { s with heap := h', toks := tk }) : wpAny M A («bytes.__getitem__» ⟨[.bytes b t, .int i u], []⟩) Q E s := by
  show wpAny M A (Bytes.subscript? (.int i u) >>= fun r => _) _ E s
  refine wpAny_bind ?_
  unfold Bytes.subscript?
  refine wpAny_bind (wpAny_specialOf (typeIs_int s i u) F.slot_int_index.lookup ?_)
  show wpAny M A (if (!Bytes.fitsIndex i) = true then _ else pure (some i)) _ E s
  cases hr : Bytes.fitsIndex i with
  | false =>
    rw [if_pos (by decide)]
    refine wpAny_bind (wpAny_rule ?_)
    refine wpAny_bind (m := PySem.typeNameOf (.int i u)) (wpAny_typeNameOf' (typeIs_int s i u) (by decide) ?_)
    exact wpAny_bind (raise_made excClass_IndexError hA h (by decide +kernel))
  | true =>
    rw [if_neg (by decide)]
    refine wpAny_pure ?_
    show wpAny M A (match (seqIndex? i b.size).bind (b[·]?) with | some x => retInt x.toNat | none => _) _ E s
    rw [hn]
    first
      | exact wpAny_bind (wpAny_rule (raise_words excClass_IndexError hA h))
      | exact wpAny_bind (wpAny_rule (wpAny_bind (raise_words excClass_IndexError hA h)))
      | exact wpAny_bind (wpAny_bind (wpAny_rule (raise_words excClass_IndexError hA h)))
      | exact wpAny_rule (raise_words excClass_IndexError hA h)
theorem getItem_bytes_out {Q : Value → Shared → Prop} (hA : A.handled = none) (hk : x.length ≤ k)
    (h : ∀ h' tk e v, Heap.MadeExcOf s.heap h' e (.type "IndexError") [v] → E (.ref e) { s with heap := h', toks := tk }) : wpAny (model prog w) A (getItem (.bytes x.toArray t) (.int (k : Int) u)) Q E s := by
  have hn : (seqIndex? (k : Int) x.toArray.size).bind (x.toArray[·]?) = none := by
    have h1 : ¬ ((k : Int) < 0) := by omega
    have h2 : ¬ ((k : Int) < x.length) := by omega
    simp [seqIndex?, h1, h2]
  generalize (k : Int) = i at hn
  generalize x.toArray = b at hn
  refine wpAny_getItem_slot (typeIs_bytes s _ t) (by decide) FB.slot_bytes_getitem ?_
  exact wpAny_call_entry FB.slot_bytes_getitem (typeIs_bytes s _ t) FB.entry_bytes_getitem (run_bytes_out hA hn h) (FB.args_bytes_getitem_2 _ _)
theorem item_bytes_out {value slice : Expr} {Q : Value → Shared → Prop} (hA : A.handled = none) (hk : x.length ≤ k)
    (h : ∀ h' tk e v, Heap.MadeExcOf s.heap h' e (.type "IndexError") [v] → E (.ref e) { s with heap := h', toks := tk })
    (hs : subscripted slice false (.bytes x.toArray t) (.int (k : Int) u) = operate [.bytes x.toArray t, .int (k : Int) u] (getItem (.bytes x.toArray t) (.int (k : Int) u)) := by with_unfolding_all rfl)
    (ht : ∀ r, letTemporaryGo value (.bytes x.toArray t) r = pure () := by intro _; with_unfolding_all rfl) : wpAny (model prog w) A (subscriptTail value slice (.bytes x.toArray t) (.int (k : Int) u)) Q E s :=
  PyProof.Rows.subscriptTail_builtin (typeIs_bytes _ _ _) FB.slot_bytes_getitem.lookup (getItem_bytes_out hA hk h) hs ht
end
end Mine
end

section
open PySem PySem.W PyProof.Rows PySem.Spec PySem.Calls Rlp
set_option Elab.async false
set_option maxRecDepth 100000
set_option maxHeartbeats 1500000
set_option linter.unusedVariables false
namespace Mine
theorem fillKJ : (fun (_ : OpenLaw) (_ : Params → Frag) => True) PySem.Challenge.rw_bi0020_01 K := by
  k_fill
  trivial
local macro_rules | `(tactic| walk_at "ENTER0") => `(tactic| (refine wpAny_call ?_; k_dflt (refine' code_def ?k1 ?k2 ?k3 ?k4 ?k5 ?kA ?kF ?kK ?k6 ?k7 ?k8 ?k9 ?kB ?_ ?c2 ?c3 ?c4 ?c5; (case kA => exact rfl); (case kF => exact And.right (by assumption)); (case kK => exact And.left (by assumption)); (case k1 => k_asm); (case k2 => k_asm); (case k3 => k_asm); (case k4 => k_asm); (case k5 => k_asm); (case k6 => k_is); (case k7 => k_is); (case k8 => ktr_room); (case k9 => first | exact BindsTo.of_eq rfl | exact binds_K (by k_in) rfl (by k_is) rfl rfl rfl); (case c5 => decide); (case kB => exact locs rfl); (case c2 => exact rfl); (case c3 => exact rfl); (case c4 => exact rfl); k_whole; intro g' L' h' FG' F' N' B' X' T'; (try dsimp only); (try k_fold))))
local macro_rules | `(tactic| walk_at "ENTER") => `(tactic| (walk_at "ENTER0"; k_steps))
local macro_rules | `(tactic| walk_at "bsz") => `(tactic| ((try simp only [List.size_toArray, List.length_append, List.length_cons, List.length_nil, be_length, beK_length, slice_length]); omega))
local macro_rules | `(tactic| walk_at "call builtin:len") => `(tactic| ((with_reducible show wpAny _ _ (call (Value.builtin _) [Value.bytes (List.toArray _) _]) _ _ _); refine len_bytes (by walk_at "bsz") ?_; (try simp only [List.size_toArray, be_length])))
local macro_rules | `(tactic| walk_at "binaryOp Add bytes bytes") => `(tactic| ((with_reducible show wpAny _ _ (binaryOp Operator.Add (Value.bytes (List.toArray _) _) (Value.bytes (List.toArray _) _)) _ _ _); refine KBy.add_bytes (by walk_at "bsz") ?_; intro _ _; (try simp only [List.append_toArray, List.cons_append, List.nil_append])))
local macro_rules | `(tactic| walk_at "subscriptTail") => `(tactic| ((with_reducible show wpAny _ _ (subscriptTail _ _ (Value.bytes (List.toArray _) _) (Value.ref _)) _ _ _); refine slice_int (s := ⟨_, _, _, _, _⟩) (by k_asm) (by k_asm) (by omega) (by omega) (by omega) ?_; intro _ _ _ _ _))
local macro_rules | `(tactic| walk_at "dp") => `(tactic| ((show _ + _ < _); simp only [ktr_dp, ktr_un]; omega))
local macro_rules | `(tactic| walk_at "call ref") => `(tactic| ((with_reducible show wpAny _ _ (call (Value.ref 1464) _) _ _ _); (k_dflt (refine' b2i ?k1 ?k2 ?k3 ?k4 ?k5 ?k6 ?k7 ?k8 ?k9 ?_; (case k1 => k_asm); (case k2 => k_asm); (case k3 => k_asm); (case k4 => k_asm); (case k5 => k_asm); (case k6 => exact ⟨rfl, rfl⟩); (case k7 => walk_at "dp"); (case k8 => walk_at "dp"); (case k9 => walk_at "bsz"))); intro _ _ _ _ _))
local macro_rules | `(tactic| walk_at "call ref") => `(tactic| ((with_reducible show wpAny _ _ (call (Value.ref 1457) _) _ _ _); (k_dflt (refine' is_b ?k1 ?k2 ?k3 ?k4 ?k5 ?k6 ?k7 ?k8 ?_; (case k1 => k_asm); (case k2 => k_asm); (case k3 => k_asm); (case k4 => k_asm); (case k5 => k_asm); (case k6 => exact ⟨rfl, rfl⟩); (case k7 => walk_at "dp"); (case k8 => walk_at "dp"))); intro _ _ _ _))
local macro_rules | `(tactic| walk_at "itd") => `(tactic| ((try simp only [decide_eq_true_eq, beq_iff_eq, Bool.not_eq_true', decide_eq_false_iff_not, bne_iff_ne, ne_eq]); omega))
local macro_rules | `(tactic| walk_at "ite") => `(tactic| first | (rw [if_pos (by walk_at "itd")]) | (rw [if_neg (by walk_at "itd")]))
local macro_rules | `(tactic| walk_at "GT") => `(tactic| ((fail_if_success (with_reducible show wpAny _ _ (subscriptTail _ _ (Value.bytes _ _) (Value.int _ _)) _ _ _))))
local macro_rules | `(tactic| walk_at "UPT") => `(tactic| repeat' (first | (k_unfold; (try dsimp only)) | (k_end; wrow_close) | (walk_at "GT"; walk1) | (dsimp only; walk_at "GT"; walk1) | (walk_at "GT"; leave1; (try dsimp only)) | fail "no step"))
section
variable {w : World} {p : Program} {loose : List Str} {mean : ExcName → Option Value} {mg mb : Str → Option Value} {dp un : Nat} {gd : Option (List Code)} {ev : Env} {outer : List Env} {A₀ : Around} {base h₀ : Heap} {L : Addr} {m : Str → Option Value} {news : List (Addr × Obj)} {s : Shared} {Q E : Value → Shared → Prop}
/-- the head at st is beyond the end -/
theorem clp_ix {x : List UInt8} {st : Nat} {t u : Tok}
    (B : Below A₀ base outer h₀) (F : Fr h₀ L s.heap m) (X : (K w.params).In h₀) (N : News h₀ L s.heap news) (T : Top p loose mean mg mb h₀) (hk : ev.scope.kind = .function ∧ ev.frame = some L)
    (hd : dp + 40 < recursionLimit) (hu : un + 100 < cLine) (hx : x.length < 2 ^ 23) (hc : clp x st = .ix)
    (hraise : ∀ h' tk' ex g' t vs, Fr h₀ L g' m → RaisedS base g' (ev :: outer) ex (.type "IndexError") t vs news h' → HasI NoCtx ex h' → g'.UpToSlots h' → E (.ref ex) { s with heap := h', toks := tk' }) :
    wpAny (model pg w) (ktrE dp un gd ev outer) (call (.ref 1736) [.bytes x.toArray t, .int st u]) Q E s := by
  unfold clp at hc
  cases hcc : x[st]? with
  | none =>
    have hst : x.length ≤ st := by
      rcases Nat.lt_or_ge st x.length with h | h
      · rw [List.getElem?_eq_getElem h] at hcc; cases hcc
      · exact h
    walk_at "ENTER0"
    rename Fr h₀ L _ _ => FG
    walk_at "UPT"
    refine item_bytes_out rfl hst fun h1 tk1 e1 v1 hm1 => ?_
    refine leave_raiseC (by assumption) hm1 (by k_asm) (by k_asm) (fun h2 t2 R2 C2 U2 => ?_)
    exact hraise _ _ _ _ _ _ FG R2 C2 U2
  | some c =>
    rw [hcc] at hc
    have hst : st < x.length := (List.getElem?_eq_some_iff.mp hcc).1
    have hcn : (x.getD (Int.toNat (st : Int)) 0).toNat = c.toNat := by simp [List.getD, hcc]
    dsimp only at hc
    have h129 : c.toNat = 129 ∧ x[st + 1]? = none := by
      split at hc
      · cases hc
      split at hc
      · split at hc
        · rename_i h9
          refine ⟨h9, ?_⟩
          cases h1 : x[st + 1]? with
          | none => rfl
          | some c' => rw [h1] at hc; dsimp only at hc; split at hc <;> cases hc
        · cases hc
      split at hc
      · split at hc
        · cases hc
        split at hc <;> cases hc
      split at hc
      · cases hc
      split at hc
      · cases hc
      split at hc <;> cases hc
    have hst1 : x.length ≤ st + 1 := by
      rcases Nat.lt_or_ge (st + 1) x.length with h | h
      · rw [List.getElem?_eq_getElem h] at h129; cases h129.2
      · exact h
    have h9 := h129.1
    walk_at "ENTER0"
    rename Fr h₀ L _ _ => FG
    walk_at "UPT"
    walk1
    walk_at "UPT"
    refine item_bytes_out (k := st + 1) rfl hst1 fun h1 tk1 e1 v1 hm1 => ?_
    refine leave_raiseC (by assumption) hm1 (by k_asm) (by k_asm) (fun h2 t2 R2 C2 U2 => ?_)
    exact hraise _ _ _ _ _ _ FG R2 C2 U2
end
end Mine
end

section
open PySem PySem.W PyProof.Rows PySem.Spec PySem.Calls Rlp
set_option Elab.async false
set_option maxRecDepth 100000
set_option maxHeartbeats 1500000
set_option linter.unusedVariables false
namespace Mine
theorem fillKK : (fun (_ : OpenLaw) (_ : Params → Frag) => True) PySem.Challenge.rw_bi0020_01 K := by
  k_fill
  trivial
local macro_rules | `(tactic| walk_at "ENTER0") => `(tactic| (refine wpAny_call ?_; k_dflt (refine' code_def ?k1 ?k2 ?k3 ?k4 ?k5 ?kA ?kF ?kK ?k6 ?k7 ?k8 ?k9 ?kB ?_ ?c2 ?c3 ?c4 ?c5; (case kA => exact rfl); (case kF => exact And.right (by assumption)); (case kK => exact And.left (by assumption)); (case k1 => k_asm); (case k2 => k_asm); (case k3 => k_asm); (case k4 => k_asm); (case k5 => k_asm); (case k6 => k_is); (case k7 => k_is); (case k8 => ktr_room); (case k9 => first | exact BindsTo.of_eq rfl | exact binds_K (by k_in) rfl (by k_is) rfl rfl rfl); (case c5 => decide); (case kB => exact locs rfl); (case c2 => exact rfl); (case c3 => exact rfl); (case c4 => exact rfl); k_whole; intro g' L' h' FG' F' N' B' X' T'; (try dsimp only); (try k_fold))))
local macro_rules | `(tactic| walk_at "ENTER") => `(tactic| (walk_at "ENTER0"; k_steps))
local macro_rules | `(tactic| walk_at "bsz") => `(tactic| ((try simp only [List.size_toArray, List.length_append, List.length_cons, List.length_nil, be_length, beK_length, slice_length]); omega))
local macro_rules | `(tactic| walk_at "call builtin:len") => `(tactic| ((with_reducible show wpAny _ _ (call (Value.builtin _) [Value.bytes (List.toArray _) _]) _ _ _); refine len_bytes (by walk_at "bsz") ?_; (try simp only [List.size_toArray, be_length])))
local macro_rules | `(tactic| walk_at "binaryOp Add bytes bytes") => `(tactic| ((with_reducible show wpAny _ _ (binaryOp Operator.Add (Value.bytes (List.toArray _) _) (Value.bytes (List.toArray _) _)) _ _ _); refine KBy.add_bytes (by walk_at "bsz") ?_; intro _ _; (try simp only [List.append_toArray, List.cons_append, List.nil_append])))
local macro_rules | `(tactic| walk_at "subscriptTail") => `(tactic| ((with_reducible show wpAny _ _ (subscriptTail _ _ (Value.bytes (List.toArray _) _) (Value.ref _)) _ _ _); refine slice_int (s := ⟨_, _, _, _, _⟩) (by k_asm) (by k_asm) (by omega) (by omega) (by omega) ?_; intro _ _ _ _ _))
local macro_rules | `(tactic| walk_at "dp") => `(tactic| ((show _ + _ < _); simp only [ktr_dp, ktr_un]; omega))
local macro_rules | `(tactic| walk_at "call ref") => `(tactic| ((with_reducible show wpAny _ _ (call (Value.ref 1464) _) _ _ _); (k_dflt (refine' b2i ?k1 ?k2 ?k3 ?k4 ?k5 ?k6 ?k7 ?k8 ?k9 ?_; (case k1 => k_asm); (case k2 => k_asm); (case k3 => k_asm); (case k4 => k_asm); (case k5 => k_asm); (case k6 => exact ⟨rfl, rfl⟩); (case k7 => walk_at "dp"); (case k8 => walk_at "dp"); (case k9 => walk_at "bsz"))); intro _ _ _ _ _))
local macro_rules | `(tactic| walk_at "call ref") => `(tactic| ((with_reducible show wpAny _ _ (call (Value.ref 1736) _) _ _ _); (k_dflt (refine' clp_ok ?k1 ?k2 ?k3 ?k4 ?k5 ?k6 ?k7 ?k8 ?k9 ?k0 ?_; (case k1 => k_asm); (case k2 => k_asm); (case k3 => k_asm); (case k4 => k_asm); (case k5 => k_asm); (case k6 => exact ⟨rfl, rfl⟩); (case k7 => walk_at "dp"); (case k8 => walk_at "dp"); (case k9 => walk_at "bsz"); (case k0 => assumption))); intro _ _ _ _ _ _ _ _ _ _))
local macro_rules | `(tactic| walk_at "call ref") => `(tactic| ((with_reducible show wpAny _ _ (call (Value.ref 1457) _) _ _ _); (k_dflt (refine' is_b ?k1 ?k2 ?k3 ?k4 ?k5 ?k6 ?k7 ?k8 ?_; (case k1 => k_asm); (case k2 => k_asm); (case k3 => k_asm); (case k4 => k_asm); (case k5 => k_asm); (case k6 => exact ⟨rfl, rfl⟩); (case k7 => walk_at "dp"); (case k8 => walk_at "dp"))); intro _ _ _ _))
local macro_rules | `(tactic| walk_at "exec Raise some none") => `(tactic| (k_here; (with_reducible show wpAny _ _ (exec (Stmt.Raise (some _) none _) _) _ _ _); k_dflt (refine raise_row rfl ?_)))
local macro_rules | `(tactic| walk_at "call ref") => `(tactic| ((with_reducible show wpAny _ _ (call (Value.ref 74) [_, _]) _ _ _); (k_dflt (refine' mk_DE ?k1 ?k2 ?k3 ?k4 ?k5 ?k6 ?k7 ?k8 ?_; (case k1 => k_asm); (case k2 => k_asm); (case k3 => k_asm); (case k4 => k_asm); (case k5 => k_asm); (case k6 => exact ⟨rfl, rfl⟩); (case k7 => walk_at "dp"); (case k8 => walk_at "dp"))); intro _ _ _ _ _ _ _ _ _ _; refine RaiseOk.intro (by k_asm) (by k_asm) (by k_asm) (.head _) (exc74 _) ?_))
local macro_rules | `(tactic| walk_at "leaving ref") => `(tactic| ((with_reducible show wpAny _ _ (leaving _ (Value.ref _)) _ _ _); (refine' leave_excS ?k1 ?k2 ?k3 ?k4 ?k5 ?_; (case k1 => assumption); (case k2 => assumption); (case k3 => k_asm); (case k4 => exact off_both (by assumption) (by assumption)); (case k5 => assumption)); intro _ _ _ _))
local macro_rules | `(tactic| walk_at "GW") => `(tactic| ((fail_if_success (with_reducible show wpAny _ _ (exec (Stmt.While _ _ _ _) _) _ _ _))))
local macro_rules | `(tactic| walk_at "UPW") => `(tactic| repeat' (first | (k_unfold; (try dsimp only)) | (k_end; wrow_close) | (walk_at "GW"; walk1) | (dsimp only; walk_at "GW"; walk1) | (walk_at "GW"; leave1; (try dsimp only)) | fail "no step"))
local macro_rules | `(tactic| walk_at "GC") => `(tactic| ((fail_if_success (with_reducible show wpAny _ _ (call (Value.ref 1736) _ _) _ _ _)); (fail_if_success (with_reducible show wpAny _ _ (call (Value.ref 1743) _ _) _ _ _))))
local macro_rules | `(tactic| walk_at "UPC") => `(tactic| repeat' (first | (k_unfold; (try dsimp only)) | (k_end; wrow_close) | (walk_at "GC"; walk1) | (dsimp only; walk_at "GC"; walk1) | (walk_at "GC"; leave1; (try dsimp only)) | fail "no step"))
local macro_rules | `(tactic| k_all) => `(tactic| assumption)
local macro_rules | `(tactic| k_ne) => `(tactic| assumption)
/-- the class of what a refused head raises -/
def flyCls (b : Bool) : Value := match b with | true => .type "IndexError" | false => .ref 74
section
variable {M : Model} {A : Around} {E : Value → Shared → Prop} {s' : Shared} {base g g₂ h : Heap} {outer : List Env} {L a e t : Addr} {m : Str → Option Value} {name : Str} {scope : Scope} {cd : Value} {Q : Unit → Shared → Prop} {news : List (Addr × Obj)} {vs : List Value} {b : Bool}
theorem leave_onF (K : Below A base outer g) (F : Fr g L g₂ m) (R : RaisedS base g₂ (envOf name scope L a cd :: outer) e (flyCls b) t vs news s'.heap) (C : b = true → HasI NoCtx e s'.heap) (hsm : g₂.UpToSlots s'.heap)
    (hQ : ∀ h', RaisedS base g outer e (flyCls b) t vs news h' → (b = true → HasI NoCtx e h') → g.UpToSlots h' → Q () { s' with heap := h' }) :
    wpAny M (A.deeper (envOf name scope L a cd)) (leaving (envOf name scope L a cd) (.ref e)) Q E s' := by
  cases b with
  | false => exact leave_onS K F R hsm fun h' r _ u => hQ h' r (fun x => nomatch x) u
  | true => exact leave_onC K F R (C rfl) hsm fun h' r c u => hQ h' r (fun _ => c) u
end
/-- consume_payload refuses, at the depth k -/
def PayBad (w : World) (k : Nat) : Prop := ∀ {p : Program} {loose : List Str} {mean : ExcName → Option Value} {mg mb : Str → Option Value} {dp un : Nat} {gd : Option (List Code)} {ev : Env} {outer : List Env} {A₀ : Around} {base h₀ : Heap} {L : Addr} {m : Str → Option Value} {news : List (Addr × Obj)} {s : Shared} {Q E : Value → Shared → Prop}
    {x q : List UInt8} {row b : Bool} {e l : Nat} {t t1 t2 t3 t4 : Tok}, Below A₀ base outer h₀ → Fr h₀ L s.heap m → (K w.params).In h₀ → News h₀ L s.heap news → Top p loose mean mg mb h₀ → (ev.scope.kind = .function ∧ ev.frame = some L) →
    dp + 60 + 2 * k < recursionLimit → un + 140 + 10 * k < cLine → x.length < 2 ^ 23 → q.length < 20 → flaw (pay x k q row l e) = some b →
    (∀ h' tk' ex g' t vs, Fr h₀ L g' m → RaisedS base g' (ev :: outer) ex (flyCls b) t vs news h' → (b = true → HasI NoCtx ex h') → g'.UpToSlots h' → E (.ref ex) { s with heap := h', toks := tk' }) →
    wpAny (model pg w) (ktrE dp un gd ev outer) (call (.ref 1743) [.bytes x.toArray t, .bytes q.toArray t1, .int e t2, .str (Str.ofString (if row then "list" else "bytes")) t3, .int l t4]) Q E s
theorem payb_call {w : World} {k : Nat} (H : PayBad w k) {p : Program} {loose : List Str} {mean : ExcName → Option Value} {mg mb : Str → Option Value} {dp un : Nat} {gd : Option (List Code)} {ev : Env} {outer : List Env} {A₀ : Around} {base h₀ : Heap} {L : Addr} {m : Str → Option Value} {news : List (Addr × Obj)} {s : Shared} {Q E : Value → Shared → Prop}
    {x q : List UInt8} {row b : Bool} {e l : Nat} {t t1 t2 t3 t4 : Tok} (B : Below A₀ base outer h₀) (F : Fr h₀ L s.heap m) (X : (K w.params).In h₀) (N : News h₀ L s.heap news) (T : Top p loose mean mg mb h₀) (hk : ev.scope.kind = .function ∧ ev.frame = some L)
    (hd : dp + 60 + 2 * k < recursionLimit) (hu : un + 140 + 10 * k < cLine) (hx : x.length < 2 ^ 23) (hq : q.length < 20) (hl : flaw (pay x k q row l e) = some b)
    (hraise : ∀ h' tk' ex g' t vs, Fr h₀ L g' m → RaisedS base g' (ev :: outer) ex (flyCls b) t vs news h' → (b = true → HasI NoCtx ex h') → g'.UpToSlots h' → E (.ref ex) { s with heap := h', toks := tk' }) :
    wpAny (model pg w) (ktrE dp un gd ev outer) (call (.ref 1743) [.bytes x.toArray t, .bytes q.toArray t1, .int e t2, .str (Str.ofString (if row then "list" else "bytes")) t3, .int l t4]) Q E s := H B F X N T hk hd hu hx hq hl hraise
section
variable {w : World} {p : Program} {loose : List Str} {mean : ExcName → Option Value} {mg mb : Str → Option Value} {dp un : Nat} {gd : Option (List Code)} {ev : Env} {outer : List Env} {A₀ : Around} {base h₀ : Heap} {L : Addr} {m : Str → Option Value} {news : List (Addr × Obj)} {s : Shared} {Q E : Value → Shared → Prop}
theorem clp_bad {x : List UInt8} {st : Nat} {t u : Tok} {b : Bool}
    (B : Below A₀ base outer h₀) (F : Fr h₀ L s.heap m) (X : (K w.params).In h₀) (N : News h₀ L s.heap news) (T : Top p loose mean mg mb h₀) (hk : ev.scope.kind = .function ∧ ev.frame = some L)
    (hd : dp + 40 < recursionLimit) (hu : un + 100 < cLine) (hx : x.length < 2 ^ 23) (hc : flaw (clp x st) = some b)
    (hraise : ∀ h' tk' ex g' t vs, Fr h₀ L g' m → RaisedS base g' (ev :: outer) ex (flyCls b) t vs news h' → (b = true → HasI NoCtx ex h') → g'.UpToSlots h' → E (.ref ex) { s with heap := h', toks := tk' }) :
    wpAny (model pg w) (ktrE dp un gd ev outer) (call (.ref 1736) [.bytes x.toArray t, .int st u]) Q E s := by
  cases hcc : clp x st with
  | ok v => rw [hcc] at hc; cases hc
  | out => rw [hcc] at hc; cases hc
  | ix =>
    rw [hcc] at hc
    cases hc
    exact clp_ix B F X N T hk hd hu hx hcc fun h' tk' ex g' t vs F' R' C' U' => hraise h' tk' ex g' t vs F' R' (fun _ => C') U'
  | de =>
    rw [hcc] at hc
    cases hc
    exact clp_de B F X N T hk hd hu hx hcc fun h' tk' ex g' t vs F' R' U' => hraise h' tk' ex g' t vs F' R' (fun z => nomatch z) U'
theorem pay_bad_l (dep : Nat) (hrec : ∀ k, dep = k + 1 → PayBad w k) {x q : List UInt8} {e l : Nat} {b : Bool} {t t1 t2 t3 t4 : Tok}
    (B : Below A₀ base outer h₀) (F : Fr h₀ L s.heap m) (X : (K w.params).In h₀) (N : News h₀ L s.heap news) (T : Top p loose mean mg mb h₀) (hk : ev.scope.kind = .function ∧ ev.frame = some L)
    (hd : dp + 60 + 2 * dep < recursionLimit) (hu : un + 140 + 10 * dep < cLine) (hx : x.length < 2 ^ 23) (hq : q.length < 20) (hl : flaw (pay x dep q true l e) = some b)
    (hraise : ∀ h' tk' ex g' t vs, Fr h₀ L g' m → RaisedS base g' (ev :: outer) ex (flyCls b) t vs news h' → (b = true → HasI NoCtx ex h') → g'.UpToSlots h' → E (.ref ex) { s with heap := h', toks := tk' }) :
    wpAny (model pg w) (ktrE dp un gd ev outer) (call (.ref 1743) [.bytes x.toArray t, .bytes q.toArray t1, .int e t2, .str (Str.ofString "list") t3, .int l t4]) Q E s := by
  obtain ⟨_, hlo⟩ := flaw_pay hl
  walk_at "ENTER0"
  rename Fr h₀ L _ _ => FG
  walk_at "UPW"
  rename_i I _ lI _ _ P _ lP _ _ _ h1 F1 N1
  have N2 : News _ _ h1 ((P, W.listOf (([] : List Value)).toArray 0) :: (I, W.listOf (([] : List Value)).toArray 0) :: (([] : List (Addr × Obj)) ++ news)) := N1
  skip
  refine ksw_while (σ := PS) (fun c => (P, W.listOf c.ps.toArray c.n2) :: (I, W.listOf c.vs.toArray c.n1) :: (c.Z ++ news)) (fun c => [(Str.ofString "list_rlp", .bytes (q ++ c.rs).toArray c.t1), (Str.ofString "next_item_start", .int (c.next : Int) c.t2)])
    (fun c => (∀ p ∈ c.Z, (∀ r ∈ news, r.1 < p.1) ∧ p.1 ≠ I ∧ p.1 ≠ P) ∧ DsIn c.Z c.vs c.ds ∧ c.ps.length = c.ds.length ∧ c.rs.length ≤ c.next - e ∧ c.rs.length ≤ x.length - e ∧ c.ds.length ≤ c.next - e ∧ c.ds.length ≤ x.length ∧ e ≤ c.next) [Str.ofString "p", Str.ofString "t", Str.ofString "l", Str.ofString "s", Str.ofString "item", Str.ofString "item_rlp"]
    (fun c => ∃ n, flawL (e + l) (clLoop (item x dep) (e + l) n c.next) = some b) (fun c => e + l - c.next) ⟨[], [], [], [], e, 0, 0, t1, t2, []⟩ F1 N2 ?_ ?_ ?_ ?_ ?_
  · exact ⟨fun p hp => (List.not_mem_nil hp).elim, DsIn.nil, rfl, Nat.zero_le _, Nat.zero_le _, Nat.zero_le _, Nat.zero_le _, Nat.le_refl _⟩
  · simp only [List.append_nil]
    kst_all
  · exact ⟨l + 1, hlo⟩
  · intro c u h2 tk2 hf hP F2 N2
    obtain ⟨hZ, hDs, hps, hr1, hr2, hd1, hd2, hen⟩ := hf
    have hvl := DsIn.len hDs
    obtain ⟨n, hcl⟩ := hP
    rcases flaw_loop hcl with ⟨hlt, n', hst⟩ | ⟨hge, hb, hgt⟩
    · rcases hst with hbad | ⟨d, r, nx, hit, hcl2⟩
      · obtain ⟨k, hdk, hbad2⟩ := flaw_item hbad
        clear hbad
        subst hdk
        rcases hbad2 with hc | ⟨qq, row, ll, ss, hc, hp⟩
        · walk_at "UPC"
          k_dflt (refine' clp_bad ?k1 ?k2 ?k3 ?k4 ?k5 ?k6 ?k7 ?k8 ?k9 hc ?_; (case k1 => k_asm); (case k2 => k_asm); (case k3 => k_asm); (case k4 => k_asm); (case k5 => k_asm); (case k6 => exact ⟨rfl, rfl⟩); (case k7 => walk_at "dp"); (case k8 => walk_at "dp"); (case k9 => walk_at "bsz"))
          intro h9 tk9 ex g9 t9 vs9 F9 R9 C9 U9
          refine leave_onF (by assumption) F9 R9 C9 U9 fun h8 R8 C8 U8 => ?_
          exact hraise _ _ _ _ _ _ FG (RaisedS.sub R8 fun p hp => .tail _ (.tail _ (List.mem_append_right _ hp))) C8 U8
        · have hc9 := clp_len hc
          walk_at "UPC"
          k_dflt (refine' clp_ok ?k1 ?k2 ?k3 ?k4 ?k5 ?k6 ?k7 ?k8 ?k9 hc ?_; (case k1 => k_asm); (case k2 => k_asm); (case k3 => k_asm); (case k4 => k_asm); (case k5 => k_asm); (case k6 => exact ⟨rfl, rfl⟩); (case k7 => walk_at "dp"); (case k8 => walk_at "dp"); (case k9 => walk_at "bsz"))
          intro _ _ _ _ _ _ _ _ _ _
          walk_at "UPC"
          k_dflt (refine' payb_call (hrec k rfl) ?k1 ?k2 ?k3 ?k4 ?k5 ?k6 ?k7 ?k8 ?k9 ?k0 hp ?_; (case k1 => k_asm); (case k2 => k_asm); (case k3 => k_asm); (case k4 => k_asm); (case k5 => k_asm); (case k6 => exact ⟨rfl, rfl⟩); (case k7 => walk_at "dp"); (case k8 => walk_at "dp"); (case k9 => exact hx); (case k0 => omega))
          intro h9 tk9 ex g9 t9 vs9 F9 R9 C9 U9
          refine leave_onF (by assumption) F9 R9 C9 U9 fun h8 R8 C8 U8 => ?_
          exact hraise _ _ _ _ _ _ FG (RaisedS.sub R8 fun p hp => .tail _ (.tail _ (.tail _ (List.mem_append_right _ hp)))) C8 U8
      · obtain ⟨k, qq, row, ll, ss, hdk, hc, hp⟩ := item_split hit
        subst hdk
        have hh : PaySpec w k := pay_all w k
        have hil := item_len hit
        have hnx := item_ge hit
        have hnx0 : c.next < x.length := (clp_ge hc).2.2.2
        have hrl : (q ++ c.rs).length + r.length ≤ 2 ^ 23 + 20 := by rw [List.length_append]; omega
        have hdl : c.ds.length < 2 ^ 23 := by omega
        have hc9 := clp_len hc
        k_steps
        k_dflt (refine' pay_call hh ?k1 ?k2 ?k3 ?k4 ?k5 ?k6 ?k7 ?k8 ?k9 ?k0 ?ka ?_; (case k1 => k_asm); (case k2 => k_asm); (case k3 => k_asm); (case k4 => k_asm); (case k5 => k_asm); (case k6 => exact ⟨rfl, rfl⟩); (case k7 => walk_at "dp"); (case k8 => walk_at "dp"); (case k9 => exact hx); (case k0 => omega); (case ka => exact hp))
        intro h3 tk3 b2 v u2 u3 pr its n9 Z F3 N3 hZ3 hb3 hv3 hpr3
        have N4 := pay_led N3 hb3 hpr3
        have hPr : ∀ p ∈ (Z ++ c.Z) ++ news, p.1 ≠ P := by
          intro p hp
          rcases List.mem_append.mp hp with hp | hp
          · rcases List.mem_append.mp hp with hp | hp
            · exact Nat.ne_of_gt (hZ3 p hp _ (.tail _ (.head _)))
            · exact (hZ p hp).2.2
          · exact Nat.ne_of_lt (of_allLt1 lP p hp)
        have hIr : ∀ p ∈ (Z ++ c.Z) ++ news, p.1 ≠ I := by
          intro p hp
          rcases List.mem_append.mp hp with hp | hp
          · rcases List.mem_append.mp hp with hp | hp
            · exact Nat.ne_of_gt (hZ3 p hp _ (.tail _ (.tail _ (.head _))))
            · exact (hZ p hp).2.1
          · exact Nat.ne_of_lt (lI p hp)
        have hbP : b2 ≠ P := hPr _ (List.mem_append_left _ (List.mem_append_left _ hb3))
        have hbI : b2 ≠ I := hIr _ (List.mem_append_left _ (List.mem_append_left _ hb3))
        have hpP : pr ≠ P := hPr _ (List.mem_append_left _ (List.mem_append_left _ hpr3))
        have hpI : pr ≠ I := hIr _ (List.mem_append_left _ (List.mem_append_left _ hpr3))
        have hIP : I ≠ P := Nat.ne_of_lt lP.1
        have hPI : P ≠ I := hIP.symm
        clear N3
        k_steps
        skip
        refine iadd_bytes (b := (q ++ c.rs).toArray) (c := r.toArray) (by simpa using Nat.le_trans hrl (by decide)) fun t9 k9 => ?_
        rw [List.append_toArray]
        k_steps
        rename_i NZ
        simp only [List.push_toArray] at NZ
        refine ksw_end (⟨c.ds ++ [d], c.rs ++ r, c.vs ++ [v], c.ps ++ [.ref pr], nx, c.n1 + 1, c.n2 + 1, t9, u2, Z ++ c.Z⟩ : PS) (by assumption) NZ (fun p hp => .tail _ (.tail _ hp)) ⟨fun p hp => ⟨?_, ?_, ?_⟩, ?_, ?_, ?_, ?_, ?_, ?_, ?_⟩ ?_ ?_ ⟨n', hcl2⟩ ?_
        · intro r' hr'
          rcases List.mem_append.mp hp with hp | hp
          · exact hZ3 p hp _ (.tail _ (.tail _ (.tail _ (List.mem_append_right _ hr'))))
          · exact (hZ p hp).1 r' hr'
        · exact hIr p (List.mem_append_left _ hp)
        · exact hPr p (List.mem_append_left _ hp)
        · exact DsIn.snoc (DsIn.mono (fun p hp => List.mem_append_right _ hp) hDs) (DIn.mono (fun p hp => List.mem_append_left _ hp) hv3)
        · simp [hps]
        · show (c.rs ++ r).length ≤ nx - e
          rw [List.length_append]; omega
        · show (c.rs ++ r).length ≤ x.length - e
          rw [List.length_append]; omega
        · show (c.ds ++ [d]).length ≤ nx - e
          rw [List.length_append, List.length_singleton]; omega
        · show (c.ds ++ [d]).length ≤ x.length
          rw [List.length_append, List.length_singleton]; omega
        · show e ≤ nx
          omega
        · simp only [← List.append_assoc]
          kst_all
        · intro z h2 h3
          simp only [List.forall_mem_cons, List.not_mem_nil, false_implies, implies_true, and_true, ne_eq] at h2
          have h4 := h3
          simp only [List.contains_cons, List.contains_nil, Bool.or_false, Bool.or_eq_false_iff, beq_eq_false_iff_ne, ne_eq] at h4
          simp only [kstB, h2, h3, h4, if_false, Bool.false_eq_true]
        · show e + l - nx < e + l - c.next
          omega
    · subst hb
      have hPn : ∀ p ∈ (I, W.listOf c.vs.toArray c.n1) :: (c.Z ++ news), p.1 ≠ P := by
        intro p hp
        rcases List.mem_cons.mp hp with rfl | hp
        · exact Nat.ne_of_lt lP.1
        · rcases List.mem_append.mp hp with hp | hp
          · exact (hZ p hp).2.2
          · exact Nat.ne_of_lt (of_allLt1 lP p hp)
      k_steps
      refine kl_insert (l := Value.bytes (q ++ c.rs).toArray c.t1 :: c.ps) (n := c.n2) (its := c.ps.toArray) (by k_asm) (by k_asm) rfl (by simp [kl_ins]) (.head hPn) (by simp [sizeLine]; omega) ?_
      intro h9 F9 N9
      k_steps
      rename RaisedS base _ (ev :: outer) _ _ _ _ _ _ => R9
      rename Heap.UpToSlots _ _ => U9
      exact hraise _ _ _ _ _ _ FG (RaisedS.sub R9 fun p hp => .tail _ (.tail _ (List.mem_append_right _ hp))) (fun z => nomatch z) U9
  · passes_own
end
end Mine
end

section
open PySem PySem.W PyProof.Rows PySem.Spec PySem.Calls Rlp
set_option Elab.async false
set_option maxRecDepth 100000
set_option maxHeartbeats 1500000
set_option linter.unusedVariables false
namespace Mine
theorem fillKL : (fun (_ : OpenLaw) (_ : Params → Frag) => True) PySem.Challenge.rw_bi0020_01 K := by
  k_fill
  trivial
local macro_rules | `(tactic| walk_at "nil9") => `(tactic| fail "none")
local macro_rules | `(tactic| walk_at "ENTER0") => `(tactic| (refine wpAny_call ?_; k_dflt (refine' code_def ?k1 ?k2 ?k3 ?k4 ?k5 ?kA ?kF ?kK ?k6 ?k7 ?k8 ?k9 ?kB ?_ ?c2 ?c3 ?c4 ?c5; (case kA => exact rfl); (case kF => exact And.right (by assumption)); (case kK => exact And.left (by assumption)); (case k1 => k_asm); (case k2 => k_asm); (case k3 => k_asm); (case k4 => k_asm); (case k5 => k_asm); (case k6 => k_is); (case k7 => k_is); (case k8 => ktr_room); (case k9 => first | exact BindsTo.of_eq rfl | exact binds_K (by k_in) rfl (by k_is) rfl rfl rfl); (case c5 => decide); (case kB => exact locs rfl); (case c2 => exact rfl); (case c3 => exact rfl); (case c4 => exact rfl); k_whole; intro g' L' h' FG' F' N' B' X' T'; (try dsimp only); (try k_fold))))
local macro_rules | `(tactic| walk_at "ENTER") => `(tactic| (walk_at "ENTER0"; k_steps))
local macro_rules | `(tactic| walk_at "bsz") => `(tactic| ((try simp only [List.size_toArray, List.length_append, List.length_cons, List.length_nil, be_length, beK_length, slice_length]); omega))
local macro_rules | `(tactic| walk_at "call builtin:len") => `(tactic| ((with_reducible show wpAny _ _ (call (Value.builtin _) [Value.bytes (List.toArray _) _]) _ _ _); refine len_bytes (by walk_at "bsz") ?_; (try simp only [List.size_toArray, be_length])))
local macro_rules | `(tactic| walk_at "binaryOp Add bytes bytes") => `(tactic| ((with_reducible show wpAny _ _ (binaryOp Operator.Add (Value.bytes (List.toArray _) _) (Value.bytes (List.toArray _) _)) _ _ _); refine KBy.add_bytes (by walk_at "bsz") ?_; intro _ _; (try simp only [List.append_toArray, List.cons_append, List.nil_append])))
local macro_rules | `(tactic| walk_at "subscriptTail") => `(tactic| ((with_reducible show wpAny _ _ (subscriptTail _ _ (Value.bytes (List.toArray _) _) (Value.ref _)) _ _ _); refine slice_int (s := ⟨_, _, _, _, _⟩) (by k_asm) (by k_asm) (by omega) (by omega) (by omega) ?_; intro _ _ _ _ _))
local macro_rules | `(tactic| walk_at "dp") => `(tactic| ((show _ + _ < _); simp only [ktr_dp, ktr_un]; omega))
local macro_rules | `(tactic| walk_at "call ref") => `(tactic| ((with_reducible show wpAny _ _ (call (Value.ref 1464) _) _ _ _); (k_dflt (refine' b2i ?k1 ?k2 ?k3 ?k4 ?k5 ?k6 ?k7 ?k8 ?k9 ?_; (case k1 => k_asm); (case k2 => k_asm); (case k3 => k_asm); (case k4 => k_asm); (case k5 => k_asm); (case k6 => exact ⟨rfl, rfl⟩); (case k7 => walk_at "dp"); (case k8 => walk_at "dp"); (case k9 => walk_at "bsz"))); intro _ _ _ _ _))
local macro_rules | `(tactic| walk_at "call ref") => `(tactic| ((with_reducible show wpAny _ _ (call (Value.ref 1736) _) _ _ _); (k_dflt (refine' clp_ok ?k1 ?k2 ?k3 ?k4 ?k5 ?k6 ?k7 ?k8 ?k9 ?k0 ?_; (case k1 => k_asm); (case k2 => k_asm); (case k3 => k_asm); (case k4 => k_asm); (case k5 => k_asm); (case k6 => exact ⟨rfl, rfl⟩); (case k7 => walk_at "dp"); (case k8 => walk_at "dp"); (case k9 => walk_at "bsz"); (case k0 => assumption))); intro _ _ _ _ _ _ _ _ _ _))
local macro_rules | `(tactic| walk_at "call ref") => `(tactic| ((with_reducible show wpAny _ _ (call (Value.ref 1457) _) _ _ _); (k_dflt (refine' is_b ?k1 ?k2 ?k3 ?k4 ?k5 ?k6 ?k7 ?k8 ?_; (case k1 => k_asm); (case k2 => k_asm); (case k3 => k_asm); (case k4 => k_asm); (case k5 => k_asm); (case k6 => exact ⟨rfl, rfl⟩); (case k7 => walk_at "dp"); (case k8 => walk_at "dp"))); intro _ _ _ _))
local macro_rules | `(tactic| walk_at "exec Raise some none") => `(tactic| (k_here; (with_reducible show wpAny _ _ (exec (Stmt.Raise (some _) none _) _) _ _ _); k_dflt (refine raise_row rfl ?_)))
local macro_rules | `(tactic| walk_at "call ref") => `(tactic| ((with_reducible show wpAny _ _ (call (Value.ref 74) [_, _]) _ _ _); (k_dflt (refine' mk_DE ?k1 ?k2 ?k3 ?k4 ?k5 ?k6 ?k7 ?k8 ?_; (case k1 => k_asm); (case k2 => k_asm); (case k3 => k_asm); (case k4 => k_asm); (case k5 => k_asm); (case k6 => exact ⟨rfl, rfl⟩); (case k7 => walk_at "dp"); (case k8 => walk_at "dp"))); intro _ _ _ _ _ _ _ _ _ _; refine RaiseOk.intro (by k_asm) (by k_asm) (by k_asm) (.head _) (exc74 _) ?_))
local macro_rules | `(tactic| walk_at "leaving ref") => `(tactic| ((with_reducible show wpAny _ _ (leaving _ (Value.ref _)) _ _ _); (refine' leave_excS ?k1 ?k2 ?k3 ?k4 ?k5 ?_; (case k1 => assumption); (case k2 => assumption); (case k3 => k_asm); (case k4 => exact off_both (by assumption) (by assumption)); (case k5 => assumption)); intro _ _ _ _))
local macro_rules | `(tactic| walk_at "GW") => `(tactic| ((fail_if_success (with_reducible show wpAny _ _ (exec (Stmt.While _ _ _ _) _) _ _ _))))
local macro_rules | `(tactic| walk_at "UPW") => `(tactic| repeat' (first | (k_unfold; (try dsimp only)) | (k_end; wrow_close) | (walk_at "GW"; walk1) | (dsimp only; walk_at "GW"; walk1) | (walk_at "GW"; leave1; (try dsimp only)) | fail "no step"))
local macro_rules | `(tactic| walk_at "GC") => `(tactic| ((fail_if_success (with_reducible show wpAny _ _ (call (Value.ref 1736) _ _) _ _ _)); (fail_if_success (with_reducible show wpAny _ _ (call (Value.ref 1743) _ _) _ _ _))))
local macro_rules | `(tactic| walk_at "UPC") => `(tactic| repeat' (first | (k_unfold; (try dsimp only)) | (k_end; wrow_close) | (walk_at "GC"; walk1) | (dsimp only; walk_at "GC"; walk1) | (walk_at "GC"; leave1; (try dsimp only)) | fail "no step"))
local macro_rules | `(tactic| k_all) => `(tactic| assumption)
local macro_rules | `(tactic| k_ne) => `(tactic| assumption)
theorem payb_all (w : World) : ∀ k, PayBad w k := by
  have all : ∀ n k, k < n → PayBad w k := by
    intro n
    induction n with
    | zero => intro k h; exact absurd h (Nat.not_lt_zero _)
    | succ n ih =>
      intro k hk
      unfold PayBad
      intro p loose mean mg mb dp un gd ev outer A₀ base h₀ L m news s Q E x q row b e l t t1 t2 t3 t4 B F X N T hf hd hu hx hq hl hraise
      obtain ⟨hrow, _⟩ := flaw_pay hl
      subst hrow
      exact pay_bad_l k (fun k' h' => ih k' (by omega)) B F X N T hf hd hu hx hq hl hraise
  exact fun k => all (k + 1) k (Nat.lt_succ_self k)
section
variable {w : World} {p : Program} {loose : List Str} {mean : ExcName → Option Value} {mg mb : Str → Option Value} {dp un : Nat} {gd : Option (List Code)} {ev : Env} {outer : List Env} {A₀ : Around} {base h₀ : Heap} {L : Addr} {m : Str → Option Value} {news : List (Addr × Obj)} {s : Shared} {Q E : Value → Shared → Prop}
/-- consume_item refuses -/
theorem it_bad {x : List UInt8} {st dep : Nat} {b : Bool} {t u : Tok}
    (B : Below A₀ base outer h₀) (F : Fr h₀ L s.heap m) (X : (K w.params).In h₀) (N : News h₀ L s.heap news) (T : Top p loose mean mg mb h₀) (hk : ev.scope.kind = .function ∧ ev.frame = some L)
    (hd : dp + 70 + 2 * dep < recursionLimit) (hu : un + 160 + 10 * dep < cLine) (hx : x.length < 2 ^ 23) (hi : flaw (item x dep st) = some b)
    (hraise : ∀ h' tk' ex g' t vs, Fr h₀ L g' m → RaisedS base g' (ev :: outer) ex (flyCls b) t vs news h' → (b = true → HasI NoCtx ex h') → g'.UpToSlots h' → E (.ref ex) { s with heap := h', toks := tk' }) :
    wpAny (model pg w) (ktrE dp un gd ev outer) (call (.ref 1750) [.bytes x.toArray t, .int st u]) Q E s := by
  obtain ⟨k, hdk, hbad⟩ := flaw_item hi
  clear hi
  subst hdk
  rcases hbad with hc | ⟨qq, row, ll, ss, hc, hp⟩
  · walk_at "ENTER0"
    rename Fr h₀ L _ _ => FG
    walk_at "UPC"
    k_dflt (refine' clp_bad ?k1 ?k2 ?k3 ?k4 ?k5 ?k6 ?k7 ?k8 ?k9 hc ?_; (case k1 => k_asm); (case k2 => k_asm); (case k3 => k_asm); (case k4 => k_asm); (case k5 => k_asm); (case k6 => exact ⟨rfl, rfl⟩); (case k7 => walk_at "dp"); (case k8 => walk_at "dp"); (case k9 => walk_at "bsz"))
    intro h9 tk9 ex g9 t9 vs9 F9 R9 C9 U9
    refine leave_onF (by assumption) F9 R9 C9 U9 fun h8 R8 C8 U8 => ?_
    exact hraise _ _ _ _ _ _ FG (RaisedS.sub R8 fun p hp => hp) C8 U8
  · have hc9 := clp_len hc
    walk_at "ENTER0"
    rename Fr h₀ L _ _ => FG
    walk_at "UPC"
    k_dflt (refine' clp_ok ?k1 ?k2 ?k3 ?k4 ?k5 ?k6 ?k7 ?k8 ?k9 hc ?_; (case k1 => k_asm); (case k2 => k_asm); (case k3 => k_asm); (case k4 => k_asm); (case k5 => k_asm); (case k6 => exact ⟨rfl, rfl⟩); (case k7 => walk_at "dp"); (case k8 => walk_at "dp"); (case k9 => walk_at "bsz"))
    intro _ _ _ _ _ _ _ _ _ _
    walk_at "UPC"
    k_dflt (refine' payb_call (payb_all w k) ?k1 ?k2 ?k3 ?k4 ?k5 ?k6 ?k7 ?k8 ?k9 ?k0 hp ?_; (case k1 => k_asm); (case k2 => k_asm); (case k3 => k_asm); (case k4 => k_asm); (case k5 => k_asm); (case k6 => exact ⟨rfl, rfl⟩); (case k7 => walk_at "dp"); (case k8 => walk_at "dp"); (case k9 => exact hx); (case k0 => omega))
    intro h9 tk9 ex g9 t9 vs9 F9 R9 C9 U9
    refine leave_onF (by assumption) F9 R9 C9 U9 fun h8 R8 C8 U8 => ?_
    exact hraise _ _ _ _ _ _ FG (RaisedS.sub R8 fun p hp => .tail _ hp) C8 U8
end
end Mine
end

section
set_option maxRecDepth 100000
set_option linter.unusedVariables false
set_option Elab.async false
open PySem PySem.W PyProof.Rows PySem.Spec PySem.Calls
namespace Mine
section
variable {prog : Program} {w : World} {A₀ : Around} {E : Value → Shared → Prop} {s' : Shared} {base g G : Heap} {outer : List Env} {L a e t : Addr} {m : Str → Option Value} {name : Str} {scope : Scope} {cd : Value}
  {vs : List Value} {b₀ : Stmt} {suite : List Stmt} {pos np : Pos} {rest : List ExceptHandler} {Q : Flow → Shared → Prop} {news : List (Addr × Obj)} {KF : Frag}
  {p : Program} {loose : List Str} {mean : ExcName → Option Value} {mg mb : Str → Option Value} {x : Str} {X : String}
/-- a caught exception of the library, whose context is none: the clause's suite runs with it at hand -/
theorem caught_ctx (R : RaisedS base G (envOf name scope L a cd :: outer) e (.type X) t vs news s'.heap) (C : HasI NoCtx e s'.heap) (F : Fr g L G m) (K : Below A₀ base outer g) (hsm : G.UpToSlots s'.heap) (XB : KF.In base) (TB : Top p loose mean mg mb base)
    (ex : nsIn KF mainGlobals x = some none) (hv : bootBuiltins x = some (.type X)) (hn' : x ≠ "__name__")
    (hexc : isSubtype (.type X) (.type "BaseException") = pure true) (hnt : isSubtype (.type ((Manifest.find? X).elim "type" fun y => y.metatype)) (.type "tuple") = pure false) (hsub : isSubtype (.type X) (.type X) = pure true)
    (k : ∀ h' g' oe, KtsTurn (outer.filterMap (·.frame)) g g' → Fr g' L h' m → News g' L h' ((e, oe) :: news) → NoCtx oe → Below A₀ base outer g' → KF.In g' → Top p loose mean mg mb g' →
      wpAny (model prog w) ((A₀.deeper (envOf name scope L a cd)).mark (some (.ref e))) (execs (b₀ :: suite) (envOf name scope L a cd)) Q E { s' with heap := h' })
    (hk : scope.kind = .function := by rfl) (hx : (envOf name scope L a cd).kindOf x = some .globalImplicit := by rfl) (hd : (x == ("__debug__" : Str)) = false := by decide)
    (hE : PassesOwnAt (model prog w) ((A₀.deeper (envOf name scope L a cd)).mark (some (.ref e))) (A₀.deeper (envOf name scope L a cd)) (envOf name scope L a cd) E := by passes_own) :
    wpAny (model prog w) (A₀.deeper (envOf name scope L a cd)) (noteFrame (.ref e) (envOf name scope L a cd))
      (fun _ s₂ => wpAny (model prog w) (A₀.deeper (envOf name scope L a cd)) (setFlight (.ref e) none) (fun _ s₃ =>
        wpAny (model prog w) (A₀.deeper (envOf name scope L a cd)) (handleBy (.ref e) (envOf name scope L a cd) (.ExceptHandler (some (.Name x np)) none (b₀ :: suite) pos :: rest)) Q E s₃) E s₂) E s' := by
  obtain ⟨⟨B, hB, hBG, hl, hfl, hnew⟩, htup⟩ := R
  have hL : B.get? L = none := by
    obtain ⟨_, ⟨L', _, hf, hn', _⟩, _⟩ := hfl.2.2.1
    obtain rfl : L = L' := Option.some.inj hf
    exact hn'
  -- the frame is noted
  refine wpAny_mono (keepsI_any noCtx_alive (keeps_note _ _) C (wpAny_looks_onW (E := fun _ _ => False) (Q := fun _ s => ∃ h₄, s = { s' with heap := h₄ } ∧ Heap.HeldW B (envOf name scope L a cd :: outer) e (.type X) (.ref t) L h₄ ∧ s'.heap.UpToSlots h₄) (Around.frames_deeper K.stack) rfl hfl
    (fun h₄ y z => ⟨h₄, rfl, y, z⟩))) (fun _ s₄ h => ?_) (fun _ _ h => h.1.elim)
  obtain ⟨⟨h₄, rfl, hheld₄, hsm₄⟩, C₄⟩ := h
  -- its flight ends
  refine wpAny_mono (keepsI_any noCtx_alive keeps_setFlight C₄ (wpAny_landsW (E := fun _ _ => False) (Q := fun _ s => ∃ h₅, s = { s' with heap := h₅ } ∧ Heap.FlyingW B (envOf name scope L a cd :: outer) e (.type X) (.ref t) h₅ ∧ h₄.UpToSlots h₅) hheld₄
    (fun h₅ y z => ⟨h₅, rfl, y, z⟩))) (fun _ s₅ h => ?_) (fun _ _ h => h.1.elim)
  obtain ⟨⟨h₅, rfl, hheld, hsm₅'⟩, C₅⟩ := h
  have hsm₅ := hsm₄.trans hsm₅'
  obtain ⟨g₅, T₅, F₅, K₅⟩ := kts_ground K F hBG hheld.1 (hsm.trans hsm₅)
  have P₅ : TopRead p loose mg mb g₅ := topRead_of (TB.keeps K₅.stays)
  obtain ⟨ob, hob, hobc⟩ := hheld.there
  refine wpAny_handleBy_builtin (X := X) (T := X) (b := true) hexc hnt hsub (name_B F₅ (XB.keeps K₅.stays) P₅ ex hv hn' ⟨rfl, ⟨ob, hob, hobc⟩, ?_⟩ hk hx hd)
  rw [if_pos rfl]
  refine wpAny_mono (keepsI_any noCtx_alive keeps_setFlight C₅ (lands_againW (E := fun _ _ => False) (Q := fun _ s => ∃ h₆, s = { s' with heap := h₆ } ∧ Heap.FlyingW B (envOf name scope L a cd :: outer) e (.type X) (.ref t) h₆ ∧ h₅.UpToSlots h₆) hheld
    (fun h₆ y z => ⟨h₆, rfl, y, z⟩))) (fun _ s₆ h => ?_) (fun _ _ h => h.1.elim)
  obtain ⟨⟨h₆, rfl, hfl₆, hsm₆⟩, oe, hoe, hoc⟩ := h
  obtain ⟨g₆, T₆, F₆, K₆⟩ := kts_ground K F hBG hfl₆.1 ((hsm.trans hsm₅).trans hsm₆)
  obtain ⟨ws, hoed, _⟩ := id hoc
  have ne₆ : g₆.get? e = none := T₆.none_ _ (kts_fresh F hBG hfl₆.2.1 fun o ho hm => by
    obtain ⟨_, o', ho', hd⟩ := K.frames.mem hm
    rw [ho] at ho'
    cases ho'
    obtain ⟨sl, hs⟩ := ((hsm.trans hsm₅).trans hsm₆) _ _ (F.keep _ _ ho) hd
    have hs2 := hoe.symm.trans hs
    cases hs2
    exact hd _ hoed)
  refine wpAny_passesOwnAt hE (k h₆ g₆ oe T₆ F₆ (fun q hq => ?_) hoc K₆ (XB.keeps K₆.stays) (TB.keeps K₆.stays))
  rcases List.mem_cons.mp hq with rfl | hq
  · refine ⟨hoe, fun z => ?_, ne₆⟩
    obtain ⟨o, es, n, ho, hdd, _⟩ := F₆.ns
    have := (z ▸ hoe : h₆.get? L = some oe)
    rw [ho] at this
    cases this
    rw [hdd] at hoed
    cases hoed
  · exact ⟨hfl₆.1 _ _ (hl q hq).1, (fun z => by have := (hl q hq).1; rw [z, hL] at this; cases this), T₆.none_ _ (kts_none F.keep (hl q hq).2.1)⟩
end
end Mine
end

section
set_option maxRecDepth 100000
set_option linter.unusedVariables false
set_option Elab.async false
open PySem PySem.W PyProof.Rows PySem.Spec PySem.Calls
namespace Mine
section
variable {prog : Program} {w : World} {A : Around} {E : Value → Shared → Prop} {s : Shared}
theorem entry_unchain : entryFor table "proto.unchain" = some Builtin.«proto.unchain» := entryFor_of_tree (by kernel_rfl)
/-- what is raised while another exception is handled: that one becomes its context -/
abbrev ctxSet (hx : Addr) : Obj → Obj := Obj.mapFields (·.setIfInBounds 2 (.ref hx))
theorem raiseNew_in {α : Type} {Q : α → Shared → Prop} {e hx : Addr} {oh oe : Obj} {vs : Array Value} (hh : A.handled = some (.ref hx)) (hne : hx ≠ e) (hoh : s.heap.get? hx = some oh) (hc : NoCtx oh) (hoe : s.heap.get? e = some oe) (hd : oe.data = .fields vs) (hsz : 2 < vs.size)
    (h : E (.ref e) { s with heap := s.heap.update e (ctxSet hx) }) : wpAny (model prog w) A (raiseNew (.ref e) : Sem α) Q E s := by
  obtain ⟨ws, hdh, h2⟩ := hc
  unfold raiseNew
  refine wpAny_bind (wpAny_handled ?_)
  rw [hh]
  dsimp only
  have hb : (Value.ref hx != Value.ref e) = true := by simpa using hne
  rw [hb]
  simp only [if_true]
  refine wpAny_bind (wpAny_holding (wpAny_runValue (codeAny_builtin entry_unchain ?_)))
  unfold Builtin.«proto.unchain»
  dsimp only
  refine wpAny_bind (wpAny_field hoh hdh h2 ?_)
  rw [if_pos (by decide)]
  refine wpAny_bind (wpAny_pure (wpAny_pure ?_))
  show wpAny (model prog w) A (setField (.ref e) 2 (.ref hx) >>= fun _ => throw (.ref e)) _ E s
  exact wpAny_bind (wpAny_setField hoe hd hsz (wpAny_throw h))
variable {KF : Frag}
/-- what a raise in a clause wants of a value -/
def RaiseIn (KF : Frag) (hx : Addr) (v : Value) (s : Shared) (P : Addr → Prop) : Prop :=
  ∃ e C oe vs oh, v = .ref e ∧ KF.In s.heap ∧ excIn KF C = true ∧ s.heap.get? e = some oe ∧ oe.cls = .ref C ∧ oe.data = .fields vs ∧ vs[1]? = some .none ∧ 2 < vs.size ∧ hx ≠ e ∧ s.heap.get? hx = some oh ∧ NoCtx oh ∧ P e
theorem raise_in {env : Env} {cx : Expr} {pos : Pos} {hx : Addr} {Q : Flow → Shared → Prop} (hh : A.handled = some (.ref hx))
    (h : wpAny (model prog w) A (eval cx env) (fun v s₁ => RaiseIn KF hx v s₁ (fun e => E v { s₁ with heap := s₁.heap.update e (ctxSet hx) })) E s) :
    wpAny (model prog w) A (exec (.Raise (some cx) none pos) env) Q E s := by
  rw [arm_exec_Raise]
  refine wpAny_bind (wpAny_standAt ?_)
  show wpAny _ _ (raiseStmt env (some (do let v ← eval cx env; standAt pos; pure v)) none) _ _ _
  unfold raiseStmt
  refine wpAny_bind (wpAny_bind (wpAny_mono h (fun v s₁ h₁ => ?_) fun _ _ z => z))
  refine wpAny_bind (wpAny_standAt (wpAny_pure ?_))
  obtain ⟨e, C, oe, vs, oh, rfl, X, hC, hx0, hc, hd, h1, hsz, hne, hoh, hoc, hP⟩ := h₁
  obtain ⟨bm, hE⟩ := ownExc_of X hC
  obtain ⟨hp, g, d, tk, os⟩ := s₁
  obtain ⟨nm, q, Nn, bs, hdct, sn, sub, ab, col, dd, k0, k1, k2, k3, k5, hC1⟩ := hE.cls
  refine wpAny_bind (wpAny_pure ?_)
  have hnc : ∀ c, oe.data ≠ .cls c := fun c z => by rw [hd] at z; cases z
  refine wpAny_bind (wpAny_holding ?_)
  unfold excFromValue isExcClass
  refine wpAny_bind (wpAny_bind (ks_wpAny_isType_inst hx0 hnc ?_))
  rw [if_neg (by decide)]
  refine wpAny_pure ?_
  rw [if_neg (by decide)]
  refine wpAny_bind (isInst_base hE hx0 hc ?_)
  rw [if_pos rfl]
  refine wpAny_pure ?_
  dsimp only
  refine wpAny_bind (ks_wpAny_isType_inst hx0 hnc ?_)
  rw [if_neg (by decide)]
  unfold raisedInstance
  have hTC : (⟨hp, g, d, tk, os⟩ : Shared).TypeIs (.ref C) "type" := ⟨_, hC1, rfl⟩
  refine wpAny_bind (wpAny_bind (m := typeOf (.ref e)) ?_)
  show wpAny _ _ (loadPart e (some headPart) >>= fun o => pure o.cls) _ _ _
  refine wpAny_bind (wpAny_loadPart_at hx0 (wpAny_pure ?_))
  rw [hc]
  refine wpAny_bind (wpAny_typeOf hTC ?_)
  rw [if_pos (by decide)]
  refine wpAny_pure ?_
  unfold setFlight
  refine wpAny_bind (wpAny_bind (wpAny_field hx0 hd h1 ?_))
  rw [if_neg (by decide)]
  refine wpAny_pure ?_
  exact raiseNew_in hh hne hoh hoc hx0 hd hsz hP
end
end Mine
end

section
open PySem PySem.W PyProof.Rows PySem.Spec PySem.Calls Rlp
set_option Elab.async false
set_option maxRecDepth 100000
set_option maxHeartbeats 1500000
set_option linter.unusedVariables false
namespace Mine
theorem fillKM : (fun (_ : OpenLaw) (_ : Params → Frag) => True) PySem.Challenge.rw_bi0020_01 K := by
  k_fill
  trivial
/-- around a suite of an except clause -/
abbrev ktrH (hv : Value) (dp un : Nat) (gd : Option (List Code)) (ev : Env) (outer : List Env) : Around := { handled := some hv, depth := dp, frames := some (ev :: outer), guards := gd, units := un }
theorem ktrH_dp {hv : Value} {dp un : Nat} {gd : Option (List Code)} {ev : Env} {outer : List Env} : (ktrH hv dp un gd ev outer).depth = dp := rfl
theorem ktrH_un {hv : Value} {dp un : Nat} {gd : Option (List Code)} {ev : Env} {outer : List Env} : (ktrH hv dp un gd ev outer).units = un := rfl
section
variable {w : World} {p : Program} {loose : List Str} {mean : ExcName → Option Value} {mg mb : Str → Option Value} {dp un : Nat} {gd : Option (List Code)} {ev : Env} {outer : List Env} {A₀ : Around} {base h₀ : Heap} {L : Addr} {m : Str → Option Value} {news : List (Addr × Obj)} {s : Shared} {Q E : Value → Shared → Prop}
local macro_rules | `(tactic| walk_at "getMethod ref") => `(tactic| ((with_reducible show wpAny _ _ (getMethod (Value.ref _) _ _) _ _ _); k_dflt (refine' method_excK ?k1 ?k2 ?k3 ?k4 ?k5 ?k6 ?k7 ?k8 ?k9 ?_; (case k1 => k_asm); (case k2 => k_asm); (case k3 => k_asm); (case k4 => k_mem); (case k5 => k_mem); (case k6 => rfl); (case k7 => k_is); (case k8 => exact exc74 _); (case k9 => ks_is); intro q' h' F' N' l1; (try k_lt l1))))
local macro_rules | `(tactic| walk_at "wpAt") => `(tactic| fail "not here")
local macro_rules | `(tactic| k_all) => `(tactic| assumption)
theorem mk_DEh {hv : Value} {msg : Str} {v : Value} {u : Tok}
    (B : Below A₀ base outer h₀) (F : Fr h₀ L s.heap m) (X : (K w.params).In h₀) (N : News h₀ L s.heap news) (T : Top p loose mean mg mb h₀) (hk : ev.scope.kind = .function ∧ ev.frame = some L)
    (hd : dp + 20 < recursionLimit) (hu : un + 60 < cLine)
    (hret : ∀ e t d h' tk', Fr h₀ L h' m → News h₀ L h' ((e, excO 74 t (some d)) :: (t, tupO [.str msg u]) :: news) → (∀ p ∈ news, p.1 < t) → (∀ p ∈ news, p.1 < e) → e ≠ t → Q (.ref e) { s with heap := h', toks := tk' }) :
    wpAny (model pg w) (ktrH hv dp un gd ev outer) (call (.ref 74) [.str msg u, v]) Q E s := by
  k_dflt (refine' call_excK (fI := 71) (K := K w.params) F X N ?k4 ?k5 ?k6 ?k7 ?_; (case k4 => exact exc74 _); (case k5 => k_is); (case k6 => k_is); (case k7 => exact Nat.le_of_ble_eq_true rfl))
  intro e t h1 F1 N1 l1 l2
  have l1' := l1
  have l2' := l2
  have hne : ∀ p ∈ news, p.1 ≠ e := fun p hp => Nat.ne_of_lt (l2' p (.tail _ hp))
  have hte : t < e := l2' _ (.head _)
  (try k_lt l1)
  (try k_lt l2)
  refine wpAny_call ?_
  k_dflt (refine' ks_code_super ?k1 ?k2 ?k3 ?k4 ?k5 ?kA ?kF ?kK ?k6 ?k7 ?k8 ?k9 ?kB ?_ ?c1 ?c2 ?c3 ?c4; (case kA => exact rfl); (case kF => exact hk.2); (case kK => exact hk.1); (case k1 => k_asm); (case k2 => k_asm); (case k3 => k_asm); (case k4 => k_asm); (case k5 => k_asm); (case k6 => k_is); (case k7 => k_is); (case k8 => ktr_room); (case k9 => exact BindsTo.of_eq rfl); (case kB => exact locs rfl); (case c1 => decide); (case c2 => exact rfl); (case c3 => exact rfl); (case c4 => exact rfl))
  intro g' L' h' FG' F' N' B' X' T' l3
  (try k_lt l3)
  k_steps
  k_dflt (refine ks_node (x := e) (C := 74) (D := 74) (by k_asm) (by k_asm) (by k_asm) (by k_asm) (by k_is) (by rfl) (by rfl) (odx := none) ⟨(N' _ (.head _)).1, rfl, rfl, trivial⟩ (by k_is) (by rfl) (by first | rfl | decide +kernel) (by k_is) (by k_is) (by k_is) (by k_is) (by decide) (by rfl) (by rfl) (by rfl) (by rfl) (by decide +kernel) (by first | boot_by_name | rfl | kernel_rfl) ?_)
  intro so h2 F2 N2 l4
  (try k_lt l4)
  k_steps
  rename_i q h3 F3 N3 l5
  refine callWith_mw (x := e) ?_
  k_steps
  · exact (N3 _ (.head _)).1
  k_dflt (refine' call_mwK (x := e) (C := 74) (t := t) (d := none) ?k1 ?k2 ?k3 ?k4 ?k5 ?k6 ?_; (case k1 => k_asm); (case k2 => k_asm); (case k3 => k_asm); (case k4 => exact exc74 _); (case k5 => k_mem); (case k6 => k_updF))
  intro t2 h4 tk4 F4 N4 l6
  have l6' := l6
  (try k_lt l6)
  k_steps
  k_dflt (refine' set_exc1 (x := e) (C := 74) (t := t2) ?k1 ?k2 ?k3 ?k4 ?k5 ?k6 ?k7 ?k8 ?_; (case k1 => k_asm); (case k2 => k_asm); (case k3 => k_asm); (case k4 => k_updF); (case k5 => k_is); (case k6 => exact over74 _); (case k7 => k_is); (case k8 => k_is))
  intro dx h5 k1 tk5 F5 N5 l7
  (try k_lt l7)
  k_steps
  refine hret e t2 dx _ _ (by k_asm) (News.sub (by k_asm) fun p hp => ?_) (fun p hp => l6' p (.tail _ (.tail _ (.tail _ (.tail _ hp))))) (fun p hp => l2' p (.tail _ hp)) (Nat.ne_of_lt l6.2.2.1)
  rcases List.mem_cons.mp hp with rfl | hp
  · exact .tail _ (.tail _ (.tail _ (.tail _ (.head _))))
  rcases List.mem_cons.mp hp with rfl | hp
  · exact .tail _ (.head _)
  · exact .tail _ (.tail _ (.tail _ (.tail _ (.tail _ (.tail _ hp)))))
end
end Mine
end

section
open PySem PySem.W PyProof.Rows PySem.Spec PySem.Calls Rlp
set_option Elab.async false
set_option maxRecDepth 100000
set_option maxHeartbeats 0
set_option linter.unusedVariables false
namespace Mine
section
variable {prog : Program} {w : World} {A : Around} {E : Value → Shared → Prop} {s : Shared} {h₀ : Heap} {L : Addr} {m : Str → Option Value} {env : Env}
/-- one object of a ledger changes -/
theorem chg_one {h h' : Heap} {a : Addr} {o o' : Obj} {rest : List (Addr × Obj)} (F : Fr h₀ L h m) (N : News h₀ L h ((a, o) :: rest))
    (hk : ∀ b x, b ≠ a → h.get? b = some x → h'.get? b = some x) (ha : h'.get? a = some o') (off : ∀ p ∈ rest, p.1 ≠ a) : Fr h₀ L h' m ∧ News h₀ L h' ((a, o') :: rest) := by
  have z := N _ (List.mem_cons_self ..)
  refine ⟨⟨F.ns.at' fun o e => hk L o (Ne.symm z.2.1) e, fun b x e => hk b x ?_ (F.keep b x e), F.above⟩, fun p hp => ?_⟩
  · rintro rfl
    have := z.2.2
    rw [e] at this; cases this
  · rcases List.mem_cons.mp hp with rfl | hp
    · exact ⟨ha, z.2⟩
    · have z2 := N p (List.mem_cons_of_mem _ hp)
      exact ⟨hk _ _ (off p hp) z2.1, z2.2⟩
/-- the end of one element of a comprehension whose elements may make generators -/
def EndG (h₀ : Heap) (L : Addr) (m : Str → Option Value) (s₁ : Shared) (I : Addr) (oI : Obj) (C : Addr) (oC : Obj) (D : Addr) (oD : Obj) (rest : Value → List (Addr × Obj) → Array GenState → Prop) (y : Value) (s₂ : Shared) : Prop :=
  ∃ h' gs tk nw, s₂ = { s₁ with heap := h', gens := gs, toks := tk } ∧ Fr h₀ L h' m ∧ News h₀ L h' ((I, oI) :: (C, oC) :: (D, oD) :: nw) ∧ LCg.Off3 I C D nw ∧ rest y nw gs
theorem assign_compG {elt iter : Expr} {x y : Str} {px py : Pos} {scope : Scope} {cl : List (Str × Addr)} {pos spos : Pos} {Q : Flow → Shared → Prop} {ax : Addr} {its : Array Value} {k : Nat} {news : List (Addr × Obj)}
    (Good : Nat → List Value → List (Addr × Obj) → Array GenState → Prop) (hLe : env.locals = L)
    (hsw : swapsWith (.ListComp elt [⟨.Name x px, iter, [], 0⟩] scope pos) (some (.Name y py)) spos.line env = pure true)
    (hclos : closureFor scope env = pure cl) (hcell : ∀ z ∈ scope.names, z.2 ≠ .cell) (hkind : scope.kind = .function)
    (hnames : ∀ z ∈ scope.names, z.2 = .local → scope.names.lookup z.1 = some .local) (hx : scope.names.lookup x = some .local)
    (hy : env.kindOf y = some .local) (hp : (env.scope.kind == .class || (env.scope.kind == .module && env.locals != env.globals)) = false)
    (hh : A.handled = none) (hsz : its.size ≤ sizeLine)
    (hev : wpAny (model prog w) A (eval iter env) (fun xv s₁ => xv = .ref ax ∧ ∃ h tk, s₁ = { s with heap := h, toks := tk } ∧ Fr h₀ L h m ∧ News h₀ L h news) E s)
    (h0 : Good 0 [] news s.gens)
    (hsrc : ∀ i ys nw gs, Good i ys nw gs → (ax, ({ cls := .type "list", data := .seq its k } : Obj)) ∈ nw)
    (turn : ∀ i v I oI C oC D m₂ ys nw gs h tk (E' : Value → Shared → Prop), its[i]? = some v → Good i ys nw gs → LCg.NsObj oC m₂ → m₂ x = some v → Fr h₀ L h m → News h₀ L h ((I, oI) :: (C, oC) :: (D, LCg.lst ys) :: nw) → LCg.Off3 I C D nw → ((@Ne Nat I C) ∧ (@Ne Nat I D) ∧ (@Ne Nat C D)) →
      wpAny (model prog w) A (eval elt (compEnvC scope cl C env)) (EndG h₀ L m { s with heap := h, gens := gs, toks := tk } I oI C oC D (LCg.lst ys) (fun y nw' gs' => Good (i + 1) (ys ++ [y]) nw' gs')) E' { s with heap := h, gens := gs, toks := tk })
    (fin : ∀ ys nw gs D h tk, Good its.size ys nw gs → Fr h₀ L h (fun z => if z = y then some (.ref D) else m z) → News h₀ L h ((D, LCg.lst ys) :: nw) → LCg.Off1 D nw → Q .next { s with heap := h, gens := gs, toks := tk })
    (hs : ∀ x, foldedSetIterable iter env x = pure x := by intro _; rfl) :
    wpAny (model prog w) A (exec (.Assign [.Name y py] (.ListComp elt [⟨.Name x px, iter, [], 0⟩] scope pos) spos) env) Q E s := by
  subst hLe
  rw [exec_Assign_Name_used _ _ _ _ hsw]
  refine wpAny_bind (wpAny_standAt (wpAny_bind ?_))
  show wpAny _ A (do let _ ← comprehension (.ListComp elt [⟨.Name x px, iter, [], 0⟩] scope pos) scope env _ (newList []) false (eval iter env) (some (assign (.Name y py) env))) _ _ s
  refine wpAny_bind (wpAny_mono (wpAny_comprehension_free (use := some (assign (.Name y py) env)) (Q := fun _ s' => Q .next s') rfl hs hclos hkind hnames
    (wpAny_mono hev (fun xv s₁ h₁ => ?_) fun _ _ e => e)) (fun _ s' hq => wpAny_pure (wpAny_pure hq)) fun _ _ e => e)
  obtain ⟨rfl, h1, tk1, rfl, F, N⟩ := h₁
  have zax := N _ (hsrc _ _ _ _ h0)
  have hl : h1.IsList ax its := ⟨_, zax.1, rfl, _, rfl⟩
  refine wpAny_pyIter_list hl ?_
  have hI₀ : h₀.get? h1.objs.size = none := next_is_new F
  have hIL : h1.objs.size ≠ env.locals := Ne.symm (Nat.ne_of_lt F.ns.lt)
  generalize hH : h1.push { cls := .type "list_iterator", data := .fields #[.ref ax, .int 0 0] } = H1
  have u1 : ∀ b o, h1.get? b = some o → H1.get? b = some o := fun b o e => by rw [← hH]; exact Heap.get?_push_of_some _ e
  have hIt : H1.get? h1.objs.size = some { cls := .type "list_iterator", data := .fields #[.ref ax, .int 0 0] } := by rw [← hH]; exact Heap.get?_push_size _ rfl
  have s1 : H1.objs.size = h1.objs.size + 1 := by rw [← hH, Heap.size_push]
  have F1 := F.keeps u1
  have N1 := N.grown u1
  have hD₀ : h₀.get? H1.objs.size = none := next_is_new F1
  have hDL : H1.objs.size ≠ env.locals := Ne.symm (Nat.ne_of_lt F1.ns.lt)
  show wpAny _ A (newList []) _ _ { s with heap := H1, toks := tk1 }
  refine wpAny_newObj_type (wpAny_newFunctionEnv hcell (by intro y hy; simp at hy) (fun h₂ hns₂ hsb₂ => ?_) hkind)
  dsimp only at hns₂ hsb₂ ⊢
  generalize hH2 : H1.push { cls := .type "list", dict := none, data := .seq ([] : List Value).toArray } = H2 at hns₂ hsb₂ ⊢
  have u2 : ∀ b o, H1.get? b = some o → H2.get? b = some o := fun b o e => by rw [← hH2]; exact Heap.get?_push_of_some _ e
  have hDo : H2.get? H1.objs.size = some (LCg.lst []) := by rw [← hH2]; exact Heap.get?_push_size _ rfl
  have s2 : H2.objs.size = H1.objs.size + 1 := by rw [← hH2, Heap.size_push]
  have F2 := F1.keeps u2
  have N2 := N1.grown u2
  have hC₀ : h₀.get? H2.objs.size = none := next_is_new F2
  have hCL : H2.objs.size ≠ env.locals := Ne.symm (Nat.ne_of_lt F2.ns.lt)
  have u3 : ∀ b o, H2.get? b = some o → h₂.get? b = some o := fun b o e => hsb₂.extBut b o (Nat.ne_of_lt (Heap.lt_size e)) (Heap.get?_push_of_some _ e)
  have F3 := F2.keeps u3
  have N3 := N2.grown u3
  obtain ⟨oC, heC, hoC⟩ := LCg.ns_obj hns₂
  generalize hIa : h1.objs.size = I at *
  generalize hDa : H1.objs.size = D at *
  generalize hCa : H2.objs.size = C at *
  have nIC : I ≠ C := by omega
  have nID : I ≠ D := by omega
  have nCD : C ≠ D := by omega
  have N4 : News h₀ env.locals h₂ ((I, { cls := .type "list_iterator", data := .fields #[.ref ax, .int 0 0] }) :: (C, oC) :: (D, LCg.lst []) :: news) := fun p hp => by
    rcases List.mem_cons.mp hp with rfl | hp
    · exact ⟨u3 _ _ (u2 _ _ hIt), hIL, hI₀⟩
    rcases List.mem_cons.mp hp with rfl | hp
    · exact ⟨heC, hCL, hC₀⟩
    rcases List.mem_cons.mp hp with rfl | hp
    · exact ⟨u3 _ _ hDo, hDL, hD₀⟩
    · exact N3 p hp
  have lID : @LT.lt Nat _ I D := by omega
  have lDC : @LT.lt Nat _ D C := by omega
  have off0 : LCg.Off3 I C D news := LCg.Off3.of fun p hp => by
    have h9 : @LT.lt Nat _ p.1 I := hIa ▸ Heap.lt_size (N p hp).1
    exact ⟨Nat.ne_of_lt h9, Nat.ne_of_lt (Nat.lt_trans h9 (Nat.lt_trans lID lDC)), Nat.ne_of_lt (Nat.lt_trans h9 lID)⟩
  have hne : ax ≠ I := Nat.ne_of_lt (hIa ▸ Heap.lt_size zax.1)
  have W := Walks.list (prog := prog) (w := w) hh I ax hne its
  have src : ∀ {i ys nw gs} {h : Heap}, Good i ys nw gs → News h₀ env.locals h nw → h.IsList ax its := fun hg Nw => ⟨_, (Nw _ (hsrc _ _ _ _ hg)).1, rfl, _, rfl⟩
  have loop : ∀ s₃ : Shared, s₃ = { s with heap := h₂, toks := tk1 + ([] : List (Str × Value)).length } →
      codeAny (model prog w) A (.compLoop (.ListComp elt [⟨.Name x px, iter, [], 0⟩] scope pos) 0 (.ref I) (.ref D) (compEnvC scope cl C env))
        (compPost (model prog w) A E (some (assign (.Name y py) env)) (fun _ s' => Q .next s') (.ref D) C) s₃ := by
    rintro s₃ rfl
    refine codeAny_compLoop_tests
      (fun j s' => ∃ i ys h gs tk nw oI oC m', s' = { s with heap := h, gens := gs, toks := tk } ∧ i ≤ its.size ∧ j = its.size + 1 - i ∧ ys.length = i ∧ h.IsListIter I ax i ∧ LCg.NsObj oC m' ∧ Fr h₀ env.locals h m ∧
        News h₀ env.locals h ((I, oI) :: (C, oC) :: (D, LCg.lst ys) :: nw) ∧ LCg.Off3 I C D nw ∧ Good i ys nw gs) ?_ (its.size + 1)
      ⟨0, [], h₂, s.gens, _, news, _, oC, _, rfl, Nat.zero_le _, rfl, rfl, ⟨_, (N4 _ (List.mem_cons_self ..)).1, rfl, rfl⟩, hoC, F3, N4, off0, h0⟩
    rintro j s' ⟨i, ys, h, gs, tk, nw, oI, oC', m', rfl, hi, rfl, hyl, hit, hoC', F5, N5, off5, hg⟩
    have N5w : News h₀ env.locals h nw := fun p hp => N5 p (List.mem_cons_of_mem _ (List.mem_cons_of_mem _ (List.mem_cons_of_mem _ hp)))
    have off5m := off5.mem
    by_cases hlt : i < its.size
    · refine W.item i _ _ _ hlt ⟨hit, src hg N5w⟩ fun v h6 tk6 hv st6 hk6 => ?_
      obtain ⟨oI6, eI6⟩ : ∃ o, h6.get? I = some o := by obtain ⟨o, e, _⟩ := st6.1; exact ⟨o, e⟩
      obtain ⟨F6, N6⟩ := chg_one F5 N5 (fun b x hb e => hk6 b x (by simpa using hb) e) eI6 (fun p hp => by
        rcases List.mem_cons.mp hp with rfl | hp
        · exact Ne.symm nIC
        rcases List.mem_cons.mp hp with rfl | hp
        · exact Ne.symm nID
        · exact (off5m p hp).1)
      have nsC : h6.Ns C m' := hoC'.ns (N6 (C, oC') (List.mem_cons_of_mem _ (List.mem_cons_self ..))).1
      refine wpAny_assign_Name (wpAny_storeName_local (lookup_relabel_local hx) nsC (fun h7 hn7 hs7 => ?_) (by simp [compEnvC, relabel, hkind]))
      refine wpAny_tests_nil ?_
      simp only [if_true]
      obtain ⟨oC7, eC7, hoC7⟩ := LCg.ns_obj hn7
      obtain ⟨F7, N7⟩ := chg_one (rest := (I, oI6) :: (D, LCg.lst ys) :: nw) F6 (News.sub N6 fun q hq => by
          rcases List.mem_cons.mp hq with rfl | hq
          · exact List.mem_cons_of_mem _ (List.mem_cons_self ..)
          rcases List.mem_cons.mp hq with rfl | hq
          · exact List.mem_cons_self ..
          · exact List.mem_cons_of_mem _ (List.mem_cons_of_mem _ hq)) (fun b x hb e => hs7.extBut b x hb e) eC7 (fun p hp => by
        rcases List.mem_cons.mp hp with rfl | hp
        · exact nIC
        rcases List.mem_cons.mp hp with rfl | hp
        · exact Ne.symm nCD
        · exact (off5m p hp).2.1)
      refine wpAny_mono (turn i v I oI6 C oC7 D _ ys nw gs h7 _ _ hv hg hoC7 (by simp) F7 (News.sub N7 fun q hq => by
          rcases List.mem_cons.mp hq with rfl | hq
          · exact List.mem_cons_of_mem _ (List.mem_cons_self ..)
          rcases List.mem_cons.mp hq with rfl | hq
          · exact List.mem_cons_self ..
          · exact List.mem_cons_of_mem _ (List.mem_cons_of_mem _ hq)) off5 ⟨nIC, nID, nCD⟩) (fun e₁ s₄ h₄ => ?_) fun _ _ e => e
      obtain ⟨h8, gs8, tk8, nw8, rfl, F8, N8, off8, hg8⟩ := h₄
      have off8m := off8.mem
      have zD := (N8 (D, LCg.lst ys) (List.mem_cons_of_mem _ (List.mem_cons_of_mem _ (List.mem_cons_self ..)))).1
      have hit7 : h7.IsListIter I ax (i + 1) := st6.1.at fun o e => hs7.extBut _ _ nIC e
      have hit8 : h8.IsListIter I ax (i + 1) := by
        obtain ⟨o, e, r⟩ := hit7
        have e7 := (N7 (I, oI6) (List.mem_cons_of_mem _ (List.mem_cons_self ..))).1
        rw [e7] at e
        cases e
        exact ⟨_, (N8 (I, oI6) (List.mem_cons_self ..)).1, r⟩
      refine append_at (hsz := by show ys.toArray.size ≤ sizeLine; rw [List.size_toArray, hyl]; exact Nat.le_trans hi hsz) zD fun h9 hs9 hD9 => ?_
      obtain ⟨F9, N9⟩ := chg_one (o' := LCg.lst (ys ++ [e₁])) (rest := (I, oI6) :: (C, oC7) :: nw8) F8 (News.sub N8 fun q hq => by
          rcases List.mem_cons.mp hq with rfl | hq
          · exact List.mem_cons_of_mem _ (List.mem_cons_of_mem _ (List.mem_cons_self ..))
          rcases List.mem_cons.mp hq with rfl | hq
          · exact List.mem_cons_self ..
          rcases List.mem_cons.mp hq with rfl | hq
          · exact List.mem_cons_of_mem _ (List.mem_cons_self ..)
          · exact List.mem_cons_of_mem _ (List.mem_cons_of_mem _ (List.mem_cons_of_mem _ hq))) (fun b x hb e => hs9.extBut b x hb e) (hD9.trans (congrArg some (LCg.lst_snoc ys e₁))) (fun p hp => by
        rcases List.mem_cons.mp hp with rfl | hp
        · exact nID
        rcases List.mem_cons.mp hp with rfl | hp
        · exact nCD
        · exact (off8m p hp).2.2)
      exact ⟨its.size + 1 - (i + 1), by omega, i + 1, ys ++ [e₁], h9, gs8, tk8, nw8, oI6, oC7, _, rfl, hlt, rfl, by rw [List.length_append, List.length_singleton, hyl], hit8.at fun o e => hs9.extBut _ _ nID e, hoC7, F9, News.sub N9 (fun q hq => by
          rcases List.mem_cons.mp hq with rfl | hq
          · exact List.mem_cons_of_mem _ (List.mem_cons_self ..)
          rcases List.mem_cons.mp hq with rfl | hq
          · exact List.mem_cons_of_mem _ (List.mem_cons_of_mem _ (List.mem_cons_self ..))
          rcases List.mem_cons.mp hq with rfl | hq
          · exact List.mem_cons_self ..
          · exact List.mem_cons_of_mem _ (List.mem_cons_of_mem _ (List.mem_cons_of_mem _ hq))), off8, hg8⟩
    · obtain rfl : i = its.size := Nat.le_antisymm hi (Nat.not_lt.mp hlt)
      refine W.done _ _ _ ⟨hit, src hg N5w⟩ fun h6 tk6 hk6 => ?_
      have keep6 : ∀ b x, b ≠ I → h.get? b = some x → h6.get? b = some x := fun b x hb e => hk6 b x (by simpa using hb) e
      have zI := N5 _ (List.mem_cons_self ..)
      have F6 : Fr h₀ env.locals h6 m := ⟨F5.ns.at' fun o e => keep6 _ o (Ne.symm zI.2.1) e, fun b x e => keep6 b x (fun q => by have := zI.2.2; rw [← q, e] at this; cases this) (F5.keep b x e), F5.above⟩
      have N6 : News h₀ env.locals h6 ((C, oC') :: (D, LCg.lst ys) :: nw) := fun p hp => by
        have z := N5 p (List.mem_cons_of_mem _ hp)
        refine ⟨keep6 _ _ ?_ z.1, z.2⟩
        rcases List.mem_cons.mp hp with rfl | hp
        · exact Ne.symm nIC
        rcases List.mem_cons.mp hp with rfl | hp
        · exact Ne.symm nID
        · exact (off5m p hp).1
      show wpAny _ A (assign (.Name y py) env (.ref D)) _ _ _
      refine wpAny_assign_Name (wpAny_storeName_local hy F6.ns (fun h7 hn7 hs7 => ?_) hp)
      have hL₀ : h₀.get? env.locals = none := Heap.get?_none_of_le F6.above
      have F7 : Fr h₀ env.locals h7 (fun z => if z = y then some (.ref D) else m z) := ⟨hn7, fun b o e => hs7.extBut b o (fun q => by rw [q, hL₀] at e; cases e) (F6.keep b o e), F6.above⟩
      have N7 : News h₀ env.locals h7 ((C, oC') :: (D, LCg.lst ys) :: nw) := fun p hp => ⟨hs7.extBut _ _ (N6 p hp).2.1 (N6 p hp).1, (N6 p hp).2⟩
      refine ⟨m', hoC'.ns (N7 _ (List.mem_cons_self ..)).1, fun h8 hs8 => fin ys nw gs D h8 _ hg (F7.change hs8 hCL hC₀) (fun p hp => ?_) off5.one⟩
      have z := N7 p (List.mem_cons_of_mem _ hp)
      refine ⟨hs8.extBut _ _ ?_ z.1, z.2⟩
      rcases List.mem_cons.mp hp with rfl | hp
      · exact Ne.symm nCD
      · exact (off5m p hp).2.1
  exact codeAny_compStart_list (loop _ rfl) (W.self 0 _ _ _ ⟨⟨_, (N4 _ (List.mem_cons_self ..)).1, rfl, rfl⟩, src h0 N3⟩ (loop _ rfl))
end
end Mine
end

section
set_option maxRecDepth 100000
set_option linter.unusedVariables false
set_option Elab.async false
open PySem PySem.W PyProof.Rows PySem.Spec PySem.Calls
namespace Mine
theorem upd_led {h h₀ : Heap} {L e : Addr} {m : Str → Option Value} {o : Obj} {f : Obj → Obj} {news : List (Addr × Obj)} (F : Fr h₀ L h m) (N : News h₀ L h ((e, o) :: news)) (off : ∀ p ∈ news, p.1 ≠ e) (hf : (f o).isFreed = false) :
    Fr h₀ L (h.update e f) m ∧ News h₀ L (h.update e f) ((e, f o) :: news) :=
  chg_one F N (fun b x hb hx => (Heap.get?_update_other _ _ (Ne.symm hb)).trans hx) (Heap.get?_update_self f (N _ (List.mem_cons_self ..)).1 hf) off
section
variable {M : Model} {A : Around} {E : Value → Shared → Prop} {s' : Shared} {base g : Heap} {outer : List Env} {L a e t C : Addr} {m : Str → Option Value} {name : Str} {scope : Scope} {cd : Value} {Q : Unit → Shared → Prop} {news : List (Addr × Obj)}
theorem leave_excG {oe : Obj} {ws : Array Value} {vs : List Value} (K : Below A base outer g) (F : Fr g L s'.heap m) (N : News g L s'.heap ((e, oe) :: (t, tupO vs) :: news)) (hcls : oe.cls = .ref C) (hdd : oe.data = .fields ws) (h0 : ws[0]? = some (.ref t)) (h1 : ws[1]? = some .none) (off : ∀ p ∈ news, p.1 ≠ e ∧ p.1 ≠ t) (het : e ≠ t)
    (hQ : ∀ h', RaisedS base g outer e (.ref C) t vs news h' → RaisedK base outer e (.ref C) t vs news h' → g.UpToSlots h' → Q () { s' with heap := h' }) (hk : scope.kind = .function := by rfl) :
    wpAny M (A.deeper (envOf name scope L a cd)) (leaving (envOf name scope L a cd) (.ref e)) Q E s' := by
  have K' := K.push (name := name) (a := a) (cd := cd) F hk
  obtain ⟨he, heL, hen⟩ := N (e, oe) (List.mem_cons_self ..)
  obtain ⟨ht, htL, htn⟩ := N (t, tupO vs) (List.mem_cons_of_mem _ (List.mem_cons_self ..))
  dsimp only at he heL hen ht htL htn
  have Nn : News g L s'.heap news := fun p hp => N p (List.mem_cons_of_mem _ (List.mem_cons_of_mem _ hp))
  have hin : ∀ env ∈ (envOf name scope L a cd :: outer), ∀ b, env.frame = some b → b ∈ e :: t :: (envOf name scope L a cd :: outer).filterMap (·.frame) := fun env he b hb => .tail _ (.tail _ (List.mem_filterMap.mpr ⟨env, he, hb⟩))
  have bn : ∀ b, g.get? b = none → base.get? b = none := fun b h => fresh_of_stays K.stays h
  have st : base.StaysIn (hideAll s'.heap (e :: t :: (envOf name scope L a cd :: outer).filterMap (·.frame))) := fun b o q => hideAll_get _ (K'.stays b o q) fun hm => by
    rcases List.mem_cons.mp hm with rfl | hm
    · rw [bn _ hen] at q; cases q
    rcases List.mem_cons.mp hm with rfl | hm
    · rw [bn _ htn] at q; cases q
    · rw [(K'.frames.mem hm).1] at q; cases q
  have sg : ∀ b o, g.get? b = some o → b ∉ outer.filterMap (·.frame) → (hideAll s'.heap (e :: t :: (envOf name scope L a cd :: outer).filterMap (·.frame))).get? b = some o := fun b o q nm => hideAll_get _ (F.keep b o q) fun hm => by
    rcases List.mem_cons.mp hm with rfl | hm
    · rw [hen] at q; cases q
    rcases List.mem_cons.mp hm with rfl | hm
    · rw [htn] at q; cases q
    · rcases kts_mem hm with z | z
      · rw [z, kts_self F] at q
        cases q
      · exact nm z
  have hl : ∀ q ∈ news, (hideAll s'.heap (e :: t :: (envOf name scope L a cd :: outer).filterMap (·.frame))).get? q.1 = some q.2 ∧ g.get? q.1 = none ∧ base.get? q.1 = none := fun q hq => by
    refine ⟨hideAll_get _ (Nn q hq).1 fun hm => ?_, (Nn q hq).2.2, bn _ (Nn q hq).2.2⟩
    rcases List.mem_cons.mp hm with z | hm
    · exact (off q hq).1 z
    rcases List.mem_cons.mp hm with z | hm
    · exact (off q hq).2 z
    obtain ⟨env, he', hf⟩ := List.mem_filterMap.mp hm
    rcases List.mem_cons.mp he' with rfl | he'
    · exact (Nn q hq).2.1 (Option.some.inj hf).symm
    · obtain ⟨o, ho, _⟩ := (K.frames.mem (List.mem_filterMap.mpr ⟨env, he', hf⟩)).2
      rw [(Nn q hq).2.2] at ho; cases ho
  have hBe : (hideAll s'.heap (e :: t :: (envOf name scope L a cd :: outer).filterMap (·.frame))).get? e = none := hideAll_none _ (.head _)
  have hBt : (hideAll s'.heap (e :: t :: (envOf name scope L a cd :: outer).filterMap (·.frame))).get? t = none := hideAll_none _ (.tail _ (.head _))
  refine wpAny_leaving_firstW (base := hideAll s'.heap (e :: t :: (envOf name scope L a cd :: outer).filterMap (·.frame))) (a0 := .ref t) K'.stack (funFrames_hide K'.frames hin) rfl he (fun b o hb => of_hideAll _ hb) hBe hdd h1 h0 fun h' hL => ?_
  rw [hcls] at hL
  obtain ⟨k1, ⟨_, _, k2⟩, k3, k4⟩ := hL
  have R : RaisedS base g outer e (.ref C) t vs news h' := ⟨⟨_, st, sg, hl, ⟨k1, hBe, k2, k3⟩, hBt⟩, Heap.TupAt.of_slots ⟨_, _, ht, rfl, rfl⟩ k4⟩
  exact hQ h' R R.toK ((Heap.UpToSlots.of_keeps F.keep).trans k4)
end
/-- when the frames below a frame were turned, the heap at its entry is turned with them -/
theorem turn_base {A₀ : Around} {base h₀ g g' : Heap} {outer : List Env} {ev : Env} {L : Addr} {m : Str → Option Value} (hk : ev.frame = some L) (K : Below A₀ base outer h₀) (F : Fr h₀ L g m) (T : KtsTurn ((ev :: outer).filterMap (·.frame)) g g') :
    ∃ h₀', KtsTurn (outer.filterMap (·.frame)) h₀ h₀' ∧ Fr h₀' L g' m ∧ Below A₀ base outer h₀' := by
  have e : (ev :: outer).filterMap (·.frame) = (envOf default default L default default :: outer).filterMap (·.frame) := by
    simp only [List.filterMap_cons, hk]
    rfl
  rw [e] at T
  exact kts_ground (name := default) (scope := default) (a := default) (cd := default) (B := hideAll g' ((envOf default default L default default :: outer).filterMap (·.frame))) K F
    (fun b o hb hn => hideAll_get _ (T.other b o hb hn) hn) (fun b o hb => of_hideAll _ hb) (fun b o hb _ => T.up hb)
theorem ix_exc : isSubtype (.type "IndexError") (.type "BaseException") = pure true := by rw [isSubtype_type]; kernel_rfl
theorem ix_self : isSubtype (.type "IndexError") (.type "IndexError") = pure true := by rw [isSubtype_type]; kernel_rfl
theorem ix_tup : isSubtype (.type ((Manifest.find? "IndexError").elim "type" fun x => x.metatype)) (.type "tuple") = pure false := by
  rw [show ((Manifest.find? "IndexError").elim "type" fun x => x.metatype) = "type" by kernel_rfl, isSubtype_type]
  kernel_rfl
theorem alive_ctx {C t hx : Addr} {d : Option Addr} : (ctxSet hx (excO C t d)).isFreed = false := rfl
end Mine
end

section
set_option maxRecDepth 100000
set_option linter.unusedVariables false
set_option Elab.async false
open PySem PySem.W PyProof.Rows PySem.Spec PySem.Calls
namespace Mine
/-- the class at C has no T among its bases -/
def excNot (K : Frag) (C : Addr) (T : String) : Bool := match K.lookup C with
  | some ⟨_, _, .cls cd, _⟩ => !cd.mro.contains (.type T)
  | _ => false
theorem excNot_bm {K : Frag} {h : Heap} {C N : Addr} {T newId : String} {nm q : Str} {bs bm : List Value} {hdct : Bool} {sn : List Str} {sub : List Value} {ab : Bool} {col : Option Bool} {dd : Option Addr} {k0 k1 k2 k3 k5 : Option Value} (X : K.In h) (hn : excNot K C T = true) (hC : h.get? C = some (excClassObj nm q C N bs bm hdct sn sub ab col dd k0 k1 k2 k3 k5 newId)) : bm.contains (.type T) = false := by
  unfold excNot at hn
  split at hn
  · rename_i cd _ ho
    have e := X _ _ ho
    rw [hC] at e
    have hd := congrArg Obj.data (Option.some.inj e)
    simp only [Data.cls.injEq] at hd
    rw [← hd] at hn
    simpa using hn
  · cases hn
section
variable {prog : Program} {w : World} {A₀ : Around} {E : Value → Shared → Prop} {s' : Shared} {base g G : Heap} {outer : List Env} {L a e t C : Addr} {m : Str → Option Value} {name : Str} {scope : Scope} {cd : Value}
  {vs : List Value} {b₀ : Stmt} {suite : List Stmt} {pos np : Pos} {rest : List ExceptHandler} {Q : Flow → Shared → Prop} {news : List (Addr × Obj)} {KF : Frag}
  {p : Program} {loose : List Str} {mean : ExcName → Option Value} {mg mb : Str → Option Value} {x : Str} {T : String}
/-- an own exception meets a clause of a class of the library that is none of its bases -/
theorem missed_own (R : RaisedS base G (envOf name scope L a cd :: outer) e (.ref C) t vs news s'.heap) (F : Fr g L G m) (K : Below A₀ base outer g) (hsm : G.UpToSlots s'.heap) (XB : KF.In base) (TB : Top p loose mean mg mb base)
    (ex : nsIn KF mainGlobals x = some none) (hv : bootBuiltins x = some (.type T)) (hn' : x ≠ "__name__")
    (hexc : isSubtype (.type T) (.type "BaseException") = pure true) (hnt : isSubtype (.type ((Manifest.find? T).elim "type" fun y => y.metatype)) (.type "tuple") = pure false) (hC : excIn KF C = true) (hnot : excNot KF C T = true)
    (k : ∀ h', RaisedS base G (envOf name scope L a cd :: outer) e (.ref C) t vs news h' → G.UpToSlots h' → wpAny (model prog w) (A₀.deeper (envOf name scope L a cd)) (handleBy (.ref e) (envOf name scope L a cd) rest) Q E { s' with heap := h' })
    (hk : scope.kind = .function := by rfl) (hx : (envOf name scope L a cd).kindOf x = some .globalImplicit := by rfl) (hd : (x == ("__debug__" : Str)) = false := by decide) :
    wpAny (model prog w) (A₀.deeper (envOf name scope L a cd)) (noteFrame (.ref e) (envOf name scope L a cd))
      (fun _ s₂ => wpAny (model prog w) (A₀.deeper (envOf name scope L a cd)) (setFlight (.ref e) none) (fun _ s₃ =>
        wpAny (model prog w) (A₀.deeper (envOf name scope L a cd)) (handleBy (.ref e) (envOf name scope L a cd) (.ExceptHandler (some (.Name x np)) none (b₀ :: suite) pos :: rest)) Q E s₃) E s₂) E s' := by
  obtain ⟨⟨B, hB, hBG, hl, hfl, hnew⟩, htup⟩ := R
  refine wpAny_looks_onW (Around.frames_deeper K.stack) rfl hfl fun h₄ hheld₄ hsm₄ => ?_
  refine wpAny_landsW hheld₄ fun h₅ hfl₅ hsm₅' => ?_
  have hsm₅ := hsm₄.trans hsm₅'
  obtain ⟨g₅, T₅, F₅, K₅⟩ := kts_ground K F hBG hfl₅.1 (hsm.trans hsm₅)
  have X₅ : KF.In g₅ := XB.keeps K₅.stays
  have P₅ : TopRead p loose mg mb g₅ := topRead_of (TB.keeps K₅.stays)
  obtain ⟨ob, hob, hobc⟩ := hfl₅.there
  obtain ⟨bm, hE⟩ := ownExc_of X₅ hC
  obtain ⟨nm, q, Nn, bs, hdct, sn, sub, ab, col, dd, k0, k1, k2, k3, k5, hC1⟩ := hE.cls
  refine wpAny_handleBy_cons (codeAny_handlers_test (name_B F₅ X₅ P₅ ex hv hn' ?_ hk hx hd)) (by intro q; cases q)
  refine wpAny_excMatches_sub_type (F₅.keep _ _ hC1) hob hobc hexc hnt ?_
  rw [excNot_bm X₅ hnot hC1]
  exact k h₅ ⟨⟨B, hB, hBG, hl, hfl₅, hnew⟩, htup.of_slots hsm₅⟩ (hsm.trans hsm₅)
end
end Mine
end

section
open PySem PySem.W PyProof.Rows PySem.Spec PySem.Calls Rlp
set_option Elab.async false
set_option maxRecDepth 100000
set_option maxHeartbeats 1500000
set_option linter.unusedVariables false
namespace Mine
theorem fillKN : (fun (_ : OpenLaw) (_ : Params → Frag) => True) PySem.Challenge.rw_bi0020_01 K := by
  k_fill
  trivial
local macro_rules | `(tactic| walk_at "ENTER0") => `(tactic| (refine wpAny_call ?_; k_dflt (refine' code_def ?k1 ?k2 ?k3 ?k4 ?k5 ?kA ?kF ?kK ?k6 ?k7 ?k8 ?k9 ?kB ?_ ?c2 ?c3 ?c4 ?c5; (case kA => exact rfl); (case kF => exact And.right (by assumption)); (case kK => exact And.left (by assumption)); (case k1 => k_asm); (case k2 => k_asm); (case k3 => k_asm); (case k4 => k_asm); (case k5 => k_asm); (case k6 => k_is); (case k7 => k_is); (case k8 => ktr_room); (case k9 => first | exact BindsTo.of_eq rfl | exact binds_K (by k_in) rfl (by k_is) rfl rfl rfl); (case c5 => decide); (case kB => exact locs rfl); (case c2 => exact rfl); (case c3 => exact rfl); (case c4 => exact rfl); k_whole; intro g' L' h' FG' F' N' B' X' T'; (try dsimp only); (try k_fold))))
local macro_rules | `(tactic| walk_at "ENTER") => `(tactic| (walk_at "ENTER0"; k_steps))
local macro_rules | `(tactic| walk_at "bsz") => `(tactic| ((try simp only [List.size_toArray, List.length_append, List.length_cons, List.length_nil, be_length, beK_length, slice_length]); omega))
local macro_rules | `(tactic| walk_at "call builtin:len") => `(tactic| ((with_reducible show wpAny _ _ (call (Value.builtin _) [Value.bytes (List.toArray _) _]) _ _ _); refine len_bytes (by walk_at "bsz") ?_; (try simp only [List.size_toArray, be_length])))
local macro_rules | `(tactic| walk_at "binaryOp Add bytes bytes") => `(tactic| ((with_reducible show wpAny _ _ (binaryOp Operator.Add (Value.bytes (List.toArray _) _) (Value.bytes (List.toArray _) _)) _ _ _); refine KBy.add_bytes (by walk_at "bsz") ?_; intro _ _; (try simp only [List.append_toArray, List.cons_append, List.nil_append])))
local macro_rules | `(tactic| walk_at "subscriptTail") => `(tactic| ((with_reducible show wpAny _ _ (subscriptTail _ _ (Value.bytes (List.toArray _) _) (Value.ref _)) _ _ _); refine slice_int (s := ⟨_, _, _, _, _⟩) (by k_asm) (by k_asm) (by omega) (by omega) (by omega) ?_; intro _ _ _ _ _))
local macro_rules | `(tactic| walk_at "dp") => `(tactic| ((show _ + _ < _); simp only [ktr_dp, ktr_un]; omega))
local macro_rules | `(tactic| walk_at "call ref") => `(tactic| ((with_reducible show wpAny _ _ (call (Value.ref 1464) _) _ _ _); (k_dflt (refine' b2i ?k1 ?k2 ?k3 ?k4 ?k5 ?k6 ?k7 ?k8 ?k9 ?_; (case k1 => k_asm); (case k2 => k_asm); (case k3 => k_asm); (case k4 => k_asm); (case k5 => k_asm); (case k6 => exact ⟨rfl, rfl⟩); (case k7 => walk_at "dp"); (case k8 => walk_at "dp"); (case k9 => walk_at "bsz"))); intro _ _ _ _ _))
local macro_rules | `(tactic| walk_at "call ref") => `(tactic| ((with_reducible show wpAny _ _ (call (Value.ref 1736) _) _ _ _); (k_dflt (refine' clp_ok ?k1 ?k2 ?k3 ?k4 ?k5 ?k6 ?k7 ?k8 ?k9 ?k0 ?_; (case k1 => k_asm); (case k2 => k_asm); (case k3 => k_asm); (case k4 => k_asm); (case k5 => k_asm); (case k6 => exact ⟨rfl, rfl⟩); (case k7 => walk_at "dp"); (case k8 => walk_at "dp"); (case k9 => walk_at "bsz"); (case k0 => assumption))); intro _ _ _ _ _ _ _ _ _ _))
local macro_rules | `(tactic| walk_at "call ref") => `(tactic| ((with_reducible show wpAny _ _ (call (Value.ref 1457) _) _ _ _); (k_dflt (refine' is_b ?k1 ?k2 ?k3 ?k4 ?k5 ?k6 ?k7 ?k8 ?_; (case k1 => k_asm); (case k2 => k_asm); (case k3 => k_asm); (case k4 => k_asm); (case k5 => k_asm); (case k6 => exact ⟨rfl, rfl⟩); (case k7 => walk_at "dp"); (case k8 => walk_at "dp"))); intro _ _ _ _))
local macro_rules | `(tactic| walk_at "GW") => `(tactic| ((fail_if_success (with_reducible show wpAny _ _ (exec (Stmt.While _ _ _ _) _) _ _ _))))
local macro_rules | `(tactic| walk_at "UPW") => `(tactic| repeat' (first | (k_unfold; (try dsimp only)) | (k_end; wrow_close) | (walk_at "GW"; walk1) | (dsimp only; walk_at "GW"; walk1) | (walk_at "GW"; leave1; (try dsimp only)) | fail "no step"))
local macro_rules | `(tactic| walk_at "GC") => `(tactic| ((fail_if_success (with_reducible show wpAny _ _ (call (Value.ref 1736) _ _) _ _ _)); (fail_if_success (with_reducible show wpAny _ _ (call (Value.ref 1743) _ _) _ _ _))))
local macro_rules | `(tactic| walk_at "UPC") => `(tactic| repeat' (first | (k_unfold; (try dsimp only)) | (k_end; wrow_close) | (walk_at "GC"; walk1) | (dsimp only; walk_at "GC"; walk1) | (walk_at "GC"; leave1; (try dsimp only)) | fail "no step"))
local macro_rules | `(tactic| k_all) => `(tactic| assumption)
local macro_rules | `(tactic| k_ne) => `(tactic| assumption)
local macro_rules | `(tactic| walk_at "GN") => `(tactic| ((fail_if_success (with_reducible show wpAny _ _ (call (Value.ref 1750) _ _) _ _ _)); (fail_if_success (with_reducible show wpAny _ _ (call (Value.ref 74) _ _) _ _ _)); (fail_if_success (with_reducible show wpAny _ _ (exec (Stmt.Raise _ _ _) _) _ _ _))))
local macro_rules | `(tactic| walk_at "UPN") => `(tactic| repeat' (first | (k_unfold; (try dsimp only)) | (k_end; wrow_close) | (walk_at "GN"; walk1) | (dsimp only; walk_at "GN"; walk1) | (walk_at "GN"; leave1; (try dsimp only)) | fail "no step"))
section
variable {w : World} {p : Program} {loose : List Str} {mean : ExcName → Option Value} {mg mb : Str → Option Value} {dp un : Nat} {gd : Option (List Code)} {ev : Env} {outer : List Env} {A₀ : Around} {base h₀ : Heap} {L : Addr} {m : Str → Option Value} {news : List (Addr × Obj)} {s : Shared} {Q E : Value → Shared → Prop}
/-- decode_raw refuses an item that has a flaw -/
theorem dr_flaw {x : List UInt8} {dep : Nat} {b st y : Bool} {t : Tok} (XB : (K w.params).In base) (TB : Top p loose mean mg mb base)
    (B : Below A₀ base outer h₀) (F : Fr h₀ L s.heap m) (X : (K w.params).In h₀) (N : News h₀ L s.heap news) (T : Top p loose mean mg mb h₀) (hk : ev.scope.kind = .function ∧ ev.frame = some L)
    (hd : dp + 80 + 2 * dep < recursionLimit) (hu : un + 180 + 10 * dep < cLine) (hx : x.length < 2 ^ 23) (hi : flaw (item x dep 0) = some b)
    (hraise : ∀ h' tk' ex h₀' g' t vs, KtsTurn (outer.filterMap (·.frame)) h₀ h₀' → Fr h₀' L g' m → Below A₀ base outer h₀' → RaisedS base g' (ev :: outer) ex (.ref 74) t vs news h' → g'.UpToSlots h' → E (.ref ex) { s with heap := h', toks := tk' }) :
    wpAny (model pg w) (ktrE dp un gd ev outer) (call (.ref 1714) [.bytes x.toArray t, .bool st, .bool y]) Q E s := by
  have hi' : flaw (item x dep ((0 : Nat))) = some b := hi
  walk_at "ENTER0"
  rename Fr h₀ L _ _ => FG
  walk_at "UPN"
  k_dflt (refine' it_bad (st := 0) ?k1 ?k2 ?k3 ?k4 ?k5 ?k6 ?k7 ?k8 ?k9 hi ?_; (case k1 => k_asm); (case k2 => k_asm); (case k3 => k_asm); (case k4 => k_asm); (case k5 => k_asm); (case k6 => exact ⟨rfl, rfl⟩); (case k7 => walk_at "dp"); (case k8 => walk_at "dp"); (case k9 => exact hx))
  intro h9 tk9 ex g9 t9 vs9 F9 R9 C9 U9
  cases b with
  | true =>
    refine caught_ctx (KF := K w.params) (X := "IndexError") R9 (C9 rfl) F9 (by assumption) U9 XB TB (by kernel_rfl) (by first | exact PySem.W.«IndexError» | kernel_rfl) (by decide) ix_exc ix_tup ix_self ?_
    intro h8 g8 oh T8 F8 N8 hoc B8 X8 T8'
    clear F9 R9 C9 U9
    have hxm : (ex, oh) ∈ (ex, oh) :: news := .head _
    walk_at "UPN"
    refine raise_in (KF := K w.params) (hx := ex) rfl ?_
    walk_at "UPN"
    k_dflt (refine' mk_DEh ?k1 ?k2 ?k3 ?k4 ?k5 ?k6 ?k7 ?k8 ?_; (case k1 => k_asm); (case k2 => k_asm); (case k3 => k_asm); (case k4 => k_asm); (case k5 => k_asm); (case k6 => exact ⟨rfl, rfl⟩); (case k7 => (show dp + 1 + 20 < recursionLimit); omega); (case k8 => (show un + 3 + 60 < cLine); omega))
    intro e7 t7 d7 h7 tk7 F7 N7 l7 l7e hne7
    have hxe : ex < e7 := l7e _ hxm
    refine ⟨e7, 74, _, _, oh, rfl, X8.keeps F7.keep, exc74 _, (N7 _ (.head _)).1, rfl, rfl, rfl, by simp, Nat.ne_of_lt hxe, (N7 (ex, oh) (.tail _ (.tail _ (.head _)))).1, hoc, ?_⟩
    obtain ⟨F6, N6⟩ := upd_led (f := ctxSet ex) F7 N7 (List.forall_mem_cons.mpr ⟨Ne.symm hne7, fun p hp => Nat.ne_of_lt (l7e p hp)⟩) alive_ctx
    refine leave_excG (C := 74) B8 F6 N6 rfl rfl rfl rfl (off_both l7 l7e) hne7 (fun h6 R6 _ U6 => ?_)
    obtain ⟨h₀', T0, F0, B0⟩ := turn_base hk.2 B FG T8
    exact hraise _ _ _ h₀' _ _ _ T0 F0 B0 (RaisedS.sub R6 fun p hp => .tail _ hp) U6
  | false =>
    refine missed_own (KF := K w.params) (T := "IndexError") (C := 74) R9 F9 (by assumption) U9 XB TB (by kernel_rfl) (by kernel_rfl) (by decide) ix_exc ix_tup (exc74 _) (by kernel_rfl) ?_
    intro h8 R8 U8
    refine on_S R8 U8 fun h7 R7 U7 => ?_
    refine leave_heldS R7 F9 U7 fun h6 R6 _ U6 => ?_
    exact hraise _ _ _ h₀ _ _ _ KtsTurn.refl FG B (RaisedS.sub R6 fun p hp => hp) U6
end
end Mine
end

section
open PySem PySem.W PyProof.Rows PySem.Spec PySem.Calls Rlp
set_option Elab.async false
set_option maxRecDepth 100000
set_option maxHeartbeats 1500000
set_option linter.unusedVariables false
namespace Mine
theorem fillKO : (fun (_ : OpenLaw) (_ : Params → Frag) => True) PySem.Challenge.rw_bi0020_01 K := by
  k_fill
  trivial
local macro_rules | `(tactic| walk_at "ENTER0") => `(tactic| (refine wpAny_call ?_; k_dflt (refine' code_def ?k1 ?k2 ?k3 ?k4 ?k5 ?kA ?kF ?kK ?k6 ?k7 ?k8 ?k9 ?kB ?_ ?c2 ?c3 ?c4 ?c5; (case kA => exact rfl); (case kF => exact And.right (by assumption)); (case kK => exact And.left (by assumption)); (case k1 => k_asm); (case k2 => k_asm); (case k3 => k_asm); (case k4 => k_asm); (case k5 => k_asm); (case k6 => k_is); (case k7 => k_is); (case k8 => ktr_room); (case k9 => first | exact BindsTo.of_eq rfl | exact binds_K (by k_in) rfl (by k_is) rfl rfl rfl); (case c5 => decide); (case kB => exact locs rfl); (case c2 => exact rfl); (case c3 => exact rfl); (case c4 => exact rfl); k_whole; intro g' L' h' FG' F' N' B' X' T'; (try dsimp only); (try k_fold))))
local macro_rules | `(tactic| walk_at "ENTER") => `(tactic| (walk_at "ENTER0"; k_steps))
local macro_rules | `(tactic| walk_at "bsz") => `(tactic| ((try simp only [List.size_toArray, List.length_append, List.length_cons, List.length_nil, be_length, beK_length, slice_length]); omega))
local macro_rules | `(tactic| walk_at "call builtin:len") => `(tactic| ((with_reducible show wpAny _ _ (call (Value.builtin _) [Value.bytes (List.toArray _) _]) _ _ _); refine len_bytes (by walk_at "bsz") ?_; (try simp only [List.size_toArray, be_length])))
local macro_rules | `(tactic| walk_at "binaryOp Add bytes bytes") => `(tactic| ((with_reducible show wpAny _ _ (binaryOp Operator.Add (Value.bytes (List.toArray _) _) (Value.bytes (List.toArray _) _)) _ _ _); refine KBy.add_bytes (by walk_at "bsz") ?_; intro _ _; (try simp only [List.append_toArray, List.cons_append, List.nil_append])))
local macro_rules | `(tactic| walk_at "subscriptTail") => `(tactic| ((with_reducible show wpAny _ _ (subscriptTail _ _ (Value.bytes (List.toArray _) _) (Value.ref _)) _ _ _); refine slice_int (s := ⟨_, _, _, _, _⟩) (by k_asm) (by k_asm) (by omega) (by omega) (by omega) ?_; intro _ _ _ _ _))
local macro_rules | `(tactic| walk_at "dp") => `(tactic| ((show _ + _ < _); simp only [ktr_dp, ktr_un]; omega))
local macro_rules | `(tactic| walk_at "call ref") => `(tactic| ((with_reducible show wpAny _ _ (call (Value.ref 1464) _) _ _ _); (k_dflt (refine' b2i ?k1 ?k2 ?k3 ?k4 ?k5 ?k6 ?k7 ?k8 ?k9 ?_; (case k1 => k_asm); (case k2 => k_asm); (case k3 => k_asm); (case k4 => k_asm); (case k5 => k_asm); (case k6 => exact ⟨rfl, rfl⟩); (case k7 => walk_at "dp"); (case k8 => walk_at "dp"); (case k9 => walk_at "bsz"))); intro _ _ _ _ _))
local macro_rules | `(tactic| walk_at "call ref") => `(tactic| ((with_reducible show wpAny _ _ (call (Value.ref 1736) _) _ _ _); (k_dflt (refine' clp_ok ?k1 ?k2 ?k3 ?k4 ?k5 ?k6 ?k7 ?k8 ?k9 ?k0 ?_; (case k1 => k_asm); (case k2 => k_asm); (case k3 => k_asm); (case k4 => k_asm); (case k5 => k_asm); (case k6 => exact ⟨rfl, rfl⟩); (case k7 => walk_at "dp"); (case k8 => walk_at "dp"); (case k9 => walk_at "bsz"); (case k0 => assumption))); intro _ _ _ _ _ _ _ _ _ _))
local macro_rules | `(tactic| walk_at "call ref") => `(tactic| ((with_reducible show wpAny _ _ (call (Value.ref 1457) _) _ _ _); (k_dflt (refine' is_b ?k1 ?k2 ?k3 ?k4 ?k5 ?k6 ?k7 ?k8 ?_; (case k1 => k_asm); (case k2 => k_asm); (case k3 => k_asm); (case k4 => k_asm); (case k5 => k_asm); (case k6 => exact ⟨rfl, rfl⟩); (case k7 => walk_at "dp"); (case k8 => walk_at "dp"))); intro _ _ _ _))
local macro_rules | `(tactic| walk_at "call ref") => `(tactic| ((with_reducible show wpAny _ _ (call (Value.ref 1714) _) _ _ _); (k_dflt (refine' dr_ok ?k1 ?k2 ?k3 ?k4 ?k5 ?k6 ?k7 ?k8 ?k9 ?ka ?kb ?_; (case k1 => k_asm); (case k2 => k_asm); (case k3 => k_asm); (case k4 => k_asm); (case k5 => k_asm); (case ka => assumption); (case kb => assumption); (case k6 => exact ⟨rfl, rfl⟩); (case k7 => walk_at "dp"); (case k8 => walk_at "dp"); (case k9 => assumption))); intro _ _ _ _ _ _ _ _ _ _ _ _ _ _ _))
local macro_rules | `(tactic| walk_at "call ref") => `(tactic| ((with_reducible show wpAny _ _ (call (Value.ref 1500) [Value.ref 1509, _]) _ _ _); (k_dflt (refine' des_plain ?k1 ?k2 ?k3 ?k4 ?k5 ?k6 ?k7 ?k8 ?k9 ?k0 ?_; (case k1 => k_asm); (case k2 => k_asm); (case k3 => k_asm); (case k4 => k_asm); (case k5 => k_asm); (case k6 => exact ⟨rfl, rfl⟩); (case k7 => walk_at "dp"); (case k8 => walk_at "dp"); (case k9 => walk_at "bsz"); (case k0 => assumption))); intro _ _ _ _ _))
local macro_rules | `(tactic| walk_at "call ref") => `(tactic| ((with_reducible show wpAny _ _ (call (Value.ref 1750) _) _ _ _); (k_dflt (refine' it_ok ?k1 ?k2 ?k3 ?k4 ?k5 ?k6 ?k7 ?k8 ?k9 ?ka ?_; (case k1 => k_asm); (case k2 => k_asm); (case k3 => k_asm); (case k4 => k_asm); (case k5 => k_asm); (case ka => assumption); (case k6 => exact ⟨rfl, rfl⟩); (case k7 => walk_at "dp"); (case k8 => walk_at "dp"); (case k9 => assumption))); intro _ _ _ _ _ _ _ _ _ _ _ _ _ _ _ _))
local macro_rules | `(tactic| walk_at "exec Raise some none") => `(tactic| (k_here; (with_reducible show wpAny _ _ (exec (Stmt.Raise (some _) none _) _) _ _ _); k_dflt (refine raise_row rfl ?_)))
local macro_rules | `(tactic| walk_at "call ref") => `(tactic| ((with_reducible show wpAny _ _ (call (Value.ref 74) [_, _]) _ _ _); (k_dflt (refine' mk_DE ?k1 ?k2 ?k3 ?k4 ?k5 ?k6 ?k7 ?k8 ?_; (case k1 => k_asm); (case k2 => k_asm); (case k3 => k_asm); (case k4 => k_asm); (case k5 => k_asm); (case k6 => exact ⟨rfl, rfl⟩); (case k7 => walk_at "dp"); (case k8 => walk_at "dp"))); intro _ _ _ _ _ _ _ _ _ _; refine RaiseOk.intro (by k_asm) (by k_asm) (by k_asm) (.head _) (exc74 _) ?_))
local macro_rules | `(tactic| walk_at "leaving ref") => `(tactic| ((with_reducible show wpAny _ _ (leaving _ (Value.ref _)) _ _ _); (refine' leave_excS ?k1 ?k2 ?k3 ?k4 ?k5 ?_; (case k1 => assumption); (case k2 => assumption); (case k3 => k_asm); (case k4 => exact off_both (by assumption) (by assumption)); (case k5 => assumption)); intro _ _ _ _))
local macro_rules | `(tactic| walk_at "And") => `(tactic| first | ((with_reducible show PySem.Str.length (_ ++ _) ≤ sizeLine ∧ wpAny _ _ (joinParts _ []) _ _ _); refine joinAnd_nil (by size_fits) ?_; intro _ _ _) | ((with_reducible show PySem.Str.length (_ ++ _) ≤ sizeLine ∧ wpAny _ _ (joinParts _ (evalEach [] _)) _ _ _); refine joinAnd_nilE (by size_fits) ?_; intro _ _ _))
section
variable {w : World} {p : Program} {loose : List Str} {mean : ExcName → Option Value} {mg mb : Str → Option Value} {dp un : Nat} {gd : Option (List Code)} {ev : Env} {outer : List Env} {A₀ : Around} {base h₀ : Heap} {L : Addr} {m : Str → Option Value} {news : List (Addr × Obj)} {s : Shared} {Q E : Value → Shared → Prop}
theorem dr_sup {x r : List UInt8} {dep e : Nat} {y : Bool} {d : D} {t : Tok}
    (B : Below A₀ base outer h₀) (F : Fr h₀ L s.heap m) (X : (K w.params).In h₀) (N : News h₀ L s.heap news) (T : Top p loose mean mg mb h₀) (hk : ev.scope.kind = .function ∧ ev.frame = some L)
    (hd : dp + 50 + 2 * dep < recursionLimit) (hu : un + 120 + 10 * dep < cLine) (hx : x.length < 2 ^ 23) (hi : item x dep 0 = .ok (d, r, e)) (he : e ≠ x.length)
    (hraise : ∀ h' tk' ex g' t vs, Fr h₀ L g' m → RaisedS base g' (ev :: outer) ex (.ref 74) t vs news h' → g'.UpToSlots h' → E (.ref ex) { s with heap := h', toks := tk' }) :
    wpAny (model pg w) (ktrE dp un gd ev outer) (call (.ref 1714) [.bytes x.toArray t, .bool true, .bool y]) Q E s := by
  have hi' : item x dep ((0 : Nat)) = .ok (d, r, e) := hi
  have he2 : e ≤ 18446744073709551625 := by
    have e8 : (256 : Nat) ^ 8 = 18446744073709551616 := rfl
    have := item_end hi
    omega
  walk_at "ENTER0"
  k_steps
  · rename RaisedS _ _ _ _ _ _ _ _ _ => R9
    rename Heap.UpToSlots _ _ => U9
    exact hraise _ _ _ _ _ _ (by assumption) (RaisedS.sub R9 fun p hp => List.mem_append_right _ hp) U9
  · exfalso; omega
end
end Mine
end

section
open PySem PySem.W PyProof.Rows PySem.Spec PySem.Calls Rlp
set_option Elab.async false
set_option maxRecDepth 100000
set_option maxHeartbeats 1500000
set_option linter.unusedVariables false
namespace Mine
theorem fillKP : (fun (_ : OpenLaw) (_ : Params → Frag) => True) PySem.Challenge.rw_bi0020_01 K := by
  k_fill
  trivial
local macro_rules | `(tactic| walk_at "ENTER0") => `(tactic| (refine wpAny_call ?_; k_dflt (refine' code_def ?k1 ?k2 ?k3 ?k4 ?k5 ?kA ?kF ?kK ?k6 ?k7 ?k8 ?k9 ?kB ?_ ?c2 ?c3 ?c4 ?c5; (case kA => exact rfl); (case kF => exact And.right (by assumption)); (case kK => exact And.left (by assumption)); (case k1 => k_asm); (case k2 => k_asm); (case k3 => k_asm); (case k4 => k_asm); (case k5 => k_asm); (case k6 => k_is); (case k7 => k_is); (case k8 => ktr_room); (case k9 => first | exact BindsTo.of_eq rfl | exact binds_K (by k_in) rfl (by k_is) rfl rfl rfl); (case c5 => decide); (case kB => exact locs rfl); (case c2 => exact rfl); (case c3 => exact rfl); (case c4 => exact rfl); k_whole; intro g' L' h' FG' F' N' B' X' T'; (try dsimp only); (try k_fold))))
local macro_rules | `(tactic| walk_at "ENTER") => `(tactic| (walk_at "ENTER0"; k_steps))
local macro_rules | `(tactic| walk_at "bsz") => `(tactic| ((try simp only [List.size_toArray, List.length_append, List.length_cons, List.length_nil, be_length, beK_length, slice_length]); omega))
local macro_rules | `(tactic| walk_at "call builtin:len") => `(tactic| ((with_reducible show wpAny _ _ (call (Value.builtin _) [Value.bytes (List.toArray _) _]) _ _ _); refine len_bytes (by walk_at "bsz") ?_; (try simp only [List.size_toArray, be_length])))
local macro_rules | `(tactic| walk_at "binaryOp Add bytes bytes") => `(tactic| ((with_reducible show wpAny _ _ (binaryOp Operator.Add (Value.bytes (List.toArray _) _) (Value.bytes (List.toArray _) _)) _ _ _); refine KBy.add_bytes (by walk_at "bsz") ?_; intro _ _; (try simp only [List.append_toArray, List.cons_append, List.nil_append])))
local macro_rules | `(tactic| walk_at "subscriptTail") => `(tactic| ((with_reducible show wpAny _ _ (subscriptTail _ _ (Value.bytes (List.toArray _) _) (Value.ref _)) _ _ _); refine slice_int (s := ⟨_, _, _, _, _⟩) (by k_asm) (by k_asm) (by omega) (by omega) (by omega) ?_; intro _ _ _ _ _))
local macro_rules | `(tactic| walk_at "dp") => `(tactic| ((show _ + _ < _); simp only [ktr_dp, ktr_un]; omega))
local macro_rules | `(tactic| walk_at "call ref") => `(tactic| ((with_reducible show wpAny _ _ (call (Value.ref 1464) _) _ _ _); (k_dflt (refine' b2i ?k1 ?k2 ?k3 ?k4 ?k5 ?k6 ?k7 ?k8 ?k9 ?_; (case k1 => k_asm); (case k2 => k_asm); (case k3 => k_asm); (case k4 => k_asm); (case k5 => k_asm); (case k6 => exact ⟨rfl, rfl⟩); (case k7 => walk_at "dp"); (case k8 => walk_at "dp"); (case k9 => walk_at "bsz"))); intro _ _ _ _ _))
local macro_rules | `(tactic| walk_at "call ref") => `(tactic| ((with_reducible show wpAny _ _ (call (Value.ref 1736) _) _ _ _); (k_dflt (refine' clp_ok ?k1 ?k2 ?k3 ?k4 ?k5 ?k6 ?k7 ?k8 ?k9 ?k0 ?_; (case k1 => k_asm); (case k2 => k_asm); (case k3 => k_asm); (case k4 => k_asm); (case k5 => k_asm); (case k6 => exact ⟨rfl, rfl⟩); (case k7 => walk_at "dp"); (case k8 => walk_at "dp"); (case k9 => walk_at "bsz"); (case k0 => assumption))); intro _ _ _ _ _ _ _ _ _ _))
local macro_rules | `(tactic| walk_at "call ref") => `(tactic| ((with_reducible show wpAny _ _ (call (Value.ref 1457) _) _ _ _); (k_dflt (refine' is_b ?k1 ?k2 ?k3 ?k4 ?k5 ?k6 ?k7 ?k8 ?_; (case k1 => k_asm); (case k2 => k_asm); (case k3 => k_asm); (case k4 => k_asm); (case k5 => k_asm); (case k6 => exact ⟨rfl, rfl⟩); (case k7 => walk_at "dp"); (case k8 => walk_at "dp"))); intro _ _ _ _))
local macro_rules | `(tactic| walk_at "GP") => `(tactic| ((fail_if_success (with_reducible show wpAny _ _ (call (Value.ref 1714) _ _) _ _ _))))
local macro_rules | `(tactic| walk_at "UPP") => `(tactic| repeat' (first | (k_unfold; (try dsimp only)) | (k_end; wrow_close) | (walk_at "GP"; walk1) | (dsimp only; walk_at "GP"; walk1) | (walk_at "GP"; leave1; (try dsimp only)) | fail "no step"))
/-- what decode refuses -/
def Refused (x : List UInt8) (dep : Nat) : Prop := (∃ b, flaw (item x dep 0) = some b) ∨ ∃ d r e, item x dep 0 = .ok (d, r, e) ∧ e ≠ x.length
section
variable {w : World} {p : Program} {loose : List Str} {mean : ExcName → Option Value} {mg mb : Str → Option Value} {dp un : Nat} {gd : Option (List Code)} {ev : Env} {outer : List Env} {A₀ : Around} {base h₀ : Heap} {L : Addr} {m : Str → Option Value} {news : List (Addr × Obj)} {s : Shared} {Q E : Value → Shared → Prop}
theorem de_bad {x : List UInt8} {dep : Nat} {t : Tok} (XB : (K w.params).In base) (TB : Top p loose mean mg mb base)
    (B : Below A₀ base outer h₀) (F : Fr h₀ L s.heap m) (X : (K w.params).In h₀) (N : News h₀ L s.heap news) (T : Top p loose mean mg mb h₀) (hk : ev.scope.kind = .function ∧ ev.frame = some L)
    (hd : dp + 90 + 2 * dep < recursionLimit) (hu : un + 200 + 10 * dep < cLine) (hx : x.length < 2 ^ 23) (hi : Refused x dep)
    (hraise : ∀ h' tk' ex h₀' g' t vs, KtsTurn (outer.filterMap (·.frame)) h₀ h₀' → Fr h₀' L g' m → Below A₀ base outer h₀' → RaisedS base g' (ev :: outer) ex (.ref 74) t vs news h' → g'.UpToSlots h' → E (.ref ex) { s with heap := h', toks := tk' }) :
    wpAny (model pg w) (ktrE dp un gd ev outer) (call (.ref 1758) [.bytes x.toArray t]) Q E s := by
  rcases hi with ⟨b, hi⟩ | ⟨d, r, e, hi, he⟩
  · walk_at "ENTER0"
    rename Fr h₀ L _ _ => FG
    walk_at "UPP"
    k_dflt (refine' dr_flaw XB TB ?k1 ?k2 ?k3 ?k4 ?k5 ?k6 ?k7 ?k8 ?k9 hi ?_; (case k1 => k_asm); (case k2 => k_asm); (case k3 => k_asm); (case k4 => k_asm); (case k5 => k_asm); (case k6 => exact ⟨rfl, rfl⟩); (case k7 => walk_at "dp"); (case k8 => walk_at "dp"); (case k9 => exact hx))
    intro h9 tk9 ex h₀' g9 t9 vs9 T9 F9 B9 R9 U9
    refine leave_onS B9 F9 R9 U9 fun h8 R8 _ U8 => ?_
    obtain ⟨h₁', T0, F0, B0⟩ := turn_base hk.2 B FG T9
    exact hraise _ _ _ h₁' _ _ _ T0 F0 B0 (RaisedS.sub R8 fun p hp => by first | exact hp | exact .tail _ hp | exact .tail _ (.tail _ hp)) U8
  · walk_at "ENTER0"
    rename Fr h₀ L _ _ => FG
    walk_at "UPP"
    k_dflt (refine' dr_sup ?k1 ?k2 ?k3 ?k4 ?k5 ?k6 ?k7 ?k8 ?k9 hi he ?_; (case k1 => k_asm); (case k2 => k_asm); (case k3 => k_asm); (case k4 => k_asm); (case k5 => k_asm); (case k6 => exact ⟨rfl, rfl⟩); (case k7 => walk_at "dp"); (case k8 => walk_at "dp"); (case k9 => exact hx))
    intro h9 tk9 ex g9 t9 vs9 F9 R9 U9
    refine leave_onS (by assumption) F9 R9 U9 fun h8 R8 _ U8 => ?_
    exact hraise _ _ _ h₀ _ _ _ KtsTurn.refl FG B (RaisedS.sub R8 fun p hp => by first | exact hp | exact .tail _ hp | exact .tail _ (.tail _ hp)) U8
end
end Mine
end

section
open PySem PySem.W PyProof.Rows PySem.Spec PySem.Calls Rlp
set_option Elab.async false
set_option maxRecDepth 100000
set_option maxHeartbeats 1500000
set_option linter.unusedVariables false
namespace Mine
theorem fillKG : (fun (_ : OpenLaw) (_ : Params → Frag) => True) PySem.Challenge.rw_bi0020_01 K := by
  k_fill
  trivial
local macro_rules | `(tactic| walk_at "ENTER0") => `(tactic| (refine wpAny_call ?_; k_dflt (refine' code_def ?k1 ?k2 ?k3 ?k4 ?k5 ?kA ?kF ?kK ?k6 ?k7 ?k8 ?k9 ?kB ?_ ?c2 ?c3 ?c4 ?c5; (case kA => exact rfl); (case kF => exact And.right (by assumption)); (case kK => exact And.left (by assumption)); (case k1 => k_asm); (case k2 => k_asm); (case k3 => k_asm); (case k4 => k_asm); (case k5 => k_asm); (case k6 => k_is); (case k7 => k_is); (case k8 => ktr_room); (case k9 => first | exact BindsTo.of_eq rfl | exact binds_K (by k_in) rfl (by k_is) rfl rfl rfl); (case c5 => decide); (case kB => exact locs rfl); (case c2 => exact rfl); (case c3 => exact rfl); (case c4 => exact rfl); k_whole; intro g' L' h' FG' F' N' B' X' T'; (try dsimp only); (try k_fold))))
local macro_rules | `(tactic| walk_at "ENTER") => `(tactic| (walk_at "ENTER0"; k_steps))
local macro_rules | `(tactic| walk_at "bsz") => `(tactic| ((try simp only [List.size_toArray, List.length_append, List.length_cons, List.length_nil, be_length, beK_length, slice_length]); omega))
local macro_rules | `(tactic| walk_at "call builtin:len") => `(tactic| ((with_reducible show wpAny _ _ (call (Value.builtin _) [Value.bytes (List.toArray _) _]) _ _ _); refine len_bytes (by walk_at "bsz") ?_; (try simp only [List.size_toArray, be_length])))
local macro_rules | `(tactic| walk_at "binaryOp Add bytes bytes") => `(tactic| ((with_reducible show wpAny _ _ (binaryOp Operator.Add (Value.bytes (List.toArray _) _) (Value.bytes (List.toArray _) _)) _ _ _); refine KBy.add_bytes (by walk_at "bsz") ?_; intro _ _; (try simp only [List.append_toArray, List.cons_append, List.nil_append])))
local macro_rules | `(tactic| walk_at "subscriptTail") => `(tactic| ((with_reducible show wpAny _ _ (subscriptTail _ _ (Value.bytes (List.toArray _) _) (Value.ref _)) _ _ _); refine slice_int (s := ⟨_, _, _, _, _⟩) (by k_asm) (by k_asm) (by omega) (by omega) (by omega) ?_; intro _ _ _ _ _))
local macro_rules | `(tactic| walk_at "dp") => `(tactic| ((show _ + _ < _); simp only [ktr_dp, ktr_un]; omega))
local macro_rules | `(tactic| walk_at "call ref") => `(tactic| ((with_reducible show wpAny _ _ (call (Value.ref 1464) _) _ _ _); (k_dflt (refine' b2i ?k1 ?k2 ?k3 ?k4 ?k5 ?k6 ?k7 ?k8 ?k9 ?_; (case k1 => k_asm); (case k2 => k_asm); (case k3 => k_asm); (case k4 => k_asm); (case k5 => k_asm); (case k6 => exact ⟨rfl, rfl⟩); (case k7 => walk_at "dp"); (case k8 => walk_at "dp"); (case k9 => walk_at "bsz"))); intro _ _ _ _ _))
local macro_rules | `(tactic| walk_at "call ref") => `(tactic| ((with_reducible show wpAny _ _ (call (Value.ref 1736) _) _ _ _); (k_dflt (refine' clp_ok ?k1 ?k2 ?k3 ?k4 ?k5 ?k6 ?k7 ?k8 ?k9 ?k0 ?_; (case k1 => k_asm); (case k2 => k_asm); (case k3 => k_asm); (case k4 => k_asm); (case k5 => k_asm); (case k6 => exact ⟨rfl, rfl⟩); (case k7 => walk_at "dp"); (case k8 => walk_at "dp"); (case k9 => walk_at "bsz"); (case k0 => assumption))); intro _ _ _ _ _ _ _ _ _ _))
local macro_rules | `(tactic| walk_at "call ref") => `(tactic| ((with_reducible show wpAny _ _ (call (Value.ref 1457) _) _ _ _); (k_dflt (refine' is_b ?k1 ?k2 ?k3 ?k4 ?k5 ?k6 ?k7 ?k8 ?_; (case k1 => k_asm); (case k2 => k_asm); (case k3 => k_asm); (case k4 => k_asm); (case k5 => k_asm); (case k6 => exact ⟨rfl, rfl⟩); (case k7 => walk_at "dp"); (case k8 => walk_at "dp"))); intro _ _ _ _))
local macro_rules | `(tactic| walk_at "exec Raise some none") => `(tactic| (k_here; (with_reducible show wpAny _ _ (exec (Stmt.Raise (some _) none _) _) _ _ _); k_dflt (refine raise_row rfl ?_)))
local macro_rules | `(tactic| walk_at "call ref") => `(tactic| ((with_reducible show wpAny _ _ (call (Value.ref 74) [_, _]) _ _ _); (k_dflt (refine' mk_DE ?k1 ?k2 ?k3 ?k4 ?k5 ?k6 ?k7 ?k8 ?_; (case k1 => k_asm); (case k2 => k_asm); (case k3 => k_asm); (case k4 => k_asm); (case k5 => k_asm); (case k6 => exact ⟨rfl, rfl⟩); (case k7 => walk_at "dp"); (case k8 => walk_at "dp"))); intro _ _ _ _ _ _ _ _ _ _; refine RaiseOk.intro (by k_asm) (by k_asm) (by k_asm) (.head _) (exc74 _) ?_))
local macro_rules | `(tactic| walk_at "leaving ref") => `(tactic| ((with_reducible show wpAny _ _ (leaving _ (Value.ref _)) _ _ _); (refine' leave_excS ?k1 ?k2 ?k3 ?k4 ?k5 ?_; (case k1 => assumption); (case k2 => assumption); (case k3 => k_asm); (case k4 => exact off_both (by assumption) (by assumption)); (case k5 => assumption)); intro _ _ _ _))
local macro_rules | `(tactic| walk_at "And") => `(tactic| first | ((with_reducible show PySem.Str.length (_ ++ _) ≤ sizeLine ∧ wpAny _ _ (joinParts _ []) _ _ _); refine joinAnd_nil (by size_fits) ?_; intro _ _ _) | ((with_reducible show PySem.Str.length (_ ++ _) ≤ sizeLine ∧ wpAny _ _ (joinParts _ (evalEach [] _)) _ _ _); refine joinAnd_nilE (by size_fits) ?_; intro _ _ _))
local macro_rules | `(tactic| walk_at "ENTER0") => `(tactic| (refine wpAny_call ?_; k_dflt (refine' code_def ?k1 ?k2 ?k3 ?k4 ?k5 ?kA ?kF ?kK ?k6 ?k7 ?k8 ?k9 ?kB ?_ ?c2 ?c3 ?c4 ?c5; (case kA => exact rfl); (case kF => exact And.right (by assumption)); (case kK => exact And.left (by assumption)); (case k1 => k_asm); (case k2 => k_asm); (case k3 => k_asm); (case k4 => k_asm); (case k5 => k_asm); (case k6 => k_is); (case k7 => k_is); (case k8 => ktr_room); (case k9 => first | exact BindsTo.of_eq rfl | exact binds_K (by k_in) rfl (by k_is) rfl rfl rfl); (case c5 => decide); (case kB => exact locs rfl); (case c2 => exact rfl); (case c3 => exact rfl); (case c4 => exact rfl); k_whole; intro g' L' h' FG' F' N' B' X' T'; (try dsimp only); (try k_fold))))
local macro_rules | `(tactic| walk_at "leaving ref") => `(tactic| ((with_reducible show wpAny _ _ (leaving _ (Value.ref _)) _ _ _); (refine' leave_onS ?k1 ?k2 ?k3 ?k4 ?_; (case k3 => assumption); (case k1 => assumption); (case k4 => assumption); (case k2 => assumption)); intro _ _ _ _))
local macro_rules | `(tactic| walk_at "call ref") => `(tactic| ((with_reducible show wpAny _ _ (call (Value.ref 1714) _) _ _ _); (k_dflt (refine' dr_ok ?k1 ?k2 ?k3 ?k4 ?k5 ?k6 ?k7 ?k8 ?k9 ?ka ?kb ?_; (case k1 => k_asm); (case k2 => k_asm); (case k3 => k_asm); (case k4 => k_asm); (case k5 => k_asm); (case ka => assumption); (case kb => first | assumption | exact Or.inr rfl); (case k6 => exact ⟨rfl, rfl⟩); (case k7 => walk_at "dp"); (case k8 => walk_at "dp"); (case k9 => assumption))); intro _ _ _ _ _ _ _ _ _ _ _ _ _ _ _))
local macro_rules | `(tactic| walk_at "call ref") => `(tactic| ((with_reducible show wpAny _ _ (call (Value.ref 1714) _) _ _ _); (k_dflt (refine' dr_de ?k1 ?k2 ?k3 ?k4 ?k5 ?k6 ?k7 ?k8 ?k9 ?ka ?kb ?_; (case k1 => k_asm); (case k2 => k_asm); (case k3 => k_asm); (case k4 => k_asm); (case k5 => k_asm); (case ka => assumption); (case kb => with_reducible assumption); (case k6 => exact ⟨rfl, rfl⟩); (case k7 => walk_at "dp"); (case k8 => walk_at "dp"); (case k9 => assumption))); intro _ _ _ _ _ _ _ _ _))
section
variable {w : World} {p : Program} {loose : List Str} {mean : ExcName → Option Value} {mg mb : Str → Option Value} {dp un : Nat} {gd : Option (List Code)} {ev : Env} {outer : List Env} {A₀ : Around} {base h₀ : Heap} {L : Addr} {m : Str → Option Value} {news : List (Addr × Obj)} {s : Shared} {Q E : Value → Shared → Prop}
theorem de_ok {x r : List UInt8} {dep e : Nat} {d : D} {t : Tok}
    (B : Below A₀ base outer h₀) (F : Fr h₀ L s.heap m) (X : (K w.params).In h₀) (N : News h₀ L s.heap news) (T : Top p loose mean mg mb h₀) (hk : ev.scope.kind = .function ∧ ev.frame = some L)
    (hd : dp + 60 + 2 * dep < recursionLimit) (hu : un + 140 + 10 * dep < cLine) (hx : x.length < 2 ^ 23) (hi : item x dep 0 = .ok (d, r, e)) (he : e = x.length ∨ true = false)
    (hret : ∀ h' tk' v Z, Fr h₀ L h' m → News h₀ L h' (Z ++ news) → (∀ p ∈ Z, ∀ r ∈ news, r.1 < p.1) → DIn Z v d → Q v { s with heap := h', toks := tk' }) :
    wpAny (model pg w) (ktrE dp un gd ev outer) (call (.ref 1758) [.bytes x.toArray t]) Q E s := by
  walk_at "ENTER0"
  k_steps
  rename DIn _ _ _ => hv9
  exact hret _ _ _ _ (by k_asm) (by k_asm) (by assumption) hv9
end
end Mine
end

section
set_option maxRecDepth 100000
set_option linter.unusedVariables false
set_option Elab.async false
open PySem PySem.W PyProof.Rows PySem.Spec PySem.Calls
namespace Mine
section
variable {prog : Program} {w : World} {A₀ A : Around} {s : Shared} {base h₀ : Heap} {L : Addr} {m : Str → Option Value} {news : List (Addr × Obj)} {KF : Frag} {p : Program} {loose : List Str} {mean : ExcName → Option Value} {mg mb : Str → Option Value}
    {env : Env} {R : Result → Shared → Prop} {name qual : Str} {params : Arguments} {body : List Stmt} {scope : Scope} {dV kV doc pm cdv ct oc : Value} {an od : Option Addr} {osl : Array (Option Value)} {f : Addr} {args : Args} {binds : List (Str × Value)}
/-- a def that catches, called from a frame that no own frame called -/
theorem code_defT (B : Below A₀ base [] h₀) (F : Fr h₀ L s.heap m) (X₀ : KF.In h₀) (N : News h₀ L s.heap news) (T : Top p loose mean mg mb h₀) (hA : A.frames = some [env]) (hf : env.frame = some L) (hke : env.scope.kind = .function)
    (ho : KF.lookup f = some ⟨oc, od, .func (fnOf name qual params body scope dV kV doc pm an cdv ct), osl⟩) (hcd : codeIn KF cdv qual = true) (hroom : A.depth < recursionLimit)
    (hbind : BindsTo s (fnOf name qual params body scope dV kV doc pm an cdv ct) args binds) (hloc : ∀ y ∈ binds, scope.names.lookup y.1 = some .local)
    (h : ∀ g L' h₁, Fr h₀ L g m → Fr g L' h₁ (fun y => binds.reverse.lookup y) → News g L' h₁ news → Below A base [env] g → KF.In g → Top p loose mean mg mb g → KtsDicts ([env].filterMap (·.frame)) g →
      wpAny (model prog w) (A.deeper (envOf qual scope L' f cdv)) (execs body (envOf qual scope L' f cdv))
        (fun fl s' => LeaveS0 ([env].filterMap (·.frame)) h₀ L m g R (match fl with | .ret v => v | _ => .none) s')
        (fun e s' => wpAny (model prog w) (A.deeper (envOf qual scope L' f cdv)) (leaving (envOf qual scope L' f cdv) e) (fun _ s'' => R (.error e) s'') (fun e' s'' => R (.error e') s'') s')
        { s with heap := h₁, toks := s.toks + binds.length })
    (hco : scope.isCoroutine = false) (hgen : scope.isGenerator = false) (hk : scope.kind = .function)
    (hcell : ∀ x ∈ scope.names, x.2 ≠ .cell) : codeAny (model prog w) A (.call (.ref f) args) R s := by
  obtain ⟨FG, BG, st, _⟩ := groundX (R := R) B F N hA hf hke
  have hfs : ([env] : List Env).filterMap (·.frame) = [L] := by simp [hf]
  obtain ⟨oL, es, ep, hLg, hLd, hLk, hLf⟩ := id FG.ns
  refine codeAny_call_def (fd := fnOf name qual params body scope dV kV doc pm an cdv ct) (body := body) (binds := binds) hroom ((X₀.keeps F.keep) _ _ ho) rfl (T.nolimit.keeps F.keep) (codeRec_of (X₀.keeps F.keep) hcd) rfl hbind hcell hloc (fun h₁ hns hk₁ => ?_) hco hgen hk
  refine wpAny_mono (h _ s.heap.objs.size h₁ FG ⟨hns, fun b o e => hk₁ b o (of_hideAll _ e), Nat.le_of_eq (hideAll_size _ _)⟩
    (fun p hp => ⟨hk₁ _ _ (N p hp).1, Nat.ne_of_lt (Heap.lt_size (N p hp).1), hideAll_none _ (List.mem_map_of_mem hp)⟩) BG (X₀.keeps st) (T.keeps st) (fun b hb => by
      rw [hfs] at hb
      rw [List.mem_singleton.mp hb]
      exact ⟨oL, es, _, hLg, hLd⟩)) (fun fl s' hl => ?_) fun _ _ y => y
  obtain ⟨g', L', m', news', T', F', N', k⟩ := hl
  have nL₀ : h₀.get? L = none := kts_self F
  obtain ⟨sl, hs⟩ := T'.up hLg
  refine k ⟨⟨_, es, ep, F'.keep _ _ hs, hLd, hLk, hLf⟩, fun b o e => F'.keep b o (T'.other b o (st b o e) fun q => ?_), F.above⟩ fun p hp => ⟨(N' p hp).1, fun q => ?_, ?_⟩
  · rw [hfs] at q
    rw [List.mem_singleton.mp q, nL₀] at e
    cases e
  · have := (N' p hp).2.2
    rw [q, hs] at this
    cases this
  · cases q : h₀.get? p.1 with
    | none => rfl
    | some o =>
      obtain ⟨sl', hs'⟩ := T'.up (st _ _ q)
      have := (N' p hp).2.2
      rw [hs'] at this
      cases this
end
end Mine
end

section
open PySem PySem.W PyProof.Rows PySem.Spec PySem.Calls Rlp
set_option Elab.async false
set_option maxRecDepth 100000
set_option maxHeartbeats 1500000
set_option linter.unusedVariables false
namespace Mine
theorem fillKQ : (fun (_ : OpenLaw) (_ : Params → Frag) => True) PySem.Challenge.rw_bi0020_01 K := by
  k_fill
  trivial
local macro_rules | `(tactic| walk_at "ENTER0") => `(tactic| (refine wpAny_call ?_; k_dflt (refine' code_def ?k1 ?k2 ?k3 ?k4 ?k5 ?kA ?kF ?kK ?k6 ?k7 ?k8 ?k9 ?kB ?_ ?c2 ?c3 ?c4 ?c5; (case kA => exact rfl); (case kF => exact And.right (by assumption)); (case kK => exact And.left (by assumption)); (case k1 => k_asm); (case k2 => k_asm); (case k3 => k_asm); (case k4 => k_asm); (case k5 => k_asm); (case k6 => k_is); (case k7 => k_is); (case k8 => ktr_room); (case k9 => first | exact BindsTo.of_eq rfl | exact binds_K (by k_in) rfl (by k_is) rfl rfl rfl); (case c5 => decide); (case kB => exact locs rfl); (case c2 => exact rfl); (case c3 => exact rfl); (case c4 => exact rfl); k_whole; intro g' L' h' FG' F' N' B' X' T'; (try dsimp only); (try k_fold))))
local macro_rules | `(tactic| walk_at "ENTER") => `(tactic| (walk_at "ENTER0"; k_steps))
local macro_rules | `(tactic| walk_at "bsz") => `(tactic| ((try simp only [List.size_toArray, List.length_append, List.length_cons, List.length_nil, be_length, beK_length, slice_length]); omega))
local macro_rules | `(tactic| walk_at "call builtin:len") => `(tactic| ((with_reducible show wpAny _ _ (call (Value.builtin _) [Value.bytes (List.toArray _) _]) _ _ _); refine len_bytes (by walk_at "bsz") ?_; (try simp only [List.size_toArray, be_length])))
local macro_rules | `(tactic| walk_at "binaryOp Add bytes bytes") => `(tactic| ((with_reducible show wpAny _ _ (binaryOp Operator.Add (Value.bytes (List.toArray _) _) (Value.bytes (List.toArray _) _)) _ _ _); refine KBy.add_bytes (by walk_at "bsz") ?_; intro _ _; (try simp only [List.append_toArray, List.cons_append, List.nil_append])))
local macro_rules | `(tactic| walk_at "subscriptTail") => `(tactic| ((with_reducible show wpAny _ _ (subscriptTail _ _ (Value.bytes (List.toArray _) _) (Value.ref _)) _ _ _); refine slice_int (s := ⟨_, _, _, _, _⟩) (by k_asm) (by k_asm) (by omega) (by omega) (by omega) ?_; intro _ _ _ _ _))
local macro_rules | `(tactic| walk_at "dp") => `(tactic| ((show _ + _ < _); simp only [ktr_dp, ktr_un]; omega))
local macro_rules | `(tactic| walk_at "call ref") => `(tactic| ((with_reducible show wpAny _ _ (call (Value.ref 1464) _) _ _ _); (k_dflt (refine' b2i ?k1 ?k2 ?k3 ?k4 ?k5 ?k6 ?k7 ?k8 ?k9 ?_; (case k1 => k_asm); (case k2 => k_asm); (case k3 => k_asm); (case k4 => k_asm); (case k5 => k_asm); (case k6 => exact ⟨rfl, rfl⟩); (case k7 => walk_at "dp"); (case k8 => walk_at "dp"); (case k9 => walk_at "bsz"))); intro _ _ _ _ _))
local macro_rules | `(tactic| walk_at "call ref") => `(tactic| ((with_reducible show wpAny _ _ (call (Value.ref 1736) _) _ _ _); (k_dflt (refine' clp_ok ?k1 ?k2 ?k3 ?k4 ?k5 ?k6 ?k7 ?k8 ?k9 ?k0 ?_; (case k1 => k_asm); (case k2 => k_asm); (case k3 => k_asm); (case k4 => k_asm); (case k5 => k_asm); (case k6 => exact ⟨rfl, rfl⟩); (case k7 => walk_at "dp"); (case k8 => walk_at "dp"); (case k9 => walk_at "bsz"); (case k0 => assumption))); intro _ _ _ _ _ _ _ _ _ _))
local macro_rules | `(tactic| walk_at "call ref") => `(tactic| ((with_reducible show wpAny _ _ (call (Value.ref 1457) _) _ _ _); (k_dflt (refine' is_b ?k1 ?k2 ?k3 ?k4 ?k5 ?k6 ?k7 ?k8 ?_; (case k1 => k_asm); (case k2 => k_asm); (case k3 => k_asm); (case k4 => k_asm); (case k5 => k_asm); (case k6 => exact ⟨rfl, rfl⟩); (case k7 => walk_at "dp"); (case k8 => walk_at "dp"))); intro _ _ _ _))
local macro_rules | `(tactic| walk_at "ENTERT") => `(tactic| (refine wpAny_call ?_; k_dflt (refine' code_defT ?k1 ?k2 ?k3 ?k4 ?k5 ?kA ?kF ?kK ?k6 ?k7 ?k8 ?k9 ?kB ?_ ?c2 ?c3 ?c4 ?c5; (case kA => exact rfl); (case kF => exact And.right (by assumption)); (case kK => exact And.left (by assumption)); (case k1 => k_asm); (case k2 => k_asm); (case k3 => k_asm); (case k4 => k_asm); (case k5 => k_asm); (case k6 => k_is); (case k7 => k_is); (case k8 => ktr_room); (case k9 => first | exact BindsTo.of_eq rfl | exact binds_K (by k_in) rfl (by k_is) rfl rfl rfl); (case c5 => decide); (case kB => exact locs rfl); (case c2 => exact rfl); (case c3 => exact rfl); (case c4 => exact rfl); k_whole; intro g' L' h' FG' F' N' B' X' T' D'; (try dsimp only); (try k_fold))))
local macro_rules | `(tactic| walk_at "GQ") => `(tactic| ((fail_if_success (with_reducible show wpAny _ _ (call (Value.ref 1758) _ _) _ _ _)); (fail_if_success (with_reducible show LeaveS0 _ _ _ _ _ _ _ _))))
local macro_rules | `(tactic| walk_at "UPQ") => `(tactic| repeat' (first | (k_unfold; (try dsimp only)) | (k_end; wrow_close) | (walk_at "GQ"; walk1) | (dsimp only; walk_at "GQ"; walk1) | (walk_at "GQ"; leave1; (try dsimp only)) | fail "no step"))
section
variable {w : World} {p : Program} {loose : List Str} {mean : ExcName → Option Value} {mg mb : Str → Option Value} {dp un : Nat} {gd : Option (List Code)} {ev : Env} {outer : List Env} {A₀ : Around} {base h₀ : Heap} {L : Addr} {m : Str → Option Value} {news : List (Addr × Obj)} {s : Shared} {Q E : Value → Shared → Prop}
/-- _law_read: octets that are read -/
theorem lr_ok {x r : List UInt8} {dep : Nat} {d : D} {t : Tok}
    (B : Below A₀ base outer h₀) (F : Fr h₀ L s.heap m) (X : (K w.params).In h₀) (N : News h₀ L s.heap news) (T : Top p loose mean mg mb h₀) (hk : ev.scope.kind = .function ∧ ev.frame = some L)
    (hd : dp + 100 + 2 * dep < recursionLimit) (hu : un + 220 + 10 * dep < cLine) (hx : x.length < 2 ^ 23) (hi : item x dep 0 = .ok (d, r, x.length))
    (hret : ∀ h' tk' Rl n v Z, Fr h₀ L h' m → News h₀ L h' (Z ++ news) → (∀ p ∈ Z, ∀ r ∈ news, r.1 < p.1) → (Rl, W.listOf ([v] : List Value).toArray n) ∈ Z → DIn Z v d → Q (.ref Rl) { s with heap := h', toks := tk' }) :
    wpAny (model pg w) (ktrE dp un gd ev outer) (call (.ref 1784) [.bytes x.toArray t]) Q E s := by
  walk_at "ENTER0"
  walk_at "UPQ"
  k_dflt (refine' de_ok ?k1 ?k2 ?k3 ?k4 ?k5 ?k6 ?k7 ?k8 ?k9 hi (.inl rfl) ?_; (case k1 => k_asm); (case k2 => k_asm); (case k3 => k_asm); (case k4 => k_asm); (case k5 => k_asm); (case k6 => exact ⟨rfl, rfl⟩); (case k7 => walk_at "dp"); (case k8 => walk_at "dp"); (case k9 => exact hx))
  intro h9 tk9 v9 Z9 F9 N9 hZ9 hv9
  walk_at "UPQ"
  rename_i D9 h8 F8 N8 l9 kF kN _ _
  exact hret _ _ D9 0 v9 ((D9, _) :: Z9) kF kN (above_cons l9 hZ9) (.head _) (DIn.mono (fun p hp => .tail _ hp) hv9)
theorem lr_no {x : List UInt8} {dep : Nat} {t : Tok} (XB : (K w.params).In base) (TB : Top p loose mean mg mb base)
    (B : Below A₀ base [] h₀) (F : Fr h₀ L s.heap m) (X : (K w.params).In h₀) (N : News h₀ L s.heap news) (T : Top p loose mean mg mb h₀) (hk : ev.scope.kind = .function ∧ ev.frame = some L)
    (hd : dp + 110 + 2 * dep < recursionLimit) (hu : un + 240 + 10 * dep < cLine) (hx : x.length < 2 ^ 23) (hi : Refused x dep)
    (hret : ∀ h' tk' Rl, Fr h₀ L h' m → News h₀ L h' ((Rl, W.listOf ([] : List Value).toArray 0) :: news) → (∀ p ∈ news, p.1 < Rl) → Q (.ref Rl) { s with heap := h', toks := tk' }) :
    wpAny (model pg w) (ktrE dp un gd ev []) (call (.ref 1784) [.bytes x.toArray t]) Q E s := by
  walk_at "ENTERT"
  walk_at "UPQ"
  k_dflt (refine' de_bad XB TB ?k1 ?k2 ?k3 ?k4 ?k5 ?k6 ?k7 ?k8 ?k9 hi ?_; (case k1 => k_asm); (case k2 => k_asm); (case k3 => k_asm); (case k4 => k_asm); (case k5 => k_asm); (case k6 => exact ⟨rfl, rfl⟩); (case k7 => walk_at "dp"); (case k8 => walk_at "dp"); (case k9 => exact hx))
  intro h9 tk9 ex h₀' g9 t9 vs9 T9 F9 B9 R9 U9
  refine caught_SO0 (KF := K w.params) (C := 74) R9 F9 B9 U9 XB TB (KtsDicts.turn (by assumption) T9) T9 (by kernel_rfl) (by kernel_rfl) ?_
  intro h7 g7 news7 T7 F7 _ _ N7 B7 X7 TT7 _
  clear F9 R9 U9 B9
  walk_at "UPQ"
  rename Fr g7 _ _ _ => F6
  rename News g7 _ _ _ => N6
  refine leaveS0_ F6 N6 T7 fun Fh Nh => ?_
  exact hret _ _ _ Fh Nh (by assumption)
end
end Mine
end

section
open PySem PySem.W PyProof.Rows PySem.Spec PySem.Calls Rlp
set_option Elab.async false
set_option maxRecDepth 100000
set_option maxHeartbeats 1500000
set_option linter.unusedVariables false
namespace Mine
theorem fillKH : (fun (_ : OpenLaw) (_ : Params → Frag) => True) PySem.Challenge.rw_bi0020_01 K := by
  k_fill
  trivial
local macro_rules | `(tactic| walk_at "ENTER0") => `(tactic| (refine wpAny_call ?_; k_dflt (refine' code_def ?k1 ?k2 ?k3 ?k4 ?k5 ?kA ?kF ?kK ?k6 ?k7 ?k8 ?k9 ?kB ?_ ?c2 ?c3 ?c4 ?c5; (case kA => exact rfl); (case kF => exact And.right (by assumption)); (case kK => exact And.left (by assumption)); (case k1 => k_asm); (case k2 => k_asm); (case k3 => k_asm); (case k4 => k_asm); (case k5 => k_asm); (case k6 => k_is); (case k7 => k_is); (case k8 => ktr_room); (case k9 => first | exact BindsTo.of_eq rfl | exact binds_K (by k_in) rfl (by k_is) rfl rfl rfl); (case c5 => decide); (case kB => exact locs rfl); (case c2 => exact rfl); (case c3 => exact rfl); (case c4 => exact rfl); k_whole; intro g' L' h' FG' F' N' B' X' T'; (try dsimp only); (try k_fold))))
local macro_rules | `(tactic| walk_at "ENTER") => `(tactic| (walk_at "ENTER0"; k_steps))
local macro_rules | `(tactic| walk_at "bsz") => `(tactic| ((try simp only [List.size_toArray, List.length_append, List.length_cons, List.length_nil, be_length, beK_length, slice_length]); omega))
local macro_rules | `(tactic| walk_at "call builtin:len") => `(tactic| ((with_reducible show wpAny _ _ (call (Value.builtin _) [Value.bytes (List.toArray _) _]) _ _ _); refine len_bytes (by walk_at "bsz") ?_; (try simp only [List.size_toArray, be_length])))
local macro_rules | `(tactic| walk_at "binaryOp Add bytes bytes") => `(tactic| ((with_reducible show wpAny _ _ (binaryOp Operator.Add (Value.bytes (List.toArray _) _) (Value.bytes (List.toArray _) _)) _ _ _); refine KBy.add_bytes (by walk_at "bsz") ?_; intro _ _; (try simp only [List.append_toArray, List.cons_append, List.nil_append])))
local macro_rules | `(tactic| walk_at "subscriptTail") => `(tactic| ((with_reducible show wpAny _ _ (subscriptTail _ _ (Value.bytes (List.toArray _) _) (Value.ref _)) _ _ _); refine slice_int (s := ⟨_, _, _, _, _⟩) (by k_asm) (by k_asm) (by omega) (by omega) (by omega) ?_; intro _ _ _ _ _))
local macro_rules | `(tactic| walk_at "dp") => `(tactic| ((show _ + _ < _); simp only [ktr_dp, ktr_un]; omega))
local macro_rules | `(tactic| walk_at "call ref") => `(tactic| ((with_reducible show wpAny _ _ (call (Value.ref 1464) _) _ _ _); (k_dflt (refine' b2i ?k1 ?k2 ?k3 ?k4 ?k5 ?k6 ?k7 ?k8 ?k9 ?_; (case k1 => k_asm); (case k2 => k_asm); (case k3 => k_asm); (case k4 => k_asm); (case k5 => k_asm); (case k6 => exact ⟨rfl, rfl⟩); (case k7 => walk_at "dp"); (case k8 => walk_at "dp"); (case k9 => walk_at "bsz"))); intro _ _ _ _ _))
local macro_rules | `(tactic| walk_at "call ref") => `(tactic| ((with_reducible show wpAny _ _ (call (Value.ref 1736) _) _ _ _); (k_dflt (refine' clp_ok ?k1 ?k2 ?k3 ?k4 ?k5 ?k6 ?k7 ?k8 ?k9 ?k0 ?_; (case k1 => k_asm); (case k2 => k_asm); (case k3 => k_asm); (case k4 => k_asm); (case k5 => k_asm); (case k6 => exact ⟨rfl, rfl⟩); (case k7 => walk_at "dp"); (case k8 => walk_at "dp"); (case k9 => walk_at "bsz"); (case k0 => assumption))); intro _ _ _ _ _ _ _ _ _ _))
local macro_rules | `(tactic| walk_at "call ref") => `(tactic| ((with_reducible show wpAny _ _ (call (Value.ref 1457) _) _ _ _); (k_dflt (refine' is_b ?k1 ?k2 ?k3 ?k4 ?k5 ?k6 ?k7 ?k8 ?_; (case k1 => k_asm); (case k2 => k_asm); (case k3 => k_asm); (case k4 => k_asm); (case k5 => k_asm); (case k6 => exact ⟨rfl, rfl⟩); (case k7 => walk_at "dp"); (case k8 => walk_at "dp"))); intro _ _ _ _))
local macro_rules | `(tactic| walk_at "call ref") => `(tactic| ((with_reducible show wpAny _ _ (call (Value.ref 74) [_, _]) _ _ _); (k_dflt (refine' mk_DE ?k1 ?k2 ?k3 ?k4 ?k5 ?k6 ?k7 ?k8 ?_; (case k1 => k_asm); (case k2 => k_asm); (case k3 => k_asm); (case k4 => k_asm); (case k5 => k_asm); (case k6 => exact ⟨rfl, rfl⟩); (case k7 => walk_at "dp"); (case k8 => walk_at "dp"))); intro _ _ _ _ _ _ _ _ _ _; refine RaiseOk.intro (by k_asm) (by k_asm) (by k_asm) (.head _) (exc74 _) ?_))
local macro_rules | `(tactic| walk_at "ENTER0") => `(tactic| (refine wpAny_call ?_; k_dflt (refine' code_def ?k1 ?k2 ?k3 ?k4 ?k5 ?kA ?kF ?kK ?k6 ?k7 ?k8 ?k9 ?kB ?_ ?c2 ?c3 ?c4 ?c5; (case kA => exact rfl); (case kF => exact And.right (by assumption)); (case kK => exact And.left (by assumption)); (case k1 => k_asm); (case k2 => k_asm); (case k3 => k_asm); (case k4 => k_asm); (case k5 => k_asm); (case k6 => k_is); (case k7 => k_is); (case k8 => ktr_room); (case k9 => first | exact BindsTo.of_eq rfl | exact binds_K (by k_in) rfl (by k_is) rfl rfl rfl); (case c5 => decide); (case kB => exact locs rfl); (case c2 => exact rfl); (case c3 => exact rfl); (case c4 => exact rfl); k_whole; intro g' L' h' FG' F' N' B' X' T'; (try dsimp only); (try k_fold))))
local macro_rules | `(tactic| walk_at "call ref") => `(tactic| ((with_reducible show wpAny _ _ (call (Value.ref 1714) _) _ _ _); (k_dflt (refine' dr_ok ?k1 ?k2 ?k3 ?k4 ?k5 ?k6 ?k7 ?k8 ?k9 ?ka ?kb ?_; (case k1 => k_asm); (case k2 => k_asm); (case k3 => k_asm); (case k4 => k_asm); (case k5 => k_asm); (case ka => assumption); (case kb => first | assumption | exact Or.inr rfl); (case k6 => exact ⟨rfl, rfl⟩); (case k7 => walk_at "dp"); (case k8 => walk_at "dp"); (case k9 => assumption))); intro _ _ _ _ _ _ _ _ _ _ _ _ _ _ _))
local macro_rules | `(tactic| walk_at "call ref") => `(tactic| ((with_reducible show wpAny _ _ (call (Value.ref 1714) _) _ _ _); (k_dflt (refine' dr_de ?k1 ?k2 ?k3 ?k4 ?k5 ?k6 ?k7 ?k8 ?k9 ?ka ?kb ?_; (case k1 => k_asm); (case k2 => k_asm); (case k3 => k_asm); (case k4 => k_asm); (case k5 => k_asm); (case ka => assumption); (case kb => with_reducible assumption); (case k6 => exact ⟨rfl, rfl⟩); (case k7 => walk_at "dp"); (case k8 => walk_at "dp"); (case k9 => assumption))); intro _ _ _ _ _ _ _ _ _))
local macro_rules | `(tactic| k_mem) => `(tactic| (refine mem_of ?_; ktr_member))
section
variable {w : World} {p : Program} {loose : List Str} {mean : ExcName → Option Value} {mg mb : Str → Option Value} {dp un : Nat} {gd : Option (List Code)} {ev : Env} {outer : List Env} {A₀ : Around} {base h₀ : Heap} {L : Addr} {m : Str → Option Value} {news : List (Addr × Obj)} {s : Shared} {Q E : Value → Shared → Prop}
theorem en_raw {k : Nat} {ps : Array Value} {v : Value} {d : D}
    (B : Below A₀ base outer h₀) (F : Fr h₀ L s.heap m) (X : (K w.params).In h₀) (N : News h₀ L s.heap ((1702, tabObj ps) :: news)) (T : Top p loose mean mg mb h₀) (hk : ev.scope.kind = .function ∧ ev.frame = some L)
    (hd : dp + 50 + 4 * k < recursionLimit) (hu : un + 150 + 30 * k < cLine) (hps : TriplesOk ps.toList) (h17 : ∀ p ∈ news, p.1 ≠ 1702) (hv : DIn news v d) (hdk : d.depth < k) (hz : (enc d).length < 2 ^ 23)
    (hret : ∀ h' gs' tk' tk ps', Fr h₀ L h' m → News h₀ L h' ((1702, tabObj ps') :: news) → GC s.gens gs' → TriplesOk ps'.toList → Q (.bytes (enc d).toArray tk) { s with heap := h', gens := gs', toks := tk' }) :
    wpAny (model pg w) (ktrE dp un gd ev outer) (call (.ref 1722) [v] [(Str.ofString "infer_serializer", .bool false)]) Q E s := by
  walk_at "ENTER0"
  k_steps
  k_dflt (refine' er_call (er_all _ k) (ps := ps) (d := d) (news := news) ?k1 ?k2 ?k3 ?k4 ?k5 ?k6 ?k7 ?k8 hps ?k9 hv hdk hz ?_; (case k1 => k_asm); (case k2 => k_asm); (case k3 => k_asm); (case k4 => k_asm); (case k5 => k_asm); (case k6 => exact ⟨rfl, rfl⟩); (case k7 => walk_at "dp"); (case k8 => walk_at "dp"); (case k9 => exact h17))
  intro h' gs' tk' tk ps' F9 N9 hgc htr hsame
  k_steps
  exact hret _ _ _ _ ps' (by k_asm) (by k_asm) hgc htr
end
end Mine
end

section
set_option maxRecDepth 100000
set_option linter.unusedVariables false
set_option Elab.async false
open PySem PySem.W PyProof.Rows PySem.Spec PySem.Calls
namespace Mine
open Rlp Builtin PySem.MeetsSeq PySem.MeetsSeq2 PySem.MeetsSeq3 PySem.SeqRoads2 PySem.SeqAt
open PySem.AutoSeq1 (wpAny_loadPart')
mutual
def deq : D → D → Bool
  | .b x, .b y => x == y
  | .l xs, .l ys => deqs xs ys
  | .b _, .l _ => false
  | .l _, .b _ => false
def deqs : List D → List D → Bool
  | [], [] => true
  | x :: xs, y :: ys => deq x y && deqs xs ys
  | [], _ :: _ => false
  | _ :: _, [] => false
end
mutual
theorem deq_iff : ∀ {a b : D}, deq a b = true ↔ a = b
  | .b x, .b y => by unfold deq; simp
  | .l xs, .l ys => by unfold deq; rw [deqs_iff]; simp
  | .b _, .l _ => by unfold deq; simp
  | .l _, .b _ => by unfold deq; simp
theorem deqs_iff : ∀ {a b : List D}, deqs a b = true ↔ a = b
  | [], [] => by unfold deqs; simp
  | x :: xs, y :: ys => by unfold deqs; rw [Bool.and_eq_true, deq_iff, deqs_iff]; simp
  | [], _ :: _ => by unfold deqs; simp
  | _ :: _, [] => by unfold deqs; simp
end
theorem deqs_len : ∀ {a b : List D}, a.length ≠ b.length → deqs a b = false := fun {a b} h => by
  cases hb : deqs a b with
  | false => rfl
  | true => exact absurd (congrArg List.length (deqs_iff.mp hb)) h
theorem deqs_all : ∀ (xs ys : List D), xs.length = ys.length → ((List.range xs.length).all fun j => deq (xs.getD j (.b [])) (ys.getD j (.b []))) = deqs xs ys
  | [], [], _ => rfl
  | x :: xs, y :: ys, h => by
    rw [List.length_cons, List.range_succ_eq_map, List.all_cons, List.all_map]
    unfold deqs
    rw [← deqs_all xs ys (by simpa using h)]
    rfl
  | [], _ :: _, h => by simp at h
  | _ :: _, [], h => by simp at h
section
variable {A : Around} {s : Shared}
theorem rcAt_bytes (a b : Array UInt8) (t u : Tok) : RcAt A s (.bytes a t) (.bytes b u) (a.toList == b.toList) := fun prog w E Q h =>
  richCompare_gives (op := .Eq) (typeIs_bytes s a t) (typeIs_bytes s b u) FB.slot_bytes_eq FB.entry_bytes_eq (FB.args_bytes_eq_2 _ _) (gives_bytes_eq a b t u) (fun x => nomatch x) h
theorem eqAt_bytes (a b : Array UInt8) (t u : Tok) : EqAt A s (.bytes a t) (.bytes b u) (a.toList == b.toList) := fun prog w E Q h => by
  unfold eqBool
  refine wpAny_holding ?_
  refine wpAny_ite_split (fun hab => ?_) (fun _ => ?_)
  · have e : a = b := by have := eq_of_beq hab; injection this
    subst e
    exact wpAny_bind (wpAny_rule (wpAny_pure (by simpa using h)))
  · exact wpAny_bind (rcAt_bytes a b t u prog w E _ (wpAny_truthy_bool h))
theorem sub_bytes_list : isSubtype (.type "bytes") (.type "list") = pure false := by rw [isSubtype_type]; kernel_rfl
theorem sub_list_bytes : isSubtype (.type "list") (.type "bytes") = pure false := by rw [isSubtype_type]; kernel_rfl
theorem list_eq_declines_bytes (l : Addr) (items : Array Value) (n : Nat) (dd : Option Addr) (sl : Array (Option Value)) (b : Array UInt8) (u : Tok) :
    Meets (Builtin.«list.__eq__» ⟨[.ref l, .bytes b u], []⟩) (fun _ R s => s.heap.get? l = some { cls := .type "list", dict := dd, data := .seq items n, slots := sl } ∧ R (.ok (.ret .notImplemented)) s) :=
  .of_wp fun prog w A R s h => by obtain ⟨hp, g, d, tk, os⟩ := s; obtain ⟨hl, h⟩ := h; have f1 := sub_bytes_list; have f2 := sub_list_bytes; (wp_walk using wpAny_loadPart' hl, wpAny_load hl); (try dsimp only); (try wp_walk using wpAny_loadPart' hl, wpAny_load hl); exact ⟨_, rfl, h⟩
theorem bytes_eq_declines_list (b : Array UInt8) (u : Tok) (l : Addr) (items : Array Value) (n : Nat) (dd : Option Addr) (sl : Array (Option Value)) :
    Meets (Builtin.«bytes.__eq__» ⟨[.bytes b u, .ref l], []⟩) (fun _ R s => s.heap.get? l = some { cls := .type "list", dict := dd, data := .seq items n, slots := sl } ∧ R (.ok (.ret .notImplemented)) s) :=
  .of_wp fun prog w A R s h => by obtain ⟨hp, g, d, tk, os⟩ := s; obtain ⟨hl, h⟩ := h; have f1 := sub_bytes_list; have f2 := sub_list_bytes; (wp_walk using wpAny_loadPart' hl, wpAny_load hl); (try dsimp only); (try wp_walk using wpAny_loadPart' hl, wpAny_load hl); exact ⟨_, rfl, h⟩
theorem rcAt_list_bytes {l : Addr} {items : Array Value} (b : Array UInt8) (u : Tok) (hl : s.heap.IsList l items) (hu : A.units < cLine) : RcAt A s (.ref l) (.bytes b u) false := fun prog w E Q h => by
  obtain ⟨⟨cls, dd, data, sl⟩, ho, hc, n, hd⟩ := id hl
  simp only at hc hd
  subst hc hd
  exact rc_eq_decline_or (k := false) ⟨_, ho, rfl⟩ (typeIs_bytes s b u) (by decide) sub_bytes_list F.slot_list_eq FB.slot_bytes_eq
    (fun _ hq => call_meets F.slot_list_eq ⟨_, ho, rfl⟩ F.entry_list_eq (F.args_list_eq_2 _ _) (list_eq_declines_bytes l items n dd sl b u) ⟨ho, hq⟩)
    (fun _ hq => call_meets FB.slot_bytes_eq (typeIs_bytes s b u) FB.entry_bytes_eq (FB.args_bytes_eq_2 _ _) (bytes_eq_declines_list b u l items n dd sl) ⟨ho, hq⟩)
    (fun _ hq => wpAny_of_eq (rfl : isSame (.ref l) (.bytes b u) = pure false) hq) (.inr hu) h
theorem eqAt_list_bytes {l : Addr} {items : Array Value} (b : Array UInt8) (u : Tok) (hl : s.heap.IsList l items) (hu : A.units < cLine) : EqAt A s (.ref l) (.bytes b u) false := fun prog w E Q h => by
  unfold eqBool
  refine wpAny_holding ?_
  refine wpAny_ite_split (fun hab => absurd (eq_of_beq hab) nofun) (fun _ => ?_)
  exact wpAny_bind (rcAt_list_bytes b u hl hu prog w E _ (wpAny_truthy_bool h))
theorem rcAt_bytes_list {l : Addr} {items : Array Value} (b : Array UInt8) (u : Tok) (hl : s.heap.IsList l items) (hu : A.units < cLine) : RcAt A s (.bytes b u) (.ref l) false := fun prog w E Q h => by
  obtain ⟨⟨cls, dd, data, sl⟩, ho, hc, n, hd⟩ := id hl
  simp only at hc hd
  subst hc hd
  exact rc_eq_decline_or (k := false) (typeIs_bytes s b u) ⟨_, ho, rfl⟩ (by decide) sub_list_bytes FB.slot_bytes_eq F.slot_list_eq
    (fun _ hq => call_meets FB.slot_bytes_eq (typeIs_bytes s b u) FB.entry_bytes_eq (FB.args_bytes_eq_2 _ _) (bytes_eq_declines_list b u l items n dd sl) ⟨ho, hq⟩)
    (fun _ hq => call_meets F.slot_list_eq ⟨_, ho, rfl⟩ F.entry_list_eq (F.args_list_eq_2 _ _) (list_eq_declines_bytes l items n dd sl b u) ⟨ho, hq⟩)
    (fun _ hq => wpAny_of_eq (rfl : isSame (.bytes b u) (.ref l) = pure false) hq) (.inr hu) h
theorem eqAt_bytes_list {l : Addr} {items : Array Value} (b : Array UInt8) (u : Tok) (hl : s.heap.IsList l items) (hu : A.units < cLine) : EqAt A s (.bytes b u) (.ref l) false := fun prog w E Q h => by
  unfold eqBool
  refine wpAny_holding ?_
  refine wpAny_ite_split (fun hab => absurd (eq_of_beq hab) nofun) (fun _ => ?_)
  exact wpAny_bind (rcAt_bytes_list b u hl hu prog w E _ (wpAny_truthy_bool h))
end
mutual
theorem DIn.det {nw : List (Addr × Obj)} (hf : ∀ p ∈ nw, ∀ q ∈ nw, p.1 = q.1 → p.2 = q.2) : ∀ {v : Value} {d d' : D}, DIn nw v d → DIn nw v d' → d = d'
  | _, _, _, .b (x := x) (t := t), h => by
    generalize hv : Value.bytes x.toArray t = v at h
    cases h with
    | b => rename_i y u; injection hv with h1 h2; have := congrArg Array.toList h1; simp at this; rw [this]
    | l => cases hv
  | _, _, _, .l (a := a) (vs := vs) h1 h2, h => by
    generalize hv : Value.ref a = v at h
    cases h with
    | b => cases hv
    | l k1 k2 =>
      injection hv with hv
      subst hv
      have := hf _ h1 _ k1 rfl
      injection this with _ _ hd _
      injection hd with hd _
      have := congrArg Array.toList hd
      simp at this
      subst this
      rw [DsIn.det hf h2 k2]
theorem DsIn.det {nw : List (Addr × Obj)} (hf : ∀ p ∈ nw, ∀ q ∈ nw, p.1 = q.1 → p.2 = q.2) : ∀ {vs : List Value} {ds ds' : List D}, DsIn nw vs ds → DsIn nw vs ds' → ds = ds'
  | _, _, _, .nil, .nil => rfl
  | _, _, _, .cons a b, .cons c d => by rw [DIn.det hf a c, DsIn.det hf b d]
end
theorem DsIn.getD {nw : List (Addr × Obj)} : ∀ {vs : List Value} {ds : List D}, DsIn nw vs ds → ∀ (j : Nat) (h : j < vs.length), DIn nw vs[j] (ds.getD j (.b []))
  | _, _, .cons a b, 0, h => a
  | _, _, .cons a b, j + 1, h => DsIn.getD b j (by simpa using h)
theorem DsIn.len' {nw : List (Addr × Obj)} : ∀ {vs : List Value} {ds : List D}, DsIn nw vs ds → vs.length = ds.length
  | _, _, .nil => rfl
  | _, _, .cons _ b => by rw [List.length_cons, List.length_cons, DsIn.len' b]
theorem depth_getD : ∀ (ds : List D) (j : Nat), (ds.getD j (.b [])).depth ≤ depths ds
  | [], j => by simp [D.depth]
  | d :: r, 0 => by unfold depths; simp; omega
  | d :: r, j + 1 => by
    have := depth_getD r j
    unfold depths
    simp at this ⊢
    omega
section
variable {s : Shared} {nw : List (Addr × Obj)}
theorem lists_D (hN : ∀ p ∈ nw, s.heap.get? p.1 = some p.2) (n : Nat) (ih : ∀ (A : Around) (v v' : Value) (d d' : D), d.depth < n → DIn nw v d → DIn nw v' d' → A.units + n < cLine → EqAt A s v v' (deq d d'))
    (A : Around) {a b : Addr} {xs ys : List Value} {n1 n2 : Nat} {ds es : List D} (ha : (a, W.listOf xs.toArray n1) ∈ nw) (hb : (b, W.listOf ys.toArray n2) ∈ nw) (h1 : DsIn nw xs ds) (h2 : DsIn nw ys es) (hd : depths ds < n) (hu : A.units + n + 1 < cLine) :
    RcAt A s (.ref a) (.ref b) (deqs ds es) := by
  have la : s.heap.IsList a xs.toArray := ⟨_, hN _ ha, rfl, _, rfl⟩
  have lb : s.heap.IsList b ys.toArray := ⟨_, hN _ hb, rfl, _, rfl⟩
  have l1 := DsIn.len' h1
  have l2 := DsIn.len' h2
  by_cases hl : ds.length = es.length
  · rw [← deqs_all ds es hl]
    have e : ds.length = xs.toArray.size := by rw [List.size_toArray, l1]
    rw [e]
    refine RcAt.lists (e := fun j => deq (ds.getD j (.b [])) (es.getD j (.b []))) la lb (by simp; omega) (by omega) fun j j1 j2 => ?_
    have g1 := DsIn.getD h1 j (by simpa using j1)
    have g2 := DsIn.getD h2 j (by simpa using j2)
    exact ih A.in1 _ _ _ _ (Nat.lt_of_le_of_lt (depth_getD ds j) hd) (by simpa using g1) (by simpa using g2) (by rw [units_in1]; omega)
  · rw [deqs_len hl]
    exact RcAt.lists_lengths la lb (by simp; omega) (by omega)
theorem eq_D (hN : ∀ p ∈ nw, s.heap.get? p.1 = some p.2) : ∀ (n : Nat) (A : Around) (v v' : Value) (d d' : D), d.depth < n → DIn nw v d → DIn nw v' d' → A.units + n < cLine → EqAt A s v v' (deq d d') := by
  have hf : ∀ p ∈ nw, ∀ q ∈ nw, p.1 = q.1 → p.2 = q.2 := fun p hp q hq e => by
    have h1 := hN p hp
    have h2 := hN q hq
    rw [e, h2] at h1
    exact (Option.some.inj h1).symm
  intro n
  induction n with
  | zero => intro A v v' d d' hd; exact absurd hd (Nat.not_lt_zero _)
  | succ n ih =>
    intro A v v' d d' hd h1 h2 hu
    cases h1 with
    | b =>
      rename_i x t
      cases h2 with
      | b => exact eqAt_bytes _ _ _ _
      | l k1 k2 => exact eqAt_bytes_list _ _ ⟨_, hN _ k1, rfl, _, rfl⟩ (by omega)
    | l j1 j2 =>
      cases h2 with
      | b => exact eqAt_list_bytes _ _ ⟨_, hN _ j1, rfl, _, rfl⟩ (by omega)
      | l k1 k2 =>
        rename_i a vs n1 ds b ws n2 es
        by_cases hab : a = b
        · subst hab
          have e := DIn.det hf (.l j1 j2) (.l k1 k2)
          rw [e, show deq (.l es) (.l es) = true from deq_iff.mpr rfl]
          exact EqAt.same _
        · exact EqAt.of_refs hab (lists_D hN n ih A j1 k1 j2 k2 (by unfold D.depth at hd; omega) (by omega))
end
section
variable {prog : Program} {w : World} {A : Around} {E : Value → Shared → Prop} {s : Shared} {a b : Addr} {xs ys : List Value} {n1 n2 : Nat} {ds es : List D} {Q : Value → Shared → Prop} {h₀ : Heap} {L : Addr} {news : List (Addr × Obj)}
theorem eq_rows (N : News h₀ L s.heap news) (ha : (a, W.listOf xs.toArray n1) ∈ news) (hb : (b, W.listOf ys.toArray n2) ∈ news) (h1 : DsIn news xs ds) (h2 : DsIn news ys es) (hu : A.units + depths ds + 2 < cLine) (h : Q (.bool (deqs ds es)) s) :
    wpAny (model prog w) A (compareOp .Eq (.ref a) (.ref b)) Q E s :=
  lists_D (fun p hp => (N p hp).1) _ (eq_D (fun p hp => (N p hp).1) (depths ds + 1)) A ha hb h1 h2 (Nat.lt_succ_self _) (by omega) prog w E Q h
theorem ne_rows (N : News h₀ L s.heap news) (ha : (a, W.listOf xs.toArray n1) ∈ news) (hb : (b, W.listOf ys.toArray n2) ∈ news) (h1 : DsIn news xs ds) (h2 : DsIn news ys es) (hu : A.units + depths ds + 2 < cLine) (h : Q (.bool (!deqs ds es)) s) :
    wpAny (model prog w) A (compareOp .NotEq (.ref a) (.ref b)) Q E s := by
  have hN : ∀ p ∈ news, s.heap.get? p.1 = some p.2 := fun p hp => (N p hp).1
  have l1 := DsIn.len' h1
  have l2 := DsIn.len' h2
  show wpAny (model prog w) A (richCompare .NotEq (.ref a) (.ref b)) Q E s
  by_cases hl : ds.length = es.length
  · have e : ds.length = xs.toArray.size := by rw [List.size_toArray, l1]
    rw [← deqs_all ds es hl, e] at h
    refine richCompare_meets_room (op := .NotEq) (T := "list") ⟨_, hN _ ha, rfl⟩ ⟨_, hN _ hb, rfl⟩ F.slot_list_ne F.entry_list_ne (F.args_list_ne_2 _ _) (list_neAt a b _ _ n1 n2 _ _ _ _ (by simp; omega) (fun j => deq (ds.getD j (.b [])) (es.getD j (.b []))))
      ⟨hN _ ha, hN _ hb, fun j j1 j2 => ?_, (fun e => nomatch e), h⟩ (by omega)
    have g1 := DsIn.getD h1 j (by simpa using j1)
    have g2 := DsIn.getD h2 j (by simpa using j2)
    exact eq_D hN (depths ds + 1) A.in1 _ _ _ _ (Nat.lt_succ_of_le (depth_getD ds j)) (by simpa using g1) (by simpa using g2) (by rw [units_in1]; omega)
  · rw [deqs_len hl] at h
    exact richCompare_meets_room (op := .NotEq) (T := "list") ⟨_, hN _ ha, rfl⟩ ⟨_, hN _ hb, rfl⟩ F.slot_list_ne F.entry_list_ne (F.args_list_ne_2 _ _) (list_ne_lengthsAt a b _ _ n1 n2 _ _ _ _ (by simp; omega))
      ⟨hN _ ha, hN _ hb, (fun e => nomatch e), h⟩ (by omega)
end
end Mine
end

section
open PySem PySem.W PyProof.Rows PySem.Spec PySem.Calls Rlp
set_option Elab.async false
set_option maxRecDepth 100000
set_option maxHeartbeats 1500000
set_option linter.unusedVariables false
namespace Mine
theorem fillKV : (fun (_ : OpenLaw) (_ : Params → Frag) => True) PySem.Challenge.rw_bi0020_01 K := by
  k_fill
  trivial
local macro_rules | `(tactic| walk_at "ENTER0") => `(tactic| (refine wpAny_call ?_; k_dflt (refine' code_def ?k1 ?k2 ?k3 ?k4 ?k5 ?kA ?kF ?kK ?k6 ?k7 ?k8 ?k9 ?kB ?_ ?c2 ?c3 ?c4 ?c5; (case kA => exact rfl); (case kF => exact And.right (by assumption)); (case kK => exact And.left (by assumption)); (case k1 => k_asm); (case k2 => k_asm); (case k3 => k_asm); (case k4 => k_asm); (case k5 => k_asm); (case k6 => k_is); (case k7 => k_is); (case k8 => ktr_room); (case k9 => first | exact BindsTo.of_eq rfl | exact binds_K (by k_in) rfl (by k_is) rfl rfl rfl); (case c5 => decide); (case kB => exact locs rfl); (case c2 => exact rfl); (case c3 => exact rfl); (case c4 => exact rfl); k_whole; intro g' L' h' FG' F' N' B' X' T'; (try dsimp only); (try k_fold))))
local macro_rules | `(tactic| walk_at "ENTER") => `(tactic| (walk_at "ENTER0"; k_steps))
local macro_rules | `(tactic| walk_at "bsz") => `(tactic| ((try simp only [List.size_toArray, List.length_append, List.length_cons, List.length_nil, be_length, beK_length, slice_length]); omega))
local macro_rules | `(tactic| walk_at "call builtin:len") => `(tactic| ((with_reducible show wpAny _ _ (call (Value.builtin _) [Value.bytes (List.toArray _) _]) _ _ _); refine len_bytes (by walk_at "bsz") ?_; (try simp only [List.size_toArray, be_length])))
local macro_rules | `(tactic| walk_at "binaryOp Add bytes bytes") => `(tactic| ((with_reducible show wpAny _ _ (binaryOp Operator.Add (Value.bytes (List.toArray _) _) (Value.bytes (List.toArray _) _)) _ _ _); refine KBy.add_bytes (by walk_at "bsz") ?_; intro _ _; (try simp only [List.append_toArray, List.cons_append, List.nil_append])))
local macro_rules | `(tactic| walk_at "subscriptTail") => `(tactic| ((with_reducible show wpAny _ _ (subscriptTail _ _ (Value.bytes (List.toArray _) _) (Value.ref _)) _ _ _); refine slice_int (s := ⟨_, _, _, _, _⟩) (by k_asm) (by k_asm) (by omega) (by omega) (by omega) ?_; intro _ _ _ _ _))
local macro_rules | `(tactic| walk_at "dp") => `(tactic| ((show _ + _ < _); simp only [ktr_dp, ktr_un]; omega))
local macro_rules | `(tactic| walk_at "call ref") => `(tactic| ((with_reducible show wpAny _ _ (call (Value.ref 1464) _) _ _ _); (k_dflt (refine' b2i ?k1 ?k2 ?k3 ?k4 ?k5 ?k6 ?k7 ?k8 ?k9 ?_; (case k1 => k_asm); (case k2 => k_asm); (case k3 => k_asm); (case k4 => k_asm); (case k5 => k_asm); (case k6 => exact ⟨rfl, rfl⟩); (case k7 => walk_at "dp"); (case k8 => walk_at "dp"); (case k9 => walk_at "bsz"))); intro _ _ _ _ _))
local macro_rules | `(tactic| walk_at "call ref") => `(tactic| ((with_reducible show wpAny _ _ (call (Value.ref 1736) _) _ _ _); (k_dflt (refine' clp_ok ?k1 ?k2 ?k3 ?k4 ?k5 ?k6 ?k7 ?k8 ?k9 ?k0 ?_; (case k1 => k_asm); (case k2 => k_asm); (case k3 => k_asm); (case k4 => k_asm); (case k5 => k_asm); (case k6 => exact ⟨rfl, rfl⟩); (case k7 => walk_at "dp"); (case k8 => walk_at "dp"); (case k9 => walk_at "bsz"); (case k0 => assumption))); intro _ _ _ _ _ _ _ _ _ _))
local macro_rules | `(tactic| walk_at "call ref") => `(tactic| ((with_reducible show wpAny _ _ (call (Value.ref 1457) _) _ _ _); (k_dflt (refine' is_b ?k1 ?k2 ?k3 ?k4 ?k5 ?k6 ?k7 ?k8 ?_; (case k1 => k_asm); (case k2 => k_asm); (case k3 => k_asm); (case k4 => k_asm); (case k5 => k_asm); (case k6 => exact ⟨rfl, rfl⟩); (case k7 => walk_at "dp"); (case k8 => walk_at "dp"))); intro _ _ _ _))
local macro_rules | `(tactic| walk_at "call ref") => `(tactic| ((with_reducible show wpAny _ _ (call (Value.ref 74) [_, _]) _ _ _); (k_dflt (refine' mk_DE ?k1 ?k2 ?k3 ?k4 ?k5 ?k6 ?k7 ?k8 ?_; (case k1 => k_asm); (case k2 => k_asm); (case k3 => k_asm); (case k4 => k_asm); (case k5 => k_asm); (case k6 => exact ⟨rfl, rfl⟩); (case k7 => walk_at "dp"); (case k8 => walk_at "dp"))); intro _ _ _ _ _ _ _ _ _ _; refine RaiseOk.intro (by k_asm) (by k_asm) (by k_asm) (.head _) (exc74 _) ?_))
local macro_rules | `(tactic| walk_at "ENTER0") => `(tactic| (refine wpAny_call ?_; k_dflt (refine' code_def ?k1 ?k2 ?k3 ?k4 ?k5 ?kA ?kF ?kK ?k6 ?k7 ?k8 ?k9 ?kB ?_ ?c2 ?c3 ?c4 ?c5; (case kA => exact rfl); (case kF => exact And.right (by assumption)); (case kK => exact And.left (by assumption)); (case k1 => k_asm); (case k2 => k_asm); (case k3 => k_asm); (case k4 => k_asm); (case k5 => k_asm); (case k6 => k_is); (case k7 => k_is); (case k8 => ktr_room); (case k9 => first | exact BindsTo.of_eq rfl | exact binds_K (by k_in) rfl (by k_is) rfl rfl rfl); (case c5 => decide); (case kB => exact locs rfl); (case c2 => exact rfl); (case c3 => exact rfl); (case c4 => exact rfl); k_whole; intro g' L' h' FG' F' N' B' X' T'; (try dsimp only); (try k_fold))))
local macro_rules | `(tactic| walk_at "call ref") => `(tactic| ((with_reducible show wpAny _ _ (call (Value.ref 1714) _) _ _ _); (k_dflt (refine' dr_ok ?k1 ?k2 ?k3 ?k4 ?k5 ?k6 ?k7 ?k8 ?k9 ?ka ?kb ?_; (case k1 => k_asm); (case k2 => k_asm); (case k3 => k_asm); (case k4 => k_asm); (case k5 => k_asm); (case ka => assumption); (case kb => first | assumption | exact Or.inr rfl); (case k6 => exact ⟨rfl, rfl⟩); (case k7 => walk_at "dp"); (case k8 => walk_at "dp"); (case k9 => assumption))); intro _ _ _ _ _ _ _ _ _ _ _ _ _ _ _))
local macro_rules | `(tactic| walk_at "call ref") => `(tactic| ((with_reducible show wpAny _ _ (call (Value.ref 1714) _) _ _ _); (k_dflt (refine' dr_de ?k1 ?k2 ?k3 ?k4 ?k5 ?k6 ?k7 ?k8 ?k9 ?ka ?kb ?_; (case k1 => k_asm); (case k2 => k_asm); (case k3 => k_asm); (case k4 => k_asm); (case k5 => k_asm); (case ka => assumption); (case kb => with_reducible assumption); (case k6 => exact ⟨rfl, rfl⟩); (case k7 => walk_at "dp"); (case k8 => walk_at "dp"); (case k9 => assumption))); intro _ _ _ _ _ _ _ _ _))
local macro_rules | `(tactic| k_mem) => `(tactic| (refine mem_of ?_; ktr_member))
local macro_rules | `(tactic| walk_at "compareOp Eq ref ref") => `(tactic| ((with_reducible show wpAny _ _ (compareOp CmpOp.Eq (Value.ref _) (Value.ref _)) _ _ _); k_dflt (refine' eq_ne_len ?k1 ?k2 ?k3 ?k4 ?k5 ?_; (case k1 => k_asm); (case k2 => k_mem); (case k3 => k_mem); (case k4 => simp; done); (case k5 => walk_at "dp"))))
local macro_rules | `(tactic| walk_at "lsz") => `(tactic| (rw [sizeLine_eq]; (try simp only [List.length_cons, List.length_append, List.length_nil, List.length_replicate]); omega))
local macro_rules | `(tactic| walk_at "subscriptTail") => `(tactic| ((with_reducible show wpAny _ _ (subscriptTail _ _ (Value.ref _) (Value.int _ _)) _ _ _); k_dflt (refine' menu_ledB (is := [1, 2, 0, 3, 55, 56, 300]) (lo := 0) (hi := 300) ?k1 ?k2 ?k3 ?k4 ?k5 ?k6 ?k7 ?_; (case k1 => k_asm); (case k2 => k_mem); (case k3 => exact .cons _ _ (.cons _ _ (.cons _ _ (.cons _ _ (.cons _ _ (.cons _ _ (.cons _ _ .nil))))))); (case k4 => walk_at "mb"); (case k5 => walk_at "mb"); (case k6 => decide); (case k7 => decide)); intro _ _ _ _))
local macro_rules | `(tactic| walk_at "subscriptTail") => `(tactic| ((with_reducible show wpAny _ _ (subscriptTail _ _ (Value.ref _) (Value.int 0 _)) _ _ _); k_dflt (refine' item_led ?k1 ?k2 ?k3 ?k4 ?k5 ?_; (case k1 => k_asm); (case k2 => k_mem); (case k3 => first | decide | omega); (case k4 => first | decide | omega); (case k5 => first | rfl | assumption))))
local macro_rules | `(tactic| walk_at "subscriptTail") => `(tactic| ((with_reducible show wpAny _ _ (subscriptTail _ (Expr.Slice (some _) none none _) (Value.ref _) (Value.ref _)) _ _ _); k_dflt (refine' slice_from_led (s := ⟨_, _, _, _, _⟩) ?k1 ?k2 ?k3 ?k4 ?k5 ?_; (case k1 => k_asm); (case k2 => k_asm); (case k3 => k_mem); (case k4 => first | decide | omega); (case k5 => walk_at "lsz")); intro _ _ _ _ l1; (try k_lt l1)))
local macro_rules | `(tactic| walk_at "mb") => `(tactic| ((try simp only [List.length_cons, List.length_nil]); omega))
local macro_rules | `(tactic| walk_at "binaryOp Mult ref int") => `(tactic| ((with_reducible show wpAny _ _ (binaryOp Operator.Mult (Value.ref _) (Value.int _ _)) _ _ _); k_dflt (refine' mul1_led ?k1 ?k2 ?k3 ?k4 ?k5 ?_; (case k1 => k_asm); (case k2 => k_asm); (case k3 => k_mem); (case k4 => first | omega | (split <;> omega)); (case k5 => first | omega | (split <;> omega))); intro _ _ _ _ l1; (try k_lt l1)))
local macro_rules | `(tactic| walk_at "binaryOp Add ref ref") => `(tactic| ((with_reducible show wpAny _ _ (binaryOp Operator.Add (Value.ref _) (Value.ref _)) _ _ _); k_dflt (refine' add_led ?k1 ?k2 ?k3 ?k4 ?k5 ?_; (case k1 => k_asm); (case k2 => k_asm); (case k3 => k_mem); (case k4 => k_mem); (case k5 => walk_at "lsz")); intro _ _ _ _ l1; (try k_lt l1)))
local macro_rules | `(tactic| walk_at "call type:bytes") => `(tactic| ((with_reducible show wpAny _ _ (call (Value.type "bytes") [Value.ref _]) _ _ _); k_dflt (refine' bytes_led ?k1 ?k2 ?k3 ?k4 ?k5 ?k6 ?k7 ?_; (case k1 => k_asm); (case k2 => k_asm); (case k3 => k_mem); (case k4 => exact (ints_rep _ _ _).append (ints_rep _ _ _)); (case k5 => walk_at "bin"); (case k6 => walk_at "lsz"); (case k7 => rfl)); intro _ _ _ _ _))
local macro_rules | `(tactic| walk_at "bin") => `(tactic| (intro n hn; rcases List.mem_append.mp hn with hn | hn <;> (rw [(List.mem_replicate.mp hn).2]; omega)))
section
variable {w : World} {p : Program} {loose : List Str} {mean : ExcName → Option Value} {mg mb : Str → Option Value} {dp un : Nat} {gd : Option (List Code)} {ev : Env} {outer : List Env} {A₀ : Around} {base h₀ : Heap} {L : Addr} {m : Str → Option Value} {news : List (Addr × Obj)} {s : Shared} {Q E : Value → Shared → Prop}
theorem frs_of {g h : Heap} {L : Addr} {m0 : Str → Option Value} (F : Fr g L h m0) {ps : List (Str × Value)} (hp : ∀ p ∈ ps, m0 p.1 = some p.2) : ∃ m1, Fr g L h (kstB m1 ps) := ⟨m0, by rw [← kst_name hp]; exact F⟩
theorem menu_b {k : Int} : 0 ≤ ([1, 2, 0, 3, 55, 56, 300] : List Int).getD k.toNat 0 ∧ ([1, 2, 0, 3, 55, 56, 300] : List Int).getD k.toNat 0 ≤ 300 := by
  generalize k.toNat = j
  match j with
  | 0 => decide
  | 1 => decide
  | 2 => decide
  | 3 => decide
  | 4 => decide
  | 5 => decide
  | 6 => decide
  | j + 7 => simp
/-- how many octets a value of the law has at most -/
def wb : Nat → Nat
  | 0 => 320
  | k + 1 => 9 + 3 * wb k
theorem wb_0 (k : Nat) : 320 ≤ wb k := by
  induction k with
  | zero => exact Nat.le_refl _
  | succ k ih => unfold wb; omega
theorem enc_b_le (x : List UInt8) (h : x.length ≤ 301) : (enc (.b x)).length ≤ 320 := by
  unfold enc
  split
  · split
    · simp
    · rw [List.length_append]; have := pre_le (n := 1) 128 (by decide); simp; omega
  · rw [List.length_append]; have := pre_le (n := x.length) 128 (by omega); omega
/-- what _law_value owes -/
def LvRet (w : World) (h₀ : Heap) (L : Addr) (m : Str → Option Value) (news : List (Addr × Obj)) (s : Shared) (deep : Nat) (Q : Value → Shared → Prop) : Prop :=
  ∀ h' tk' T v rl vs' ns' c' d Z, Fr h₀ L h' m → News h₀ L h' (Z ++ news) → (∀ p ∈ Z, ∀ r ∈ news, r.1 < p.1) → (T, tupO [v, .ref rl]) ∈ Z → (rl, W.listOf (vs' : List Value).toArray c') ∈ Z → IntsAre vs' ns' → vs'.length ≤ 63 → DIn Z v d → d.depth ≤ deep → (enc d).length ≤ wb deep → Q (.ref T) { s with heap := h', toks := tk' }
theorem lt4 {d x1 x2 x3 x4 : Nat} {l : List (Addr × Obj)} (h : x1 < d ∧ x2 < d ∧ x3 < d ∧ x4 < d ∧ AllLt d l) : ∀ p ∈ l, p.1 < d := of_allLt h.2.2.2.2
theorem lt5 {d x1 x2 x3 x4 x5 : Nat} {l : List (Addr × Obj)} (h : x1 < d ∧ x2 < d ∧ x3 < d ∧ x4 < d ∧ x5 < d ∧ AllLt d l) : ∀ p ∈ l, p.1 < d := of_allLt h.2.2.2.2.2
theorem lt6 {d x1 x2 x3 x4 x5 x6 : Nat} {l : List (Addr × Obj)} (h : x1 < d ∧ x2 < d ∧ x3 < d ∧ x4 < d ∧ x5 < d ∧ x6 < d ∧ AllLt d l) : ∀ p ∈ l, p.1 < d := of_allLt h.2.2.2.2.2.2
theorem lt7 {d x1 x2 x3 x4 x5 x6 x7 : Nat} {l : List (Addr × Obj)} (h : x1 < d ∧ x2 < d ∧ x3 < d ∧ x4 < d ∧ x5 < d ∧ x6 < d ∧ x7 < d ∧ AllLt d l) : ∀ p ∈ l, p.1 < d := of_allLt h.2.2.2.2.2.2.2
theorem lt8 {d x1 x2 x3 x4 x5 x6 x7 x8 : Nat} {l : List (Addr × Obj)} (h : x1 < d ∧ x2 < d ∧ x3 < d ∧ x4 < d ∧ x5 < d ∧ x6 < d ∧ x7 < d ∧ x8 < d ∧ AllLt d l) : ∀ p ∈ l, p.1 < d := of_allLt h.2.2.2.2.2.2.2.2
theorem lt9 {d x1 x2 x3 x4 x5 x6 x7 x8 x9 : Nat} {l : List (Addr × Obj)} (h : x1 < d ∧ x2 < d ∧ x3 < d ∧ x4 < d ∧ x5 < d ∧ x6 < d ∧ x7 < d ∧ x8 < d ∧ x9 < d ∧ AllLt d l) : ∀ p ∈ l, p.1 < d := of_allLt h.2.2.2.2.2.2.2.2.2
theorem lt10 {d x1 x2 x3 x4 x5 x6 x7 x8 x9 xa : Nat} {l : List (Addr × Obj)} (h : x1 < d ∧ x2 < d ∧ x3 < d ∧ x4 < d ∧ x5 < d ∧ x6 < d ∧ x7 < d ∧ x8 < d ∧ x9 < d ∧ xa < d ∧ AllLt d l) : ∀ p ∈ l, p.1 < d := of_allLt h.2.2.2.2.2.2.2.2.2.2
local macro_rules | `(tactic| walk_at "lt1") => `(tactic| first | assumption | exact of_allLt (by assumption) | exact of_allLt1 (by assumption) | exact of_allLt2 (by assumption) | exact of_allLt3 (by assumption) | exact lt4 (by assumption) | exact lt5 (by assumption) | exact lt6 (by assumption) | exact lt7 (by assumption) | exact lt8 (by assumption) | exact lt9 (by assumption) | exact lt10 (by assumption))
local macro_rules | `(tactic| walk_at "above") => `(tactic| (repeat (refine List.forall_mem_cons.mpr ⟨by walk_at "lt1", ?_⟩)); exact fun _ h => nomatch h)
theorem led1 {h₀ h : Heap} {L : Addr} {l news : List (Addr × Obj)} {x : Addr × Obj} (N : News h₀ L h l) (h1 : x ∈ l) (h3 : ∀ p ∈ news, p ∈ l) : News h₀ L h (x :: news) := News.sub N fun p hp => by
  rcases List.mem_cons.mp hp with rfl | hp
  · exact h1
  · exact h3 p hp
theorem led2 {h₀ h : Heap} {L : Addr} {l news : List (Addr × Obj)} {x y : Addr × Obj} (N : News h₀ L h l) (h1 : x ∈ l) (h2 : y ∈ l) (h3 : ∀ p ∈ news, p ∈ l) : News h₀ L h ([x, y] ++ news) := News.sub N fun p hp => by
  rcases List.mem_cons.mp hp with rfl | hp
  · exact h1
  rcases List.mem_cons.mp hp with rfl | hp
  · exact h2
  · exact h3 p hp
noncomputable def lvIf : List Stmt := match (fbody (st 42)).getD 2 (.Pass default) with | .If _ b _ _ => b | _ => []
theorem lv_nil {nl c : Nat} {t : Tok} {deep : Nat}
    (B : Below A₀ base outer h₀) (F : Fr h₀ L s.heap m) (X : (K w.params).In h₀) (N : News h₀ L s.heap news) (T : Top p loose mean mg mb h₀) (hk : ev.scope.kind = .function ∧ ev.frame = some L)
    (hd : dp + 50 + 4 * deep < recursionLimit) (hu : un + 150 + 30 * deep < cLine) (hnl : (nl, W.listOf (([] : List Value)).toArray c) ∈ news) (hret : LvRet w h₀ L m news s deep Q) :
    wpAny (model pg w) (ktrE dp un gd ev outer) (call (.ref 1777) [.ref nl, .int deep t]) Q E s := by
  walk_at "ENTER0"
  k_steps
  rename News h₀ L _ _ => N9
  refine hret _ _ _ _ _ [] [] _ (.b []) [(_, _), (_, _)] (by k_asm) (led2 N9 (.head _) (.tail _ (.head _)) fun p hp => .tail _ (.tail _ (.tail _ hp))) (by walk_at "above") (.head _) (.tail _ (.head _)) .nil (by decide) .b (Nat.zero_le _) (Nat.le_trans (enc_b_le _ (by decide)) (wb_0 _))
theorem lv_tail {nl c rl c2 : Nat} {tn ts : Tok} {n v : Int} {vs ws : List Value} {m : Str → Option Value} {Q : Flow → Shared → Prop}
    (F : Fr h₀ L s.heap m) (hm1 : m (Str.ofString "numbers") = some (.ref nl)) (hm2 : m (Str.ofString "rest") = some (.ref rl)) (hm3 : m (Str.ofString "size") = some (.int v ts))
    (X : (K w.params).In h₀) (N : News h₀ L s.heap ((rl, W.listOf ws.toArray c2) :: news)) (T : Top p loose mean mg mb h₀) (hu : un + 150 < cLine) (hnl : (nl, W.listOf (.int n tn :: vs).toArray c) ∈ news) (h1 : 0 ≤ v) (h2 : v ≤ 300)
    (hnext : ∀ h' m' tk' t' T (x : List UInt8), Fr h₀ L h' m' → News h₀ L h' ((T, tupO [.bytes x.toArray t', .ref rl]) :: (rl, W.listOf ws.toArray c2) :: news) → (∀ p ∈ (rl, W.listOf ws.toArray c2) :: news, p.1 < T) → x.length ≤ 301 → Q (.ret (.ref T)) { s with heap := h', toks := tk' }) :
    wpAny (model pg w) ((ktrE dp un gd ev outer).deeper (envOf z299 (fscope (st 42)) L 1777 (.ref 1776))) (execs (lvIf.drop 1) (envOf z299 (fscope (st 42)) L 1777 (.ref 1776))) Q E s := by
  have e5 := Int.fmod_nonneg_of_pos (n.fdiv 7) (b := 256) (by decide)
  have e6 := Int.fmod_lt_of_pos (n.fdiv 7) (b := 256) (by decide)
  have e7 := Int.fmod_nonneg_of_pos ((n.fdiv 7).fmod 256 + 89) (b := 256) (by decide)
  have e8 := Int.fmod_lt_of_pos ((n.fdiv 7).fmod 256 + 89) (b := 256) (by decide)
  obtain ⟨m1, F8⟩ := frs_of F (ps := [(Str.ofString "numbers", .ref nl), (Str.ofString "rest", .ref rl), (Str.ofString "size", .int v ts)]) (fun q hq => by
    rcases List.mem_cons.mp hq with rfl | hq
    · exact hm1
    rcases List.mem_cons.mp hq with rfl | hq
    · exact hm2
    · rw [List.mem_singleton.mp hq]; exact hm3)
  k_steps
  rename News _ _ _ _ => N9
  rename Fr _ _ _ _ => F9
  refine hnext _ _ _ _ _ _ F9 (led1 N9 (.head _) fun p hp => .tail _ (.tail _ (.tail _ (.tail _ (.tail _ (.tail _ hp)))))) (fun p hp => ?_) ?_
  · revert p
    exact List.forall_mem_cons.mpr ⟨by omega, by walk_at "lt1"⟩
  · rw [List.length_map, List.length_append, List.length_replicate, List.length_replicate]
    split <;> split <;> omega
local macro_rules | `(tactic| walk_at "GF") => `(tactic| (fail_if_success (with_reducible show wpAny _ _ (execs (Stmt.Assign [Expr.Name ("first" : Str) _] _ _ :: _) _) _ _ _)))
local macro_rules | `(tactic| walk_at "UPF") => `(tactic| repeat' (first | (k_unfold; (try dsimp only)) | (k_end; wrow_close) | (walk_at "GF"; walk1) | (dsimp only; walk_at "GF"; walk1) | (walk_at "GF"; leave1; (try dsimp only)) | fail "no step"))
theorem lv_leaf {nl c : Nat} {t tn : Tok} {deep : Nat} {n : Int} {ns : List Int} {vs : List Value}
    (B : Below A₀ base outer h₀) (F : Fr h₀ L s.heap m) (X : (K w.params).In h₀) (N : News h₀ L s.heap news) (T : Top p loose mean mg mb h₀) (hk : ev.scope.kind = .function ∧ ev.frame = some L)
    (hd : dp + 50 + 4 * deep < recursionLimit) (hu : un + 150 + 30 * deep < cLine) (hnl : (nl, W.listOf (.int n tn :: vs).toArray c) ∈ news) (hI : IntsAre vs ns) (hlen : vs.length ≤ 62) (hret : LvRet w h₀ L m news s deep Q)
    (hleaf : (n.fmod 7 < 4 ∧ 0 < deep) ∨ (n.fmod 7 < 4 ∧ deep = 0) ∨ (¬ n.fmod 7 < 4 ∧ deep = 0)) :
    wpAny (model pg w) (ktrE dp un gd ev outer) (call (.ref 1777) [.ref nl, .int deep t]) Q E s := by
  have e1 := Int.fmod_nonneg_of_pos n (b := 7) (by decide)
  have e2 := Int.fmod_lt_of_pos n (b := 7) (by decide)
  have e3 := Int.fmod_nonneg_of_pos (n.fdiv 7) (b := 7) (by decide)
  have e4 := Int.fmod_lt_of_pos (n.fdiv 7) (b := 7) (by decide)
  rcases hleaf with ⟨h1, h2⟩ | ⟨h1, rfl⟩ | ⟨h1, rfl⟩
  all_goals (
    (try (show wpAny _ _ (call (.ref 1777) [.ref nl, .int (0 : Int) t]) _ _ _))
    walk_at "ENTER0"
    rename_i F9 _ _ _ _
    obtain ⟨m1, F8⟩ := frs_of F9 (ps := [(Str.ofString "numbers", .ref nl), (Str.ofString "deep", .int _ t)]) (fun q hq => by
      rcases List.mem_cons.mp hq with rfl | hq
      · rfl
      · rw [List.mem_singleton.mp hq]; rfl)
    clear F9
    walk_at "UPF"
    rename News _ _ _ _ => N9
    rename Fr _ _ _ _ => F9
    refine lv_tail (nl := nl) (n := n) F9 rfl rfl rfl (by k_asm) (led1 N9 (.tail _ (.tail _ (.head _))) fun p hp => .tail _ (.tail _ (.tail _ (.tail _ hp)))) (by k_asm) (by omega) hnl (by omega) (by omega) ?_
    intro h8 m8 tk8 t8 T8 x8 F8 N8 l8 hx8
    k_steps
    rename News h₀ L _ _ => N9
    rename IntsAre _ _ => hw9
    refine hret _ _ _ _ _ _ _ _ _ [(_, _), (_, _)] (by k_asm) (led2 N9 (.head _) (.tail _ (.head _)) fun p hp => .tail _ (.tail _ hp)) ?_ (.head _) (.tail _ (.head _)) hw9 ?_ .b (Nat.zero_le _) (Nat.le_trans (enc_b_le _ hx8) (wb_0 _))
    · refine List.forall_mem_cons.mpr ⟨fun p hp => l8 p (.tail _ hp), List.forall_mem_cons.mpr ⟨?_, fun _ h => nomatch h⟩⟩
      walk_at "lt1"
    · rw [IntsAre.length hw9]
      have := IntsAre.length hI
      simp
      omega)
end
end Mine
end

section
set_option maxRecDepth 100000
set_option linter.unusedVariables false
set_option Elab.async false
open PySem PySem.W PyProof.Rows PySem.Spec PySem.Calls
namespace Mine
theorem unrP_mono {h₀ : Heap} {L I : Addr} {it : Obj} {s₁ : Shared} {rest rest' : (Str → Option Value) → List (Addr × Obj) → Prop} {Q : Flow → Shared → Prop} {f : Flow} {s₂ : Shared}
    (x : UnrPost h₀ L s₁ I it rest Q f s₂) (h : ∀ m n, rest m n → rest' m n) : UnrPost h₀ L s₁ I it rest' Q f s₂ := by
  cases f with
  | ret v => exact x
  | brk => exact x
  | next => obtain ⟨a, b, c, d, e, f, g, i, j⟩ := x; exact ⟨a, b, c, d, e, f, g, i, h _ _ j⟩
  | cont => obtain ⟨a, b, c, d, e, f, g, i, j⟩ := x; exact ⟨a, b, c, d, e, f, g, i, h _ _ j⟩
section
variable {prog : Program} {w : World} {A : Around} {E : Value → Shared → Prop} {s : Shared} {env : Env} {h₀ : Heap} {x : Str} {body : List Stmt} {Q : Flow → Shared → Prop}
theorem range_rest {I : Addr} {a : Int} {n : Nat} (Inv : Nat → (Str → Option Value) → List (Addr × Obj) → Prop)
    (step : ∀ i m news t h tk, i < n → Inv i m news → Fr h₀ env.locals h (fun y => if y = x then some (.int (a + (i : Int)) t) else m y) → News h₀ env.locals h ((I, itR (a + ((i + 1 : Nat) : Int)) ((n : Int) - ((i + 1 : Nat) : Int))) :: news) →
      wpAny (model prog w) A (execs body env) (UnrPost h₀ env.locals { s with heap := h, toks := tk } I (itR (a + ((i + 1 : Nat) : Int)) ((n : Int) - ((i + 1 : Nat) : Int))) (Inv (i + 1)) Q) E { s with heap := h, toks := tk })
    (fin : ∀ m news h tk, Inv n m news → Fr h₀ env.locals h m → News h₀ env.locals h news → Q .next { s with heap := h, toks := tk }) :
    ∀ k i m news, i + k = n → Inv i m news → RangeRest prog w A E h₀ env x body Q s I a n k i m news := by
  intro k
  induction k with
  | zero =>
    intro i m news hi hI
    rw [show i = n by omega] at hI
    exact fun h tk F N => fin m news h tk hI F N
  | succ k ih =>
    intro i m news hi hI
    refine RangeRest.succ fun t h tk F N => ?_
    exact wpAny_mono (step i m news t h tk (by omega) hI F N) (fun f s₃ h₃ => unrP_mono h₃ fun m' n' z => ih (i + 1) m' n' (by omega) z) fun _ _ e => e
theorem off_frameP {stored : List Str} {m m₀ : Str → Option Value} {ps : List (Str × Value)} (h : ∀ z, stored.contains z = false → m z = m₀ z) (hp : ∀ p ∈ ps, m p.1 = some p.2) : m = kstB (fun z => if stored.contains z then m z else m₀ z) ps := by
  have e := off_frame h
  rw [← e]
  exact kst_name hp
/-- for x in range(..), with a state of one's own, the names that a turn may store (x among them), and what some names hold -/
theorem for_rangeS {σ : Type} (stored : List Str) (Led : Nat → σ → List (Addr × Obj)) (Ps : σ → List (Str × Value)) (Facts : Addr → Nat → σ → Prop) (c₀ : σ) {r : Addr} {a₀ b₀ : Int} {t₀ u₀ v₀ : Tok} {n : Nat} {m₀ : Str → Option Value}
    (hh : A.handled = none) (hr : IsRange s.heap r a₀ b₀ 1 t₀ u₀ v₀) (hsmall : Builtin.Range.small a₀ b₀ 1 = true) (hn : Builtin.Range.rangeSize a₀ b₀ 1 = (n : Int)) (F : Fr h₀ env.locals s.heap m₀) (N : News h₀ env.locals s.heap (Led 0 c₀)) (h0 : ∀ I, (∀ p ∈ Led 0 c₀, p.1 < I) → Facts I 0 c₀) (hp0 : ∀ p ∈ Ps c₀, m₀ p.1 = some p.2)
    (step : ∀ I i c (u : Str → Option Value) t h tk, (∀ p ∈ Led 0 c₀, p.1 < I) → i < n → Facts I i c → Fr h₀ env.locals h (fun y => if y = x then some (.int (a₀ + (i : Int)) t) else kstB (fun z => if stored.contains z then u z else m₀ z) (Ps c) y) → News h₀ env.locals h ((I, itR (a₀ + ((i + 1 : Nat) : Int)) ((n : Int) - ((i + 1 : Nat) : Int))) :: Led i c) →
      wpAny (model prog w) A (execs body env) (UnrPost h₀ env.locals { s with heap := h, toks := tk } I (itR (a₀ + ((i + 1 : Nat) : Int)) ((n : Int) - ((i + 1 : Nat) : Int))) (fun m' n' => ∃ c', n' = Led (i + 1) c' ∧ Facts I (i + 1) c' ∧ (∀ p ∈ Ps c', m' p.1 = some p.2) ∧ ∀ z, stored.contains z = false → m' z = m₀ z) Q) E { s with heap := h, toks := tk })
    (fin : ∀ I c (u : Str → Option Value) h tk, (∀ p ∈ Led 0 c₀, p.1 < I) → Facts I n c → Fr h₀ env.locals h (kstB (fun z => if stored.contains z then u z else m₀ z) (Ps c)) → News h₀ env.locals h (Led n c) → Q .next { s with heap := h, toks := tk }) :
    wpAny (model prog w) A (pyIter (.ref r)) (fun it s₂ => LoopAtV prog w A h₀ env x body Q E it s₂) E s := by
  refine iter_rangeUnr hh hr hsmall hn F N fun I hI => ?_
  refine range_rest (fun i m' n' => ∃ c', n' = Led i c' ∧ Facts I i c' ∧ (∀ p ∈ Ps c', m' p.1 = some p.2) ∧ ∀ z, stored.contains z = false → m' z = m₀ z) ?_ ?_ n 0 m₀ _ (by omega) ⟨c₀, rfl, h0 I hI, hp0, fun _ _ => rfl⟩
  · rintro i m news t h tk hi ⟨c, rfl, hf, hp, hz⟩ F' N'
    rw [off_frameP hz hp] at F'
    exact step I i c m t h tk hI hi hf F' N'
  · rintro m news h tk ⟨c, rfl, hf, hp, hz⟩ F' N'
    rw [off_frameP hz hp] at F'
    exact fin I c m h tk hI hf F' N'
theorem turn_endR {L I : Addr} {o : Obj} {s₁ : Shared} {all : List (Addr × Obj)} {rest : (Str → Option Value) → List (Addr × Obj) → Prop} {h' : Heap} {tk : Nat} {m' : Str → Option Value} (news' : List (Addr × Obj)) (F : Fr h₀ L h' m') (N : News h₀ L h' all)
    (hI : ∀ p ∈ (I, o) :: news', p ∈ all) (off : ∀ p ∈ news', p.1 ≠ I) (r : rest m' news') : UnrEnd h₀ L s₁ I o rest { s₁ with heap := h', toks := tk } := ⟨h', tk, m', news', rfl, F, News.sub N hI, off, r⟩
end
end Mine
end

section
open PySem PySem.W PyProof.Rows PySem.Spec PySem.Calls Rlp
set_option Elab.async false
set_option maxRecDepth 100000
set_option maxHeartbeats 1500000
set_option linter.unusedVariables false
namespace Mine
theorem fillKW : (fun (_ : OpenLaw) (_ : Params → Frag) => True) PySem.Challenge.rw_bi0020_01 K := by
  k_fill
  trivial
local macro_rules | `(tactic| walk_at "ENTER0") => `(tactic| (refine wpAny_call ?_; k_dflt (refine' code_def ?k1 ?k2 ?k3 ?k4 ?k5 ?kA ?kF ?kK ?k6 ?k7 ?k8 ?k9 ?kB ?_ ?c2 ?c3 ?c4 ?c5; (case kA => exact rfl); (case kF => exact And.right (by assumption)); (case kK => exact And.left (by assumption)); (case k1 => k_asm); (case k2 => k_asm); (case k3 => k_asm); (case k4 => k_asm); (case k5 => k_asm); (case k6 => k_is); (case k7 => k_is); (case k8 => ktr_room); (case k9 => first | exact BindsTo.of_eq rfl | exact binds_K (by k_in) rfl (by k_is) rfl rfl rfl); (case c5 => decide); (case kB => exact locs rfl); (case c2 => exact rfl); (case c3 => exact rfl); (case c4 => exact rfl); k_whole; intro g' L' h' FG' F' N' B' X' T'; (try dsimp only); (try k_fold))))
local macro_rules | `(tactic| walk_at "ENTER") => `(tactic| (walk_at "ENTER0"; k_steps))
local macro_rules | `(tactic| walk_at "bsz") => `(tactic| ((try simp only [List.size_toArray, List.length_append, List.length_cons, List.length_nil, be_length, beK_length, slice_length]); omega))
local macro_rules | `(tactic| walk_at "call builtin:len") => `(tactic| ((with_reducible show wpAny _ _ (call (Value.builtin _) [Value.bytes (List.toArray _) _]) _ _ _); refine len_bytes (by walk_at "bsz") ?_; (try simp only [List.size_toArray, be_length])))
local macro_rules | `(tactic| walk_at "binaryOp Add bytes bytes") => `(tactic| ((with_reducible show wpAny _ _ (binaryOp Operator.Add (Value.bytes (List.toArray _) _) (Value.bytes (List.toArray _) _)) _ _ _); refine KBy.add_bytes (by walk_at "bsz") ?_; intro _ _; (try simp only [List.append_toArray, List.cons_append, List.nil_append])))
local macro_rules | `(tactic| walk_at "subscriptTail") => `(tactic| ((with_reducible show wpAny _ _ (subscriptTail _ _ (Value.bytes (List.toArray _) _) (Value.ref _)) _ _ _); refine slice_int (s := ⟨_, _, _, _, _⟩) (by k_asm) (by k_asm) (by omega) (by omega) (by omega) ?_; intro _ _ _ _ _))
local macro_rules | `(tactic| walk_at "dp") => `(tactic| ((show _ + _ < _); simp only [ktr_dp, ktr_un]; omega))
local macro_rules | `(tactic| walk_at "call ref") => `(tactic| ((with_reducible show wpAny _ _ (call (Value.ref 1464) _) _ _ _); (k_dflt (refine' b2i ?k1 ?k2 ?k3 ?k4 ?k5 ?k6 ?k7 ?k8 ?k9 ?_; (case k1 => k_asm); (case k2 => k_asm); (case k3 => k_asm); (case k4 => k_asm); (case k5 => k_asm); (case k6 => exact ⟨rfl, rfl⟩); (case k7 => walk_at "dp"); (case k8 => walk_at "dp"); (case k9 => walk_at "bsz"))); intro _ _ _ _ _))
local macro_rules | `(tactic| walk_at "call ref") => `(tactic| ((with_reducible show wpAny _ _ (call (Value.ref 1736) _) _ _ _); (k_dflt (refine' clp_ok ?k1 ?k2 ?k3 ?k4 ?k5 ?k6 ?k7 ?k8 ?k9 ?k0 ?_; (case k1 => k_asm); (case k2 => k_asm); (case k3 => k_asm); (case k4 => k_asm); (case k5 => k_asm); (case k6 => exact ⟨rfl, rfl⟩); (case k7 => walk_at "dp"); (case k8 => walk_at "dp"); (case k9 => walk_at "bsz"); (case k0 => assumption))); intro _ _ _ _ _ _ _ _ _ _))
local macro_rules | `(tactic| walk_at "call ref") => `(tactic| ((with_reducible show wpAny _ _ (call (Value.ref 1457) _) _ _ _); (k_dflt (refine' is_b ?k1 ?k2 ?k3 ?k4 ?k5 ?k6 ?k7 ?k8 ?_; (case k1 => k_asm); (case k2 => k_asm); (case k3 => k_asm); (case k4 => k_asm); (case k5 => k_asm); (case k6 => exact ⟨rfl, rfl⟩); (case k7 => walk_at "dp"); (case k8 => walk_at "dp"))); intro _ _ _ _))
local macro_rules | `(tactic| walk_at "call ref") => `(tactic| ((with_reducible show wpAny _ _ (call (Value.ref 74) [_, _]) _ _ _); (k_dflt (refine' mk_DE ?k1 ?k2 ?k3 ?k4 ?k5 ?k6 ?k7 ?k8 ?_; (case k1 => k_asm); (case k2 => k_asm); (case k3 => k_asm); (case k4 => k_asm); (case k5 => k_asm); (case k6 => exact ⟨rfl, rfl⟩); (case k7 => walk_at "dp"); (case k8 => walk_at "dp"))); intro _ _ _ _ _ _ _ _ _ _; refine RaiseOk.intro (by k_asm) (by k_asm) (by k_asm) (.head _) (exc74 _) ?_))
local macro_rules | `(tactic| walk_at "ENTER0") => `(tactic| (refine wpAny_call ?_; k_dflt (refine' code_def ?k1 ?k2 ?k3 ?k4 ?k5 ?kA ?kF ?kK ?k6 ?k7 ?k8 ?k9 ?kB ?_ ?c2 ?c3 ?c4 ?c5; (case kA => exact rfl); (case kF => exact And.right (by assumption)); (case kK => exact And.left (by assumption)); (case k1 => k_asm); (case k2 => k_asm); (case k3 => k_asm); (case k4 => k_asm); (case k5 => k_asm); (case k6 => k_is); (case k7 => k_is); (case k8 => ktr_room); (case k9 => first | exact BindsTo.of_eq rfl | exact binds_K (by k_in) rfl (by k_is) rfl rfl rfl); (case c5 => decide); (case kB => exact locs rfl); (case c2 => exact rfl); (case c3 => exact rfl); (case c4 => exact rfl); k_whole; intro g' L' h' FG' F' N' B' X' T'; (try dsimp only); (try k_fold))))
local macro_rules | `(tactic| walk_at "call ref") => `(tactic| ((with_reducible show wpAny _ _ (call (Value.ref 1714) _) _ _ _); (k_dflt (refine' dr_ok ?k1 ?k2 ?k3 ?k4 ?k5 ?k6 ?k7 ?k8 ?k9 ?ka ?kb ?_; (case k1 => k_asm); (case k2 => k_asm); (case k3 => k_asm); (case k4 => k_asm); (case k5 => k_asm); (case ka => assumption); (case kb => first | assumption | exact Or.inr rfl); (case k6 => exact ⟨rfl, rfl⟩); (case k7 => walk_at "dp"); (case k8 => walk_at "dp"); (case k9 => assumption))); intro _ _ _ _ _ _ _ _ _ _ _ _ _ _ _))
local macro_rules | `(tactic| walk_at "call ref") => `(tactic| ((with_reducible show wpAny _ _ (call (Value.ref 1714) _) _ _ _); (k_dflt (refine' dr_de ?k1 ?k2 ?k3 ?k4 ?k5 ?k6 ?k7 ?k8 ?k9 ?ka ?kb ?_; (case k1 => k_asm); (case k2 => k_asm); (case k3 => k_asm); (case k4 => k_asm); (case k5 => k_asm); (case ka => assumption); (case kb => with_reducible assumption); (case k6 => exact ⟨rfl, rfl⟩); (case k7 => walk_at "dp"); (case k8 => walk_at "dp"); (case k9 => assumption))); intro _ _ _ _ _ _ _ _ _))
local macro_rules | `(tactic| k_mem) => `(tactic| (refine mem_of ?_; ktr_member))
local macro_rules | `(tactic| walk_at "compareOp Eq ref ref") => `(tactic| ((with_reducible show wpAny _ _ (compareOp CmpOp.Eq (Value.ref _) (Value.ref _)) _ _ _); k_dflt (refine' eq_ne_len ?k1 ?k2 ?k3 ?k4 ?k5 ?_; (case k1 => k_asm); (case k2 => k_mem); (case k3 => k_mem); (case k4 => simp; done); (case k5 => walk_at "dp"))))
local macro_rules | `(tactic| walk_at "lsz") => `(tactic| (rw [sizeLine_eq]; (try simp only [List.length_cons, List.length_append, List.length_nil, List.length_replicate]); omega))
local macro_rules | `(tactic| walk_at "subscriptTail") => `(tactic| ((with_reducible show wpAny _ _ (subscriptTail _ _ (Value.ref _) (Value.int _ _)) _ _ _); k_dflt (refine' menu_ledB (is := [1, 2, 0, 3, 55, 56, 300]) (lo := 0) (hi := 300) ?k1 ?k2 ?k3 ?k4 ?k5 ?k6 ?k7 ?_; (case k1 => k_asm); (case k2 => k_mem); (case k3 => exact .cons _ _ (.cons _ _ (.cons _ _ (.cons _ _ (.cons _ _ (.cons _ _ (.cons _ _ .nil))))))); (case k4 => walk_at "mb"); (case k5 => walk_at "mb"); (case k6 => decide); (case k7 => decide)); intro _ _ _ _))
local macro_rules | `(tactic| walk_at "subscriptTail") => `(tactic| ((with_reducible show wpAny _ _ (subscriptTail _ _ (Value.ref _) (Value.int 0 _)) _ _ _); k_dflt (refine' item_led ?k1 ?k2 ?k3 ?k4 ?k5 ?_; (case k1 => k_asm); (case k2 => k_mem); (case k3 => first | decide | omega); (case k4 => first | decide | omega); (case k5 => first | rfl | assumption))))
local macro_rules | `(tactic| walk_at "subscriptTail") => `(tactic| ((with_reducible show wpAny _ _ (subscriptTail _ (Expr.Slice (some _) none none _) (Value.ref _) (Value.ref _)) _ _ _); k_dflt (refine' slice_from_led (s := ⟨_, _, _, _, _⟩) ?k1 ?k2 ?k3 ?k4 ?k5 ?_; (case k1 => k_asm); (case k2 => k_asm); (case k3 => k_mem); (case k4 => first | decide | omega); (case k5 => walk_at "lsz")); intro _ _ _ _ l1; (try k_lt l1)))
local macro_rules | `(tactic| walk_at "mb") => `(tactic| ((try simp only [List.length_cons, List.length_nil]); omega))
local macro_rules | `(tactic| walk_at "binaryOp Mult ref int") => `(tactic| ((with_reducible show wpAny _ _ (binaryOp Operator.Mult (Value.ref _) (Value.int _ _)) _ _ _); k_dflt (refine' mul1_led ?k1 ?k2 ?k3 ?k4 ?k5 ?_; (case k1 => k_asm); (case k2 => k_asm); (case k3 => k_mem); (case k4 => first | omega | (split <;> omega)); (case k5 => first | omega | (split <;> omega))); intro _ _ _ _ l1; (try k_lt l1)))
local macro_rules | `(tactic| walk_at "binaryOp Add ref ref") => `(tactic| ((with_reducible show wpAny _ _ (binaryOp Operator.Add (Value.ref _) (Value.ref _)) _ _ _); k_dflt (refine' add_led ?k1 ?k2 ?k3 ?k4 ?k5 ?_; (case k1 => k_asm); (case k2 => k_asm); (case k3 => k_mem); (case k4 => k_mem); (case k5 => walk_at "lsz")); intro _ _ _ _ l1; (try k_lt l1)))
local macro_rules | `(tactic| walk_at "call type:bytes") => `(tactic| ((with_reducible show wpAny _ _ (call (Value.type "bytes") [Value.ref _]) _ _ _); k_dflt (refine' bytes_led ?k1 ?k2 ?k3 ?k4 ?k5 ?k6 ?k7 ?_; (case k1 => k_asm); (case k2 => k_asm); (case k3 => k_mem); (case k4 => exact (ints_rep _ _ _).append (ints_rep _ _ _)); (case k5 => walk_at "bin"); (case k6 => walk_at "lsz"); (case k7 => rfl)); intro _ _ _ _ _))
local macro_rules | `(tactic| walk_at "bin") => `(tactic| (intro n hn; rcases List.mem_append.mp hn with hn | hn <;> (rw [(List.mem_replicate.mp hn).2]; omega)))
local macro_rules | `(tactic| walk_at "lt1") => `(tactic| first | assumption | exact of_allLt (by assumption) | exact of_allLt1 (by assumption) | exact of_allLt2 (by assumption) | exact of_allLt3 (by assumption) | exact lt4 (by assumption) | exact lt5 (by assumption) | exact lt6 (by assumption) | exact lt7 (by assumption) | exact lt8 (by assumption) | exact lt9 (by assumption) | exact lt10 (by assumption))
local macro_rules | `(tactic| walk_at "above") => `(tactic| (repeat (refine List.forall_mem_cons.mpr ⟨by walk_at "lt1", ?_⟩)); exact fun _ h => nomatch h)
local macro_rules | `(tactic| walk_at "GR") => `(tactic| ((fail_if_success (with_reducible show wpAny _ _ (pyIter (Value.ref _)) (fun it s₂ => LoopAtV _ _ _ _ _ _ _ _ _ it s₂) _ _)); (fail_if_success (with_reducible show UnrEnd _ _ _ _ _ _ _))))
local macro_rules | `(tactic| walk_at "UPR") => `(tactic| repeat' (first | (k_unfold; (try dsimp only)) | (k_end; wrow_close) | (walk_at "GR"; walk1) | (dsimp only; walk_at "GR"; walk1) | (walk_at "GR"; leave1; (try dsimp only)) | fail "no step"))
local macro_rules | `(tactic| walk_at "itd") => `(tactic| ((try simp only [decide_eq_true_eq, beq_iff_eq, Bool.not_eq_true', decide_eq_false_iff_not, bne_iff_ne, ne_eq]); omega))
local macro_rules | `(tactic| walk_at "ite") => `(tactic| first | (rw [if_pos (by walk_at "itd")]) | (rw [if_neg (by walk_at "itd")]))
local macro_rules | `(tactic| walk_at "call type:range") => `(tactic| ((with_reducible show wpAny _ _ (call (Value.type "range") [Value.int _ _]) _ _ _); (k_dflt (refine' range1_rows ?k1 ?k2 ?_; (case k1 => k_asm); (case k2 => k_asm))); intro _ _ _ _ _ rg9 _ _ _))
local macro_rules | `(tactic| walk_at "call ref") => `(tactic| ((with_reducible show wpAny _ _ (call (Value.ref 1777) [Value.ref _, Value.int _ _]) _ _ _); k_dflt (refine' lv_call (by assumption) ?k1 ?k2 ?k3 ?k4 ?k5 ?k6 ?k7 ?k8 ?k9 ?ka ?kb ?kc ?_; (case k1 => k_asm); (case k2 => k_asm); (case k3 => k_asm); (case k4 => k_asm); (case k5 => k_asm); (case k6 => exact ⟨rfl, rfl⟩); (case k7 => walk_at "dp"); (case k8 => walk_at "dp"); (case k9 => k_mem); (case ka => assumption); (case kb => assumption); (case kc => omega)); intro _ _ _ _ _ _ _ _ _ _ _ _ hZ9 hT9 hrl9 hI9 hl9 hd9 hdd9 hde9))
section
variable {w : World} {p : Program} {loose : List Str} {mean : ExcName → Option Value} {mg mb : Str → Option Value} {dp un : Nat} {gd : Option (List Code)} {ev : Env} {outer : List Env} {A₀ : Around} {base h₀ : Heap} {L : Addr} {m : Str → Option Value} {news : List (Addr × Obj)} {s : Shared} {Q E : Value → Shared → Prop}
/-- _law_value, as deep as k -/
def LvSpec (w : World) (k : Nat) : Prop := ∀ {p : Program} {loose : List Str} {mean : ExcName → Option Value} {mg mb : Str → Option Value} {dp un : Nat} {gd : Option (List Code)} {ev : Env} {outer : List Env} {A₀ : Around} {base h₀ : Heap} {L : Addr} {m : Str → Option Value} {news : List (Addr × Obj)} {s : Shared} {Q E : Value → Shared → Prop}
    {nl c : Nat} {t : Tok} {i : Int} {ns : List Int} {vs : List Value},
    Below A₀ base outer h₀ → Fr h₀ L s.heap m → (K w.params).In h₀ → News h₀ L s.heap news → Top p loose mean mg mb h₀ → ev.scope.kind = .function ∧ ev.frame = some L →
    dp + 50 + 4 * k < recursionLimit → un + 150 + 30 * k < cLine → (nl, W.listOf vs.toArray c) ∈ news → IntsAre vs ns → vs.length ≤ 63 → i = (k : Int) → LvRet w h₀ L m news s k Q →
    wpAny (model pg w) (ktrE dp un gd ev outer) (call (.ref 1777) [.ref nl, .int i t]) Q E s
theorem lv_call {k : Nat} (H : LvSpec w k) {nl c : Nat} {t : Tok} {i : Int} {ns : List Int} {vs : List Value}
    (B : Below A₀ base outer h₀) (F : Fr h₀ L s.heap m) (X : (K w.params).In h₀) (N : News h₀ L s.heap news) (T : Top p loose mean mg mb h₀) (hk : ev.scope.kind = .function ∧ ev.frame = some L)
    (hd : dp + 50 + 4 * k < recursionLimit) (hu : un + 150 + 30 * k < cLine) (hnl : (nl, W.listOf vs.toArray c) ∈ news) (hI : IntsAre vs ns) (hlen : vs.length ≤ 63) (hi : i = (k : Int)) (hret : LvRet w h₀ L m news s k Q) :
    wpAny (model pg w) (ktrE dp un gd ev outer) (call (.ref 1777) [.ref nl, .int i t]) Q E s := H B F X N T hk hd hu hnl hI hlen hi hret
structure RowS where
  vs : List Value
  ds : List D
  n1 : Nat
  rl : Nat
  ws : List Value
  ns : List Int
  cr : Nat
  Z : List (Addr × Obj)
theorem depths_le {k : Nat} : ∀ {ds : List D}, (∀ d ∈ ds, d.depth ≤ k) → depths ds ≤ k
  | [], _ => by unfold depths; exact Nat.zero_le _
  | d :: r, h => by
    have h1 := h d (.head _)
    have h2 := depths_le fun x hx => h x (.tail _ hx)
    unfold depths
    omega
theorem encs_le {k : Nat} : ∀ {ds : List D}, (∀ d ∈ ds, (enc d).length ≤ k) → (encs ds).length ≤ ds.length * k
  | [], _ => by unfold encs; exact Nat.zero_le _
  | d :: r, h => by
    have h1 := h d (.head _)
    have h2 := encs_le fun x hx => h x (.tail _ hx)
    unfold encs
    rw [List.length_append, List.length_cons, Nat.add_mul, Nat.one_mul]
    omega
theorem led_turn {h₀ h : Heap} {L b pr : Addr} {Z W news : List (Addr × Obj)} {x y z : Addr × Obj} {ob op : Obj} (N : News h₀ L h (Z ++ x :: y :: z :: (W ++ news))) (hb : (b, ob) ∈ Z) (hp : (pr, op) ∈ Z) :
    News h₀ L h ((b, ob) :: (pr, op) :: x :: y :: ((Z ++ W) ++ news)) := by
  refine News.sub N fun p hp' => ?_
  simp only [List.mem_cons, List.mem_append] at hp' ⊢
  rcases hp' with rfl | rfl | h | h | (h | h) | h
  · exact .inl hb
  · exact .inl hp
  · exact .inr (.inl h)
  · exact .inr (.inr (.inl h))
  · exact .inl h
  · exact .inr (.inr (.inr (.inr (.inl h))))
  · exact .inr (.inr (.inr (.inr (.inr h))))
local macro_rules | `(tactic| k_all) => `(tactic| assumption)
local macro_rules | `(tactic| k_ne) => `(tactic| assumption)
theorem lv_row {nl c : Nat} {t tn : Tok} {deep : Nat} {n i : Int} {ns : List Int} {vs : List Value} (H : LvSpec w deep)
    (B : Below A₀ base outer h₀) (F : Fr h₀ L s.heap m) (X : (K w.params).In h₀) (N : News h₀ L s.heap news) (T : Top p loose mean mg mb h₀) (hk : ev.scope.kind = .function ∧ ev.frame = some L)
    (hd : dp + 50 + 4 * (deep + 1) < recursionLimit) (hu : un + 150 + 30 * (deep + 1) < cLine) (hnl : (nl, W.listOf (.int n tn :: vs).toArray c) ∈ news) (hI : IntsAre vs ns) (hlen : vs.length ≤ 62) (hret : LvRet w h₀ L m news s (deep + 1) Q)
    (hrow : ¬ n.fmod 7 < 4) (hi : i = (deep : Int) + 1) (hi0 : ¬ i = 0) (hwb : wb deep ≤ 2 ^ 20) :
    wpAny (model pg w) (ktrE dp un gd ev outer) (call (.ref 1777) [.ref nl, .int i t]) Q E s := by
  have e1 := Int.fmod_nonneg_of_pos n (b := 7) (by decide)
  have e2 := Int.fmod_lt_of_pos n (b := 7) (by decide)
  have e3 := Int.fmod_nonneg_of_pos (n.fdiv 7) (b := 2) (by decide)
  have e4 := Int.fmod_lt_of_pos (n.fdiv 7) (b := 2) (by decide)
  walk_at "ENTER0"
  rename_i F9 _ _ _ _
  obtain ⟨m1, F8⟩ := frs_of F9 (ps := [(Str.ofString "numbers", .ref nl), (Str.ofString "deep", .int i t)]) (fun q hq => by
    rcases List.mem_cons.mp hq with rfl | hq
    · rfl
    · rw [List.mem_singleton.mp hq]; rfl)
  clear F9
  walk_at "UPR"
  rename_i g1 L1 h0 FG B1 X1 T1 l0 h1 lt0 tk1 D1 ws4 h3 hW hW1 hW2 lt1 D2 h4 lt2 h41 h42 h43 tk2 tk3 R h5 lt3 h6 F5 N5 h7 tk6 t6 u6 v6 rg F6 N6 kp6
  obtain ⟨k, hkk⟩ : ∃ k : Nat, n.fmod 7 - 4 + (n.fdiv 7).fmod 2 = (k : Int) := Int.eq_ofNat_of_zero_le (by omega)
  have hk3 : k ≤ 3 := by omega
  rw [hkk] at rg
  have hwl : ws4.length ≤ 63 := by rw [IntsAre.length hW]; simp; have := IntsAre.length hI; omega
  refine for_rangeS (σ := RowS) [Str.ofString "k", Str.ofString "one", Str.ofString "rest"] (fun _ c => (R, W.listOf c.vs.toArray c.n1) :: (c.rl, W.listOf c.ws.toArray c.cr) :: (c.Z ++ news)) (fun c => [(Str.ofString "rest", .ref c.rl)])
    (fun I i c => DsIn c.Z c.vs c.ds ∧ c.ds.length = i ∧ IntsAre c.ws c.ns ∧ c.ws.length ≤ 63 ∧ (∀ d ∈ c.ds, d.depth ≤ deep ∧ (enc d).length ≤ wb deep) ∧ (∀ p ∈ c.Z, (∀ r ∈ news, r.1 < p.1) ∧ p.1 ≠ R ∧ p.1 ≠ I) ∧ c.rl ≠ R ∧ (∀ r ∈ news, r.1 < c.rl)) ⟨[], [], 0, D1, ws4, List.drop 1 (n :: ns), 0, []⟩ (n := k)
    rfl rg (small_one (by decide) (by decide) (by omega) (by omega)) (by rw [rangeSize_nat]; omega) F6 ?_ ?_ ?_ ?_ ?_
  · refine News.sub N6 fun p hp => ?_
    rcases List.mem_cons.mp hp with rfl | hp
    · exact .head _
    rcases List.mem_cons.mp hp with rfl | hp
    · exact .tail _ (.tail _ (.head _))
    · exact .tail _ (.tail _ (.tail _ (.tail _ hp)))
  · intro I _
    refine ⟨.nil, rfl, hW, hwl, ?_, ?_, ?_, ?_⟩
    · intro d hd; cases hd
    · intro p hp; cases hp
    · exact Nat.ne_of_lt lt3.2.1
    · show ∀ r ∈ news, r.1 < D1
      walk_at "lt1"
  · intro p hp
    rw [List.mem_singleton.mp hp]
    rfl
  · intro I j c u t9 h8 tk8 hI8 hi8 hf F8 N8
    obtain ⟨hDs, hdl, hWs, hws, hds, hZ, hrR, hrn⟩ := hf
    have hIn : ∀ r ∈ news, r.1 < I := fun r hr => hI8 r (.tail _ (.tail _ (List.mem_append_right _ hr)))
    have hI8R : R < I := hI8 (R, _) (.head _)
    clear hI8
    walk_at "UPR"
    k_dflt (refine' lv_call H (nl := c.rl) (c := c.cr) (vs := c.ws) (ns := c.ns) ?k1 ?k2 ?k3 ?k4 ?k5 ?k6 ?k7 ?k8 ?k9 ?ka ?kb ?kc ?_; (case k1 => k_asm); (case k2 => k_asm); (case k3 => k_asm); (case k4 => k_asm); (case k5 => k_asm); (case k6 => exact ⟨rfl, rfl⟩); (case k7 => walk_at "dp"); (case k8 => walk_at "dp"); (case k9 => k_mem); (case ka => assumption); (case kb => assumption); (case kc => omega))
    intro h9 tk9 T9 v9 rl9 ws9 ns9 c9 d9 Z9 F9 N9 hZ9 hT9 hr9 hI9 hl9 hv9 hd9 he9
    have N4 : News g1 L1 h9 ((T9, tupO [v9, .ref rl9]) :: (rl9, W.listOf ws9.toArray c9) :: (I, itR (0 + ((j + 1 : Nat) : Int)) ((k : Int) - ((j + 1 : Nat) : Int))) :: (R, W.listOf c.vs.toArray c.n1) :: ((Z9 ++ c.Z) ++ news)) := led_turn N9 hT9 hr9
    have hRI : R < I := hI8R
    have hRz : ∀ p ∈ (Z9 ++ c.Z) ++ news, p.1 ≠ R := fun p hp => by
      rcases List.mem_append.mp hp with hp | hp
      · rcases List.mem_append.mp hp with hp | hp
        · exact Nat.ne_of_gt (hZ9 p hp _ (.tail _ (.head _)))
        · exact (hZ p hp).2.1
      · exact Nat.ne_of_lt (of_allLt lt3.2.2.2 p hp)
    have hTR : T9 ≠ R := hRz (T9, _) (List.mem_append_left _ (List.mem_append_left _ hT9))
    have hrR9 : rl9 ≠ R := hRz (rl9, _) (List.mem_append_left _ (List.mem_append_left _ hr9))
    have hIR : I ≠ R := Nat.ne_of_gt hRI
    clear N9
    have hvl := DsIn.len' hDs
    have hdl3 : c.ds.length < 2 ^ 23 := by omega
    walk_at "UPR"
    rename News _ _ _ _ => N7
    rename Fr _ _ _ _ => F7
    refine turn_endR ((R, W.listOf (c.vs ++ [v9]).toArray (c.n1 + 1)) :: (rl9, W.listOf ws9.toArray c9) :: ((Z9 ++ c.Z) ++ news)) F7 N7 ?_ ?_ ⟨⟨c.vs ++ [v9], c.ds ++ [d9], c.n1 + 1, rl9, ws9, ns9, c9, Z9 ++ c.Z⟩, rfl, ⟨?_, ?_, hI9, hl9, ?_, ?_, hrR9, ?_⟩, ?_, ?_⟩
    · intro p hp
      rcases List.mem_cons.mp hp with rfl | hp
      · exact .tail _ (.tail _ (.head _))
      rcases List.mem_cons.mp hp with rfl | hp
      · rw [← List.push_toArray]; exact .tail _ (.tail _ (.tail _ (.head _)))
      rcases List.mem_cons.mp hp with rfl | hp
      · exact .tail _ (.head _)
      · exact .tail _ (.tail _ (.tail _ (.tail _ hp)))
    · intro p hp
      rcases List.mem_cons.mp hp with rfl | hp
      · exact Nat.ne_of_lt hRI
      rcases List.mem_cons.mp hp with rfl | hp
      · exact Nat.ne_of_gt (hZ9 _ hr9 _ (.head _))
      rcases List.mem_append.mp hp with hp | hp
      · rcases List.mem_append.mp hp with hp | hp
        · exact Nat.ne_of_gt (hZ9 p hp _ (.head _))
        · exact (hZ p hp).2.2
      · exact Nat.ne_of_lt (hIn p hp)
    · exact DsIn.snoc (DsIn.mono (fun p hp => List.mem_append_right _ hp) hDs) (DIn.mono (fun p hp => List.mem_append_left _ hp) hv9)
    · show (c.ds ++ [d9]).length = j + 1
      rw [List.length_append, hdl]; rfl
    · intro d hd
      rcases List.mem_append.mp hd with hd | hd
      · exact hds d hd
      · rw [List.mem_singleton.mp hd]; exact ⟨hd9, he9⟩
    · intro p hp
      rcases List.mem_append.mp hp with hp | hp
      · exact ⟨fun r hr => hZ9 p hp r (.tail _ (.tail _ (.tail _ (List.mem_append_right _ hr)))), Nat.ne_of_gt (hZ9 p hp _ (.tail _ (.head _))), Nat.ne_of_gt (hZ9 p hp _ (.head _))⟩
      · exact hZ p hp
    · exact fun r hr => hZ9 _ hr9 r (.tail _ (.tail _ (.tail _ (List.mem_append_right _ hr))))
    · intro q hq
      rw [List.mem_singleton.mp hq]
      rfl
    · intro z hz
      have h4 := hz
      simp only [List.contains_cons, List.contains_nil, Bool.or_false, Bool.or_eq_false_iff, beq_eq_false_iff_ne, ne_eq] at h4
      simp only [kstB, hz, h4, if_false, Bool.false_eq_true]
  · intro I c u h8 tk8 hI8 hf F8 N8
    obtain ⟨hDs, hdl, hWs, hws, hds, hZ, hrR, hrn⟩ := hf
    walk_at "UPR"
    rename News h₀ L _ _ => N7
    have hdp : depths c.ds ≤ deep := depths_le fun d hd => (hds d hd).1
    have hen : (encs c.ds).length ≤ 3 * wb deep := Nat.le_trans (encs_le fun d hd => (hds d hd).2) (Nat.mul_le_mul_right _ (by omega))
    refine hret _ _ _ _ _ _ _ _ _ ((_, _) :: (R, W.listOf c.vs.toArray c.n1) :: (c.rl, W.listOf c.ws.toArray c.cr) :: c.Z) (by k_asm) N7 ?_ (.head _) (.tail _ (.tail _ (.head _))) hWs hws (.l (.tail _ (.head _)) (DsIn.mono (fun p hp => .tail _ (.tail _ (.tail _ hp))) hDs)) ?_ ?_
    · refine List.forall_mem_cons.mpr ⟨?_, List.forall_mem_cons.mpr ⟨?_, List.forall_mem_cons.mpr ⟨hrn, fun p hp => (hZ p hp).1⟩⟩⟩
      · rename _ ∧ _ ∧ AllLt _ _ => lt9
        exact fun r hr => of_allLt lt9.2.2 r (List.mem_append_right _ hr)
      · exact of_allLt lt3.2.2.2
    · unfold D.depth; omega
    · unfold enc wb
      rw [List.length_append]
      have hw3 : wb deep ≤ 2 ^ 20 := hwb
      have := pre_le (n := (encs c.ds).length) 192 (by omega)
      omega
end
end Mine
end

section
open PySem PySem.W PyProof.Rows PySem.Spec PySem.Calls Rlp
set_option Elab.async false
set_option maxRecDepth 100000
set_option maxHeartbeats 1500000
set_option linter.unusedVariables false
namespace Mine
theorem fillKY : (fun (_ : OpenLaw) (_ : Params → Frag) => True) PySem.Challenge.rw_bi0020_01 K := by
  k_fill
  trivial
local macro_rules | `(tactic| walk_at "ENTER0") => `(tactic| (refine wpAny_call ?_; k_dflt (refine' code_def ?k1 ?k2 ?k3 ?k4 ?k5 ?kA ?kF ?kK ?k6 ?k7 ?k8 ?k9 ?kB ?_ ?c2 ?c3 ?c4 ?c5; (case kA => exact rfl); (case kF => exact And.right (by assumption)); (case kK => exact And.left (by assumption)); (case k1 => k_asm); (case k2 => k_asm); (case k3 => k_asm); (case k4 => k_asm); (case k5 => k_asm); (case k6 => k_is); (case k7 => k_is); (case k8 => ktr_room); (case k9 => first | exact BindsTo.of_eq rfl | exact binds_K (by k_in) rfl (by k_is) rfl rfl rfl); (case c5 => decide); (case kB => exact locs rfl); (case c2 => exact rfl); (case c3 => exact rfl); (case c4 => exact rfl); k_whole; intro g' L' h' FG' F' N' B' X' T'; (try dsimp only); (try k_fold))))
local macro_rules | `(tactic| walk_at "ENTER") => `(tactic| (walk_at "ENTER0"; k_steps))
local macro_rules | `(tactic| walk_at "bsz") => `(tactic| ((try simp only [List.size_toArray, List.length_append, List.length_cons, List.length_nil, be_length, beK_length, slice_length]); omega))
local macro_rules | `(tactic| walk_at "call builtin:len") => `(tactic| ((with_reducible show wpAny _ _ (call (Value.builtin _) [Value.bytes (List.toArray _) _]) _ _ _); refine len_bytes (by walk_at "bsz") ?_; (try simp only [List.size_toArray, be_length])))
local macro_rules | `(tactic| walk_at "binaryOp Add bytes bytes") => `(tactic| ((with_reducible show wpAny _ _ (binaryOp Operator.Add (Value.bytes (List.toArray _) _) (Value.bytes (List.toArray _) _)) _ _ _); refine KBy.add_bytes (by walk_at "bsz") ?_; intro _ _; (try simp only [List.append_toArray, List.cons_append, List.nil_append])))
local macro_rules | `(tactic| walk_at "subscriptTail") => `(tactic| ((with_reducible show wpAny _ _ (subscriptTail _ _ (Value.bytes (List.toArray _) _) (Value.ref _)) _ _ _); refine slice_int (s := ⟨_, _, _, _, _⟩) (by k_asm) (by k_asm) (by omega) (by omega) (by omega) ?_; intro _ _ _ _ _))
local macro_rules | `(tactic| walk_at "dp") => `(tactic| ((show _ + _ < _); simp only [ktr_dp, ktr_un]; omega))
local macro_rules | `(tactic| walk_at "call ref") => `(tactic| ((with_reducible show wpAny _ _ (call (Value.ref 1464) _) _ _ _); (k_dflt (refine' b2i ?k1 ?k2 ?k3 ?k4 ?k5 ?k6 ?k7 ?k8 ?k9 ?_; (case k1 => k_asm); (case k2 => k_asm); (case k3 => k_asm); (case k4 => k_asm); (case k5 => k_asm); (case k6 => exact ⟨rfl, rfl⟩); (case k7 => walk_at "dp"); (case k8 => walk_at "dp"); (case k9 => walk_at "bsz"))); intro _ _ _ _ _))
local macro_rules | `(tactic| walk_at "call ref") => `(tactic| ((with_reducible show wpAny _ _ (call (Value.ref 1736) _) _ _ _); (k_dflt (refine' clp_ok ?k1 ?k2 ?k3 ?k4 ?k5 ?k6 ?k7 ?k8 ?k9 ?k0 ?_; (case k1 => k_asm); (case k2 => k_asm); (case k3 => k_asm); (case k4 => k_asm); (case k5 => k_asm); (case k6 => exact ⟨rfl, rfl⟩); (case k7 => walk_at "dp"); (case k8 => walk_at "dp"); (case k9 => walk_at "bsz"); (case k0 => assumption))); intro _ _ _ _ _ _ _ _ _ _))
local macro_rules | `(tactic| walk_at "call ref") => `(tactic| ((with_reducible show wpAny _ _ (call (Value.ref 1457) _) _ _ _); (k_dflt (refine' is_b ?k1 ?k2 ?k3 ?k4 ?k5 ?k6 ?k7 ?k8 ?_; (case k1 => k_asm); (case k2 => k_asm); (case k3 => k_asm); (case k4 => k_asm); (case k5 => k_asm); (case k6 => exact ⟨rfl, rfl⟩); (case k7 => walk_at "dp"); (case k8 => walk_at "dp"))); intro _ _ _ _))
local macro_rules | `(tactic| walk_at "call ref") => `(tactic| ((with_reducible show wpAny _ _ (call (Value.ref 74) [_, _]) _ _ _); (k_dflt (refine' mk_DE ?k1 ?k2 ?k3 ?k4 ?k5 ?k6 ?k7 ?k8 ?_; (case k1 => k_asm); (case k2 => k_asm); (case k3 => k_asm); (case k4 => k_asm); (case k5 => k_asm); (case k6 => exact ⟨rfl, rfl⟩); (case k7 => walk_at "dp"); (case k8 => walk_at "dp"))); intro _ _ _ _ _ _ _ _ _ _; refine RaiseOk.intro (by k_asm) (by k_asm) (by k_asm) (.head _) (exc74 _) ?_))
local macro_rules | `(tactic| walk_at "ENTER0") => `(tactic| (refine wpAny_call ?_; k_dflt (refine' code_def ?k1 ?k2 ?k3 ?k4 ?k5 ?kA ?kF ?kK ?k6 ?k7 ?k8 ?k9 ?kB ?_ ?c2 ?c3 ?c4 ?c5; (case kA => exact rfl); (case kF => exact And.right (by assumption)); (case kK => exact And.left (by assumption)); (case k1 => k_asm); (case k2 => k_asm); (case k3 => k_asm); (case k4 => k_asm); (case k5 => k_asm); (case k6 => k_is); (case k7 => k_is); (case k8 => ktr_room); (case k9 => first | exact BindsTo.of_eq rfl | exact binds_K (by k_in) rfl (by k_is) rfl rfl rfl); (case c5 => decide); (case kB => exact locs rfl); (case c2 => exact rfl); (case c3 => exact rfl); (case c4 => exact rfl); k_whole; intro g' L' h' FG' F' N' B' X' T'; (try dsimp only); (try k_fold))))
local macro_rules | `(tactic| walk_at "call ref") => `(tactic| ((with_reducible show wpAny _ _ (call (Value.ref 1714) _) _ _ _); (k_dflt (refine' dr_ok ?k1 ?k2 ?k3 ?k4 ?k5 ?k6 ?k7 ?k8 ?k9 ?ka ?kb ?_; (case k1 => k_asm); (case k2 => k_asm); (case k3 => k_asm); (case k4 => k_asm); (case k5 => k_asm); (case ka => assumption); (case kb => first | assumption | exact Or.inr rfl); (case k6 => exact ⟨rfl, rfl⟩); (case k7 => walk_at "dp"); (case k8 => walk_at "dp"); (case k9 => assumption))); intro _ _ _ _ _ _ _ _ _ _ _ _ _ _ _))
local macro_rules | `(tactic| walk_at "call ref") => `(tactic| ((with_reducible show wpAny _ _ (call (Value.ref 1714) _) _ _ _); (k_dflt (refine' dr_de ?k1 ?k2 ?k3 ?k4 ?k5 ?k6 ?k7 ?k8 ?k9 ?ka ?kb ?_; (case k1 => k_asm); (case k2 => k_asm); (case k3 => k_asm); (case k4 => k_asm); (case k5 => k_asm); (case ka => assumption); (case kb => with_reducible assumption); (case k6 => exact ⟨rfl, rfl⟩); (case k7 => walk_at "dp"); (case k8 => walk_at "dp"); (case k9 => assumption))); intro _ _ _ _ _ _ _ _ _))
local macro_rules | `(tactic| walk_at "compareOp Eq ref ref") => `(tactic| ((with_reducible show wpAny _ _ (compareOp CmpOp.Eq (Value.ref _) (Value.ref _)) _ _ _); k_dflt (refine' eq_ne_len ?k1 ?k2 ?k3 ?k4 ?k5 ?_; (case k1 => k_asm); (case k2 => k_mem); (case k3 => k_mem); (case k4 => simp; done); (case k5 => walk_at "dp"))))
local macro_rules | `(tactic| walk_at "lsz") => `(tactic| (rw [sizeLine_eq]; (try simp only [List.length_cons, List.length_append, List.length_nil, List.length_replicate]); omega))
local macro_rules | `(tactic| walk_at "subscriptTail") => `(tactic| ((with_reducible show wpAny _ _ (subscriptTail _ _ (Value.ref _) (Value.int _ _)) _ _ _); k_dflt (refine' menu_ledB (is := [1, 2, 0, 3, 55, 56, 300]) (lo := 0) (hi := 300) ?k1 ?k2 ?k3 ?k4 ?k5 ?k6 ?k7 ?_; (case k1 => k_asm); (case k2 => k_mem); (case k3 => exact .cons _ _ (.cons _ _ (.cons _ _ (.cons _ _ (.cons _ _ (.cons _ _ (.cons _ _ .nil))))))); (case k4 => walk_at "mb"); (case k5 => walk_at "mb"); (case k6 => decide); (case k7 => decide)); intro _ _ _ _))
local macro_rules | `(tactic| walk_at "subscriptTail") => `(tactic| ((with_reducible show wpAny _ _ (subscriptTail _ _ (Value.ref _) (Value.int 0 _)) _ _ _); k_dflt (refine' item_led ?k1 ?k2 ?k3 ?k4 ?k5 ?_; (case k1 => k_asm); (case k2 => k_mem); (case k3 => first | decide | omega); (case k4 => first | decide | omega); (case k5 => first | rfl | assumption))))
local macro_rules | `(tactic| walk_at "subscriptTail") => `(tactic| ((with_reducible show wpAny _ _ (subscriptTail _ (Expr.Slice (some _) none none _) (Value.ref _) (Value.ref _)) _ _ _); k_dflt (refine' slice_from_led (s := ⟨_, _, _, _, _⟩) ?k1 ?k2 ?k3 ?k4 ?k5 ?_; (case k1 => k_asm); (case k2 => k_asm); (case k3 => k_mem); (case k4 => first | decide | omega); (case k5 => walk_at "lsz")); intro _ _ _ _ l1; (try k_lt l1)))
local macro_rules | `(tactic| walk_at "mb") => `(tactic| ((try simp only [List.length_cons, List.length_nil]); omega))
local macro_rules | `(tactic| walk_at "binaryOp Mult ref int") => `(tactic| ((with_reducible show wpAny _ _ (binaryOp Operator.Mult (Value.ref _) (Value.int _ _)) _ _ _); k_dflt (refine' mul1_led ?k1 ?k2 ?k3 ?k4 ?k5 ?_; (case k1 => k_asm); (case k2 => k_asm); (case k3 => k_mem); (case k4 => first | omega | (split <;> omega)); (case k5 => first | omega | (split <;> omega))); intro _ _ _ _ l1; (try k_lt l1)))
local macro_rules | `(tactic| walk_at "binaryOp Add ref ref") => `(tactic| ((with_reducible show wpAny _ _ (binaryOp Operator.Add (Value.ref _) (Value.ref _)) _ _ _); k_dflt (refine' add_led ?k1 ?k2 ?k3 ?k4 ?k5 ?_; (case k1 => k_asm); (case k2 => k_asm); (case k3 => k_mem); (case k4 => k_mem); (case k5 => walk_at "lsz")); intro _ _ _ _ l1; (try k_lt l1)))
local macro_rules | `(tactic| walk_at "bin") => `(tactic| (intro n hn; rcases List.mem_append.mp hn with hn | hn <;> (rw [(List.mem_replicate.mp hn).2]; omega)))
local macro_rules | `(tactic| walk_at "lt1") => `(tactic| first | assumption | exact of_allLt (by assumption) | exact of_allLt1 (by assumption) | exact of_allLt2 (by assumption) | exact of_allLt3 (by assumption) | exact lt4 (by assumption) | exact lt5 (by assumption) | exact lt6 (by assumption) | exact lt7 (by assumption) | exact lt8 (by assumption) | exact lt9 (by assumption) | exact lt10 (by assumption))
local macro_rules | `(tactic| walk_at "above") => `(tactic| (repeat (refine List.forall_mem_cons.mpr ⟨by walk_at "lt1", ?_⟩)); exact fun _ h => nomatch h)
local macro_rules | `(tactic| k_mem) => `(tactic| first | assumption | (refine mem_of ?_; ktr_member) | exact .tail _ (by assumption) | exact .tail _ (.tail _ (by assumption)))
local macro_rules | `(tactic| walk_at "itd") => `(tactic| ((try simp only [decide_eq_true_eq, beq_iff_eq, Bool.not_eq_true', decide_eq_false_iff_not, bne_iff_ne, ne_eq]); omega))
local macro_rules | `(tactic| walk_at "ite") => `(tactic| first | (rw [if_pos (by walk_at "itd")]) | (rw [if_neg (by walk_at "itd")]))
local macro_rules | `(tactic| walk_at "call type:bytes") => `(tactic| ((with_reducible show wpAny _ _ (call (Value.type "bytes") [Value.ref _]) _ _ _); k_dflt (refine' bytes_led ?k1 ?k2 ?k3 ?k4 ?k5 ?k6 ?k7 ?_; (case k1 => k_asm); (case k2 => k_asm); (case k3 => k_mem); (case k4 => exact .cons _ _ .nil); (case k5 => walk_at "bin1"); (case k6 => decide); (case k7 => rfl)); intro _ _ _ _ _))
local macro_rules | `(tactic| walk_at "bin1") => `(tactic| (intro n hn; rw [List.mem_singleton.mp hn]; omega))
section
variable {w : World} {p : Program} {loose : List Str} {mean : ExcName → Option Value} {mg mb : Str → Option Value} {dp un : Nat} {gd : Option (List Code)} {ev : Env} {outer : List Env} {A₀ : Around} {base h₀ : Heap} {L : Addr} {m : Str → Option Value} {news : List (Addr × Obj)} {s : Shared} {Q E : Value → Shared → Prop}
theorem lv_all : ∀ k : Nat, k ≤ 3 → LvSpec w k := by
  intro k
  induction k with
  | zero =>
    intro _ p loose mean mg mb dp un gd ev outer A₀ base h₀ L m news s Q E nl c t i ns vs B F X N T hk hd hu hnl hI hlen hi hret
    subst hi
    cases hI with
    | nil => exact lv_nil B F X N T hk hd hu hnl hret
    | cons n tn hI' =>
      rw [List.length_cons] at hlen
      by_cases h : n.fmod 7 < 4
      · exact lv_leaf B F X N T hk hd hu hnl hI' (by omega) hret (.inr (.inl ⟨h, rfl⟩))
      · exact lv_leaf B F X N T hk hd hu hnl hI' (by omega) hret (.inr (.inr ⟨h, rfl⟩))
  | succ k ih =>
    intro hk3 p loose mean mg mb dp un gd ev outer A₀ base h₀ L m news s Q E nl c t i ns vs B F X N T hk hd hu hnl hI hlen hi hret
    cases hI with
    | nil => subst hi; exact lv_nil B F X N T hk hd hu hnl hret
    | cons n tn hI' =>
      rw [List.length_cons] at hlen
      by_cases h : n.fmod 7 < 4
      · subst hi; exact lv_leaf B F X N T hk hd hu hnl hI' (by omega) hret (.inl ⟨h, Nat.succ_pos _⟩)
      · refine lv_row (ih (by omega)) B F X N T hk hd hu hnl hI' (by omega) hret h (by rw [hi]; rfl) (by omega) ?_
        match k, hk3 with
        | 0, _ => decide
        | 1, _ => decide
        | 2, _ => decide
        | k + 3, h => omega
/-- the k-th number of the script, or another -/
theorem lawat {scr : Addr} {vs : List Value} {is : List Int} {k : Nat} {d : Int} {t u : Tok}
    (B : Below A₀ base outer h₀) (F : Fr h₀ L s.heap m) (X : (K w.params).In h₀) (N : News h₀ L s.heap news) (T : Top p loose mean mg mb h₀) (hk : ev.scope.kind = .function ∧ ev.frame = some L)
    (hd : dp + 10 < recursionLimit) (hu : un + 40 < cLine) (hL : h₀.IsList scr vs.toArray) (hI : IntsAre vs is) (hlen : is.length ≤ 63)
    (hret : ∀ h' tk' tk, Fr h₀ L h' m → News h₀ L h' news → Q (.int (is.getD k d) tk) { s with heap := h', toks := tk' }) :
    wpAny (model pg w) (ktrE dp un gd ev outer) (call (.ref 1770) [.ref scr, .int k t, .int d u]) Q E s := by
  have hvl := IntsAre.length hI
  walk_at "ENTER0"
  rename_i g' L' h' FG F' N' B' X' T'
  have hL2 : g'.IsList scr vs.toArray := let ⟨o, ho, r⟩ := hL; ⟨o, FG.keep _ _ ho, r⟩
  k_steps
  · have hlt : k < is.length := by omega
    have e : is.getD k d = is.getD (Int.toNat (k : Int)) 0 := by
      rw [Int.toNat_natCast]
      simp only [List.getD_eq_getElem?_getD, List.getElem?_eq_getElem hlt, Option.getD_some]
    rw [← e]
    exact hret _ _ _ (by k_asm) (by k_asm)
  · have hge : is.length ≤ k := by omega
    have e : is.getD k d = d := by
      simp only [List.getD_eq_getElem?_getD, List.getElem?_eq_none hge, Option.getD_none]
    rw [e] at hret
    exact hret _ _ _ (by k_asm) (by k_asm)
end
end Mine
end

section
open PySem PySem.W PyProof.Rows PySem.Spec PySem.Calls Rlp
set_option Elab.async false
set_option maxRecDepth 100000
set_option maxHeartbeats 1500000
set_option linter.unusedVariables false
namespace Mine
theorem fillKM2 : (fun (_ : OpenLaw) (_ : Params → Frag) => True) PySem.Challenge.rw_bi0020_01 K := by
  k_fill
  trivial
local macro_rules | `(tactic| walk_at "ENTER0") => `(tactic| (refine wpAny_call ?_; k_dflt (refine' code_def ?k1 ?k2 ?k3 ?k4 ?k5 ?kA ?kF ?kK ?k6 ?k7 ?k8 ?k9 ?kB ?_ ?c2 ?c3 ?c4 ?c5; (case kA => exact rfl); (case kF => exact And.right (by assumption)); (case kK => exact And.left (by assumption)); (case k1 => k_asm); (case k2 => k_asm); (case k3 => k_asm); (case k4 => k_asm); (case k5 => k_asm); (case k6 => k_is); (case k7 => k_is); (case k8 => ktr_room); (case k9 => first | exact BindsTo.of_eq rfl | exact binds_K (by k_in) rfl (by k_is) rfl rfl rfl); (case c5 => decide); (case kB => exact locs rfl); (case c2 => exact rfl); (case c3 => exact rfl); (case c4 => exact rfl); k_whole; intro g' L' h' FG' F' N' B' X' T'; (try dsimp only); (try k_fold))))
local macro_rules | `(tactic| walk_at "ENTER") => `(tactic| (walk_at "ENTER0"; k_steps))
local macro_rules | `(tactic| walk_at "bsz") => `(tactic| ((try simp only [List.size_toArray, List.length_append, List.length_cons, List.length_nil, be_length, beK_length, slice_length]); omega))
local macro_rules | `(tactic| walk_at "call builtin:len") => `(tactic| ((with_reducible show wpAny _ _ (call (Value.builtin _) [Value.bytes (List.toArray _) _]) _ _ _); refine len_bytes (by walk_at "bsz") ?_; (try simp only [List.size_toArray, be_length])))
local macro_rules | `(tactic| walk_at "binaryOp Add bytes bytes") => `(tactic| ((with_reducible show wpAny _ _ (binaryOp Operator.Add (Value.bytes (List.toArray _) _) (Value.bytes (List.toArray _) _)) _ _ _); refine KBy.add_bytes (by walk_at "bsz") ?_; intro _ _; (try simp only [List.append_toArray, List.cons_append, List.nil_append])))
local macro_rules | `(tactic| walk_at "call ref") => `(tactic| ((with_reducible show wpAny _ _ (call (Value.ref 1464) _) _ _ _); (k_dflt (refine' b2i ?k1 ?k2 ?k3 ?k4 ?k5 ?k6 ?k7 ?k8 ?k9 ?_; (case k1 => k_asm); (case k2 => k_asm); (case k3 => k_asm); (case k4 => k_asm); (case k5 => k_asm); (case k6 => exact ⟨rfl, rfl⟩); (case k7 => walk_at "dp"); (case k8 => walk_at "dp"); (case k9 => walk_at "bsz"))); intro _ _ _ _ _))
local macro_rules | `(tactic| walk_at "call ref") => `(tactic| ((with_reducible show wpAny _ _ (call (Value.ref 1736) _) _ _ _); (k_dflt (refine' clp_ok ?k1 ?k2 ?k3 ?k4 ?k5 ?k6 ?k7 ?k8 ?k9 ?k0 ?_; (case k1 => k_asm); (case k2 => k_asm); (case k3 => k_asm); (case k4 => k_asm); (case k5 => k_asm); (case k6 => exact ⟨rfl, rfl⟩); (case k7 => walk_at "dp"); (case k8 => walk_at "dp"); (case k9 => walk_at "bsz"); (case k0 => assumption))); intro _ _ _ _ _ _ _ _ _ _))
local macro_rules | `(tactic| walk_at "call ref") => `(tactic| ((with_reducible show wpAny _ _ (call (Value.ref 1457) _) _ _ _); (k_dflt (refine' is_b ?k1 ?k2 ?k3 ?k4 ?k5 ?k6 ?k7 ?k8 ?_; (case k1 => k_asm); (case k2 => k_asm); (case k3 => k_asm); (case k4 => k_asm); (case k5 => k_asm); (case k6 => exact ⟨rfl, rfl⟩); (case k7 => walk_at "dp"); (case k8 => walk_at "dp"))); intro _ _ _ _))
local macro_rules | `(tactic| walk_at "call ref") => `(tactic| ((with_reducible show wpAny _ _ (call (Value.ref 74) [_, _]) _ _ _); (k_dflt (refine' mk_DE ?k1 ?k2 ?k3 ?k4 ?k5 ?k6 ?k7 ?k8 ?_; (case k1 => k_asm); (case k2 => k_asm); (case k3 => k_asm); (case k4 => k_asm); (case k5 => k_asm); (case k6 => exact ⟨rfl, rfl⟩); (case k7 => walk_at "dp"); (case k8 => walk_at "dp"))); intro _ _ _ _ _ _ _ _ _ _; refine RaiseOk.intro (by k_asm) (by k_asm) (by k_asm) (.head _) (exc74 _) ?_))
local macro_rules | `(tactic| walk_at "ENTER0") => `(tactic| (refine wpAny_call ?_; k_dflt (refine' code_def ?k1 ?k2 ?k3 ?k4 ?k5 ?kA ?kF ?kK ?k6 ?k7 ?k8 ?k9 ?kB ?_ ?c2 ?c3 ?c4 ?c5; (case kA => exact rfl); (case kF => exact And.right (by assumption)); (case kK => exact And.left (by assumption)); (case k1 => k_asm); (case k2 => k_asm); (case k3 => k_asm); (case k4 => k_asm); (case k5 => k_asm); (case k6 => k_is); (case k7 => k_is); (case k8 => ktr_room); (case k9 => first | exact BindsTo.of_eq rfl | exact binds_K (by k_in) rfl (by k_is) rfl rfl rfl); (case c5 => decide); (case kB => exact locs rfl); (case c2 => exact rfl); (case c3 => exact rfl); (case c4 => exact rfl); k_whole; intro g' L' h' FG' F' N' B' X' T'; (try dsimp only); (try k_fold))))
local macro_rules | `(tactic| walk_at "call ref") => `(tactic| ((with_reducible show wpAny _ _ (call (Value.ref 1714) _) _ _ _); (k_dflt (refine' dr_ok ?k1 ?k2 ?k3 ?k4 ?k5 ?k6 ?k7 ?k8 ?k9 ?ka ?kb ?_; (case k1 => k_asm); (case k2 => k_asm); (case k3 => k_asm); (case k4 => k_asm); (case k5 => k_asm); (case ka => assumption); (case kb => first | assumption | exact Or.inr rfl); (case k6 => exact ⟨rfl, rfl⟩); (case k7 => walk_at "dp"); (case k8 => walk_at "dp"); (case k9 => assumption))); intro _ _ _ _ _ _ _ _ _ _ _ _ _ _ _))
local macro_rules | `(tactic| walk_at "call ref") => `(tactic| ((with_reducible show wpAny _ _ (call (Value.ref 1714) _) _ _ _); (k_dflt (refine' dr_de ?k1 ?k2 ?k3 ?k4 ?k5 ?k6 ?k7 ?k8 ?k9 ?ka ?kb ?_; (case k1 => k_asm); (case k2 => k_asm); (case k3 => k_asm); (case k4 => k_asm); (case k5 => k_asm); (case ka => assumption); (case kb => with_reducible assumption); (case k6 => exact ⟨rfl, rfl⟩); (case k7 => walk_at "dp"); (case k8 => walk_at "dp"); (case k9 => assumption))); intro _ _ _ _ _ _ _ _ _))
local macro_rules | `(tactic| walk_at "compareOp Eq ref ref") => `(tactic| ((with_reducible show wpAny _ _ (compareOp CmpOp.Eq (Value.ref _) (Value.ref _)) _ _ _); k_dflt (refine' eq_ne_len ?k1 ?k2 ?k3 ?k4 ?k5 ?_; (case k1 => k_asm); (case k2 => k_mem); (case k3 => k_mem); (case k4 => simp; done); (case k5 => walk_at "dp"))))
local macro_rules | `(tactic| walk_at "lsz") => `(tactic| (rw [sizeLine_eq]; (try simp only [List.length_cons, List.length_append, List.length_nil, List.length_replicate]); omega))
local macro_rules | `(tactic| walk_at "mb") => `(tactic| ((try simp only [List.length_cons, List.length_nil]); omega))
local macro_rules | `(tactic| walk_at "binaryOp Mult ref int") => `(tactic| ((with_reducible show wpAny _ _ (binaryOp Operator.Mult (Value.ref _) (Value.int _ _)) _ _ _); k_dflt (refine' mul1_led ?k1 ?k2 ?k3 ?k4 ?k5 ?_; (case k1 => k_asm); (case k2 => k_asm); (case k3 => k_mem); (case k4 => first | omega | (split <;> omega)); (case k5 => first | omega | (split <;> omega))); intro _ _ _ _ l1; (try k_lt l1)))
local macro_rules | `(tactic| walk_at "binaryOp Add ref ref") => `(tactic| ((with_reducible show wpAny _ _ (binaryOp Operator.Add (Value.ref _) (Value.ref _)) _ _ _); k_dflt (refine' add_led ?k1 ?k2 ?k3 ?k4 ?k5 ?_; (case k1 => k_asm); (case k2 => k_asm); (case k3 => k_mem); (case k4 => k_mem); (case k5 => walk_at "lsz")); intro _ _ _ _ l1; (try k_lt l1)))
local macro_rules | `(tactic| walk_at "bin") => `(tactic| (intro n hn; rcases List.mem_append.mp hn with hn | hn <;> (rw [(List.mem_replicate.mp hn).2]; omega)))
local macro_rules | `(tactic| walk_at "lt1") => `(tactic| first | assumption | exact of_allLt (by assumption) | exact of_allLt1 (by assumption) | exact of_allLt2 (by assumption) | exact of_allLt3 (by assumption) | exact lt4 (by assumption) | exact lt5 (by assumption) | exact lt6 (by assumption) | exact lt7 (by assumption) | exact lt8 (by assumption) | exact lt9 (by assumption) | exact lt10 (by assumption))
local macro_rules | `(tactic| walk_at "above") => `(tactic| (repeat (refine List.forall_mem_cons.mpr ⟨by walk_at "lt1", ?_⟩)); exact fun _ h => nomatch h)
local macro_rules | `(tactic| walk_at "GR1") => `(tactic| (fail_if_success (with_reducible show wpAny _ _ (execs (Stmt.Assign [Expr.Name ("values" : Str) _] _ _ :: _) _) _ _ _)))
local macro_rules | `(tactic| walk_at "UP1") => `(tactic| repeat' (first | (k_unfold; (try dsimp only)) | (k_end; wrow_close) | (walk_at "GR1"; walk1) | (dsimp only; walk_at "GR1"; walk1) | (walk_at "GR1"; leave1; (try dsimp only)) | fail "no step"))
local macro_rules | `(tactic| k_mem) => `(tactic| (refine mem_of ?_; ktr_member))
local macro_rules | `(tactic| walk_at "dp") => `(tactic| (k_dflt ((try simp only [depth_deeper, depth_caller, units_in1, units_deeper, units_caller]); decide)))
local macro_rules | `(tactic| walk_at "itd") => `(tactic| ((try simp only [decide_eq_true_eq, beq_iff_eq, Bool.not_eq_true', decide_eq_false_iff_not, bne_iff_ne, ne_eq, List.length_append, List.length_cons, List.length_nil]); omega))
local macro_rules | `(tactic| walk_at "ite") => `(tactic| first | (rw [if_pos (by walk_at "itd")]) | (rw [if_neg (by walk_at "itd")]))
local macro_rules | `(tactic| walk_at "GR") => `(tactic| ((fail_if_success (with_reducible show wpAny _ _ (call (Value.ref 1777) _) _ _ _)); (fail_if_success (with_reducible show wpAny _ _ (pyIter (Value.ref _)) (fun it s₂ => LoopAtV _ _ _ _ _ _ _ _ _ it s₂) _ _)); (fail_if_success (with_reducible show UnrEnd _ _ _ _ _ _ _))))
local macro_rules | `(tactic| walk_at "UPR") => `(tactic| repeat' (first | (k_unfold; (try dsimp only)) | (k_end; wrow_close) | (walk_at "GR"; walk1) | (dsimp only; walk_at "GR"; walk1) | (walk_at "GR"; leave1; (try dsimp only)) | fail "no step"))
local macro_rules | `(tactic| walk_at "call type:range") => `(tactic| ((with_reducible show wpAny _ _ (call (Value.type "range") [Value.int _ _]) _ _ _); (k_dflt (refine' range1_rows ?k1 ?k2 ?_; (case k1 => k_asm); (case k2 => k_asm))); intro _ _ _ _ _ rg9 _ _ _))
local macro_rules | `(tactic| walk_at "call ref") => `(tactic| ((with_reducible show wpAny _ _ (call (Value.ref 1770) [Value.ref _, Value.int 0 _, Value.int _ _]) _ _ _); (fail_if_success skip); (k_dflt (refine' lawat (k := 0) ?k1 ?k2 ?k3 ?k4 ?k5 ?k6 ?k7 ?k8 ?k9 ?ka ?kb ?_; (case k1 => k_asm); (case k2 => k_asm); (case k3 => k_asm); (case k4 => k_asm); (case k5 => k_asm); (case k6 => exact ⟨rfl, rfl⟩); (case k7 => walk_at "dp"); (case k8 => walk_at "dp"); (case k9 => assumption); (case ka => assumption); (case kb => omega))); intro _ _ _ _ _))
local macro_rules | `(tactic| walk_at "GM") => `(tactic| ((fail_if_success (with_reducible show wpAny _ _ (execs (Stmt.Assign [Expr.Name ("value" : Str) _] _ _ :: _) _) _ _ _)); (fail_if_success (with_reducible show wpAny _ _ (call (Value.ref 1784) _ _) _ _ _)); (fail_if_success (with_reducible show wpAny _ _ (call (Value.ref 1722) _ _) _ _ _)); (fail_if_success (with_reducible show wpAny _ _ (compareOp CmpOp.NotEq (Value.ref _) (Value.ref _)) _ _ _)); ))
local macro_rules | `(tactic| walk_at "UPM") => `(tactic| repeat' (first | (k_unfold; (try dsimp only)) | (k_end; wrow_close) | (walk_at "GM"; walk1) | (dsimp only; walk_at "GM"; walk1) | (walk_at "GM"; leave1; (try dsimp only)) | fail "no step"))
local macro_rules | `(tactic| walk_at "subscriptTail") => `(tactic| ((with_reducible show wpAny _ _ (subscriptTail _ _ (Value.ref _) (Value.int 0 _)) _ _ _); k_dflt (refine' item_led (k := 0) ?k1 ?k2 ?k3 ?k4 ?k5 ?_; (case k1 => k_asm); (case k2 => k_mem); (case k3 => decide); (case k4 => decide); (case k5 => rfl))))
theorem News.pull {h₀ h : Heap} {L : Addr} {A Z Y : List (Addr × Obj)} (N : News h₀ L h (Z ++ (A ++ Y))) : News h₀ L h (A ++ (Z ++ Y)) := News.sub N fun p hp => by
  rcases List.mem_append.mp hp with hp | hp
  · exact List.mem_append_right _ (List.mem_append_left _ hp)
  rcases List.mem_append.mp hp with hp | hp
  · exact List.mem_append_left _ hp
  · exact List.mem_append_right _ (List.mem_append_right _ hp)
theorem News.front {h₀ h : Heap} {L : Addr} {l : List (Addr × Obj)} {x : Addr × Obj} (N : News h₀ L h l) (hx : x ∈ l) : News h₀ L h (x :: l) := News.sub N fun p hp => by
  rcases List.mem_cons.mp hp with rfl | hp
  · exact hx
  · exact hp
section
variable {w : World} {p : Program} {loose : List Str} {mean : ExcName → Option Value} {mg mb : Str → Option Value} {g : Heap} {L fa : Addr} {cd : Value} {m : Str → Option Value} {s : Shared} {Q : Flow → Shared → Prop} {E : Value → Shared → Prop}
theorem ms2 {scr : Addr} {x : List UInt8} {t : Tok}
    (K0 : Below callerA g [] g) (X : (K w.params).In g) (T : Top p loose mean mg mb g)
    (F : Fr g L s.heap m) (hm : m (Str.ofString "script") = some (.ref scr)) (hm2 : m (Str.ofString "drawn") = some (.bytes x.toArray t)) (hx : x.length ≤ 9) (N : News g L s.heap [(1702, tabObj #[])]) (h17 : 1702 < L)
    (hE : PassesOwn (model rr.prog w) (callerA.deeper (lawE L fa cd)) (lawE L fa cd) E)
    (hnext : ∀ m' h' gs tk ps, Fr g L h' m' → m' (Str.ofString "script") = some (.ref scr) → News g L h' [(1702, tabObj ps)] → GC s.gens gs → TriplesOk ps.toList →
      wpAny (model rr.prog w) (callerA.deeper (lawE L fa cd)) (execs (dL.body.drop 4) (lawE L fa cd)) Q E { s with heap := h', gens := gs, toks := tk }) :
    wpAny (model rr.prog w) (callerA.deeper (lawE L fa cd)) (execs (dL.body.drop 2) (lawE L fa cd)) Q E s := by
  rw [kst_name (m := m) (ps := [(Str.ofString "script", .ref scr), (Str.ofString "drawn", .bytes x.toArray t)]) (fun q hq => by
    rcases List.mem_cons.mp hq with rfl | hq
    · exact hm
    · rw [List.mem_singleton.mp hq]; exact hm2)] at F
  walk_at "UPM"
  rcases refu_short (x := x) (dep := 10) (by omega) with ⟨d, r, hi, he⟩ | hr
  · k_dflt (refine' lr_ok (dep := 10) ?k1 ?k2 ?k3 ?k4 ?k5 ?k6 ?k7 ?k8 ?k9 hi ?_; (case k1 => k_asm); (case k2 => k_asm); (case k3 => k_asm); (case k4 => k_asm); (case k5 => k_asm); (case k6 => exact ⟨rfl, rfl⟩); (case k7 => walk_at "dp"); (case k8 => walk_at "dp"); (case k9 => omega))
    intro h1 tk1 Rl n v Z F1 N1 hZ hR hv
    have hz17 : ∀ p ∈ Z, p.1 ≠ 1702 := fun p hp => Nat.ne_of_gt (hZ p hp (1702, _) (.head _))
    clear hi
    subst he
    walk_at "UPM"
    (try dsimp only)
    rename News g L _ _ => N2
    refine ne_rows (ds := [d]) (es := []) N2 (.tail _ (List.mem_append_left _ hR)) (.head _) (DsIn.mono (fun p hp => .tail _ (List.mem_append_left _ hp)) (.cons hv .nil)) .nil ?_ ?_
    · have e : cLine = 9900 := rfl
      have := depth_lt d
      simp only [units_deeper, units_caller, depths]
      omega
    rw [show (!deqs [d] []) = true from rfl]
    have N3 := News.front N2 (.tail _ (List.mem_append_left _ hR))
    clear N2
    walk_at "UPM"
    k_dflt (refine' en_raw (k := 12) (ps := #[]) (d := d) (news := Z) ?k1 ?k2 ?k3 (News.sub N3 fun q hq => ?_) ?k5 ?k6 ?k7 ?k8 ?_ hz17 hv ?_ ?_ ?_; (case k1 => k_asm); (case k2 => k_asm); (case k3 => k_asm); (case k5 => k_asm); (case k6 => exact ⟨rfl, rfl⟩); (case k7 => walk_at "dp"); (case k8 => walk_at "dp"))
    · rcases List.mem_cons.mp hq with rfl | hq
      · exact .tail _ (.tail _ (List.mem_append_right _ (.head _)))
      · exact .tail _ (.tail _ (List.mem_append_left _ hq))
    · exact trivial
    · have := depth_lt d
      omega
    · omega
    intro h8 gs8 tk8 t8 ps8 F8 N8 hgc8 htr8
    clear N3
    walk_at "UPM"
    · rename (_ != _) = true => hb
      exact absurd hb (by simp)
    · dsimp only
      exact hnext _ _ _ _ ps8 F8 rfl (News.sub N8 fun q hq => by rw [List.mem_singleton.mp hq]; exact .head _) hgc8 htr8
  · k_dflt (refine' lr_no X T ?k1 ?k2 ?k3 ?k4 ?k5 ?k6 ?k7 ?k8 ?k9 hr ?_; (case k1 => k_asm); (case k2 => k_asm); (case k3 => k_asm); (case k4 => k_asm); (case k5 => k_asm); (case k6 => exact ⟨rfl, rfl⟩); (case k7 => walk_at "dp"); (case k8 => walk_at "dp"); (case k9 => omega))
    intro h1 tk1 Rl F1 N1 hZ
    walk_at "UPM"
    (try dsimp only)
    rename News g L _ _ => N2
    refine ne_rows (ds := []) (es := []) N2 (.tail _ (.head _)) (.head _) .nil .nil ?_ ?_
    · have e : cLine = 9900 := rfl
      simp only [units_deeper, units_caller, depths]
      omega
    rw [show (!deqs [] []) = false from rfl]
    walk_at "UPM"
    dsimp only
    rename Fr g L _ _ => F2
    exact hnext _ _ _ _ #[] F2 rfl (News.sub N2 fun q hq => by rw [List.mem_singleton.mp hq]; exact .tail _ (.tail _ (.head _))) (GC.refl _) trivial
end
end Mine
end

section
open PySem PySem.W PyProof.Rows PySem.Spec PySem.Calls Rlp
set_option Elab.async false
set_option maxRecDepth 100000
set_option maxHeartbeats 1500000
set_option linter.unusedVariables false
namespace Mine
theorem fillKM4 : (fun (_ : OpenLaw) (_ : Params → Frag) => True) PySem.Challenge.rw_bi0020_01 K := by
  k_fill
  trivial
local macro_rules | `(tactic| walk_at "ENTER0") => `(tactic| (refine wpAny_call ?_; k_dflt (refine' code_def ?k1 ?k2 ?k3 ?k4 ?k5 ?kA ?kF ?kK ?k6 ?k7 ?k8 ?k9 ?kB ?_ ?c2 ?c3 ?c4 ?c5; (case kA => exact rfl); (case kF => exact And.right (by assumption)); (case kK => exact And.left (by assumption)); (case k1 => k_asm); (case k2 => k_asm); (case k3 => k_asm); (case k4 => k_asm); (case k5 => k_asm); (case k6 => k_is); (case k7 => k_is); (case k8 => ktr_room); (case k9 => first | exact BindsTo.of_eq rfl | exact binds_K (by k_in) rfl (by k_is) rfl rfl rfl); (case c5 => decide); (case kB => exact locs rfl); (case c2 => exact rfl); (case c3 => exact rfl); (case c4 => exact rfl); k_whole; intro g' L' h' FG' F' N' B' X' T'; (try dsimp only); (try k_fold))))
local macro_rules | `(tactic| walk_at "ENTER") => `(tactic| (walk_at "ENTER0"; k_steps))
local macro_rules | `(tactic| walk_at "bsz") => `(tactic| ((try simp only [List.size_toArray, List.length_append, List.length_cons, List.length_nil, be_length, beK_length, slice_length]); omega))
local macro_rules | `(tactic| walk_at "call builtin:len") => `(tactic| ((with_reducible show wpAny _ _ (call (Value.builtin _) [Value.bytes (List.toArray _) _]) _ _ _); refine len_bytes (by walk_at "bsz") ?_; (try simp only [List.size_toArray, be_length])))
local macro_rules | `(tactic| walk_at "binaryOp Add bytes bytes") => `(tactic| ((with_reducible show wpAny _ _ (binaryOp Operator.Add (Value.bytes (List.toArray _) _) (Value.bytes (List.toArray _) _)) _ _ _); refine KBy.add_bytes (by walk_at "bsz") ?_; intro _ _; (try simp only [List.append_toArray, List.cons_append, List.nil_append])))
local macro_rules | `(tactic| walk_at "call ref") => `(tactic| ((with_reducible show wpAny _ _ (call (Value.ref 1464) _) _ _ _); (k_dflt (refine' b2i ?k1 ?k2 ?k3 ?k4 ?k5 ?k6 ?k7 ?k8 ?k9 ?_; (case k1 => k_asm); (case k2 => k_asm); (case k3 => k_asm); (case k4 => k_asm); (case k5 => k_asm); (case k6 => exact ⟨rfl, rfl⟩); (case k7 => walk_at "dp"); (case k8 => walk_at "dp"); (case k9 => walk_at "bsz"))); intro _ _ _ _ _))
local macro_rules | `(tactic| walk_at "call ref") => `(tactic| ((with_reducible show wpAny _ _ (call (Value.ref 1736) _) _ _ _); (k_dflt (refine' clp_ok ?k1 ?k2 ?k3 ?k4 ?k5 ?k6 ?k7 ?k8 ?k9 ?k0 ?_; (case k1 => k_asm); (case k2 => k_asm); (case k3 => k_asm); (case k4 => k_asm); (case k5 => k_asm); (case k6 => exact ⟨rfl, rfl⟩); (case k7 => walk_at "dp"); (case k8 => walk_at "dp"); (case k9 => walk_at "bsz"); (case k0 => assumption))); intro _ _ _ _ _ _ _ _ _ _))
local macro_rules | `(tactic| walk_at "call ref") => `(tactic| ((with_reducible show wpAny _ _ (call (Value.ref 1457) _) _ _ _); (k_dflt (refine' is_b ?k1 ?k2 ?k3 ?k4 ?k5 ?k6 ?k7 ?k8 ?_; (case k1 => k_asm); (case k2 => k_asm); (case k3 => k_asm); (case k4 => k_asm); (case k5 => k_asm); (case k6 => exact ⟨rfl, rfl⟩); (case k7 => walk_at "dp"); (case k8 => walk_at "dp"))); intro _ _ _ _))
local macro_rules | `(tactic| walk_at "call ref") => `(tactic| ((with_reducible show wpAny _ _ (call (Value.ref 74) [_, _]) _ _ _); (k_dflt (refine' mk_DE ?k1 ?k2 ?k3 ?k4 ?k5 ?k6 ?k7 ?k8 ?_; (case k1 => k_asm); (case k2 => k_asm); (case k3 => k_asm); (case k4 => k_asm); (case k5 => k_asm); (case k6 => exact ⟨rfl, rfl⟩); (case k7 => walk_at "dp"); (case k8 => walk_at "dp"))); intro _ _ _ _ _ _ _ _ _ _; refine RaiseOk.intro (by k_asm) (by k_asm) (by k_asm) (.head _) (exc74 _) ?_))
local macro_rules | `(tactic| walk_at "ENTER0") => `(tactic| (refine wpAny_call ?_; k_dflt (refine' code_def ?k1 ?k2 ?k3 ?k4 ?k5 ?kA ?kF ?kK ?k6 ?k7 ?k8 ?k9 ?kB ?_ ?c2 ?c3 ?c4 ?c5; (case kA => exact rfl); (case kF => exact And.right (by assumption)); (case kK => exact And.left (by assumption)); (case k1 => k_asm); (case k2 => k_asm); (case k3 => k_asm); (case k4 => k_asm); (case k5 => k_asm); (case k6 => k_is); (case k7 => k_is); (case k8 => ktr_room); (case k9 => first | exact BindsTo.of_eq rfl | exact binds_K (by k_in) rfl (by k_is) rfl rfl rfl); (case c5 => decide); (case kB => exact locs rfl); (case c2 => exact rfl); (case c3 => exact rfl); (case c4 => exact rfl); k_whole; intro g' L' h' FG' F' N' B' X' T'; (try dsimp only); (try k_fold))))
local macro_rules | `(tactic| walk_at "call ref") => `(tactic| ((with_reducible show wpAny _ _ (call (Value.ref 1714) _) _ _ _); (k_dflt (refine' dr_ok ?k1 ?k2 ?k3 ?k4 ?k5 ?k6 ?k7 ?k8 ?k9 ?ka ?kb ?_; (case k1 => k_asm); (case k2 => k_asm); (case k3 => k_asm); (case k4 => k_asm); (case k5 => k_asm); (case ka => assumption); (case kb => first | assumption | exact Or.inr rfl); (case k6 => exact ⟨rfl, rfl⟩); (case k7 => walk_at "dp"); (case k8 => walk_at "dp"); (case k9 => assumption))); intro _ _ _ _ _ _ _ _ _ _ _ _ _ _ _))
local macro_rules | `(tactic| walk_at "call ref") => `(tactic| ((with_reducible show wpAny _ _ (call (Value.ref 1714) _) _ _ _); (k_dflt (refine' dr_de ?k1 ?k2 ?k3 ?k4 ?k5 ?k6 ?k7 ?k8 ?k9 ?ka ?kb ?_; (case k1 => k_asm); (case k2 => k_asm); (case k3 => k_asm); (case k4 => k_asm); (case k5 => k_asm); (case ka => assumption); (case kb => with_reducible assumption); (case k6 => exact ⟨rfl, rfl⟩); (case k7 => walk_at "dp"); (case k8 => walk_at "dp"); (case k9 => assumption))); intro _ _ _ _ _ _ _ _ _))
local macro_rules | `(tactic| walk_at "compareOp Eq ref ref") => `(tactic| ((with_reducible show wpAny _ _ (compareOp CmpOp.Eq (Value.ref _) (Value.ref _)) _ _ _); k_dflt (refine' eq_ne_len ?k1 ?k2 ?k3 ?k4 ?k5 ?_; (case k1 => k_asm); (case k2 => k_mem); (case k3 => k_mem); (case k4 => simp; done); (case k5 => walk_at "dp"))))
local macro_rules | `(tactic| walk_at "lsz") => `(tactic| (rw [sizeLine_eq]; (try simp only [List.length_cons, List.length_append, List.length_nil, List.length_replicate]); omega))
local macro_rules | `(tactic| walk_at "mb") => `(tactic| ((try simp only [List.length_cons, List.length_nil]); omega))
local macro_rules | `(tactic| walk_at "binaryOp Mult ref int") => `(tactic| ((with_reducible show wpAny _ _ (binaryOp Operator.Mult (Value.ref _) (Value.int _ _)) _ _ _); k_dflt (refine' mul1_led ?k1 ?k2 ?k3 ?k4 ?k5 ?_; (case k1 => k_asm); (case k2 => k_asm); (case k3 => k_mem); (case k4 => first | omega | (split <;> omega)); (case k5 => first | omega | (split <;> omega))); intro _ _ _ _ l1; (try k_lt l1)))
local macro_rules | `(tactic| walk_at "binaryOp Add ref ref") => `(tactic| ((with_reducible show wpAny _ _ (binaryOp Operator.Add (Value.ref _) (Value.ref _)) _ _ _); k_dflt (refine' add_led ?k1 ?k2 ?k3 ?k4 ?k5 ?_; (case k1 => k_asm); (case k2 => k_asm); (case k3 => k_mem); (case k4 => k_mem); (case k5 => walk_at "lsz")); intro _ _ _ _ l1; (try k_lt l1)))
local macro_rules | `(tactic| walk_at "bin") => `(tactic| (intro n hn; rcases List.mem_append.mp hn with hn | hn <;> (rw [(List.mem_replicate.mp hn).2]; omega)))
local macro_rules | `(tactic| walk_at "lt1") => `(tactic| first | assumption | exact of_allLt (by assumption) | exact of_allLt1 (by assumption) | exact of_allLt2 (by assumption) | exact of_allLt3 (by assumption) | exact lt4 (by assumption) | exact lt5 (by assumption) | exact lt6 (by assumption) | exact lt7 (by assumption) | exact lt8 (by assumption) | exact lt9 (by assumption) | exact lt10 (by assumption))
local macro_rules | `(tactic| walk_at "above") => `(tactic| (repeat (refine List.forall_mem_cons.mpr ⟨by walk_at "lt1", ?_⟩)); exact fun _ h => nomatch h)
local macro_rules | `(tactic| walk_at "GR1") => `(tactic| (fail_if_success (with_reducible show wpAny _ _ (execs (Stmt.Assign [Expr.Name ("values" : Str) _] _ _ :: _) _) _ _ _)))
local macro_rules | `(tactic| walk_at "UP1") => `(tactic| repeat' (first | (k_unfold; (try dsimp only)) | (k_end; wrow_close) | (walk_at "GR1"; walk1) | (dsimp only; walk_at "GR1"; walk1) | (walk_at "GR1"; leave1; (try dsimp only)) | fail "no step"))
local macro_rules | `(tactic| k_mem) => `(tactic| (refine mem_of ?_; ktr_member))
local macro_rules | `(tactic| walk_at "dp") => `(tactic| (k_dflt ((try simp only [depth_deeper, depth_caller, units_in1, units_deeper, units_caller]); decide)))
local macro_rules | `(tactic| walk_at "itd") => `(tactic| ((try simp only [decide_eq_true_eq, beq_iff_eq, Bool.not_eq_true', decide_eq_false_iff_not, bne_iff_ne, ne_eq, List.length_append, List.length_cons, List.length_nil]); omega))
local macro_rules | `(tactic| walk_at "ite") => `(tactic| first | (rw [if_pos (by walk_at "itd")]) | (rw [if_neg (by walk_at "itd")]))
local macro_rules | `(tactic| walk_at "GR") => `(tactic| ((fail_if_success (with_reducible show wpAny _ _ (call (Value.ref 1777) _) _ _ _)); (fail_if_success (with_reducible show wpAny _ _ (pyIter (Value.ref _)) (fun it s₂ => LoopAtV _ _ _ _ _ _ _ _ _ it s₂) _ _)); (fail_if_success (with_reducible show UnrEnd _ _ _ _ _ _ _))))
local macro_rules | `(tactic| walk_at "UPR") => `(tactic| repeat' (first | (k_unfold; (try dsimp only)) | (k_end; wrow_close) | (walk_at "GR"; walk1) | (dsimp only; walk_at "GR"; walk1) | (walk_at "GR"; leave1; (try dsimp only)) | fail "no step"))
local macro_rules | `(tactic| walk_at "call type:range") => `(tactic| ((with_reducible show wpAny _ _ (call (Value.type "range") [Value.int _ _]) _ _ _); (k_dflt (refine' range1_rows ?k1 ?k2 ?_; (case k1 => k_asm); (case k2 => k_asm))); intro _ _ _ _ _ rg9 _ _ _))
local macro_rules | `(tactic| walk_at "call ref") => `(tactic| ((with_reducible show wpAny _ _ (call (Value.ref 1770) [Value.ref _, Value.int 0 _, Value.int _ _]) _ _ _); (fail_if_success skip); (k_dflt (refine' lawat (k := 0) ?k1 ?k2 ?k3 ?k4 ?k5 ?k6 ?k7 ?k8 ?k9 ?ka ?kb ?_; (case k1 => k_asm); (case k2 => k_asm); (case k3 => k_asm); (case k4 => k_asm); (case k5 => k_asm); (case k6 => exact ⟨rfl, rfl⟩); (case k7 => walk_at "dp"); (case k8 => walk_at "dp"); (case k9 => assumption); (case ka => assumption); (case kb => omega))); intro _ _ _ _ _))
local macro_rules | `(tactic| walk_at "GM") => `(tactic| ((fail_if_success (with_reducible show wpAny _ _ (execs (Stmt.Assign [Expr.Name ("made" : Str) _] _ _ :: _) _) _ _ _)); (fail_if_success (with_reducible show wpAny _ _ (call (Value.ref 1777) _ _) _ _ _)); (fail_if_success (with_reducible show wpAny _ _ (call (Value.ref 1722) _ _) _ _ _)); ))
local macro_rules | `(tactic| walk_at "UPM") => `(tactic| repeat' (first | (k_unfold; (try dsimp only)) | (k_end; wrow_close) | (walk_at "GM"; walk1) | (dsimp only; walk_at "GM"; walk1) | (walk_at "GM"; leave1; (try dsimp only)) | fail "no step"))
local macro_rules | `(tactic| walk_at "GN") => `(tactic| ((fail_if_success (with_reducible show wpAny _ _ (call (Value.ref 1722) _ _) _ _ _)); (fail_if_success (with_reducible show wpAny _ _ (execs (Stmt.If _ _ _ _ :: _) _) _ _ _)); ))
local macro_rules | `(tactic| walk_at "UPN") => `(tactic| repeat' (first | (k_unfold; (try dsimp only)) | (k_end; wrow_close) | (walk_at "GN"; walk1) | (dsimp only; walk_at "GN"; walk1) | (walk_at "GN"; leave1; (try dsimp only)) | fail "no step"))
section
variable {w : World} {p : Program} {loose : List Str} {mean : ExcName → Option Value} {mg mb : Str → Option Value} {g : Heap} {L fa : Addr} {cd : Value} {m : Str → Option Value} {s : Shared} {Q : Flow → Shared → Prop} {E : Value → Shared → Prop}
theorem ms4 {scr : Addr} {vs : List Value} {is : List Int} {ps : Array Value}
    (K0 : Below callerA g [] g) (X : (K w.params).In g) (T : Top p loose mean mg mb g) (hL : g.IsList scr vs.toArray) (hI : IntsAre vs is) (hlen : is.length ≤ 63)
    (F : Fr g L s.heap m) (hm : m (Str.ofString "script") = some (.ref scr)) (N : News g L s.heap [(1702, tabObj ps)]) (h17 : 1702 < L)
    (hE : PassesOwn (model rr.prog w) (callerA.deeper (lawE L fa cd)) (lawE L fa cd) E)
    (hnext : ∀ m' h' tk v d Z, Fr g L h' m' → m' (Str.ofString "script") = some (.ref scr) → m' (Str.ofString "value") = some v → News g L h' ((1702, tabObj ps) :: Z) → (∀ p ∈ Z, p.1 ≠ 1702) → DIn Z v d → d.depth ≤ 3 → (enc d).length ≤ 8757 →
      wpAny (model rr.prog w) (callerA.deeper (lawE L fa cd)) (execs (dL.body.drop 5) (lawE L fa cd)) Q E { s with heap := h', toks := tk }) :
    wpAny (model rr.prog w) (callerA.deeper (lawE L fa cd)) (execs (dL.body.drop 4) (lawE L fa cd)) Q E s := by
  have hvl := IntsAre.length hI
  have hw : wb 3 = 8757 := by decide
  rw [kst_name (m := m) (ps := [(Str.ofString "script", .ref scr)]) (fun q hq => by rw [List.mem_singleton.mp hq]; exact hm)] at F
  walk_at "UPM"
  all_goals (rename News g L _ _ => N2; rename Fr g L _ _ => F2)
  · rename IntsAre _ _ => hJ
    have hjl := IntsAre.length hJ
    simp only [List.length_take, List.length_drop] at hjl
    k_dflt (refine' lv_call (lv_all 3 (by decide)) ?k1 F2 ?k3 N2 ?k5 ?k6 ?k7 ?k8 (.head _) ?ka ?kb ?kc ?_; (case k1 => k_asm); (case k3 => k_asm); (case k5 => k_asm); (case k6 => exact ⟨rfl, rfl⟩); (case k7 => walk_at "dp"); (case k8 => walk_at "dp"); (case ka => exact hJ); (case kb => omega); (case kc => rfl))
    intro h9 tk9 T9 v9 rl9 ws9 ns9 c9 d9 Z9 F9 N9 hZ9 hT9 hr9 hI9 hl9 hv9 hd9 he9
    have N4 := News.front N9 (List.mem_append_left _ hT9)
    have h17z : ∀ p ∈ Z9, p.1 ≠ 1702 := fun p hp => Nat.ne_of_gt (hZ9 p hp (1702, _) (.tail _ (.head _)))
    clear N9 F2 N2
    walk_at "UPM"
    (try dsimp only)
    rename Fr g L _ _ => F5
    rename News g L _ _ => N5
    exact hnext _ _ _ _ d9 Z9 F5 rfl rfl (News.sub N5 fun q hq => by
      rcases List.mem_cons.mp hq with rfl | hq
      · exact .tail _ (List.mem_append_right _ (.tail _ (.head _)))
      · exact .tail _ (List.mem_append_left _ hq)) h17z hv9 hd9 (by omega)
  · k_dflt (refine' lv_call (lv_all 3 (by decide)) (ns := [25, 7, 300]) ?k1 F2 ?k3 N2 ?k5 ?k6 ?k7 ?k8 (.head _) ?ka ?kb ?kc ?_; (case k1 => k_asm); (case k3 => k_asm); (case k5 => k_asm); (case k6 => exact ⟨rfl, rfl⟩); (case k7 => walk_at "dp"); (case k8 => walk_at "dp"); (case ka => repeat' constructor); (case kb => simp); (case kc => rfl))
    intro h9 tk9 T9 v9 rl9 ws9 ns9 c9 d9 Z9 F9 N9 hZ9 hT9 hr9 hI9 hl9 hv9 hd9 he9
    have N4 := News.front N9 (List.mem_append_left _ hT9)
    have h17z : ∀ p ∈ Z9, p.1 ≠ 1702 := fun p hp => Nat.ne_of_gt (hZ9 p hp (1702, _) (.tail _ (.head _)))
    clear N9 F2 N2
    walk_at "UPM"
    (try dsimp only)
    rename Fr g L _ _ => F5
    rename News g L _ _ => N5
    exact hnext _ _ _ _ d9 Z9 F5 rfl rfl (News.sub N5 fun q hq => by
      rcases List.mem_cons.mp hq with rfl | hq
      · exact .tail _ (List.mem_append_right _ (.tail _ (.head _)))
      · exact .tail _ (List.mem_append_left _ hq)) h17z hv9 hd9 (by omega)
theorem ms5 {scr : Addr} {v : Value} {d : D} {Z : List (Addr × Obj)} {ps : Array Value}
    (K0 : Below callerA g [] g) (X : (K w.params).In g) (T : Top p loose mean mg mb g)
    (F : Fr g L s.heap m) (hm : m (Str.ofString "script") = some (.ref scr)) (hm2 : m (Str.ofString "value") = some v) (N : News g L s.heap ((1702, tabObj ps) :: Z)) (h17 : ∀ p ∈ Z, p.1 ≠ 1702) (hv : DIn Z v d) (hd : d.depth ≤ 3) (hl : (enc d).length ≤ 8757) (hps : TriplesOk ps.toList)
    (hE : PassesOwn (model rr.prog w) (callerA.deeper (lawE L fa cd)) (lawE L fa cd) E)
    (hnext : ∀ m' h' gs tk ps' t, Fr g L h' m' → m' (Str.ofString "script") = some (.ref scr) → m' (Str.ofString "value") = some v → m' (Str.ofString "made") = some (.bytes (enc d).toArray t) → News g L h' ((1702, tabObj ps') :: Z) → GC s.gens gs → TriplesOk ps'.toList →
      wpAny (model rr.prog w) (callerA.deeper (lawE L fa cd)) (execs (dL.body.drop 6) (lawE L fa cd)) Q E { s with heap := h', gens := gs, toks := tk }) :
    wpAny (model rr.prog w) (callerA.deeper (lawE L fa cd)) (execs (dL.body.drop 5) (lawE L fa cd)) Q E s := by
  rw [kst_name (m := m) (ps := [(Str.ofString "script", .ref scr), (Str.ofString "value", v)]) (fun q hq => by
    rcases List.mem_cons.mp hq with rfl | hq
    · exact hm
    · rw [List.mem_singleton.mp hq]; exact hm2)] at F
  walk_at "UPN"
  k_dflt (refine' en_raw (k := 5) (ps := ps) (d := d) (news := Z) ?k1 F ?k3 N ?k5 ?k6 ?k7 ?k8 hps h17 hv (by omega) (by omega) ?_; (case k1 => k_asm); (case k3 => k_asm); (case k5 => k_asm); (case k6 => exact ⟨rfl, rfl⟩); (case k7 => walk_at "dp"); (case k8 => walk_at "dp"))
  intro h8 gs8 tk8 t8 ps8 F8 N8 hgc8 htr8
  clear F N
  walk_at "UPN"
  (try dsimp only)
  rename Fr g L _ _ => F5
  rename News g L _ _ => N5
  exact hnext _ _ _ _ ps8 t8 F5 rfl rfl rfl N5 hgc8 htr8
end
end Mine
end

section
open PySem PySem.W PyProof.Rows PySem.Spec PySem.Calls Rlp
set_option Elab.async false
set_option maxRecDepth 100000
set_option maxHeartbeats 1500000
set_option linter.unusedVariables false
namespace Mine
theorem fillKM6 : (fun (_ : OpenLaw) (_ : Params → Frag) => True) PySem.Challenge.rw_bi0020_01 K := by
  k_fill
  trivial
local macro_rules | `(tactic| walk_at "nil9") => `(tactic| fail "none")
local macro_rules | `(tactic| walk_at "ENTER0") => `(tactic| (refine wpAny_call ?_; k_dflt (refine' code_def ?k1 ?k2 ?k3 ?k4 ?k5 ?kA ?kF ?kK ?k6 ?k7 ?k8 ?k9 ?kB ?_ ?c2 ?c3 ?c4 ?c5; (case kA => exact rfl); (case kF => exact And.right (by assumption)); (case kK => exact And.left (by assumption)); (case k1 => k_asm); (case k2 => k_asm); (case k3 => k_asm); (case k4 => k_asm); (case k5 => k_asm); (case k6 => k_is); (case k7 => k_is); (case k8 => ktr_room); (case k9 => first | exact BindsTo.of_eq rfl | exact binds_K (by k_in) rfl (by k_is) rfl rfl rfl); (case c5 => decide); (case kB => exact locs rfl); (case c2 => exact rfl); (case c3 => exact rfl); (case c4 => exact rfl); k_whole; intro g' L' h' FG' F' N' B' X' T'; (try dsimp only); (try k_fold))))
local macro_rules | `(tactic| walk_at "ENTER") => `(tactic| (walk_at "ENTER0"; k_steps))
local macro_rules | `(tactic| walk_at "bsz") => `(tactic| ((try simp only [List.size_toArray, List.length_append, List.length_cons, List.length_nil, be_length, beK_length, slice_length]); omega))
local macro_rules | `(tactic| walk_at "call builtin:len") => `(tactic| ((with_reducible show wpAny _ _ (call (Value.builtin _) [Value.bytes (List.toArray _) _]) _ _ _); refine len_bytes (by walk_at "bsz") ?_; (try simp only [List.size_toArray, be_length])))
local macro_rules | `(tactic| walk_at "binaryOp Add bytes bytes") => `(tactic| ((with_reducible show wpAny _ _ (binaryOp Operator.Add (Value.bytes (List.toArray _) _) (Value.bytes (List.toArray _) _)) _ _ _); refine KBy.add_bytes (by walk_at "bsz") ?_; intro _ _; (try simp only [List.append_toArray, List.cons_append, List.nil_append])))
local macro_rules | `(tactic| walk_at "call ref") => `(tactic| ((with_reducible show wpAny _ _ (call (Value.ref 1464) _) _ _ _); (k_dflt (refine' b2i ?k1 ?k2 ?k3 ?k4 ?k5 ?k6 ?k7 ?k8 ?k9 ?_; (case k1 => k_asm); (case k2 => k_asm); (case k3 => k_asm); (case k4 => k_asm); (case k5 => k_asm); (case k6 => exact ⟨rfl, rfl⟩); (case k7 => walk_at "dp"); (case k8 => walk_at "dp"); (case k9 => walk_at "bsz"))); intro _ _ _ _ _))
local macro_rules | `(tactic| walk_at "call ref") => `(tactic| ((with_reducible show wpAny _ _ (call (Value.ref 1736) _) _ _ _); (k_dflt (refine' clp_ok ?k1 ?k2 ?k3 ?k4 ?k5 ?k6 ?k7 ?k8 ?k9 ?k0 ?_; (case k1 => k_asm); (case k2 => k_asm); (case k3 => k_asm); (case k4 => k_asm); (case k5 => k_asm); (case k6 => exact ⟨rfl, rfl⟩); (case k7 => walk_at "dp"); (case k8 => walk_at "dp"); (case k9 => walk_at "bsz"); (case k0 => assumption))); intro _ _ _ _ _ _ _ _ _ _))
local macro_rules | `(tactic| walk_at "call ref") => `(tactic| ((with_reducible show wpAny _ _ (call (Value.ref 1457) _) _ _ _); (k_dflt (refine' is_b ?k1 ?k2 ?k3 ?k4 ?k5 ?k6 ?k7 ?k8 ?_; (case k1 => k_asm); (case k2 => k_asm); (case k3 => k_asm); (case k4 => k_asm); (case k5 => k_asm); (case k6 => exact ⟨rfl, rfl⟩); (case k7 => walk_at "dp"); (case k8 => walk_at "dp"))); intro _ _ _ _))
local macro_rules | `(tactic| walk_at "call ref") => `(tactic| ((with_reducible show wpAny _ _ (call (Value.ref 74) [_, _]) _ _ _); (k_dflt (refine' mk_DE ?k1 ?k2 ?k3 ?k4 ?k5 ?k6 ?k7 ?k8 ?_; (case k1 => k_asm); (case k2 => k_asm); (case k3 => k_asm); (case k4 => k_asm); (case k5 => k_asm); (case k6 => exact ⟨rfl, rfl⟩); (case k7 => walk_at "dp"); (case k8 => walk_at "dp"))); intro _ _ _ _ _ _ _ _ _ _; refine RaiseOk.intro (by k_asm) (by k_asm) (by k_asm) (.head _) (exc74 _) ?_))
local macro_rules | `(tactic| walk_at "ENTER0") => `(tactic| (refine wpAny_call ?_; k_dflt (refine' code_def ?k1 ?k2 ?k3 ?k4 ?k5 ?kA ?kF ?kK ?k6 ?k7 ?k8 ?k9 ?kB ?_ ?c2 ?c3 ?c4 ?c5; (case kA => exact rfl); (case kF => exact And.right (by assumption)); (case kK => exact And.left (by assumption)); (case k1 => k_asm); (case k2 => k_asm); (case k3 => k_asm); (case k4 => k_asm); (case k5 => k_asm); (case k6 => k_is); (case k7 => k_is); (case k8 => ktr_room); (case k9 => first | exact BindsTo.of_eq rfl | exact binds_K (by k_in) rfl (by k_is) rfl rfl rfl); (case c5 => decide); (case kB => exact locs rfl); (case c2 => exact rfl); (case c3 => exact rfl); (case c4 => exact rfl); k_whole; intro g' L' h' FG' F' N' B' X' T'; (try dsimp only); (try k_fold))))
local macro_rules | `(tactic| walk_at "call ref") => `(tactic| ((with_reducible show wpAny _ _ (call (Value.ref 1714) _) _ _ _); (k_dflt (refine' dr_ok ?k1 ?k2 ?k3 ?k4 ?k5 ?k6 ?k7 ?k8 ?k9 ?ka ?kb ?_; (case k1 => k_asm); (case k2 => k_asm); (case k3 => k_asm); (case k4 => k_asm); (case k5 => k_asm); (case ka => assumption); (case kb => first | assumption | exact Or.inr rfl); (case k6 => exact ⟨rfl, rfl⟩); (case k7 => walk_at "dp"); (case k8 => walk_at "dp"); (case k9 => assumption))); intro _ _ _ _ _ _ _ _ _ _ _ _ _ _ _))
local macro_rules | `(tactic| walk_at "call ref") => `(tactic| ((with_reducible show wpAny _ _ (call (Value.ref 1714) _) _ _ _); (k_dflt (refine' dr_de ?k1 ?k2 ?k3 ?k4 ?k5 ?k6 ?k7 ?k8 ?k9 ?ka ?kb ?_; (case k1 => k_asm); (case k2 => k_asm); (case k3 => k_asm); (case k4 => k_asm); (case k5 => k_asm); (case ka => assumption); (case kb => with_reducible assumption); (case k6 => exact ⟨rfl, rfl⟩); (case k7 => walk_at "dp"); (case k8 => walk_at "dp"); (case k9 => assumption))); intro _ _ _ _ _ _ _ _ _))
local macro_rules | `(tactic| walk_at "compareOp Eq ref ref") => `(tactic| ((with_reducible show wpAny _ _ (compareOp CmpOp.Eq (Value.ref _) (Value.ref _)) _ _ _); k_dflt (refine' eq_ne_len ?k1 ?k2 ?k3 ?k4 ?k5 ?_; (case k1 => k_asm); (case k2 => k_mem); (case k3 => k_mem); (case k4 => simp; done); (case k5 => walk_at "dp"))))
local macro_rules | `(tactic| walk_at "lsz") => `(tactic| (rw [sizeLine_eq]; (try simp only [List.length_cons, List.length_append, List.length_nil, List.length_replicate]); omega))
local macro_rules | `(tactic| walk_at "mb") => `(tactic| ((try simp only [List.length_cons, List.length_nil]); omega))
local macro_rules | `(tactic| walk_at "binaryOp Mult ref int") => `(tactic| ((with_reducible show wpAny _ _ (binaryOp Operator.Mult (Value.ref _) (Value.int _ _)) _ _ _); k_dflt (refine' mul1_led ?k1 ?k2 ?k3 ?k4 ?k5 ?_; (case k1 => k_asm); (case k2 => k_asm); (case k3 => k_mem); (case k4 => first | omega | (split <;> omega)); (case k5 => first | omega | (split <;> omega))); intro _ _ _ _ l1; (try k_lt l1)))
local macro_rules | `(tactic| walk_at "binaryOp Add ref ref") => `(tactic| ((with_reducible show wpAny _ _ (binaryOp Operator.Add (Value.ref _) (Value.ref _)) _ _ _); k_dflt (refine' add_led ?k1 ?k2 ?k3 ?k4 ?k5 ?_; (case k1 => k_asm); (case k2 => k_asm); (case k3 => k_mem); (case k4 => k_mem); (case k5 => walk_at "lsz")); intro _ _ _ _ l1; (try k_lt l1)))
local macro_rules | `(tactic| walk_at "bin") => `(tactic| (intro n hn; rcases List.mem_append.mp hn with hn | hn <;> (rw [(List.mem_replicate.mp hn).2]; omega)))
local macro_rules | `(tactic| walk_at "lt1") => `(tactic| first | assumption | exact of_allLt (by assumption) | exact of_allLt1 (by assumption) | exact of_allLt2 (by assumption) | exact of_allLt3 (by assumption) | exact lt4 (by assumption) | exact lt5 (by assumption) | exact lt6 (by assumption) | exact lt7 (by assumption) | exact lt8 (by assumption) | exact lt9 (by assumption) | exact lt10 (by assumption))
local macro_rules | `(tactic| walk_at "above") => `(tactic| (repeat (refine List.forall_mem_cons.mpr ⟨by walk_at "lt1", ?_⟩)); exact fun _ h => nomatch h)
local macro_rules | `(tactic| walk_at "GR1") => `(tactic| (fail_if_success (with_reducible show wpAny _ _ (execs (Stmt.Assign [Expr.Name ("values" : Str) _] _ _ :: _) _) _ _ _)))
local macro_rules | `(tactic| walk_at "UP1") => `(tactic| repeat' (first | (k_unfold; (try dsimp only)) | (k_end; wrow_close) | (walk_at "GR1"; walk1) | (dsimp only; walk_at "GR1"; walk1) | (walk_at "GR1"; leave1; (try dsimp only)) | fail "no step"))
local macro_rules | `(tactic| k_mem) => `(tactic| (refine mem_of ?_; ktr_member))
local macro_rules | `(tactic| walk_at "dp") => `(tactic| (k_dflt ((try simp only [depth_deeper, depth_caller, units_in1, units_deeper, units_caller]); decide)))
local macro_rules | `(tactic| walk_at "itd") => `(tactic| ((try simp only [decide_eq_true_eq, beq_iff_eq, Bool.not_eq_true', decide_eq_false_iff_not, bne_iff_ne, ne_eq, List.length_append, List.length_cons, List.length_nil]); omega))
local macro_rules | `(tactic| walk_at "ite") => `(tactic| first | (rw [if_pos (by walk_at "itd")]) | (rw [if_neg (by walk_at "itd")]))
local macro_rules | `(tactic| walk_at "GR") => `(tactic| ((fail_if_success (with_reducible show wpAny _ _ (call (Value.ref 1777) _) _ _ _)); (fail_if_success (with_reducible show wpAny _ _ (pyIter (Value.ref _)) (fun it s₂ => LoopAtV _ _ _ _ _ _ _ _ _ it s₂) _ _)); (fail_if_success (with_reducible show UnrEnd _ _ _ _ _ _ _))))
local macro_rules | `(tactic| walk_at "UPR") => `(tactic| repeat' (first | (k_unfold; (try dsimp only)) | (k_end; wrow_close) | (walk_at "GR"; walk1) | (dsimp only; walk_at "GR"; walk1) | (walk_at "GR"; leave1; (try dsimp only)) | fail "no step"))
local macro_rules | `(tactic| walk_at "call type:range") => `(tactic| ((with_reducible show wpAny _ _ (call (Value.type "range") [Value.int _ _]) _ _ _); (k_dflt (refine' range1_rows ?k1 ?k2 ?_; (case k1 => k_asm); (case k2 => k_asm))); intro _ _ _ _ _ rg9 _ _ _))
local macro_rules | `(tactic| walk_at "call ref") => `(tactic| ((with_reducible show wpAny _ _ (call (Value.ref 1770) [Value.ref _, Value.int 0 _, Value.int _ _]) _ _ _); (fail_if_success skip); (k_dflt (refine' lawat (k := 0) ?k1 ?k2 ?k3 ?k4 ?k5 ?k6 ?k7 ?k8 ?k9 ?ka ?kb ?_; (case k1 => k_asm); (case k2 => k_asm); (case k3 => k_asm); (case k4 => k_asm); (case k5 => k_asm); (case k6 => exact ⟨rfl, rfl⟩); (case k7 => walk_at "dp"); (case k8 => walk_at "dp"); (case k9 => assumption); (case ka => assumption); (case kb => omega))); intro _ _ _ _ _))
local macro_rules | `(tactic| walk_at "GM") => `(tactic| ((fail_if_success (with_reducible show wpAny _ _ (call (Value.ref 1784) _ _) _ _ _)); (fail_if_success (with_reducible show wpAny _ _ (call (Value.ref 1722) _ _) _ _ _)); (fail_if_success (with_reducible show wpAny _ _ (compareOp CmpOp.NotEq (Value.ref _) (Value.ref _)) _ _ _)); (fail_if_success (with_reducible show wpAny _ _ (call (Value.type "bytes") _ _) _ _ _)); (fail_if_success (with_reducible show wpAny _ _ (execs (Stmt.If (Expr.BoolOp BoolOp.Or [Expr.BoolOp _ _ _, _] _) _ _ _ :: _) _) _ _ _)); ))
local macro_rules | `(tactic| walk_at "UPM") => `(tactic| repeat' (first | (k_unfold; (try dsimp only)) | (k_end; wrow_close) | (walk_at "GM"; walk1) | (dsimp only; walk_at "GM"; walk1) | (walk_at "GM"; leave1; (try dsimp only)) | fail "no step"))
local macro_rules | `(tactic| walk_at "call ref") => `(tactic| ((with_reducible show wpAny _ _ (call (Value.ref 1770) [Value.ref _, Value.int 16 _, Value.int _ _]) _ _ _); (k_dflt (refine' lawat (k := 16) ?k1 ?k2 ?k3 ?k4 ?k5 ?k6 ?k7 ?k8 ?k9 ?ka ?kb ?_; (case k1 => k_asm); (case k2 => k_asm); (case k3 => k_asm); (case k4 => k_asm); (case k5 => k_asm); (case k6 => exact ⟨rfl, rfl⟩); (case k7 => walk_at "dp"); (case k8 => walk_at "dp"); (case k9 => assumption); (case ka => assumption); (case kb => omega))); intro _ _ _ _ _))
local macro_rules | `(tactic| walk_at "subscriptTail") => `(tactic| ((with_reducible show wpAny _ _ (subscriptTail _ (Expr.Slice none _ none _) (Value.bytes (List.toArray _) _) (Value.ref _)) _ _ _); refine slice_bytes_but (s := ⟨_, _, _, _, _⟩) (by k_asm) (by k_asm) (by omega) (by omega) ?_; intro _ _ _ _ _))
section
variable {w : World} {p : Program} {loose : List Str} {mean : ExcName → Option Value} {mg mb : Str → Option Value} {g : Heap} {L fa : Addr} {cd : Value} {m : Str → Option Value} {s : Shared} {Q : Flow → Shared → Prop} {E : Value → Shared → Prop}
theorem ms6 {scr : Addr} {vs : List Value} {is : List Int} {v : Value} {d : D} {Z : List (Addr × Obj)} {ps : Array Value} {t : Tok}
    (K0 : Below callerA g [] g) (X : (K w.params).In g) (T : Top p loose mean mg mb g) (hL : g.IsList scr vs.toArray) (hI : IntsAre vs is) (hlen : is.length ≤ 63)
    (F : Fr g L s.heap m) (hm : m (Str.ofString "script") = some (.ref scr)) (hm2 : m (Str.ofString "value") = some v) (hm3 : m (Str.ofString "made") = some (.bytes (enc d).toArray t)) (N : News g L s.heap ((1702, tabObj ps) :: Z)) (h17 : ∀ p ∈ Z, p.1 ≠ 1702) (hv : DIn Z v d) (hd : d.depth ≤ 3) (hl : (enc d).length ≤ 8757)
    (hE : PassesOwn (model rr.prog w) (callerA.deeper (lawE L fa cd)) (lawE L fa cd) E)
    (hnext : ∀ m' h' tk, Fr g L h' m' → m' (Str.ofString "script") = some (.ref scr) → m' (Str.ofString "value") = some v → m' (Str.ofString "made") = some (.bytes (enc d).toArray t) → News g L h' ((1702, tabObj ps) :: Z) →
      wpAny (model rr.prog w) (callerA.deeper (lawE L fa cd)) (execs (dL.body.drop 7) (lawE L fa cd)) Q E { s with heap := h', toks := tk }) :
    wpAny (model rr.prog w) (callerA.deeper (lawE L fa cd)) (execs (dL.body.drop 6) (lawE L fa cd)) Q E s := by
  have hz : (enc d).length < 256 ^ 8 := by have e : (256 : Nat) ^ 8 = 18446744073709551616 := rfl; omega
  have hp := enc_length_pos d
  rw [kst_name (m := m) (ps := [(Str.ofString "script", .ref scr), (Str.ofString "value", v), (Str.ofString "made", .bytes (enc d).toArray t)]) (fun q hq => by
      simp only [List.mem_cons, List.not_mem_nil, or_false] at hq
      rcases hq with rfl | rfl | rfl <;> assumption)] at F
  have hiw := item_whole2 (dep := 5) (d := d) (by omega) hz
  walk_at "UPM"
  k_dflt (refine' lr_ok (dep := 5) ?k1 ?k2 ?k3 ?k4 ?k5 ?k6 ?k7 ?k8 ?k9 hiw ?_; (case k1 => k_asm); (case k2 => k_asm); (case k3 => k_asm); (case k4 => k_asm); (case k5 => k_asm); (case k6 => exact ⟨rfl, rfl⟩); (case k7 => walk_at "dp"); (case k8 => walk_at "dp"); (case k9 => omega))
  intro h1 tk1 R1 n1 v1 Z1 F1 N1 hZ1 hR1 hv1
  clear F N
  walk_at "UPM"
  (try dsimp only)
  rename News g L _ _ => N2
  refine ne_rows (ds := [d]) (es := [d]) N2 (.tail _ (List.mem_append_left _ hR1)) (.head _) (DsIn.mono (fun p hp => .tail _ (List.mem_append_left _ hp)) (.cons hv1 .nil)) (DsIn.mono (fun p hp => .tail _ (List.mem_append_right _ (.tail _ hp))) (.cons hv .nil)) ?_ ?_
  · have e : cLine = 9900 := rfl
    simp only [units_deeper, units_caller, depths]
    omega
  rw [show (!deqs [d] [d]) = false from by rw [deqs_iff.mpr rfl]; rfl]
  have N3 := News.sub N2 (l' := (1702, tabObj ps) :: Z) fun p hp => .tail _ (List.mem_append_right _ hp)
  clear N2
  walk_at "UPM"
  k_dflt (refine' lr_no X T ?k1 ?k2 ?k3 ?k4 ?k5 ?k6 ?k7 ?k8 ?k9 (refu_cut (d := d) (dep := 5) (by omega) hz) ?_; (case k1 => k_asm); (case k2 => k_asm); (case k3 => k_asm); (case k4 => k_asm); (case k5 => k_asm); (case k6 => exact ⟨rfl, rfl⟩); (case k7 => walk_at "dp"); (case k8 => walk_at "dp"); (case k9 => (rw [List.length_take]; omega)))
  intro h5 tk5 R5 F5 N5 hZ5
  clear N3
  walk_at "UPM"
  (try dsimp only)
  rename News g L _ _ => N2
  refine ne_rows (ds := []) (es := []) N2 (.tail _ (.head _)) (.head _) .nil .nil ?_ ?_
  · have e : cLine = 9900 := rfl
    simp only [units_deeper, units_caller, depths]
    omega
  rw [show (!deqs [] []) = false from rfl]
  have N4 := News.sub N2 (l' := (1702, tabObj ps) :: Z) fun p hp => .tail _ (.tail _ hp)
  clear N2
  walk_at "UPM"
  (try dsimp only)
  have q1 := Int.fmod_nonneg_of_pos (is.getD 16 0) (b := 256) (by decide)
  have q2 := Int.fmod_lt_of_pos (is.getD 16 0) (b := 256) (by decide)
  rename News g L _ _ => N2
  rename Fr g L _ _ => F2
  refine bytes_led F2 N2 (.head _) (.cons ((is.getD 16 0).fmod 256) _ .nil) (fun n hn => by rw [List.mem_singleton.mp hn]; exact ⟨q1, q2⟩) (by rw [sizeLine_eq]; simp) rfl ?_
  intro h6 t6 k6 F6 N6
  have N7 := News.sub N6 (l' := (1702, tabObj ps) :: Z) fun p hp => .tail _ hp
  clear N2 F2 N6
  simp only [List.map_cons, List.map_nil]
  walk_at "UPM"
  k_dflt (refine' lr_no X T ?k1 ?k2 ?k3 ?k4 ?k5 ?k6 ?k7 ?k8 ?k9 (refu_more (d := d) (dep := 5) (by omega) hz (by simp)) ?_; (case k1 => k_asm); (case k2 => k_asm); (case k3 => k_asm); (case k4 => k_asm); (case k5 => k_asm); (case k6 => exact ⟨rfl, rfl⟩); (case k7 => walk_at "dp"); (case k8 => walk_at "dp"); (case k9 => (simp only [List.length_append, List.length_cons, List.length_nil]; omega)))
  intro h8 tk8 R8 F8 N8 hZ8
  clear N7
  walk_at "UPM"
  (try dsimp only)
  rename News g L _ _ => N2
  refine ne_rows (ds := []) (es := []) N2 (.tail _ (.head _)) (.head _) .nil .nil ?_ ?_
  · have e : cLine = 9900 := rfl
    simp only [units_deeper, units_caller, depths]
    omega
  rw [show (!deqs [] []) = false from rfl]
  have N9 := News.sub N2 (l' := (1702, tabObj ps) :: Z) fun p hp => .tail _ (.tail _ hp)
  clear N2
  walk_at "UPM"
  (try dsimp only)
  rename Fr g L _ _ => F9
  exact hnext _ _ _ F9 rfl rfl rfl N9
end
end Mine
end

section
open PySem PySem.W PyProof.Rows PySem.Spec PySem.Calls Rlp
set_option Elab.async false
set_option maxRecDepth 100000
set_option maxHeartbeats 1500000
set_option linter.unusedVariables false
namespace Mine
theorem fillKM7 : (fun (_ : OpenLaw) (_ : Params → Frag) => True) PySem.Challenge.rw_bi0020_01 K := by
  k_fill
  trivial
local macro_rules | `(tactic| walk_at "ENTER0") => `(tactic| (refine wpAny_call ?_; k_dflt (refine' code_def ?k1 ?k2 ?k3 ?k4 ?k5 ?kA ?kF ?kK ?k6 ?k7 ?k8 ?k9 ?kB ?_ ?c2 ?c3 ?c4 ?c5; (case kA => exact rfl); (case kF => exact And.right (by assumption)); (case kK => exact And.left (by assumption)); (case k1 => k_asm); (case k2 => k_asm); (case k3 => k_asm); (case k4 => k_asm); (case k5 => k_asm); (case k6 => k_is); (case k7 => k_is); (case k8 => ktr_room); (case k9 => first | exact BindsTo.of_eq rfl | exact binds_K (by k_in) rfl (by k_is) rfl rfl rfl); (case c5 => decide); (case kB => exact locs rfl); (case c2 => exact rfl); (case c3 => exact rfl); (case c4 => exact rfl); k_whole; intro g' L' h' FG' F' N' B' X' T'; (try dsimp only); (try k_fold))))
local macro_rules | `(tactic| walk_at "ENTER") => `(tactic| (walk_at "ENTER0"; k_steps))
local macro_rules | `(tactic| walk_at "bsz") => `(tactic| ((try simp only [List.size_toArray, List.length_append, List.length_cons, List.length_nil, be_length, beK_length, slice_length]); omega))
local macro_rules | `(tactic| walk_at "call builtin:len") => `(tactic| ((with_reducible show wpAny _ _ (call (Value.builtin _) [Value.bytes (List.toArray _) _]) _ _ _); refine len_bytes (by walk_at "bsz") ?_; (try simp only [List.size_toArray, be_length])))
local macro_rules | `(tactic| walk_at "binaryOp Add bytes bytes") => `(tactic| ((with_reducible show wpAny _ _ (binaryOp Operator.Add (Value.bytes (List.toArray _) _) (Value.bytes (List.toArray _) _)) _ _ _); refine KBy.add_bytes (by walk_at "bsz") ?_; intro _ _; (try simp only [List.append_toArray, List.cons_append, List.nil_append])))
local macro_rules | `(tactic| walk_at "call ref") => `(tactic| ((with_reducible show wpAny _ _ (call (Value.ref 1464) _) _ _ _); (k_dflt (refine' b2i ?k1 ?k2 ?k3 ?k4 ?k5 ?k6 ?k7 ?k8 ?k9 ?_; (case k1 => k_asm); (case k2 => k_asm); (case k3 => k_asm); (case k4 => k_asm); (case k5 => k_asm); (case k6 => exact ⟨rfl, rfl⟩); (case k7 => walk_at "dp"); (case k8 => walk_at "dp"); (case k9 => walk_at "bsz"))); intro _ _ _ _ _))
local macro_rules | `(tactic| walk_at "call ref") => `(tactic| ((with_reducible show wpAny _ _ (call (Value.ref 1736) _) _ _ _); (k_dflt (refine' clp_ok ?k1 ?k2 ?k3 ?k4 ?k5 ?k6 ?k7 ?k8 ?k9 ?k0 ?_; (case k1 => k_asm); (case k2 => k_asm); (case k3 => k_asm); (case k4 => k_asm); (case k5 => k_asm); (case k6 => exact ⟨rfl, rfl⟩); (case k7 => walk_at "dp"); (case k8 => walk_at "dp"); (case k9 => walk_at "bsz"); (case k0 => assumption))); intro _ _ _ _ _ _ _ _ _ _))
local macro_rules | `(tactic| walk_at "call ref") => `(tactic| ((with_reducible show wpAny _ _ (call (Value.ref 1457) _) _ _ _); (k_dflt (refine' is_b ?k1 ?k2 ?k3 ?k4 ?k5 ?k6 ?k7 ?k8 ?_; (case k1 => k_asm); (case k2 => k_asm); (case k3 => k_asm); (case k4 => k_asm); (case k5 => k_asm); (case k6 => exact ⟨rfl, rfl⟩); (case k7 => walk_at "dp"); (case k8 => walk_at "dp"))); intro _ _ _ _))
local macro_rules | `(tactic| walk_at "call ref") => `(tactic| ((with_reducible show wpAny _ _ (call (Value.ref 74) [_, _]) _ _ _); (k_dflt (refine' mk_DE ?k1 ?k2 ?k3 ?k4 ?k5 ?k6 ?k7 ?k8 ?_; (case k1 => k_asm); (case k2 => k_asm); (case k3 => k_asm); (case k4 => k_asm); (case k5 => k_asm); (case k6 => exact ⟨rfl, rfl⟩); (case k7 => walk_at "dp"); (case k8 => walk_at "dp"))); intro _ _ _ _ _ _ _ _ _ _; refine RaiseOk.intro (by k_asm) (by k_asm) (by k_asm) (.head _) (exc74 _) ?_))
local macro_rules | `(tactic| walk_at "ENTER0") => `(tactic| (refine wpAny_call ?_; k_dflt (refine' code_def ?k1 ?k2 ?k3 ?k4 ?k5 ?kA ?kF ?kK ?k6 ?k7 ?k8 ?k9 ?kB ?_ ?c2 ?c3 ?c4 ?c5; (case kA => exact rfl); (case kF => exact And.right (by assumption)); (case kK => exact And.left (by assumption)); (case k1 => k_asm); (case k2 => k_asm); (case k3 => k_asm); (case k4 => k_asm); (case k5 => k_asm); (case k6 => k_is); (case k7 => k_is); (case k8 => ktr_room); (case k9 => first | exact BindsTo.of_eq rfl | exact binds_K (by k_in) rfl (by k_is) rfl rfl rfl); (case c5 => decide); (case kB => exact locs rfl); (case c2 => exact rfl); (case c3 => exact rfl); (case c4 => exact rfl); k_whole; intro g' L' h' FG' F' N' B' X' T'; (try dsimp only); (try k_fold))))
local macro_rules | `(tactic| walk_at "call ref") => `(tactic| ((with_reducible show wpAny _ _ (call (Value.ref 1714) _) _ _ _); (k_dflt (refine' dr_ok ?k1 ?k2 ?k3 ?k4 ?k5 ?k6 ?k7 ?k8 ?k9 ?ka ?kb ?_; (case k1 => k_asm); (case k2 => k_asm); (case k3 => k_asm); (case k4 => k_asm); (case k5 => k_asm); (case ka => assumption); (case kb => first | assumption | exact Or.inr rfl); (case k6 => exact ⟨rfl, rfl⟩); (case k7 => walk_at "dp"); (case k8 => walk_at "dp"); (case k9 => assumption))); intro _ _ _ _ _ _ _ _ _ _ _ _ _ _ _))
local macro_rules | `(tactic| walk_at "call ref") => `(tactic| ((with_reducible show wpAny _ _ (call (Value.ref 1714) _) _ _ _); (k_dflt (refine' dr_de ?k1 ?k2 ?k3 ?k4 ?k5 ?k6 ?k7 ?k8 ?k9 ?ka ?kb ?_; (case k1 => k_asm); (case k2 => k_asm); (case k3 => k_asm); (case k4 => k_asm); (case k5 => k_asm); (case ka => assumption); (case kb => with_reducible assumption); (case k6 => exact ⟨rfl, rfl⟩); (case k7 => walk_at "dp"); (case k8 => walk_at "dp"); (case k9 => assumption))); intro _ _ _ _ _ _ _ _ _))
local macro_rules | `(tactic| walk_at "compareOp Eq ref ref") => `(tactic| ((with_reducible show wpAny _ _ (compareOp CmpOp.Eq (Value.ref _) (Value.ref _)) _ _ _); k_dflt (refine' eq_ne_len ?k1 ?k2 ?k3 ?k4 ?k5 ?_; (case k1 => k_asm); (case k2 => k_mem); (case k3 => k_mem); (case k4 => simp; done); (case k5 => walk_at "dp"))))
local macro_rules | `(tactic| walk_at "lsz") => `(tactic| (rw [sizeLine_eq]; (try simp only [List.length_cons, List.length_append, List.length_nil, List.length_replicate]); omega))
local macro_rules | `(tactic| walk_at "mb") => `(tactic| ((try simp only [List.length_cons, List.length_nil]); omega))
local macro_rules | `(tactic| walk_at "binaryOp Mult ref int") => `(tactic| ((with_reducible show wpAny _ _ (binaryOp Operator.Mult (Value.ref _) (Value.int _ _)) _ _ _); k_dflt (refine' mul1_led ?k1 ?k2 ?k3 ?k4 ?k5 ?_; (case k1 => k_asm); (case k2 => k_asm); (case k3 => k_mem); (case k4 => first | omega | (split <;> omega)); (case k5 => first | omega | (split <;> omega))); intro _ _ _ _ l1; (try k_lt l1)))
local macro_rules | `(tactic| walk_at "binaryOp Add ref ref") => `(tactic| ((with_reducible show wpAny _ _ (binaryOp Operator.Add (Value.ref _) (Value.ref _)) _ _ _); k_dflt (refine' add_led ?k1 ?k2 ?k3 ?k4 ?k5 ?_; (case k1 => k_asm); (case k2 => k_asm); (case k3 => k_mem); (case k4 => k_mem); (case k5 => walk_at "lsz")); intro _ _ _ _ l1; (try k_lt l1)))
local macro_rules | `(tactic| walk_at "bin") => `(tactic| (intro n hn; rcases List.mem_append.mp hn with hn | hn <;> (rw [(List.mem_replicate.mp hn).2]; omega)))
local macro_rules | `(tactic| walk_at "lt1") => `(tactic| first | assumption | exact of_allLt (by assumption) | exact of_allLt1 (by assumption) | exact of_allLt2 (by assumption) | exact of_allLt3 (by assumption) | exact lt4 (by assumption) | exact lt5 (by assumption) | exact lt6 (by assumption) | exact lt7 (by assumption) | exact lt8 (by assumption) | exact lt9 (by assumption) | exact lt10 (by assumption))
local macro_rules | `(tactic| walk_at "above") => `(tactic| (repeat (refine List.forall_mem_cons.mpr ⟨by walk_at "lt1", ?_⟩)); exact fun _ h => nomatch h)
local macro_rules | `(tactic| walk_at "GR1") => `(tactic| (fail_if_success (with_reducible show wpAny _ _ (execs (Stmt.Assign [Expr.Name ("values" : Str) _] _ _ :: _) _) _ _ _)))
local macro_rules | `(tactic| walk_at "UP1") => `(tactic| repeat' (first | (k_unfold; (try dsimp only)) | (k_end; wrow_close) | (walk_at "GR1"; walk1) | (dsimp only; walk_at "GR1"; walk1) | (walk_at "GR1"; leave1; (try dsimp only)) | fail "no step"))
local macro_rules | `(tactic| k_mem) => `(tactic| (refine mem_of ?_; ktr_member))
local macro_rules | `(tactic| walk_at "dp") => `(tactic| (k_dflt ((try simp only [depth_deeper, depth_caller, units_in1, units_deeper, units_caller]); decide)))
local macro_rules | `(tactic| walk_at "itd") => `(tactic| ((try simp only [decide_eq_true_eq, beq_iff_eq, Bool.not_eq_true', decide_eq_false_iff_not, bne_iff_ne, ne_eq, List.length_append, List.length_cons, List.length_nil]); omega))
local macro_rules | `(tactic| walk_at "ite") => `(tactic| first | (rw [if_pos (by walk_at "itd")]) | (rw [if_neg (by walk_at "itd")]))
local macro_rules | `(tactic| walk_at "GR") => `(tactic| ((fail_if_success (with_reducible show wpAny _ _ (call (Value.ref 1777) _) _ _ _)); (fail_if_success (with_reducible show wpAny _ _ (pyIter (Value.ref _)) (fun it s₂ => LoopAtV _ _ _ _ _ _ _ _ _ it s₂) _ _)); (fail_if_success (with_reducible show UnrEnd _ _ _ _ _ _ _))))
local macro_rules | `(tactic| walk_at "UPR") => `(tactic| repeat' (first | (k_unfold; (try dsimp only)) | (k_end; wrow_close) | (walk_at "GR"; walk1) | (dsimp only; walk_at "GR"; walk1) | (walk_at "GR"; leave1; (try dsimp only)) | fail "no step"))
local macro_rules | `(tactic| walk_at "call type:range") => `(tactic| ((with_reducible show wpAny _ _ (call (Value.type "range") [Value.int _ _]) _ _ _); (k_dflt (refine' range1_rows ?k1 ?k2 ?_; (case k1 => k_asm); (case k2 => k_asm))); intro _ _ _ _ _ rg9 _ _ _))
local macro_rules | `(tactic| walk_at "call ref") => `(tactic| ((with_reducible show wpAny _ _ (call (Value.ref 1770) [Value.ref _, Value.int 0 _, Value.int _ _]) _ _ _); (fail_if_success skip); (k_dflt (refine' lawat (k := 0) ?k1 ?k2 ?k3 ?k4 ?k5 ?k6 ?k7 ?k8 ?k9 ?ka ?kb ?_; (case k1 => k_asm); (case k2 => k_asm); (case k3 => k_asm); (case k4 => k_asm); (case k5 => k_asm); (case k6 => exact ⟨rfl, rfl⟩); (case k7 => walk_at "dp"); (case k8 => walk_at "dp"); (case k9 => assumption); (case ka => assumption); (case kb => omega))); intro _ _ _ _ _))
local macro_rules | `(tactic| walk_at "GM") => `(tactic| ((fail_if_success (with_reducible show wpAny _ _ (call (Value.ref 1784) _ _) _ _ _)); (fail_if_success (with_reducible show wpAny _ _ (call (Value.ref 1722) _ _) _ _ _)); (fail_if_success (with_reducible show wpAny _ _ (compareOp CmpOp.NotEq (Value.ref _) (Value.ref _)) _ _ _)); (fail_if_success (with_reducible show wpAny _ _ (call (Value.type "bytes") _ _) _ _ _)); (fail_if_success (with_reducible show wpAny _ _ (execs (Stmt.If (Expr.Compare _ _ _ _) _ _ _ :: _) _) _ _ _)); ))
local macro_rules | `(tactic| walk_at "UPM") => `(tactic| repeat' (first | (k_unfold; (try dsimp only)) | (k_end; wrow_close) | (walk_at "GM"; walk1) | (dsimp only; walk_at "GM"; walk1) | (walk_at "GM"; leave1; (try dsimp only)) | fail "no step"))
local macro_rules | `(tactic| walk_at "subscriptTail") => `(tactic| ((with_reducible show wpAny _ _ (subscriptTail _ (Expr.Slice (some _) none none _) (Value.bytes (List.toArray _) _) (Value.ref _)) _ _ _); refine slice_bytes_from (a := 1) (s := ⟨_, _, _, _, _⟩) (by k_asm) (by k_asm) (by omega) ?_; intro _ _ _ _ _; (try simp only [List.drop_succ_cons, List.drop_zero])))
section
variable {w : World} {p : Program} {loose : List Str} {mean : ExcName → Option Value} {mg mb : Str → Option Value} {g : Heap} {L fa : Addr} {cd : Value} {m : Str → Option Value} {s : Shared} {Q : Flow → Shared → Prop} {E : Value → Shared → Prop}
theorem ms7 {scr : Addr} {v : Value} {x : List UInt8} {Z : List (Addr × Obj)} {ps : Array Value} {t : Tok}
    (K0 : Below callerA g [] g) (X : (K w.params).In g) (T : Top p loose mean mg mb g)
    (F : Fr g L s.heap m) (hm : m (Str.ofString "script") = some (.ref scr)) (hm2 : m (Str.ofString "value") = some v) (hm3 : m (Str.ofString "made") = some (.bytes x.toArray t)) (N : News g L s.heap ((1702, tabObj ps) :: Z)) (hp : 0 < x.length) (hl : x.length ≤ 8757)
    (hE : PassesOwn (model rr.prog w) (callerA.deeper (lawE L fa cd)) (lawE L fa cd) E)
    (hnext : ∀ m' h' tk, Fr g L h' m' → m' (Str.ofString "script") = some (.ref scr) → m' (Str.ofString "value") = some v → m' (Str.ofString "made") = some (.bytes x.toArray t) → News g L h' ((1702, tabObj ps) :: Z) →
      wpAny (model rr.prog w) (callerA.deeper (lawE L fa cd)) (execs (dL.body.drop 8) (lawE L fa cd)) Q E { s with heap := h', toks := tk }) :
    wpAny (model rr.prog w) (callerA.deeper (lawE L fa cd)) (execs (dL.body.drop 7) (lawE L fa cd)) Q E s := by
  rw [kst_name (m := m) (ps := [(Str.ofString "script", .ref scr), (Str.ofString "value", v), (Str.ofString "made", .bytes x.toArray t)]) (fun q hq => by
      simp only [List.mem_cons, List.not_mem_nil, or_false] at hq
      rcases hq with rfl | rfl | rfl <;> assumption)] at F
  obtain ⟨c, r, rfl⟩ : ∃ c r, x = c :: r := by
    cases x with
    | nil => simp at hp
    | cons c r => exact ⟨c, r, rfl⟩
  have hc := c.toNat_lt
  have hg : ((c :: r).getD (Int.toNat 0) 0).toNat = c.toNat := rfl
  have hrl : r.length ≤ 8756 := by rw [List.length_cons] at hl; omega
  have hsz : (c :: r).toArray.size = (c :: r).length := rfl
  walk_at "UPM"
  all_goals (try dsimp only)
  all_goals first | exact hnext _ _ _ F rfl rfl rfl N | skip
  · rename News g L _ _ => N2
    rename Fr g L _ _ => F2
    refine bytes_led F2 N2 (.head _) (.cons _ _ .nil) (fun n hn => by rw [List.mem_singleton.mp hn]; omega) (by rw [sizeLine_eq]; simp) rfl ?_
    intro h6 t6 k6 F6 N6
    have N7 := News.sub N6 (l' := (1702, tabObj ps) :: Z) fun p hp => .tail _ hp
    clear N2 F2 N6
    have e : [(((c :: r).getD (Int.toNat 0) 0).toNat : Int) - 128].map (fun n => n.toNat.toUInt8) = [UInt8.ofNat (c.toNat - 128)] := by
      rw [List.map_cons, List.map_nil, hg, show ((c.toNat : Int) - 128).toNat = c.toNat - 128 by omega]
    rw [e]
    walk_at "UPM"
    k_dflt (refine' lr_no X T ?k1 ?k2 ?k3 ?k4 ?k5 ?k6 ?k7 ?k8 ?k9 (refu_long (c := c) (r := r) (dep := 5) (by omega) (by omega) (by decide)) ?_; (case k1 => k_asm); (case k2 => k_asm); (case k3 => k_asm); (case k4 => k_asm); (case k5 => k_asm); (case k6 => exact ⟨rfl, rfl⟩); (case k7 => walk_at "dp"); (case k8 => walk_at "dp"); (case k9 => (simp only [List.length_cons, List.drop_succ_cons, List.drop_zero] at hl ⊢; omega)))
    intro h8 tk8 R8 F8 N8 hZ8
    clear N7
    walk_at "UPM"
    (try dsimp only)
    rename News g L _ _ => N2
    refine ne_rows (ds := []) (es := []) N2 (.tail _ (.head _)) (.head _) .nil .nil ?_ ?_
    · have e : cLine = 9900 := rfl
      simp only [units_deeper, units_caller, depths]
      omega
    rw [show (!deqs [] []) = false from rfl]
    have N9 := News.sub N2 (l' := (1702, tabObj ps) :: Z) fun p hp => .tail _ (.tail _ hp)
    clear N2
    walk_at "UPM"
    (try dsimp only)
    rename Fr g L _ _ => F9
    exact hnext _ _ _ F9 rfl rfl rfl N9
  · rename News g L _ _ => N2
    rename Fr g L _ _ => F2
    refine bytes_led F2 N2 (.head _) (.cons _ _ .nil) (fun n hn => by rw [List.mem_singleton.mp hn]; omega) (by rw [sizeLine_eq]; simp) rfl ?_
    intro h6 t6 k6 F6 N6
    have N7 := News.sub N6 (l' := (1702, tabObj ps) :: Z) fun p hp => .tail _ hp
    clear N2 F2 N6
    have e : [(((c :: r).getD (Int.toNat 0) 0).toNat : Int) - 192].map (fun n => n.toNat.toUInt8) = [UInt8.ofNat (c.toNat - 192)] := by
      rw [List.map_cons, List.map_nil, hg, show ((c.toNat : Int) - 192).toNat = c.toNat - 192 by omega]
    rw [e]
    walk_at "UPM"
    k_dflt (refine' lr_no X T ?k1 ?k2 ?k3 ?k4 ?k5 ?k6 ?k7 ?k8 ?k9 (refu_longl (c := c) (r := r) (dep := 5) (by omega) (by omega) (by decide)) ?_; (case k1 => k_asm); (case k2 => k_asm); (case k3 => k_asm); (case k4 => k_asm); (case k5 => k_asm); (case k6 => exact ⟨rfl, rfl⟩); (case k7 => walk_at "dp"); (case k8 => walk_at "dp"); (case k9 => (simp only [List.length_cons, List.drop_succ_cons, List.drop_zero] at hl ⊢; omega)))
    intro h8 tk8 R8 F8 N8 hZ8
    clear N7
    walk_at "UPM"
    (try dsimp only)
    rename News g L _ _ => N2
    refine ne_rows (ds := []) (es := []) N2 (.tail _ (.head _)) (.head _) .nil .nil ?_ ?_
    · have e : cLine = 9900 := rfl
      simp only [units_deeper, units_caller, depths]
      omega
    rw [show (!deqs [] []) = false from rfl]
    have N9 := News.sub N2 (l' := (1702, tabObj ps) :: Z) fun p hp => .tail _ (.tail _ hp)
    clear N2
    walk_at "UPM"
    (try dsimp only)
    rename Fr g L _ _ => F9
    exact hnext _ _ _ F9 rfl rfl rfl N9
  · rename News g L _ _ => N2
    rename Fr g L _ _ => F2
    refine bytes_led F2 N2 (.head _) (.cons _ _ .nil) (fun n hn => by rw [List.mem_singleton.mp hn]; omega) (by rw [sizeLine_eq]; simp) rfl ?_
    intro h6 t6 k6 F6 N6
    have N7 := News.sub N6 (l' := (1702, tabObj ps) :: Z) fun p hp => .tail _ hp
    clear N2 F2 N6
    have e : [(((c :: r).getD (Int.toNat 0) 0).toNat : Int) - 192].map (fun n => n.toNat.toUInt8) = [UInt8.ofNat (c.toNat - 192)] := by
      rw [List.map_cons, List.map_nil, hg, show ((c.toNat : Int) - 192).toNat = c.toNat - 192 by omega]
    rw [e]
    walk_at "UPM"
    k_dflt (refine' lr_no X T ?k1 ?k2 ?k3 ?k4 ?k5 ?k6 ?k7 ?k8 ?k9 (refu_longl (c := c) (r := r) (dep := 5) (by omega) (by omega) (by decide)) ?_; (case k1 => k_asm); (case k2 => k_asm); (case k3 => k_asm); (case k4 => k_asm); (case k5 => k_asm); (case k6 => exact ⟨rfl, rfl⟩); (case k7 => walk_at "dp"); (case k8 => walk_at "dp"); (case k9 => (simp only [List.length_cons, List.drop_succ_cons, List.drop_zero] at hl ⊢; omega)))
    intro h8 tk8 R8 F8 N8 hZ8
    clear N7
    walk_at "UPM"
    (try dsimp only)
    rename News g L _ _ => N2
    refine ne_rows (ds := []) (es := []) N2 (.tail _ (.head _)) (.head _) .nil .nil ?_ ?_
    · have e : cLine = 9900 := rfl
      simp only [units_deeper, units_caller, depths]
      omega
    rw [show (!deqs [] []) = false from rfl]
    have N9 := News.sub N2 (l' := (1702, tabObj ps) :: Z) fun p hp => .tail _ (.tail _ hp)
    clear N2
    walk_at "UPM"
    (try dsimp only)
    rename Fr g L _ _ => F9
    exact hnext _ _ _ F9 rfl rfl rfl N9
end
end Mine
end

section
open PySem PySem.W PyProof.Rows PySem.Spec PySem.Calls Rlp
set_option Elab.async false
set_option maxRecDepth 100000
set_option maxHeartbeats 1500000
set_option linter.unusedVariables false
namespace Mine
theorem fillKM8 : (fun (_ : OpenLaw) (_ : Params → Frag) => True) PySem.Challenge.rw_bi0020_01 K := by
  k_fill
  trivial
local macro_rules | `(tactic| walk_at "ENTER0") => `(tactic| (refine wpAny_call ?_; k_dflt (refine' code_def ?k1 ?k2 ?k3 ?k4 ?k5 ?kA ?kF ?kK ?k6 ?k7 ?k8 ?k9 ?kB ?_ ?c2 ?c3 ?c4 ?c5; (case kA => exact rfl); (case kF => exact And.right (by assumption)); (case kK => exact And.left (by assumption)); (case k1 => k_asm); (case k2 => k_asm); (case k3 => k_asm); (case k4 => k_asm); (case k5 => k_asm); (case k6 => k_is); (case k7 => k_is); (case k8 => ktr_room); (case k9 => first | exact BindsTo.of_eq rfl | exact binds_K (by k_in) rfl (by k_is) rfl rfl rfl); (case c5 => decide); (case kB => exact locs rfl); (case c2 => exact rfl); (case c3 => exact rfl); (case c4 => exact rfl); k_whole; intro g' L' h' FG' F' N' B' X' T'; (try dsimp only); (try k_fold))))
local macro_rules | `(tactic| walk_at "ENTER") => `(tactic| (walk_at "ENTER0"; k_steps))
local macro_rules | `(tactic| walk_at "bsz") => `(tactic| ((try simp only [List.size_toArray, List.length_append, List.length_cons, List.length_nil, be_length, beK_length, slice_length]); omega))
local macro_rules | `(tactic| walk_at "call builtin:len") => `(tactic| ((with_reducible show wpAny _ _ (call (Value.builtin _) [Value.bytes (List.toArray _) _]) _ _ _); refine len_bytes (by walk_at "bsz") ?_; (try simp only [List.size_toArray, be_length])))
local macro_rules | `(tactic| walk_at "binaryOp Add bytes bytes") => `(tactic| ((with_reducible show wpAny _ _ (binaryOp Operator.Add (Value.bytes (List.toArray _) _) (Value.bytes (List.toArray _) _)) _ _ _); refine KBy.add_bytes (by walk_at "bsz") ?_; intro _ _; (try simp only [List.append_toArray, List.cons_append, List.nil_append])))
local macro_rules | `(tactic| walk_at "call ref") => `(tactic| ((with_reducible show wpAny _ _ (call (Value.ref 1464) _) _ _ _); (k_dflt (refine' b2i ?k1 ?k2 ?k3 ?k4 ?k5 ?k6 ?k7 ?k8 ?k9 ?_; (case k1 => k_asm); (case k2 => k_asm); (case k3 => k_asm); (case k4 => k_asm); (case k5 => k_asm); (case k6 => exact ⟨rfl, rfl⟩); (case k7 => walk_at "dp"); (case k8 => walk_at "dp"); (case k9 => walk_at "bsz"))); intro _ _ _ _ _))
local macro_rules | `(tactic| walk_at "call ref") => `(tactic| ((with_reducible show wpAny _ _ (call (Value.ref 1736) _) _ _ _); (k_dflt (refine' clp_ok ?k1 ?k2 ?k3 ?k4 ?k5 ?k6 ?k7 ?k8 ?k9 ?k0 ?_; (case k1 => k_asm); (case k2 => k_asm); (case k3 => k_asm); (case k4 => k_asm); (case k5 => k_asm); (case k6 => exact ⟨rfl, rfl⟩); (case k7 => walk_at "dp"); (case k8 => walk_at "dp"); (case k9 => walk_at "bsz"); (case k0 => assumption))); intro _ _ _ _ _ _ _ _ _ _))
local macro_rules | `(tactic| walk_at "call ref") => `(tactic| ((with_reducible show wpAny _ _ (call (Value.ref 1457) _) _ _ _); (k_dflt (refine' is_b ?k1 ?k2 ?k3 ?k4 ?k5 ?k6 ?k7 ?k8 ?_; (case k1 => k_asm); (case k2 => k_asm); (case k3 => k_asm); (case k4 => k_asm); (case k5 => k_asm); (case k6 => exact ⟨rfl, rfl⟩); (case k7 => walk_at "dp"); (case k8 => walk_at "dp"))); intro _ _ _ _))
local macro_rules | `(tactic| walk_at "call ref") => `(tactic| ((with_reducible show wpAny _ _ (call (Value.ref 74) [_, _]) _ _ _); (k_dflt (refine' mk_DE ?k1 ?k2 ?k3 ?k4 ?k5 ?k6 ?k7 ?k8 ?_; (case k1 => k_asm); (case k2 => k_asm); (case k3 => k_asm); (case k4 => k_asm); (case k5 => k_asm); (case k6 => exact ⟨rfl, rfl⟩); (case k7 => walk_at "dp"); (case k8 => walk_at "dp"))); intro _ _ _ _ _ _ _ _ _ _; refine RaiseOk.intro (by k_asm) (by k_asm) (by k_asm) (.head _) (exc74 _) ?_))
local macro_rules | `(tactic| walk_at "ENTER0") => `(tactic| (refine wpAny_call ?_; k_dflt (refine' code_def ?k1 ?k2 ?k3 ?k4 ?k5 ?kA ?kF ?kK ?k6 ?k7 ?k8 ?k9 ?kB ?_ ?c2 ?c3 ?c4 ?c5; (case kA => exact rfl); (case kF => exact And.right (by assumption)); (case kK => exact And.left (by assumption)); (case k1 => k_asm); (case k2 => k_asm); (case k3 => k_asm); (case k4 => k_asm); (case k5 => k_asm); (case k6 => k_is); (case k7 => k_is); (case k8 => ktr_room); (case k9 => first | exact BindsTo.of_eq rfl | exact binds_K (by k_in) rfl (by k_is) rfl rfl rfl); (case c5 => decide); (case kB => exact locs rfl); (case c2 => exact rfl); (case c3 => exact rfl); (case c4 => exact rfl); k_whole; intro g' L' h' FG' F' N' B' X' T'; (try dsimp only); (try k_fold))))
local macro_rules | `(tactic| walk_at "call ref") => `(tactic| ((with_reducible show wpAny _ _ (call (Value.ref 1714) _) _ _ _); (k_dflt (refine' dr_ok ?k1 ?k2 ?k3 ?k4 ?k5 ?k6 ?k7 ?k8 ?k9 ?ka ?kb ?_; (case k1 => k_asm); (case k2 => k_asm); (case k3 => k_asm); (case k4 => k_asm); (case k5 => k_asm); (case ka => assumption); (case kb => first | assumption | exact Or.inr rfl); (case k6 => exact ⟨rfl, rfl⟩); (case k7 => walk_at "dp"); (case k8 => walk_at "dp"); (case k9 => assumption))); intro _ _ _ _ _ _ _ _ _ _ _ _ _ _ _))
local macro_rules | `(tactic| walk_at "call ref") => `(tactic| ((with_reducible show wpAny _ _ (call (Value.ref 1714) _) _ _ _); (k_dflt (refine' dr_de ?k1 ?k2 ?k3 ?k4 ?k5 ?k6 ?k7 ?k8 ?k9 ?ka ?kb ?_; (case k1 => k_asm); (case k2 => k_asm); (case k3 => k_asm); (case k4 => k_asm); (case k5 => k_asm); (case ka => assumption); (case kb => with_reducible assumption); (case k6 => exact ⟨rfl, rfl⟩); (case k7 => walk_at "dp"); (case k8 => walk_at "dp"); (case k9 => assumption))); intro _ _ _ _ _ _ _ _ _))
local macro_rules | `(tactic| walk_at "compareOp Eq ref ref") => `(tactic| ((with_reducible show wpAny _ _ (compareOp CmpOp.Eq (Value.ref _) (Value.ref _)) _ _ _); k_dflt (refine' eq_ne_len ?k1 ?k2 ?k3 ?k4 ?k5 ?_; (case k1 => k_asm); (case k2 => k_mem); (case k3 => k_mem); (case k4 => simp; done); (case k5 => walk_at "dp"))))
local macro_rules | `(tactic| walk_at "lsz") => `(tactic| (rw [sizeLine_eq]; (try simp only [List.length_cons, List.length_append, List.length_nil, List.length_replicate]); omega))
local macro_rules | `(tactic| walk_at "mb") => `(tactic| ((try simp only [List.length_cons, List.length_nil]); omega))
local macro_rules | `(tactic| walk_at "binaryOp Mult ref int") => `(tactic| ((with_reducible show wpAny _ _ (binaryOp Operator.Mult (Value.ref _) (Value.int _ _)) _ _ _); k_dflt (refine' mul1_led ?k1 ?k2 ?k3 ?k4 ?k5 ?_; (case k1 => k_asm); (case k2 => k_asm); (case k3 => k_mem); (case k4 => first | omega | (split <;> omega)); (case k5 => first | omega | (split <;> omega))); intro _ _ _ _ l1; (try k_lt l1)))
local macro_rules | `(tactic| walk_at "binaryOp Add ref ref") => `(tactic| ((with_reducible show wpAny _ _ (binaryOp Operator.Add (Value.ref _) (Value.ref _)) _ _ _); k_dflt (refine' add_led ?k1 ?k2 ?k3 ?k4 ?k5 ?_; (case k1 => k_asm); (case k2 => k_asm); (case k3 => k_mem); (case k4 => k_mem); (case k5 => walk_at "lsz")); intro _ _ _ _ l1; (try k_lt l1)))
local macro_rules | `(tactic| walk_at "bin") => `(tactic| (intro n hn; rcases List.mem_append.mp hn with hn | hn <;> (rw [(List.mem_replicate.mp hn).2]; omega)))
local macro_rules | `(tactic| walk_at "lt1") => `(tactic| first | assumption | exact of_allLt (by assumption) | exact of_allLt1 (by assumption) | exact of_allLt2 (by assumption) | exact of_allLt3 (by assumption) | exact lt4 (by assumption) | exact lt5 (by assumption) | exact lt6 (by assumption) | exact lt7 (by assumption) | exact lt8 (by assumption) | exact lt9 (by assumption) | exact lt10 (by assumption))
local macro_rules | `(tactic| walk_at "above") => `(tactic| (repeat (refine List.forall_mem_cons.mpr ⟨by walk_at "lt1", ?_⟩)); exact fun _ h => nomatch h)
local macro_rules | `(tactic| walk_at "GR1") => `(tactic| (fail_if_success (with_reducible show wpAny _ _ (execs (Stmt.Assign [Expr.Name ("values" : Str) _] _ _ :: _) _) _ _ _)))
local macro_rules | `(tactic| walk_at "UP1") => `(tactic| repeat' (first | (k_unfold; (try dsimp only)) | (k_end; wrow_close) | (walk_at "GR1"; walk1) | (dsimp only; walk_at "GR1"; walk1) | (walk_at "GR1"; leave1; (try dsimp only)) | fail "no step"))
local macro_rules | `(tactic| k_mem) => `(tactic| (refine mem_of ?_; ktr_member))
local macro_rules | `(tactic| walk_at "dp") => `(tactic| (k_dflt ((try simp only [depth_deeper, depth_caller, units_in1, units_deeper, units_caller]); decide)))
local macro_rules | `(tactic| walk_at "itd") => `(tactic| ((try simp only [decide_eq_true_eq, beq_iff_eq, Bool.not_eq_true', decide_eq_false_iff_not, bne_iff_ne, ne_eq, List.length_append, List.length_cons, List.length_nil]); omega))
local macro_rules | `(tactic| walk_at "ite") => `(tactic| first | (rw [if_pos (by walk_at "itd")]) | (rw [if_neg (by walk_at "itd")]))
local macro_rules | `(tactic| walk_at "GR") => `(tactic| ((fail_if_success (with_reducible show wpAny _ _ (call (Value.ref 1777) _) _ _ _)); (fail_if_success (with_reducible show wpAny _ _ (pyIter (Value.ref _)) (fun it s₂ => LoopAtV _ _ _ _ _ _ _ _ _ it s₂) _ _)); (fail_if_success (with_reducible show UnrEnd _ _ _ _ _ _ _))))
local macro_rules | `(tactic| walk_at "UPR") => `(tactic| repeat' (first | (k_unfold; (try dsimp only)) | (k_end; wrow_close) | (walk_at "GR"; walk1) | (dsimp only; walk_at "GR"; walk1) | (walk_at "GR"; leave1; (try dsimp only)) | fail "no step"))
local macro_rules | `(tactic| walk_at "call type:range") => `(tactic| ((with_reducible show wpAny _ _ (call (Value.type "range") [Value.int _ _]) _ _ _); (k_dflt (refine' range1_rows ?k1 ?k2 ?_; (case k1 => k_asm); (case k2 => k_asm))); intro _ _ _ _ _ rg9 _ _ _))
local macro_rules | `(tactic| walk_at "call ref") => `(tactic| ((with_reducible show wpAny _ _ (call (Value.ref 1770) [Value.ref _, Value.int 0 _, Value.int _ _]) _ _ _); (fail_if_success skip); (k_dflt (refine' lawat (k := 0) ?k1 ?k2 ?k3 ?k4 ?k5 ?k6 ?k7 ?k8 ?k9 ?ka ?kb ?_; (case k1 => k_asm); (case k2 => k_asm); (case k3 => k_asm); (case k4 => k_asm); (case k5 => k_asm); (case k6 => exact ⟨rfl, rfl⟩); (case k7 => walk_at "dp"); (case k8 => walk_at "dp"); (case k9 => assumption); (case ka => assumption); (case kb => omega))); intro _ _ _ _ _))
local macro_rules | `(tactic| walk_at "GM") => `(tactic| ((fail_if_success (with_reducible show wpAny _ _ (call (Value.ref 1784) _ _) _ _ _)); (fail_if_success (with_reducible show wpAny _ _ (call (Value.ref 1722) _ _) _ _ _)); (fail_if_success (with_reducible show wpAny _ _ (compareOp CmpOp.NotEq (Value.ref _) (Value.ref _)) _ _ _)); (fail_if_success (with_reducible show wpAny _ _ (call (Value.type "bytes") _ _) _ _ _)); (fail_if_success (with_reducible show wpAny _ _ (storeName _ _ _) _ _ _)); (fail_if_success (with_reducible show wpAny _ _ (subscriptTail _ (Expr.Slice _ _ _ _) (Value.bytes _ _) (Value.ref _)) _ _ _)); ))
local macro_rules | `(tactic| walk_at "UPM") => `(tactic| repeat' (first | (k_unfold; (try dsimp only)) | (k_end; wrow_close) | (walk_at "GM"; walk1) | (dsimp only; walk_at "GM"; walk1) | (walk_at "GM"; leave1; (try dsimp only)) | fail "no step"))
section
variable {w : World} {p : Program} {loose : List Str} {mean : ExcName → Option Value} {mg mb : Str → Option Value} {g : Heap} {L fa : Addr} {cd : Value} {m : Str → Option Value} {s : Shared} {Q : Flow → Shared → Prop} {E : Value → Shared → Prop}
theorem ms8 {scr : Addr} {vs : List Value} {is : List Int} {v : Value} {x : List UInt8} {Z : List (Addr × Obj)} {ps : Array Value} {t : Tok}
    (K0 : Below callerA g [] g) (X : (K w.params).In g) (T : Top p loose mean mg mb g) (hL : g.IsList scr vs.toArray) (hI : IntsAre vs is) (hlen : is.length ≤ 63)
    (F : Fr g L s.heap m) (hm : m (Str.ofString "script") = some (.ref scr)) (hm2 : m (Str.ofString "value") = some v) (hm3 : m (Str.ofString "made") = some (.bytes x.toArray t)) (N : News g L s.heap ((1702, tabObj ps) :: Z)) (hp : 0 < x.length) (hl : x.length ≤ 8757)
    (hE : PassesOwn (model rr.prog w) (callerA.deeper (lawE L fa cd)) (lawE L fa cd) E)
    (hQ : ∀ (m' : Str → Option Value) (h' : Heap) (gs : Array GenState) (tk : Nat) (nw : List (Addr × Obj)) (ps : Array Value), Fr g L h' m' → News g L h' nw → (1702, tabObj ps) ∈ nw → GC s.gens gs → Q (.ret (.bool true)) { s with heap := h', gens := gs, toks := tk })
    (hnext : ∀ m' h' tk y t', Fr g L h' m' → m' (Str.ofString "value") = some v → m' (Str.ofString "changed") = some (.bytes (List.toArray y) t') → y ≠ x → List.length y ≤ 40 → News g L h' ((1702, tabObj ps) :: Z) →
      wpAny (model rr.prog w) (callerA.deeper (lawE L fa cd)) (execs (dL.body.drop 11) (lawE L fa cd)) Q E { s with heap := h', toks := tk }) :
    wpAny (model rr.prog w) (callerA.deeper (lawE L fa cd)) (execs (dL.body.drop 8) (lawE L fa cd)) Q E s := by
  have hsz : x.toArray.size = x.length := rfl
  rw [kst_name (m := m) (ps := [(Str.ofString "script", .ref scr), (Str.ofString "value", v), (Str.ofString "made", .bytes x.toArray t)]) (fun q hq => by
      simp only [List.mem_cons, List.not_mem_nil, or_false] at hq
      rcases hq with rfl | rfl | rfl <;> assumption)] at F
  walk_at "UPM"
  · dsimp only
    rename Fr g L _ _ => F2
    rename News g L _ _ => N2
    exact hQ _ _ _ _ _ ps F2 N2 (.head _) (GC.refl _)
  generalize (if (17 : Int) < (is.length : Int) then is.getD (Int.toNat 17) 0 else 1) = n17
  have e3 := Int.fmod_nonneg_of_pos n17 (b := (x.length : Int)) (by omega)
  have e4 := Int.fmod_lt_of_pos n17 (b := (x.length : Int)) (by omega)
  obtain ⟨q, hq⟩ : ∃ q : Nat, n17.fmod (x.length : Int) = (q : Int) := Int.eq_ofNat_of_zero_le e3
  have hqx : q < x.length := by omega
  rw [hq]
  clear hq e3 e4
  walk1
  walk_at "UPM"
  dsimp only
  refine slice_bytes_upto (b := q) (s := ⟨_, _, _, _, _⟩) (by k_asm) (by k_asm) (by omega) ?_
  intro h2 t2 k2 F2 N2
  walk_at "UPM"
  rename News g L _ _ => N3
  rename Fr g L _ _ => F3
  generalize (if (18 : Int) < (is.length : Int) then is.getD (Int.toNat 18) 0 else 5) = n18 at N3
  have j1 := Int.fmod_nonneg_of_pos n18 (b := 255) (by decide)
  have j2 := Int.fmod_lt_of_pos n18 (b := 255) (by decide)
  have hxq : x.getD ((q : Int).toNat) 0 = x[q] := by
    rw [Int.toNat_natCast, List.getD_eq_getElem?_getD, List.getElem?_eq_getElem hqx]
    rfl
  rw [hxq] at N3
  have b1 := Int.fmod_nonneg_of_pos ((x[q].toNat : Int) + 1 + n18.fmod 255) (b := 256) (by decide)
  have b2 := Int.fmod_lt_of_pos ((x[q].toNat : Int) + 1 + n18.fmod 255) (b := 256) (by decide)
  refine bytes_led F3 N3 (.head _) (.cons _ _ .nil) (fun n hn => by rw [List.mem_singleton.mp hn]; exact ⟨b1, b2⟩) (by rw [sizeLine_eq]; simp) rfl ?_
  intro h6 t6 k6 F6 N6
  have N7 := News.sub N6 (l' := (1702, tabObj ps) :: Z) fun p hp => .tail _ hp
  clear N3 F3 N6
  simp only [List.map_cons, List.map_nil]
  have hb := octet_ne (c := x[q]) j1 j2
  have htk : (x.take q).length = q := by rw [List.length_take]; omega
  have hdr : (x.drop (q + 1)).length = x.length - (q + 1) := by rw [List.length_drop]
  generalize ((((x[q].toNat : Int) + 1 + n18.fmod 255).fmod 256).toNat).toUInt8 = b at hb ⊢
  walk_at "UPM"
  (try dsimp only)
  refine slice_bytes_from (a := q + 1) (s := ⟨_, _, _, _, _⟩) (by k_asm) (by k_asm) (by omega) ?_
  intro h8 t8 k8 F8 N8
  walk_at "UPM"
  walk1
  (try dsimp only)
  rename News g L _ _ => N9
  rename Fr g L _ _ => F9
  exact hnext _ _ _ _ _ F9 rfl rfl (changed_ne hqx hb) (by rw [changed_len hqx]; omega) N9
end
end Mine
end

section
open PySem PySem.W PyProof.Rows PySem.Spec PySem.Calls Rlp
set_option Elab.async false
set_option maxRecDepth 100000
set_option maxHeartbeats 1500000
set_option linter.unusedVariables false
namespace Mine
theorem fillKM9 : (fun (_ : OpenLaw) (_ : Params → Frag) => True) PySem.Challenge.rw_bi0020_01 K := by
  k_fill
  trivial
local macro_rules | `(tactic| walk_at "ENTER0") => `(tactic| (refine wpAny_call ?_; k_dflt (refine' code_def ?k1 ?k2 ?k3 ?k4 ?k5 ?kA ?kF ?kK ?k6 ?k7 ?k8 ?k9 ?kB ?_ ?c2 ?c3 ?c4 ?c5; (case kA => exact rfl); (case kF => exact And.right (by assumption)); (case kK => exact And.left (by assumption)); (case k1 => k_asm); (case k2 => k_asm); (case k3 => k_asm); (case k4 => k_asm); (case k5 => k_asm); (case k6 => k_is); (case k7 => k_is); (case k8 => ktr_room); (case k9 => first | exact BindsTo.of_eq rfl | exact binds_K (by k_in) rfl (by k_is) rfl rfl rfl); (case c5 => decide); (case kB => exact locs rfl); (case c2 => exact rfl); (case c3 => exact rfl); (case c4 => exact rfl); k_whole; intro g' L' h' FG' F' N' B' X' T'; (try dsimp only); (try k_fold))))
local macro_rules | `(tactic| walk_at "ENTER") => `(tactic| (walk_at "ENTER0"; k_steps))
local macro_rules | `(tactic| walk_at "bsz") => `(tactic| ((try simp only [List.size_toArray, List.length_append, List.length_cons, List.length_nil, be_length, beK_length, slice_length]); omega))
local macro_rules | `(tactic| walk_at "call builtin:len") => `(tactic| ((with_reducible show wpAny _ _ (call (Value.builtin _) [Value.bytes (List.toArray _) _]) _ _ _); refine len_bytes (by walk_at "bsz") ?_; (try simp only [List.size_toArray, be_length])))
local macro_rules | `(tactic| walk_at "binaryOp Add bytes bytes") => `(tactic| ((with_reducible show wpAny _ _ (binaryOp Operator.Add (Value.bytes (List.toArray _) _) (Value.bytes (List.toArray _) _)) _ _ _); refine KBy.add_bytes (by walk_at "bsz") ?_; intro _ _; (try simp only [List.append_toArray, List.cons_append, List.nil_append])))
local macro_rules | `(tactic| walk_at "call ref") => `(tactic| ((with_reducible show wpAny _ _ (call (Value.ref 1464) _) _ _ _); (k_dflt (refine' b2i ?k1 ?k2 ?k3 ?k4 ?k5 ?k6 ?k7 ?k8 ?k9 ?_; (case k1 => k_asm); (case k2 => k_asm); (case k3 => k_asm); (case k4 => k_asm); (case k5 => k_asm); (case k6 => exact ⟨rfl, rfl⟩); (case k7 => walk_at "dp"); (case k8 => walk_at "dp"); (case k9 => walk_at "bsz"))); intro _ _ _ _ _))
local macro_rules | `(tactic| walk_at "call ref") => `(tactic| ((with_reducible show wpAny _ _ (call (Value.ref 1736) _) _ _ _); (k_dflt (refine' clp_ok ?k1 ?k2 ?k3 ?k4 ?k5 ?k6 ?k7 ?k8 ?k9 ?k0 ?_; (case k1 => k_asm); (case k2 => k_asm); (case k3 => k_asm); (case k4 => k_asm); (case k5 => k_asm); (case k6 => exact ⟨rfl, rfl⟩); (case k7 => walk_at "dp"); (case k8 => walk_at "dp"); (case k9 => walk_at "bsz"); (case k0 => assumption))); intro _ _ _ _ _ _ _ _ _ _))
local macro_rules | `(tactic| walk_at "call ref") => `(tactic| ((with_reducible show wpAny _ _ (call (Value.ref 1457) _) _ _ _); (k_dflt (refine' is_b ?k1 ?k2 ?k3 ?k4 ?k5 ?k6 ?k7 ?k8 ?_; (case k1 => k_asm); (case k2 => k_asm); (case k3 => k_asm); (case k4 => k_asm); (case k5 => k_asm); (case k6 => exact ⟨rfl, rfl⟩); (case k7 => walk_at "dp"); (case k8 => walk_at "dp"))); intro _ _ _ _))
local macro_rules | `(tactic| walk_at "call ref") => `(tactic| ((with_reducible show wpAny _ _ (call (Value.ref 74) [_, _]) _ _ _); (k_dflt (refine' mk_DE ?k1 ?k2 ?k3 ?k4 ?k5 ?k6 ?k7 ?k8 ?_; (case k1 => k_asm); (case k2 => k_asm); (case k3 => k_asm); (case k4 => k_asm); (case k5 => k_asm); (case k6 => exact ⟨rfl, rfl⟩); (case k7 => walk_at "dp"); (case k8 => walk_at "dp"))); intro _ _ _ _ _ _ _ _ _ _; refine RaiseOk.intro (by k_asm) (by k_asm) (by k_asm) (.head _) (exc74 _) ?_))
local macro_rules | `(tactic| walk_at "ENTER0") => `(tactic| (refine wpAny_call ?_; k_dflt (refine' code_def ?k1 ?k2 ?k3 ?k4 ?k5 ?kA ?kF ?kK ?k6 ?k7 ?k8 ?k9 ?kB ?_ ?c2 ?c3 ?c4 ?c5; (case kA => exact rfl); (case kF => exact And.right (by assumption)); (case kK => exact And.left (by assumption)); (case k1 => k_asm); (case k2 => k_asm); (case k3 => k_asm); (case k4 => k_asm); (case k5 => k_asm); (case k6 => k_is); (case k7 => k_is); (case k8 => ktr_room); (case k9 => first | exact BindsTo.of_eq rfl | exact binds_K (by k_in) rfl (by k_is) rfl rfl rfl); (case c5 => decide); (case kB => exact locs rfl); (case c2 => exact rfl); (case c3 => exact rfl); (case c4 => exact rfl); k_whole; intro g' L' h' FG' F' N' B' X' T'; (try dsimp only); (try k_fold))))
local macro_rules | `(tactic| walk_at "call ref") => `(tactic| ((with_reducible show wpAny _ _ (call (Value.ref 1714) _) _ _ _); (k_dflt (refine' dr_ok ?k1 ?k2 ?k3 ?k4 ?k5 ?k6 ?k7 ?k8 ?k9 ?ka ?kb ?_; (case k1 => k_asm); (case k2 => k_asm); (case k3 => k_asm); (case k4 => k_asm); (case k5 => k_asm); (case ka => assumption); (case kb => first | assumption | exact Or.inr rfl); (case k6 => exact ⟨rfl, rfl⟩); (case k7 => walk_at "dp"); (case k8 => walk_at "dp"); (case k9 => assumption))); intro _ _ _ _ _ _ _ _ _ _ _ _ _ _ _))
local macro_rules | `(tactic| walk_at "call ref") => `(tactic| ((with_reducible show wpAny _ _ (call (Value.ref 1714) _) _ _ _); (k_dflt (refine' dr_de ?k1 ?k2 ?k3 ?k4 ?k5 ?k6 ?k7 ?k8 ?k9 ?ka ?kb ?_; (case k1 => k_asm); (case k2 => k_asm); (case k3 => k_asm); (case k4 => k_asm); (case k5 => k_asm); (case ka => assumption); (case kb => with_reducible assumption); (case k6 => exact ⟨rfl, rfl⟩); (case k7 => walk_at "dp"); (case k8 => walk_at "dp"); (case k9 => assumption))); intro _ _ _ _ _ _ _ _ _))
local macro_rules | `(tactic| walk_at "compareOp Eq ref ref") => `(tactic| ((with_reducible show wpAny _ _ (compareOp CmpOp.Eq (Value.ref _) (Value.ref _)) _ _ _); k_dflt (refine' eq_ne_len ?k1 ?k2 ?k3 ?k4 ?k5 ?_; (case k1 => k_asm); (case k2 => k_mem); (case k3 => k_mem); (case k4 => simp; done); (case k5 => walk_at "dp"))))
local macro_rules | `(tactic| walk_at "lsz") => `(tactic| (rw [sizeLine_eq]; (try simp only [List.length_cons, List.length_append, List.length_nil, List.length_replicate]); omega))
local macro_rules | `(tactic| walk_at "mb") => `(tactic| ((try simp only [List.length_cons, List.length_nil]); omega))
local macro_rules | `(tactic| walk_at "binaryOp Mult ref int") => `(tactic| ((with_reducible show wpAny _ _ (binaryOp Operator.Mult (Value.ref _) (Value.int _ _)) _ _ _); k_dflt (refine' mul1_led ?k1 ?k2 ?k3 ?k4 ?k5 ?_; (case k1 => k_asm); (case k2 => k_asm); (case k3 => k_mem); (case k4 => first | omega | (split <;> omega)); (case k5 => first | omega | (split <;> omega))); intro _ _ _ _ l1; (try k_lt l1)))
local macro_rules | `(tactic| walk_at "binaryOp Add ref ref") => `(tactic| ((with_reducible show wpAny _ _ (binaryOp Operator.Add (Value.ref _) (Value.ref _)) _ _ _); k_dflt (refine' add_led ?k1 ?k2 ?k3 ?k4 ?k5 ?_; (case k1 => k_asm); (case k2 => k_asm); (case k3 => k_mem); (case k4 => k_mem); (case k5 => walk_at "lsz")); intro _ _ _ _ l1; (try k_lt l1)))
local macro_rules | `(tactic| walk_at "bin") => `(tactic| (intro n hn; rcases List.mem_append.mp hn with hn | hn <;> (rw [(List.mem_replicate.mp hn).2]; omega)))
local macro_rules | `(tactic| walk_at "lt1") => `(tactic| first | assumption | exact of_allLt (by assumption) | exact of_allLt1 (by assumption) | exact of_allLt2 (by assumption) | exact of_allLt3 (by assumption) | exact lt4 (by assumption) | exact lt5 (by assumption) | exact lt6 (by assumption) | exact lt7 (by assumption) | exact lt8 (by assumption) | exact lt9 (by assumption) | exact lt10 (by assumption))
local macro_rules | `(tactic| walk_at "above") => `(tactic| (repeat (refine List.forall_mem_cons.mpr ⟨by walk_at "lt1", ?_⟩)); exact fun _ h => nomatch h)
local macro_rules | `(tactic| walk_at "GR1") => `(tactic| (fail_if_success (with_reducible show wpAny _ _ (execs (Stmt.Assign [Expr.Name ("values" : Str) _] _ _ :: _) _) _ _ _)))
local macro_rules | `(tactic| walk_at "UP1") => `(tactic| repeat' (first | (k_unfold; (try dsimp only)) | (k_end; wrow_close) | (walk_at "GR1"; walk1) | (dsimp only; walk_at "GR1"; walk1) | (walk_at "GR1"; leave1; (try dsimp only)) | fail "no step"))
local macro_rules | `(tactic| k_mem) => `(tactic| (refine mem_of ?_; ktr_member))
local macro_rules | `(tactic| walk_at "dp") => `(tactic| (k_dflt ((try simp only [depth_deeper, depth_caller, units_in1, units_deeper, units_caller]); decide)))
local macro_rules | `(tactic| walk_at "itd") => `(tactic| ((try simp only [decide_eq_true_eq, beq_iff_eq, Bool.not_eq_true', decide_eq_false_iff_not, bne_iff_ne, ne_eq, List.length_append, List.length_cons, List.length_nil]); omega))
local macro_rules | `(tactic| walk_at "ite") => `(tactic| first | (rw [if_pos (by walk_at "itd")]) | (rw [if_neg (by walk_at "itd")]))
local macro_rules | `(tactic| walk_at "GR") => `(tactic| ((fail_if_success (with_reducible show wpAny _ _ (call (Value.ref 1777) _) _ _ _)); (fail_if_success (with_reducible show wpAny _ _ (pyIter (Value.ref _)) (fun it s₂ => LoopAtV _ _ _ _ _ _ _ _ _ it s₂) _ _)); (fail_if_success (with_reducible show UnrEnd _ _ _ _ _ _ _))))
local macro_rules | `(tactic| walk_at "UPR") => `(tactic| repeat' (first | (k_unfold; (try dsimp only)) | (k_end; wrow_close) | (walk_at "GR"; walk1) | (dsimp only; walk_at "GR"; walk1) | (walk_at "GR"; leave1; (try dsimp only)) | fail "no step"))
local macro_rules | `(tactic| walk_at "call type:range") => `(tactic| ((with_reducible show wpAny _ _ (call (Value.type "range") [Value.int _ _]) _ _ _); (k_dflt (refine' range1_rows ?k1 ?k2 ?_; (case k1 => k_asm); (case k2 => k_asm))); intro _ _ _ _ _ rg9 _ _ _))
local macro_rules | `(tactic| walk_at "call ref") => `(tactic| ((with_reducible show wpAny _ _ (call (Value.ref 1770) [Value.ref _, Value.int 0 _, Value.int _ _]) _ _ _); (fail_if_success skip); (k_dflt (refine' lawat (k := 0) ?k1 ?k2 ?k3 ?k4 ?k5 ?k6 ?k7 ?k8 ?k9 ?ka ?kb ?_; (case k1 => k_asm); (case k2 => k_asm); (case k3 => k_asm); (case k4 => k_asm); (case k5 => k_asm); (case k6 => exact ⟨rfl, rfl⟩); (case k7 => walk_at "dp"); (case k8 => walk_at "dp"); (case k9 => assumption); (case ka => assumption); (case kb => omega))); intro _ _ _ _ _))
local macro_rules | `(tactic| walk_at "GM") => `(tactic| ((fail_if_success (with_reducible show wpAny _ _ (call (Value.ref 1784) _ _) _ _ _)); (fail_if_success (with_reducible show wpAny _ _ (call (Value.ref 1722) _ _) _ _ _)); (fail_if_success (with_reducible show wpAny _ _ (compareOp CmpOp.NotEq (Value.ref _) (Value.ref _)) _ _ _)); (fail_if_success (with_reducible show wpAny _ _ (compareOp CmpOp.Eq (Value.ref _) (Value.ref _)) _ _ _)); ))
local macro_rules | `(tactic| walk_at "UPM") => `(tactic| repeat' (first | (k_unfold; (try dsimp only)) | (k_end; wrow_close) | (walk_at "GM"; walk1) | (dsimp only; walk_at "GM"; walk1) | (walk_at "GM"; leave1; (try dsimp only)) | fail "no step"))
local macro_rules | `(tactic| walk_at "subscriptTail") => `(tactic| ((with_reducible show wpAny _ _ (subscriptTail _ _ (Value.ref _) (Value.int 0 _)) _ _ _); k_dflt (refine' item_led (k := 0) ?k1 ?k2 ?k3 ?k4 ?k5 ?_; (case k1 => k_asm); (case k2 => k_mem); (case k3 => decide); (case k4 => decide); (case k5 => rfl))))
section
variable {w : World} {p : Program} {loose : List Str} {mean : ExcName → Option Value} {mg mb : Str → Option Value} {g : Heap} {L fa : Addr} {cd : Value} {m : Str → Option Value} {s : Shared} {Q : Flow → Shared → Prop} {E : Value → Shared → Prop}
theorem ms11 {v : Value} {d : D} {y : List UInt8} {Z : List (Addr × Obj)} {ps : Array Value} {t : Tok}
    (K0 : Below callerA g [] g) (X : (K w.params).In g) (T : Top p loose mean mg mb g)
    (F : Fr g L s.heap m) (hm : m (Str.ofString "value") = some v) (hm2 : m (Str.ofString "changed") = some (.bytes y.toArray t)) (N : News g L s.heap ((1702, tabObj ps) :: Z)) (h17 : ∀ p ∈ Z, p.1 ≠ 1702) (hv : DIn Z v d) (hd : d.depth ≤ 3) (hy : y ≠ enc d) (hl : y.length ≤ 40) (hps : TriplesOk ps.toList)
    (hE : PassesOwn (model rr.prog w) (callerA.deeper (lawE L fa cd)) (lawE L fa cd) E)
    (hQ : ∀ (m' : Str → Option Value) (h' : Heap) (gs : Array GenState) (tk : Nat) (nw : List (Addr × Obj)) (ps : Array Value), Fr g L h' m' → News g L h' nw → (1702, tabObj ps) ∈ nw → GC s.gens gs → Q (.ret (.bool true)) { s with heap := h', gens := gs, toks := tk }) :
    wpAny (model rr.prog w) (callerA.deeper (lawE L fa cd)) (execs (dL.body.drop 11) (lawE L fa cd)) Q E s := by
  rw [kst_name (m := m) (ps := [(Str.ofString "value", v), (Str.ofString "changed", .bytes y.toArray t)]) (fun q hq => by
    rcases List.mem_cons.mp hq with rfl | hq
    · exact hm
    · rw [List.mem_singleton.mp hq]; exact hm2)] at F
  walk_at "UPM"
  rcases refu_short (x := y) (dep := 41) (by omega) with ⟨d', r, hi, he⟩ | hr
  · k_dflt (refine' lr_ok (dep := 41) ?k1 ?k2 ?k3 ?k4 ?k5 ?k6 ?k7 ?k8 ?k9 hi ?_; (case k1 => k_asm); (case k2 => k_asm); (case k3 => k_asm); (case k4 => k_asm); (case k5 => k_asm); (case k6 => exact ⟨rfl, rfl⟩); (case k7 => walk_at "dp"); (case k8 => walk_at "dp"); (case k9 => omega))
    intro h1 tk1 Rl n v' Z1 F1 N1 hZ hR hv'
    have hz17 : ∀ p ∈ Z1 ++ Z, p.1 ≠ 1702 := fun p hp => by
      rcases List.mem_append.mp hp with hp | hp
      · exact Nat.ne_of_gt (hZ p hp (1702, _) (.head _))
      · exact h17 p hp
    clear hi
    subst he
    have hdd : d' ≠ d := fun h => hy (by rw [h])
    have hdl := depth_lt d'
    walk_at "UPM"
    (try dsimp only)
    rename News g L _ _ => N2
    refine eq_rows (ds := [d']) (es := []) N2 (.tail _ (List.mem_append_left _ hR)) (.head _) (DsIn.mono (fun p hp => .tail _ (List.mem_append_left _ hp)) (.cons hv' .nil)) .nil ?_ ?_
    · have e : cLine = 9900 := rfl
      simp only [units_deeper, units_caller, depths]
      omega
    rw [show (deqs [d'] []) = false from rfl]
    have N3 := News.sub N2 (l' := Z1 ++ (1702, tabObj ps) :: Z) fun p hp => .tail _ hp
    clear N2
    walk_at "UPM"
    (try dsimp only)
    rename News g L _ _ => N2
    refine ne_rows (ds := [d']) (es := [d]) N2 (.tail _ (List.mem_append_left _ hR)) (.head _) (DsIn.mono (fun p hp => .tail _ (List.mem_append_left _ hp)) (.cons hv' .nil)) (DsIn.mono (fun p hp => .tail _ (List.mem_append_right _ (.tail _ hp))) (.cons hv .nil)) ?_ ?_
    · have e : cLine = 9900 := rfl
      simp only [units_deeper, units_caller, depths]
      omega
    rw [show (!deqs [d'] [d]) = true from by
      cases hb : deqs [d'] [d] with
      | false => rfl
      | true => exact absurd (List.head_eq_of_cons_eq (deqs_iff.mp hb)) hdd]
    have N4 := News.sub N2 (l' := (Rl, W.listOf [v'].toArray n) :: (1702, tabObj ps) :: (Z1 ++ Z)) fun p hp => by
      rcases List.mem_cons.mp hp with rfl | hp
      · exact .tail _ (List.mem_append_left _ hR)
      rcases List.mem_cons.mp hp with rfl | hp
      · exact .tail _ (List.mem_append_right _ (.head _))
      rcases List.mem_append.mp hp with hp | hp
      · exact .tail _ (List.mem_append_left _ hp)
      · exact .tail _ (List.mem_append_right _ (.tail _ hp))
    clear N2
    walk_at "UPM"
    k_dflt (refine' en_raw (k := 42) (ps := ps) (d := d') (news := Z1 ++ Z) ?k1 ?k2 ?k3 (News.sub N4 fun q hq => .tail _ hq) ?k5 ?k6 ?k7 ?k8 hps hz17 (DIn.mono (fun p hp => List.mem_append_left _ hp) hv') (by omega) (by omega) ?_; (case k1 => k_asm); (case k2 => k_asm); (case k3 => k_asm); (case k5 => k_asm); (case k6 => exact ⟨rfl, rfl⟩); (case k7 => walk_at "dp"); (case k8 => walk_at "dp"))
    intro h8 gs8 tk8 t8 ps8 F8 N8 hgc8 htr8
    clear N4
    walk_at "UPM"
    (try dsimp only)
    rw [beq_self_eq_true]
    exact hQ _ _ _ _ _ ps8 F8 N8 (.head _) hgc8
  · k_dflt (refine' lr_no X T ?k1 ?k2 ?k3 ?k4 ?k5 ?k6 ?k7 ?k8 ?k9 hr ?_; (case k1 => k_asm); (case k2 => k_asm); (case k3 => k_asm); (case k4 => k_asm); (case k5 => k_asm); (case k6 => exact ⟨rfl, rfl⟩); (case k7 => walk_at "dp"); (case k8 => walk_at "dp"); (case k9 => omega))
    intro h1 tk1 Rl F1 N1 hZ
    walk_at "UPM"
    (try dsimp only)
    rename News g L _ _ => N2
    refine eq_rows (ds := []) (es := []) N2 (.tail _ (.head _)) (.head _) .nil .nil ?_ ?_
    · have e : cLine = 9900 := rfl
      simp only [units_deeper, units_caller, depths]
      omega
    rw [show (deqs [] []) = true from rfl]
    walk_at "UPM"
    rename Fr g L _ _ => F9
    exact hQ _ _ _ _ _ ps F9 N2 (.tail _ (.tail _ (.head _))) (GC.refl _)
end
end Mine
end

section
open PySem PySem.W PyProof.Rows PySem.Spec PySem.Calls Rlp
set_option Elab.async false
set_option maxRecDepth 100000
set_option maxHeartbeats 0
set_option linter.unusedVariables false
namespace Mine
/-- how a law's walk ends well: true, the old heap but for the grown tables, generators bare -/
def LawGood (s₁ : Shared) (tabs : List (Addr × Addr)) (r : Result) (s' : Shared) : Prop :=
  r = .ok (.ret (.bool true)) ∧ (∀ b o, (ghostOf s₁.heap tabs).get? b = some o → s'.heap.get? b = some o) ∧ GrownAll tabs s'.heap ∧ s'.os = s₁.os ∧ AllBare s'.gens
theorem law_post {M : Model} {A : Around} {cd : Code} {s s₁ : Shared} {cw : ClaimW} {cl : Str → Option Addr} {mean : ExcName → Option Value} {args : List WData} {tabs : List (Addr × Addr)} (hT : TabsAt tabs s₁.heap) (hr : ∀ a x, cw.raises a x = false)
    (hp : cw.post args (.bool true) args = true) (h : codeAny M A cd (LawGood s₁ tabs) s) : codeAny M A cd (GoodWG cw cl mean args s₁) s :=
  codeAny_mono h fun r s' ⟨hc, hk, hgr, hos, hg⟩ => by
    subst hc
    have keep : ∀ b o, b ∉ tabs.map (·.2) → s₁.heap.get? b = some o → s'.heap.get? b = some o := fun b o hb e => hk b o (ghost_ne e hb)
    have grown : ∀ b o, b ∈ tabs.map (·.2) → s₁.heap.get? b = some o → isCodeTable s₁.heap b ∧ o = W.tabObj #[] ∧ ∃ ps, s'.heap.get? b = some (W.tabObj ps) := fun b o hb e => by
      obtain ⟨q, hq, rfl⟩ := List.mem_map.mp hb
      have e2 := (hT q hq).2
      rw [e] at e2
      exact ⟨((hT q hq).1.tab (hT q hq).2).isCodeTable, Option.some.inj e2, hgr.get q hq⟩
    refine ⟨.inl ⟨.bool true, .bool true, [], rfl, hr args, .bool true, hp, fun _ => ⟨.nil, fun _ ha => nomatch ha⟩⟩, ⟨fun b o e => ?_, fun b o e => ?_⟩, hos, hg⟩
    · by_cases hb : b ∈ tabs.map (·.2)
      · obtain ⟨ht, rfl, ps, hP⟩ := grown b o hb e
        exact .inr (.inl ⟨ht, rfl, #[], ps, rfl, by rw [Array.empty_append]; exact hP⟩)
      · exact .inl (keep b o hb e)
    · by_cases hb : b ∈ tabs.map (·.2)
      · obtain ⟨_, _, ps, hP⟩ := grown b o hb e
        exact ⟨_, hP⟩
      · exact ⟨o, keep b o hb e⟩
end Mine
end

section
open PySem PySem.W PyProof.Rows PySem.Spec PySem.Calls Rlp
set_option Elab.async false
set_option maxRecDepth 100000
set_option maxHeartbeats 1500000
set_option linter.unusedVariables false
namespace Mine
theorem fillKMA : (fun (_ : OpenLaw) (_ : Params → Frag) => True) PySem.Challenge.rw_bi0020_01 K := by
  k_fill
  trivial
section
variable {w : World} {p : Program} {loose : List Str} {mean : ExcName → Option Value} {mg mb : Str → Option Value} {g : Heap} {L fa : Addr} {cd : Value} {m : Str → Option Value} {s : Shared} {Q : Flow → Shared → Prop} {E : Value → Shared → Prop}
theorem law_execs {scr : Addr} {vs : List Value} {is : List Int} {c1 : Obj}
    (K0 : Below callerA g [] g) (X : (K w.params).In g) (T : Top p loose mean mg mb g) (hL : g.IsList scr vs.toArray) (hI : IntsAre vs is) (hlen : is.length ≤ 63)
    (F : Fr g L s.heap m) (hm : m (Str.ofString "script") = some (.ref scr)) (N : News g L s.heap [(L + 1, c1), (1702, tabObj #[])]) (hc1 : c1.data = .cell none) (h17 : 1702 < L)
    (hE : PassesOwn (model rr.prog w) (callerA.deeper (lawE L fa cd)) (lawE L fa cd) E)
    (hQ : ∀ (m' : Str → Option Value) (h' : Heap) (gs : Array GenState) (tk : Nat) (nw : List (Addr × Obj)) (ps : Array Value), Fr g L h' m' → News g L h' nw → (1702, tabObj ps) ∈ nw → GC s.gens gs → Q (.ret (.bool true)) { s with heap := h', gens := gs, toks := tk }) :
    Box (wpAny (model rr.prog w) (callerA.deeper (lawE L fa cd)) (execs dL.body (lawE L fa cd)) Q E s) := by
  refine ms0 K0 X T hL hI hlen F hm N hc1 h17 hE ?_
  intro m1 h1 tk1 x t1 F1 hm1 hm1' hx N1
  refine ms2 K0 X T F1 hm1 hm1' hx N1 h17 hE ?_
  intro m2 h2 gs2 tk2 ps2 F2 hm2 N2 hgc2 htr2
  refine ms4 K0 X T hL hI hlen F2 hm2 N2 h17 hE ?_
  intro m3 h3 tk3 v d Z F3 hm3 hm3' N3 hZ hv hd hl
  refine ms5 K0 X T F3 hm3 hm3' N3 hZ hv hd hl htr2 hE ?_
  intro m4 h4 gs4 tk4 ps4 t4 F4 hm4 hm4' hm4'' N4 hgc4 htr4
  refine ms6 K0 X T hL hI hlen F4 hm4 hm4' hm4'' N4 hZ hv hd hl hE ?_
  intro m5 h5 tk5 F5 hm5 hm5' hm5'' N5
  have hp := enc_length_pos d
  refine ms7 K0 X T F5 hm5 hm5' hm5'' N5 hp hl hE ?_
  intro m6 h6 tk6 F6 hm6 hm6' hm6'' N6
  refine ms8 K0 X T hL hI hlen F6 hm6 hm6' hm6'' N6 hp hl hE ?_ ?_
  · intro m8 h8 gs8 tk8 nw8 ps8 F8 N8 hin8 hgc8
    exact hQ m8 h8 gs8 tk8 nw8 ps8 F8 N8 hin8 (hgc2.trans (hgc4.trans hgc8))
  intro m7 h7 tk7 y t7 F7 hm7 hm7' hy hyl N7
  refine ms11 K0 X T F7 hm7 hm7' N7 hZ hv hd hy hyl htr4 hE ?_
  intro m8 h8 gs8 tk8 nw8 ps8 F8 N8 hin8 hgc8
  exact hQ m8 h8 gs8 tk8 nw8 ps8 F8 N8 hin8 (hgc2.trans (hgc4.trans hgc8))
end
theorem walk : Walk := by
  intro w s₀ s₁ mg mb G Y fa o pm cd doc dV kV ho hd hcd hD hmg hg args vals as hpre hlay hrd hwl hlo
  have KX := kIn_of Y
  have X := (Ground.X G).1
  have V := (Ground.X G).2
  refine Ground.open G ?_
  intro T B D TE TW
  have hT9 : TabsAt [(1706, 1702)] s₁.heap := List.forall_mem_cons.mpr ⟨tab_of (x := Str.ofString "encode_raw") (c := 1706) (P := 1702) T KX rfl (by kernel_rfl), fun _ h => nomatch h⟩
  clear hmg
  wrow_args hpre hlay hrd hwl hlo
  all_goals (
    refine enter_call ?_
    w_top on
    refine law_post hT9 (fun _ _ => rfl) (by wrow_post) ?_
    w_call any ho hd hcd hD T F
    clear hd
    kn_ghosts F T
    k_drop
    skip)
  rename_i d1 X0 X' T' K' F' N' l0
  rename IntsAre _ _ => hI9
  rename ¬ _ < _ => hlen9
  refine Box.out ?_
  refine law_execs K' X' T' lifted hI9 (by omega) F' rfl N' ?d1 l0 PassesOwn.leaving ?hQ
  case d1 => exact d1
  case hQ =>
    intro m' h' gs tk nw ps F9 N9 hin hgc
    refine ⟨rfl, F9.keep, ?_, rfl, hgc.2.2 ?_⟩
    · exact ⟨⟨ps, (N9 _ hin).1⟩, trivial⟩
    · exact AllBare.of_eq hg
end Mine
end

open PySem PySem.W PyProof.Rows
set_option maxRecDepth 100000 in
set_option maxHeartbeats 0 in
theorem PySem.Challenge.cw_bi0020_01_holds : PySem.Challenge.rw_bi0020_01.Holds := by
  w_on
  o_law
  exact Mine.hd (by assumption) Mine.walk
