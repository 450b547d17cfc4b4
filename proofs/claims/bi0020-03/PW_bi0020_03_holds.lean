import PyProof.Rows.All
import PyProof.FactsAll.list_2
import PyProof.EqAt
import PyProof.EqKinds
import PyProof.NeKinds
import PyProof.GenQ
import PyProof.Rows.RowBridgeG
import KE.KNest
import Wide.FinOn
import OpenK.AllK
import Wide.All
import PySem.Challenge.RW_bi0020_03
set_option Elab.async false
section
set_option maxRecDepth 100000
set_option maxHeartbeats 0
set_option linter.unusedVariables false
set_option Elab.async false
open PySem PySem.W PyProof.Rows

noncomputable section
namespace Mine
abbrev pw : Program := PySem.Challenge.pw_bi0020_03
noncomputable def st (i : Nat) : Stmt := pw.main.body.getD i (.Pass default)
noncomputable def me (i j : Nat) : Stmt := match st i with | .ClassDef _ _ _ b _ _ _ _ _ _ _ => b.getD j (.Pass default) | s => s
noncomputable def fname : Stmt → Str | .FunctionDef n _ _ _ _ _ _ _ _ _ => n | _ => default
noncomputable def fargs : Stmt → Arguments | .FunctionDef _ a _ _ _ _ _ _ _ _ => a | _ => default
noncomputable def fbody : Stmt → List Stmt | .FunctionDef _ _ b _ _ _ _ _ _ _ => b | _ => []
noncomputable def fscope : Stmt → Scope | .FunctionDef _ _ _ _ _ _ s _ _ _ => s | _ => default
noncomputable def fpos : Stmt → Pos | .FunctionDef _ _ _ _ _ _ _ _ _ p => p | _ => default
noncomputable def fd (s : Stmt) (qual : Str) (g : Addr) (cl : List (Str × Addr)) (dV kV doc pm : Value) (an : Option Addr) (cd ct : Value) (bl : Addr) : FuncData :=
  { name := fname s, qualname := qual, params := fargs s, body := .stmts (fbody s), scope := fscope s, globals := g, closure := cl, defaults := dV, kwdefaults := kV, doc := doc, pyModule := pm, annotations := an, code := cd, closureTuple := ct, builtins := bl }
noncomputable def de (P : Params) (s : Str) (t : Tok) (v : Value) : DictEntry := ⟨PyData.keyHash P s, .str s t, v⟩
noncomputable def boot_life : Life := {}
noncomputable def gb (i : Nat) : Nat → Obj
  | 0 => ⟨.type "list", none, .seq ⟨[.int (Int.ofNat i) (395 + 3 * i)]⟩ 0, ⟨[]⟩⟩
  | 1 => ⟨.type "list_iterator", none, .fields ⟨[.none, .int 1 0]⟩, ⟨[]⟩⟩
  | 2 => ⟨.type "bytearray", none, .bytearray ⟨[UInt8.ofNat i]⟩ 0, ⟨[]⟩⟩
  | 3 => ⟨.type "tuple", none, .seq ⟨[]⟩ 0, ⟨[]⟩⟩
  | _ => ⟨.type "StopIteration", none, .fields ⟨[.ref (167 + 5 * i + 3), .none, .none, .none, .bool false, .none]⟩, ⟨[]⟩⟩
def z0 : Str := ⟨⟨[95, 95, 110, 97, 109, 101, 95, 95]⟩⟩
def z1 : Str := ⟨⟨[98, 117, 105, 108, 116, 105, 110, 115]⟩⟩
def z2 : Str := ⟨⟨[95, 95, 100, 111, 99, 95, 95]⟩⟩
def z3 : Str := ⟨⟨[95, 95, 112, 97, 99, 107, 97, 103, 101, 95, 95]⟩⟩
def z4 : Str := ⟨⟨[95, 95, 108, 111, 97, 100, 101, 114, 95, 95]⟩⟩
def z5 : Str := ⟨⟨[95, 95, 115, 112, 101, 99, 95, 95]⟩⟩
def z6 : Str := ⟨⟨[95, 95, 98, 117, 105, 108, 100, 95, 99, 108, 97, 115, 115, 95, 95]⟩⟩
def z7 : Str := ⟨⟨[95, 95, 105, 109, 112, 111, 114, 116, 95, 95]⟩⟩
def z8 : Str := ⟨⟨[97, 98, 115]⟩⟩
def z9 : Str := ⟨⟨[97, 108, 108]⟩⟩
def z10 : Str := ⟨⟨[97, 110, 121]⟩⟩
def z11 : Str := ⟨⟨[97, 115, 99, 105, 105]⟩⟩
def z12 : Str := ⟨⟨[98, 105, 110]⟩⟩
def z13 : Str := ⟨⟨[98, 114, 101, 97, 107, 112, 111, 105, 110, 116]⟩⟩
def z14 : Str := ⟨⟨[99, 97, 108, 108, 97, 98, 108, 101]⟩⟩
def z15 : Str := ⟨⟨[99, 104, 114]⟩⟩
def z16 : Str := ⟨⟨[99, 111, 109, 112, 105, 108, 101]⟩⟩
def z17 : Str := ⟨⟨[100, 101, 108, 97, 116, 116, 114]⟩⟩
def z18 : Str := ⟨⟨[100, 105, 114]⟩⟩
def z19 : Str := ⟨⟨[100, 105, 118, 109, 111, 100]⟩⟩
def z20 : Str := ⟨⟨[101, 118, 97, 108]⟩⟩
def z21 : Str := ⟨⟨[101, 120, 101, 99]⟩⟩
def z22 : Str := ⟨⟨[102, 111, 114, 109, 97, 116]⟩⟩
def z23 : Str := ⟨⟨[103, 101, 116, 97, 116, 116, 114]⟩⟩
def z24 : Str := ⟨⟨[103, 108, 111, 98, 97, 108, 115]⟩⟩
def z25 : Str := ⟨⟨[104, 97, 115, 97, 116, 116, 114]⟩⟩
def z26 : Str := ⟨⟨[104, 97, 115, 104]⟩⟩
def z27 : Str := ⟨⟨[104, 101, 120]⟩⟩
def z28 : Str := ⟨⟨[105, 100]⟩⟩
def z29 : Str := ⟨⟨[105, 110, 112, 117, 116]⟩⟩
def z30 : Str := ⟨⟨[105, 115, 105, 110, 115, 116, 97, 110, 99, 101]⟩⟩
def z31 : Str := ⟨⟨[105, 115, 115, 117, 98, 99, 108, 97, 115, 115]⟩⟩
def z32 : Str := ⟨⟨[105, 116, 101, 114]⟩⟩
def z33 : Str := ⟨⟨[97, 105, 116, 101, 114]⟩⟩
def z34 : Str := ⟨⟨[108, 101, 110]⟩⟩
def z35 : Str := ⟨⟨[108, 111, 99, 97, 108, 115]⟩⟩
def z36 : Str := ⟨⟨[109, 97, 120]⟩⟩
def z37 : Str := ⟨⟨[109, 105, 110]⟩⟩
def z38 : Str := ⟨⟨[110, 101, 120, 116]⟩⟩
def z39 : Str := ⟨⟨[97, 110, 101, 120, 116]⟩⟩
def z40 : Str := ⟨⟨[111, 99, 116]⟩⟩
def z41 : Str := ⟨⟨[111, 114, 100]⟩⟩
def z42 : Str := ⟨⟨[112, 111, 119]⟩⟩
def z43 : Str := ⟨⟨[112, 114, 105, 110, 116]⟩⟩
def z44 : Str := ⟨⟨[114, 101, 112, 114]⟩⟩
def z45 : Str := ⟨⟨[114, 111, 117, 110, 100]⟩⟩
def z46 : Str := ⟨⟨[115, 101, 116, 97, 116, 116, 114]⟩⟩
def z47 : Str := ⟨⟨[115, 111, 114, 116, 101, 100]⟩⟩
def z48 : Str := ⟨⟨[115, 117, 109]⟩⟩
def z49 : Str := ⟨⟨[118, 97, 114, 115]⟩⟩
def z50 : Str := ⟨⟨[78, 111, 110, 101]⟩⟩
def z51 : Str := ⟨⟨[69, 108, 108, 105, 112, 115, 105, 115]⟩⟩
def z52 : Str := ⟨⟨[78, 111, 116, 73, 109, 112, 108, 101, 109, 101, 110, 116, 101, 100]⟩⟩
def z53 : Str := ⟨⟨[70, 97, 108, 115, 101]⟩⟩
def z54 : Str := ⟨⟨[84, 114, 117, 101]⟩⟩
def z55 : Str := ⟨⟨[98, 111, 111, 108]⟩⟩
def z56 : Str := ⟨⟨[109, 101, 109, 111, 114, 121, 118, 105, 101, 119]⟩⟩
def z57 : Str := ⟨⟨[98, 121, 116, 101, 97, 114, 114, 97, 121]⟩⟩
def z58 : Str := ⟨⟨[98, 121, 116, 101, 115]⟩⟩
def z59 : Str := ⟨⟨[99, 108, 97, 115, 115, 109, 101, 116, 104, 111, 100]⟩⟩
def z60 : Str := ⟨⟨[99, 111, 109, 112, 108, 101, 120]⟩⟩
def z61 : Str := ⟨⟨[100, 105, 99, 116]⟩⟩
def z62 : Str := ⟨⟨[101, 110, 117, 109, 101, 114, 97, 116, 101]⟩⟩
def z63 : Str := ⟨⟨[102, 105, 108, 116, 101, 114]⟩⟩
def z64 : Str := ⟨⟨[102, 108, 111, 97, 116]⟩⟩
def z65 : Str := ⟨⟨[102, 114, 111, 122, 101, 110, 115, 101, 116]⟩⟩
def z66 : Str := ⟨⟨[112, 114, 111, 112, 101, 114, 116, 121]⟩⟩
def z67 : Str := ⟨⟨[105, 110, 116]⟩⟩
def z68 : Str := ⟨⟨[108, 105, 115, 116]⟩⟩
def z69 : Str := ⟨⟨[109, 97, 112]⟩⟩
def z70 : Str := ⟨⟨[111, 98, 106, 101, 99, 116]⟩⟩
def z71 : Str := ⟨⟨[114, 97, 110, 103, 101]⟩⟩
def z72 : Str := ⟨⟨[114, 101, 118, 101, 114, 115, 101, 100]⟩⟩
def z73 : Str := ⟨⟨[115, 101, 116]⟩⟩
def z74 : Str := ⟨⟨[115, 108, 105, 99, 101]⟩⟩
def z75 : Str := ⟨⟨[115, 116, 97, 116, 105, 99, 109, 101, 116, 104, 111, 100]⟩⟩
def z76 : Str := ⟨⟨[115, 116, 114]⟩⟩
def z77 : Str := ⟨⟨[115, 117, 112, 101, 114]⟩⟩
def z78 : Str := ⟨⟨[116, 117, 112, 108, 101]⟩⟩
def z79 : Str := ⟨⟨[116, 121, 112, 101]⟩⟩
def z80 : Str := ⟨⟨[122, 105, 112]⟩⟩
def z81 : Str := ⟨⟨[95, 95, 100, 101, 98, 117, 103, 95, 95]⟩⟩
def z82 : Str := ⟨⟨[66, 97, 115, 101, 69, 120, 99, 101, 112, 116, 105, 111, 110]⟩⟩
def z83 : Str := ⟨⟨[66, 97, 115, 101, 69, 120, 99, 101, 112, 116, 105, 111, 110, 71, 114, 111, 117, 112]⟩⟩
def z84 : Str := ⟨⟨[69, 120, 99, 101, 112, 116, 105, 111, 110]⟩⟩
def z85 : Str := ⟨⟨[71, 101, 110, 101, 114, 97, 116, 111, 114, 69, 120, 105, 116]⟩⟩
def z86 : Str := ⟨⟨[75, 101, 121, 98, 111, 97, 114, 100, 73, 110, 116, 101, 114, 114, 117, 112, 116]⟩⟩
def z87 : Str := ⟨⟨[83, 121, 115, 116, 101, 109, 69, 120, 105, 116]⟩⟩
def z88 : Str := ⟨⟨[65, 114, 105, 116, 104, 109, 101, 116, 105, 99, 69, 114, 114, 111, 114]⟩⟩
def z89 : Str := ⟨⟨[65, 115, 115, 101, 114, 116, 105, 111, 110, 69, 114, 114, 111, 114]⟩⟩
def z90 : Str := ⟨⟨[65, 116, 116, 114, 105, 98, 117, 116, 101, 69, 114, 114, 111, 114]⟩⟩
def z91 : Str := ⟨⟨[66, 117, 102, 102, 101, 114, 69, 114, 114, 111, 114]⟩⟩
def z92 : Str := ⟨⟨[69, 79, 70, 69, 114, 114, 111, 114]⟩⟩
def z93 : Str := ⟨⟨[73, 109, 112, 111, 114, 116, 69, 114, 114, 111, 114]⟩⟩
def z94 : Str := ⟨⟨[76, 111, 111, 107, 117, 112, 69, 114, 114, 111, 114]⟩⟩
def z95 : Str := ⟨⟨[77, 101, 109, 111, 114, 121, 69, 114, 114, 111, 114]⟩⟩
def z96 : Str := ⟨⟨[78, 97, 109, 101, 69, 114, 114, 111, 114]⟩⟩
def z97 : Str := ⟨⟨[79, 83, 69, 114, 114, 111, 114]⟩⟩
def z98 : Str := ⟨⟨[82, 101, 102, 101, 114, 101, 110, 99, 101, 69, 114, 114, 111, 114]⟩⟩
def z99 : Str := ⟨⟨[82, 117, 110, 116, 105, 109, 101, 69, 114, 114, 111, 114]⟩⟩
def z100 : Str := ⟨⟨[83, 116, 111, 112, 65, 115, 121, 110, 99, 73, 116, 101, 114, 97, 116, 105, 111, 110]⟩⟩
def z101 : Str := ⟨⟨[83, 116, 111, 112, 73, 116, 101, 114, 97, 116, 105, 111, 110]⟩⟩
def z102 : Str := ⟨⟨[83, 121, 110, 116, 97, 120, 69, 114, 114, 111, 114]⟩⟩
def z103 : Str := ⟨⟨[83, 121, 115, 116, 101, 109, 69, 114, 114, 111, 114]⟩⟩
def z104 : Str := ⟨⟨[84, 121, 112, 101, 69, 114, 114, 111, 114]⟩⟩
def z105 : Str := ⟨⟨[86, 97, 108, 117, 101, 69, 114, 114, 111, 114]⟩⟩
def z106 : Str := ⟨⟨[87, 97, 114, 110, 105, 110, 103]⟩⟩
def z107 : Str := ⟨⟨[70, 108, 111, 97, 116, 105, 110, 103, 80, 111, 105, 110, 116, 69, 114, 114, 111, 114]⟩⟩
def z108 : Str := ⟨⟨[79, 118, 101, 114, 102, 108, 111, 119, 69, 114, 114, 111, 114]⟩⟩
def z109 : Str := ⟨⟨[90, 101, 114, 111, 68, 105, 118, 105, 115, 105, 111, 110, 69, 114, 114, 111, 114]⟩⟩
def z110 : Str := ⟨⟨[66, 121, 116, 101, 115, 87, 97, 114, 110, 105, 110, 103]⟩⟩
def z111 : Str := ⟨⟨[68, 101, 112, 114, 101, 99, 97, 116, 105, 111, 110, 87, 97, 114, 110, 105, 110, 103]⟩⟩
def z112 : Str := ⟨⟨[69, 110, 99, 111, 100, 105, 110, 103, 87, 97, 114, 110, 105, 110, 103]⟩⟩
def z113 : Str := ⟨⟨[70, 117, 116, 117, 114, 101, 87, 97, 114, 110, 105, 110, 103]⟩⟩
def z114 : Str := ⟨⟨[73, 109, 112, 111, 114, 116, 87, 97, 114, 110, 105, 110, 103]⟩⟩
def z115 : Str := ⟨⟨[80, 101, 110, 100, 105, 110, 103, 68, 101, 112, 114, 101, 99, 97, 116, 105, 111, 110, 87, 97, 114, 110, 105, 110, 103]⟩⟩
def z116 : Str := ⟨⟨[82, 101, 115, 111, 117, 114, 99, 101, 87, 97, 114, 110, 105, 110, 103]⟩⟩
def z117 : Str := ⟨⟨[82, 117, 110, 116, 105, 109, 101, 87, 97, 114, 110, 105, 110, 103]⟩⟩
def z118 : Str := ⟨⟨[83, 121, 110, 116, 97, 120, 87, 97, 114, 110, 105, 110, 103]⟩⟩
def z119 : Str := ⟨⟨[85, 110, 105, 99, 111, 100, 101, 87, 97, 114, 110, 105, 110, 103]⟩⟩
def z120 : Str := ⟨⟨[85, 115, 101, 114, 87, 97, 114, 110, 105, 110, 103]⟩⟩
def z121 : Str := ⟨⟨[66, 108, 111, 99, 107, 105, 110, 103, 73, 79, 69, 114, 114, 111, 114]⟩⟩
def z122 : Str := ⟨⟨[67, 104, 105, 108, 100, 80, 114, 111, 99, 101, 115, 115, 69, 114, 114, 111, 114]⟩⟩
def z123 : Str := ⟨⟨[67, 111, 110, 110, 101, 99, 116, 105, 111, 110, 69, 114, 114, 111, 114]⟩⟩
def z124 : Str := ⟨⟨[70, 105, 108, 101, 69, 120, 105, 115, 116, 115, 69, 114, 114, 111, 114]⟩⟩
def z125 : Str := ⟨⟨[70, 105, 108, 101, 78, 111, 116, 70, 111, 117, 110, 100, 69, 114, 114, 111, 114]⟩⟩
def z126 : Str := ⟨⟨[73, 110, 116, 101, 114, 114, 117, 112, 116, 101, 100, 69, 114, 114, 111, 114]⟩⟩
def z127 : Str := ⟨⟨[73, 115, 65, 68, 105, 114, 101, 99, 116, 111, 114, 121, 69, 114, 114, 111, 114]⟩⟩
def z128 : Str := ⟨⟨[78, 111, 116, 65, 68, 105, 114, 101, 99, 116, 111, 114, 121, 69, 114, 114, 111, 114]⟩⟩
def z129 : Str := ⟨⟨[80, 101, 114, 109, 105, 115, 115, 105, 111, 110, 69, 114, 114, 111, 114]⟩⟩
def z130 : Str := ⟨⟨[80, 114, 111, 99, 101, 115, 115, 76, 111, 111, 107, 117, 112, 69, 114, 114, 111, 114]⟩⟩
def z131 : Str := ⟨⟨[84, 105, 109, 101, 111, 117, 116, 69, 114, 114, 111, 114]⟩⟩
def z132 : Str := ⟨⟨[73, 110, 100, 101, 110, 116, 97, 116, 105, 111, 110, 69, 114, 114, 111, 114]⟩⟩
def z133 : Str := ⟨⟨[95, 73, 110, 99, 111, 109, 112, 108, 101, 116, 101, 73, 110, 112, 117, 116, 69, 114, 114, 111, 114]⟩⟩
def z134 : Str := ⟨⟨[73, 110, 100, 101, 120, 69, 114, 114, 111, 114]⟩⟩
def z135 : Str := ⟨⟨[75, 101, 121, 69, 114, 114, 111, 114]⟩⟩
def z136 : Str := ⟨⟨[77, 111, 100, 117, 108, 101, 78, 111, 116, 70, 111, 117, 110, 100, 69, 114, 114, 111, 114]⟩⟩
def z137 : Str := ⟨⟨[78, 111, 116, 73, 109, 112, 108, 101, 109, 101, 110, 116, 101, 100, 69, 114, 114, 111, 114]⟩⟩
def z138 : Str := ⟨⟨[80, 121, 116, 104, 111, 110, 70, 105, 110, 97, 108, 105, 122, 97, 116, 105, 111, 110, 69, 114, 114, 111, 114]⟩⟩
def z139 : Str := ⟨⟨[82, 101, 99, 117, 114, 115, 105, 111, 110, 69, 114, 114, 111, 114]⟩⟩
def z140 : Str := ⟨⟨[85, 110, 98, 111, 117, 110, 100, 76, 111, 99, 97, 108, 69, 114, 114, 111, 114]⟩⟩
def z141 : Str := ⟨⟨[85, 110, 105, 99, 111, 100, 101, 69, 114, 114, 111, 114]⟩⟩
def z142 : Str := ⟨⟨[66, 114, 111, 107, 101, 110, 80, 105, 112, 101, 69, 114, 114, 111, 114]⟩⟩
def z143 : Str := ⟨⟨[67, 111, 110, 110, 101, 99, 116, 105, 111, 110, 65, 98, 111, 114, 116, 101, 100, 69, 114, 114, 111, 114]⟩⟩
def z144 : Str := ⟨⟨[67, 111, 110, 110, 101, 99, 116, 105, 111, 110, 82, 101, 102, 117, 115, 101, 100, 69, 114, 114, 111, 114]⟩⟩
def z145 : Str := ⟨⟨[67, 111, 110, 110, 101, 99, 116, 105, 111, 110, 82, 101, 115, 101, 116, 69, 114, 114, 111, 114]⟩⟩
def z146 : Str := ⟨⟨[84, 97, 98, 69, 114, 114, 111, 114]⟩⟩
def z147 : Str := ⟨⟨[85, 110, 105, 99, 111, 100, 101, 68, 101, 99, 111, 100, 101, 69, 114, 114, 111, 114]⟩⟩
def z148 : Str := ⟨⟨[85, 110, 105, 99, 111, 100, 101, 69, 110, 99, 111, 100, 101, 69, 114, 114, 111, 114]⟩⟩
def z149 : Str := ⟨⟨[85, 110, 105, 99, 111, 100, 101, 84, 114, 97, 110, 115, 108, 97, 116, 101, 69, 114, 114, 111, 114]⟩⟩
def z150 : Str := ⟨⟨[69, 120, 99, 101, 112, 116, 105, 111, 110, 71, 114, 111, 117, 112]⟩⟩
def z151 : Str := ⟨⟨[69, 110, 118, 105, 114, 111, 110, 109, 101, 110, 116, 69, 114, 114, 111, 114]⟩⟩
def z152 : Str := ⟨⟨[73, 79, 69, 114, 114, 111, 114]⟩⟩
def z153 : Str := ⟨⟨[111, 112, 101, 110]⟩⟩
def z154 : Str := ⟨⟨[113, 117, 105, 116]⟩⟩
def z155 : Str := ⟨⟨[101, 120, 105, 116]⟩⟩
def z156 : Str := ⟨⟨[99, 111, 112, 121, 114, 105, 103, 104, 116]⟩⟩
def z157 : Str := ⟨⟨[99, 114, 101, 100, 105, 116, 115]⟩⟩
def z158 : Str := ⟨⟨[108, 105, 99, 101, 110, 115, 101]⟩⟩
def z159 : Str := ⟨⟨[104, 101, 108, 112]⟩⟩
def z160 : Str := ⟨⟨[95, 95, 109, 97, 105, 110, 95, 95]⟩⟩
def z161 : Str := ⟨⟨[60, 109, 111, 100, 117, 108, 101, 62]⟩⟩
def z162 : Str := ⟨⟨[47, 99, 108, 97, 105, 109, 47, 99, 117, 116, 46, 112, 121]⟩⟩
def z163 : Str := ⟨⟨[107]⟩⟩
def z164 : Str := ⟨⟨[95, 119, 97, 108, 108]⟩⟩
def z165 : Str := ⟨⟨[95, 95, 109, 111, 100, 117, 108, 101, 95, 95]⟩⟩
def z166 : Str := ⟨⟨[114, 108, 112, 46, 101, 120, 99, 101, 112, 116, 105, 111, 110, 115]⟩⟩
def z167 : Str := ⟨⟨[95, 95, 113, 117, 97, 108, 110, 97, 109, 101, 95, 95]⟩⟩
def z168 : Str := ⟨⟨[82, 76, 80, 69, 120, 99, 101, 112, 116, 105, 111, 110]⟩⟩
def z169 : Str := ⟨⟨[95, 95, 102, 105, 114, 115, 116, 108, 105, 110, 101, 110, 111, 95, 95]⟩⟩
def z170 : Str := ⟨⟨[95, 95, 115, 116, 97, 116, 105, 99, 95, 97, 116, 116, 114, 105, 98, 117, 116, 101, 115, 95, 95]⟩⟩
def z171 : Str := ⟨⟨[95, 95, 119, 101, 97, 107, 114, 101, 102, 95, 95]⟩⟩
def z172 : Str := ⟨⟨[69, 110, 99, 111, 100, 105, 110, 103, 69, 114, 114, 111, 114]⟩⟩
def z173 : Str := ⟨⟨[95, 95, 105, 110, 105, 116, 95, 95]⟩⟩
def z174 : Str := ⟨⟨[95, 95, 99, 108, 97, 115, 115, 99, 101, 108, 108, 95, 95]⟩⟩
def z175 : Str := ⟨⟨[95, 95, 99, 108, 97, 115, 115, 95, 95]⟩⟩
def z176 : Str := ⟨⟨[115, 101, 108, 102]⟩⟩
def z177 : Str := ⟨⟨[109, 101, 115, 115, 97, 103, 101]⟩⟩
def z178 : Str := ⟨⟨[111, 98, 106]⟩⟩
def z179 : Str := ⟨⟨[69, 110, 99, 111, 100, 105, 110, 103, 69, 114, 114, 111, 114, 46, 95, 95, 105, 110, 105, 116, 95, 95]⟩⟩
def z180 : Str := ⟨⟨[68, 101, 99, 111, 100, 105, 110, 103, 69, 114, 114, 111, 114]⟩⟩
def z181 : Str := ⟨⟨[114, 108, 112]⟩⟩
def z182 : Str := ⟨⟨[68, 101, 99, 111, 100, 105, 110, 103, 69, 114, 114, 111, 114, 46, 95, 95, 105, 110, 105, 116, 95, 95]⟩⟩
def z183 : Str := ⟨⟨[83, 101, 114, 105, 97, 108, 105, 122, 97, 116, 105, 111, 110, 69, 114, 114, 111, 114]⟩⟩
def z184 : Str := ⟨⟨[83, 101, 114, 105, 97, 108, 105, 122, 97, 116, 105, 111, 110, 69, 114, 114, 111, 114, 46, 95, 95, 105, 110, 105, 116, 95, 95]⟩⟩
def z185 : Str := ⟨⟨[76, 105, 115, 116, 83, 101, 114, 105, 97, 108, 105, 122, 97, 116, 105, 111, 110, 69, 114, 114, 111, 114]⟩⟩
def z186 : Str := ⟨⟨[101, 108, 101, 109, 101, 110, 116, 95, 101, 120, 99, 101, 112, 116, 105, 111, 110]⟩⟩
def z187 : Str := ⟨⟨[105, 110, 100, 101, 120]⟩⟩
def z188 : Str := ⟨⟨[76, 105, 115, 116, 83, 101, 114, 105, 97, 108, 105, 122, 97, 116, 105, 111, 110, 69, 114, 114, 111, 114, 46, 95, 95, 105, 110, 105, 116, 95, 95]⟩⟩
def z189 : Str := ⟨⟨[68, 101, 115, 101, 114, 105, 97, 108, 105, 122, 97, 116, 105, 111, 110, 69, 114, 114, 111, 114]⟩⟩
def z190 : Str := ⟨⟨[115, 101, 114, 105, 97, 108]⟩⟩
def z191 : Str := ⟨⟨[68, 101, 115, 101, 114, 105, 97, 108, 105, 122, 97, 116, 105, 111, 110, 69, 114, 114, 111, 114, 46, 95, 95, 105, 110, 105, 116, 95, 95]⟩⟩
def z192 : Str := ⟨⟨[76, 105, 115, 116, 68, 101, 115, 101, 114, 105, 97, 108, 105, 122, 97, 116, 105, 111, 110, 69, 114, 114, 111, 114]⟩⟩
def z193 : Str := ⟨⟨[76, 105, 115, 116, 68, 101, 115, 101, 114, 105, 97, 108, 105, 122, 97, 116, 105, 111, 110, 69, 114, 114, 111, 114, 46, 95, 95, 105, 110, 105, 116, 95, 95]⟩⟩
def z194 : Str := ⟨⟨[118, 97, 108, 117, 101]⟩⟩
def z195 : Str := ⟨⟨[105, 115, 95, 98, 121, 116, 101, 115]⟩⟩
def z196 : Str := ⟨⟨[114, 108, 112, 46, 117, 116, 105, 108, 115]⟩⟩
def z197 : Str := ⟨⟨[98, 105, 103, 95, 101, 110, 100, 105, 97, 110, 95, 116, 111, 95, 105, 110, 116]⟩⟩
def z198 : Str := ⟨⟨[105, 110, 116, 95, 116, 111, 95, 98, 105, 103, 95, 101, 110, 100, 105, 97, 110]⟩⟩
def z199 : Str := ⟨⟨[114, 108, 112, 46, 115, 101, 100, 101, 115, 46, 98, 105, 103, 95, 101, 110, 100, 105, 97, 110, 95, 105, 110, 116]⟩⟩
def z200 : Str := ⟨⟨[66, 105, 103, 69, 110, 100, 105, 97, 110, 73, 110, 116]⟩⟩
def z201 : Str := ⟨⟨[115, 101, 114, 105, 97, 108, 105, 122, 101]⟩⟩
def z202 : Str := ⟨⟨[100, 101, 115, 101, 114, 105, 97, 108, 105, 122, 101]⟩⟩
def z203 : Str := ⟨⟨[108, 101, 110, 103, 116, 104]⟩⟩
def z204 : Str := ⟨⟨[66, 105, 103, 69, 110, 100, 105, 97, 110, 73, 110, 116, 46, 95, 95, 105, 110, 105, 116, 95, 95]⟩⟩
def z205 : Str := ⟨⟨[115]⟩⟩
def z206 : Str := ⟨⟨[66, 105, 103, 69, 110, 100, 105, 97, 110, 73, 110, 116, 46, 115, 101, 114, 105, 97, 108, 105, 122, 101]⟩⟩
def z207 : Str := ⟨⟨[66, 105, 103, 69, 110, 100, 105, 97, 110, 73, 110, 116, 46, 100, 101, 115, 101, 114, 105, 97, 108, 105, 122, 101]⟩⟩
def z208 : Str := ⟨⟨[95, 95, 100, 105, 99, 116, 95, 95]⟩⟩
def z209 : Str := ⟨⟨[114, 108, 112, 46, 115, 101, 100, 101, 115, 46, 98, 105, 110, 97, 114, 121]⟩⟩
def z210 : Str := ⟨⟨[66, 105, 110, 97, 114, 121]⟩⟩
def z211 : Str := ⟨⟨[102, 105, 120, 101, 100, 95, 108, 101, 110, 103, 116, 104]⟩⟩
def z212 : Str := ⟨⟨[105, 115, 95, 118, 97, 108, 105, 100, 95, 116, 121, 112, 101]⟩⟩
def z213 : Str := ⟨⟨[105, 115, 95, 118, 97, 108, 105, 100, 95, 108, 101, 110, 103, 116, 104]⟩⟩
def z214 : Str := ⟨⟨[109, 105, 110, 95, 108, 101, 110, 103, 116, 104]⟩⟩
def z215 : Str := ⟨⟨[109, 97, 120, 95, 108, 101, 110, 103, 116, 104]⟩⟩
def z216 : Str := ⟨⟨[97, 108, 108, 111, 119, 95, 101, 109, 112, 116, 121]⟩⟩
def z217 : Str := ⟨⟨[66, 105, 110, 97, 114, 121, 46, 95, 95, 105, 110, 105, 116, 95, 95]⟩⟩
def z218 : Str := ⟨⟨[99, 108, 115]⟩⟩
def z219 : Str := ⟨⟨[66, 105, 110, 97, 114, 121, 46, 102, 105, 120, 101, 100, 95, 108, 101, 110, 103, 116, 104]⟩⟩
def z220 : Str := ⟨⟨[95, 95, 97, 110, 110, 111, 116, 97, 116, 105, 111, 110, 115, 95, 95]⟩⟩
def z221 : Str := ⟨⟨[66, 105, 110, 97, 114, 121, 46, 105, 115, 95, 118, 97, 108, 105, 100, 95, 116, 121, 112, 101]⟩⟩
def z222 : Str := ⟨⟨[66, 105, 110, 97, 114, 121, 46, 105, 115, 95, 118, 97, 108, 105, 100, 95, 108, 101, 110, 103, 116, 104]⟩⟩
def z223 : Str := ⟨⟨[66, 105, 110, 97, 114, 121, 46, 115, 101, 114, 105, 97, 108, 105, 122, 101]⟩⟩
def z224 : Str := ⟨⟨[66, 105, 110, 97, 114, 121, 46, 100, 101, 115, 101, 114, 105, 97, 108, 105, 122, 101]⟩⟩
def z225 : Str := ⟨⟨[114, 108, 112, 46, 115, 101, 100, 101, 115, 46, 98, 111, 111, 108, 101, 97, 110]⟩⟩
def z226 : Str := ⟨⟨[66, 111, 111, 108, 101, 97, 110]⟩⟩
def z227 : Str := ⟨⟨[66, 111, 111, 108, 101, 97, 110, 46, 115, 101, 114, 105, 97, 108, 105, 122, 101]⟩⟩
def z228 : Str := ⟨⟨[66, 111, 111, 108, 101, 97, 110, 46, 100, 101, 115, 101, 114, 105, 97, 108, 105, 122, 101]⟩⟩
def z229 : Str := ⟨⟨[105, 115, 95, 115, 101, 100, 101, 115]⟩⟩
def z230 : Str := ⟨⟨[114, 108, 112, 46, 115, 101, 100, 101, 115, 46, 108, 105, 115, 116, 115]⟩⟩
def z231 : Str := ⟨⟨[105, 115, 95, 115, 101, 113, 117, 101, 110, 99, 101]⟩⟩
def z232 : Str := ⟨⟨[76, 105, 115, 116]⟩⟩
def z233 : Str := ⟨⟨[95, 95, 108, 101, 110, 95, 95]⟩⟩
def z234 : Str := ⟨⟨[101, 108, 101, 109, 101, 110, 116, 115]⟩⟩
def z235 : Str := ⟨⟨[115, 116, 114, 105, 99, 116]⟩⟩
def z236 : Str := ⟨⟨[101]⟩⟩
def z237 : Str := ⟨⟨[76, 105, 115, 116, 46, 95, 95, 105, 110, 105, 116, 95, 95]⟩⟩
def z238 : Str := ⟨⟨[76, 105, 115, 116, 46, 95, 95, 108, 101, 110, 95, 95]⟩⟩
def z239 : Str := ⟨⟨[102, 111, 117, 110, 100]⟩⟩
def z240 : Str := ⟨⟨[101, 108, 101, 109, 101, 110, 116]⟩⟩
def z241 : Str := ⟨⟨[115, 101, 100, 101, 115]⟩⟩
def z242 : Str := ⟨⟨[76, 105, 115, 116, 46, 115, 101, 114, 105, 97, 108, 105, 122, 101]⟩⟩
def z243 : Str := ⟨⟨[105, 100, 120]⟩⟩
def z244 : Str := ⟨⟨[76, 105, 115, 116, 46, 100, 101, 115, 101, 114, 105, 97, 108, 105, 122, 101]⟩⟩
def z245 : Str := ⟨⟨[112, 97, 114, 116, 115]⟩⟩
def z246 : Str := ⟨⟨[67, 111, 117, 110, 116, 97, 98, 108, 101, 76, 105, 115, 116]⟩⟩
def z247 : Str := ⟨⟨[101, 108, 101, 109, 101, 110, 116, 95, 115, 101, 100, 101, 115]⟩⟩
def z248 : Str := ⟨⟨[67, 111, 117, 110, 116, 97, 98, 108, 101, 76, 105, 115, 116, 46, 95, 95, 105, 110, 105, 116, 95, 95]⟩⟩
def z249 : Str := ⟨⟨[67, 111, 117, 110, 116, 97, 98, 108, 101, 76, 105, 115, 116, 46, 115, 101, 114, 105, 97, 108, 105, 122, 101]⟩⟩
def z250 : Str := ⟨⟨[67, 111, 117, 110, 116, 97, 98, 108, 101, 76, 105, 115, 116, 46, 100, 101, 115, 101, 114, 105, 97, 108, 105, 122, 101]⟩⟩
def z251 : Str := ⟨⟨[105, 116, 101, 109]⟩⟩
def z252 : Str := ⟨⟨[112, 97, 121, 108, 111, 97, 100]⟩⟩
def z253 : Str := ⟨⟨[112, 114, 101, 102, 105, 120, 95, 111, 102, 102, 115, 101, 116]⟩⟩
def z254 : Str := ⟨⟨[109, 115, 103]⟩⟩
def z255 : Str := ⟨⟨[112, 114, 101, 102, 105, 120]⟩⟩
def z256 : Str := ⟨⟨[101, 110, 99, 111, 100, 101, 95, 114, 97, 119]⟩⟩
def z257 : Str := ⟨⟨[114, 108, 112, 46, 99, 111, 100, 101, 99]⟩⟩
def z258 : Str := ⟨⟨[95]⟩⟩
def z259 : Str := ⟨⟨[114, 101, 115, 117, 108, 116]⟩⟩
def z260 : Str := ⟨⟨[112, 101, 114, 95, 105, 116, 101, 109, 95, 114, 108, 112]⟩⟩
def z261 : Str := ⟨⟨[101, 110, 100]⟩⟩
def z262 : Str := ⟨⟨[100, 101, 99, 111, 100, 101, 95, 114, 97, 119]⟩⟩
def z263 : Str := ⟨⟨[105, 110, 102, 101, 114, 95, 115, 101, 114, 105, 97, 108, 105, 122, 101, 114]⟩⟩
def z264 : Str := ⟨⟨[99, 97, 99, 104, 101]⟩⟩
def z265 : Str := ⟨⟨[101, 110, 99, 111, 100, 101]⟩⟩
def z266 : Str := ⟨⟨[111, 102, 102, 115, 101, 116]⟩⟩
def z267 : Str := ⟨⟨[108, 101, 110, 103, 116, 104, 95, 115, 116, 114, 105, 110, 103]⟩⟩
def z268 : Str := ⟨⟨[108, 101, 110, 103, 116, 104, 95, 112, 114, 101, 102, 105, 120]⟩⟩
def z269 : Str := ⟨⟨[115, 116, 97, 114, 116]⟩⟩
def z270 : Str := ⟨⟨[98, 48]⟩⟩
def z271 : Str := ⟨⟨[108, 108]⟩⟩
def z272 : Str := ⟨⟨[108, 101, 110, 95, 112, 114, 101, 102, 105, 120]⟩⟩
def z273 : Str := ⟨⟨[108]⟩⟩
def z274 : Str := ⟨⟨[99, 111, 110, 115, 117, 109, 101, 95, 108, 101, 110, 103, 116, 104, 95, 112, 114, 101, 102, 105, 120]⟩⟩
def z275 : Str := ⟨⟨[116, 121, 112, 101, 95]⟩⟩
def z276 : Str := ⟨⟨[105, 116, 101, 109, 115]⟩⟩
def z277 : Str := ⟨⟨[108, 105, 115, 116, 95, 114, 108, 112]⟩⟩
def z278 : Str := ⟨⟨[110, 101, 120, 116, 95, 105, 116, 101, 109, 95, 115, 116, 97, 114, 116]⟩⟩
def z279 : Str := ⟨⟨[112]⟩⟩
def z280 : Str := ⟨⟨[116]⟩⟩
def z281 : Str := ⟨⟨[105, 116, 101, 109, 95, 114, 108, 112]⟩⟩
def z282 : Str := ⟨⟨[99, 111, 110, 115, 117, 109, 101, 95, 112, 97, 121, 108, 111, 97, 100]⟩⟩
def z283 : Str := ⟨⟨[99, 111, 110, 115, 117, 109, 101, 95, 105, 116, 101, 109]⟩⟩
def z284 : Str := ⟨⟨[114, 101, 99, 117, 114, 115, 105, 118, 101, 95, 99, 97, 99, 104, 101]⟩⟩
def z285 : Str := ⟨⟨[100, 101, 99, 111, 100, 101]⟩⟩
def z286 : Str := ⟨⟨[105, 110, 102, 101, 114, 95, 115, 101, 100, 101, 115]⟩⟩
def z287 : Str := ⟨⟨[115, 99, 114, 105, 112, 116]⟩⟩
def z288 : Str := ⟨⟨[111, 116, 104, 101, 114]⟩⟩
def z289 : Str := ⟨⟨[95, 108, 97, 119, 95, 97, 116]⟩⟩
def z290 : Str := ⟨⟨[108, 97, 119, 95, 98, 105, 48, 48, 50, 48, 95, 48, 51]⟩⟩
def z291 : Str := ⟨⟨[108, 97, 119]⟩⟩
def z292 : Str := ⟨⟨[95, 95, 98, 117, 105, 108, 116, 105, 110, 115, 95, 95]⟩⟩
def z293 : Str := ⟨⟨[95, 95, 102, 105, 108, 101, 95, 95]⟩⟩
def z294 : Str := ⟨⟨[95, 95, 99, 97, 99, 104, 101, 100, 95, 95]⟩⟩
def z295 : Str := ⟨⟨[65, 76, 76, 95, 66, 89, 84, 69, 83]⟩⟩
def z296 : Str := ⟨⟨[98, 105, 103, 95, 101, 110, 100, 105, 97, 110, 95, 105, 110, 116]⟩⟩
def z297 : Str := ⟨⟨[98, 105, 110, 97, 114, 121]⟩⟩
def z298 : Str := ⟨⟨[98, 111, 111, 108, 101, 97, 110]⟩⟩
def z299 : Str := ⟨⟨[76, 79, 78, 71, 95, 76, 69, 78, 71, 84, 72]⟩⟩
def z300 : Str := ⟨⟨[83, 72, 79, 82, 84, 95, 83, 84, 82, 73, 78, 71]⟩⟩
def z301 : Str := ⟨⟨[116, 121, 112, 101, 46, 95, 95, 115, 117, 98, 99, 108, 97, 115, 115, 101, 115, 95, 95, 46, 69, 120, 99, 101, 112, 116, 105, 111, 110, 46, 48]⟩⟩
def z302 : Str := ⟨⟨[116, 121, 112, 101, 46, 95, 95, 115, 117, 98, 99, 108, 97, 115, 115, 101, 115, 95, 95, 46, 69, 120, 99, 101, 112, 116, 105, 111, 110, 46, 110]⟩⟩
noncomputable def o0 (P : Params) : Obj := ⟨(.type "dict"), none, (.dict ⟨[de P z0 1 (.str z1 160), de P z2 2 (.builtin "builtins.__doc__:str#opaque"), de P z3 3 (.builtin "builtins.__package__:str#opaque"), de P z4 4 (.builtin "builtins.__loader__:shared#opaque"), de P z5 5 (.builtin "builtins.__spec__#opaque"), de P z6 6 (.builtin "__build_class__"), de P z7 7 (.builtin "__import__"), de P z8 8 (.builtin "abs"), de P z9 9 (.builtin "all"), de P z10 10 (.builtin "any"), de P z11 11 (.builtin "ascii"), de P z12 12 (.builtin "bin"), de P z13 13 (.builtin "breakpoint"), de P z14 14 (.builtin "callable"), de P z15 15 (.builtin "chr"), de P z16 16 (.builtin "compile"), de P z17 17 (.builtin "delattr"), de P z18 18 (.builtin "dir"), de P z19 19 (.builtin "divmod"), de P z20 20 (.builtin "eval"), de P z21 21 (.builtin "exec"), de P z22 22 (.builtin "format"), de P z23 23 (.builtin "getattr"), de P z24 24 (.builtin "globals"), de P z25 25 (.builtin "hasattr"), de P z26 26 (.builtin "hash"), de P z27 27 (.builtin "hex"), de P z28 28 (.builtin "id"), de P z29 29 (.builtin "input"), de P z30 30 (.builtin "isinstance"), de P z31 31 (.builtin "issubclass"), de P z32 32 (.builtin "iter"), de P z33 33 (.builtin "aiter"), de P z34 34 (.builtin "len"), de P z35 35 (.builtin "locals"), de P z36 36 (.builtin "max"), de P z37 37 (.builtin "min"), de P z38 38 (.builtin "next"), de P z39 39 (.builtin "anext"), de P z40 40 (.builtin "oct"), de P z41 41 (.builtin "ord"), de P z42 42 (.builtin "pow"), de P z43 43 (.builtin "print"), de P z44 44 (.builtin "repr"), de P z45 45 (.builtin "round"), de P z46 46 (.builtin "setattr"), de P z47 47 (.builtin "sorted"), de P z48 48 (.builtin "sum"), de P z49 49 (.builtin "vars"), de P z50 50 .none, de P z51 51 .ellipsis, de P z52 52 .notImplemented, de P z53 53 (.bool false), de P z54 54 (.bool true), de P z55 55 (.type "bool"), de P z56 56 (.type "memoryview"), de P z57 57 (.type "bytearray"), de P z58 58 (.type "bytes"), de P z59 59 (.type "classmethod"), de P z60 60 (.type "complex"), de P z61 61 (.type "dict"), de P z62 62 (.type "enumerate"), de P z63 63 (.type "filter"), de P z64 64 (.type "float"), de P z65 65 (.type "frozenset"), de P z66 66 (.type "property"), de P z67 67 (.type "int"), de P z68 68 (.type "list"), de P z69 69 (.type "map"), de P z70 70 (.type "object"), de P z71 71 (.type "range"), de P z72 72 (.type "reversed"), de P z73 73 (.type "set"), de P z74 74 (.type "slice"), de P z75 75 (.type "staticmethod"), de P z76 76 (.type "str"), de P z77 77 (.type "super"), de P z78 78 (.type "tuple"), de P z79 79 (.type "type"), de P z80 80 (.type "zip"), de P z81 81 (.bool true), de P z82 82 (.type "BaseException"), de P z83 83 (.type "BaseExceptionGroup"), de P z84 84 (.type "Exception"), de P z85 85 (.type "GeneratorExit"), de P z86 86 (.type "KeyboardInterrupt"), de P z87 87 (.type "SystemExit"), de P z88 88 (.type "ArithmeticError"), de P z89 89 (.type "AssertionError"), de P z90 90 (.type "AttributeError"), de P z91 91 (.type "BufferError"), de P z92 92 (.type "EOFError"), de P z93 93 (.type "ImportError"), de P z94 94 (.type "LookupError"), de P z95 95 (.type "MemoryError"), de P z96 96 (.type "NameError"), de P z97 97 (.type "OSError"), de P z98 98 (.type "ReferenceError"), de P z99 99 (.type "RuntimeError"), de P z100 100 (.type "StopAsyncIteration"), de P z101 101 (.type "StopIteration"), de P z102 102 (.type "SyntaxError"), de P z103 103 (.type "SystemError"), de P z104 104 (.type "TypeError"), de P z105 105 (.type "ValueError"), de P z106 106 (.type "Warning"), de P z107 107 (.type "FloatingPointError"), de P z108 108 (.type "OverflowError"), de P z109 109 (.type "ZeroDivisionError"), de P z110 110 (.type "BytesWarning"), de P z111 111 (.type "DeprecationWarning"), de P z112 112 (.type "EncodingWarning"), de P z113 113 (.type "FutureWarning"), de P z114 114 (.type "ImportWarning"), de P z115 115 (.type "PendingDeprecationWarning"), de P z116 116 (.type "ResourceWarning"), de P z117 117 (.type "RuntimeWarning"), de P z118 118 (.type "SyntaxWarning"), de P z119 119 (.type "UnicodeWarning"), de P z120 120 (.type "UserWarning"), de P z121 121 (.type "BlockingIOError"), de P z122 122 (.type "ChildProcessError"), de P z123 123 (.type "ConnectionError"), de P z124 124 (.type "FileExistsError"), de P z125 125 (.type "FileNotFoundError"), de P z126 126 (.type "InterruptedError"), de P z127 127 (.type "IsADirectoryError"), de P z128 128 (.type "NotADirectoryError"), de P z129 129 (.type "PermissionError"), de P z130 130 (.type "ProcessLookupError"), de P z131 131 (.type "TimeoutError"), de P z132 132 (.type "IndentationError"), de P z133 133 (.type "_IncompleteInputError"), de P z134 134 (.type "IndexError"), de P z135 135 (.type "KeyError"), de P z136 136 (.type "ModuleNotFoundError"), de P z137 137 (.type "NotImplementedError"), de P z138 138 (.type "PythonFinalizationError"), de P z139 139 (.type "RecursionError"), de P z140 140 (.type "UnboundLocalError"), de P z141 141 (.type "UnicodeError"), de P z142 142 (.type "BrokenPipeError"), de P z143 143 (.type "ConnectionAbortedError"), de P z144 144 (.type "ConnectionRefusedError"), de P z145 145 (.type "ConnectionResetError"), de P z146 146 (.type "TabError"), de P z147 147 (.type "UnicodeDecodeError"), de P z148 148 (.type "UnicodeEncodeError"), de P z149 149 (.type "UnicodeTranslateError"), de P z150 150 (.type "ExceptionGroup"), de P z151 151 (.type "OSError"), de P z152 152 (.type "OSError"), de P z153 153 (.builtin "open"), de P z154 154 (.builtin "builtins.quit#opaque"), de P z155 155 (.builtin "builtins.exit#opaque"), de P z156 156 (.builtin "builtins.copyright#opaque"), de P z157 157 (.builtin "builtins.credits#opaque"), de P z158 158 (.builtin "builtins.license#opaque"), de P z159 159 (.builtin "builtins.help#opaque")]⟩ 159), ⟨[]⟩⟩
noncomputable def o1 (P : Params) : Obj := ⟨(.type "dict"), none, (.dict ⟨[de P z1 162 (.ref 4), de P z160 163 (.ref 5)]⟩ 2), ⟨[]⟩⟩
noncomputable def o4 (P : Params) : Obj := ⟨(.type "module"), (some 0), .plain, ⟨[]⟩⟩
noncomputable def o5 (P : Params) : Obj := ⟨(.type "module"), (some 3), .plain, ⟨[]⟩⟩
noncomputable def o6 (P : Params) : Obj := ⟨(.type "dict"), none, (.dict ⟨[]⟩ 0), ⟨[]⟩⟩
noncomputable def o7 (P : Params) : Obj := ⟨(.type "tuple"), none, (.seq ⟨[]⟩ 0), ⟨[]⟩⟩
noncomputable def o8 (P : Params) : Obj := ⟨.none, none, (.fields ⟨[]⟩), ⟨[]⟩⟩
noncomputable def o9 (P : Params) : Obj := ⟨(.type "code"), none, (.fields ⟨[(.str z161 176), (.str z161 177), (.str z162 178), (.int 1 0), (.int 0 0), (.int 0 0), (.int 0 0), (.int 0 0), (.ref 7), (.bool false), (.int 175 0), (.ref 8), .none, .none, .none, .none, (.int 179 0), (.int 1 0), (.str z162 180)]⟩), ⟨[]⟩⟩
noncomputable def o10 (P : Params) : Obj := ⟨(.type "frame"), none, .plain, ⟨[some (.ref 9), some (.ref 3), some (.ref 3), none, some (.str z160 164), none, some (.ref 0)]⟩⟩
noncomputable def o11 (P : Params) : Obj := ⟨(.type "tuple"), none, (.seq ⟨[]⟩ 0), ⟨[]⟩⟩
noncomputable def o13 (P : Params) : Obj := ⟨(.type "code"), none, (.fields ⟨[(.str z161 182), (.str z161 183), (.str z162 184), (.int 1 0), (.int 0 0), (.int 0 0), (.int 0 0), (.int 0 0), (.ref 11), (.bool false), (.int 181 0), (.ref 12), .none, .none, .none, .none, (.int 185 0), (.int 1 0), (.str z162 186)]⟩), ⟨[]⟩⟩
noncomputable def o14 (P : Params) : Obj := ⟨(.type "frame"), none, .plain, ⟨[some (.ref 13), some (.ref 3), some (.ref 3), none, some (.str z160 164), none, some (.ref 0)]⟩⟩
noncomputable def o15 (P : Params) : Obj := ⟨(.type "tuple"), none, (.seq ⟨[]⟩ 0), ⟨[]⟩⟩
noncomputable def o16 (P : Params) : Obj := ⟨.none, none, (.fields ⟨[]⟩), ⟨[]⟩⟩
noncomputable def o17 (P : Params) : Obj := ⟨(.type "tuple"), none, (.seq ⟨[(.str z163 190)]⟩ 0), ⟨[]⟩⟩
noncomputable def o18 (P : Params) : Obj := ⟨(.type "tuple"), none, (.seq ⟨[]⟩ 0), ⟨[]⟩⟩
noncomputable def o19 (P : Params) : Obj := ⟨.none, none, (.func (fd (st 0) z164 0 [] .none .none .none .none none .none .none 0)), ⟨[]⟩⟩
noncomputable def o20 (P : Params) : Obj := ⟨(.type "code"), none, (.fields ⟨[(.str z164 187), (.str z164 188), (.str z162 189), (.int 1 0), (.int 1 0), (.int 0 0), (.int 0 0), (.int 3 0), (.ref 15), (.bool true), (.int 181 0), (.ref 16), .none, (.ref 17), (.ref 18), (.ref 19), (.int 191 0), (.int 1 0), (.str z162 192)]⟩), ⟨[]⟩⟩
noncomputable def o21 (P : Params) : Obj := ⟨(.type "function"), none, (.func (fd (st 0) z164 3 [] .none .none .none (.str z160 164) none (.ref 20) .none 0)), ⟨[]⟩⟩
noncomputable def o22 (P : Params) : Obj := ⟨(.type "tuple"), none, (.seq ⟨[(.type "Exception")]⟩ 0), ⟨[]⟩⟩
noncomputable def o23 (P : Params) : Obj := ⟨(.type "builtin_function_or_method"), none, (.fields ⟨[(.builtin "type.__prepare__"), (.type "type")]⟩), ⟨[]⟩⟩
noncomputable def o24 (P : Params) : Obj := ⟨(.type "dict"), none, (.dict ⟨[de P z165 203 (.str z166 194), de P z167 205 (.str z168 204), de P z169 207 (.int 5 206), de P z170 208 (.ref 29)]⟩ 4), ⟨[]⟩⟩
noncomputable def o25 (P : Params) : Obj := ⟨(.type "tuple"), none, (.seq ⟨[]⟩ 0), ⟨[]⟩⟩
noncomputable def o26 (P : Params) : Obj := ⟨.none, none, (.fields ⟨[]⟩), ⟨[]⟩⟩
noncomputable def o27 (P : Params) : Obj := ⟨(.type "code"), none, (.fields ⟨[(.str z168 198), (.str z168 199), (.str z162 200), (.int 5 0), (.int 0 0), (.int 0 0), (.int 0 0), (.int 0 0), (.ref 25), (.bool false), (.int 181 0), (.ref 26), .none, .none, .none, .none, (.int 201 0), (.int 5 0), (.str z162 202)]⟩), ⟨[]⟩⟩
noncomputable def o28 (P : Params) : Obj := ⟨(.type "frame"), none, .plain, ⟨[some (.ref 27), some (.ref 3), some (.ref 24), none, some (.str z166 194), none, some (.ref 0)]⟩⟩
noncomputable def o29 (P : Params) : Obj := ⟨(.type "tuple"), none, (.seq ⟨[]⟩ 0), ⟨[]⟩⟩
noncomputable def o30 (P : Params) : Obj := ⟨(.type "dict"), none, (.dict ⟨[de P z165 203 (.str z166 194), de P z169 207 (.int 5 206), de P z170 208 (.ref 29), de P z171 210 (.ref 32), de P z2 211 .none]⟩ 3), ⟨[]⟩⟩
noncomputable def o32 (P : Params) : Obj := ⟨(.type "getset_descriptor"), none, (.fields ⟨[(.str z171 209), (.ref 31), (.builtin "ExceptionGroup.__weakref__"), .none]⟩), ⟨[]⟩⟩
noncomputable def o33 (P : Params) : Obj := ⟨(.type "super"), none, (.fields ⟨[(.ref 31), (.ref 31), (.ref 31)]⟩), ⟨[]⟩⟩
noncomputable def o34 (P : Params) : Obj := ⟨(.type "builtin_function_or_method"), none, (.fields ⟨[(.builtin "object.__init_subclass__"), (.ref 31)]⟩), ⟨[]⟩⟩
noncomputable def o35 (P : Params) : Obj := ⟨(.type "tuple"), none, (.seq ⟨[(.ref 31)]⟩ 0), ⟨[]⟩⟩
noncomputable def o36 (P : Params) : Obj := ⟨(.type "builtin_function_or_method"), none, (.fields ⟨[(.builtin "type.__prepare__"), (.type "type")]⟩), ⟨[]⟩⟩
noncomputable def o37 (P : Params) : Obj := ⟨(.type "dict"), none, (.dict ⟨[de P z165 223 (.str z166 194), de P z167 225 (.str z172 224), de P z169 227 (.int 7 226), de P z173 237 (.ref 50), de P z170 239 (.ref 51), de P z174 240 (.ref 38)]⟩ 6), ⟨[]⟩⟩
noncomputable def o38 (P : Params) : Obj := ⟨(.type "cell"), none, (.cell (some (.ref 53))), ⟨[]⟩⟩
noncomputable def o39 (P : Params) : Obj := ⟨(.type "tuple"), none, (.seq ⟨[]⟩ 0), ⟨[]⟩⟩
noncomputable def o40 (P : Params) : Obj := ⟨.none, none, (.fields ⟨[(.int 9 0), (.int 4 0), (.ref 49)]⟩), ⟨[]⟩⟩
noncomputable def o41 (P : Params) : Obj := ⟨(.type "code"), none, (.fields ⟨[(.str z172 218), (.str z172 219), (.str z162 220), (.int 7 0), (.int 0 0), (.int 0 0), (.int 0 0), (.int 0 0), (.ref 39), (.bool false), (.int 181 0), (.ref 40), .none, .none, .none, .none, (.int 221 0), (.int 7 0), (.str z162 222)]⟩), ⟨[]⟩⟩
noncomputable def o42 (P : Params) : Obj := ⟨(.type "frame"), none, .plain, ⟨[some (.ref 41), some (.ref 3), some (.ref 37), none, some (.str z166 194), none, some (.ref 0)]⟩⟩
noncomputable def o43 (P : Params) : Obj := ⟨(.type "tuple"), none, (.seq ⟨[(.ref 38)]⟩ 0), ⟨[]⟩⟩
noncomputable def o44 (P : Params) : Obj := ⟨(.type "tuple"), none, (.seq ⟨[(.str z175 231)]⟩ 0), ⟨[]⟩⟩
noncomputable def o45 (P : Params) : Obj := ⟨.none, none, (.fields ⟨[]⟩), ⟨[]⟩⟩
noncomputable def o46 (P : Params) : Obj := ⟨(.type "tuple"), none, (.seq ⟨[(.str z176 232), (.str z177 233), (.str z178 234)]⟩ 0), ⟨[]⟩⟩
noncomputable def o47 (P : Params) : Obj := ⟨(.type "tuple"), none, (.seq ⟨[]⟩ 0), ⟨[]⟩⟩
noncomputable def o48 (P : Params) : Obj := ⟨.none, none, (.func (fd (me 3 0) z179 0 [] .none .none .none .none none .none .none 0)), ⟨[]⟩⟩
noncomputable def o49 (P : Params) : Obj := ⟨(.type "code"), none, (.fields ⟨[(.str z173 228), (.str z179 229), (.str z162 230), (.int 9 0), (.int 3 0), (.int 0 0), (.int 0 0), (.int 3 0), (.ref 44), (.bool true), (.int 181 0), (.ref 45), .none, (.ref 46), (.ref 47), (.ref 48), (.int 235 0), (.int 9 0), (.str z162 236)]⟩), ⟨[]⟩⟩
noncomputable def o50 (P : Params) : Obj := ⟨(.type "function"), none, (.func (fd (me 3 0) z179 3 [(z175, 38)] .none .none .none (.str z166 194) none (.ref 49) (.ref 43) 0)), ⟨[]⟩⟩
noncomputable def o51 (P : Params) : Obj := ⟨(.type "tuple"), none, (.seq ⟨[(.str z178 238)]⟩ 0), ⟨[]⟩⟩
noncomputable def o52 (P : Params) : Obj := ⟨(.type "dict"), none, (.dict ⟨[de P z165 223 (.str z166 194), de P z169 227 (.int 7 226), de P z173 237 (.ref 50), de P z170 239 (.ref 51), de P z2 241 .none]⟩ 3), ⟨[]⟩⟩
noncomputable def o53 (P : Params) : Obj := ⟨(.type "type"), none, (.cls ⟨z172, [(.ref 31)], [(.ref 53), (.ref 31), (.type "Exception"), (.type "BaseException"), (.type "object")], 52, z172, true, [], [], false, none, false⟩), ⟨[some (.ref 35), none, some (.str z172 216), some (.str z172 224), some (.builtin "Exception.__new__"), some (.bool true)]⟩⟩
noncomputable def o54 (P : Params) : Obj := ⟨(.type "super"), none, (.fields ⟨[(.ref 53), (.ref 53), (.ref 53)]⟩), ⟨[]⟩⟩
noncomputable def o55 (P : Params) : Obj := ⟨(.type "builtin_function_or_method"), none, (.fields ⟨[(.builtin "object.__init_subclass__"), (.ref 53)]⟩), ⟨[]⟩⟩
noncomputable def o56 (P : Params) : Obj := ⟨(.type "tuple"), none, (.seq ⟨[(.ref 31)]⟩ 0), ⟨[]⟩⟩
noncomputable def o57 (P : Params) : Obj := ⟨(.type "builtin_function_or_method"), none, (.fields ⟨[(.builtin "type.__prepare__"), (.type "type")]⟩), ⟨[]⟩⟩
noncomputable def o58 (P : Params) : Obj := ⟨(.type "dict"), none, (.dict ⟨[de P z165 251 (.str z166 194), de P z167 253 (.str z180 252), de P z169 255 (.int 12 254), de P z173 265 (.ref 71), de P z170 267 (.ref 72), de P z174 268 (.ref 59)]⟩ 6), ⟨[]⟩⟩
noncomputable def o59 (P : Params) : Obj := ⟨(.type "cell"), none, (.cell (some (.ref 74))), ⟨[]⟩⟩
noncomputable def o60 (P : Params) : Obj := ⟨(.type "tuple"), none, (.seq ⟨[]⟩ 0), ⟨[]⟩⟩
noncomputable def o61 (P : Params) : Obj := ⟨.none, none, (.fields ⟨[(.int 14 0), (.int 4 0), (.ref 70)]⟩), ⟨[]⟩⟩
noncomputable def o62 (P : Params) : Obj := ⟨(.type "code"), none, (.fields ⟨[(.str z180 246), (.str z180 247), (.str z162 248), (.int 12 0), (.int 0 0), (.int 0 0), (.int 0 0), (.int 0 0), (.ref 60), (.bool false), (.int 181 0), (.ref 61), .none, .none, .none, .none, (.int 249 0), (.int 12 0), (.str z162 250)]⟩), ⟨[]⟩⟩
noncomputable def o63 (P : Params) : Obj := ⟨(.type "frame"), none, .plain, ⟨[some (.ref 62), some (.ref 3), some (.ref 58), none, some (.str z166 194), none, some (.ref 0)]⟩⟩
noncomputable def o64 (P : Params) : Obj := ⟨(.type "tuple"), none, (.seq ⟨[(.ref 59)]⟩ 0), ⟨[]⟩⟩
noncomputable def o65 (P : Params) : Obj := ⟨(.type "tuple"), none, (.seq ⟨[(.str z175 259)]⟩ 0), ⟨[]⟩⟩
noncomputable def o66 (P : Params) : Obj := ⟨.none, none, (.fields ⟨[]⟩), ⟨[]⟩⟩
noncomputable def o67 (P : Params) : Obj := ⟨(.type "tuple"), none, (.seq ⟨[(.str z176 260), (.str z177 261), (.str z181 262)]⟩ 0), ⟨[]⟩⟩
noncomputable def o68 (P : Params) : Obj := ⟨(.type "tuple"), none, (.seq ⟨[]⟩ 0), ⟨[]⟩⟩
noncomputable def o69 (P : Params) : Obj := ⟨.none, none, (.func (fd (me 4 0) z182 0 [] .none .none .none .none none .none .none 0)), ⟨[]⟩⟩
noncomputable def o70 (P : Params) : Obj := ⟨(.type "code"), none, (.fields ⟨[(.str z173 256), (.str z182 257), (.str z162 258), (.int 14 0), (.int 3 0), (.int 0 0), (.int 0 0), (.int 3 0), (.ref 65), (.bool true), (.int 181 0), (.ref 66), .none, (.ref 67), (.ref 68), (.ref 69), (.int 263 0), (.int 14 0), (.str z162 264)]⟩), ⟨[]⟩⟩
noncomputable def o71 (P : Params) : Obj := ⟨(.type "function"), none, (.func (fd (me 4 0) z182 3 [(z175, 59)] .none .none .none (.str z166 194) none (.ref 70) (.ref 64) 0)), ⟨[]⟩⟩
noncomputable def o72 (P : Params) : Obj := ⟨(.type "tuple"), none, (.seq ⟨[(.str z181 266)]⟩ 0), ⟨[]⟩⟩
noncomputable def o73 (P : Params) : Obj := ⟨(.type "dict"), none, (.dict ⟨[de P z165 251 (.str z166 194), de P z169 255 (.int 12 254), de P z173 265 (.ref 71), de P z170 267 (.ref 72), de P z2 269 .none]⟩ 3), ⟨[]⟩⟩
noncomputable def o74 (P : Params) : Obj := ⟨(.type "type"), none, (.cls ⟨z180, [(.ref 31)], [(.ref 74), (.ref 31), (.type "Exception"), (.type "BaseException"), (.type "object")], 73, z180, true, [], [], false, none, false⟩), ⟨[some (.ref 56), none, some (.str z180 244), some (.str z180 252), some (.builtin "Exception.__new__"), some (.bool true)]⟩⟩
noncomputable def o75 (P : Params) : Obj := ⟨(.type "super"), none, (.fields ⟨[(.ref 74), (.ref 74), (.ref 74)]⟩), ⟨[]⟩⟩
noncomputable def o76 (P : Params) : Obj := ⟨(.type "builtin_function_or_method"), none, (.fields ⟨[(.builtin "object.__init_subclass__"), (.ref 74)]⟩), ⟨[]⟩⟩
noncomputable def o77 (P : Params) : Obj := ⟨(.type "tuple"), none, (.seq ⟨[(.ref 31)]⟩ 0), ⟨[]⟩⟩
noncomputable def o78 (P : Params) : Obj := ⟨(.type "builtin_function_or_method"), none, (.fields ⟨[(.builtin "type.__prepare__"), (.type "type")]⟩), ⟨[]⟩⟩
noncomputable def o79 (P : Params) : Obj := ⟨(.type "dict"), none, (.dict ⟨[de P z165 279 (.str z166 194), de P z167 281 (.str z183 280), de P z169 283 (.int 17 282), de P z173 293 (.ref 92), de P z170 295 (.ref 93), de P z174 296 (.ref 80)]⟩ 6), ⟨[]⟩⟩
noncomputable def o80 (P : Params) : Obj := ⟨(.type "cell"), none, (.cell (some (.ref 95))), ⟨[]⟩⟩
noncomputable def o81 (P : Params) : Obj := ⟨(.type "tuple"), none, (.seq ⟨[]⟩ 0), ⟨[]⟩⟩
noncomputable def o82 (P : Params) : Obj := ⟨.none, none, (.fields ⟨[(.int 19 0), (.int 4 0), (.ref 91)]⟩), ⟨[]⟩⟩
noncomputable def o83 (P : Params) : Obj := ⟨(.type "code"), none, (.fields ⟨[(.str z183 274), (.str z183 275), (.str z162 276), (.int 17 0), (.int 0 0), (.int 0 0), (.int 0 0), (.int 0 0), (.ref 81), (.bool false), (.int 181 0), (.ref 82), .none, .none, .none, .none, (.int 277 0), (.int 17 0), (.str z162 278)]⟩), ⟨[]⟩⟩
noncomputable def o84 (P : Params) : Obj := ⟨(.type "frame"), none, .plain, ⟨[some (.ref 83), some (.ref 3), some (.ref 79), none, some (.str z166 194), none, some (.ref 0)]⟩⟩
noncomputable def o85 (P : Params) : Obj := ⟨(.type "tuple"), none, (.seq ⟨[(.ref 80)]⟩ 0), ⟨[]⟩⟩
noncomputable def o86 (P : Params) : Obj := ⟨(.type "tuple"), none, (.seq ⟨[(.str z175 287)]⟩ 0), ⟨[]⟩⟩
noncomputable def o87 (P : Params) : Obj := ⟨.none, none, (.fields ⟨[]⟩), ⟨[]⟩⟩
noncomputable def o88 (P : Params) : Obj := ⟨(.type "tuple"), none, (.seq ⟨[(.str z176 288), (.str z177 289), (.str z178 290)]⟩ 0), ⟨[]⟩⟩
noncomputable def o89 (P : Params) : Obj := ⟨(.type "tuple"), none, (.seq ⟨[]⟩ 0), ⟨[]⟩⟩
noncomputable def o90 (P : Params) : Obj := ⟨.none, none, (.func (fd (me 5 0) z184 0 [] .none .none .none .none none .none .none 0)), ⟨[]⟩⟩
noncomputable def o91 (P : Params) : Obj := ⟨(.type "code"), none, (.fields ⟨[(.str z173 284), (.str z184 285), (.str z162 286), (.int 19 0), (.int 3 0), (.int 0 0), (.int 0 0), (.int 3 0), (.ref 86), (.bool true), (.int 181 0), (.ref 87), .none, (.ref 88), (.ref 89), (.ref 90), (.int 291 0), (.int 19 0), (.str z162 292)]⟩), ⟨[]⟩⟩
noncomputable def o92 (P : Params) : Obj := ⟨(.type "function"), none, (.func (fd (me 5 0) z184 3 [(z175, 80)] .none .none .none (.str z166 194) none (.ref 91) (.ref 85) 0)), ⟨[]⟩⟩
noncomputable def o93 (P : Params) : Obj := ⟨(.type "tuple"), none, (.seq ⟨[(.str z178 294)]⟩ 0), ⟨[]⟩⟩
noncomputable def o94 (P : Params) : Obj := ⟨(.type "dict"), none, (.dict ⟨[de P z165 279 (.str z166 194), de P z169 283 (.int 17 282), de P z173 293 (.ref 92), de P z170 295 (.ref 93), de P z2 297 .none]⟩ 3), ⟨[]⟩⟩
noncomputable def o96 (P : Params) : Obj := ⟨(.type "super"), none, (.fields ⟨[(.ref 95), (.ref 95), (.ref 95)]⟩), ⟨[]⟩⟩
noncomputable def o97 (P : Params) : Obj := ⟨(.type "builtin_function_or_method"), none, (.fields ⟨[(.builtin "object.__init_subclass__"), (.ref 95)]⟩), ⟨[]⟩⟩
noncomputable def o98 (P : Params) : Obj := ⟨(.type "tuple"), none, (.seq ⟨[(.ref 95)]⟩ 0), ⟨[]⟩⟩
noncomputable def o99 (P : Params) : Obj := ⟨(.type "builtin_function_or_method"), none, (.fields ⟨[(.builtin "type.__prepare__"), (.type "type")]⟩), ⟨[]⟩⟩
noncomputable def o100 (P : Params) : Obj := ⟨(.type "dict"), none, (.dict ⟨[de P z165 307 (.str z166 194), de P z167 309 (.str z185 308), de P z169 311 (.int 22 310), de P z173 323 (.ref 114), de P z170 326 (.ref 115), de P z174 327 (.ref 101)]⟩ 6), ⟨[]⟩⟩
noncomputable def o101 (P : Params) : Obj := ⟨(.type "cell"), none, (.cell (some (.ref 117))), ⟨[]⟩⟩
noncomputable def o102 (P : Params) : Obj := ⟨(.type "tuple"), none, (.seq ⟨[]⟩ 0), ⟨[]⟩⟩
noncomputable def o103 (P : Params) : Obj := ⟨.none, none, (.fields ⟨[(.int 24 0), (.int 4 0), (.ref 113)]⟩), ⟨[]⟩⟩
noncomputable def o104 (P : Params) : Obj := ⟨(.type "code"), none, (.fields ⟨[(.str z185 302), (.str z185 303), (.str z162 304), (.int 22 0), (.int 0 0), (.int 0 0), (.int 0 0), (.int 0 0), (.ref 102), (.bool false), (.int 181 0), (.ref 103), .none, .none, .none, .none, (.int 305 0), (.int 22 0), (.str z162 306)]⟩), ⟨[]⟩⟩
noncomputable def o105 (P : Params) : Obj := ⟨(.type "frame"), none, .plain, ⟨[some (.ref 104), some (.ref 3), some (.ref 100), none, some (.str z166 194), none, some (.ref 0)]⟩⟩
noncomputable def o106 (P : Params) : Obj := ⟨(.type "tuple"), none, (.seq ⟨[.none, .none, .none, .none]⟩ 0), ⟨[]⟩⟩
noncomputable def o107 (P : Params) : Obj := ⟨(.type "tuple"), none, (.seq ⟨[(.ref 101)]⟩ 0), ⟨[]⟩⟩
noncomputable def o108 (P : Params) : Obj := ⟨(.type "tuple"), none, (.seq ⟨[(.str z175 315)]⟩ 0), ⟨[]⟩⟩
noncomputable def o109 (P : Params) : Obj := ⟨.none, none, (.fields ⟨[]⟩), ⟨[]⟩⟩
noncomputable def o110 (P : Params) : Obj := ⟨(.type "tuple"), none, (.seq ⟨[(.str z176 316), (.str z177 317), (.str z178 318), (.str z186 319), (.str z187 320)]⟩ 0), ⟨[]⟩⟩
noncomputable def o111 (P : Params) : Obj := ⟨(.type "tuple"), none, (.seq ⟨[]⟩ 0), ⟨[]⟩⟩
noncomputable def o112 (P : Params) : Obj := ⟨.none, none, (.func (fd (me 6 0) z188 0 [] .none .none .none .none none .none .none 0)), ⟨[]⟩⟩
noncomputable def o113 (P : Params) : Obj := ⟨(.type "code"), none, (.fields ⟨[(.str z173 312), (.str z188 313), (.str z162 314), (.int 24 0), (.int 5 0), (.int 0 0), (.int 0 0), (.int 3 0), (.ref 108), (.bool true), (.int 181 0), (.ref 109), .none, (.ref 110), (.ref 111), (.ref 112), (.int 321 0), (.int 24 0), (.str z162 322)]⟩), ⟨[]⟩⟩
noncomputable def o114 (P : Params) : Obj := ⟨(.type "function"), none, (.func (fd (me 6 0) z188 3 [(z175, 101)] (.ref 106) .none .none (.str z166 194) none (.ref 113) (.ref 107) 0)), ⟨[]⟩⟩
noncomputable def o115 (P : Params) : Obj := ⟨(.type "tuple"), none, (.seq ⟨[(.str z186 324), (.str z187 325)]⟩ 0), ⟨[]⟩⟩
noncomputable def o116 (P : Params) : Obj := ⟨(.type "dict"), none, (.dict ⟨[de P z165 307 (.str z166 194), de P z169 311 (.int 22 310), de P z173 323 (.ref 114), de P z170 326 (.ref 115), de P z2 328 .none]⟩ 3), ⟨[]⟩⟩
noncomputable def o117 (P : Params) : Obj := ⟨(.type "type"), none, (.cls ⟨z185, [(.ref 95)], [(.ref 117), (.ref 95), (.ref 31), (.type "Exception"), (.type "BaseException"), (.type "object")], 116, z185, true, [], [], false, none, false⟩), ⟨[some (.ref 98), none, some (.str z185 300), some (.str z185 308), some (.builtin "Exception.__new__"), some (.bool true)]⟩⟩
noncomputable def o118 (P : Params) : Obj := ⟨(.type "super"), none, (.fields ⟨[(.ref 117), (.ref 117), (.ref 117)]⟩), ⟨[]⟩⟩
noncomputable def o119 (P : Params) : Obj := ⟨(.type "builtin_function_or_method"), none, (.fields ⟨[(.builtin "object.__init_subclass__"), (.ref 117)]⟩), ⟨[]⟩⟩
noncomputable def o120 (P : Params) : Obj := ⟨(.type "tuple"), none, (.seq ⟨[(.ref 31)]⟩ 0), ⟨[]⟩⟩
noncomputable def o121 (P : Params) : Obj := ⟨(.type "builtin_function_or_method"), none, (.fields ⟨[(.builtin "type.__prepare__"), (.type "type")]⟩), ⟨[]⟩⟩
noncomputable def o122 (P : Params) : Obj := ⟨(.type "dict"), none, (.dict ⟨[de P z165 338 (.str z166 194), de P z167 340 (.str z189 339), de P z169 342 (.int 32 341), de P z173 352 (.ref 135), de P z170 354 (.ref 136), de P z174 355 (.ref 123)]⟩ 6), ⟨[]⟩⟩
noncomputable def o123 (P : Params) : Obj := ⟨(.type "cell"), none, (.cell (some (.ref 138))), ⟨[]⟩⟩
noncomputable def o124 (P : Params) : Obj := ⟨(.type "tuple"), none, (.seq ⟨[]⟩ 0), ⟨[]⟩⟩
noncomputable def o125 (P : Params) : Obj := ⟨.none, none, (.fields ⟨[(.int 34 0), (.int 4 0), (.ref 134)]⟩), ⟨[]⟩⟩
noncomputable def o126 (P : Params) : Obj := ⟨(.type "code"), none, (.fields ⟨[(.str z189 333), (.str z189 334), (.str z162 335), (.int 32 0), (.int 0 0), (.int 0 0), (.int 0 0), (.int 0 0), (.ref 124), (.bool false), (.int 181 0), (.ref 125), .none, .none, .none, .none, (.int 336 0), (.int 32 0), (.str z162 337)]⟩), ⟨[]⟩⟩
noncomputable def o127 (P : Params) : Obj := ⟨(.type "frame"), none, .plain, ⟨[some (.ref 126), some (.ref 3), some (.ref 122), none, some (.str z166 194), none, some (.ref 0)]⟩⟩
noncomputable def o128 (P : Params) : Obj := ⟨(.type "tuple"), none, (.seq ⟨[(.ref 123)]⟩ 0), ⟨[]⟩⟩
noncomputable def o129 (P : Params) : Obj := ⟨(.type "tuple"), none, (.seq ⟨[(.str z175 346)]⟩ 0), ⟨[]⟩⟩
noncomputable def o130 (P : Params) : Obj := ⟨.none, none, (.fields ⟨[]⟩), ⟨[]⟩⟩
noncomputable def o131 (P : Params) : Obj := ⟨(.type "tuple"), none, (.seq ⟨[(.str z176 347), (.str z177 348), (.str z190 349)]⟩ 0), ⟨[]⟩⟩
noncomputable def o132 (P : Params) : Obj := ⟨(.type "tuple"), none, (.seq ⟨[]⟩ 0), ⟨[]⟩⟩
noncomputable def o133 (P : Params) : Obj := ⟨.none, none, (.func (fd (me 7 0) z191 0 [] .none .none .none .none none .none .none 0)), ⟨[]⟩⟩
noncomputable def o134 (P : Params) : Obj := ⟨(.type "code"), none, (.fields ⟨[(.str z173 343), (.str z191 344), (.str z162 345), (.int 34 0), (.int 3 0), (.int 0 0), (.int 0 0), (.int 3 0), (.ref 129), (.bool true), (.int 181 0), (.ref 130), .none, (.ref 131), (.ref 132), (.ref 133), (.int 350 0), (.int 34 0), (.str z162 351)]⟩), ⟨[]⟩⟩
noncomputable def o135 (P : Params) : Obj := ⟨(.type "function"), none, (.func (fd (me 7 0) z191 3 [(z175, 123)] .none .none .none (.str z166 194) none (.ref 134) (.ref 128) 0)), ⟨[]⟩⟩
noncomputable def o136 (P : Params) : Obj := ⟨(.type "tuple"), none, (.seq ⟨[(.str z190 353)]⟩ 0), ⟨[]⟩⟩
noncomputable def o137 (P : Params) : Obj := ⟨(.type "dict"), none, (.dict ⟨[de P z165 338 (.str z166 194), de P z169 342 (.int 32 341), de P z173 352 (.ref 135), de P z170 354 (.ref 136), de P z2 356 .none]⟩ 3), ⟨[]⟩⟩
noncomputable def o139 (P : Params) : Obj := ⟨(.type "super"), none, (.fields ⟨[(.ref 138), (.ref 138), (.ref 138)]⟩), ⟨[]⟩⟩
noncomputable def o140 (P : Params) : Obj := ⟨(.type "builtin_function_or_method"), none, (.fields ⟨[(.builtin "object.__init_subclass__"), (.ref 138)]⟩), ⟨[]⟩⟩
noncomputable def o141 (P : Params) : Obj := ⟨(.type "tuple"), none, (.seq ⟨[(.ref 138)]⟩ 0), ⟨[]⟩⟩
noncomputable def o142 (P : Params) : Obj := ⟨(.type "builtin_function_or_method"), none, (.fields ⟨[(.builtin "type.__prepare__"), (.type "type")]⟩), ⟨[]⟩⟩
noncomputable def o143 (P : Params) : Obj := ⟨(.type "dict"), none, (.dict ⟨[de P z165 366 (.str z166 194), de P z167 368 (.str z192 367), de P z169 370 (.int 37 369), de P z173 382 (.ref 157), de P z170 385 (.ref 158), de P z174 386 (.ref 144)]⟩ 6), ⟨[]⟩⟩
noncomputable def o144 (P : Params) : Obj := ⟨(.type "cell"), none, (.cell (some (.ref 160))), ⟨[]⟩⟩
noncomputable def o145 (P : Params) : Obj := ⟨(.type "tuple"), none, (.seq ⟨[]⟩ 0), ⟨[]⟩⟩
noncomputable def o146 (P : Params) : Obj := ⟨.none, none, (.fields ⟨[(.int 39 0), (.int 4 0), (.ref 156)]⟩), ⟨[]⟩⟩
noncomputable def o147 (P : Params) : Obj := ⟨(.type "code"), none, (.fields ⟨[(.str z192 361), (.str z192 362), (.str z162 363), (.int 37 0), (.int 0 0), (.int 0 0), (.int 0 0), (.int 0 0), (.ref 145), (.bool false), (.int 181 0), (.ref 146), .none, .none, .none, .none, (.int 364 0), (.int 37 0), (.str z162 365)]⟩), ⟨[]⟩⟩
noncomputable def o148 (P : Params) : Obj := ⟨(.type "frame"), none, .plain, ⟨[some (.ref 147), some (.ref 3), some (.ref 143), none, some (.str z166 194), none, some (.ref 0)]⟩⟩
noncomputable def o149 (P : Params) : Obj := ⟨(.type "tuple"), none, (.seq ⟨[.none, .none, .none, .none]⟩ 0), ⟨[]⟩⟩
noncomputable def o150 (P : Params) : Obj := ⟨(.type "tuple"), none, (.seq ⟨[(.ref 144)]⟩ 0), ⟨[]⟩⟩
noncomputable def o151 (P : Params) : Obj := ⟨(.type "tuple"), none, (.seq ⟨[(.str z175 374)]⟩ 0), ⟨[]⟩⟩
noncomputable def o152 (P : Params) : Obj := ⟨.none, none, (.fields ⟨[]⟩), ⟨[]⟩⟩
noncomputable def o153 (P : Params) : Obj := ⟨(.type "tuple"), none, (.seq ⟨[(.str z176 375), (.str z177 376), (.str z190 377), (.str z186 378), (.str z187 379)]⟩ 0), ⟨[]⟩⟩
noncomputable def o154 (P : Params) : Obj := ⟨(.type "tuple"), none, (.seq ⟨[]⟩ 0), ⟨[]⟩⟩
noncomputable def o155 (P : Params) : Obj := ⟨.none, none, (.func (fd (me 8 0) z193 0 [] .none .none .none .none none .none .none 0)), ⟨[]⟩⟩
noncomputable def o156 (P : Params) : Obj := ⟨(.type "code"), none, (.fields ⟨[(.str z173 371), (.str z193 372), (.str z162 373), (.int 39 0), (.int 5 0), (.int 0 0), (.int 0 0), (.int 3 0), (.ref 151), (.bool true), (.int 181 0), (.ref 152), .none, (.ref 153), (.ref 154), (.ref 155), (.int 380 0), (.int 39 0), (.str z162 381)]⟩), ⟨[]⟩⟩
noncomputable def o157 (P : Params) : Obj := ⟨(.type "function"), none, (.func (fd (me 8 0) z193 3 [(z175, 144)] (.ref 149) .none .none (.str z166 194) none (.ref 156) (.ref 150) 0)), ⟨[]⟩⟩
noncomputable def o158 (P : Params) : Obj := ⟨(.type "tuple"), none, (.seq ⟨[(.str z186 383), (.str z187 384)]⟩ 0), ⟨[]⟩⟩
noncomputable def o159 (P : Params) : Obj := ⟨(.type "dict"), none, (.dict ⟨[de P z165 366 (.str z166 194), de P z169 370 (.int 37 369), de P z173 382 (.ref 157), de P z170 385 (.ref 158), de P z2 387 .none]⟩ 3), ⟨[]⟩⟩
noncomputable def o160 (P : Params) : Obj := ⟨(.type "type"), none, (.cls ⟨z192, [(.ref 138)], [(.ref 160), (.ref 138), (.ref 31), (.type "Exception"), (.type "BaseException"), (.type "object")], 159, z192, true, [], [], false, none, false⟩), ⟨[some (.ref 141), none, some (.str z192 359), some (.str z192 367), some (.builtin "Exception.__new__"), some (.bool true)]⟩⟩
noncomputable def o161 (P : Params) : Obj := ⟨(.type "super"), none, (.fields ⟨[(.ref 160), (.ref 160), (.ref 160)]⟩), ⟨[]⟩⟩
noncomputable def o162 (P : Params) : Obj := ⟨(.type "builtin_function_or_method"), none, (.fields ⟨[(.builtin "object.__init_subclass__"), (.ref 160)]⟩), ⟨[]⟩⟩
noncomputable def o163 (P : Params) : Obj := ⟨(.type "range"), none, (.fields ⟨[(.int 0 393), (.int 256 392), (.int 1 394)]⟩), ⟨[]⟩⟩
noncomputable def o1447 (P : Params) : Obj := ⟨(.type "tuple"), none, (.seq ⟨[]⟩ 0), ⟨[]⟩⟩
noncomputable def o1448 (P : Params) : Obj := ⟨(.type "StopIteration"), none, (.fields ⟨[(.ref 1447), .none, .none, .none, (.bool false), .none]⟩), ⟨[]⟩⟩
noncomputable def o1449 (P : Params) : Obj := ⟨(.type "list"), none, (.seq ⟨[(.bytes ⟨[0]⟩ 397), (.bytes ⟨[1]⟩ 400), (.bytes ⟨[2]⟩ 403), (.bytes ⟨[3]⟩ 406), (.bytes ⟨[4]⟩ 409), (.bytes ⟨[5]⟩ 412), (.bytes ⟨[6]⟩ 415), (.bytes ⟨[7]⟩ 418), (.bytes ⟨[8]⟩ 421), (.bytes ⟨[9]⟩ 424), (.bytes ⟨[10]⟩ 427), (.bytes ⟨[11]⟩ 430), (.bytes ⟨[12]⟩ 433), (.bytes ⟨[13]⟩ 436), (.bytes ⟨[14]⟩ 439), (.bytes ⟨[15]⟩ 442), (.bytes ⟨[16]⟩ 445), (.bytes ⟨[17]⟩ 448), (.bytes ⟨[18]⟩ 451), (.bytes ⟨[19]⟩ 454), (.bytes ⟨[20]⟩ 457), (.bytes ⟨[21]⟩ 460), (.bytes ⟨[22]⟩ 463), (.bytes ⟨[23]⟩ 466), (.bytes ⟨[24]⟩ 469), (.bytes ⟨[25]⟩ 472), (.bytes ⟨[26]⟩ 475), (.bytes ⟨[27]⟩ 478), (.bytes ⟨[28]⟩ 481), (.bytes ⟨[29]⟩ 484), (.bytes ⟨[30]⟩ 487), (.bytes ⟨[31]⟩ 490), (.bytes ⟨[32]⟩ 493), (.bytes ⟨[33]⟩ 496), (.bytes ⟨[34]⟩ 499), (.bytes ⟨[35]⟩ 502), (.bytes ⟨[36]⟩ 505), (.bytes ⟨[37]⟩ 508), (.bytes ⟨[38]⟩ 511), (.bytes ⟨[39]⟩ 514), (.bytes ⟨[40]⟩ 517), (.bytes ⟨[41]⟩ 520), (.bytes ⟨[42]⟩ 523), (.bytes ⟨[43]⟩ 526), (.bytes ⟨[44]⟩ 529), (.bytes ⟨[45]⟩ 532), (.bytes ⟨[46]⟩ 535), (.bytes ⟨[47]⟩ 538), (.bytes ⟨[48]⟩ 541), (.bytes ⟨[49]⟩ 544), (.bytes ⟨[50]⟩ 547), (.bytes ⟨[51]⟩ 550), (.bytes ⟨[52]⟩ 553), (.bytes ⟨[53]⟩ 556), (.bytes ⟨[54]⟩ 559), (.bytes ⟨[55]⟩ 562), (.bytes ⟨[56]⟩ 565), (.bytes ⟨[57]⟩ 568), (.bytes ⟨[58]⟩ 571), (.bytes ⟨[59]⟩ 574), (.bytes ⟨[60]⟩ 577), (.bytes ⟨[61]⟩ 580), (.bytes ⟨[62]⟩ 583), (.bytes ⟨[63]⟩ 586), (.bytes ⟨[64]⟩ 589), (.bytes ⟨[65]⟩ 592), (.bytes ⟨[66]⟩ 595), (.bytes ⟨[67]⟩ 598), (.bytes ⟨[68]⟩ 601), (.bytes ⟨[69]⟩ 604), (.bytes ⟨[70]⟩ 607), (.bytes ⟨[71]⟩ 610), (.bytes ⟨[72]⟩ 613), (.bytes ⟨[73]⟩ 616), (.bytes ⟨[74]⟩ 619), (.bytes ⟨[75]⟩ 622), (.bytes ⟨[76]⟩ 625), (.bytes ⟨[77]⟩ 628), (.bytes ⟨[78]⟩ 631), (.bytes ⟨[79]⟩ 634), (.bytes ⟨[80]⟩ 637), (.bytes ⟨[81]⟩ 640), (.bytes ⟨[82]⟩ 643), (.bytes ⟨[83]⟩ 646), (.bytes ⟨[84]⟩ 649), (.bytes ⟨[85]⟩ 652), (.bytes ⟨[86]⟩ 655), (.bytes ⟨[87]⟩ 658), (.bytes ⟨[88]⟩ 661), (.bytes ⟨[89]⟩ 664), (.bytes ⟨[90]⟩ 667), (.bytes ⟨[91]⟩ 670), (.bytes ⟨[92]⟩ 673), (.bytes ⟨[93]⟩ 676), (.bytes ⟨[94]⟩ 679), (.bytes ⟨[95]⟩ 682), (.bytes ⟨[96]⟩ 685), (.bytes ⟨[97]⟩ 688), (.bytes ⟨[98]⟩ 691), (.bytes ⟨[99]⟩ 694), (.bytes ⟨[100]⟩ 697), (.bytes ⟨[101]⟩ 700), (.bytes ⟨[102]⟩ 703), (.bytes ⟨[103]⟩ 706), (.bytes ⟨[104]⟩ 709), (.bytes ⟨[105]⟩ 712), (.bytes ⟨[106]⟩ 715), (.bytes ⟨[107]⟩ 718), (.bytes ⟨[108]⟩ 721), (.bytes ⟨[109]⟩ 724), (.bytes ⟨[110]⟩ 727), (.bytes ⟨[111]⟩ 730), (.bytes ⟨[112]⟩ 733), (.bytes ⟨[113]⟩ 736), (.bytes ⟨[114]⟩ 739), (.bytes ⟨[115]⟩ 742), (.bytes ⟨[116]⟩ 745), (.bytes ⟨[117]⟩ 748), (.bytes ⟨[118]⟩ 751), (.bytes ⟨[119]⟩ 754), (.bytes ⟨[120]⟩ 757), (.bytes ⟨[121]⟩ 760), (.bytes ⟨[122]⟩ 763), (.bytes ⟨[123]⟩ 766), (.bytes ⟨[124]⟩ 769), (.bytes ⟨[125]⟩ 772), (.bytes ⟨[126]⟩ 775), (.bytes ⟨[127]⟩ 778), (.bytes ⟨[128]⟩ 781), (.bytes ⟨[129]⟩ 784), (.bytes ⟨[130]⟩ 787), (.bytes ⟨[131]⟩ 790), (.bytes ⟨[132]⟩ 793), (.bytes ⟨[133]⟩ 796), (.bytes ⟨[134]⟩ 799), (.bytes ⟨[135]⟩ 802), (.bytes ⟨[136]⟩ 805), (.bytes ⟨[137]⟩ 808), (.bytes ⟨[138]⟩ 811), (.bytes ⟨[139]⟩ 814), (.bytes ⟨[140]⟩ 817), (.bytes ⟨[141]⟩ 820), (.bytes ⟨[142]⟩ 823), (.bytes ⟨[143]⟩ 826), (.bytes ⟨[144]⟩ 829), (.bytes ⟨[145]⟩ 832), (.bytes ⟨[146]⟩ 835), (.bytes ⟨[147]⟩ 838), (.bytes ⟨[148]⟩ 841), (.bytes ⟨[149]⟩ 844), (.bytes ⟨[150]⟩ 847), (.bytes ⟨[151]⟩ 850), (.bytes ⟨[152]⟩ 853), (.bytes ⟨[153]⟩ 856), (.bytes ⟨[154]⟩ 859), (.bytes ⟨[155]⟩ 862), (.bytes ⟨[156]⟩ 865), (.bytes ⟨[157]⟩ 868), (.bytes ⟨[158]⟩ 871), (.bytes ⟨[159]⟩ 874), (.bytes ⟨[160]⟩ 877), (.bytes ⟨[161]⟩ 880), (.bytes ⟨[162]⟩ 883), (.bytes ⟨[163]⟩ 886), (.bytes ⟨[164]⟩ 889), (.bytes ⟨[165]⟩ 892), (.bytes ⟨[166]⟩ 895), (.bytes ⟨[167]⟩ 898), (.bytes ⟨[168]⟩ 901), (.bytes ⟨[169]⟩ 904), (.bytes ⟨[170]⟩ 907), (.bytes ⟨[171]⟩ 910), (.bytes ⟨[172]⟩ 913), (.bytes ⟨[173]⟩ 916), (.bytes ⟨[174]⟩ 919), (.bytes ⟨[175]⟩ 922), (.bytes ⟨[176]⟩ 925), (.bytes ⟨[177]⟩ 928), (.bytes ⟨[178]⟩ 931), (.bytes ⟨[179]⟩ 934), (.bytes ⟨[180]⟩ 937), (.bytes ⟨[181]⟩ 940), (.bytes ⟨[182]⟩ 943), (.bytes ⟨[183]⟩ 946), (.bytes ⟨[184]⟩ 949), (.bytes ⟨[185]⟩ 952), (.bytes ⟨[186]⟩ 955), (.bytes ⟨[187]⟩ 958), (.bytes ⟨[188]⟩ 961), (.bytes ⟨[189]⟩ 964), (.bytes ⟨[190]⟩ 967), (.bytes ⟨[191]⟩ 970), (.bytes ⟨[192]⟩ 973), (.bytes ⟨[193]⟩ 976), (.bytes ⟨[194]⟩ 979), (.bytes ⟨[195]⟩ 982), (.bytes ⟨[196]⟩ 985), (.bytes ⟨[197]⟩ 988), (.bytes ⟨[198]⟩ 991), (.bytes ⟨[199]⟩ 994), (.bytes ⟨[200]⟩ 997), (.bytes ⟨[201]⟩ 1000), (.bytes ⟨[202]⟩ 1003), (.bytes ⟨[203]⟩ 1006), (.bytes ⟨[204]⟩ 1009), (.bytes ⟨[205]⟩ 1012), (.bytes ⟨[206]⟩ 1015), (.bytes ⟨[207]⟩ 1018), (.bytes ⟨[208]⟩ 1021), (.bytes ⟨[209]⟩ 1024), (.bytes ⟨[210]⟩ 1027), (.bytes ⟨[211]⟩ 1030), (.bytes ⟨[212]⟩ 1033), (.bytes ⟨[213]⟩ 1036), (.bytes ⟨[214]⟩ 1039), (.bytes ⟨[215]⟩ 1042), (.bytes ⟨[216]⟩ 1045), (.bytes ⟨[217]⟩ 1048), (.bytes ⟨[218]⟩ 1051), (.bytes ⟨[219]⟩ 1054), (.bytes ⟨[220]⟩ 1057), (.bytes ⟨[221]⟩ 1060), (.bytes ⟨[222]⟩ 1063), (.bytes ⟨[223]⟩ 1066), (.bytes ⟨[224]⟩ 1069), (.bytes ⟨[225]⟩ 1072), (.bytes ⟨[226]⟩ 1075), (.bytes ⟨[227]⟩ 1078), (.bytes ⟨[228]⟩ 1081), (.bytes ⟨[229]⟩ 1084), (.bytes ⟨[230]⟩ 1087), (.bytes ⟨[231]⟩ 1090), (.bytes ⟨[232]⟩ 1093), (.bytes ⟨[233]⟩ 1096), (.bytes ⟨[234]⟩ 1099), (.bytes ⟨[235]⟩ 1102), (.bytes ⟨[236]⟩ 1105), (.bytes ⟨[237]⟩ 1108), (.bytes ⟨[238]⟩ 1111), (.bytes ⟨[239]⟩ 1114), (.bytes ⟨[240]⟩ 1117), (.bytes ⟨[241]⟩ 1120), (.bytes ⟨[242]⟩ 1123), (.bytes ⟨[243]⟩ 1126), (.bytes ⟨[244]⟩ 1129), (.bytes ⟨[245]⟩ 1132), (.bytes ⟨[246]⟩ 1135), (.bytes ⟨[247]⟩ 1138), (.bytes ⟨[248]⟩ 1141), (.bytes ⟨[249]⟩ 1144), (.bytes ⟨[250]⟩ 1147), (.bytes ⟨[251]⟩ 1150), (.bytes ⟨[252]⟩ 1153), (.bytes ⟨[253]⟩ 1156), (.bytes ⟨[254]⟩ 1159), (.bytes ⟨[255]⟩ 1162)]⟩ 1), ⟨[]⟩⟩
noncomputable def o1450 (P : Params) : Obj := ⟨(.type "tuple"), none, (.seq ⟨[(.bytes ⟨[0]⟩ 397), (.bytes ⟨[1]⟩ 400), (.bytes ⟨[2]⟩ 403), (.bytes ⟨[3]⟩ 406), (.bytes ⟨[4]⟩ 409), (.bytes ⟨[5]⟩ 412), (.bytes ⟨[6]⟩ 415), (.bytes ⟨[7]⟩ 418), (.bytes ⟨[8]⟩ 421), (.bytes ⟨[9]⟩ 424), (.bytes ⟨[10]⟩ 427), (.bytes ⟨[11]⟩ 430), (.bytes ⟨[12]⟩ 433), (.bytes ⟨[13]⟩ 436), (.bytes ⟨[14]⟩ 439), (.bytes ⟨[15]⟩ 442), (.bytes ⟨[16]⟩ 445), (.bytes ⟨[17]⟩ 448), (.bytes ⟨[18]⟩ 451), (.bytes ⟨[19]⟩ 454), (.bytes ⟨[20]⟩ 457), (.bytes ⟨[21]⟩ 460), (.bytes ⟨[22]⟩ 463), (.bytes ⟨[23]⟩ 466), (.bytes ⟨[24]⟩ 469), (.bytes ⟨[25]⟩ 472), (.bytes ⟨[26]⟩ 475), (.bytes ⟨[27]⟩ 478), (.bytes ⟨[28]⟩ 481), (.bytes ⟨[29]⟩ 484), (.bytes ⟨[30]⟩ 487), (.bytes ⟨[31]⟩ 490), (.bytes ⟨[32]⟩ 493), (.bytes ⟨[33]⟩ 496), (.bytes ⟨[34]⟩ 499), (.bytes ⟨[35]⟩ 502), (.bytes ⟨[36]⟩ 505), (.bytes ⟨[37]⟩ 508), (.bytes ⟨[38]⟩ 511), (.bytes ⟨[39]⟩ 514), (.bytes ⟨[40]⟩ 517), (.bytes ⟨[41]⟩ 520), (.bytes ⟨[42]⟩ 523), (.bytes ⟨[43]⟩ 526), (.bytes ⟨[44]⟩ 529), (.bytes ⟨[45]⟩ 532), (.bytes ⟨[46]⟩ 535), (.bytes ⟨[47]⟩ 538), (.bytes ⟨[48]⟩ 541), (.bytes ⟨[49]⟩ 544), (.bytes ⟨[50]⟩ 547), (.bytes ⟨[51]⟩ 550), (.bytes ⟨[52]⟩ 553), (.bytes ⟨[53]⟩ 556), (.bytes ⟨[54]⟩ 559), (.bytes ⟨[55]⟩ 562), (.bytes ⟨[56]⟩ 565), (.bytes ⟨[57]⟩ 568), (.bytes ⟨[58]⟩ 571), (.bytes ⟨[59]⟩ 574), (.bytes ⟨[60]⟩ 577), (.bytes ⟨[61]⟩ 580), (.bytes ⟨[62]⟩ 583), (.bytes ⟨[63]⟩ 586), (.bytes ⟨[64]⟩ 589), (.bytes ⟨[65]⟩ 592), (.bytes ⟨[66]⟩ 595), (.bytes ⟨[67]⟩ 598), (.bytes ⟨[68]⟩ 601), (.bytes ⟨[69]⟩ 604), (.bytes ⟨[70]⟩ 607), (.bytes ⟨[71]⟩ 610), (.bytes ⟨[72]⟩ 613), (.bytes ⟨[73]⟩ 616), (.bytes ⟨[74]⟩ 619), (.bytes ⟨[75]⟩ 622), (.bytes ⟨[76]⟩ 625), (.bytes ⟨[77]⟩ 628), (.bytes ⟨[78]⟩ 631), (.bytes ⟨[79]⟩ 634), (.bytes ⟨[80]⟩ 637), (.bytes ⟨[81]⟩ 640), (.bytes ⟨[82]⟩ 643), (.bytes ⟨[83]⟩ 646), (.bytes ⟨[84]⟩ 649), (.bytes ⟨[85]⟩ 652), (.bytes ⟨[86]⟩ 655), (.bytes ⟨[87]⟩ 658), (.bytes ⟨[88]⟩ 661), (.bytes ⟨[89]⟩ 664), (.bytes ⟨[90]⟩ 667), (.bytes ⟨[91]⟩ 670), (.bytes ⟨[92]⟩ 673), (.bytes ⟨[93]⟩ 676), (.bytes ⟨[94]⟩ 679), (.bytes ⟨[95]⟩ 682), (.bytes ⟨[96]⟩ 685), (.bytes ⟨[97]⟩ 688), (.bytes ⟨[98]⟩ 691), (.bytes ⟨[99]⟩ 694), (.bytes ⟨[100]⟩ 697), (.bytes ⟨[101]⟩ 700), (.bytes ⟨[102]⟩ 703), (.bytes ⟨[103]⟩ 706), (.bytes ⟨[104]⟩ 709), (.bytes ⟨[105]⟩ 712), (.bytes ⟨[106]⟩ 715), (.bytes ⟨[107]⟩ 718), (.bytes ⟨[108]⟩ 721), (.bytes ⟨[109]⟩ 724), (.bytes ⟨[110]⟩ 727), (.bytes ⟨[111]⟩ 730), (.bytes ⟨[112]⟩ 733), (.bytes ⟨[113]⟩ 736), (.bytes ⟨[114]⟩ 739), (.bytes ⟨[115]⟩ 742), (.bytes ⟨[116]⟩ 745), (.bytes ⟨[117]⟩ 748), (.bytes ⟨[118]⟩ 751), (.bytes ⟨[119]⟩ 754), (.bytes ⟨[120]⟩ 757), (.bytes ⟨[121]⟩ 760), (.bytes ⟨[122]⟩ 763), (.bytes ⟨[123]⟩ 766), (.bytes ⟨[124]⟩ 769), (.bytes ⟨[125]⟩ 772), (.bytes ⟨[126]⟩ 775), (.bytes ⟨[127]⟩ 778), (.bytes ⟨[128]⟩ 781), (.bytes ⟨[129]⟩ 784), (.bytes ⟨[130]⟩ 787), (.bytes ⟨[131]⟩ 790), (.bytes ⟨[132]⟩ 793), (.bytes ⟨[133]⟩ 796), (.bytes ⟨[134]⟩ 799), (.bytes ⟨[135]⟩ 802), (.bytes ⟨[136]⟩ 805), (.bytes ⟨[137]⟩ 808), (.bytes ⟨[138]⟩ 811), (.bytes ⟨[139]⟩ 814), (.bytes ⟨[140]⟩ 817), (.bytes ⟨[141]⟩ 820), (.bytes ⟨[142]⟩ 823), (.bytes ⟨[143]⟩ 826), (.bytes ⟨[144]⟩ 829), (.bytes ⟨[145]⟩ 832), (.bytes ⟨[146]⟩ 835), (.bytes ⟨[147]⟩ 838), (.bytes ⟨[148]⟩ 841), (.bytes ⟨[149]⟩ 844), (.bytes ⟨[150]⟩ 847), (.bytes ⟨[151]⟩ 850), (.bytes ⟨[152]⟩ 853), (.bytes ⟨[153]⟩ 856), (.bytes ⟨[154]⟩ 859), (.bytes ⟨[155]⟩ 862), (.bytes ⟨[156]⟩ 865), (.bytes ⟨[157]⟩ 868), (.bytes ⟨[158]⟩ 871), (.bytes ⟨[159]⟩ 874), (.bytes ⟨[160]⟩ 877), (.bytes ⟨[161]⟩ 880), (.bytes ⟨[162]⟩ 883), (.bytes ⟨[163]⟩ 886), (.bytes ⟨[164]⟩ 889), (.bytes ⟨[165]⟩ 892), (.bytes ⟨[166]⟩ 895), (.bytes ⟨[167]⟩ 898), (.bytes ⟨[168]⟩ 901), (.bytes ⟨[169]⟩ 904), (.bytes ⟨[170]⟩ 907), (.bytes ⟨[171]⟩ 910), (.bytes ⟨[172]⟩ 913), (.bytes ⟨[173]⟩ 916), (.bytes ⟨[174]⟩ 919), (.bytes ⟨[175]⟩ 922), (.bytes ⟨[176]⟩ 925), (.bytes ⟨[177]⟩ 928), (.bytes ⟨[178]⟩ 931), (.bytes ⟨[179]⟩ 934), (.bytes ⟨[180]⟩ 937), (.bytes ⟨[181]⟩ 940), (.bytes ⟨[182]⟩ 943), (.bytes ⟨[183]⟩ 946), (.bytes ⟨[184]⟩ 949), (.bytes ⟨[185]⟩ 952), (.bytes ⟨[186]⟩ 955), (.bytes ⟨[187]⟩ 958), (.bytes ⟨[188]⟩ 961), (.bytes ⟨[189]⟩ 964), (.bytes ⟨[190]⟩ 967), (.bytes ⟨[191]⟩ 970), (.bytes ⟨[192]⟩ 973), (.bytes ⟨[193]⟩ 976), (.bytes ⟨[194]⟩ 979), (.bytes ⟨[195]⟩ 982), (.bytes ⟨[196]⟩ 985), (.bytes ⟨[197]⟩ 988), (.bytes ⟨[198]⟩ 991), (.bytes ⟨[199]⟩ 994), (.bytes ⟨[200]⟩ 997), (.bytes ⟨[201]⟩ 1000), (.bytes ⟨[202]⟩ 1003), (.bytes ⟨[203]⟩ 1006), (.bytes ⟨[204]⟩ 1009), (.bytes ⟨[205]⟩ 1012), (.bytes ⟨[206]⟩ 1015), (.bytes ⟨[207]⟩ 1018), (.bytes ⟨[208]⟩ 1021), (.bytes ⟨[209]⟩ 1024), (.bytes ⟨[210]⟩ 1027), (.bytes ⟨[211]⟩ 1030), (.bytes ⟨[212]⟩ 1033), (.bytes ⟨[213]⟩ 1036), (.bytes ⟨[214]⟩ 1039), (.bytes ⟨[215]⟩ 1042), (.bytes ⟨[216]⟩ 1045), (.bytes ⟨[217]⟩ 1048), (.bytes ⟨[218]⟩ 1051), (.bytes ⟨[219]⟩ 1054), (.bytes ⟨[220]⟩ 1057), (.bytes ⟨[221]⟩ 1060), (.bytes ⟨[222]⟩ 1063), (.bytes ⟨[223]⟩ 1066), (.bytes ⟨[224]⟩ 1069), (.bytes ⟨[225]⟩ 1072), (.bytes ⟨[226]⟩ 1075), (.bytes ⟨[227]⟩ 1078), (.bytes ⟨[228]⟩ 1081), (.bytes ⟨[229]⟩ 1084), (.bytes ⟨[230]⟩ 1087), (.bytes ⟨[231]⟩ 1090), (.bytes ⟨[232]⟩ 1093), (.bytes ⟨[233]⟩ 1096), (.bytes ⟨[234]⟩ 1099), (.bytes ⟨[235]⟩ 1102), (.bytes ⟨[236]⟩ 1105), (.bytes ⟨[237]⟩ 1108), (.bytes ⟨[238]⟩ 1111), (.bytes ⟨[239]⟩ 1114), (.bytes ⟨[240]⟩ 1117), (.bytes ⟨[241]⟩ 1120), (.bytes ⟨[242]⟩ 1123), (.bytes ⟨[243]⟩ 1126), (.bytes ⟨[244]⟩ 1129), (.bytes ⟨[245]⟩ 1132), (.bytes ⟨[246]⟩ 1135), (.bytes ⟨[247]⟩ 1138), (.bytes ⟨[248]⟩ 1141), (.bytes ⟨[249]⟩ 1144), (.bytes ⟨[250]⟩ 1147), (.bytes ⟨[251]⟩ 1150), (.bytes ⟨[252]⟩ 1153), (.bytes ⟨[253]⟩ 1156), (.bytes ⟨[254]⟩ 1159), (.bytes ⟨[255]⟩ 1162)]⟩ 0), ⟨[]⟩⟩
noncomputable def o1451 (P : Params) : Obj := ⟨(.type "tuple"), none, (.seq ⟨[]⟩ 0), ⟨[]⟩⟩
noncomputable def o1452 (P : Params) : Obj := ⟨.none, none, (.fields ⟨[]⟩), ⟨[]⟩⟩
noncomputable def o1453 (P : Params) : Obj := ⟨(.type "tuple"), none, (.seq ⟨[(.str z194 1167)]⟩ 0), ⟨[]⟩⟩
noncomputable def o1454 (P : Params) : Obj := ⟨(.type "tuple"), none, (.seq ⟨[]⟩ 0), ⟨[]⟩⟩
noncomputable def o1455 (P : Params) : Obj := ⟨.none, none, (.func (fd (st 11) z195 0 [] .none .none .none .none none .none .none 0)), ⟨[]⟩⟩
noncomputable def o1456 (P : Params) : Obj := ⟨(.type "code"), none, (.fields ⟨[(.str z195 1164), (.str z195 1165), (.str z162 1166), (.int 49 0), (.int 1 0), (.int 0 0), (.int 0 0), (.int 3 0), (.ref 1451), (.bool true), (.int 181 0), (.ref 1452), .none, (.ref 1453), (.ref 1454), (.ref 1455), (.int 1168 0), (.int 49 0), (.str z162 1169)]⟩), ⟨[]⟩⟩
noncomputable def o1457 (P : Params) : Obj := ⟨(.type "function"), none, (.func (fd (st 11) z195 3 [] .none .none .none (.str z196 390) none (.ref 1456) .none 0)), ⟨[]⟩⟩
noncomputable def o1458 (P : Params) : Obj := ⟨(.type "tuple"), none, (.seq ⟨[]⟩ 0), ⟨[]⟩⟩
noncomputable def o1459 (P : Params) : Obj := ⟨.none, none, (.fields ⟨[]⟩), ⟨[]⟩⟩
noncomputable def o1460 (P : Params) : Obj := ⟨(.type "tuple"), none, (.seq ⟨[(.str z194 1174)]⟩ 0), ⟨[]⟩⟩
noncomputable def o1461 (P : Params) : Obj := ⟨(.type "tuple"), none, (.seq ⟨[]⟩ 0), ⟨[]⟩⟩
noncomputable def o1462 (P : Params) : Obj := ⟨.none, none, (.func (fd (st 12) z197 0 [] .none .none .none .none none .none .none 0)), ⟨[]⟩⟩
noncomputable def o1463 (P : Params) : Obj := ⟨(.type "code"), none, (.fields ⟨[(.str z197 1171), (.str z197 1172), (.str z162 1173), (.int 51 0), (.int 1 0), (.int 0 0), (.int 0 0), (.int 3 0), (.ref 1458), (.bool true), (.int 181 0), (.ref 1459), .none, (.ref 1460), (.ref 1461), (.ref 1462), (.int 1175 0), (.int 51 0), (.str z162 1176)]⟩), ⟨[]⟩⟩
noncomputable def o1464 (P : Params) : Obj := ⟨(.type "function"), none, (.func (fd (st 12) z197 3 [] .none .none .none (.str z196 390) none (.ref 1463) .none 0)), ⟨[]⟩⟩
noncomputable def o1465 (P : Params) : Obj := ⟨(.type "tuple"), none, (.seq ⟨[]⟩ 0), ⟨[]⟩⟩
noncomputable def o1466 (P : Params) : Obj := ⟨.none, none, (.fields ⟨[]⟩), ⟨[]⟩⟩
noncomputable def o1467 (P : Params) : Obj := ⟨(.type "tuple"), none, (.seq ⟨[(.str z194 1181)]⟩ 0), ⟨[]⟩⟩
noncomputable def o1468 (P : Params) : Obj := ⟨(.type "tuple"), none, (.seq ⟨[]⟩ 0), ⟨[]⟩⟩
noncomputable def o1469 (P : Params) : Obj := ⟨.none, none, (.func (fd (st 13) z198 0 [] .none .none .none .none none .none .none 0)), ⟨[]⟩⟩
noncomputable def o1470 (P : Params) : Obj := ⟨(.type "code"), none, (.fields ⟨[(.str z198 1178), (.str z198 1179), (.str z162 1180), (.int 53 0), (.int 1 0), (.int 0 0), (.int 0 0), (.int 3 0), (.ref 1465), (.bool true), (.int 181 0), (.ref 1466), .none, (.ref 1467), (.ref 1468), (.ref 1469), (.int 1182 0), (.int 53 0), (.str z162 1183)]⟩), ⟨[]⟩⟩
noncomputable def o1471 (P : Params) : Obj := ⟨(.type "function"), none, (.func (fd (st 13) z198 3 [] .none .none .none (.str z196 390) none (.ref 1470) .none 0)), ⟨[]⟩⟩
noncomputable def o1472 (P : Params) : Obj := ⟨(.type "tuple"), none, (.seq ⟨[]⟩ 0), ⟨[]⟩⟩
noncomputable def o1473 (P : Params) : Obj := ⟨(.type "builtin_function_or_method"), none, (.fields ⟨[(.builtin "type.__prepare__"), (.type "type")]⟩), ⟨[]⟩⟩
noncomputable def o1474 (P : Params) : Obj := ⟨(.type "dict"), none, (.dict ⟨[de P z165 1194 (.str z199 1185), de P z167 1196 (.str z200 1195), de P z169 1198 (.int 56 1197), de P z173 1206 (.ref 1486), de P z201 1215 (.ref 1493), de P z202 1223 (.ref 1500), de P z170 1225 (.ref 1501)]⟩ 7), ⟨[]⟩⟩
noncomputable def o1475 (P : Params) : Obj := ⟨(.type "tuple"), none, (.seq ⟨[]⟩ 0), ⟨[]⟩⟩
noncomputable def o1476 (P : Params) : Obj := ⟨.none, none, (.fields ⟨[(.int 58 0), (.int 4 0), (.ref 1485), (.int 61 0), (.int 4 0), (.ref 1492), (.int 77 0), (.int 4 0), (.ref 1499)]⟩), ⟨[]⟩⟩
noncomputable def o1477 (P : Params) : Obj := ⟨(.type "code"), none, (.fields ⟨[(.str z200 1189), (.str z200 1190), (.str z162 1191), (.int 56 0), (.int 0 0), (.int 0 0), (.int 0 0), (.int 0 0), (.ref 1475), (.bool false), (.int 181 0), (.ref 1476), .none, .none, .none, .none, (.int 1192 0), (.int 56 0), (.str z162 1193)]⟩), ⟨[]⟩⟩
noncomputable def o1478 (P : Params) : Obj := ⟨(.type "frame"), none, .plain, ⟨[some (.ref 1477), some (.ref 3), some (.ref 1474), none, some (.str z199 1185), none, some (.ref 0)]⟩⟩
noncomputable def o1479 (P : Params) : Obj := ⟨(.type "tuple"), none, (.seq ⟨[.none]⟩ 0), ⟨[]⟩⟩
noncomputable def o1480 (P : Params) : Obj := ⟨(.type "tuple"), none, (.seq ⟨[]⟩ 0), ⟨[]⟩⟩
noncomputable def o1481 (P : Params) : Obj := ⟨.none, none, (.fields ⟨[]⟩), ⟨[]⟩⟩
noncomputable def o1482 (P : Params) : Obj := ⟨(.type "tuple"), none, (.seq ⟨[(.str z176 1202), (.str z203 1203)]⟩ 0), ⟨[]⟩⟩
noncomputable def o1483 (P : Params) : Obj := ⟨(.type "tuple"), none, (.seq ⟨[]⟩ 0), ⟨[]⟩⟩
noncomputable def o1484 (P : Params) : Obj := ⟨.none, none, (.func (fd (me 15 0) z204 0 [] .none .none .none .none none .none .none 0)), ⟨[]⟩⟩
noncomputable def o1485 (P : Params) : Obj := ⟨(.type "code"), none, (.fields ⟨[(.str z173 1199), (.str z204 1200), (.str z162 1201), (.int 58 0), (.int 2 0), (.int 0 0), (.int 0 0), (.int 3 0), (.ref 1480), (.bool true), (.int 181 0), (.ref 1481), .none, (.ref 1482), (.ref 1483), (.ref 1484), (.int 1204 0), (.int 58 0), (.str z162 1205)]⟩), ⟨[]⟩⟩
noncomputable def o1486 (P : Params) : Obj := ⟨(.type "function"), none, (.func (fd (me 15 0) z204 3 [] (.ref 1479) .none .none (.str z199 1185) none (.ref 1485) .none 0)), ⟨[]⟩⟩
noncomputable def o1487 (P : Params) : Obj := ⟨(.type "tuple"), none, (.seq ⟨[]⟩ 0), ⟨[]⟩⟩
noncomputable def o1488 (P : Params) : Obj := ⟨.none, none, (.fields ⟨[]⟩), ⟨[]⟩⟩
noncomputable def o1489 (P : Params) : Obj := ⟨(.type "tuple"), none, (.seq ⟨[(.str z176 1210), (.str z178 1211), (.str z205 1212)]⟩ 0), ⟨[]⟩⟩
noncomputable def o1490 (P : Params) : Obj := ⟨(.type "tuple"), none, (.seq ⟨[]⟩ 0), ⟨[]⟩⟩
noncomputable def o1491 (P : Params) : Obj := ⟨.none, none, (.func (fd (me 15 1) z206 0 [] .none .none .none .none none .none .none 0)), ⟨[]⟩⟩
noncomputable def o1492 (P : Params) : Obj := ⟨(.type "code"), none, (.fields ⟨[(.str z201 1207), (.str z206 1208), (.str z162 1209), (.int 61 0), (.int 2 0), (.int 0 0), (.int 0 0), (.int 3 0), (.ref 1487), (.bool true), (.int 181 0), (.ref 1488), .none, (.ref 1489), (.ref 1490), (.ref 1491), (.int 1213 0), (.int 61 0), (.str z162 1214)]⟩), ⟨[]⟩⟩
noncomputable def o1493 (P : Params) : Obj := ⟨(.type "function"), none, (.func (fd (me 15 1) z206 3 [] .none .none .none (.str z199 1185) none (.ref 1492) .none 0)), ⟨[]⟩⟩
noncomputable def o1494 (P : Params) : Obj := ⟨(.type "tuple"), none, (.seq ⟨[]⟩ 0), ⟨[]⟩⟩
noncomputable def o1495 (P : Params) : Obj := ⟨.none, none, (.fields ⟨[]⟩), ⟨[]⟩⟩
noncomputable def o1496 (P : Params) : Obj := ⟨(.type "tuple"), none, (.seq ⟨[(.str z176 1219), (.str z190 1220)]⟩ 0), ⟨[]⟩⟩
noncomputable def o1497 (P : Params) : Obj := ⟨(.type "tuple"), none, (.seq ⟨[]⟩ 0), ⟨[]⟩⟩
noncomputable def o1498 (P : Params) : Obj := ⟨.none, none, (.func (fd (me 15 2) z207 0 [] .none .none .none .none none .none .none 0)), ⟨[]⟩⟩
noncomputable def o1499 (P : Params) : Obj := ⟨(.type "code"), none, (.fields ⟨[(.str z202 1216), (.str z207 1217), (.str z162 1218), (.int 77 0), (.int 2 0), (.int 0 0), (.int 0 0), (.int 3 0), (.ref 1494), (.bool true), (.int 181 0), (.ref 1495), .none, (.ref 1496), (.ref 1497), (.ref 1498), (.int 1221 0), (.int 77 0), (.str z162 1222)]⟩), ⟨[]⟩⟩
noncomputable def o1500 (P : Params) : Obj := ⟨(.type "function"), none, (.func (fd (me 15 2) z207 3 [] .none .none .none (.str z199 1185) none (.ref 1499) .none 0)), ⟨[]⟩⟩
noncomputable def o1501 (P : Params) : Obj := ⟨(.type "tuple"), none, (.seq ⟨[(.str z203 1224)]⟩ 0), ⟨[]⟩⟩
noncomputable def o1502 (P : Params) : Obj := ⟨(.type "dict"), none, (.dict ⟨[de P z165 1194 (.str z199 1185), de P z169 1198 (.int 56 1197), de P z173 1206 (.ref 1486), de P z201 1215 (.ref 1493), de P z202 1223 (.ref 1500), de P z170 1225 (.ref 1501), de P z208 1227 (.ref 1504), de P z171 1229 (.ref 1505), de P z2 1230 .none]⟩ 4), ⟨[]⟩⟩
noncomputable def o1503 (P : Params) : Obj := ⟨(.type "type"), none, (.cls ⟨z200, [(.type "object")], [(.ref 1503), (.type "object")], 1502, z200, true, [], [], false, none, false⟩), ⟨[none, none, some (.str z200 1187), some (.str z200 1195), some (.builtin "object.__new__"), some (.bool true)]⟩⟩
noncomputable def o1504 (P : Params) : Obj := ⟨(.type "getset_descriptor"), none, (.fields ⟨[(.str z208 1226), (.ref 1503), (.builtin "function.__dict__"), (.builtin "function.__dict__#set")]⟩), ⟨[]⟩⟩
noncomputable def o1505 (P : Params) : Obj := ⟨(.type "getset_descriptor"), none, (.fields ⟨[(.str z171 1228), (.ref 1503), (.builtin "ExceptionGroup.__weakref__"), .none]⟩), ⟨[]⟩⟩
noncomputable def o1506 (P : Params) : Obj := ⟨(.type "super"), none, (.fields ⟨[(.ref 1503), (.ref 1503), (.ref 1503)]⟩), ⟨[]⟩⟩
noncomputable def o1507 (P : Params) : Obj := ⟨(.type "builtin_function_or_method"), none, (.fields ⟨[(.builtin "object.__init_subclass__"), (.ref 1503)]⟩), ⟨[]⟩⟩
noncomputable def o1508 (P : Params) : Obj := ⟨(.type "dict"), none, (.dict ⟨[de P z203 1236 .none]⟩ 1), ⟨[]⟩⟩
noncomputable def o1509 (P : Params) : Obj := ⟨(.ref 1503), (some 1508), .plain, ⟨[]⟩⟩
noncomputable def o1510 (P : Params) : Obj := ⟨(.type "frame"), none, (.dict ⟨[de P z176 1233 (.ref 1509), de P z203 1234 .none]⟩ 2), ⟨[]⟩⟩
noncomputable def o1511 (P : Params) : Obj := ⟨(.type "tuple"), none, (.seq ⟨[]⟩ 0), ⟨[]⟩⟩
noncomputable def o1512 (P : Params) : Obj := ⟨(.type "builtin_function_or_method"), none, (.fields ⟨[(.builtin "type.__prepare__"), (.type "type")]⟩), ⟨[]⟩⟩
noncomputable def o1513 (P : Params) : Obj := ⟨(.type "dict"), none, (.dict ⟨[de P z165 1247 (.str z209 1238), de P z167 1249 (.str z210 1248), de P z169 1251 (.int 86 1250), de P z173 1261 (.ref 1525), de P z211 1282 (.ref 1535), de P z212 1302 (.ref 1545), de P z213 1310 (.ref 1553), de P z201 1318 (.ref 1560), de P z202 1326 (.ref 1567), de P z170 1330 (.ref 1568)]⟩ 10), ⟨[]⟩⟩
noncomputable def o1514 (P : Params) : Obj := ⟨(.type "tuple"), none, (.seq ⟨[]⟩ 0), ⟨[]⟩⟩
noncomputable def o1515 (P : Params) : Obj := ⟨.none, none, (.fields ⟨[(.int 88 0), (.int 4 0), (.ref 1524), (.int 94 0), (.int 4 0), (.ref 1532), (.int 98 0), (.int 4 0), (.ref 1542), (.int 101 0), (.int 4 0), (.ref 1552), (.int 104 0), (.int 4 0), (.ref 1559), (.int 111 0), (.int 4 0), (.ref 1566)]⟩), ⟨[]⟩⟩
noncomputable def o1516 (P : Params) : Obj := ⟨(.type "code"), none, (.fields ⟨[(.str z210 1242), (.str z210 1243), (.str z162 1244), (.int 86 0), (.int 0 0), (.int 0 0), (.int 0 0), (.int 0 0), (.ref 1514), (.bool false), (.int 181 0), (.ref 1515), .none, .none, .none, .none, (.int 1245 0), (.int 86 0), (.str z162 1246)]⟩), ⟨[]⟩⟩
noncomputable def o1517 (P : Params) : Obj := ⟨(.type "frame"), none, .plain, ⟨[some (.ref 1516), some (.ref 3), some (.ref 1513), none, some (.str z209 1238), none, some (.ref 0)]⟩⟩
noncomputable def o1518 (P : Params) : Obj := ⟨(.type "tuple"), none, (.seq ⟨[.none, .none, (.bool false)]⟩ 0), ⟨[]⟩⟩
noncomputable def o1519 (P : Params) : Obj := ⟨(.type "tuple"), none, (.seq ⟨[]⟩ 0), ⟨[]⟩⟩
noncomputable def o1520 (P : Params) : Obj := ⟨.none, none, (.fields ⟨[]⟩), ⟨[]⟩⟩
noncomputable def o1521 (P : Params) : Obj := ⟨(.type "tuple"), none, (.seq ⟨[(.str z176 1255), (.str z214 1256), (.str z215 1257), (.str z216 1258)]⟩ 0), ⟨[]⟩⟩
noncomputable def o1522 (P : Params) : Obj := ⟨(.type "tuple"), none, (.seq ⟨[]⟩ 0), ⟨[]⟩⟩
noncomputable def o1523 (P : Params) : Obj := ⟨.none, none, (.func (fd (me 18 0) z217 0 [] .none .none .none .none none .none .none 0)), ⟨[]⟩⟩
noncomputable def o1524 (P : Params) : Obj := ⟨(.type "code"), none, (.fields ⟨[(.str z173 1252), (.str z217 1253), (.str z162 1254), (.int 88 0), (.int 4 0), (.int 0 0), (.int 0 0), (.int 3 0), (.ref 1519), (.bool true), (.int 181 0), (.ref 1520), .none, (.ref 1521), (.ref 1522), (.ref 1523), (.int 1259 0), (.int 88 0), (.str z162 1260)]⟩), ⟨[]⟩⟩
noncomputable def o1525 (P : Params) : Obj := ⟨(.type "function"), none, (.func (fd (me 18 0) z217 3 [] (.ref 1518) .none .none (.str z209 1238) none (.ref 1524) .none 0)), ⟨[]⟩⟩
noncomputable def o1526 (P : Params) : Obj := ⟨(.type "tuple"), none, (.seq ⟨[(.bool false)]⟩ 0), ⟨[]⟩⟩
noncomputable def o1527 (P : Params) : Obj := ⟨(.type "tuple"), none, (.seq ⟨[]⟩ 0), ⟨[]⟩⟩
noncomputable def o1528 (P : Params) : Obj := ⟨.none, none, (.fields ⟨[]⟩), ⟨[]⟩⟩
noncomputable def o1529 (P : Params) : Obj := ⟨(.type "tuple"), none, (.seq ⟨[(.str z218 1265), (.str z203 1266), (.str z216 1267)]⟩ 0), ⟨[]⟩⟩
noncomputable def o1530 (P : Params) : Obj := ⟨(.type "tuple"), none, (.seq ⟨[]⟩ 0), ⟨[]⟩⟩
noncomputable def o1531 (P : Params) : Obj := ⟨.none, none, (.func (fd (me 18 1) z219 0 [] .none .none .none .none none .none .none 0)), ⟨[]⟩⟩
noncomputable def o1532 (P : Params) : Obj := ⟨(.type "code"), none, (.fields ⟨[(.str z211 1262), (.str z219 1263), (.str z162 1264), (.int 93 0), (.int 3 0), (.int 0 0), (.int 0 0), (.int 3 0), (.ref 1527), (.bool true), (.int 181 0), (.ref 1528), .none, (.ref 1529), (.ref 1530), (.ref 1531), (.int 1268 0), (.int 93 0), (.str z162 1269)]⟩), ⟨[]⟩⟩
noncomputable def o1533 (P : Params) : Obj := ⟨(.type "function"), none, (.func (fd (me 18 1) z219 3 [] (.ref 1526) .none .none (.str z209 1238) (some 1536) (.ref 1532) .none 0)), ⟨[]⟩⟩
noncomputable def o1534 (P : Params) : Obj := ⟨(.type "dict"), none, (.dict ⟨[de P z165 1271 (.str z209 1238), de P z0 1274 (.str z211 1273), de P z167 1277 (.str z219 1276), de P z2 1279 .none, de P z220 1281 (.ref 1536)]⟩ 5), ⟨[]⟩⟩
noncomputable def o1535 (P : Params) : Obj := ⟨(.type "classmethod"), (some 1534), (.fields ⟨[(.ref 1533), (.bool false)]⟩), ⟨[]⟩⟩
noncomputable def o1536 (P : Params) : Obj := ⟨(.type "dict"), none, (.dict ⟨[]⟩ 0), ⟨[]⟩⟩
noncomputable def o1537 (P : Params) : Obj := ⟨(.type "tuple"), none, (.seq ⟨[]⟩ 0), ⟨[]⟩⟩
noncomputable def o1538 (P : Params) : Obj := ⟨.none, none, (.fields ⟨[]⟩), ⟨[]⟩⟩
noncomputable def o1539 (P : Params) : Obj := ⟨(.type "tuple"), none, (.seq ⟨[(.str z218 1286), (.str z178 1287)]⟩ 0), ⟨[]⟩⟩
noncomputable def o1540 (P : Params) : Obj := ⟨(.type "tuple"), none, (.seq ⟨[]⟩ 0), ⟨[]⟩⟩
noncomputable def o1541 (P : Params) : Obj := ⟨.none, none, (.func (fd (me 18 2) z221 0 [] .none .none .none .none none .none .none 0)), ⟨[]⟩⟩
noncomputable def o1542 (P : Params) : Obj := ⟨(.type "code"), none, (.fields ⟨[(.str z212 1283), (.str z221 1284), (.str z162 1285), (.int 97 0), (.int 2 0), (.int 0 0), (.int 0 0), (.int 3 0), (.ref 1537), (.bool true), (.int 181 0), (.ref 1538), .none, (.ref 1539), (.ref 1540), (.ref 1541), (.int 1288 0), (.int 97 0), (.str z162 1289)]⟩), ⟨[]⟩⟩
noncomputable def o1543 (P : Params) : Obj := ⟨(.type "function"), none, (.func (fd (me 18 2) z221 3 [] .none .none .none (.str z209 1238) (some 1546) (.ref 1542) .none 0)), ⟨[]⟩⟩
noncomputable def o1544 (P : Params) : Obj := ⟨(.type "dict"), none, (.dict ⟨[de P z165 1291 (.str z209 1238), de P z0 1294 (.str z212 1293), de P z167 1297 (.str z221 1296), de P z2 1299 .none, de P z220 1301 (.ref 1546)]⟩ 5), ⟨[]⟩⟩
noncomputable def o1545 (P : Params) : Obj := ⟨(.type "classmethod"), (some 1544), (.fields ⟨[(.ref 1543), (.bool false)]⟩), ⟨[]⟩⟩
noncomputable def o1546 (P : Params) : Obj := ⟨(.type "dict"), none, (.dict ⟨[]⟩ 0), ⟨[]⟩⟩
noncomputable def o1547 (P : Params) : Obj := ⟨(.type "tuple"), none, (.seq ⟨[]⟩ 0), ⟨[]⟩⟩
noncomputable def o1548 (P : Params) : Obj := ⟨.none, none, (.fields ⟨[]⟩), ⟨[]⟩⟩
noncomputable def o1549 (P : Params) : Obj := ⟨(.type "tuple"), none, (.seq ⟨[(.str z176 1306), (.str z203 1307)]⟩ 0), ⟨[]⟩⟩
noncomputable def o1550 (P : Params) : Obj := ⟨(.type "tuple"), none, (.seq ⟨[]⟩ 0), ⟨[]⟩⟩
noncomputable def o1551 (P : Params) : Obj := ⟨.none, none, (.func (fd (me 18 3) z222 0 [] .none .none .none .none none .none .none 0)), ⟨[]⟩⟩
noncomputable def o1552 (P : Params) : Obj := ⟨(.type "code"), none, (.fields ⟨[(.str z213 1303), (.str z222 1304), (.str z162 1305), (.int 101 0), (.int 2 0), (.int 0 0), (.int 0 0), (.int 3 0), (.ref 1547), (.bool true), (.int 181 0), (.ref 1548), .none, (.ref 1549), (.ref 1550), (.ref 1551), (.int 1308 0), (.int 101 0), (.str z162 1309)]⟩), ⟨[]⟩⟩
noncomputable def o1553 (P : Params) : Obj := ⟨(.type "function"), none, (.func (fd (me 18 3) z222 3 [] .none .none .none (.str z209 1238) none (.ref 1552) .none 0)), ⟨[]⟩⟩
noncomputable def o1554 (P : Params) : Obj := ⟨(.type "tuple"), none, (.seq ⟨[]⟩ 0), ⟨[]⟩⟩
noncomputable def o1555 (P : Params) : Obj := ⟨.none, none, (.fields ⟨[]⟩), ⟨[]⟩⟩
noncomputable def o1556 (P : Params) : Obj := ⟨(.type "tuple"), none, (.seq ⟨[(.str z176 1314), (.str z178 1315)]⟩ 0), ⟨[]⟩⟩
noncomputable def o1557 (P : Params) : Obj := ⟨(.type "tuple"), none, (.seq ⟨[]⟩ 0), ⟨[]⟩⟩
noncomputable def o1558 (P : Params) : Obj := ⟨.none, none, (.func (fd (me 18 4) z223 0 [] .none .none .none .none none .none .none 0)), ⟨[]⟩⟩
noncomputable def o1559 (P : Params) : Obj := ⟨(.type "code"), none, (.fields ⟨[(.str z201 1311), (.str z223 1312), (.str z162 1313), (.int 104 0), (.int 2 0), (.int 0 0), (.int 0 0), (.int 3 0), (.ref 1554), (.bool true), (.int 181 0), (.ref 1555), .none, (.ref 1556), (.ref 1557), (.ref 1558), (.int 1316 0), (.int 104 0), (.str z162 1317)]⟩), ⟨[]⟩⟩
noncomputable def o1560 (P : Params) : Obj := ⟨(.type "function"), none, (.func (fd (me 18 4) z223 3 [] .none .none .none (.str z209 1238) none (.ref 1559) .none 0)), ⟨[]⟩⟩
noncomputable def o1561 (P : Params) : Obj := ⟨(.type "tuple"), none, (.seq ⟨[]⟩ 0), ⟨[]⟩⟩
noncomputable def o1562 (P : Params) : Obj := ⟨.none, none, (.fields ⟨[]⟩), ⟨[]⟩⟩
noncomputable def o1563 (P : Params) : Obj := ⟨(.type "tuple"), none, (.seq ⟨[(.str z176 1322), (.str z190 1323)]⟩ 0), ⟨[]⟩⟩
noncomputable def o1564 (P : Params) : Obj := ⟨(.type "tuple"), none, (.seq ⟨[]⟩ 0), ⟨[]⟩⟩
noncomputable def o1565 (P : Params) : Obj := ⟨.none, none, (.func (fd (me 18 5) z224 0 [] .none .none .none .none none .none .none 0)), ⟨[]⟩⟩
noncomputable def o1566 (P : Params) : Obj := ⟨(.type "code"), none, (.fields ⟨[(.str z202 1319), (.str z224 1320), (.str z162 1321), (.int 111 0), (.int 2 0), (.int 0 0), (.int 0 0), (.int 3 0), (.ref 1561), (.bool true), (.int 181 0), (.ref 1562), .none, (.ref 1563), (.ref 1564), (.ref 1565), (.int 1324 0), (.int 111 0), (.str z162 1325)]⟩), ⟨[]⟩⟩
noncomputable def o1567 (P : Params) : Obj := ⟨(.type "function"), none, (.func (fd (me 18 5) z224 3 [] .none .none .none (.str z209 1238) none (.ref 1566) .none 0)), ⟨[]⟩⟩
noncomputable def o1568 (P : Params) : Obj := ⟨(.type "tuple"), none, (.seq ⟨[(.str z216 1327), (.str z215 1328), (.str z214 1329)]⟩ 0), ⟨[]⟩⟩
noncomputable def o1569 (P : Params) : Obj := ⟨(.type "dict"), none, (.dict ⟨[de P z165 1247 (.str z209 1238), de P z169 1251 (.int 86 1250), de P z173 1261 (.ref 1525), de P z211 1282 (.ref 1535), de P z212 1302 (.ref 1545), de P z213 1310 (.ref 1553), de P z201 1318 (.ref 1560), de P z202 1326 (.ref 1567), de P z170 1330 (.ref 1568), de P z208 1332 (.ref 1571), de P z171 1334 (.ref 1572), de P z2 1335 .none]⟩ 4), ⟨[]⟩⟩
noncomputable def o1570 (P : Params) : Obj := ⟨(.type "type"), none, (.cls ⟨z210, [(.type "object")], [(.ref 1570), (.type "object")], 1569, z210, true, [], [], false, none, false⟩), ⟨[none, none, some (.str z210 1240), some (.str z210 1248), some (.builtin "object.__new__"), some (.bool true)]⟩⟩
noncomputable def o1571 (P : Params) : Obj := ⟨(.type "getset_descriptor"), none, (.fields ⟨[(.str z208 1331), (.ref 1570), (.builtin "function.__dict__"), (.builtin "function.__dict__#set")]⟩), ⟨[]⟩⟩
noncomputable def o1572 (P : Params) : Obj := ⟨(.type "getset_descriptor"), none, (.fields ⟨[(.str z171 1333), (.ref 1570), (.builtin "ExceptionGroup.__weakref__"), .none]⟩), ⟨[]⟩⟩
noncomputable def o1573 (P : Params) : Obj := ⟨(.type "super"), none, (.fields ⟨[(.ref 1570), (.ref 1570), (.ref 1570)]⟩), ⟨[]⟩⟩
noncomputable def o1574 (P : Params) : Obj := ⟨(.type "builtin_function_or_method"), none, (.fields ⟨[(.builtin "object.__init_subclass__"), (.ref 1570)]⟩), ⟨[]⟩⟩
noncomputable def o1575 (P : Params) : Obj := ⟨(.type "dict"), none, (.dict ⟨[de P z214 1344 (.int 0 1342), de P z215 1346 .none, de P z216 1348 (.bool false)]⟩ 3), ⟨[]⟩⟩
noncomputable def o1576 (P : Params) : Obj := ⟨(.ref 1570), (some 1575), .plain, ⟨[]⟩⟩
noncomputable def o1577 (P : Params) : Obj := ⟨(.type "frame"), none, (.dict ⟨[de P z176 1338 (.ref 1576), de P z214 1339 .none, de P z215 1340 .none, de P z216 1341 (.bool false)]⟩ 4), ⟨[]⟩⟩
noncomputable def o1578 (P : Params) : Obj := ⟨(.type "tuple"), none, (.seq ⟨[]⟩ 0), ⟨[]⟩⟩
noncomputable def o1579 (P : Params) : Obj := ⟨(.type "builtin_function_or_method"), none, (.fields ⟨[(.builtin "type.__prepare__"), (.type "type")]⟩), ⟨[]⟩⟩
noncomputable def o1580 (P : Params) : Obj := ⟨(.type "dict"), none, (.dict ⟨[de P z165 1359 (.str z225 1350), de P z167 1361 (.str z226 1360), de P z169 1363 (.int 120 1362), de P z201 1371 (.ref 1591), de P z202 1379 (.ref 1598), de P z170 1380 (.ref 1599)]⟩ 6), ⟨[]⟩⟩
noncomputable def o1581 (P : Params) : Obj := ⟨(.type "tuple"), none, (.seq ⟨[]⟩ 0), ⟨[]⟩⟩
noncomputable def o1582 (P : Params) : Obj := ⟨.none, none, (.fields ⟨[(.int 122 0), (.int 4 0), (.ref 1590), (.int 132 0), (.int 4 0), (.ref 1597)]⟩), ⟨[]⟩⟩
noncomputable def o1583 (P : Params) : Obj := ⟨(.type "code"), none, (.fields ⟨[(.str z226 1354), (.str z226 1355), (.str z162 1356), (.int 120 0), (.int 0 0), (.int 0 0), (.int 0 0), (.int 0 0), (.ref 1581), (.bool false), (.int 181 0), (.ref 1582), .none, .none, .none, .none, (.int 1357 0), (.int 120 0), (.str z162 1358)]⟩), ⟨[]⟩⟩
noncomputable def o1584 (P : Params) : Obj := ⟨(.type "frame"), none, .plain, ⟨[some (.ref 1583), some (.ref 3), some (.ref 1580), none, some (.str z225 1350), none, some (.ref 0)]⟩⟩
noncomputable def o1585 (P : Params) : Obj := ⟨(.type "tuple"), none, (.seq ⟨[]⟩ 0), ⟨[]⟩⟩
noncomputable def o1586 (P : Params) : Obj := ⟨.none, none, (.fields ⟨[]⟩), ⟨[]⟩⟩
noncomputable def o1587 (P : Params) : Obj := ⟨(.type "tuple"), none, (.seq ⟨[(.str z176 1367), (.str z178 1368)]⟩ 0), ⟨[]⟩⟩
noncomputable def o1588 (P : Params) : Obj := ⟨(.type "tuple"), none, (.seq ⟨[]⟩ 0), ⟨[]⟩⟩
noncomputable def o1589 (P : Params) : Obj := ⟨.none, none, (.func (fd (me 21 0) z227 0 [] .none .none .none .none none .none .none 0)), ⟨[]⟩⟩
noncomputable def o1590 (P : Params) : Obj := ⟨(.type "code"), none, (.fields ⟨[(.str z201 1364), (.str z227 1365), (.str z162 1366), (.int 122 0), (.int 2 0), (.int 0 0), (.int 0 0), (.int 3 0), (.ref 1585), (.bool true), (.int 181 0), (.ref 1586), .none, (.ref 1587), (.ref 1588), (.ref 1589), (.int 1369 0), (.int 122 0), (.str z162 1370)]⟩), ⟨[]⟩⟩
noncomputable def o1591 (P : Params) : Obj := ⟨(.type "function"), none, (.func (fd (me 21 0) z227 3 [] .none .none .none (.str z225 1350) none (.ref 1590) .none 0)), ⟨[]⟩⟩
noncomputable def o1592 (P : Params) : Obj := ⟨(.type "tuple"), none, (.seq ⟨[]⟩ 0), ⟨[]⟩⟩
noncomputable def o1593 (P : Params) : Obj := ⟨.none, none, (.fields ⟨[]⟩), ⟨[]⟩⟩
noncomputable def o1594 (P : Params) : Obj := ⟨(.type "tuple"), none, (.seq ⟨[(.str z176 1375), (.str z190 1376)]⟩ 0), ⟨[]⟩⟩
noncomputable def o1595 (P : Params) : Obj := ⟨(.type "tuple"), none, (.seq ⟨[]⟩ 0), ⟨[]⟩⟩
noncomputable def o1596 (P : Params) : Obj := ⟨.none, none, (.func (fd (me 21 1) z228 0 [] .none .none .none .none none .none .none 0)), ⟨[]⟩⟩
noncomputable def o1597 (P : Params) : Obj := ⟨(.type "code"), none, (.fields ⟨[(.str z202 1372), (.str z228 1373), (.str z162 1374), (.int 132 0), (.int 2 0), (.int 0 0), (.int 0 0), (.int 3 0), (.ref 1592), (.bool true), (.int 181 0), (.ref 1593), .none, (.ref 1594), (.ref 1595), (.ref 1596), (.int 1377 0), (.int 132 0), (.str z162 1378)]⟩), ⟨[]⟩⟩
noncomputable def o1598 (P : Params) : Obj := ⟨(.type "function"), none, (.func (fd (me 21 1) z228 3 [] .none .none .none (.str z225 1350) none (.ref 1597) .none 0)), ⟨[]⟩⟩
noncomputable def o1599 (P : Params) : Obj := ⟨(.type "tuple"), none, (.seq ⟨[]⟩ 0), ⟨[]⟩⟩
noncomputable def o1600 (P : Params) : Obj := ⟨(.type "dict"), none, (.dict ⟨[de P z165 1359 (.str z225 1350), de P z169 1363 (.int 120 1362), de P z201 1371 (.ref 1591), de P z202 1379 (.ref 1598), de P z170 1380 (.ref 1599), de P z208 1382 (.ref 1602), de P z171 1384 (.ref 1603), de P z2 1385 .none]⟩ 4), ⟨[]⟩⟩
noncomputable def o1601 (P : Params) : Obj := ⟨(.type "type"), none, (.cls ⟨z226, [(.type "object")], [(.ref 1601), (.type "object")], 1600, z226, true, [], [], false, none, false⟩), ⟨[none, none, some (.str z226 1352), some (.str z226 1360), some (.builtin "object.__new__"), some (.bool true)]⟩⟩
noncomputable def o1602 (P : Params) : Obj := ⟨(.type "getset_descriptor"), none, (.fields ⟨[(.str z208 1381), (.ref 1601), (.builtin "function.__dict__"), (.builtin "function.__dict__#set")]⟩), ⟨[]⟩⟩
noncomputable def o1603 (P : Params) : Obj := ⟨(.type "getset_descriptor"), none, (.fields ⟨[(.str z171 1383), (.ref 1601), (.builtin "ExceptionGroup.__weakref__"), .none]⟩), ⟨[]⟩⟩
noncomputable def o1604 (P : Params) : Obj := ⟨(.type "super"), none, (.fields ⟨[(.ref 1601), (.ref 1601), (.ref 1601)]⟩), ⟨[]⟩⟩
noncomputable def o1605 (P : Params) : Obj := ⟨(.type "builtin_function_or_method"), none, (.fields ⟨[(.builtin "object.__init_subclass__"), (.ref 1601)]⟩), ⟨[]⟩⟩
noncomputable def o1606 (P : Params) : Obj := ⟨(.type "dict"), none, (.dict ⟨[]⟩ 0), ⟨[]⟩⟩
noncomputable def o1607 (P : Params) : Obj := ⟨(.ref 1601), (some 1606), .plain, ⟨[]⟩⟩
noncomputable def o1608 (P : Params) : Obj := ⟨(.type "tuple"), none, (.seq ⟨[]⟩ 0), ⟨[]⟩⟩
noncomputable def o1609 (P : Params) : Obj := ⟨.none, none, (.fields ⟨[]⟩), ⟨[]⟩⟩
noncomputable def o1610 (P : Params) : Obj := ⟨(.type "tuple"), none, (.seq ⟨[(.str z178 1394)]⟩ 0), ⟨[]⟩⟩
noncomputable def o1611 (P : Params) : Obj := ⟨(.type "tuple"), none, (.seq ⟨[]⟩ 0), ⟨[]⟩⟩
noncomputable def o1612 (P : Params) : Obj := ⟨.none, none, (.func (fd (st 24) z229 0 [] .none .none .none .none none .none .none 0)), ⟨[]⟩⟩
noncomputable def o1613 (P : Params) : Obj := ⟨(.type "code"), none, (.fields ⟨[(.str z229 1391), (.str z229 1392), (.str z162 1393), (.int 141 0), (.int 1 0), (.int 0 0), (.int 0 0), (.int 3 0), (.ref 1608), (.bool true), (.int 181 0), (.ref 1609), .none, (.ref 1610), (.ref 1611), (.ref 1612), (.int 1395 0), (.int 141 0), (.str z162 1396)]⟩), ⟨[]⟩⟩
noncomputable def o1614 (P : Params) : Obj := ⟨(.type "function"), none, (.func (fd (st 24) z229 3 [] .none .none .none (.str z230 1389) none (.ref 1613) .none 0)), ⟨[]⟩⟩
noncomputable def o1615 (P : Params) : Obj := ⟨(.type "tuple"), none, (.seq ⟨[]⟩ 0), ⟨[]⟩⟩
noncomputable def o1616 (P : Params) : Obj := ⟨.none, none, (.fields ⟨[]⟩), ⟨[]⟩⟩
noncomputable def o1617 (P : Params) : Obj := ⟨(.type "tuple"), none, (.seq ⟨[(.str z178 1401)]⟩ 0), ⟨[]⟩⟩
noncomputable def o1618 (P : Params) : Obj := ⟨(.type "tuple"), none, (.seq ⟨[]⟩ 0), ⟨[]⟩⟩
noncomputable def o1619 (P : Params) : Obj := ⟨.none, none, (.func (fd (st 25) z231 0 [] .none .none .none .none none .none .none 0)), ⟨[]⟩⟩
noncomputable def o1620 (P : Params) : Obj := ⟨(.type "code"), none, (.fields ⟨[(.str z231 1398), (.str z231 1399), (.str z162 1400), (.int 143 0), (.int 1 0), (.int 0 0), (.int 0 0), (.int 3 0), (.ref 1615), (.bool true), (.int 181 0), (.ref 1616), .none, (.ref 1617), (.ref 1618), (.ref 1619), (.int 1402 0), (.int 143 0), (.str z162 1403)]⟩), ⟨[]⟩⟩
noncomputable def o1621 (P : Params) : Obj := ⟨(.type "function"), none, (.func (fd (st 25) z231 3 [] .none .none .none (.str z230 1389) none (.ref 1620) .none 0)), ⟨[]⟩⟩
noncomputable def o1622 (P : Params) : Obj := ⟨(.type "tuple"), none, (.seq ⟨[]⟩ 0), ⟨[]⟩⟩
noncomputable def o1623 (P : Params) : Obj := ⟨(.type "builtin_function_or_method"), none, (.fields ⟨[(.builtin "type.__prepare__"), (.type "type")]⟩), ⟨[]⟩⟩
noncomputable def o1624 (P : Params) : Obj := ⟨(.type "dict"), none, (.dict ⟨[de P z165 1412 (.str z230 1389), de P z167 1414 (.str z232 1413), de P z169 1416 (.int 145 1415), de P z173 1426 (.ref 1636), de P z233 1433 (.ref 1643), de P z201 1446 (.ref 1650), de P z202 1459 (.ref 1657), de P z170 1462 (.ref 1658)]⟩ 8), ⟨[]⟩⟩
noncomputable def o1625 (P : Params) : Obj := ⟨(.type "tuple"), none, (.seq ⟨[]⟩ 0), ⟨[]⟩⟩
noncomputable def o1626 (P : Params) : Obj := ⟨.none, none, (.fields ⟨[(.int 147 0), (.int 4 0), (.ref 1635), (.int 159 0), (.int 4 0), (.ref 1642), (.int 162 0), (.int 4 0), (.ref 1649), (.int 175 0), (.int 4 0), (.ref 1656)]⟩), ⟨[]⟩⟩
noncomputable def o1627 (P : Params) : Obj := ⟨(.type "code"), none, (.fields ⟨[(.str z232 1407), (.str z232 1408), (.str z162 1409), (.int 145 0), (.int 0 0), (.int 0 0), (.int 0 0), (.int 0 0), (.ref 1625), (.bool false), (.int 181 0), (.ref 1626), .none, .none, .none, .none, (.int 1410 0), (.int 145 0), (.str z162 1411)]⟩), ⟨[]⟩⟩
noncomputable def o1628 (P : Params) : Obj := ⟨(.type "frame"), none, .plain, ⟨[some (.ref 1627), some (.ref 3), some (.ref 1624), none, some (.str z230 1389), none, some (.ref 0)]⟩⟩
noncomputable def o1629 (P : Params) : Obj := ⟨(.type "tuple"), none, (.seq ⟨[.none, (.bool true)]⟩ 0), ⟨[]⟩⟩
noncomputable def o1630 (P : Params) : Obj := ⟨(.type "tuple"), none, (.seq ⟨[]⟩ 0), ⟨[]⟩⟩
noncomputable def o1631 (P : Params) : Obj := ⟨.none, none, (.fields ⟨[]⟩), ⟨[]⟩⟩
noncomputable def o1632 (P : Params) : Obj := ⟨(.type "tuple"), none, (.seq ⟨[(.str z176 1420), (.str z234 1421), (.str z235 1422), (.str z236 1423)]⟩ 0), ⟨[]⟩⟩
noncomputable def o1633 (P : Params) : Obj := ⟨(.type "tuple"), none, (.seq ⟨[]⟩ 0), ⟨[]⟩⟩
noncomputable def o1634 (P : Params) : Obj := ⟨.none, none, (.func (fd (me 26 0) z237 0 [] .none .none .none .none none .none .none 0)), ⟨[]⟩⟩
noncomputable def o1635 (P : Params) : Obj := ⟨(.type "code"), none, (.fields ⟨[(.str z173 1417), (.str z237 1418), (.str z162 1419), (.int 147 0), (.int 3 0), (.int 0 0), (.int 0 0), (.int 3 0), (.ref 1630), (.bool true), (.int 181 0), (.ref 1631), .none, (.ref 1632), (.ref 1633), (.ref 1634), (.int 1424 0), (.int 147 0), (.str z162 1425)]⟩), ⟨[]⟩⟩
noncomputable def o1636 (P : Params) : Obj := ⟨(.type "function"), none, (.func (fd (me 26 0) z237 3 [] (.ref 1629) .none .none (.str z230 1389) none (.ref 1635) .none 0)), ⟨[]⟩⟩
noncomputable def o1637 (P : Params) : Obj := ⟨(.type "tuple"), none, (.seq ⟨[]⟩ 0), ⟨[]⟩⟩
noncomputable def o1638 (P : Params) : Obj := ⟨.none, none, (.fields ⟨[]⟩), ⟨[]⟩⟩
noncomputable def o1639 (P : Params) : Obj := ⟨(.type "tuple"), none, (.seq ⟨[(.str z176 1430)]⟩ 0), ⟨[]⟩⟩
noncomputable def o1640 (P : Params) : Obj := ⟨(.type "tuple"), none, (.seq ⟨[]⟩ 0), ⟨[]⟩⟩
noncomputable def o1641 (P : Params) : Obj := ⟨.none, none, (.func (fd (me 26 1) z238 0 [] .none .none .none .none none .none .none 0)), ⟨[]⟩⟩
noncomputable def o1642 (P : Params) : Obj := ⟨(.type "code"), none, (.fields ⟨[(.str z233 1427), (.str z238 1428), (.str z162 1429), (.int 159 0), (.int 1 0), (.int 0 0), (.int 0 0), (.int 3 0), (.ref 1637), (.bool true), (.int 181 0), (.ref 1638), .none, (.ref 1639), (.ref 1640), (.ref 1641), (.int 1431 0), (.int 159 0), (.str z162 1432)]⟩), ⟨[]⟩⟩
noncomputable def o1643 (P : Params) : Obj := ⟨(.type "function"), none, (.func (fd (me 26 1) z238 3 [] .none .none .none (.str z230 1389) none (.ref 1642) .none 0)), ⟨[]⟩⟩
noncomputable def o1644 (P : Params) : Obj := ⟨(.type "tuple"), none, (.seq ⟨[]⟩ 0), ⟨[]⟩⟩
noncomputable def o1645 (P : Params) : Obj := ⟨.none, none, (.fields ⟨[]⟩), ⟨[]⟩⟩
noncomputable def o1646 (P : Params) : Obj := ⟨(.type "tuple"), none, (.seq ⟨[(.str z176 1437), (.str z178 1438), (.str z239 1439), (.str z187 1440), (.str z240 1441), (.str z241 1442), (.str z236 1443)]⟩ 0), ⟨[]⟩⟩
noncomputable def o1647 (P : Params) : Obj := ⟨(.type "tuple"), none, (.seq ⟨[]⟩ 0), ⟨[]⟩⟩
noncomputable def o1648 (P : Params) : Obj := ⟨.none, none, (.func (fd (me 26 2) z242 0 [] .none .none .none .none none .none .none 0)), ⟨[]⟩⟩
noncomputable def o1649 (P : Params) : Obj := ⟨(.type "code"), none, (.fields ⟨[(.str z201 1434), (.str z242 1435), (.str z162 1436), (.int 162 0), (.int 2 0), (.int 0 0), (.int 0 0), (.int 3 0), (.ref 1644), (.bool true), (.int 181 0), (.ref 1645), .none, (.ref 1646), (.ref 1647), (.ref 1648), (.int 1444 0), (.int 162 0), (.str z162 1445)]⟩), ⟨[]⟩⟩
noncomputable def o1650 (P : Params) : Obj := ⟨(.type "function"), none, (.func (fd (me 26 2) z242 3 [] .none .none .none (.str z230 1389) none (.ref 1649) .none 0)), ⟨[]⟩⟩
noncomputable def o1651 (P : Params) : Obj := ⟨(.type "tuple"), none, (.seq ⟨[]⟩ 0), ⟨[]⟩⟩
noncomputable def o1652 (P : Params) : Obj := ⟨.none, none, (.fields ⟨[]⟩), ⟨[]⟩⟩
noncomputable def o1653 (P : Params) : Obj := ⟨(.type "tuple"), none, (.seq ⟨[(.str z176 1450), (.str z190 1451), (.str z239 1452), (.str z243 1453), (.str z241 1454), (.str z240 1455), (.str z236 1456)]⟩ 0), ⟨[]⟩⟩
noncomputable def o1654 (P : Params) : Obj := ⟨(.type "tuple"), none, (.seq ⟨[]⟩ 0), ⟨[]⟩⟩
noncomputable def o1655 (P : Params) : Obj := ⟨.none, none, (.func (fd (me 26 3) z244 0 [] .none .none .none .none none .none .none 0)), ⟨[]⟩⟩
noncomputable def o1656 (P : Params) : Obj := ⟨(.type "code"), none, (.fields ⟨[(.str z202 1447), (.str z244 1448), (.str z162 1449), (.int 175 0), (.int 2 0), (.int 0 0), (.int 0 0), (.int 3 0), (.ref 1651), (.bool true), (.int 181 0), (.ref 1652), .none, (.ref 1653), (.ref 1654), (.ref 1655), (.int 1457 0), (.int 175 0), (.str z162 1458)]⟩), ⟨[]⟩⟩
noncomputable def o1657 (P : Params) : Obj := ⟨(.type "function"), none, (.func (fd (me 26 3) z244 3 [] .none .none .none (.str z230 1389) none (.ref 1656) .none 0)), ⟨[]⟩⟩
noncomputable def o1658 (P : Params) : Obj := ⟨(.type "tuple"), none, (.seq ⟨[(.str z245 1460), (.str z235 1461)]⟩ 0), ⟨[]⟩⟩
noncomputable def o1659 (P : Params) : Obj := ⟨(.type "dict"), none, (.dict ⟨[de P z165 1412 (.str z230 1389), de P z169 1416 (.int 145 1415), de P z173 1426 (.ref 1636), de P z233 1433 (.ref 1643), de P z201 1446 (.ref 1650), de P z202 1459 (.ref 1657), de P z170 1462 (.ref 1658), de P z208 1464 (.ref 1661), de P z171 1466 (.ref 1662), de P z2 1467 .none]⟩ 4), ⟨[]⟩⟩
noncomputable def o1660 (P : Params) : Obj := ⟨(.type "type"), none, (.cls ⟨z232, [(.type "object")], [(.ref 1660), (.type "object")], 1659, z232, true, [], [], false, none, false⟩), ⟨[none, none, some (.str z232 1405), some (.str z232 1413), some (.builtin "object.__new__"), some (.bool true)]⟩⟩
noncomputable def o1661 (P : Params) : Obj := ⟨(.type "getset_descriptor"), none, (.fields ⟨[(.str z208 1463), (.ref 1660), (.builtin "function.__dict__"), (.builtin "function.__dict__#set")]⟩), ⟨[]⟩⟩
noncomputable def o1662 (P : Params) : Obj := ⟨(.type "getset_descriptor"), none, (.fields ⟨[(.str z171 1465), (.ref 1660), (.builtin "ExceptionGroup.__weakref__"), .none]⟩), ⟨[]⟩⟩
noncomputable def o1663 (P : Params) : Obj := ⟨(.type "super"), none, (.fields ⟨[(.ref 1660), (.ref 1660), (.ref 1660)]⟩), ⟨[]⟩⟩
noncomputable def o1664 (P : Params) : Obj := ⟨(.type "builtin_function_or_method"), none, (.fields ⟨[(.builtin "object.__init_subclass__"), (.ref 1660)]⟩), ⟨[]⟩⟩
noncomputable def o1665 (P : Params) : Obj := ⟨(.type "tuple"), none, (.seq ⟨[]⟩ 0), ⟨[]⟩⟩
noncomputable def o1666 (P : Params) : Obj := ⟨(.type "builtin_function_or_method"), none, (.fields ⟨[(.builtin "type.__prepare__"), (.type "type")]⟩), ⟨[]⟩⟩
noncomputable def o1667 (P : Params) : Obj := ⟨(.type "dict"), none, (.dict ⟨[de P z165 1477 (.str z230 1389), de P z167 1479 (.str z246 1478), de P z169 1481 (.int 187 1480), de P z173 1490 (.ref 1679), de P z201 1502 (.ref 1686), de P z202 1514 (.ref 1693), de P z170 1517 (.ref 1694)]⟩ 7), ⟨[]⟩⟩
noncomputable def o1668 (P : Params) : Obj := ⟨(.type "tuple"), none, (.seq ⟨[]⟩ 0), ⟨[]⟩⟩
noncomputable def o1669 (P : Params) : Obj := ⟨.none, none, (.fields ⟨[(.int 189 0), (.int 4 0), (.ref 1678), (.int 193 0), (.int 4 0), (.ref 1685), (.int 206 0), (.int 4 0), (.ref 1692)]⟩), ⟨[]⟩⟩
noncomputable def o1670 (P : Params) : Obj := ⟨(.type "code"), none, (.fields ⟨[(.str z246 1472), (.str z246 1473), (.str z162 1474), (.int 187 0), (.int 0 0), (.int 0 0), (.int 0 0), (.int 0 0), (.ref 1668), (.bool false), (.int 181 0), (.ref 1669), .none, .none, .none, .none, (.int 1475 0), (.int 187 0), (.str z162 1476)]⟩), ⟨[]⟩⟩
noncomputable def o1671 (P : Params) : Obj := ⟨(.type "frame"), none, .plain, ⟨[some (.ref 1670), some (.ref 3), some (.ref 1667), none, some (.str z230 1389), none, some (.ref 0)]⟩⟩
noncomputable def o1672 (P : Params) : Obj := ⟨(.type "tuple"), none, (.seq ⟨[.none]⟩ 0), ⟨[]⟩⟩
noncomputable def o1673 (P : Params) : Obj := ⟨(.type "tuple"), none, (.seq ⟨[]⟩ 0), ⟨[]⟩⟩
noncomputable def o1674 (P : Params) : Obj := ⟨.none, none, (.fields ⟨[]⟩), ⟨[]⟩⟩
noncomputable def o1675 (P : Params) : Obj := ⟨(.type "tuple"), none, (.seq ⟨[(.str z176 1485), (.str z247 1486), (.str z215 1487)]⟩ 0), ⟨[]⟩⟩
noncomputable def o1676 (P : Params) : Obj := ⟨(.type "tuple"), none, (.seq ⟨[]⟩ 0), ⟨[]⟩⟩
noncomputable def o1677 (P : Params) : Obj := ⟨.none, none, (.func (fd (me 27 0) z248 0 [] .none .none .none .none none .none .none 0)), ⟨[]⟩⟩
noncomputable def o1678 (P : Params) : Obj := ⟨(.type "code"), none, (.fields ⟨[(.str z173 1482), (.str z248 1483), (.str z162 1484), (.int 189 0), (.int 3 0), (.int 0 0), (.int 0 0), (.int 3 0), (.ref 1673), (.bool true), (.int 181 0), (.ref 1674), .none, (.ref 1675), (.ref 1676), (.ref 1677), (.int 1488 0), (.int 189 0), (.str z162 1489)]⟩), ⟨[]⟩⟩
noncomputable def o1679 (P : Params) : Obj := ⟨(.type "function"), none, (.func (fd (me 27 0) z248 3 [] (.ref 1672) .none .none (.str z230 1389) none (.ref 1678) .none 0)), ⟨[]⟩⟩
noncomputable def o1680 (P : Params) : Obj := ⟨(.type "tuple"), none, (.seq ⟨[]⟩ 0), ⟨[]⟩⟩
noncomputable def o1681 (P : Params) : Obj := ⟨.none, none, (.fields ⟨[]⟩), ⟨[]⟩⟩
noncomputable def o1682 (P : Params) : Obj := ⟨(.type "tuple"), none, (.seq ⟨[(.str z176 1494), (.str z178 1495), (.str z239 1496), (.str z187 1497), (.str z240 1498), (.str z236 1499)]⟩ 0), ⟨[]⟩⟩
noncomputable def o1683 (P : Params) : Obj := ⟨(.type "tuple"), none, (.seq ⟨[]⟩ 0), ⟨[]⟩⟩
noncomputable def o1684 (P : Params) : Obj := ⟨.none, none, (.func (fd (me 27 1) z249 0 [] .none .none .none .none none .none .none 0)), ⟨[]⟩⟩
noncomputable def o1685 (P : Params) : Obj := ⟨(.type "code"), none, (.fields ⟨[(.str z201 1491), (.str z249 1492), (.str z162 1493), (.int 193 0), (.int 2 0), (.int 0 0), (.int 0 0), (.int 3 0), (.ref 1680), (.bool true), (.int 181 0), (.ref 1681), .none, (.ref 1682), (.ref 1683), (.ref 1684), (.int 1500 0), (.int 193 0), (.str z162 1501)]⟩), ⟨[]⟩⟩
noncomputable def o1686 (P : Params) : Obj := ⟨(.type "function"), none, (.func (fd (me 27 1) z249 3 [] .none .none .none (.str z230 1389) none (.ref 1685) .none 0)), ⟨[]⟩⟩
noncomputable def o1687 (P : Params) : Obj := ⟨(.type "tuple"), none, (.seq ⟨[]⟩ 0), ⟨[]⟩⟩
noncomputable def o1688 (P : Params) : Obj := ⟨.none, none, (.fields ⟨[]⟩), ⟨[]⟩⟩
noncomputable def o1689 (P : Params) : Obj := ⟨(.type "tuple"), none, (.seq ⟨[(.str z176 1506), (.str z190 1507), (.str z239 1508), (.str z187 1509), (.str z240 1510), (.str z236 1511)]⟩ 0), ⟨[]⟩⟩
noncomputable def o1690 (P : Params) : Obj := ⟨(.type "tuple"), none, (.seq ⟨[]⟩ 0), ⟨[]⟩⟩
noncomputable def o1691 (P : Params) : Obj := ⟨.none, none, (.func (fd (me 27 2) z250 0 [] .none .none .none .none none .none .none 0)), ⟨[]⟩⟩
noncomputable def o1692 (P : Params) : Obj := ⟨(.type "code"), none, (.fields ⟨[(.str z202 1503), (.str z250 1504), (.str z162 1505), (.int 206 0), (.int 2 0), (.int 0 0), (.int 0 0), (.int 3 0), (.ref 1687), (.bool true), (.int 181 0), (.ref 1688), .none, (.ref 1689), (.ref 1690), (.ref 1691), (.int 1512 0), (.int 206 0), (.str z162 1513)]⟩), ⟨[]⟩⟩
noncomputable def o1693 (P : Params) : Obj := ⟨(.type "function"), none, (.func (fd (me 27 2) z250 3 [] .none .none .none (.str z230 1389) none (.ref 1692) .none 0)), ⟨[]⟩⟩
noncomputable def o1694 (P : Params) : Obj := ⟨(.type "tuple"), none, (.seq ⟨[(.str z247 1515), (.str z215 1516)]⟩ 0), ⟨[]⟩⟩
noncomputable def o1695 (P : Params) : Obj := ⟨(.type "dict"), none, (.dict ⟨[de P z165 1477 (.str z230 1389), de P z169 1481 (.int 187 1480), de P z173 1490 (.ref 1679), de P z201 1502 (.ref 1686), de P z202 1514 (.ref 1693), de P z170 1517 (.ref 1694), de P z208 1519 (.ref 1697), de P z171 1521 (.ref 1698), de P z2 1522 .none]⟩ 4), ⟨[]⟩⟩
noncomputable def o1696 (P : Params) : Obj := ⟨(.type "type"), none, (.cls ⟨z246, [(.type "object")], [(.ref 1696), (.type "object")], 1695, z246, true, [], [], false, none, false⟩), ⟨[none, none, some (.str z246 1470), some (.str z246 1478), some (.builtin "object.__new__"), some (.bool true)]⟩⟩
noncomputable def o1697 (P : Params) : Obj := ⟨(.type "getset_descriptor"), none, (.fields ⟨[(.str z208 1518), (.ref 1696), (.builtin "function.__dict__"), (.builtin "function.__dict__#set")]⟩), ⟨[]⟩⟩
noncomputable def o1698 (P : Params) : Obj := ⟨(.type "getset_descriptor"), none, (.fields ⟨[(.str z171 1520), (.ref 1696), (.builtin "ExceptionGroup.__weakref__"), .none]⟩), ⟨[]⟩⟩
noncomputable def o1699 (P : Params) : Obj := ⟨(.type "super"), none, (.fields ⟨[(.ref 1696), (.ref 1696), (.ref 1696)]⟩), ⟨[]⟩⟩
noncomputable def o1700 (P : Params) : Obj := ⟨(.type "builtin_function_or_method"), none, (.fields ⟨[(.builtin "object.__init_subclass__"), (.ref 1696)]⟩), ⟨[]⟩⟩
noncomputable def o1701 (P : Params) : Obj := ⟨(.type "tuple"), none, (.seq ⟨[]⟩ 0), ⟨[]⟩⟩
noncomputable def o1702 (P : Params) : Obj := ⟨.none, none, (.fields ⟨[]⟩), ⟨[]⟩⟩
noncomputable def o1703 (P : Params) : Obj := ⟨(.type "tuple"), none, (.seq ⟨[(.str z251 1530), (.str z252 1531), (.str z253 1532), (.str z254 1533), (.str z255 1534)]⟩ 0), ⟨[]⟩⟩
noncomputable def o1704 (P : Params) : Obj := ⟨(.type "tuple"), none, (.seq ⟨[]⟩ 0), ⟨[]⟩⟩
noncomputable def o1705 (P : Params) : Obj := ⟨.none, none, (.func (fd (st 29) z256 0 [] .none .none .none .none none .none .none 0)), ⟨[]⟩⟩
noncomputable def o1706 (P : Params) : Obj := ⟨(.type "code"), none, (.fields ⟨[(.str z256 1527), (.str z256 1528), (.str z162 1529), (.int 219 0), (.int 1 0), (.int 0 0), (.int 0 0), (.int 3 0), (.ref 1701), (.bool true), (.int 181 0), (.ref 1702), .none, (.ref 1703), (.ref 1704), (.ref 1705), (.int 1535 0), (.int 219 0), (.str z162 1536)]⟩), ⟨[]⟩⟩
noncomputable def o1707 (P : Params) : Obj := ⟨(.type "function"), none, (.func (fd (st 29) z256 3 [] .none .none .none (.str z257 1525) none (.ref 1706) .none 0)), ⟨[]⟩⟩
noncomputable def o1708 (P : Params) : Obj := ⟨(.type "tuple"), none, (.seq ⟨[]⟩ 0), ⟨[]⟩⟩
noncomputable def o1709 (P : Params) : Obj := ⟨.none, none, (.fields ⟨[]⟩), ⟨[]⟩⟩
noncomputable def o1710 (P : Params) : Obj := ⟨(.type "tuple"), none, (.seq ⟨[(.str z251 1541), (.str z235 1542), (.str z258 1543), (.str z259 1544), (.str z260 1545), (.str z261 1546), (.str z254 1547)]⟩ 0), ⟨[]⟩⟩
noncomputable def o1711 (P : Params) : Obj := ⟨(.type "tuple"), none, (.seq ⟨[]⟩ 0), ⟨[]⟩⟩
noncomputable def o1712 (P : Params) : Obj := ⟨.none, none, (.func (fd (st 30) z262 0 [] .none .none .none .none none .none .none 0)), ⟨[]⟩⟩
noncomputable def o1713 (P : Params) : Obj := ⟨(.type "code"), none, (.fields ⟨[(.str z262 1538), (.str z262 1539), (.str z162 1540), (.int 236 0), (.int 3 0), (.int 0 0), (.int 0 0), (.int 3 0), (.ref 1708), (.bool true), (.int 181 0), (.ref 1709), .none, (.ref 1710), (.ref 1711), (.ref 1712), (.int 1548 0), (.int 236 0), (.str z162 1549)]⟩), ⟨[]⟩⟩
noncomputable def o1714 (P : Params) : Obj := ⟨(.type "function"), none, (.func (fd (st 30) z262 3 [] .none .none .none (.str z257 1525) none (.ref 1713) .none 0)), ⟨[]⟩⟩
noncomputable def o1715 (P : Params) : Obj := ⟨(.type "tuple"), none, (.seq ⟨[.none, (.bool true), (.bool true)]⟩ 0), ⟨[]⟩⟩
noncomputable def o1716 (P : Params) : Obj := ⟨(.type "tuple"), none, (.seq ⟨[]⟩ 0), ⟨[]⟩⟩
noncomputable def o1717 (P : Params) : Obj := ⟨.none, none, (.fields ⟨[]⟩), ⟨[]⟩⟩
noncomputable def o1718 (P : Params) : Obj := ⟨(.type "tuple"), none, (.seq ⟨[(.str z178 1554), (.str z241 1555), (.str z263 1556), (.str z264 1557), (.str z251 1558), (.str z259 1559)]⟩ 0), ⟨[]⟩⟩
noncomputable def o1719 (P : Params) : Obj := ⟨(.type "tuple"), none, (.seq ⟨[]⟩ 0), ⟨[]⟩⟩
noncomputable def o1720 (P : Params) : Obj := ⟨.none, none, (.func (fd (st 31) z265 0 [] .none .none .none .none none .none .none 0)), ⟨[]⟩⟩
noncomputable def o1721 (P : Params) : Obj := ⟨(.type "code"), none, (.fields ⟨[(.str z265 1551), (.str z265 1552), (.str z162 1553), (.int 245 0), (.int 4 0), (.int 0 0), (.int 0 0), (.int 3 0), (.ref 1716), (.bool true), (.int 181 0), (.ref 1717), .none, (.ref 1718), (.ref 1719), (.ref 1720), (.int 1560 0), (.int 245 0), (.str z162 1561)]⟩), ⟨[]⟩⟩
noncomputable def o1722 (P : Params) : Obj := ⟨(.type "function"), none, (.func (fd (st 31) z265 3 [] (.ref 1715) .none .none (.str z257 1525) none (.ref 1721) .none 0)), ⟨[]⟩⟩
noncomputable def o1723 (P : Params) : Obj := ⟨(.type "tuple"), none, (.seq ⟨[]⟩ 0), ⟨[]⟩⟩
noncomputable def o1724 (P : Params) : Obj := ⟨.none, none, (.fields ⟨[]⟩), ⟨[]⟩⟩
noncomputable def o1725 (P : Params) : Obj := ⟨(.type "tuple"), none, (.seq ⟨[(.str z203 1570), (.str z266 1571), (.str z267 1572)]⟩ 0), ⟨[]⟩⟩
noncomputable def o1726 (P : Params) : Obj := ⟨(.type "tuple"), none, (.seq ⟨[]⟩ 0), ⟨[]⟩⟩
noncomputable def o1727 (P : Params) : Obj := ⟨.none, none, (.func (fd (st 33) z268 0 [] .none .none .none .none none .none .none 0)), ⟨[]⟩⟩
noncomputable def o1728 (P : Params) : Obj := ⟨(.type "code"), none, (.fields ⟨[(.str z268 1567), (.str z268 1568), (.str z162 1569), (.int 255 0), (.int 2 0), (.int 0 0), (.int 0 0), (.int 3 0), (.ref 1723), (.bool true), (.int 181 0), (.ref 1724), .none, (.ref 1725), (.ref 1726), (.ref 1727), (.int 1573 0), (.int 255 0), (.str z162 1574)]⟩), ⟨[]⟩⟩
noncomputable def o1729 (P : Params) : Obj := ⟨(.type "function"), none, (.func (fd (st 33) z268 3 [] .none .none .none (.str z257 1525) none (.ref 1728) .none 0)), ⟨[]⟩⟩
noncomputable def o1730 (P : Params) : Obj := ⟨(.type "tuple"), none, (.seq ⟨[]⟩ 0), ⟨[]⟩⟩
noncomputable def o1731 (P : Params) : Obj := ⟨.none, none, (.fields ⟨[]⟩), ⟨[]⟩⟩
noncomputable def o1732 (P : Params) : Obj := ⟨(.type "tuple"), none, (.seq ⟨[(.str z181 1583), (.str z269 1584), (.str z270 1585), (.str z271 1586), (.str z272 1587), (.str z273 1588)]⟩ 0), ⟨[]⟩⟩
noncomputable def o1733 (P : Params) : Obj := ⟨(.type "tuple"), none, (.seq ⟨[]⟩ 0), ⟨[]⟩⟩
noncomputable def o1734 (P : Params) : Obj := ⟨.none, none, (.func (fd (st 35) z274 0 [] .none .none .none .none none .none .none 0)), ⟨[]⟩⟩
noncomputable def o1735 (P : Params) : Obj := ⟨(.type "code"), none, (.fields ⟨[(.str z274 1580), (.str z274 1581), (.str z162 1582), (.int 264 0), (.int 2 0), (.int 0 0), (.int 0 0), (.int 3 0), (.ref 1730), (.bool true), (.int 181 0), (.ref 1731), .none, (.ref 1732), (.ref 1733), (.ref 1734), (.int 1589 0), (.int 264 0), (.str z162 1590)]⟩), ⟨[]⟩⟩
noncomputable def o1736 (P : Params) : Obj := ⟨(.type "function"), none, (.func (fd (st 35) z274 3 [] .none .none .none (.str z257 1525) none (.ref 1735) .none 0)), ⟨[]⟩⟩
noncomputable def o1737 (P : Params) : Obj := ⟨(.type "tuple"), none, (.seq ⟨[]⟩ 0), ⟨[]⟩⟩
noncomputable def o1738 (P : Params) : Obj := ⟨.none, none, (.fields ⟨[]⟩), ⟨[]⟩⟩
noncomputable def o1739 (P : Params) : Obj := ⟨(.type "tuple"), none, (.seq ⟨[(.str z181 1595), (.str z255 1596), (.str z269 1597), (.str z275 1598), (.str z203 1599), (.str z251 1600), (.str z276 1601), (.str z260 1602), (.str z277 1603), (.str z278 1604), (.str z261 1605), (.str z279 1606), (.str z280 1607), (.str z273 1608), (.str z205 1609), (.str z281 1610)]⟩ 0), ⟨[]⟩⟩
noncomputable def o1740 (P : Params) : Obj := ⟨(.type "tuple"), none, (.seq ⟨[]⟩ 0), ⟨[]⟩⟩
noncomputable def o1741 (P : Params) : Obj := ⟨.none, none, (.func (fd (st 36) z282 0 [] .none .none .none .none none .none .none 0)), ⟨[]⟩⟩
noncomputable def o1742 (P : Params) : Obj := ⟨(.type "code"), none, (.fields ⟨[(.str z282 1592), (.str z282 1593), (.str z162 1594), (.int 292 0), (.int 5 0), (.int 0 0), (.int 0 0), (.int 3 0), (.ref 1737), (.bool true), (.int 181 0), (.ref 1738), .none, (.ref 1739), (.ref 1740), (.ref 1741), (.int 1611 0), (.int 292 0), (.str z162 1612)]⟩), ⟨[]⟩⟩
noncomputable def o1743 (P : Params) : Obj := ⟨(.type "function"), none, (.func (fd (st 36) z282 3 [] .none .none .none (.str z257 1525) none (.ref 1742) .none 0)), ⟨[]⟩⟩
noncomputable def o1744 (P : Params) : Obj := ⟨(.type "tuple"), none, (.seq ⟨[]⟩ 0), ⟨[]⟩⟩
noncomputable def o1745 (P : Params) : Obj := ⟨.none, none, (.fields ⟨[]⟩), ⟨[]⟩⟩
noncomputable def o1746 (P : Params) : Obj := ⟨(.type "tuple"), none, (.seq ⟨[(.str z181 1617), (.str z269 1618), (.str z279 1619), (.str z280 1620), (.str z273 1621), (.str z205 1622)]⟩ 0), ⟨[]⟩⟩
noncomputable def o1747 (P : Params) : Obj := ⟨(.type "tuple"), none, (.seq ⟨[]⟩ 0), ⟨[]⟩⟩
noncomputable def o1748 (P : Params) : Obj := ⟨.none, none, (.func (fd (st 37) z283 0 [] .none .none .none .none none .none .none 0)), ⟨[]⟩⟩
noncomputable def o1749 (P : Params) : Obj := ⟨(.type "code"), none, (.fields ⟨[(.str z283 1614), (.str z283 1615), (.str z162 1616), (.int 314 0), (.int 2 0), (.int 0 0), (.int 0 0), (.int 3 0), (.ref 1744), (.bool true), (.int 181 0), (.ref 1745), .none, (.ref 1746), (.ref 1747), (.ref 1748), (.int 1623 0), (.int 314 0), (.str z162 1624)]⟩), ⟨[]⟩⟩
noncomputable def o1750 (P : Params) : Obj := ⟨(.type "function"), none, (.func (fd (st 37) z283 3 [] .none .none .none (.str z257 1525) none (.ref 1749) .none 0)), ⟨[]⟩⟩
noncomputable def o1751 (P : Params) : Obj := ⟨(.type "tuple"), none, (.seq ⟨[.none, (.bool true), (.bool false)]⟩ 0), ⟨[]⟩⟩
noncomputable def o1752 (P : Params) : Obj := ⟨(.type "tuple"), none, (.seq ⟨[]⟩ 0), ⟨[]⟩⟩
noncomputable def o1753 (P : Params) : Obj := ⟨.none, none, (.fields ⟨[]⟩), ⟨[]⟩⟩
noncomputable def o1754 (P : Params) : Obj := ⟨(.type "tuple"), none, (.seq ⟨[(.str z181 1629), (.str z241 1630), (.str z235 1631), (.str z284 1632), (.str z251 1633), (.str z260 1634)]⟩ 0), ⟨[]⟩⟩
noncomputable def o1755 (P : Params) : Obj := ⟨(.type "tuple"), none, (.seq ⟨[]⟩ 0), ⟨[]⟩⟩
noncomputable def o1756 (P : Params) : Obj := ⟨.none, none, (.func (fd (st 38) z285 0 [] .none .none .none .none none .none .none 0)), ⟨[]⟩⟩
noncomputable def o1757 (P : Params) : Obj := ⟨(.type "code"), none, (.fields ⟨[(.str z285 1626), (.str z285 1627), (.str z162 1628), (.int 317 0), (.int 4 0), (.int 0 0), (.int 0 0), (.int 3 0), (.ref 1752), (.bool true), (.int 181 0), (.ref 1753), .none, (.ref 1754), (.ref 1755), (.ref 1756), (.int 1635 0), (.int 317 0), (.str z162 1636)]⟩), ⟨[]⟩⟩
noncomputable def o1758 (P : Params) : Obj := ⟨(.type "function"), none, (.func (fd (st 38) z285 3 [] (.ref 1751) .none .none (.str z257 1525) none (.ref 1757) .none 0)), ⟨[]⟩⟩
noncomputable def o1759 (P : Params) : Obj := ⟨(.type "tuple"), none, (.seq ⟨[]⟩ 0), ⟨[]⟩⟩
noncomputable def o1760 (P : Params) : Obj := ⟨.none, none, (.fields ⟨[]⟩), ⟨[]⟩⟩
noncomputable def o1761 (P : Params) : Obj := ⟨.none, none, (.func (fd (st 39) z286 0 [] .none .none .none .none none .none .none 0)), ⟨[]⟩⟩
noncomputable def o1762 (P : Params) : Obj := ⟨(.type "code"), none, (.fields ⟨[(.str z286 1638), (.str z286 1639), (.str z162 1640), (.int 325 0), (.int 1 0), (.int 0 0), (.int 0 0), (.int 3 0), (.ref 1759), (.bool true), (.int 181 0), (.ref 1760), .none, .none, .none, (.ref 1761), (.int 1641 0), (.int 325 0), (.str z162 1642)]⟩), ⟨[]⟩⟩
noncomputable def o1763 (P : Params) : Obj := ⟨(.type "function"), none, (.func (fd (st 39) z286 3 [] .none .none .none (.str z257 1525) none (.ref 1762) .none 0)), ⟨[]⟩⟩
noncomputable def o1764 (P : Params) : Obj := ⟨(.type "tuple"), none, (.seq ⟨[]⟩ 0), ⟨[]⟩⟩
noncomputable def o1765 (P : Params) : Obj := ⟨.none, none, (.fields ⟨[]⟩), ⟨[]⟩⟩
noncomputable def o1766 (P : Params) : Obj := ⟨(.type "tuple"), none, (.seq ⟨[(.str z287 1649), (.str z163 1650), (.str z288 1651)]⟩ 0), ⟨[]⟩⟩
noncomputable def o1767 (P : Params) : Obj := ⟨(.type "tuple"), none, (.seq ⟨[]⟩ 0), ⟨[]⟩⟩
noncomputable def o1768 (P : Params) : Obj := ⟨.none, none, (.func (fd (st 41) z289 0 [] .none .none .none .none none .none .none 0)), ⟨[]⟩⟩
noncomputable def o1769 (P : Params) : Obj := ⟨(.type "code"), none, (.fields ⟨[(.str z289 1646), (.str z289 1647), (.str z162 1648), (.int 337 0), (.int 3 0), (.int 0 0), (.int 0 0), (.int 3 0), (.ref 1764), (.bool true), (.int 181 0), (.ref 1765), .none, (.ref 1766), (.ref 1767), (.ref 1768), (.int 1652 0), (.int 337 0), (.str z162 1653)]⟩), ⟨[]⟩⟩
noncomputable def o1770 (P : Params) : Obj := ⟨(.type "function"), none, (.func (fd (st 41) z289 3 [] .none .none .none (.str z290 1644) none (.ref 1769) .none 0)), ⟨[]⟩⟩
noncomputable def o1771 (P : Params) : Obj := ⟨(.type "tuple"), none, (.seq ⟨[]⟩ 0), ⟨[]⟩⟩
noncomputable def o1772 (P : Params) : Obj := ⟨.none, none, (.fields ⟨[]⟩), ⟨[]⟩⟩
noncomputable def o1773 (P : Params) : Obj := ⟨.none, none, (.func (fd (st 42) z291 0 [] .none .none .none .none none .none .none 0)), ⟨[]⟩⟩
noncomputable def o1774 (P : Params) : Obj := ⟨(.type "code"), none, (.fields ⟨[(.str z291 1655), (.str z291 1656), (.str z162 1657), (.int 339 0), (.int 1 0), (.int 0 0), (.int 0 0), (.int 3 0), (.ref 1771), (.bool true), (.int 181 0), (.ref 1772), .none, .none, .none, (.ref 1773), (.int 1658 0), (.int 339 0), (.str z162 1659)]⟩), ⟨[]⟩⟩
noncomputable def o1775 (P : Params) : Obj := ⟨(.type "function"), none, (.func (fd (st 42) z291 3 [] .none .none .none (.str z290 1644) none (.ref 1774) .none 0)), ⟨[]⟩⟩
noncomputable def sub63 (P : Params) : BT := (.node (o63 P) (.node (o127 P) (.node (gb 17 3) (.node (gb 68 4) (.node (gb 171 1) .nil .nil) (.node (o1535 P) .nil .nil)) (.node (gb 120 0) (.node (gb 222 2) .nil .nil) .nil)) (.node (gb 43 1) (.node (gb 94 2) (.node (gb 196 4) .nil .nil) (.node (o1663 P) .nil .nil)) (.node (gb 145 3) (.node (gb 248 0) .nil .nil) .nil))) (.node (gb 4 4) (.node (gb 30 2) (.node (gb 81 3) (.node (gb 184 0) .nil .nil) (.node (o1599 P) .nil .nil)) (.node (gb 132 4) (.node (gb 235 1) .nil .nil) .nil)) (.node (gb 56 0) (.node (gb 107 1) (.node (gb 209 3) .nil .nil) (.node (o1727 P) .nil .nil)) (.node (gb 158 2) (.node (o1471 P) .nil .nil) .nil))))
noncomputable def sub159 (P : Params) : BT := (.node (o159 P) (.node (gb 24 0) (.node (gb 75 1) (.node (gb 177 3) .nil .nil) (.node (o1567 P) .nil .nil)) (.node (gb 126 2) (.node (gb 228 4) .nil .nil) .nil)) (.node (gb 49 3) (.node (gb 100 4) (.node (gb 203 1) .nil .nil) (.node (o1695 P) .nil .nil)) (.node (gb 152 0) (.node (gb 254 2) .nil .nil) .nil)))
noncomputable def sub223 (P : Params) : BT := (.node (gb 11 1) (.node (gb 36 4) (.node (gb 88 0) (.node (gb 190 2) .nil .nil) (.node (o1631 P) .nil .nil)) (.node (gb 139 1) (.node (gb 241 3) .nil .nil) .nil)) (.node (gb 62 2) (.node (gb 113 3) (.node (gb 216 0) .nil .nil) (.node (o1759 P) .nil .nil)) (.node (gb 164 4) (.node (o1503 P) .nil .nil) .nil)))
noncomputable def sub47 (P : Params) : BT := (.node (o47 P) (.node (o79 P) (.node (o143 P) (.node (gb 20 4) (.node (gb 72 0) (.node (gb 174 2) .nil .nil) (.node (o1551 P) .nil .nil)) (.node (gb 123 1) (.node (gb 225 3) .nil .nil) .nil)) (.node (gb 46 2) (.node (gb 97 3) (.node (gb 200 0) .nil .nil) (.node (o1679 P) .nil .nil)) (.node (gb 148 4) (.node (gb 251 1) .nil .nil) .nil))) (.node (gb 8 0) (.node (gb 33 3) (.node (gb 84 4) (.node (gb 187 1) .nil .nil) (.node (o1615 P) .nil .nil)) (.node (gb 136 0) (.node (gb 238 2) .nil .nil) .nil)) (.node (gb 59 1) (.node (gb 110 2) (.node (gb 212 4) .nil .nil) (.node (o1743 P) .nil .nil)) (.node (gb 161 3) (.node (o1487 P) .nil .nil) .nil)))) (.node (o111 P) (.node (gb 1 3) (.node (gb 27 1) (.node (gb 78 2) (.node (gb 180 4) .nil .nil) (.node (o1583 P) .nil .nil)) (.node (gb 129 3) (.node (gb 232 0) .nil .nil) .nil)) (.node (gb 52 4) (.node (gb 104 0) (.node (gb 206 2) .nil .nil) (.node (o1711 P) .nil .nil)) (.node (gb 155 1) (.node (o1455 P) .nil .nil) .nil))) (.node (gb 14 2) (.node (gb 40 0) (.node (gb 91 1) (.node (gb 193 3) .nil .nil) (.node (o1647 P) .nil .nil)) (.node (gb 142 2) (.node (gb 244 4) .nil .nil) .nil)) (.node (gb 65 3) (.node (gb 116 4) (.node (gb 219 1) .nil .nil) (.node (o1775 P) .nil .nil)) (.node (gb 168 0) (.node (o1519 P) .nil .nil) .nil)))))
noncomputable def sub23 (P : Params) : BT := (.node (o23 P) (.node (o39 P) (.node (o71 P) (.node (o135 P) (.node (gb 19 1) (.node (gb 70 2) (.node (gb 172 4) .nil .nil) (.node (o1543 P) .nil .nil)) (.node (gb 121 3) (.node (gb 224 0) .nil .nil) .nil)) (.node (gb 44 4) (.node (gb 96 0) (.node (gb 198 2) .nil .nil) (.node (o1671 P) .nil .nil)) (.node (gb 147 1) (.node (gb 249 3) .nil .nil) .nil))) (.node (gb 6 2) (.node (gb 32 0) (.node (gb 83 1) (.node (gb 185 3) .nil .nil) (.node (o1607 P) .nil .nil)) (.node (gb 134 2) (.node (gb 236 4) .nil .nil) .nil)) (.node (gb 57 3) (.node (gb 108 4) (.node (gb 211 1) .nil .nil) (.node (o1735 P) .nil .nil)) (.node (gb 160 0) (.node (o1479 P) .nil .nil) .nil)))) (.node (o103 P) (.node (gb 0 0) (.node (gb 25 3) (.node (gb 76 4) (.node (gb 179 1) .nil .nil) (.node (o1575 P) .nil .nil)) (.node (gb 128 0) (.node (gb 230 2) .nil .nil) .nil)) (.node (gb 51 1) (.node (gb 102 2) (.node (gb 204 4) .nil .nil) (.node (o1703 P) .nil .nil)) (.node (gb 153 3) (.node (o1447 P) .nil .nil) .nil))) (.node (gb 12 4) (.node (gb 38 2) (.node (gb 89 3) (.node (gb 192 0) .nil .nil) (.node (o1639 P) .nil .nil)) (.node (gb 140 4) (.node (gb 243 1) .nil .nil) .nil)) (.node (gb 64 0) (.node (gb 115 1) (.node (gb 217 3) .nil .nil) (.node (o1767 P) .nil .nil)) (.node (gb 166 2) (.node (o1511 P) .nil .nil) .nil))))) (.node (o55 P) (.node (o87 P) (.node (o151 P) (.node (gb 22 2) (.node (gb 73 3) (.node (gb 176 0) .nil .nil) (.node (o1559 P) .nil .nil)) (.node (gb 124 4) (.node (gb 227 1) .nil .nil) .nil)) (.node (gb 48 0) (.node (gb 99 1) (.node (gb 201 3) .nil .nil) (.node (o1687 P) .nil .nil)) (.node (gb 150 2) (.node (gb 252 4) .nil .nil) .nil))) (.node (gb 9 3) (.node (gb 35 1) (.node (gb 86 2) (.node (gb 188 4) .nil .nil) (.node (o1623 P) .nil .nil)) (.node (gb 137 3) (.node (gb 240 0) .nil .nil) .nil)) (.node (gb 60 4) (.node (gb 112 0) (.node (gb 214 2) .nil .nil) (.node (o1751 P) .nil .nil)) (.node (gb 163 1) (.node (o1495 P) .nil .nil) .nil)))) (.node (o119 P) (.node (gb 3 1) (.node (gb 28 4) (.node (gb 80 0) (.node (gb 182 2) .nil .nil) (.node (o1591 P) .nil .nil)) (.node (gb 131 1) (.node (gb 233 3) .nil .nil) .nil)) (.node (gb 54 2) (.node (gb 105 3) (.node (gb 208 0) .nil .nil) (.node (o1719 P) .nil .nil)) (.node (gb 156 4) (.node (o1463 P) .nil .nil) .nil))) (.node (gb 16 0) (.node (gb 41 3) (.node (gb 92 4) (.node (gb 195 1) .nil .nil) (.node (o1655 P) .nil .nil)) (.node (gb 144 0) (.node (gb 246 2) .nil .nil) .nil)) (.node (gb 67 1) (.node (gb 118 2) (.node (gb 220 4) .nil .nil) .nil) (.node (gb 169 3) (.node (o1527 P) .nil .nil) .nil))))))
noncomputable def sub11 (P : Params) : BT := (.node (o11 P) (.node (o19 P) (.node (o35 P) (.node (o67 P) (.node (o131 P) (.node (gb 18 2) (.node (gb 69 3) (.node (gb 172 0) .nil .nil) (.node (o1539 P) .nil .nil)) (.node (gb 120 4) (.node (gb 223 1) .nil .nil) .nil)) (.node (gb 44 0) (.node (gb 95 1) (.node (gb 197 3) .nil .nil) (.node (o1667 P) .nil .nil)) (.node (gb 146 2) (.node (gb 248 4) .nil .nil) .nil))) (.node (gb 5 3) (.node (gb 31 1) (.node (gb 82 2) (.node (gb 184 4) .nil .nil) (.node (o1603 P) .nil .nil)) (.node (gb 133 3) (.node (gb 236 0) .nil .nil) .nil)) (.node (gb 56 4) (.node (gb 108 0) (.node (gb 210 2) .nil .nil) (.node (o1731 P) .nil .nil)) (.node (gb 159 1) (.node (o1475 P) .nil .nil) .nil)))) (.node (o99 P) (.node (o163 P) (.node (gb 24 4) (.node (gb 76 0) (.node (gb 178 2) .nil .nil) (.node (o1571 P) .nil .nil)) (.node (gb 127 1) (.node (gb 229 3) .nil .nil) .nil)) (.node (gb 50 2) (.node (gb 101 3) (.node (gb 204 0) .nil .nil) (.node (o1699 P) .nil .nil)) (.node (gb 152 4) (.node (gb 255 1) .nil .nil) .nil))) (.node (gb 12 0) (.node (gb 37 3) (.node (gb 88 4) (.node (gb 191 1) .nil .nil) (.node (o1635 P) .nil .nil)) (.node (gb 140 0) (.node (gb 242 2) .nil .nil) .nil)) (.node (gb 63 1) (.node (gb 114 2) (.node (gb 216 4) .nil .nil) (.node (o1763 P) .nil .nil)) (.node (gb 165 3) (.node (o1507 P) .nil .nil) .nil))))) (.node (o51 P) (.node (o83 P) (.node (o147 P) (.node (gb 21 3) (.node (gb 72 4) (.node (gb 175 1) .nil .nil) (.node (o1555 P) .nil .nil)) (.node (gb 124 0) (.node (gb 226 2) .nil .nil) .nil)) (.node (gb 47 1) (.node (gb 98 2) (.node (gb 200 4) .nil .nil) (.node (o1683 P) .nil .nil)) (.node (gb 149 3) (.node (gb 252 0) .nil .nil) .nil))) (.node (gb 8 4) (.node (gb 34 2) (.node (gb 85 3) (.node (gb 188 0) .nil .nil) (.node (o1619 P) .nil .nil)) (.node (gb 136 4) (.node (gb 239 1) .nil .nil) .nil)) (.node (gb 60 0) (.node (gb 111 1) (.node (gb 213 3) .nil .nil) (.node (o1747 P) .nil .nil)) (.node (gb 162 2) (.node (o1491 P) .nil .nil) .nil)))) (.node (o115 P) (.node (gb 2 2) (.node (gb 28 0) (.node (gb 79 1) (.node (gb 181 3) .nil .nil) (.node (o1587 P) .nil .nil)) (.node (gb 130 2) (.node (gb 232 4) .nil .nil) .nil)) (.node (gb 53 3) (.node (gb 104 4) (.node (gb 207 1) .nil .nil) (.node (o1715 P) .nil .nil)) (.node (gb 156 0) (.node (o1459 P) .nil .nil) .nil))) (.node (gb 15 1) (.node (gb 40 4) (.node (gb 92 0) (.node (gb 194 2) .nil .nil) (.node (o1651 P) .nil .nil)) (.node (gb 143 1) (.node (gb 245 3) .nil .nil) .nil)) (.node (gb 66 2) (.node (gb 117 3) (.node (gb 220 0) .nil .nil) .nil) (.node (gb 168 4) (.node (o1523 P) .nil .nil) .nil)))))) (.node (o27 P) (.node (o43 P) (.node (o75 P) (.node (o139 P) (.node (gb 20 0) (.node (gb 71 1) (.node (gb 173 3) .nil .nil) (.node (o1547 P) .nil .nil)) (.node (gb 122 2) (.node (gb 224 4) .nil .nil) .nil)) (.node (gb 45 3) (.node (gb 96 4) (.node (gb 199 1) .nil .nil) (.node (o1675 P) .nil .nil)) (.node (gb 148 0) (.node (gb 250 2) .nil .nil) .nil))) (.node (gb 7 1) (.node (gb 32 4) (.node (gb 84 0) (.node (gb 186 2) .nil .nil) (.node (o1611 P) .nil .nil)) (.node (gb 135 1) (.node (gb 237 3) .nil .nil) .nil)) (.node (gb 58 2) (.node (gb 109 3) (.node (gb 212 0) .nil .nil) (.node (o1739 P) .nil .nil)) (.node (gb 160 4) (.node (o1483 P) .nil .nil) .nil)))) (.node (o107 P) (.node (gb 0 4) (.node (gb 26 2) (.node (gb 77 3) (.node (gb 180 0) .nil .nil) (.node (o1579 P) .nil .nil)) (.node (gb 128 4) (.node (gb 231 1) .nil .nil) .nil)) (.node (gb 52 0) (.node (gb 103 1) (.node (gb 205 3) .nil .nil) (.node (o1707 P) .nil .nil)) (.node (gb 154 2) (.node (o1451 P) .nil .nil) .nil))) (.node (gb 13 3) (.node (gb 39 1) (.node (gb 90 2) (.node (gb 192 4) .nil .nil) (.node (o1643 P) .nil .nil)) (.node (gb 141 3) (.node (gb 244 0) .nil .nil) .nil)) (.node (gb 64 4) (.node (gb 116 0) (.node (gb 218 2) .nil .nil) (.node (o1771 P) .nil .nil)) (.node (gb 167 1) (.node (o1515 P) .nil .nil) .nil))))) (.node (o59 P) (.node (o91 P) (.node (o155 P) (.node (gb 23 1) (.node (gb 74 2) (.node (gb 176 4) .nil .nil) (.node (o1563 P) .nil .nil)) (.node (gb 125 3) (.node (gb 228 0) .nil .nil) .nil)) (.node (gb 48 4) (.node (gb 100 0) (.node (gb 202 2) .nil .nil) (.node (o1691 P) .nil .nil)) (.node (gb 151 1) (.node (gb 253 3) .nil .nil) .nil))) (.node (gb 10 2) (.node (gb 36 0) (.node (gb 87 1) (.node (gb 189 3) .nil .nil) (.node (o1627 P) .nil .nil)) (.node (gb 138 2) (.node (gb 240 4) .nil .nil) .nil)) (.node (gb 61 3) (.node (gb 112 4) (.node (gb 215 1) .nil .nil) (.node (o1755 P) .nil .nil)) (.node (gb 164 0) (.node (o1499 P) .nil .nil) .nil)))) (.node (o123 P) (.node (gb 4 0) (.node (gb 29 3) (.node (gb 80 4) (.node (gb 183 1) .nil .nil) (.node (o1595 P) .nil .nil)) (.node (gb 132 0) (.node (gb 234 2) .nil .nil) .nil)) (.node (gb 55 1) (.node (gb 106 2) (.node (gb 208 4) .nil .nil) (.node (o1723 P) .nil .nil)) (.node (gb 157 3) (.node (o1467 P) .nil .nil) .nil))) (.node (gb 16 4) (.node (gb 42 2) (.node (gb 93 3) (.node (gb 196 0) .nil .nil) (.node (o1659 P) .nil .nil)) (.node (gb 144 4) (.node (gb 247 1) .nil .nil) .nil)) (.node (gb 68 0) (.node (gb 119 1) (.node (gb 221 3) .nil .nil) .nil) (.node (gb 170 2) (.node (o1531 P) .nil .nil) .nil)))))))
noncomputable def sub9 (P : Params) : BT := (.node (o9 P) (.node (o17 P) (.node (o33 P) (.node (o65 P) (.node (o129 P) (.node (gb 18 0) (.node (gb 69 1) (.node (gb 171 3) .nil .nil) (.node (o1537 P) .nil .nil)) (.node (gb 120 2) (.node (gb 222 4) .nil .nil) .nil)) (.node (gb 43 3) (.node (gb 94 4) (.node (gb 197 1) .nil .nil) (.node (o1665 P) .nil .nil)) (.node (gb 146 0) (.node (gb 248 2) .nil .nil) .nil))) (.node (gb 5 1) (.node (gb 30 4) (.node (gb 82 0) (.node (gb 184 2) .nil .nil) (.node (o1601 P) .nil .nil)) (.node (gb 133 1) (.node (gb 235 3) .nil .nil) .nil)) (.node (gb 56 2) (.node (gb 107 3) (.node (gb 210 0) .nil .nil) (.node (o1729 P) .nil .nil)) (.node (gb 158 4) (.node (o1473 P) .nil .nil) .nil)))) (.node (o97 P) (.node (o161 P) (.node (gb 24 2) (.node (gb 75 3) (.node (gb 178 0) .nil .nil) (.node (o1569 P) .nil .nil)) (.node (gb 126 4) (.node (gb 229 1) .nil .nil) .nil)) (.node (gb 50 0) (.node (gb 101 1) (.node (gb 203 3) .nil .nil) (.node (o1697 P) .nil .nil)) (.node (gb 152 2) (.node (gb 254 4) .nil .nil) .nil))) (.node (gb 11 3) (.node (gb 37 1) (.node (gb 88 2) (.node (gb 190 4) .nil .nil) (.node (o1633 P) .nil .nil)) (.node (gb 139 3) (.node (gb 242 0) .nil .nil) .nil)) (.node (gb 62 4) (.node (gb 114 0) (.node (gb 216 2) .nil .nil) (.node (o1761 P) .nil .nil)) (.node (gb 165 1) (.node (o1505 P) .nil .nil) .nil))))) (.node (o49 P) (.node (o81 P) (.node (o145 P) (.node (gb 21 1) (.node (gb 72 2) (.node (gb 174 4) .nil .nil) (.node (o1553 P) .nil .nil)) (.node (gb 123 3) (.node (gb 226 0) .nil .nil) .nil)) (.node (gb 46 4) (.node (gb 98 0) (.node (gb 200 2) .nil .nil) (.node (o1681 P) .nil .nil)) (.node (gb 149 1) (.node (gb 251 3) .nil .nil) .nil))) (.node (gb 8 2) (.node (gb 34 0) (.node (gb 85 1) (.node (gb 187 3) .nil .nil) (.node (o1617 P) .nil .nil)) (.node (gb 136 2) (.node (gb 238 4) .nil .nil) .nil)) (.node (gb 59 3) (.node (gb 110 4) (.node (gb 213 1) .nil .nil) (.node (o1745 P) .nil .nil)) (.node (gb 162 0) (.node (o1489 P) .nil .nil) .nil)))) (.node (o113 P) (.node (gb 2 0) (.node (gb 27 3) (.node (gb 78 4) (.node (gb 181 1) .nil .nil) (.node (o1585 P) .nil .nil)) (.node (gb 130 0) (.node (gb 232 2) .nil .nil) .nil)) (.node (gb 53 1) (.node (gb 104 2) (.node (gb 206 4) .nil .nil) (.node (o1713 P) .nil .nil)) (.node (gb 155 3) (.node (o1457 P) .nil .nil) .nil))) (.node (gb 14 4) (.node (gb 40 2) (.node (gb 91 3) (.node (gb 194 0) .nil .nil) (.node (o1649 P) .nil .nil)) (.node (gb 142 4) (.node (gb 245 1) .nil .nil) .nil)) (.node (gb 66 0) (.node (gb 117 1) (.node (gb 219 3) .nil .nil) .nil) (.node (gb 168 2) (.node (o1521 P) .nil .nil) .nil)))))) (.node (o25 P) (.node (o41 P) (.node (o73 P) (.node (o137 P) (.node (gb 19 3) (.node (gb 70 4) (.node (gb 173 1) .nil .nil) (.node (o1545 P) .nil .nil)) (.node (gb 122 0) (.node (gb 224 2) .nil .nil) .nil)) (.node (gb 45 1) (.node (gb 96 2) (.node (gb 198 4) .nil .nil) (.node (o1673 P) .nil .nil)) (.node (gb 147 3) (.node (gb 250 0) .nil .nil) .nil))) (.node (gb 6 4) (.node (gb 32 2) (.node (gb 83 3) (.node (gb 186 0) .nil .nil) (.node (o1609 P) .nil .nil)) (.node (gb 134 4) (.node (gb 237 1) .nil .nil) .nil)) (.node (gb 58 0) (.node (gb 109 1) (.node (gb 211 3) .nil .nil) (.node (o1737 P) .nil .nil)) (.node (gb 160 2) (.node (o1481 P) .nil .nil) .nil)))) (.node (o105 P) (.node (gb 0 2) (.node (gb 26 0) (.node (gb 77 1) (.node (gb 179 3) .nil .nil) (.node (o1577 P) .nil .nil)) (.node (gb 128 2) (.node (gb 230 4) .nil .nil) .nil)) (.node (gb 51 3) (.node (gb 102 4) (.node (gb 205 1) .nil .nil) (.node (o1705 P) .nil .nil)) (.node (gb 154 0) (.node (o1449 P) .nil .nil) .nil))) (.node (gb 13 1) (.node (gb 38 4) (.node (gb 90 0) (.node (gb 192 2) .nil .nil) (.node (o1641 P) .nil .nil)) (.node (gb 141 1) (.node (gb 243 3) .nil .nil) .nil)) (.node (gb 64 2) (.node (gb 115 3) (.node (gb 218 0) .nil .nil) (.node (o1769 P) .nil .nil)) (.node (gb 166 4) (.node (o1513 P) .nil .nil) .nil))))) (.node (o57 P) (.node (o89 P) (.node (o153 P) (.node (gb 22 4) (.node (gb 74 0) (.node (gb 176 2) .nil .nil) (.node (o1561 P) .nil .nil)) (.node (gb 125 1) (.node (gb 227 3) .nil .nil) .nil)) (.node (gb 48 2) (.node (gb 99 3) (.node (gb 202 0) .nil .nil) (.node (o1689 P) .nil .nil)) (.node (gb 150 4) (.node (gb 253 1) .nil .nil) .nil))) (.node (gb 10 0) (.node (gb 35 3) (.node (gb 86 4) (.node (gb 189 1) .nil .nil) (.node (o1625 P) .nil .nil)) (.node (gb 138 0) (.node (gb 240 2) .nil .nil) .nil)) (.node (gb 61 1) (.node (gb 112 2) (.node (gb 214 4) .nil .nil) (.node (o1753 P) .nil .nil)) (.node (gb 163 3) (.node (o1497 P) .nil .nil) .nil)))) (.node (o121 P) (.node (gb 3 3) (.node (gb 29 1) (.node (gb 80 2) (.node (gb 182 4) .nil .nil) (.node (o1593 P) .nil .nil)) (.node (gb 131 3) (.node (gb 234 0) .nil .nil) .nil)) (.node (gb 54 4) (.node (gb 106 0) (.node (gb 208 2) .nil .nil) (.node (o1721 P) .nil .nil)) (.node (gb 157 1) (.node (o1465 P) .nil .nil) .nil))) (.node (gb 16 2) (.node (gb 42 0) (.node (gb 93 1) (.node (gb 195 3) .nil .nil) (.node (o1657 P) .nil .nil)) (.node (gb 144 2) (.node (gb 246 4) .nil .nil) .nil)) (.node (gb 67 3) (.node (gb 118 4) (.node (gb 221 1) .nil .nil) .nil) (.node (gb 170 0) (.node (o1529 P) .nil .nil) .nil)))))))
noncomputable def sub69 (P : Params) : BT := (.node (o69 P) (.node (o133 P) (.node (gb 18 4) (.node (gb 70 0) (.node (gb 172 2) .nil .nil) (.node (o1541 P) .nil .nil)) (.node (gb 121 1) (.node (gb 223 3) .nil .nil) .nil)) (.node (gb 44 2) (.node (gb 95 3) (.node (gb 198 0) .nil .nil) (.node (o1669 P) .nil .nil)) (.node (gb 146 4) (.node (gb 249 1) .nil .nil) .nil))) (.node (gb 6 0) (.node (gb 31 3) (.node (gb 82 4) (.node (gb 185 1) .nil .nil) (.node (o1605 P) .nil .nil)) (.node (gb 134 0) (.node (gb 236 2) .nil .nil) .nil)) (.node (gb 57 1) (.node (gb 108 2) (.node (gb 210 4) .nil .nil) (.node (o1733 P) .nil .nil)) (.node (gb 159 3) (.node (o1477 P) .nil .nil) .nil))))
noncomputable def sub293 (P : Params) : BT := (.node (gb 25 1) (.node (gb 76 2) (.node (gb 178 4) .nil .nil) (.node (o1573 P) .nil .nil)) (.node (gb 127 3) (.node (gb 230 0) .nil .nil) .nil))
noncomputable def sub421 (P : Params) : BT := (.node (gb 50 4) (.node (gb 102 0) (.node (gb 204 2) .nil .nil) (.node (o1701 P) .nil .nil)) (.node (gb 153 1) (.node (gb 255 3) .nil .nil) .nil))
noncomputable def sub229 (P : Params) : BT := (.node (gb 12 2) (.node (gb 38 0) (.node (gb 89 1) (.node (gb 191 3) .nil .nil) (.node (o1637 P) .nil .nil)) (.node (gb 140 2) (.node (gb 242 4) .nil .nil) .nil)) (.node (gb 63 3) (.node (gb 114 4) (.node (gb 217 1) .nil .nil) (.node (o1765 P) .nil .nil)) (.node (gb 166 0) (.node (o1509 P) .nil .nil) .nil)))
noncomputable def sub53 (P : Params) : BT := (.node (o53 P) (.node (o85 P) (.node (o149 P) (.node (gb 22 0) (.node (gb 73 1) (.node (gb 175 3) .nil .nil) (.node (o1557 P) .nil .nil)) (.node (gb 124 2) (.node (gb 226 4) .nil .nil) .nil)) (.node (gb 47 3) (.node (gb 98 4) (.node (gb 201 1) .nil .nil) (.node (o1685 P) .nil .nil)) (.node (gb 150 0) (.node (gb 252 2) .nil .nil) .nil))) (.node (gb 9 1) (.node (gb 34 4) (.node (gb 86 0) (.node (gb 188 2) .nil .nil) (.node (o1621 P) .nil .nil)) (.node (gb 137 1) (.node (gb 239 3) .nil .nil) .nil)) (.node (gb 60 2) (.node (gb 111 3) (.node (gb 214 0) .nil .nil) (.node (o1749 P) .nil .nil)) (.node (gb 162 4) (.node (o1493 P) .nil .nil) .nil)))) (.node (o117 P) (.node (gb 2 4) (.node (gb 28 2) (.node (gb 79 3) (.node (gb 182 0) .nil .nil) (.node (o1589 P) .nil .nil)) (.node (gb 130 4) (.node (gb 233 1) .nil .nil) .nil)) (.node (gb 54 0) (.node (gb 105 1) (.node (gb 207 3) .nil .nil) (.node (o1717 P) .nil .nil)) (.node (gb 156 2) (.node (o1461 P) .nil .nil) .nil))) (.node (gb 15 3) (.node (gb 41 1) (.node (gb 92 2) (.node (gb 194 4) .nil .nil) (.node (o1653 P) .nil .nil)) (.node (gb 143 3) (.node (gb 246 0) .nil .nil) .nil)) (.node (gb 66 4) (.node (gb 118 0) (.node (gb 220 2) .nil .nil) .nil) (.node (gb 169 1) (.node (o1525 P) .nil .nil) .nil)))))
noncomputable def sub29 (P : Params) : BT := (.node (o29 P) (.node (o45 P) (.node (o77 P) (.node (o141 P) (.node (gb 20 2) (.node (gb 71 3) (.node (gb 174 0) .nil .nil) (.node (o1549 P) .nil .nil)) (.node (gb 122 4) (.node (gb 225 1) .nil .nil) .nil)) (.node (gb 46 0) (.node (gb 97 1) (.node (gb 199 3) .nil .nil) (.node (o1677 P) .nil .nil)) (.node (gb 148 2) (.node (gb 250 4) .nil .nil) .nil))) (.node (gb 7 3) (.node (gb 33 1) (.node (gb 84 2) (.node (gb 186 4) .nil .nil) (.node (o1613 P) .nil .nil)) (.node (gb 135 3) (.node (gb 238 0) .nil .nil) .nil)) (.node (gb 58 4) (.node (gb 110 0) (.node (gb 212 2) .nil .nil) (.node (o1741 P) .nil .nil)) (.node (gb 161 1) (.node (o1485 P) .nil .nil) .nil)))) (.node (o109 P) (.node (gb 1 1) (.node (gb 26 4) (.node (gb 78 0) (.node (gb 180 2) .nil .nil) (.node (o1581 P) .nil .nil)) (.node (gb 129 1) (.node (gb 231 3) .nil .nil) .nil)) (.node (gb 52 2) (.node (gb 103 3) (.node (gb 206 0) .nil .nil) (.node (o1709 P) .nil .nil)) (.node (gb 154 4) (.node (o1453 P) .nil .nil) .nil))) (.node (gb 14 0) (.node (gb 39 3) (.node (gb 90 4) (.node (gb 193 1) .nil .nil) (.node (o1645 P) .nil .nil)) (.node (gb 142 0) (.node (gb 244 2) .nil .nil) .nil)) (.node (gb 65 1) (.node (gb 116 2) (.node (gb 218 4) .nil .nil) (.node (o1773 P) .nil .nil)) (.node (gb 167 3) (.node (o1517 P) .nil .nil) .nil))))) (.node (o61 P) (.node (o93 P) (.node (o157 P) (.node (gb 23 3) (.node (gb 74 4) (.node (gb 177 1) .nil .nil) (.node (o1565 P) .nil .nil)) (.node (gb 126 0) (.node (gb 228 2) .nil .nil) .nil)) (.node (gb 49 1) (.node (gb 100 2) (.node (gb 202 4) .nil .nil) (.node (o1693 P) .nil .nil)) (.node (gb 151 3) (.node (gb 254 0) .nil .nil) .nil))) (.node (gb 10 4) (.node (gb 36 2) (.node (gb 87 3) (.node (gb 190 0) .nil .nil) (.node (o1629 P) .nil .nil)) (.node (gb 138 4) (.node (gb 241 1) .nil .nil) .nil)) (.node (gb 62 0) (.node (gb 113 1) (.node (gb 215 3) .nil .nil) (.node (o1757 P) .nil .nil)) (.node (gb 164 2) (.node (o1501 P) .nil .nil) .nil)))) (.node (o125 P) (.node (gb 4 2) (.node (gb 30 0) (.node (gb 81 1) (.node (gb 183 3) .nil .nil) (.node (o1597 P) .nil .nil)) (.node (gb 132 2) (.node (gb 234 4) .nil .nil) .nil)) (.node (gb 55 3) (.node (gb 106 4) (.node (gb 209 1) .nil .nil) (.node (o1725 P) .nil .nil)) (.node (gb 158 0) (.node (o1469 P) .nil .nil) .nil))) (.node (gb 17 1) (.node (gb 42 4) (.node (gb 94 0) (.node (gb 196 2) .nil .nil) (.node (o1661 P) .nil .nil)) (.node (gb 145 1) (.node (gb 247 3) .nil .nil) .nil)) (.node (gb 68 2) (.node (gb 119 3) (.node (gb 222 0) .nil .nil) .nil) (.node (gb 170 4) (.node (o1533 P) .nil .nil) .nil))))))
noncomputable def sub8 (P : Params) : BT := (.node (o8 P) (.node (o16 P) (.node (o32 P) (.node (o64 P) (.node (o128 P) (.node (gb 17 4) (.node (gb 69 0) (.node (gb 171 2) .nil .nil) (.node (o1536 P) .nil .nil)) (.node (gb 120 1) (.node (gb 222 3) .nil .nil) .nil)) (.node (gb 43 2) (.node (gb 94 3) (.node (gb 197 0) .nil .nil) (.node (o1664 P) .nil .nil)) (.node (gb 145 4) (.node (gb 248 1) .nil .nil) .nil))) (.node (gb 5 0) (.node (gb 30 3) (.node (gb 81 4) (.node (gb 184 1) .nil .nil) (.node (o1600 P) .nil .nil)) (.node (gb 133 0) (.node (gb 235 2) .nil .nil) .nil)) (.node (gb 56 1) (.node (gb 107 2) (.node (gb 209 4) .nil .nil) (.node (o1728 P) .nil .nil)) (.node (gb 158 3) (.node (o1472 P) .nil .nil) .nil)))) (.node (o96 P) (.node (o160 P) (.node (gb 24 1) (.node (gb 75 2) (.node (gb 177 4) .nil .nil) (.node (o1568 P) .nil .nil)) (.node (gb 126 3) (.node (gb 229 0) .nil .nil) .nil)) (.node (gb 49 4) (.node (gb 101 0) (.node (gb 203 2) .nil .nil) (.node (o1696 P) .nil .nil)) (.node (gb 152 1) (.node (gb 254 3) .nil .nil) .nil))) (.node (gb 11 2) (.node (gb 37 0) (.node (gb 88 1) (.node (gb 190 3) .nil .nil) (.node (o1632 P) .nil .nil)) (.node (gb 139 2) (.node (gb 241 4) .nil .nil) .nil)) (.node (gb 62 3) (.node (gb 113 4) (.node (gb 216 1) .nil .nil) (.node (o1760 P) .nil .nil)) (.node (gb 165 0) (.node (o1504 P) .nil .nil) .nil))))) (.node (o48 P) (.node (o80 P) (.node (o144 P) (.node (gb 21 0) (.node (gb 72 1) (.node (gb 174 3) .nil .nil) (.node (o1552 P) .nil .nil)) (.node (gb 123 2) (.node (gb 225 4) .nil .nil) .nil)) (.node (gb 46 3) (.node (gb 97 4) (.node (gb 200 1) .nil .nil) (.node (o1680 P) .nil .nil)) (.node (gb 149 0) (.node (gb 251 2) .nil .nil) .nil))) (.node (gb 8 1) (.node (gb 33 4) (.node (gb 85 0) (.node (gb 187 2) .nil .nil) (.node (o1616 P) .nil .nil)) (.node (gb 136 1) (.node (gb 238 3) .nil .nil) .nil)) (.node (gb 59 2) (.node (gb 110 3) (.node (gb 213 0) .nil .nil) (.node (o1744 P) .nil .nil)) (.node (gb 161 4) (.node (o1488 P) .nil .nil) .nil)))) (.node (o112 P) (.node (gb 1 4) (.node (gb 27 2) (.node (gb 78 3) (.node (gb 181 0) .nil .nil) (.node (o1584 P) .nil .nil)) (.node (gb 129 4) (.node (gb 232 1) .nil .nil) .nil)) (.node (gb 53 0) (.node (gb 104 1) (.node (gb 206 3) .nil .nil) (.node (o1712 P) .nil .nil)) (.node (gb 155 2) (.node (o1456 P) .nil .nil) .nil))) (.node (gb 14 3) (.node (gb 40 1) (.node (gb 91 2) (.node (gb 193 4) .nil .nil) (.node (o1648 P) .nil .nil)) (.node (gb 142 3) (.node (gb 245 0) .nil .nil) .nil)) (.node (gb 65 4) (.node (gb 117 0) (.node (gb 219 2) .nil .nil) .nil) (.node (gb 168 1) (.node (o1520 P) .nil .nil) .nil)))))) (.node (o24 P) (.node (o40 P) (.node (o72 P) (.node (o136 P) (.node (gb 19 2) (.node (gb 70 3) (.node (gb 173 0) .nil .nil) (.node (o1544 P) .nil .nil)) (.node (gb 121 4) (.node (gb 224 1) .nil .nil) .nil)) (.node (gb 45 0) (.node (gb 96 1) (.node (gb 198 3) .nil .nil) (.node (o1672 P) .nil .nil)) (.node (gb 147 2) (.node (gb 249 4) .nil .nil) .nil))) (.node (gb 6 3) (.node (gb 32 1) (.node (gb 83 2) (.node (gb 185 4) .nil .nil) (.node (o1608 P) .nil .nil)) (.node (gb 134 3) (.node (gb 237 0) .nil .nil) .nil)) (.node (gb 57 4) (.node (gb 109 0) (.node (gb 211 2) .nil .nil) (.node (o1736 P) .nil .nil)) (.node (gb 160 1) (.node (o1480 P) .nil .nil) .nil)))) (.node (o104 P) (.node (gb 0 1) (.node (gb 25 4) (.node (gb 77 0) (.node (gb 179 2) .nil .nil) (.node (o1576 P) .nil .nil)) (.node (gb 128 1) (.node (gb 230 3) .nil .nil) .nil)) (.node (gb 51 2) (.node (gb 102 3) (.node (gb 205 0) .nil .nil) (.node (o1704 P) .nil .nil)) (.node (gb 153 4) (.node (o1448 P) .nil .nil) .nil))) (.node (gb 13 0) (.node (gb 38 3) (.node (gb 89 4) (.node (gb 192 1) .nil .nil) (.node (o1640 P) .nil .nil)) (.node (gb 141 0) (.node (gb 243 2) .nil .nil) .nil)) (.node (gb 64 1) (.node (gb 115 2) (.node (gb 217 4) .nil .nil) (.node (o1768 P) .nil .nil)) (.node (gb 166 3) (.node (o1512 P) .nil .nil) .nil))))) (.node (o56 P) (.node (o88 P) (.node (o152 P) (.node (gb 22 3) (.node (gb 73 4) (.node (gb 176 1) .nil .nil) (.node (o1560 P) .nil .nil)) (.node (gb 125 0) (.node (gb 227 2) .nil .nil) .nil)) (.node (gb 48 1) (.node (gb 99 2) (.node (gb 201 4) .nil .nil) (.node (o1688 P) .nil .nil)) (.node (gb 150 3) (.node (gb 253 0) .nil .nil) .nil))) (.node (gb 9 4) (.node (gb 35 2) (.node (gb 86 3) (.node (gb 189 0) .nil .nil) (.node (o1624 P) .nil .nil)) (.node (gb 137 4) (.node (gb 240 1) .nil .nil) .nil)) (.node (gb 61 0) (.node (gb 112 1) (.node (gb 214 3) .nil .nil) (.node (o1752 P) .nil .nil)) (.node (gb 163 2) (.node (o1496 P) .nil .nil) .nil)))) (.node (o120 P) (.node (gb 3 2) (.node (gb 29 0) (.node (gb 80 1) (.node (gb 182 3) .nil .nil) (.node (o1592 P) .nil .nil)) (.node (gb 131 2) (.node (gb 233 4) .nil .nil) .nil)) (.node (gb 54 3) (.node (gb 105 4) (.node (gb 208 1) .nil .nil) (.node (o1720 P) .nil .nil)) (.node (gb 157 0) (.node (o1464 P) .nil .nil) .nil))) (.node (gb 16 1) (.node (gb 41 4) (.node (gb 93 0) (.node (gb 195 2) .nil .nil) (.node (o1656 P) .nil .nil)) (.node (gb 144 1) (.node (gb 246 3) .nil .nil) .nil)) (.node (gb 67 2) (.node (gb 118 3) (.node (gb 221 0) .nil .nil) .nil) (.node (gb 169 4) (.node (o1528 P) .nil .nil) .nil)))))))
noncomputable def sub68 (P : Params) : BT := (.node (o68 P) (.node (o132 P) (.node (gb 18 3) (.node (gb 69 4) (.node (gb 172 1) .nil .nil) (.node (o1540 P) .nil .nil)) (.node (gb 121 0) (.node (gb 223 2) .nil .nil) .nil)) (.node (gb 44 1) (.node (gb 95 2) (.node (gb 197 4) .nil .nil) (.node (o1668 P) .nil .nil)) (.node (gb 146 3) (.node (gb 249 0) .nil .nil) .nil))) (.node (gb 5 4) (.node (gb 31 2) (.node (gb 82 3) (.node (gb 185 0) .nil .nil) (.node (o1604 P) .nil .nil)) (.node (gb 133 4) (.node (gb 236 1) .nil .nil) .nil)) (.node (gb 57 0) (.node (gb 108 1) (.node (gb 210 3) .nil .nil) (.node (o1732 P) .nil .nil)) (.node (gb 159 2) (.node (o1476 P) .nil .nil) .nil))))
noncomputable def sub292 (P : Params) : BT := (.node (gb 25 0) (.node (gb 76 1) (.node (gb 178 3) .nil .nil) (.node (o1572 P) .nil .nil)) (.node (gb 127 2) (.node (gb 229 4) .nil .nil) .nil))
noncomputable def sub420 (P : Params) : BT := (.node (gb 50 3) (.node (gb 101 4) (.node (gb 204 1) .nil .nil) (.node (o1700 P) .nil .nil)) (.node (gb 153 0) (.node (gb 255 2) .nil .nil) .nil))
noncomputable def sub228 (P : Params) : BT := (.node (gb 12 1) (.node (gb 37 4) (.node (gb 89 0) (.node (gb 191 2) .nil .nil) (.node (o1636 P) .nil .nil)) (.node (gb 140 1) (.node (gb 242 3) .nil .nil) .nil)) (.node (gb 63 2) (.node (gb 114 3) (.node (gb 217 0) .nil .nil) (.node (o1764 P) .nil .nil)) (.node (gb 165 4) (.node (o1508 P) .nil .nil) .nil)))
noncomputable def sub52 (P : Params) : BT := (.node (o52 P) (.node (o84 P) (.node (o148 P) (.node (gb 21 4) (.node (gb 73 0) (.node (gb 175 2) .nil .nil) (.node (o1556 P) .nil .nil)) (.node (gb 124 1) (.node (gb 226 3) .nil .nil) .nil)) (.node (gb 47 2) (.node (gb 98 3) (.node (gb 201 0) .nil .nil) (.node (o1684 P) .nil .nil)) (.node (gb 149 4) (.node (gb 252 1) .nil .nil) .nil))) (.node (gb 9 0) (.node (gb 34 3) (.node (gb 85 4) (.node (gb 188 1) .nil .nil) (.node (o1620 P) .nil .nil)) (.node (gb 137 0) (.node (gb 239 2) .nil .nil) .nil)) (.node (gb 60 1) (.node (gb 111 2) (.node (gb 213 4) .nil .nil) (.node (o1748 P) .nil .nil)) (.node (gb 162 3) (.node (o1492 P) .nil .nil) .nil)))) (.node (o116 P) (.node (gb 2 3) (.node (gb 28 1) (.node (gb 79 2) (.node (gb 181 4) .nil .nil) (.node (o1588 P) .nil .nil)) (.node (gb 130 3) (.node (gb 233 0) .nil .nil) .nil)) (.node (gb 53 4) (.node (gb 105 0) (.node (gb 207 2) .nil .nil) (.node (o1716 P) .nil .nil)) (.node (gb 156 1) (.node (o1460 P) .nil .nil) .nil))) (.node (gb 15 2) (.node (gb 41 0) (.node (gb 92 1) (.node (gb 194 3) .nil .nil) (.node (o1652 P) .nil .nil)) (.node (gb 143 2) (.node (gb 245 4) .nil .nil) .nil)) (.node (gb 66 3) (.node (gb 117 4) (.node (gb 220 1) .nil .nil) .nil) (.node (gb 169 0) (.node (o1524 P) .nil .nil) .nil)))))
noncomputable def sub28 (P : Params) : BT := (.node (o28 P) (.node (o44 P) (.node (o76 P) (.node (o140 P) (.node (gb 20 1) (.node (gb 71 2) (.node (gb 173 4) .nil .nil) (.node (o1548 P) .nil .nil)) (.node (gb 122 3) (.node (gb 225 0) .nil .nil) .nil)) (.node (gb 45 4) (.node (gb 97 0) (.node (gb 199 2) .nil .nil) (.node (o1676 P) .nil .nil)) (.node (gb 148 1) (.node (gb 250 3) .nil .nil) .nil))) (.node (gb 7 2) (.node (gb 33 0) (.node (gb 84 1) (.node (gb 186 3) .nil .nil) (.node (o1612 P) .nil .nil)) (.node (gb 135 2) (.node (gb 237 4) .nil .nil) .nil)) (.node (gb 58 3) (.node (gb 109 4) (.node (gb 212 1) .nil .nil) (.node (o1740 P) .nil .nil)) (.node (gb 161 0) (.node (o1484 P) .nil .nil) .nil)))) (.node (o108 P) (.node (gb 1 0) (.node (gb 26 3) (.node (gb 77 4) (.node (gb 180 1) .nil .nil) (.node (o1580 P) .nil .nil)) (.node (gb 129 0) (.node (gb 231 2) .nil .nil) .nil)) (.node (gb 52 1) (.node (gb 103 2) (.node (gb 205 4) .nil .nil) (.node (o1708 P) .nil .nil)) (.node (gb 154 3) (.node (o1452 P) .nil .nil) .nil))) (.node (gb 13 4) (.node (gb 39 2) (.node (gb 90 3) (.node (gb 193 0) .nil .nil) (.node (o1644 P) .nil .nil)) (.node (gb 141 4) (.node (gb 244 1) .nil .nil) .nil)) (.node (gb 65 0) (.node (gb 116 1) (.node (gb 218 3) .nil .nil) (.node (o1772 P) .nil .nil)) (.node (gb 167 2) (.node (o1516 P) .nil .nil) .nil))))) (.node (o60 P) (.node (o92 P) (.node (o156 P) (.node (gb 23 2) (.node (gb 74 3) (.node (gb 177 0) .nil .nil) (.node (o1564 P) .nil .nil)) (.node (gb 125 4) (.node (gb 228 1) .nil .nil) .nil)) (.node (gb 49 0) (.node (gb 100 1) (.node (gb 202 3) .nil .nil) (.node (o1692 P) .nil .nil)) (.node (gb 151 2) (.node (gb 253 4) .nil .nil) .nil))) (.node (gb 10 3) (.node (gb 36 1) (.node (gb 87 2) (.node (gb 189 4) .nil .nil) (.node (o1628 P) .nil .nil)) (.node (gb 138 3) (.node (gb 241 0) .nil .nil) .nil)) (.node (gb 61 4) (.node (gb 113 0) (.node (gb 215 2) .nil .nil) (.node (o1756 P) .nil .nil)) (.node (gb 164 1) (.node (o1500 P) .nil .nil) .nil)))) (.node (o124 P) (.node (gb 4 1) (.node (gb 29 4) (.node (gb 81 0) (.node (gb 183 2) .nil .nil) (.node (o1596 P) .nil .nil)) (.node (gb 132 1) (.node (gb 234 3) .nil .nil) .nil)) (.node (gb 55 2) (.node (gb 106 3) (.node (gb 209 0) .nil .nil) (.node (o1724 P) .nil .nil)) (.node (gb 157 4) (.node (o1468 P) .nil .nil) .nil))) (.node (gb 17 0) (.node (gb 42 3) (.node (gb 93 4) (.node (gb 196 1) .nil .nil) (.node (o1660 P) .nil .nil)) (.node (gb 145 0) (.node (gb 247 2) .nil .nil) .nil)) (.node (gb 68 1) (.node (gb 119 2) (.node (gb 221 4) .nil .nil) .nil) (.node (gb 170 3) (.node (o1532 P) .nil .nil) .nil))))))
noncomputable def sub18 (P : Params) : BT := (.node (o18 P) (.node (o34 P) (.node (o66 P) (.node (o130 P) (.node (gb 18 1) (.node (gb 69 2) (.node (gb 171 4) .nil .nil) (.node (o1538 P) .nil .nil)) (.node (gb 120 3) (.node (gb 223 0) .nil .nil) .nil)) (.node (gb 43 4) (.node (gb 95 0) (.node (gb 197 2) .nil .nil) (.node (o1666 P) .nil .nil)) (.node (gb 146 1) (.node (gb 248 3) .nil .nil) .nil))) (.node (gb 5 2) (.node (gb 31 0) (.node (gb 82 1) (.node (gb 184 3) .nil .nil) (.node (o1602 P) .nil .nil)) (.node (gb 133 2) (.node (gb 235 4) .nil .nil) .nil)) (.node (gb 56 3) (.node (gb 107 4) (.node (gb 210 1) .nil .nil) (.node (o1730 P) .nil .nil)) (.node (gb 159 0) (.node (o1474 P) .nil .nil) .nil)))) (.node (o98 P) (.node (o162 P) (.node (gb 24 3) (.node (gb 75 4) (.node (gb 178 1) .nil .nil) (.node (o1570 P) .nil .nil)) (.node (gb 127 0) (.node (gb 229 2) .nil .nil) .nil)) (.node (gb 50 1) (.node (gb 101 2) (.node (gb 203 4) .nil .nil) (.node (o1698 P) .nil .nil)) (.node (gb 152 3) (.node (gb 255 0) .nil .nil) .nil))) (.node (gb 11 4) (.node (gb 37 2) (.node (gb 88 3) (.node (gb 191 0) .nil .nil) (.node (o1634 P) .nil .nil)) (.node (gb 139 4) (.node (gb 242 1) .nil .nil) .nil)) (.node (gb 63 0) (.node (gb 114 1) (.node (gb 216 3) .nil .nil) (.node (o1762 P) .nil .nil)) (.node (gb 165 2) (.node (o1506 P) .nil .nil) .nil))))) (.node (o50 P) (.node (o82 P) (.node (o146 P) (.node (gb 21 2) (.node (gb 72 3) (.node (gb 175 0) .nil .nil) (.node (o1554 P) .nil .nil)) (.node (gb 123 4) (.node (gb 226 1) .nil .nil) .nil)) (.node (gb 47 0) (.node (gb 98 1) (.node (gb 200 3) .nil .nil) (.node (o1682 P) .nil .nil)) (.node (gb 149 2) (.node (gb 251 4) .nil .nil) .nil))) (.node (gb 8 3) (.node (gb 34 1) (.node (gb 85 2) (.node (gb 187 4) .nil .nil) (.node (o1618 P) .nil .nil)) (.node (gb 136 3) (.node (gb 239 0) .nil .nil) .nil)) (.node (gb 59 4) (.node (gb 111 0) (.node (gb 213 2) .nil .nil) (.node (o1746 P) .nil .nil)) (.node (gb 162 1) (.node (o1490 P) .nil .nil) .nil)))) (.node (o114 P) (.node (gb 2 1) (.node (gb 27 4) (.node (gb 79 0) (.node (gb 181 2) .nil .nil) (.node (o1586 P) .nil .nil)) (.node (gb 130 1) (.node (gb 232 3) .nil .nil) .nil)) (.node (gb 53 2) (.node (gb 104 3) (.node (gb 207 0) .nil .nil) (.node (o1714 P) .nil .nil)) (.node (gb 155 4) (.node (o1458 P) .nil .nil) .nil))) (.node (gb 15 0) (.node (gb 40 3) (.node (gb 91 4) (.node (gb 194 1) .nil .nil) (.node (o1650 P) .nil .nil)) (.node (gb 143 0) (.node (gb 245 2) .nil .nil) .nil)) (.node (gb 66 1) (.node (gb 117 2) (.node (gb 219 4) .nil .nil) .nil) (.node (gb 168 3) (.node (o1522 P) .nil .nil) .nil))))))
noncomputable def sub266 (P : Params) : BT := (.node (gb 19 4) (.node (gb 71 0) (.node (gb 173 2) .nil .nil) (.node (o1546 P) .nil .nil)) (.node (gb 122 1) (.node (gb 224 3) .nil .nil) .nil))
noncomputable def sub394 (P : Params) : BT := (.node (gb 45 2) (.node (gb 96 3) (.node (gb 199 0) .nil .nil) (.node (o1674 P) .nil .nil)) (.node (gb 147 4) (.node (gb 250 1) .nil .nil) .nil))
noncomputable def sub202 (P : Params) : BT := (.node (gb 7 0) (.node (gb 32 3) (.node (gb 83 4) (.node (gb 186 1) .nil .nil) (.node (o1610 P) .nil .nil)) (.node (gb 135 0) (.node (gb 237 2) .nil .nil) .nil)) (.node (gb 58 1) (.node (gb 109 2) (.node (gb 211 4) .nil .nil) (.node (o1738 P) .nil .nil)) (.node (gb 160 3) (.node (o1482 P) .nil .nil) .nil)))
noncomputable def sub106 (P : Params) : BT := (.node (o106 P) (.node (gb 0 3) (.node (gb 26 1) (.node (gb 77 2) (.node (gb 179 4) .nil .nil) (.node (o1578 P) .nil .nil)) (.node (gb 128 3) (.node (gb 231 0) .nil .nil) .nil)) (.node (gb 51 4) (.node (gb 103 0) (.node (gb 205 2) .nil .nil) (.node (o1706 P) .nil .nil)) (.node (gb 154 1) (.node (o1450 P) .nil .nil) .nil))) (.node (gb 13 2) (.node (gb 39 0) (.node (gb 90 1) (.node (gb 192 3) .nil .nil) (.node (o1642 P) .nil .nil)) (.node (gb 141 2) (.node (gb 243 4) .nil .nil) .nil)) (.node (gb 64 3) (.node (gb 115 4) (.node (gb 218 1) .nil .nil) (.node (o1770 P) .nil .nil)) (.node (gb 167 0) (.node (o1514 P) .nil .nil) .nil))))
noncomputable def sub58 (P : Params) : BT := (.node (o58 P) (.node (o90 P) (.node (o154 P) (.node (gb 23 0) (.node (gb 74 1) (.node (gb 176 3) .nil .nil) (.node (o1562 P) .nil .nil)) (.node (gb 125 2) (.node (gb 227 4) .nil .nil) .nil)) (.node (gb 48 3) (.node (gb 99 4) (.node (gb 202 1) .nil .nil) (.node (o1690 P) .nil .nil)) (.node (gb 151 0) (.node (gb 253 2) .nil .nil) .nil))) (.node (gb 10 1) (.node (gb 35 4) (.node (gb 87 0) (.node (gb 189 2) .nil .nil) (.node (o1626 P) .nil .nil)) (.node (gb 138 1) (.node (gb 240 3) .nil .nil) .nil)) (.node (gb 61 2) (.node (gb 112 3) (.node (gb 215 0) .nil .nil) (.node (o1754 P) .nil .nil)) (.node (gb 163 4) (.node (o1498 P) .nil .nil) .nil)))) (.node (o122 P) (.node (gb 3 4) (.node (gb 29 2) (.node (gb 80 3) (.node (gb 183 0) .nil .nil) (.node (o1594 P) .nil .nil)) (.node (gb 131 4) (.node (gb 234 1) .nil .nil) .nil)) (.node (gb 55 0) (.node (gb 106 1) (.node (gb 208 3) .nil .nil) (.node (o1722 P) .nil .nil)) (.node (gb 157 2) (.node (o1466 P) .nil .nil) .nil))) (.node (gb 16 3) (.node (gb 42 1) (.node (gb 93 2) (.node (gb 195 4) .nil .nil) (.node (o1658 P) .nil .nil)) (.node (gb 144 3) (.node (gb 247 0) .nil .nil) .nil)) (.node (gb 67 4) (.node (gb 119 0) (.node (gb 221 2) .nil .nil) .nil) (.node (gb 170 1) (.node (o1530 P) .nil .nil) .nil)))))
noncomputable def sub70 (P : Params) : BT := (.node (o70 P) (.node (o134 P) (.node (gb 19 0) (.node (gb 70 1) (.node (gb 172 3) .nil .nil) (.node (o1542 P) .nil .nil)) (.node (gb 121 2) (.node (gb 223 4) .nil .nil) .nil)) (.node (gb 44 3) (.node (gb 95 4) (.node (gb 198 1) .nil .nil) (.node (o1670 P) .nil .nil)) (.node (gb 147 0) (.node (gb 249 2) .nil .nil) .nil))) (.node (gb 6 1) (.node (gb 31 4) (.node (gb 83 0) (.node (gb 185 2) .nil .nil) (.node (o1606 P) .nil .nil)) (.node (gb 134 1) (.node (gb 236 3) .nil .nil) .nil)) (.node (gb 57 2) (.node (gb 108 3) (.node (gb 211 0) .nil .nil) (.node (o1734 P) .nil .nil)) (.node (gb 159 4) (.node (o1478 P) .nil .nil) .nil))))
noncomputable def sub294 (P : Params) : BT := (.node (gb 25 2) (.node (gb 76 3) (.node (gb 179 0) .nil .nil) (.node (o1574 P) .nil .nil)) (.node (gb 127 4) (.node (gb 230 1) .nil .nil) .nil))
noncomputable def sub422 (P : Params) : BT := (.node (gb 51 0) (.node (gb 102 1) (.node (gb 204 3) .nil .nil) (.node (o1702 P) .nil .nil)) (.node (gb 153 2) (.node (gb 255 4) .nil .nil) .nil))
noncomputable def sub230 (P : Params) : BT := (.node (gb 12 3) (.node (gb 38 1) (.node (gb 89 2) (.node (gb 191 4) .nil .nil) (.node (o1638 P) .nil .nil)) (.node (gb 140 3) (.node (gb 243 0) .nil .nil) .nil)) (.node (gb 63 4) (.node (gb 115 0) (.node (gb 217 2) .nil .nil) (.node (o1766 P) .nil .nil)) (.node (gb 166 1) (.node (o1510 P) .nil .nil) .nil)))
noncomputable def sub54 (P : Params) : BT := (.node (o54 P) (.node (o86 P) (.node (o150 P) (.node (gb 22 1) (.node (gb 73 2) (.node (gb 175 4) .nil .nil) (.node (o1558 P) .nil .nil)) (.node (gb 124 3) (.node (gb 227 0) .nil .nil) .nil)) (.node (gb 47 4) (.node (gb 99 0) (.node (gb 201 2) .nil .nil) (.node (o1686 P) .nil .nil)) (.node (gb 150 1) (.node (gb 252 3) .nil .nil) .nil))) (.node (gb 9 2) (.node (gb 35 0) (.node (gb 86 1) (.node (gb 188 3) .nil .nil) (.node (o1622 P) .nil .nil)) (.node (gb 137 2) (.node (gb 239 4) .nil .nil) .nil)) (.node (gb 60 3) (.node (gb 111 4) (.node (gb 214 1) .nil .nil) (.node (o1750 P) .nil .nil)) (.node (gb 163 0) (.node (o1494 P) .nil .nil) .nil)))) (.node (o118 P) (.node (gb 3 0) (.node (gb 28 3) (.node (gb 79 4) (.node (gb 182 1) .nil .nil) (.node (o1590 P) .nil .nil)) (.node (gb 131 0) (.node (gb 233 2) .nil .nil) .nil)) (.node (gb 54 1) (.node (gb 105 2) (.node (gb 207 4) .nil .nil) (.node (o1718 P) .nil .nil)) (.node (gb 156 3) (.node (o1462 P) .nil .nil) .nil))) (.node (gb 15 4) (.node (gb 41 2) (.node (gb 92 3) (.node (gb 195 0) .nil .nil) (.node (o1654 P) .nil .nil)) (.node (gb 143 4) (.node (gb 246 1) .nil .nil) .nil)) (.node (gb 67 0) (.node (gb 118 1) (.node (gb 220 3) .nil .nil) .nil) (.node (gb 169 2) (.node (o1526 P) .nil .nil) .nil)))))
noncomputable def sub30 (P : Params) : BT := (.node (o30 P) (.node (o46 P) (.node (o78 P) (.node (o142 P) (.node (gb 20 3) (.node (gb 71 4) (.node (gb 174 1) .nil .nil) (.node (o1550 P) .nil .nil)) (.node (gb 123 0) (.node (gb 225 2) .nil .nil) .nil)) (.node (gb 46 1) (.node (gb 97 2) (.node (gb 199 4) .nil .nil) (.node (o1678 P) .nil .nil)) (.node (gb 148 3) (.node (gb 251 0) .nil .nil) .nil))) (.node (gb 7 4) (.node (gb 33 2) (.node (gb 84 3) (.node (gb 187 0) .nil .nil) (.node (o1614 P) .nil .nil)) (.node (gb 135 4) (.node (gb 238 1) .nil .nil) .nil)) (.node (gb 59 0) (.node (gb 110 1) (.node (gb 212 3) .nil .nil) (.node (o1742 P) .nil .nil)) (.node (gb 161 2) (.node (o1486 P) .nil .nil) .nil)))) (.node (o110 P) (.node (gb 1 2) (.node (gb 27 0) (.node (gb 78 1) (.node (gb 180 3) .nil .nil) (.node (o1582 P) .nil .nil)) (.node (gb 129 2) (.node (gb 231 4) .nil .nil) .nil)) (.node (gb 52 3) (.node (gb 103 4) (.node (gb 206 1) .nil .nil) (.node (o1710 P) .nil .nil)) (.node (gb 155 0) (.node (o1454 P) .nil .nil) .nil))) (.node (gb 14 1) (.node (gb 39 4) (.node (gb 91 0) (.node (gb 193 2) .nil .nil) (.node (o1646 P) .nil .nil)) (.node (gb 142 1) (.node (gb 244 3) .nil .nil) .nil)) (.node (gb 65 2) (.node (gb 116 3) (.node (gb 219 0) .nil .nil) (.node (o1774 P) .nil .nil)) (.node (gb 167 4) (.node (o1518 P) .nil .nil) .nil))))) (.node (o62 P) (.node (o94 P) (.node (o158 P) (.node (gb 23 4) (.node (gb 75 0) (.node (gb 177 2) .nil .nil) (.node (o1566 P) .nil .nil)) (.node (gb 126 1) (.node (gb 228 3) .nil .nil) .nil)) (.node (gb 49 2) (.node (gb 100 3) (.node (gb 203 0) .nil .nil) (.node (o1694 P) .nil .nil)) (.node (gb 151 4) (.node (gb 254 1) .nil .nil) .nil))) (.node (gb 11 0) (.node (gb 36 3) (.node (gb 87 4) (.node (gb 190 1) .nil .nil) (.node (o1630 P) .nil .nil)) (.node (gb 139 0) (.node (gb 241 2) .nil .nil) .nil)) (.node (gb 62 1) (.node (gb 113 2) (.node (gb 215 4) .nil .nil) (.node (o1758 P) .nil .nil)) (.node (gb 164 3) (.node (o1502 P) .nil .nil) .nil)))) (.node (o126 P) (.node (gb 4 3) (.node (gb 30 1) (.node (gb 81 2) (.node (gb 183 4) .nil .nil) (.node (o1598 P) .nil .nil)) (.node (gb 132 3) (.node (gb 235 0) .nil .nil) .nil)) (.node (gb 55 4) (.node (gb 107 0) (.node (gb 209 2) .nil .nil) (.node (o1726 P) .nil .nil)) (.node (gb 158 1) (.node (o1470 P) .nil .nil) .nil))) (.node (gb 17 2) (.node (gb 43 0) (.node (gb 94 1) (.node (gb 196 3) .nil .nil) (.node (o1662 P) .nil .nil)) (.node (gb 145 2) (.node (gb 247 4) .nil .nil) .nil)) (.node (gb 68 3) (.node (gb 119 4) (.node (gb 222 1) .nil .nil) .nil) (.node (gb 171 0) (.node (o1534 P) .nil .nil) .nil))))))
noncomputable def tr (P : Params) (a2 a3 a12 a31 a95 a138 a164 a165 a166 : Obj) : BT := (.node (o0 P) (.node (o1 P) (.node a3 (.node (o7 P) (.node (o15 P) (.node a31 (sub63 P) (.node a95 (sub159 P) (sub223 P))) (sub47 P)) (sub23 P)) (sub11 P)) (.node (o5 P) (sub9 P) (.node (o13 P) (.node (o21 P) (.node (o37 P) (sub69 P) (.node (o101 P) (.node a165 (sub293 P) (sub421 P)) (sub229 P))) (sub53 P)) (sub29 P)))) (.node a2 (.node (o4 P) (sub8 P) (.node a12 (.node (o20 P) (.node (o36 P) (sub68 P) (.node (o100 P) (.node a164 (sub292 P) (sub420 P)) (sub228 P))) (sub52 P)) (sub28 P))) (.node (o6 P) (.node (o10 P) (sub18 P) (.node (o26 P) (.node (o42 P) (.node (o74 P) (.node a138 (sub266 P) (sub394 P)) (sub202 P)) (sub106 P)) (sub58 P))) (.node (o14 P) (.node (o22 P) (.node (o38 P) (sub70 P) (.node (o102 P) (.node a166 (sub294 P) (sub422 P)) (sub230 P))) (sub54 P)) (sub30 P)))))
noncomputable def glb (P : Params) : List DictEntry := [de P z2 166 .none, de P z3 167 .none, de P z4 168 (.builtin "__main__.__loader__#opaque"), de P z5 169 .none, de P z220 170 (.ref 6), de P z292 171 (.ref 4), de P z293 173 (.str z162 172), de P z294 174 .none, de P z164 193 (.ref 21), de P z168 215 (.ref 31), de P z172 243 (.ref 53), de P z180 271 (.ref 74), de P z183 299 (.ref 95), de P z185 330 (.ref 117), de P z189 358 (.ref 138), de P z192 389 (.ref 160), de P z295 1163 (.ref 1450), de P z195 1170 (.ref 1457), de P z197 1177 (.ref 1464), de P z198 1184 (.ref 1471), de P z200 1232 (.ref 1503), de P z296 1237 (.ref 1509), de P z210 1337 (.ref 1570), de P z297 1349 (.ref 1576), de P z226 1387 (.ref 1601), de P z298 1388 (.ref 1607), de P z229 1397 (.ref 1614), de P z231 1404 (.ref 1621), de P z232 1469 (.ref 1660), de P z246 1524 (.ref 1696), de P z256 1537 (.ref 1707), de P z262 1550 (.ref 1714), de P z265 1562 (.ref 1722), de P z299 1566 (.int 18446744073709551616 1565), de P z268 1575 (.ref 1729), de P z300 1579 (.int 184 1578), de P z274 1591 (.ref 1736), de P z282 1613 (.ref 1743), de P z283 1625 (.ref 1750), de P z285 1637 (.ref 1758), de P z286 1643 (.ref 1763), de P z289 1654 (.ref 1770), de P z291 1660 (.ref 1775)]
noncomputable def o3 (P : Params) (nm : Value) (m ep : Nat) : Obj := ⟨.type "dict", none, .dict ⟨de P z0 165 nm :: (glb P).take m⟩ ep, ⟨[]⟩⟩
noncomputable def kst : List Value := [(.int 1 0), (.int 0 0), (.ref 20), (.int 5 0), (.int 0 0), (.ref 27), (.int 7 0), (.int 0 0), (.ref 41), (.int 12 0), (.int 0 0), (.ref 62), (.int 17 0), (.int 0 0), (.ref 83), (.int 22 0), (.int 0 0), (.ref 104), (.int 32 0), (.int 0 0), (.ref 126), (.int 37 0), (.int 0 0), (.ref 147), (.int 49 0), (.int 0 0), (.ref 1456), (.int 51 0), (.int 0 0), (.ref 1463), (.int 53 0), (.int 0 0), (.ref 1470), (.int 56 0), (.int 0 0), (.ref 1477), (.int 86 0), (.int 0 0), (.ref 1516), (.int 120 0), (.int 0 0), (.ref 1583), (.int 141 0), (.int 0 0), (.ref 1613), (.int 143 0), (.int 0 0), (.ref 1620), (.int 145 0), (.int 0 0), (.ref 1627), (.int 187 0), (.int 0 0), (.ref 1670), (.int 219 0), (.int 0 0), (.ref 1706), (.int 236 0), (.int 0 0), (.ref 1713), (.int 245 0), (.int 0 0), (.ref 1721), (.int 255 0), (.int 0 0), (.ref 1728), (.int 264 0), (.int 0 0), (.ref 1735), (.int 292 0), (.int 0 0), (.ref 1742), (.int 314 0), (.int 0 0), (.ref 1749), (.int 317 0), (.int 0 0), (.ref 1757), (.int 325 0), (.int 0 0), (.ref 1762), (.int 337 0), (.int 0 0), (.ref 1769), (.int 339 0), (.int 0 0), (.ref 1774)]
noncomputable def o12 (m : Nat) : Obj := ⟨.none, none, .fields ⟨kst.take m⟩, ⟨[]⟩⟩
noncomputable def o2_0 (P : Params) : Obj := ⟨.none, none, (.dict ⟨[]⟩ 0), ⟨[]⟩⟩
noncomputable def o31_0 (P : Params) : Obj := ⟨(.type "type"), none, (.cls ⟨z168, [(.type "Exception")], [(.ref 31), (.type "Exception"), (.type "BaseException"), (.type "object")], 30, z168, true, [], [(.ref 53), (.ref 74), (.ref 95), (.ref 138)], false, none, false⟩), ⟨[some (.ref 22), none, some (.str z168 196), some (.str z168 204), some (.builtin "Exception.__new__"), some (.bool true)]⟩⟩
noncomputable def o95_0 (P : Params) : Obj := ⟨(.type "type"), none, (.cls ⟨z183, [(.ref 31)], [(.ref 95), (.ref 31), (.type "Exception"), (.type "BaseException"), (.type "object")], 94, z183, true, [], [(.ref 117)], false, none, false⟩), ⟨[some (.ref 77), none, some (.str z183 272), some (.str z183 280), some (.builtin "Exception.__new__"), some (.bool true)]⟩⟩
noncomputable def o138_0 (P : Params) : Obj := ⟨(.type "type"), none, (.cls ⟨z189, [(.ref 31)], [(.ref 138), (.ref 31), (.type "Exception"), (.type "BaseException"), (.type "object")], 137, z189, true, [], [(.ref 160)], false, none, false⟩), ⟨[some (.ref 120), none, some (.str z189 331), some (.str z189 339), some (.builtin "Exception.__new__"), some (.bool true)]⟩⟩
noncomputable def o164_0 (P : Params) : Obj := ⟨(.type "range_iterator"), none, (.fields ⟨[(.int 256 0), (.int 0 0), (.int 1 0)]⟩), ⟨[]⟩⟩
noncomputable def o165_0 (P : Params) : Obj := ⟨(.type "list"), none, (.seq ⟨[(.bytes ⟨[0]⟩ 397), (.bytes ⟨[1]⟩ 400), (.bytes ⟨[2]⟩ 403), (.bytes ⟨[3]⟩ 406), (.bytes ⟨[4]⟩ 409), (.bytes ⟨[5]⟩ 412), (.bytes ⟨[6]⟩ 415), (.bytes ⟨[7]⟩ 418), (.bytes ⟨[8]⟩ 421), (.bytes ⟨[9]⟩ 424), (.bytes ⟨[10]⟩ 427), (.bytes ⟨[11]⟩ 430), (.bytes ⟨[12]⟩ 433), (.bytes ⟨[13]⟩ 436), (.bytes ⟨[14]⟩ 439), (.bytes ⟨[15]⟩ 442), (.bytes ⟨[16]⟩ 445), (.bytes ⟨[17]⟩ 448), (.bytes ⟨[18]⟩ 451), (.bytes ⟨[19]⟩ 454), (.bytes ⟨[20]⟩ 457), (.bytes ⟨[21]⟩ 460), (.bytes ⟨[22]⟩ 463), (.bytes ⟨[23]⟩ 466), (.bytes ⟨[24]⟩ 469), (.bytes ⟨[25]⟩ 472), (.bytes ⟨[26]⟩ 475), (.bytes ⟨[27]⟩ 478), (.bytes ⟨[28]⟩ 481), (.bytes ⟨[29]⟩ 484), (.bytes ⟨[30]⟩ 487), (.bytes ⟨[31]⟩ 490), (.bytes ⟨[32]⟩ 493), (.bytes ⟨[33]⟩ 496), (.bytes ⟨[34]⟩ 499), (.bytes ⟨[35]⟩ 502), (.bytes ⟨[36]⟩ 505), (.bytes ⟨[37]⟩ 508), (.bytes ⟨[38]⟩ 511), (.bytes ⟨[39]⟩ 514), (.bytes ⟨[40]⟩ 517), (.bytes ⟨[41]⟩ 520), (.bytes ⟨[42]⟩ 523), (.bytes ⟨[43]⟩ 526), (.bytes ⟨[44]⟩ 529), (.bytes ⟨[45]⟩ 532), (.bytes ⟨[46]⟩ 535), (.bytes ⟨[47]⟩ 538), (.bytes ⟨[48]⟩ 541), (.bytes ⟨[49]⟩ 544), (.bytes ⟨[50]⟩ 547), (.bytes ⟨[51]⟩ 550), (.bytes ⟨[52]⟩ 553), (.bytes ⟨[53]⟩ 556), (.bytes ⟨[54]⟩ 559), (.bytes ⟨[55]⟩ 562), (.bytes ⟨[56]⟩ 565), (.bytes ⟨[57]⟩ 568), (.bytes ⟨[58]⟩ 571), (.bytes ⟨[59]⟩ 574), (.bytes ⟨[60]⟩ 577), (.bytes ⟨[61]⟩ 580), (.bytes ⟨[62]⟩ 583), (.bytes ⟨[63]⟩ 586), (.bytes ⟨[64]⟩ 589), (.bytes ⟨[65]⟩ 592), (.bytes ⟨[66]⟩ 595), (.bytes ⟨[67]⟩ 598), (.bytes ⟨[68]⟩ 601), (.bytes ⟨[69]⟩ 604), (.bytes ⟨[70]⟩ 607), (.bytes ⟨[71]⟩ 610), (.bytes ⟨[72]⟩ 613), (.bytes ⟨[73]⟩ 616), (.bytes ⟨[74]⟩ 619), (.bytes ⟨[75]⟩ 622), (.bytes ⟨[76]⟩ 625), (.bytes ⟨[77]⟩ 628), (.bytes ⟨[78]⟩ 631), (.bytes ⟨[79]⟩ 634), (.bytes ⟨[80]⟩ 637), (.bytes ⟨[81]⟩ 640), (.bytes ⟨[82]⟩ 643), (.bytes ⟨[83]⟩ 646), (.bytes ⟨[84]⟩ 649), (.bytes ⟨[85]⟩ 652), (.bytes ⟨[86]⟩ 655), (.bytes ⟨[87]⟩ 658), (.bytes ⟨[88]⟩ 661), (.bytes ⟨[89]⟩ 664), (.bytes ⟨[90]⟩ 667), (.bytes ⟨[91]⟩ 670), (.bytes ⟨[92]⟩ 673), (.bytes ⟨[93]⟩ 676), (.bytes ⟨[94]⟩ 679), (.bytes ⟨[95]⟩ 682), (.bytes ⟨[96]⟩ 685), (.bytes ⟨[97]⟩ 688), (.bytes ⟨[98]⟩ 691), (.bytes ⟨[99]⟩ 694), (.bytes ⟨[100]⟩ 697), (.bytes ⟨[101]⟩ 700), (.bytes ⟨[102]⟩ 703), (.bytes ⟨[103]⟩ 706), (.bytes ⟨[104]⟩ 709), (.bytes ⟨[105]⟩ 712), (.bytes ⟨[106]⟩ 715), (.bytes ⟨[107]⟩ 718), (.bytes ⟨[108]⟩ 721), (.bytes ⟨[109]⟩ 724), (.bytes ⟨[110]⟩ 727), (.bytes ⟨[111]⟩ 730), (.bytes ⟨[112]⟩ 733), (.bytes ⟨[113]⟩ 736), (.bytes ⟨[114]⟩ 739), (.bytes ⟨[115]⟩ 742), (.bytes ⟨[116]⟩ 745), (.bytes ⟨[117]⟩ 748), (.bytes ⟨[118]⟩ 751), (.bytes ⟨[119]⟩ 754), (.bytes ⟨[120]⟩ 757), (.bytes ⟨[121]⟩ 760), (.bytes ⟨[122]⟩ 763), (.bytes ⟨[123]⟩ 766), (.bytes ⟨[124]⟩ 769), (.bytes ⟨[125]⟩ 772), (.bytes ⟨[126]⟩ 775), (.bytes ⟨[127]⟩ 778), (.bytes ⟨[128]⟩ 781), (.bytes ⟨[129]⟩ 784), (.bytes ⟨[130]⟩ 787), (.bytes ⟨[131]⟩ 790), (.bytes ⟨[132]⟩ 793), (.bytes ⟨[133]⟩ 796), (.bytes ⟨[134]⟩ 799), (.bytes ⟨[135]⟩ 802), (.bytes ⟨[136]⟩ 805), (.bytes ⟨[137]⟩ 808), (.bytes ⟨[138]⟩ 811), (.bytes ⟨[139]⟩ 814), (.bytes ⟨[140]⟩ 817), (.bytes ⟨[141]⟩ 820), (.bytes ⟨[142]⟩ 823), (.bytes ⟨[143]⟩ 826), (.bytes ⟨[144]⟩ 829), (.bytes ⟨[145]⟩ 832), (.bytes ⟨[146]⟩ 835), (.bytes ⟨[147]⟩ 838), (.bytes ⟨[148]⟩ 841), (.bytes ⟨[149]⟩ 844), (.bytes ⟨[150]⟩ 847), (.bytes ⟨[151]⟩ 850), (.bytes ⟨[152]⟩ 853), (.bytes ⟨[153]⟩ 856), (.bytes ⟨[154]⟩ 859), (.bytes ⟨[155]⟩ 862), (.bytes ⟨[156]⟩ 865), (.bytes ⟨[157]⟩ 868), (.bytes ⟨[158]⟩ 871), (.bytes ⟨[159]⟩ 874), (.bytes ⟨[160]⟩ 877), (.bytes ⟨[161]⟩ 880), (.bytes ⟨[162]⟩ 883), (.bytes ⟨[163]⟩ 886), (.bytes ⟨[164]⟩ 889), (.bytes ⟨[165]⟩ 892), (.bytes ⟨[166]⟩ 895), (.bytes ⟨[167]⟩ 898), (.bytes ⟨[168]⟩ 901), (.bytes ⟨[169]⟩ 904), (.bytes ⟨[170]⟩ 907), (.bytes ⟨[171]⟩ 910), (.bytes ⟨[172]⟩ 913), (.bytes ⟨[173]⟩ 916), (.bytes ⟨[174]⟩ 919), (.bytes ⟨[175]⟩ 922), (.bytes ⟨[176]⟩ 925), (.bytes ⟨[177]⟩ 928), (.bytes ⟨[178]⟩ 931), (.bytes ⟨[179]⟩ 934), (.bytes ⟨[180]⟩ 937), (.bytes ⟨[181]⟩ 940), (.bytes ⟨[182]⟩ 943), (.bytes ⟨[183]⟩ 946), (.bytes ⟨[184]⟩ 949), (.bytes ⟨[185]⟩ 952), (.bytes ⟨[186]⟩ 955), (.bytes ⟨[187]⟩ 958), (.bytes ⟨[188]⟩ 961), (.bytes ⟨[189]⟩ 964), (.bytes ⟨[190]⟩ 967), (.bytes ⟨[191]⟩ 970), (.bytes ⟨[192]⟩ 973), (.bytes ⟨[193]⟩ 976), (.bytes ⟨[194]⟩ 979), (.bytes ⟨[195]⟩ 982), (.bytes ⟨[196]⟩ 985), (.bytes ⟨[197]⟩ 988), (.bytes ⟨[198]⟩ 991), (.bytes ⟨[199]⟩ 994), (.bytes ⟨[200]⟩ 997), (.bytes ⟨[201]⟩ 1000), (.bytes ⟨[202]⟩ 1003), (.bytes ⟨[203]⟩ 1006), (.bytes ⟨[204]⟩ 1009), (.bytes ⟨[205]⟩ 1012), (.bytes ⟨[206]⟩ 1015), (.bytes ⟨[207]⟩ 1018), (.bytes ⟨[208]⟩ 1021), (.bytes ⟨[209]⟩ 1024), (.bytes ⟨[210]⟩ 1027), (.bytes ⟨[211]⟩ 1030), (.bytes ⟨[212]⟩ 1033), (.bytes ⟨[213]⟩ 1036), (.bytes ⟨[214]⟩ 1039), (.bytes ⟨[215]⟩ 1042), (.bytes ⟨[216]⟩ 1045), (.bytes ⟨[217]⟩ 1048), (.bytes ⟨[218]⟩ 1051), (.bytes ⟨[219]⟩ 1054), (.bytes ⟨[220]⟩ 1057), (.bytes ⟨[221]⟩ 1060), (.bytes ⟨[222]⟩ 1063), (.bytes ⟨[223]⟩ 1066), (.bytes ⟨[224]⟩ 1069), (.bytes ⟨[225]⟩ 1072), (.bytes ⟨[226]⟩ 1075), (.bytes ⟨[227]⟩ 1078), (.bytes ⟨[228]⟩ 1081), (.bytes ⟨[229]⟩ 1084), (.bytes ⟨[230]⟩ 1087), (.bytes ⟨[231]⟩ 1090), (.bytes ⟨[232]⟩ 1093), (.bytes ⟨[233]⟩ 1096), (.bytes ⟨[234]⟩ 1099), (.bytes ⟨[235]⟩ 1102), (.bytes ⟨[236]⟩ 1105), (.bytes ⟨[237]⟩ 1108), (.bytes ⟨[238]⟩ 1111), (.bytes ⟨[239]⟩ 1114), (.bytes ⟨[240]⟩ 1117), (.bytes ⟨[241]⟩ 1120), (.bytes ⟨[242]⟩ 1123), (.bytes ⟨[243]⟩ 1126), (.bytes ⟨[244]⟩ 1129), (.bytes ⟨[245]⟩ 1132), (.bytes ⟨[246]⟩ 1135), (.bytes ⟨[247]⟩ 1138), (.bytes ⟨[248]⟩ 1141), (.bytes ⟨[249]⟩ 1144), (.bytes ⟨[250]⟩ 1147), (.bytes ⟨[251]⟩ 1150), (.bytes ⟨[252]⟩ 1153), (.bytes ⟨[253]⟩ 1156), (.bytes ⟨[254]⟩ 1159), (.bytes ⟨[255]⟩ 1162)]⟩ 256), ⟨[]⟩⟩
noncomputable def o166_0 (P : Params) : Obj := ⟨(.type "dict"), none, (.dict ⟨[]⟩ 2), ⟨[]⟩⟩
noncomputable def T0 (P : Params) : BT := tr P (o2_0 P) (o3 P (.str z160 164) 8 9) (o12 0) (o31_0 P) (o95_0 P) (o138_0 P) (o164_0 P) (o165_0 P) (o166_0 P)
noncomputable def S0 (w : World) (os : OsState) : SharedT := ⟨T0 w.params, 15, boot_life, ⟨[]⟩, boot_drawn, 187, os⟩
noncomputable def T1 (P : Params) : BT := tr P (o2_0 P) (o3 P (.str z160 164) 9 10) (o12 3) (o31_0 P) (o95_0 P) (o138_0 P) (o164_0 P) (o165_0 P) (o166_0 P)
noncomputable def S1 (w : World) (os : OsState) : SharedT := ⟨T1 w.params, 22, boot_life, ⟨[]⟩, boot_drawn, 194, os⟩
noncomputable def T2 (P : Params) : BT := tr P (o2_0 P) (o3 P (.str z166 194) 9 10) (o12 3) (o31_0 P) (o95_0 P) (o138_0 P) (o164_0 P) (o165_0 P) (o166_0 P)
noncomputable def S2 (w : World) (os : OsState) : SharedT := ⟨T2 w.params, 22, boot_life, ⟨[]⟩, boot_drawn, 196, os⟩
noncomputable def o2_3 (P : Params) : Obj := ⟨.none, none, (.dict ⟨[de P z301 212 (.int 31 0), de P z302 213 (.int 1 0)]⟩ 2), ⟨[]⟩⟩
noncomputable def o31_3 (P : Params) : Obj := ⟨(.type "type"), none, (.cls ⟨z168, [(.type "Exception")], [(.ref 31), (.type "Exception"), (.type "BaseException"), (.type "object")], 30, z168, true, [], [], false, none, false⟩), ⟨[some (.ref 22), none, some (.str z168 196), some (.str z168 204), some (.builtin "Exception.__new__"), some (.bool true)]⟩⟩
noncomputable def T3 (P : Params) : BT := tr P (o2_3 P) (o3 P (.str z166 194) 10 11) (o12 6) (o31_3 P) (o95_0 P) (o138_0 P) (o164_0 P) (o165_0 P) (o166_0 P)
noncomputable def S3 (w : World) (os : OsState) : SharedT := ⟨T3 w.params, 35, boot_life, ⟨[]⟩, boot_drawn, 216, os⟩
noncomputable def o31_4 (P : Params) : Obj := ⟨(.type "type"), none, (.cls ⟨z168, [(.type "Exception")], [(.ref 31), (.type "Exception"), (.type "BaseException"), (.type "object")], 30, z168, true, [], [(.ref 53)], false, none, false⟩), ⟨[some (.ref 22), none, some (.str z168 196), some (.str z168 204), some (.builtin "Exception.__new__"), some (.bool true)]⟩⟩
noncomputable def T4 (P : Params) : BT := tr P (o2_3 P) (o3 P (.str z166 194) 11 12) (o12 9) (o31_4 P) (o95_0 P) (o138_0 P) (o164_0 P) (o165_0 P) (o166_0 P)
noncomputable def S4 (w : World) (os : OsState) : SharedT := ⟨T4 w.params, 56, boot_life, ⟨[]⟩, boot_drawn, 244, os⟩
noncomputable def o31_5 (P : Params) : Obj := ⟨(.type "type"), none, (.cls ⟨z168, [(.type "Exception")], [(.ref 31), (.type "Exception"), (.type "BaseException"), (.type "object")], 30, z168, true, [], [(.ref 53), (.ref 74)], false, none, false⟩), ⟨[some (.ref 22), none, some (.str z168 196), some (.str z168 204), some (.builtin "Exception.__new__"), some (.bool true)]⟩⟩
noncomputable def T5 (P : Params) : BT := tr P (o2_3 P) (o3 P (.str z166 194) 12 13) (o12 12) (o31_5 P) (o95_0 P) (o138_0 P) (o164_0 P) (o165_0 P) (o166_0 P)
noncomputable def S5 (w : World) (os : OsState) : SharedT := ⟨T5 w.params, 77, boot_life, ⟨[]⟩, boot_drawn, 272, os⟩
noncomputable def o31_6 (P : Params) : Obj := ⟨(.type "type"), none, (.cls ⟨z168, [(.type "Exception")], [(.ref 31), (.type "Exception"), (.type "BaseException"), (.type "object")], 30, z168, true, [], [(.ref 53), (.ref 74), (.ref 95)], false, none, false⟩), ⟨[some (.ref 22), none, some (.str z168 196), some (.str z168 204), some (.builtin "Exception.__new__"), some (.bool true)]⟩⟩
noncomputable def o95_6 (P : Params) : Obj := ⟨(.type "type"), none, (.cls ⟨z183, [(.ref 31)], [(.ref 95), (.ref 31), (.type "Exception"), (.type "BaseException"), (.type "object")], 94, z183, true, [], [], false, none, false⟩), ⟨[some (.ref 77), none, some (.str z183 272), some (.str z183 280), some (.builtin "Exception.__new__"), some (.bool true)]⟩⟩
noncomputable def T6 (P : Params) : BT := tr P (o2_3 P) (o3 P (.str z166 194) 13 14) (o12 15) (o31_6 P) (o95_6 P) (o138_0 P) (o164_0 P) (o165_0 P) (o166_0 P)
noncomputable def S6 (w : World) (os : OsState) : SharedT := ⟨T6 w.params, 98, boot_life, ⟨[]⟩, boot_drawn, 300, os⟩
noncomputable def T7 (P : Params) : BT := tr P (o2_3 P) (o3 P (.str z166 194) 14 15) (o12 18) (o31_6 P) (o95_0 P) (o138_0 P) (o164_0 P) (o165_0 P) (o166_0 P)
noncomputable def S7 (w : World) (os : OsState) : SharedT := ⟨T7 w.params, 120, boot_life, ⟨[]⟩, boot_drawn, 331, os⟩
noncomputable def o138_8 (P : Params) : Obj := ⟨(.type "type"), none, (.cls ⟨z189, [(.ref 31)], [(.ref 138), (.ref 31), (.type "Exception"), (.type "BaseException"), (.type "object")], 137, z189, true, [], [], false, none, false⟩), ⟨[some (.ref 120), none, some (.str z189 331), some (.str z189 339), some (.builtin "Exception.__new__"), some (.bool true)]⟩⟩
noncomputable def T8 (P : Params) : BT := tr P (o2_3 P) (o3 P (.str z166 194) 15 16) (o12 21) (o31_0 P) (o95_0 P) (o138_8 P) (o164_0 P) (o165_0 P) (o166_0 P)
noncomputable def S8 (w : World) (os : OsState) : SharedT := ⟨T8 w.params, 141, boot_life, ⟨[]⟩, boot_drawn, 359, os⟩
noncomputable def T9 (P : Params) : BT := tr P (o2_3 P) (o3 P (.str z166 194) 16 17) (o12 24) (o31_0 P) (o95_0 P) (o138_0 P) (o164_0 P) (o165_0 P) (o166_0 P)
noncomputable def S9 (w : World) (os : OsState) : SharedT := ⟨T9 w.params, 163, boot_life, ⟨[]⟩, boot_drawn, 390, os⟩
noncomputable def T10 (P : Params) : BT := tr P (o2_3 P) (o3 P (.str z196 390) 16 17) (o12 24) (o31_0 P) (o95_0 P) (o138_0 P) (o164_0 P) (o165_0 P) (o166_0 P)
noncomputable def S10 (w : World) (os : OsState) : SharedT := ⟨T10 w.params, 163, boot_life, ⟨[]⟩, boot_drawn, 392, os⟩
noncomputable def T11 (P : Params) : BT := tr P (o2_3 P) (o3 P (.str z196 390) 17 18) (o12 24) (o31_0 P) (o95_0 P) (o138_0 P) (o164_0 P) (o165_0 P) (o166_0 P)
noncomputable def S11 (w : World) (os : OsState) : SharedT := ⟨T11 w.params, 1451, boot_life, ⟨[]⟩, boot_drawn, 1164, os⟩
noncomputable def T12 (P : Params) : BT := tr P (o2_3 P) (o3 P (.str z196 390) 18 19) (o12 27) (o31_0 P) (o95_0 P) (o138_0 P) (o164_0 P) (o165_0 P) (o166_0 P)
noncomputable def S12 (w : World) (os : OsState) : SharedT := ⟨T12 w.params, 1458, boot_life, ⟨[]⟩, boot_drawn, 1171, os⟩
noncomputable def T13 (P : Params) : BT := tr P (o2_3 P) (o3 P (.str z196 390) 19 20) (o12 30) (o31_0 P) (o95_0 P) (o138_0 P) (o164_0 P) (o165_0 P) (o166_0 P)
noncomputable def S13 (w : World) (os : OsState) : SharedT := ⟨T13 w.params, 1465, boot_life, ⟨[]⟩, boot_drawn, 1178, os⟩
noncomputable def T14 (P : Params) : BT := tr P (o2_3 P) (o3 P (.str z196 390) 20 21) (o12 33) (o31_0 P) (o95_0 P) (o138_0 P) (o164_0 P) (o165_0 P) (o166_0 P)
noncomputable def S14 (w : World) (os : OsState) : SharedT := ⟨T14 w.params, 1472, boot_life, ⟨[]⟩, boot_drawn, 1185, os⟩
noncomputable def T15 (P : Params) : BT := tr P (o2_3 P) (o3 P (.str z199 1185) 20 21) (o12 33) (o31_0 P) (o95_0 P) (o138_0 P) (o164_0 P) (o165_0 P) (o166_0 P)
noncomputable def S15 (w : World) (os : OsState) : SharedT := ⟨T15 w.params, 1472, boot_life, ⟨[]⟩, boot_drawn, 1187, os⟩
noncomputable def T16 (P : Params) : BT := tr P (o2_3 P) (o3 P (.str z199 1185) 21 22) (o12 36) (o31_0 P) (o95_0 P) (o138_0 P) (o164_0 P) (o165_0 P) (o166_0 P)
noncomputable def S16 (w : World) (os : OsState) : SharedT := ⟨T16 w.params, 1508, boot_life, ⟨[]⟩, boot_drawn, 1233, os⟩
noncomputable def T17 (P : Params) : BT := tr P (o2_3 P) (o3 P (.str z199 1185) 22 23) (o12 36) (o31_0 P) (o95_0 P) (o138_0 P) (o164_0 P) (o165_0 P) (o166_0 P)
noncomputable def S17 (w : World) (os : OsState) : SharedT := ⟨T17 w.params, 1511, boot_life, ⟨[]⟩, boot_drawn, 1238, os⟩
noncomputable def T18 (P : Params) : BT := tr P (o2_3 P) (o3 P (.str z209 1238) 22 23) (o12 36) (o31_0 P) (o95_0 P) (o138_0 P) (o164_0 P) (o165_0 P) (o166_0 P)
noncomputable def S18 (w : World) (os : OsState) : SharedT := ⟨T18 w.params, 1511, boot_life, ⟨[]⟩, boot_drawn, 1240, os⟩
noncomputable def T19 (P : Params) : BT := tr P (o2_3 P) (o3 P (.str z209 1238) 23 24) (o12 39) (o31_0 P) (o95_0 P) (o138_0 P) (o164_0 P) (o165_0 P) (o166_0 P)
noncomputable def S19 (w : World) (os : OsState) : SharedT := ⟨T19 w.params, 1575, boot_life, ⟨[]⟩, boot_drawn, 1338, os⟩
noncomputable def T20 (P : Params) : BT := tr P (o2_3 P) (o3 P (.str z209 1238) 24 25) (o12 39) (o31_0 P) (o95_0 P) (o138_0 P) (o164_0 P) (o165_0 P) (o166_0 P)
noncomputable def S20 (w : World) (os : OsState) : SharedT := ⟨T20 w.params, 1578, boot_life, ⟨[]⟩, boot_drawn, 1350, os⟩
noncomputable def T21 (P : Params) : BT := tr P (o2_3 P) (o3 P (.str z225 1350) 24 25) (o12 39) (o31_0 P) (o95_0 P) (o138_0 P) (o164_0 P) (o165_0 P) (o166_0 P)
noncomputable def S21 (w : World) (os : OsState) : SharedT := ⟨T21 w.params, 1578, boot_life, ⟨[]⟩, boot_drawn, 1352, os⟩
noncomputable def T22 (P : Params) : BT := tr P (o2_3 P) (o3 P (.str z225 1350) 25 26) (o12 42) (o31_0 P) (o95_0 P) (o138_0 P) (o164_0 P) (o165_0 P) (o166_0 P)
noncomputable def S22 (w : World) (os : OsState) : SharedT := ⟨T22 w.params, 1606, boot_life, ⟨[]⟩, boot_drawn, 1388, os⟩
noncomputable def T23 (P : Params) : BT := tr P (o2_3 P) (o3 P (.str z225 1350) 26 27) (o12 42) (o31_0 P) (o95_0 P) (o138_0 P) (o164_0 P) (o165_0 P) (o166_0 P)
noncomputable def S23 (w : World) (os : OsState) : SharedT := ⟨T23 w.params, 1608, boot_life, ⟨[]⟩, boot_drawn, 1389, os⟩
noncomputable def T24 (P : Params) : BT := tr P (o2_3 P) (o3 P (.str z230 1389) 26 27) (o12 42) (o31_0 P) (o95_0 P) (o138_0 P) (o164_0 P) (o165_0 P) (o166_0 P)
noncomputable def S24 (w : World) (os : OsState) : SharedT := ⟨T24 w.params, 1608, boot_life, ⟨[]⟩, boot_drawn, 1391, os⟩
noncomputable def T25 (P : Params) : BT := tr P (o2_3 P) (o3 P (.str z230 1389) 27 28) (o12 45) (o31_0 P) (o95_0 P) (o138_0 P) (o164_0 P) (o165_0 P) (o166_0 P)
noncomputable def S25 (w : World) (os : OsState) : SharedT := ⟨T25 w.params, 1615, boot_life, ⟨[]⟩, boot_drawn, 1398, os⟩
noncomputable def T26 (P : Params) : BT := tr P (o2_3 P) (o3 P (.str z230 1389) 28 29) (o12 48) (o31_0 P) (o95_0 P) (o138_0 P) (o164_0 P) (o165_0 P) (o166_0 P)
noncomputable def S26 (w : World) (os : OsState) : SharedT := ⟨T26 w.params, 1622, boot_life, ⟨[]⟩, boot_drawn, 1405, os⟩
noncomputable def T27 (P : Params) : BT := tr P (o2_3 P) (o3 P (.str z230 1389) 29 30) (o12 51) (o31_0 P) (o95_0 P) (o138_0 P) (o164_0 P) (o165_0 P) (o166_0 P)
noncomputable def S27 (w : World) (os : OsState) : SharedT := ⟨T27 w.params, 1665, boot_life, ⟨[]⟩, boot_drawn, 1470, os⟩
noncomputable def T28 (P : Params) : BT := tr P (o2_3 P) (o3 P (.str z230 1389) 30 31) (o12 54) (o31_0 P) (o95_0 P) (o138_0 P) (o164_0 P) (o165_0 P) (o166_0 P)
noncomputable def S28 (w : World) (os : OsState) : SharedT := ⟨T28 w.params, 1701, boot_life, ⟨[]⟩, boot_drawn, 1525, os⟩
noncomputable def T29 (P : Params) : BT := tr P (o2_3 P) (o3 P (.str z257 1525) 30 31) (o12 54) (o31_0 P) (o95_0 P) (o138_0 P) (o164_0 P) (o165_0 P) (o166_0 P)
noncomputable def S29 (w : World) (os : OsState) : SharedT := ⟨T29 w.params, 1701, boot_life, ⟨[]⟩, boot_drawn, 1527, os⟩
noncomputable def T30 (P : Params) : BT := tr P (o2_3 P) (o3 P (.str z257 1525) 31 32) (o12 57) (o31_0 P) (o95_0 P) (o138_0 P) (o164_0 P) (o165_0 P) (o166_0 P)
noncomputable def S30 (w : World) (os : OsState) : SharedT := ⟨T30 w.params, 1708, boot_life, ⟨[]⟩, boot_drawn, 1538, os⟩
noncomputable def T31 (P : Params) : BT := tr P (o2_3 P) (o3 P (.str z257 1525) 32 33) (o12 60) (o31_0 P) (o95_0 P) (o138_0 P) (o164_0 P) (o165_0 P) (o166_0 P)
noncomputable def S31 (w : World) (os : OsState) : SharedT := ⟨T31 w.params, 1715, boot_life, ⟨[]⟩, boot_drawn, 1551, os⟩
noncomputable def T32 (P : Params) : BT := tr P (o2_3 P) (o3 P (.str z257 1525) 33 34) (o12 63) (o31_0 P) (o95_0 P) (o138_0 P) (o164_0 P) (o165_0 P) (o166_0 P)
noncomputable def S32 (w : World) (os : OsState) : SharedT := ⟨T32 w.params, 1723, boot_life, ⟨[]⟩, boot_drawn, 1563, os⟩
noncomputable def T33 (P : Params) : BT := tr P (o2_3 P) (o3 P (.str z257 1525) 34 35) (o12 63) (o31_0 P) (o95_0 P) (o138_0 P) (o164_0 P) (o165_0 P) (o166_0 P)
noncomputable def S33 (w : World) (os : OsState) : SharedT := ⟨T33 w.params, 1723, boot_life, ⟨[]⟩, boot_drawn, 1567, os⟩
noncomputable def T34 (P : Params) : BT := tr P (o2_3 P) (o3 P (.str z257 1525) 35 36) (o12 66) (o31_0 P) (o95_0 P) (o138_0 P) (o164_0 P) (o165_0 P) (o166_0 P)
noncomputable def S34 (w : World) (os : OsState) : SharedT := ⟨T34 w.params, 1730, boot_life, ⟨[]⟩, boot_drawn, 1576, os⟩
noncomputable def T35 (P : Params) : BT := tr P (o2_3 P) (o3 P (.str z257 1525) 36 37) (o12 66) (o31_0 P) (o95_0 P) (o138_0 P) (o164_0 P) (o165_0 P) (o166_0 P)
noncomputable def S35 (w : World) (os : OsState) : SharedT := ⟨T35 w.params, 1730, boot_life, ⟨[]⟩, boot_drawn, 1580, os⟩
noncomputable def T36 (P : Params) : BT := tr P (o2_3 P) (o3 P (.str z257 1525) 37 38) (o12 69) (o31_0 P) (o95_0 P) (o138_0 P) (o164_0 P) (o165_0 P) (o166_0 P)
noncomputable def S36 (w : World) (os : OsState) : SharedT := ⟨T36 w.params, 1737, boot_life, ⟨[]⟩, boot_drawn, 1592, os⟩
noncomputable def T37 (P : Params) : BT := tr P (o2_3 P) (o3 P (.str z257 1525) 38 39) (o12 72) (o31_0 P) (o95_0 P) (o138_0 P) (o164_0 P) (o165_0 P) (o166_0 P)
noncomputable def S37 (w : World) (os : OsState) : SharedT := ⟨T37 w.params, 1744, boot_life, ⟨[]⟩, boot_drawn, 1614, os⟩
noncomputable def T38 (P : Params) : BT := tr P (o2_3 P) (o3 P (.str z257 1525) 39 40) (o12 75) (o31_0 P) (o95_0 P) (o138_0 P) (o164_0 P) (o165_0 P) (o166_0 P)
noncomputable def S38 (w : World) (os : OsState) : SharedT := ⟨T38 w.params, 1751, boot_life, ⟨[]⟩, boot_drawn, 1626, os⟩
noncomputable def T39 (P : Params) : BT := tr P (o2_3 P) (o3 P (.str z257 1525) 40 41) (o12 78) (o31_0 P) (o95_0 P) (o138_0 P) (o164_0 P) (o165_0 P) (o166_0 P)
noncomputable def S39 (w : World) (os : OsState) : SharedT := ⟨T39 w.params, 1759, boot_life, ⟨[]⟩, boot_drawn, 1638, os⟩
noncomputable def T40 (P : Params) : BT := tr P (o2_3 P) (o3 P (.str z257 1525) 41 42) (o12 81) (o31_0 P) (o95_0 P) (o138_0 P) (o164_0 P) (o165_0 P) (o166_0 P)
noncomputable def S40 (w : World) (os : OsState) : SharedT := ⟨T40 w.params, 1764, boot_life, ⟨[]⟩, boot_drawn, 1644, os⟩
noncomputable def T41 (P : Params) : BT := tr P (o2_3 P) (o3 P (.str z290 1644) 41 42) (o12 81) (o31_0 P) (o95_0 P) (o138_0 P) (o164_0 P) (o165_0 P) (o166_0 P)
noncomputable def S41 (w : World) (os : OsState) : SharedT := ⟨T41 w.params, 1764, boot_life, ⟨[]⟩, boot_drawn, 1646, os⟩
noncomputable def T42 (P : Params) : BT := tr P (o2_3 P) (o3 P (.str z290 1644) 42 43) (o12 84) (o31_0 P) (o95_0 P) (o138_0 P) (o164_0 P) (o165_0 P) (o166_0 P)
noncomputable def S42 (w : World) (os : OsState) : SharedT := ⟨T42 w.params, 1771, boot_life, ⟨[]⟩, boot_drawn, 1655, os⟩
noncomputable def T43 (P : Params) : BT := tr P (o2_3 P) (o3 P (.str z290 1644) 43 44) (o12 87) (o31_0 P) (o95_0 P) (o138_0 P) (o164_0 P) (o165_0 P) (o166_0 P)
noncomputable def S43 (w : World) (os : OsState) : SharedT := ⟨T43 w.params, 1776, boot_life, ⟨[]⟩, boot_drawn, 1661, os⟩

noncomputable abbrev rT := @PySem.W.Fast.tw10110043849684766642
noncomputable abbrev tT := @PySem.W.Fast.tw14364793385576792824
theorem useT {w : World} {m : Nat} {ann : Option Value} {b n : Nat} {S : SharedT} {th : Thread} {X} (h : rT tT pw w m ann b n S th = X) : segRunT treeTable pw w m ann b n S th = X := by
  rw [PySem.W.Fast.te10110043849684766642, PySem.W.Fast.te14364793385576792824]; exact h
noncomputable def env0 : Env := { scope := pw.main.scope, locals := mainNs, globals := mainNs, cells := [], code := .ref 13, frame := some 14 }
abbrev cB : Code := .body (behindTheImports pw) env0
abbrev q0 : Pos := ⟨0, 0, 0, 0⟩
abbrev ann0 : Option Value := some (.ref 6)

noncomputable abbrev dT := @PySem.W.Fast.tw11892475500146522536
noncomputable abbrev gT := @PySem.W.Fast.tw10295753902157049106
noncomputable def accA : Nat → Array Value | 0 => ⟨[]⟩ | i + 1 => (accA i).push (.bytes ⟨[UInt8.ofNat i]⟩ (397 + 3 * i))
noncomputable def rit (i : Nat) : Obj := ⟨.type "range_iterator", none, .fields ⟨[.int (Int.ofNat i) 0, .int (Int.ofNat (256 - i)) 0, .int 1 0]⟩, ⟨[]⟩⟩
noncomputable def acc (i : Nat) : Obj := ⟨.type "list", none, .seq (accA i) i, ⟨[]⟩⟩
noncomputable def dct (P : Params) (i : Nat) : Obj := ⟨.type "dict", none, .dict ⟨[de P ⟨⟨[105]⟩⟩ 396 (.int (Int.ofNat (i - 1)) (392 + 3 * i))]⟩ 1, ⟨[]⟩⟩
noncomputable def TL (P : Params) (i : Nat) : BT := tr P (o2_3 P) (o3 P (.str z196 390) 16 17) (o12 24) (o31_0 P) (o95_0 P) (o138_0 P) (rit i) (acc i) (dct P i)
noncomputable def L (i : Nat) (w : World) (os : OsState) : SharedT := ⟨TL w.params i, 167 + 5 * i, boot_life, ⟨[]⟩, boot_drawn, 395 + 3 * i, os⟩
noncomputable def lcE : Expr := match st 10 with | .Assign _ (.Call _ (a :: _) _ _) _ => a | _ => .Name default default
noncomputable def lcS : Scope := ⟨.function, [(⟨⟨[46, 48]⟩⟩, .local), (⟨⟨[105]⟩⟩, .local), (⟨⟨[98, 121, 116, 101, 115]⟩⟩, .globalImplicit)], false, false, []⟩
noncomputable def lcV : Env := { scope := lcS, locals := 166, globals := 3, cells := [], code := .ref 13, frame := some 14 }
abbrev lcC : Code := .compLoop lcE 0 (.ref 164) (.ref 165) lcV
abbrev TH (k : Result → Sem Fin) : Thread := ⟨dT tT lcC, lcC, ⟨48, 19, 48, 29⟩, [.ret k none true [.ref 166, .ref 165] cB ⟨48, 39, 48, 49⟩ [], topFrame q0]⟩

abbrev bh : List Stmt := behindTheImports pw
theorem useG {w : World} {m : Nat} {ann : Option Value} {b n : Nat} {S S' : SharedT} {th th' : Thread} (h : gT tT pw w m ann b n S th = some (S', th')) : segGo treeTable pw w m ann b n S.abs th = some (S'.abs, th') :=
  segGo_of (by rw [PySem.W.Fast.te10295753902157049106, PySem.W.Fast.te14364793385576792824]; exact h)
abbrev TP (k : Result → Sem Fin) : Thread := TH k
theorem segGo_app {tb : String → Option Builtin} {p : Program} {w : World} {n₀ : Nat} {ann : Option Value} {b : Nat} : ∀ {n N : Nat} {s s' r : Shared} {t t' t'' : Thread}, segGo tb p w n₀ ann b n s t = some (s', t') →
    segGo tb p w n₀ ann b N s' t' = some (r, t'') → segGo tb p w n₀ ann b (n + N) s t = some (r, t'')
  | 0, N, s, s', r, t, t', t'', h, k => by
    obtain ⟨rfl, rfl⟩ : s = s' ∧ t = t' := by simpa [segGo] using h
    rw [Nat.zero_add]; exact k
  | n + 1, N, s, s', r, t, t', t'', h, k => by
    rw [show n + 1 + N = n + N + 1 by omega]
    unfold segGo at h ⊢
    cases he : endAt b t with
    | some f => rw [he] at h; cases h
    | none =>
      rw [he] at h
      cases hk : stepOk n₀ ann t with
      | false => rw [hk] at h; cases h
      | true =>
        rw [hk] at h
        cases hs : step (denote tb) p w s t with
        | halt o s₂ => rw [hs] at h; cases h
        | go s₂ t₂ => rw [hs] at h; exact segGo_app h k
theorem g0 (w : World) (os : OsState) : (fun _ => rT tT pw w 11 ann0 1 497 (S0 w os) (piecesOf ((bh.drop 0).take 4) env0 cB (⟨0, 0, 0, 0⟩ : Pos) [topFrame q0])) ((#[some (Flow.next, S4 w os, cB, (⟨7, 0, 11, 22⟩ : Pos))])[0]?) = some (Flow.next, S4 w os, cB, (⟨7, 0, 11, 22⟩ : Pos)) := by k_slotget
theorem g4 (w : World) (os : OsState) : (fun _ => rT tT pw w 11 ann0 1 525 (S4 w os) (piecesOf ((bh.drop 4).take 2) env0 cB (⟨7, 0, 11, 22⟩ : Pos) [topFrame q0])) ((#[some (Flow.next, S6 w os, cB, (⟨17, 0, 21, 22⟩ : Pos))])[0]?) = some (Flow.next, S6 w os, cB, (⟨17, 0, 21, 22⟩ : Pos)) := by k_slotget
theorem g6 (w : World) (os : OsState) : (fun _ => rT tT pw w 11 ann0 1 543 (S6 w os) (piecesOf ((bh.drop 6).take 2) env0 cB (⟨17, 0, 21, 22⟩ : Pos) [topFrame q0])) ((#[some (Flow.next, S8 w os, cB, (⟨32, 0, 36, 28⟩ : Pos))])[0]?) = some (Flow.next, S8 w os, cB, (⟨32, 0, 36, 28⟩ : Pos)) := by k_slotget
theorem g8 (w : World) (os : OsState) : (fun _ => rT tT pw w 11 ann0 1 290 (S8 w os) (piecesOf ((bh.drop 8).take 2) env0 cB (⟨32, 0, 36, 28⟩ : Pos) [topFrame q0])) ((#[some (Flow.next, S10 w os, cB, (⟨47, 0, 47, 8⟩ : Pos))])[0]?) = some (Flow.next, S10 w os, cB, (⟨47, 0, 47, 8⟩ : Pos)) := by k_slotget
theorem g11 (w : World) (os : OsState) : (fun _ => rT tT pw w 11 ann0 1 492 (S11 w os) (piecesOf ((bh.drop 11).take 7) env0 cB (⟨48, 0, 48, 9⟩ : Pos) [topFrame q0])) ((#[some (Flow.next, S18 w os, cB, (⟨85, 0, 85, 8⟩ : Pos))])[0]?) = some (Flow.next, S18 w os, cB, (⟨85, 0, 85, 8⟩ : Pos)) := by k_slotget
theorem g18 (w : World) (os : OsState) : (fun _ => rT tT pw w 11 ann0 1 654 (S18 w os) (piecesOf ((bh.drop 18).take 1) env0 cB (⟨85, 0, 85, 8⟩ : Pos) [topFrame q0])) ((#[some (Flow.next, S19 w os, cB, (⟨86, 0, 117, 75⟩ : Pos))])[0]?) = some (Flow.next, S19 w os, cB, (⟨86, 0, 117, 75⟩ : Pos)) := by k_slotget
theorem g19 (w : World) (os : OsState) : (fun _ => rT tT pw w 11 ann0 1 551 (S19 w os) (piecesOf ((bh.drop 19).take 7) env0 cB (⟨86, 0, 117, 75⟩ : Pos) [topFrame q0])) ((#[some (Flow.next, S26 w os, cB, (⟨143, 0, 144, 41⟩ : Pos))])[0]?) = some (Flow.next, S26 w os, cB, (⟨143, 0, 144, 41⟩ : Pos)) := by k_slotget
theorem g26 (w : World) (os : OsState) : (fun _ => rT tT pw w 11 ann0 1 332 (S26 w os) (piecesOf ((bh.drop 26).take 1) env0 cB (⟨143, 0, 144, 41⟩ : Pos) [topFrame q0])) ((#[some (Flow.next, S27 w os, cB, (⟨145, 0, 186, 27⟩ : Pos))])[0]?) = some (Flow.next, S27 w os, cB, (⟨145, 0, 186, 27⟩ : Pos)) := by k_slotget
theorem g27 (w : World) (os : OsState) : (fun _ => rT tT pw w 11 ann0 1 549 (S27 w os) (piecesOf ((bh.drop 27).take 10) env0 cB (⟨145, 0, 186, 27⟩ : Pos) [topFrame q0])) ((#[some (Flow.next, S37 w os, cB, (⟨292, 0, 313, 60⟩ : Pos))])[0]?) = some (Flow.next, S37 w os, cB, (⟨292, 0, 313, 60⟩ : Pos)) := by k_slotget
theorem g37 (w : World) (os : OsState) : (fun _ => rT tT pw w 11 ann0 1 162 (S37 w os) (piecesOf ((bh.drop 37).take 6) env0 cB (⟨292, 0, 313, 60⟩ : Pos) [topFrame q0])) ((#[some (Flow.next, S43 w os, cB, (⟨339, 0, 366, 180⟩ : Pos))])[0]?) = some (Flow.next, S43 w os, cB, (⟨339, 0, 366, 180⟩ : Pos)) := by k_slotget
noncomputable def kA (n : Nat) (w : World) (os : OsState) : Result → Sem Fin := match gT tT pw w 11 ann0 1 n (S10 w os) (piecesOf ((bh.drop 10).take 1) env0 cB (⟨47, 0, 47, 8⟩ : Pos) [topFrame q0]) with
  | some (_, ⟨_, _, _, .ret k _ _ _ _ _ _ :: _⟩) => k
  | _ => fun _ => .unsupported ""
theorem c1_false (w : World) (os : OsState) (k : Result → Sem Fin) : (fun _ => gT tT pw (w.withFollow "special-get-raises" false) 11 ann0 1 1552 (L 1 (w.withFollow "special-get-raises" false) os) (TH k)) ((#[some (L 17 (w.withFollow "special-get-raises" false) os, TH k)])[0]?) = some (L 17 (w.withFollow "special-get-raises" false) os, TH k) := by k_slotget
theorem c17_false (w : World) (os : OsState) (k : Result → Sem Fin) : (fun _ => gT tT pw (w.withFollow "special-get-raises" false) 11 ann0 1 1552 (L 17 (w.withFollow "special-get-raises" false) os) (TH k)) ((#[some (L 33 (w.withFollow "special-get-raises" false) os, TH k)])[0]?) = some (L 33 (w.withFollow "special-get-raises" false) os, TH k) := by k_slotget
theorem c33_false (w : World) (os : OsState) (k : Result → Sem Fin) : (fun _ => gT tT pw (w.withFollow "special-get-raises" false) 11 ann0 1 1552 (L 33 (w.withFollow "special-get-raises" false) os) (TH k)) ((#[some (L 49 (w.withFollow "special-get-raises" false) os, TH k)])[0]?) = some (L 49 (w.withFollow "special-get-raises" false) os, TH k) := by k_slotget
theorem c49_false (w : World) (os : OsState) (k : Result → Sem Fin) : (fun _ => gT tT pw (w.withFollow "special-get-raises" false) 11 ann0 1 1552 (L 49 (w.withFollow "special-get-raises" false) os) (TH k)) ((#[some (L 65 (w.withFollow "special-get-raises" false) os, TH k)])[0]?) = some (L 65 (w.withFollow "special-get-raises" false) os, TH k) := by k_slotget
theorem c65_false (w : World) (os : OsState) (k : Result → Sem Fin) : (fun _ => gT tT pw (w.withFollow "special-get-raises" false) 11 ann0 1 1552 (L 65 (w.withFollow "special-get-raises" false) os) (TH k)) ((#[some (L 81 (w.withFollow "special-get-raises" false) os, TH k)])[0]?) = some (L 81 (w.withFollow "special-get-raises" false) os, TH k) := by k_slotget
theorem c81_false (w : World) (os : OsState) (k : Result → Sem Fin) : (fun _ => gT tT pw (w.withFollow "special-get-raises" false) 11 ann0 1 1552 (L 81 (w.withFollow "special-get-raises" false) os) (TH k)) ((#[some (L 97 (w.withFollow "special-get-raises" false) os, TH k)])[0]?) = some (L 97 (w.withFollow "special-get-raises" false) os, TH k) := by k_slotget
theorem c97_false (w : World) (os : OsState) (k : Result → Sem Fin) : (fun _ => gT tT pw (w.withFollow "special-get-raises" false) 11 ann0 1 1552 (L 97 (w.withFollow "special-get-raises" false) os) (TH k)) ((#[some (L 113 (w.withFollow "special-get-raises" false) os, TH k)])[0]?) = some (L 113 (w.withFollow "special-get-raises" false) os, TH k) := by k_slotget
theorem c113_false (w : World) (os : OsState) (k : Result → Sem Fin) : (fun _ => gT tT pw (w.withFollow "special-get-raises" false) 11 ann0 1 1552 (L 113 (w.withFollow "special-get-raises" false) os) (TH k)) ((#[some (L 129 (w.withFollow "special-get-raises" false) os, TH k)])[0]?) = some (L 129 (w.withFollow "special-get-raises" false) os, TH k) := by k_slotget
theorem c129_false (w : World) (os : OsState) (k : Result → Sem Fin) : (fun _ => gT tT pw (w.withFollow "special-get-raises" false) 11 ann0 1 1552 (L 129 (w.withFollow "special-get-raises" false) os) (TH k)) ((#[some (L 145 (w.withFollow "special-get-raises" false) os, TH k)])[0]?) = some (L 145 (w.withFollow "special-get-raises" false) os, TH k) := by k_slotget
theorem c145_false (w : World) (os : OsState) (k : Result → Sem Fin) : (fun _ => gT tT pw (w.withFollow "special-get-raises" false) 11 ann0 1 1552 (L 145 (w.withFollow "special-get-raises" false) os) (TH k)) ((#[some (L 161 (w.withFollow "special-get-raises" false) os, TH k)])[0]?) = some (L 161 (w.withFollow "special-get-raises" false) os, TH k) := by k_slotget
theorem c161_false (w : World) (os : OsState) (k : Result → Sem Fin) : (fun _ => gT tT pw (w.withFollow "special-get-raises" false) 11 ann0 1 1552 (L 161 (w.withFollow "special-get-raises" false) os) (TH k)) ((#[some (L 177 (w.withFollow "special-get-raises" false) os, TH k)])[0]?) = some (L 177 (w.withFollow "special-get-raises" false) os, TH k) := by k_slotget
theorem c177_false (w : World) (os : OsState) (k : Result → Sem Fin) : (fun _ => gT tT pw (w.withFollow "special-get-raises" false) 11 ann0 1 1552 (L 177 (w.withFollow "special-get-raises" false) os) (TH k)) ((#[some (L 193 (w.withFollow "special-get-raises" false) os, TH k)])[0]?) = some (L 193 (w.withFollow "special-get-raises" false) os, TH k) := by k_slotget
theorem c193_false (w : World) (os : OsState) (k : Result → Sem Fin) : (fun _ => gT tT pw (w.withFollow "special-get-raises" false) 11 ann0 1 1552 (L 193 (w.withFollow "special-get-raises" false) os) (TH k)) ((#[some (L 209 (w.withFollow "special-get-raises" false) os, TH k)])[0]?) = some (L 209 (w.withFollow "special-get-raises" false) os, TH k) := by k_slotget
theorem c209_false (w : World) (os : OsState) (k : Result → Sem Fin) : (fun _ => gT tT pw (w.withFollow "special-get-raises" false) 11 ann0 1 1552 (L 209 (w.withFollow "special-get-raises" false) os) (TH k)) ((#[some (L 225 (w.withFollow "special-get-raises" false) os, TH k)])[0]?) = some (L 225 (w.withFollow "special-get-raises" false) os, TH k) := by k_slotget
theorem c225_false (w : World) (os : OsState) (k : Result → Sem Fin) : (fun _ => gT tT pw (w.withFollow "special-get-raises" false) 11 ann0 1 1552 (L 225 (w.withFollow "special-get-raises" false) os) (TH k)) ((#[some (L 241 (w.withFollow "special-get-raises" false) os, TH k)])[0]?) = some (L 241 (w.withFollow "special-get-raises" false) os, TH k) := by k_slotget
theorem c241_false (w : World) (os : OsState) (k : Result → Sem Fin) : (fun _ => gT tT pw (w.withFollow "special-get-raises" false) 11 ann0 1 1455 (L 241 (w.withFollow "special-get-raises" false) os) (TH k)) ((#[some (L 256 (w.withFollow "special-get-raises" false) os, TH k)])[0]?) = some (L 256 (w.withFollow "special-get-raises" false) os, TH k) := by k_slotget
theorem loop_false (w : World) (os : OsState) (k : Result → Sem Fin) : segGo treeTable pw (w.withFollow "special-get-raises" false) 11 ann0 1 24735 (L 1 (w.withFollow "special-get-raises" false) os).abs (TP k) = some ((L 256 (w.withFollow "special-get-raises" false) os).abs, TP k) := by
  have h1 := useG (c1_false w os k)
  have h17 := useG (c17_false w os k)
  have h33 := useG (c33_false w os k)
  have h49 := useG (c49_false w os k)
  have h65 := useG (c65_false w os k)
  have h81 := useG (c81_false w os k)
  have h97 := useG (c97_false w os k)
  have h113 := useG (c113_false w os k)
  have h129 := useG (c129_false w os k)
  have h145 := useG (c145_false w os k)
  have h161 := useG (c161_false w os k)
  have h177 := useG (c177_false w os k)
  have h193 := useG (c193_false w os k)
  have h209 := useG (c209_false w os k)
  have h225 := useG (c225_false w os k)
  have h241 := useG (c241_false w os k)
  exact (segGo_app h1 (segGo_app h17 (segGo_app h33 (segGo_app h49 (segGo_app h65 (segGo_app h81 (segGo_app h97 (segGo_app h113 (segGo_app h129 (segGo_app h145 (segGo_app h161 (segGo_app h177 (segGo_app h193 (segGo_app h209 (segGo_app h225 h241)))))))))))))))
theorem a_false_false (w : World) (os : OsState) : (fun _ => gT tT pw ((w.withFollow "comprehension-iter-twice" false).withFollow "special-get-raises" false) 11 ann0 1 152 (S10 ((w.withFollow "comprehension-iter-twice" false).withFollow "special-get-raises" false) os) (piecesOf ((bh.drop 10).take 1) env0 cB (⟨47, 0, 47, 8⟩ : Pos) [topFrame q0])) ((#[some (L 1 ((w.withFollow "comprehension-iter-twice" false).withFollow "special-get-raises" false) os, TH (kA 152 ((w.withFollow "comprehension-iter-twice" false).withFollow "special-get-raises" false) os))])[0]?) = some (L 1 ((w.withFollow "comprehension-iter-twice" false).withFollow "special-get-raises" false) os, TH (kA 152 ((w.withFollow "comprehension-iter-twice" false).withFollow "special-get-raises" false) os)) := by k_slotget
theorem z_false_false (w : World) (os : OsState) : (fun _ => rT tT pw ((w.withFollow "comprehension-iter-twice" false).withFollow "special-get-raises" false) 11 ann0 1 56 (L 256 ((w.withFollow "comprehension-iter-twice" false).withFollow "special-get-raises" false) os) (TH (kA 152 ((w.withFollow "comprehension-iter-twice" false).withFollow "special-get-raises" false) os))) ((#[some (Flow.next, S11 ((w.withFollow "comprehension-iter-twice" false).withFollow "special-get-raises" false) os, cB, (⟨48, 0, 48, 9⟩ : Pos))])[0]?) = some (Flow.next, S11 ((w.withFollow "comprehension-iter-twice" false).withFollow "special-get-raises" false) os, cB, (⟨48, 0, 48, 9⟩ : Pos)) := by k_slotget
theorem a_true_false (w : World) (os : OsState) : (fun _ => gT tT pw ((w.withFollow "comprehension-iter-twice" true).withFollow "special-get-raises" false) 11 ann0 1 142 (S10 ((w.withFollow "comprehension-iter-twice" true).withFollow "special-get-raises" false) os) (piecesOf ((bh.drop 10).take 1) env0 cB (⟨47, 0, 47, 8⟩ : Pos) [topFrame q0])) ((#[some (L 1 ((w.withFollow "comprehension-iter-twice" true).withFollow "special-get-raises" false) os, TH (kA 142 ((w.withFollow "comprehension-iter-twice" true).withFollow "special-get-raises" false) os))])[0]?) = some (L 1 ((w.withFollow "comprehension-iter-twice" true).withFollow "special-get-raises" false) os, TH (kA 142 ((w.withFollow "comprehension-iter-twice" true).withFollow "special-get-raises" false) os)) := by k_slotget
theorem z_true_false (w : World) (os : OsState) : (fun _ => rT tT pw ((w.withFollow "comprehension-iter-twice" true).withFollow "special-get-raises" false) 11 ann0 1 66 (L 256 ((w.withFollow "comprehension-iter-twice" true).withFollow "special-get-raises" false) os) (TH (kA 142 ((w.withFollow "comprehension-iter-twice" true).withFollow "special-get-raises" false) os))) ((#[some (Flow.next, S11 ((w.withFollow "comprehension-iter-twice" true).withFollow "special-get-raises" false) os, cB, (⟨48, 0, 48, 9⟩ : Pos))])[0]?) = some (Flow.next, S11 ((w.withFollow "comprehension-iter-twice" true).withFollow "special-get-raises" false) os, cB, (⟨48, 0, 48, 9⟩ : Pos)) := by k_slotget
theorem c1_true (w : World) (os : OsState) (k : Result → Sem Fin) : (fun _ => gT tT pw (w.withFollow "special-get-raises" true) 11 ann0 1 1552 (L 1 (w.withFollow "special-get-raises" true) os) (TH k)) ((#[some (L 17 (w.withFollow "special-get-raises" true) os, TH k)])[0]?) = some (L 17 (w.withFollow "special-get-raises" true) os, TH k) := by k_slotget
theorem c17_true (w : World) (os : OsState) (k : Result → Sem Fin) : (fun _ => gT tT pw (w.withFollow "special-get-raises" true) 11 ann0 1 1552 (L 17 (w.withFollow "special-get-raises" true) os) (TH k)) ((#[some (L 33 (w.withFollow "special-get-raises" true) os, TH k)])[0]?) = some (L 33 (w.withFollow "special-get-raises" true) os, TH k) := by k_slotget
theorem c33_true (w : World) (os : OsState) (k : Result → Sem Fin) : (fun _ => gT tT pw (w.withFollow "special-get-raises" true) 11 ann0 1 1552 (L 33 (w.withFollow "special-get-raises" true) os) (TH k)) ((#[some (L 49 (w.withFollow "special-get-raises" true) os, TH k)])[0]?) = some (L 49 (w.withFollow "special-get-raises" true) os, TH k) := by k_slotget
theorem c49_true (w : World) (os : OsState) (k : Result → Sem Fin) : (fun _ => gT tT pw (w.withFollow "special-get-raises" true) 11 ann0 1 1552 (L 49 (w.withFollow "special-get-raises" true) os) (TH k)) ((#[some (L 65 (w.withFollow "special-get-raises" true) os, TH k)])[0]?) = some (L 65 (w.withFollow "special-get-raises" true) os, TH k) := by k_slotget
theorem c65_true (w : World) (os : OsState) (k : Result → Sem Fin) : (fun _ => gT tT pw (w.withFollow "special-get-raises" true) 11 ann0 1 1552 (L 65 (w.withFollow "special-get-raises" true) os) (TH k)) ((#[some (L 81 (w.withFollow "special-get-raises" true) os, TH k)])[0]?) = some (L 81 (w.withFollow "special-get-raises" true) os, TH k) := by k_slotget
theorem c81_true (w : World) (os : OsState) (k : Result → Sem Fin) : (fun _ => gT tT pw (w.withFollow "special-get-raises" true) 11 ann0 1 1552 (L 81 (w.withFollow "special-get-raises" true) os) (TH k)) ((#[some (L 97 (w.withFollow "special-get-raises" true) os, TH k)])[0]?) = some (L 97 (w.withFollow "special-get-raises" true) os, TH k) := by k_slotget
theorem c97_true (w : World) (os : OsState) (k : Result → Sem Fin) : (fun _ => gT tT pw (w.withFollow "special-get-raises" true) 11 ann0 1 1552 (L 97 (w.withFollow "special-get-raises" true) os) (TH k)) ((#[some (L 113 (w.withFollow "special-get-raises" true) os, TH k)])[0]?) = some (L 113 (w.withFollow "special-get-raises" true) os, TH k) := by k_slotget
theorem c113_true (w : World) (os : OsState) (k : Result → Sem Fin) : (fun _ => gT tT pw (w.withFollow "special-get-raises" true) 11 ann0 1 1552 (L 113 (w.withFollow "special-get-raises" true) os) (TH k)) ((#[some (L 129 (w.withFollow "special-get-raises" true) os, TH k)])[0]?) = some (L 129 (w.withFollow "special-get-raises" true) os, TH k) := by k_slotget
theorem c129_true (w : World) (os : OsState) (k : Result → Sem Fin) : (fun _ => gT tT pw (w.withFollow "special-get-raises" true) 11 ann0 1 1552 (L 129 (w.withFollow "special-get-raises" true) os) (TH k)) ((#[some (L 145 (w.withFollow "special-get-raises" true) os, TH k)])[0]?) = some (L 145 (w.withFollow "special-get-raises" true) os, TH k) := by k_slotget
theorem c145_true (w : World) (os : OsState) (k : Result → Sem Fin) : (fun _ => gT tT pw (w.withFollow "special-get-raises" true) 11 ann0 1 1552 (L 145 (w.withFollow "special-get-raises" true) os) (TH k)) ((#[some (L 161 (w.withFollow "special-get-raises" true) os, TH k)])[0]?) = some (L 161 (w.withFollow "special-get-raises" true) os, TH k) := by k_slotget
theorem c161_true (w : World) (os : OsState) (k : Result → Sem Fin) : (fun _ => gT tT pw (w.withFollow "special-get-raises" true) 11 ann0 1 1552 (L 161 (w.withFollow "special-get-raises" true) os) (TH k)) ((#[some (L 177 (w.withFollow "special-get-raises" true) os, TH k)])[0]?) = some (L 177 (w.withFollow "special-get-raises" true) os, TH k) := by k_slotget
theorem c177_true (w : World) (os : OsState) (k : Result → Sem Fin) : (fun _ => gT tT pw (w.withFollow "special-get-raises" true) 11 ann0 1 1552 (L 177 (w.withFollow "special-get-raises" true) os) (TH k)) ((#[some (L 193 (w.withFollow "special-get-raises" true) os, TH k)])[0]?) = some (L 193 (w.withFollow "special-get-raises" true) os, TH k) := by k_slotget
theorem c193_true (w : World) (os : OsState) (k : Result → Sem Fin) : (fun _ => gT tT pw (w.withFollow "special-get-raises" true) 11 ann0 1 1552 (L 193 (w.withFollow "special-get-raises" true) os) (TH k)) ((#[some (L 209 (w.withFollow "special-get-raises" true) os, TH k)])[0]?) = some (L 209 (w.withFollow "special-get-raises" true) os, TH k) := by k_slotget
theorem c209_true (w : World) (os : OsState) (k : Result → Sem Fin) : (fun _ => gT tT pw (w.withFollow "special-get-raises" true) 11 ann0 1 1552 (L 209 (w.withFollow "special-get-raises" true) os) (TH k)) ((#[some (L 225 (w.withFollow "special-get-raises" true) os, TH k)])[0]?) = some (L 225 (w.withFollow "special-get-raises" true) os, TH k) := by k_slotget
theorem c225_true (w : World) (os : OsState) (k : Result → Sem Fin) : (fun _ => gT tT pw (w.withFollow "special-get-raises" true) 11 ann0 1 1552 (L 225 (w.withFollow "special-get-raises" true) os) (TH k)) ((#[some (L 241 (w.withFollow "special-get-raises" true) os, TH k)])[0]?) = some (L 241 (w.withFollow "special-get-raises" true) os, TH k) := by k_slotget
theorem c241_true (w : World) (os : OsState) (k : Result → Sem Fin) : (fun _ => gT tT pw (w.withFollow "special-get-raises" true) 11 ann0 1 1455 (L 241 (w.withFollow "special-get-raises" true) os) (TH k)) ((#[some (L 256 (w.withFollow "special-get-raises" true) os, TH k)])[0]?) = some (L 256 (w.withFollow "special-get-raises" true) os, TH k) := by k_slotget
theorem loop_true (w : World) (os : OsState) (k : Result → Sem Fin) : segGo treeTable pw (w.withFollow "special-get-raises" true) 11 ann0 1 24735 (L 1 (w.withFollow "special-get-raises" true) os).abs (TP k) = some ((L 256 (w.withFollow "special-get-raises" true) os).abs, TP k) := by
  have h1 := useG (c1_true w os k)
  have h17 := useG (c17_true w os k)
  have h33 := useG (c33_true w os k)
  have h49 := useG (c49_true w os k)
  have h65 := useG (c65_true w os k)
  have h81 := useG (c81_true w os k)
  have h97 := useG (c97_true w os k)
  have h113 := useG (c113_true w os k)
  have h129 := useG (c129_true w os k)
  have h145 := useG (c145_true w os k)
  have h161 := useG (c161_true w os k)
  have h177 := useG (c177_true w os k)
  have h193 := useG (c193_true w os k)
  have h209 := useG (c209_true w os k)
  have h225 := useG (c225_true w os k)
  have h241 := useG (c241_true w os k)
  exact (segGo_app h1 (segGo_app h17 (segGo_app h33 (segGo_app h49 (segGo_app h65 (segGo_app h81 (segGo_app h97 (segGo_app h113 (segGo_app h129 (segGo_app h145 (segGo_app h161 (segGo_app h177 (segGo_app h193 (segGo_app h209 (segGo_app h225 h241)))))))))))))))
theorem a_false_true (w : World) (os : OsState) : (fun _ => gT tT pw ((w.withFollow "comprehension-iter-twice" false).withFollow "special-get-raises" true) 11 ann0 1 152 (S10 ((w.withFollow "comprehension-iter-twice" false).withFollow "special-get-raises" true) os) (piecesOf ((bh.drop 10).take 1) env0 cB (⟨47, 0, 47, 8⟩ : Pos) [topFrame q0])) ((#[some (L 1 ((w.withFollow "comprehension-iter-twice" false).withFollow "special-get-raises" true) os, TH (kA 152 ((w.withFollow "comprehension-iter-twice" false).withFollow "special-get-raises" true) os))])[0]?) = some (L 1 ((w.withFollow "comprehension-iter-twice" false).withFollow "special-get-raises" true) os, TH (kA 152 ((w.withFollow "comprehension-iter-twice" false).withFollow "special-get-raises" true) os)) := by k_slotget
theorem z_false_true (w : World) (os : OsState) : (fun _ => rT tT pw ((w.withFollow "comprehension-iter-twice" false).withFollow "special-get-raises" true) 11 ann0 1 56 (L 256 ((w.withFollow "comprehension-iter-twice" false).withFollow "special-get-raises" true) os) (TH (kA 152 ((w.withFollow "comprehension-iter-twice" false).withFollow "special-get-raises" true) os))) ((#[some (Flow.next, S11 ((w.withFollow "comprehension-iter-twice" false).withFollow "special-get-raises" true) os, cB, (⟨48, 0, 48, 9⟩ : Pos))])[0]?) = some (Flow.next, S11 ((w.withFollow "comprehension-iter-twice" false).withFollow "special-get-raises" true) os, cB, (⟨48, 0, 48, 9⟩ : Pos)) := by k_slotget
theorem a_true_true (w : World) (os : OsState) : (fun _ => gT tT pw ((w.withFollow "comprehension-iter-twice" true).withFollow "special-get-raises" true) 11 ann0 1 142 (S10 ((w.withFollow "comprehension-iter-twice" true).withFollow "special-get-raises" true) os) (piecesOf ((bh.drop 10).take 1) env0 cB (⟨47, 0, 47, 8⟩ : Pos) [topFrame q0])) ((#[some (L 1 ((w.withFollow "comprehension-iter-twice" true).withFollow "special-get-raises" true) os, TH (kA 142 ((w.withFollow "comprehension-iter-twice" true).withFollow "special-get-raises" true) os))])[0]?) = some (L 1 ((w.withFollow "comprehension-iter-twice" true).withFollow "special-get-raises" true) os, TH (kA 142 ((w.withFollow "comprehension-iter-twice" true).withFollow "special-get-raises" true) os)) := by k_slotget
theorem z_true_true (w : World) (os : OsState) : (fun _ => rT tT pw ((w.withFollow "comprehension-iter-twice" true).withFollow "special-get-raises" true) 11 ann0 1 66 (L 256 ((w.withFollow "comprehension-iter-twice" true).withFollow "special-get-raises" true) os) (TH (kA 142 ((w.withFollow "comprehension-iter-twice" true).withFollow "special-get-raises" true) os))) ((#[some (Flow.next, S11 ((w.withFollow "comprehension-iter-twice" true).withFollow "special-get-raises" true) os, cB, (⟨48, 0, 48, 9⟩ : Pos))])[0]?) = some (Flow.next, S11 ((w.withFollow "comprehension-iter-twice" true).withFollow "special-get-raises" true) os, cB, (⟨48, 0, 48, 9⟩ : Pos)) := by k_slotget
end Mine
end
end

section
set_option maxRecDepth 100000
set_option maxHeartbeats 0
set_option linter.unusedVariables false
set_option Elab.async false
open PySem PySem.W PyProof.Rows
noncomputable section
namespace Mine
theorem st10_false_false (w : World) (os : OsState) : segRun treeTable pw ((w.withFollow "comprehension-iter-twice" false).withFollow "special-get-raises" false) 11 ann0 1 24943 (S10 ((w.withFollow "comprehension-iter-twice" false).withFollow "special-get-raises" false) os).abs (piecesOf ((bh.drop 10).take 1) env0 cB (⟨47, 0, 47, 8⟩ : Pos) [topFrame q0]) = some (Flow.next, (S11 ((w.withFollow "comprehension-iter-twice" false).withFollow "special-get-raises" false) os).abs, cB, (⟨48, 0, 48, 9⟩ : Pos)) :=
  seg_go (n := 152) (N := 24791) (useG (a_false_false w os)) (seg_go (n := 24735) (N := 56) (loop_false (w.withFollow "comprehension-iter-twice" false) os (kA 152 ((w.withFollow "comprehension-iter-twice" false).withFollow "special-get-raises" false) os)) (segRun_of (useT (z_false_false w os))))
theorem st10_true_false (w : World) (os : OsState) : segRun treeTable pw ((w.withFollow "comprehension-iter-twice" true).withFollow "special-get-raises" false) 11 ann0 1 24943 (S10 ((w.withFollow "comprehension-iter-twice" true).withFollow "special-get-raises" false) os).abs (piecesOf ((bh.drop 10).take 1) env0 cB (⟨47, 0, 47, 8⟩ : Pos) [topFrame q0]) = some (Flow.next, (S11 ((w.withFollow "comprehension-iter-twice" true).withFollow "special-get-raises" false) os).abs, cB, (⟨48, 0, 48, 9⟩ : Pos)) :=
  seg_go (n := 142) (N := 24801) (useG (a_true_false w os)) (seg_go (n := 24735) (N := 66) (loop_false (w.withFollow "comprehension-iter-twice" true) os (kA 142 ((w.withFollow "comprehension-iter-twice" true).withFollow "special-get-raises" false) os)) (segRun_of (useT (z_true_false w os))))
theorem st10_false_true (w : World) (os : OsState) : segRun treeTable pw ((w.withFollow "comprehension-iter-twice" false).withFollow "special-get-raises" true) 11 ann0 1 24943 (S10 ((w.withFollow "comprehension-iter-twice" false).withFollow "special-get-raises" true) os).abs (piecesOf ((bh.drop 10).take 1) env0 cB (⟨47, 0, 47, 8⟩ : Pos) [topFrame q0]) = some (Flow.next, (S11 ((w.withFollow "comprehension-iter-twice" false).withFollow "special-get-raises" true) os).abs, cB, (⟨48, 0, 48, 9⟩ : Pos)) :=
  seg_go (n := 152) (N := 24791) (useG (a_false_true w os)) (seg_go (n := 24735) (N := 56) (loop_true (w.withFollow "comprehension-iter-twice" false) os (kA 152 ((w.withFollow "comprehension-iter-twice" false).withFollow "special-get-raises" true) os)) (segRun_of (useT (z_false_true w os))))
theorem st10_true_true (w : World) (os : OsState) : segRun treeTable pw ((w.withFollow "comprehension-iter-twice" true).withFollow "special-get-raises" true) 11 ann0 1 24943 (S10 ((w.withFollow "comprehension-iter-twice" true).withFollow "special-get-raises" true) os).abs (piecesOf ((bh.drop 10).take 1) env0 cB (⟨47, 0, 47, 8⟩ : Pos) [topFrame q0]) = some (Flow.next, (S11 ((w.withFollow "comprehension-iter-twice" true).withFollow "special-get-raises" true) os).abs, cB, (⟨48, 0, 48, 9⟩ : Pos)) :=
  seg_go (n := 142) (N := 24801) (useG (a_true_true w os)) (seg_go (n := 24735) (N := 66) (loop_true (w.withFollow "comprehension-iter-twice" true) os (kA 142 ((w.withFollow "comprehension-iter-twice" true).withFollow "special-get-raises" true) os)) (segRun_of (useT (z_true_true w os))))
noncomputable def P10 (w : World) : Prop := ∀ os : OsState, segRun treeTable pw w 11 ann0 1 24943 (S10 w os).abs (piecesOf ((bh.drop 10).take 1) env0 cB (⟨47, 0, 47, 8⟩ : Pos) [topFrame q0]) = some (Flow.next, (S11 w os).abs, cB, (⟨48, 0, 48, 9⟩ : Pos))
theorem g10 (w : World) : P10 w :=
  byRow2 "special-get-raises" (P := P10)
    (fun w => byRow2 "comprehension-iter-twice" (P := fun v => P10 (v.withFollow "special-get-raises" false)) (fun w os => st10_false_false w os) (fun w os => st10_true_false w os) w)
    (fun w => byRow2 "comprehension-iter-twice" (P := fun v => P10 (v.withFollow "special-get-raises" true)) (fun w os => st10_false_true w os) (fun w os => st10_true_true w os) w) w

theorem pa {w : World} {n N : Nat} {s s' r : Shared} {pos p' : Pos} (a m c : Nat) (hc : a + m = c) (h : segRun treeTable pw w 11 ann0 1 n s (piecesOf ((bh.drop a).take m) env0 cB pos [topFrame q0]) = some (Flow.next, s', cB, p'))
    (k : topRun treeTable pw w 11 ann0 N s' (restOf (bh.drop c) env0 cB p' [topFrame q0]) = some r) : topRun treeTable pw w 11 ann0 (n + N) s (restOf (bh.drop a) env0 cB pos [topFrame q0]) = some r := by
  subst hc
  have e : bh.drop a = (bh.drop a).take m ++ bh.drop (a + m) := by rw [← List.drop_drop, List.take_append_drop]
  rw [e]
  exact piece_app h k
noncomputable abbrev tgT := @PySem.W.Fast.tw15667345088766844465
theorem pre0 (w : World) (os : OsState) : (fun _ => tgT tT pw w 11 ann0 12 ⟨boot_heap w.params, ⟨[]⟩, boot_drawn, boot_toks, os⟩ (topStub pw)) ((#[some ((S0 w os).abs, (⟨dT tT cB, cB, ⟨0, 0, 0, 0⟩, [topFrame q0]⟩ : Thread))])[0]?) = some ((S0 w os).abs, (⟨dT tT cB, cB, ⟨0, 0, 0, 0⟩, [topFrame q0]⟩ : Thread)) := by k_slotget
theorem pre1 (w : World) (os : OsState) : topGo treeTable pw w 11 ann0 12 ⟨boot_heap w.params, ⟨[]⟩, boot_drawn, boot_toks, os⟩ (topStub pw) = some ((S0 w os).abs, ⟨denote treeTable cB, cB, ⟨0, 0, 0, 0⟩, [topFrame q0]⟩) := by
  rw [PySem.W.Fast.te15667345088766844465, PySem.W.Fast.te14364793385576792824, PySem.W.Fast.te11892475500146522536]; exact pre0 w os
theorem blk (w : World) (os : OsState) : segRun treeTable pw w 11 ann0 1 1 (S0 w os).abs (blockOf bh env0 cB ⟨0, 0, 0, 0⟩ [topFrame q0]) = some (Flow.next, (S0 w os).abs, cB, (⟨0, 0, 0, 0⟩ : Pos)) := by kernel_rfl!
theorem fin (w : World) (os : OsState) : topRun treeTable pw w 11 ann0 2 (S43 w os).abs (restOf (bh.drop 43) env0 cB (⟨339, 0, 366, 180⟩ : Pos) [topFrame q0]) = some (S43 w os).abs := by kernel_rfl!
noncomputable def H1 (P : Params) : Heap := absHeap (T43 P) 1776 boot_life
theorem run0 (w : World) (os : OsState) : topRun treeTable pw w 11 ann0 29553 ⟨boot_heap w.params, ⟨[]⟩, boot_drawn, boot_toks, os⟩ (topStub pw) = some ⟨H1 w.params, ⟨[]⟩, boot_drawn, 1661, os⟩ :=
  go_top (n := 12) (N := 29541) (pre1 w os) (piece_block (n := 1) (N := 29540) (blk w os) (pa (n := 497) (N := 29043) 0 4 4 rfl (segRun_of (useT (g0 w os))) (pa (n := 525) (N := 28518) 4 2 6 rfl (segRun_of (useT (g4 w os))) (pa (n := 543) (N := 27975) 6 2 8 rfl (segRun_of (useT (g6 w os))) (pa (n := 290) (N := 27685) 8 2 10 rfl (segRun_of (useT (g8 w os))) (pa (n := 24943) (N := 2742) 10 1 11 rfl (g10 w os) (pa (n := 492) (N := 2250) 11 7 18 rfl (segRun_of (useT (g11 w os))) (pa (n := 654) (N := 1596) 18 1 19 rfl (segRun_of (useT (g18 w os))) (pa (n := 551) (N := 1045) 19 7 26 rfl (segRun_of (useT (g19 w os))) (pa (n := 332) (N := 713) 26 1 27 rfl (segRun_of (useT (g26 w os))) (pa (n := 549) (N := 164) 27 10 37 rfl (segRun_of (useT (g27 w os))) (pa (n := 162) (N := 2) 37 6 43 rfl (segRun_of (useT (g37 w os))) (fin w os)))))))))))))

end Mine
end
end

section
set_option maxRecDepth 100000
set_option maxHeartbeats 0
set_option linter.unusedVariables false
set_option Elab.async false
open PySem PySem.W PyProof.Rows
noncomputable section
namespace Mine

noncomputable def q : Program := view pw [0, 2, 3, 4, 5, 6, 7, 8, 10, 11, 12, 13, 15, 16, 18, 19, 21, 22, 24, 25, 26, 27, 29, 30, 32, 33, 34, 35, 36, 37, 39, 41, 42]
noncomputable def looseL : List Str := [Str.ofString "ListSerializationError", Str.ofString "ListDeserializationError", Str.ofString "ALL_BYTES", Str.ofString "big_endian_int", Str.ofString "Binary", Str.ofString "binary", Str.ofString "boolean", Str.ofString "encode", Str.ofString "LONG_LENGTH", Str.ofString "SHORT_STRING", Str.ofString "decode"]
noncomputable def K (P : Params) : Frag := (nat_lit 2, (o2_3 P)) :: (nat_lit 3, (o3 P (.str z290 1644) 43 44)) :: (nat_lit 15, (o15 P)) :: (nat_lit 17, (o17 P)) :: (nat_lit 18, (o18 P)) :: (nat_lit 20, (o20 P)) :: (nat_lit 21, (o21 P)) :: (nat_lit 22, (o22 P)) :: (nat_lit 29, (o29 P)) :: (nat_lit 30, (o30 P)) :: (nat_lit 31, (o31_0 P)) :: (nat_lit 32, (o32 P)) :: (nat_lit 35, (o35 P)) :: (nat_lit 38, (o38 P)) :: (nat_lit 43, (o43 P)) :: (nat_lit 44, (o44 P)) :: (nat_lit 46, (o46 P)) :: (nat_lit 47, (o47 P)) :: (nat_lit 49, (o49 P)) :: (nat_lit 50, (o50 P)) :: (nat_lit 51, (o51 P)) :: (nat_lit 52, (o52 P)) :: (nat_lit 53, (o53 P)) :: (nat_lit 56, (o56 P)) :: (nat_lit 59, (o59 P)) :: (nat_lit 64, (o64 P)) :: (nat_lit 65, (o65 P)) :: (nat_lit 67, (o67 P)) :: (nat_lit 68, (o68 P)) :: (nat_lit 70, (o70 P)) :: (nat_lit 71, (o71 P)) :: (nat_lit 72, (o72 P)) :: (nat_lit 73, (o73 P)) :: (nat_lit 74, (o74 P)) :: (nat_lit 77, (o77 P)) :: (nat_lit 80, (o80 P)) :: (nat_lit 85, (o85 P)) :: (nat_lit 86, (o86 P)) :: (nat_lit 88, (o88 P)) :: (nat_lit 89, (o89 P)) :: (nat_lit 91, (o91 P)) :: (nat_lit 92, (o92 P)) :: (nat_lit 93, (o93 P)) :: (nat_lit 94, (o94 P)) :: (nat_lit 95, (o95_0 P)) :: (nat_lit 98, (o98 P)) :: (nat_lit 101, (o101 P)) :: (nat_lit 106, (o106 P)) :: (nat_lit 107, (o107 P)) :: (nat_lit 108, (o108 P)) :: (nat_lit 110, (o110 P)) :: (nat_lit 111, (o111 P)) :: (nat_lit 113, (o113 P)) :: (nat_lit 114, (o114 P)) :: (nat_lit 115, (o115 P)) :: (nat_lit 116, (o116 P)) :: (nat_lit 117, (o117 P)) :: (nat_lit 120, (o120 P)) :: (nat_lit 123, (o123 P)) :: (nat_lit 128, (o128 P)) :: (nat_lit 129, (o129 P)) :: (nat_lit 131, (o131 P)) :: (nat_lit 132, (o132 P)) :: (nat_lit 134, (o134 P)) :: (nat_lit 135, (o135 P)) :: (nat_lit 136, (o136 P)) :: (nat_lit 137, (o137 P)) :: (nat_lit 138, (o138_0 P)) :: (nat_lit 141, (o141 P)) :: (nat_lit 144, (o144 P)) :: (nat_lit 149, (o149 P)) :: (nat_lit 150, (o150 P)) :: (nat_lit 151, (o151 P)) :: (nat_lit 153, (o153 P)) :: (nat_lit 154, (o154 P)) :: (nat_lit 156, (o156 P)) :: (nat_lit 157, (o157 P)) :: (nat_lit 158, (o158 P)) :: (nat_lit 159, (o159 P)) :: (nat_lit 160, (o160 P)) :: (nat_lit 1450, (o1450 P)) :: (nat_lit 1451, (o1451 P)) :: (nat_lit 1453, (o1453 P)) :: (nat_lit 1454, (o1454 P)) :: (nat_lit 1456, (o1456 P)) :: (nat_lit 1457, (o1457 P)) :: (nat_lit 1458, (o1458 P)) :: (nat_lit 1460, (o1460 P)) :: (nat_lit 1461, (o1461 P)) :: (nat_lit 1463, (o1463 P)) :: (nat_lit 1464, (o1464 P)) :: (nat_lit 1465, (o1465 P)) :: (nat_lit 1467, (o1467 P)) :: (nat_lit 1468, (o1468 P)) :: (nat_lit 1470, (o1470 P)) :: (nat_lit 1471, (o1471 P)) :: (nat_lit 1479, (o1479 P)) :: (nat_lit 1480, (o1480 P)) :: (nat_lit 1482, (o1482 P)) :: (nat_lit 1483, (o1483 P)) :: (nat_lit 1485, (o1485 P)) :: (nat_lit 1486, (o1486 P)) :: (nat_lit 1487, (o1487 P)) :: (nat_lit 1489, (o1489 P)) :: (nat_lit 1490, (o1490 P)) :: (nat_lit 1492, (o1492 P)) :: (nat_lit 1493, (o1493 P)) :: (nat_lit 1494, (o1494 P)) :: (nat_lit 1496, (o1496 P)) :: (nat_lit 1497, (o1497 P)) :: (nat_lit 1499, (o1499 P)) :: (nat_lit 1500, (o1500 P)) :: (nat_lit 1501, (o1501 P)) :: (nat_lit 1502, (o1502 P)) :: (nat_lit 1503, (o1503 P)) :: (nat_lit 1504, (o1504 P)) :: (nat_lit 1505, (o1505 P)) :: (nat_lit 1508, (o1508 P)) :: (nat_lit 1509, (o1509 P)) :: (nat_lit 1518, (o1518 P)) :: (nat_lit 1519, (o1519 P)) :: (nat_lit 1521, (o1521 P)) :: (nat_lit 1522, (o1522 P)) :: (nat_lit 1524, (o1524 P)) :: (nat_lit 1525, (o1525 P)) :: (nat_lit 1526, (o1526 P)) :: (nat_lit 1527, (o1527 P)) :: (nat_lit 1529, (o1529 P)) :: (nat_lit 1530, (o1530 P)) :: (nat_lit 1532, (o1532 P)) :: (nat_lit 1533, (o1533 P)) :: (nat_lit 1534, (o1534 P)) :: (nat_lit 1535, (o1535 P)) :: (nat_lit 1536, (o1536 P)) :: (nat_lit 1537, (o1537 P)) :: (nat_lit 1539, (o1539 P)) :: (nat_lit 1540, (o1540 P)) :: (nat_lit 1542, (o1542 P)) :: (nat_lit 1543, (o1543 P)) :: (nat_lit 1544, (o1544 P)) :: (nat_lit 1545, (o1545 P)) :: (nat_lit 1546, (o1546 P)) :: (nat_lit 1547, (o1547 P)) :: (nat_lit 1549, (o1549 P)) :: (nat_lit 1550, (o1550 P)) :: (nat_lit 1552, (o1552 P)) :: (nat_lit 1553, (o1553 P)) :: (nat_lit 1554, (o1554 P)) :: (nat_lit 1556, (o1556 P)) :: (nat_lit 1557, (o1557 P)) :: (nat_lit 1559, (o1559 P)) :: (nat_lit 1560, (o1560 P)) :: (nat_lit 1561, (o1561 P)) :: (nat_lit 1563, (o1563 P)) :: (nat_lit 1564, (o1564 P)) :: (nat_lit 1566, (o1566 P)) :: (nat_lit 1567, (o1567 P)) :: (nat_lit 1568, (o1568 P)) :: (nat_lit 1569, (o1569 P)) :: (nat_lit 1570, (o1570 P)) :: (nat_lit 1571, (o1571 P)) :: (nat_lit 1572, (o1572 P)) :: (nat_lit 1575, (o1575 P)) :: (nat_lit 1576, (o1576 P)) :: (nat_lit 1585, (o1585 P)) :: (nat_lit 1587, (o1587 P)) :: (nat_lit 1588, (o1588 P)) :: (nat_lit 1590, (o1590 P)) :: (nat_lit 1591, (o1591 P)) :: (nat_lit 1592, (o1592 P)) :: (nat_lit 1594, (o1594 P)) :: (nat_lit 1595, (o1595 P)) :: (nat_lit 1597, (o1597 P)) :: (nat_lit 1598, (o1598 P)) :: (nat_lit 1599, (o1599 P)) :: (nat_lit 1600, (o1600 P)) :: (nat_lit 1601, (o1601 P)) :: (nat_lit 1602, (o1602 P)) :: (nat_lit 1603, (o1603 P)) :: (nat_lit 1606, (o1606 P)) :: (nat_lit 1607, (o1607 P)) :: (nat_lit 1608, (o1608 P)) :: (nat_lit 1610, (o1610 P)) :: (nat_lit 1611, (o1611 P)) :: (nat_lit 1613, (o1613 P)) :: (nat_lit 1614, (o1614 P)) :: (nat_lit 1615, (o1615 P)) :: (nat_lit 1617, (o1617 P)) :: (nat_lit 1618, (o1618 P)) :: (nat_lit 1620, (o1620 P)) :: (nat_lit 1621, (o1621 P)) :: (nat_lit 1629, (o1629 P)) :: (nat_lit 1630, (o1630 P)) :: (nat_lit 1632, (o1632 P)) :: (nat_lit 1633, (o1633 P)) :: (nat_lit 1635, (o1635 P)) :: (nat_lit 1636, (o1636 P)) :: (nat_lit 1637, (o1637 P)) :: (nat_lit 1639, (o1639 P)) :: (nat_lit 1640, (o1640 P)) :: (nat_lit 1642, (o1642 P)) :: (nat_lit 1643, (o1643 P)) :: (nat_lit 1644, (o1644 P)) :: (nat_lit 1646, (o1646 P)) :: (nat_lit 1647, (o1647 P)) :: (nat_lit 1649, (o1649 P)) :: (nat_lit 1650, (o1650 P)) :: (nat_lit 1651, (o1651 P)) :: (nat_lit 1653, (o1653 P)) :: (nat_lit 1654, (o1654 P)) :: (nat_lit 1656, (o1656 P)) :: (nat_lit 1657, (o1657 P)) :: (nat_lit 1658, (o1658 P)) :: (nat_lit 1659, (o1659 P)) :: (nat_lit 1660, (o1660 P)) :: (nat_lit 1661, (o1661 P)) :: (nat_lit 1662, (o1662 P)) :: (nat_lit 1672, (o1672 P)) :: (nat_lit 1673, (o1673 P)) :: (nat_lit 1675, (o1675 P)) :: (nat_lit 1676, (o1676 P)) :: (nat_lit 1678, (o1678 P)) :: (nat_lit 1679, (o1679 P)) :: (nat_lit 1680, (o1680 P)) :: (nat_lit 1682, (o1682 P)) :: (nat_lit 1683, (o1683 P)) :: (nat_lit 1685, (o1685 P)) :: (nat_lit 1686, (o1686 P)) :: (nat_lit 1687, (o1687 P)) :: (nat_lit 1689, (o1689 P)) :: (nat_lit 1690, (o1690 P)) :: (nat_lit 1692, (o1692 P)) :: (nat_lit 1693, (o1693 P)) :: (nat_lit 1694, (o1694 P)) :: (nat_lit 1695, (o1695 P)) :: (nat_lit 1696, (o1696 P)) :: (nat_lit 1697, (o1697 P)) :: (nat_lit 1698, (o1698 P)) :: (nat_lit 1701, (o1701 P)) :: (nat_lit 1703, (o1703 P)) :: (nat_lit 1704, (o1704 P)) :: (nat_lit 1706, (o1706 P)) :: (nat_lit 1707, (o1707 P)) :: (nat_lit 1708, (o1708 P)) :: (nat_lit 1710, (o1710 P)) :: (nat_lit 1711, (o1711 P)) :: (nat_lit 1713, (o1713 P)) :: (nat_lit 1714, (o1714 P)) :: (nat_lit 1715, (o1715 P)) :: (nat_lit 1716, (o1716 P)) :: (nat_lit 1718, (o1718 P)) :: (nat_lit 1719, (o1719 P)) :: (nat_lit 1721, (o1721 P)) :: (nat_lit 1722, (o1722 P)) :: (nat_lit 1723, (o1723 P)) :: (nat_lit 1725, (o1725 P)) :: (nat_lit 1726, (o1726 P)) :: (nat_lit 1728, (o1728 P)) :: (nat_lit 1729, (o1729 P)) :: (nat_lit 1730, (o1730 P)) :: (nat_lit 1732, (o1732 P)) :: (nat_lit 1733, (o1733 P)) :: (nat_lit 1735, (o1735 P)) :: (nat_lit 1736, (o1736 P)) :: (nat_lit 1737, (o1737 P)) :: (nat_lit 1739, (o1739 P)) :: (nat_lit 1740, (o1740 P)) :: (nat_lit 1742, (o1742 P)) :: (nat_lit 1743, (o1743 P)) :: (nat_lit 1744, (o1744 P)) :: (nat_lit 1746, (o1746 P)) :: (nat_lit 1747, (o1747 P)) :: (nat_lit 1749, (o1749 P)) :: (nat_lit 1750, (o1750 P)) :: (nat_lit 1751, (o1751 P)) :: (nat_lit 1752, (o1752 P)) :: (nat_lit 1754, (o1754 P)) :: (nat_lit 1755, (o1755 P)) :: (nat_lit 1757, (o1757 P)) :: (nat_lit 1758, (o1758 P)) :: (nat_lit 1759, (o1759 P)) :: (nat_lit 1762, (o1762 P)) :: (nat_lit 1763, (o1763 P)) :: (nat_lit 1764, (o1764 P)) :: (nat_lit 1766, (o1766 P)) :: (nat_lit 1767, (o1767 P)) :: (nat_lit 1769, (o1769 P)) :: (nat_lit 1770, (o1770 P)) :: (nat_lit 1771, (o1771 P)) :: (nat_lit 1774, (o1774 P)) :: (nat_lit 1775, (o1775 P)) :: []
noncomputable def KA : List Addr := nat_lit 2 :: nat_lit 3 :: nat_lit 15 :: nat_lit 17 :: nat_lit 18 :: nat_lit 20 :: nat_lit 21 :: nat_lit 22 :: nat_lit 29 :: nat_lit 30 :: nat_lit 31 :: nat_lit 32 :: nat_lit 35 :: nat_lit 38 :: nat_lit 43 :: nat_lit 44 :: nat_lit 46 :: nat_lit 47 :: nat_lit 49 :: nat_lit 50 :: nat_lit 51 :: nat_lit 52 :: nat_lit 53 :: nat_lit 56 :: nat_lit 59 :: nat_lit 64 :: nat_lit 65 :: nat_lit 67 :: nat_lit 68 :: nat_lit 70 :: nat_lit 71 :: nat_lit 72 :: nat_lit 73 :: nat_lit 74 :: nat_lit 77 :: nat_lit 80 :: nat_lit 85 :: nat_lit 86 :: nat_lit 88 :: nat_lit 89 :: nat_lit 91 :: nat_lit 92 :: nat_lit 93 :: nat_lit 94 :: nat_lit 95 :: nat_lit 98 :: nat_lit 101 :: nat_lit 106 :: nat_lit 107 :: nat_lit 108 :: nat_lit 110 :: nat_lit 111 :: nat_lit 113 :: nat_lit 114 :: nat_lit 115 :: nat_lit 116 :: nat_lit 117 :: nat_lit 120 :: nat_lit 123 :: nat_lit 128 :: nat_lit 129 :: nat_lit 131 :: nat_lit 132 :: nat_lit 134 :: nat_lit 135 :: nat_lit 136 :: nat_lit 137 :: nat_lit 138 :: nat_lit 141 :: nat_lit 144 :: nat_lit 149 :: nat_lit 150 :: nat_lit 151 :: nat_lit 153 :: nat_lit 154 :: nat_lit 156 :: nat_lit 157 :: nat_lit 158 :: nat_lit 159 :: nat_lit 160 :: nat_lit 1450 :: nat_lit 1451 :: nat_lit 1453 :: nat_lit 1454 :: nat_lit 1456 :: nat_lit 1457 :: nat_lit 1458 :: nat_lit 1460 :: nat_lit 1461 :: nat_lit 1463 :: nat_lit 1464 :: nat_lit 1465 :: nat_lit 1467 :: nat_lit 1468 :: nat_lit 1470 :: nat_lit 1471 :: nat_lit 1479 :: nat_lit 1480 :: nat_lit 1482 :: nat_lit 1483 :: nat_lit 1485 :: nat_lit 1486 :: nat_lit 1487 :: nat_lit 1489 :: nat_lit 1490 :: nat_lit 1492 :: nat_lit 1493 :: nat_lit 1494 :: nat_lit 1496 :: nat_lit 1497 :: nat_lit 1499 :: nat_lit 1500 :: nat_lit 1501 :: nat_lit 1502 :: nat_lit 1503 :: nat_lit 1504 :: nat_lit 1505 :: nat_lit 1508 :: nat_lit 1509 :: nat_lit 1518 :: nat_lit 1519 :: nat_lit 1521 :: nat_lit 1522 :: nat_lit 1524 :: nat_lit 1525 :: nat_lit 1526 :: nat_lit 1527 :: nat_lit 1529 :: nat_lit 1530 :: nat_lit 1532 :: nat_lit 1533 :: nat_lit 1534 :: nat_lit 1535 :: nat_lit 1536 :: nat_lit 1537 :: nat_lit 1539 :: nat_lit 1540 :: nat_lit 1542 :: nat_lit 1543 :: nat_lit 1544 :: nat_lit 1545 :: nat_lit 1546 :: nat_lit 1547 :: nat_lit 1549 :: nat_lit 1550 :: nat_lit 1552 :: nat_lit 1553 :: nat_lit 1554 :: nat_lit 1556 :: nat_lit 1557 :: nat_lit 1559 :: nat_lit 1560 :: nat_lit 1561 :: nat_lit 1563 :: nat_lit 1564 :: nat_lit 1566 :: nat_lit 1567 :: nat_lit 1568 :: nat_lit 1569 :: nat_lit 1570 :: nat_lit 1571 :: nat_lit 1572 :: nat_lit 1575 :: nat_lit 1576 :: nat_lit 1585 :: nat_lit 1587 :: nat_lit 1588 :: nat_lit 1590 :: nat_lit 1591 :: nat_lit 1592 :: nat_lit 1594 :: nat_lit 1595 :: nat_lit 1597 :: nat_lit 1598 :: nat_lit 1599 :: nat_lit 1600 :: nat_lit 1601 :: nat_lit 1602 :: nat_lit 1603 :: nat_lit 1606 :: nat_lit 1607 :: nat_lit 1608 :: nat_lit 1610 :: nat_lit 1611 :: nat_lit 1613 :: nat_lit 1614 :: nat_lit 1615 :: nat_lit 1617 :: nat_lit 1618 :: nat_lit 1620 :: nat_lit 1621 :: nat_lit 1629 :: nat_lit 1630 :: nat_lit 1632 :: nat_lit 1633 :: nat_lit 1635 :: nat_lit 1636 :: nat_lit 1637 :: nat_lit 1639 :: nat_lit 1640 :: nat_lit 1642 :: nat_lit 1643 :: nat_lit 1644 :: nat_lit 1646 :: nat_lit 1647 :: nat_lit 1649 :: nat_lit 1650 :: nat_lit 1651 :: nat_lit 1653 :: nat_lit 1654 :: nat_lit 1656 :: nat_lit 1657 :: nat_lit 1658 :: nat_lit 1659 :: nat_lit 1660 :: nat_lit 1661 :: nat_lit 1662 :: nat_lit 1672 :: nat_lit 1673 :: nat_lit 1675 :: nat_lit 1676 :: nat_lit 1678 :: nat_lit 1679 :: nat_lit 1680 :: nat_lit 1682 :: nat_lit 1683 :: nat_lit 1685 :: nat_lit 1686 :: nat_lit 1687 :: nat_lit 1689 :: nat_lit 1690 :: nat_lit 1692 :: nat_lit 1693 :: nat_lit 1694 :: nat_lit 1695 :: nat_lit 1696 :: nat_lit 1697 :: nat_lit 1698 :: nat_lit 1701 :: nat_lit 1703 :: nat_lit 1704 :: nat_lit 1706 :: nat_lit 1707 :: nat_lit 1708 :: nat_lit 1710 :: nat_lit 1711 :: nat_lit 1713 :: nat_lit 1714 :: nat_lit 1715 :: nat_lit 1716 :: nat_lit 1718 :: nat_lit 1719 :: nat_lit 1721 :: nat_lit 1722 :: nat_lit 1723 :: nat_lit 1725 :: nat_lit 1726 :: nat_lit 1728 :: nat_lit 1729 :: nat_lit 1730 :: nat_lit 1732 :: nat_lit 1733 :: nat_lit 1735 :: nat_lit 1736 :: nat_lit 1737 :: nat_lit 1739 :: nat_lit 1740 :: nat_lit 1742 :: nat_lit 1743 :: nat_lit 1744 :: nat_lit 1746 :: nat_lit 1747 :: nat_lit 1749 :: nat_lit 1750 :: nat_lit 1751 :: nat_lit 1752 :: nat_lit 1754 :: nat_lit 1755 :: nat_lit 1757 :: nat_lit 1758 :: nat_lit 1759 :: nat_lit 1762 :: nat_lit 1763 :: nat_lit 1764 :: nat_lit 1766 :: nat_lit 1767 :: nat_lit 1769 :: nat_lit 1770 :: nat_lit 1771 :: nat_lit 1774 :: nat_lit 1775 :: []
abbrev rr : RowW := OpenRow.toRowW (OpenLaw.row PySem.Challenge.rw_bi0020_03)
theorem KAe (P : Params) : KA = (K P).map (·.1) := by kernel_rfl!
abbrev Hk : Hook := kHook K KA KAe
abbrev Xt : Shared → Bool := fun s => xlAt q [] s && recOk (RowW.records rr) s
theorem size0 (w : World) : ((boot_heap w.params).isNs mainGlobals && (⟨[]⟩ : Array GenState).size == 0, (boot_heap w.params).objs.size, (boot_heap w.params).nsMap mainGlobals "__annotations__") = (true, 11, ann0) := by kernel_rfl!
theorem bp0 (w : World) : (importEnds treeTable (opening pw) w 600 (start (opening pw)).1 (start (opening pw)).2).map (fun s => (s.heap, s.gens, s.drawn, s.toks)) = some (boot_heap w.params, ⟨[]⟩, boot_drawn, boot_toks) := by kernel_rfl!
theorem fence0 (s : Shared) : fenceModules? pw s = some s := by kernel_rfl!
theorem op0 (w : World) : (fencedOpening treeTable pw w 59106).map (fun s => (s.heap, s.gens, s.drawn, s.toks)) = some (boot_heap w.params, ⟨[]⟩, boot_drawn, boot_toks) := by
  obtain ⟨s, hs, hv⟩ := Option.map_eq_some_iff.mp (bp0 w)
  have m := importEnds_mono (59106 - 600) _ _ _ _ hs
  unfold fencedOpening
  rw [show 600 + (59106 - 600) = 59106 by decide] at m
  rw [m]
  show ((fenceModules? pw s)).map _ = _
  rw [fence0 s]
  exact congrArg some hv
abbrev osT := @PySem.W.Fast.tw4187177175401517315
abbrev md : List Str := importedModules pw.main.body
theorem look1 (w : World) : (fun _ => some (staticsOk md (boot_heap w.params) (H1 w.params), namesBound pw (H1 w.params), laidKept (boot_heap w.params) (H1 w.params))) ((#[some (true, true, true)])[0]?) = some (true, true, true) := by k_slotget
abbrev Sfin (w : World) (os : OsState) : Shared := ⟨H1 w.params, ⟨[]⟩, boot_drawn, 1661, os⟩
theorem getAll {t : BT} {n : Nat} {l : Life} : ∀ {K : Frag}, (K.all fun p => Nat.blt p.1 n) = true → (K.map fun p => t.get p.1) = K.map (fun p => some p.2) → (K.map fun p => alive p.2) = K.map (fun p => some p.2) → (K.map (·.1)).map (absHeap t n l).get? = K.map (fun p => some p.2)
  | [], _, _, _ => rfl
  | p :: K, h1, h2, h3 => by
    simp only [List.all_cons, Bool.and_eq_true, List.map_cons, List.cons.injEq] at h1 h2 h3 ⊢
    exact ⟨(abs_get (Nat.le_of_ble_eq_true h1.1) h2.1).trans h3.1, getAll h1.2 h2.2 h3.2⟩
theorem look4a (w : World) : (fun _ => some ((K w.params).all (fun p => Nat.blt p.1 1776), (K w.params).map (fun p => (T43 w.params).get p.1), (K w.params).map (fun p => alive p.2))) ((#[some (true, (K w.params).map (fun p => some p.2), (K w.params).map (fun p => some p.2))])[0]?) = some (true, (K w.params).map (fun p => some p.2), (K w.params).map (fun p => some p.2)) := by k_slotget
theorem look4 (w : World) (os : OsState) : Hook.obs Hk (Sfin w os) = Hook.val Hk w := by
  have h := Option.some.inj (look4a w)
  show KA.map (absHeap (T43 w.params) 1776 boot_life).get? = (K w.params).map (fun p => some p.2)
  rw [KAe w.params]
  exact getAll (Prod.mk.inj h).1 (Prod.mk.inj (Prod.mk.inj h).2).1 (Prod.mk.inj (Prod.mk.inj h).2).2
theorem look5 (w : World) (os : OsState) : (fun _ => some (openSeen q looseL md Xt true (Sfin w os))) ((#[some (openGood q looseL)])[0]?) = some (openGood q looseL) := by k_slotget

end Mine
end
end

section
set_option maxRecDepth 100000
set_option maxHeartbeats 0
set_option linter.unusedVariables false
set_option Elab.async false
open PySem PySem.W PyProof.Rows
noncomputable section
namespace Mine

theorem left0 : LeftO pw q looseL Xt (Hook.obs Hk) (Hook.val Hk) 59106 :=
  LeftO.of_pieces (H₀ := boot_heap) (H₁ := H1) (gs₀ := ⟨[]⟩) (gs₁ := ⟨[]⟩) (d₀ := boot_drawn) (d₁ := boot_drawn) (k₀ := boot_toks) (k₁ := 1661) (m₀ := 11) (ann := ann0) (M := 29553) op0 size0 run0 (by decide)
    (fun w => funext fun os => by
      refine Prod.ext ?_ (Prod.ext ?_ ?_)
      · have h := Option.some.inj (look1 w)
        show (staticsOk md (boot_heap w.params) (H1 w.params) && namesBound pw (H1 w.params) && gensDone (Sfin w os) && laidKept (boot_heap w.params) (H1 w.params)) = true
        rw [(Prod.mk.inj h).1, (Prod.mk.inj (Prod.mk.inj h).2).1, (Prod.mk.inj (Prod.mk.inj h).2).2]; rfl
      · exact Option.some.inj (look5 w os)
      · exact look4 w os)
noncomputable def dL : DefRec := ⟨Str.ofString "law", fargs (st 42), fbody (st 42), fscope (st 42), fpos (st 42)⟩
theorem def0 : defOf q rr.name = some (dL, []) := by kernel_rfl!
theorem def1 : rr.prog.theDef rr.name = some (dL.params, dL.body, dL.scope) := by kernel_rfl!
theorem def2 : kwWritten? dL.params.kwonlyargs dL.params.kw_defaults = some [] := by kernel_rfl!
abbrev Walk : Prop := WalkO q looseL (XL q []) Hk.says rr dL [] (fun f vs => PySem.call f vs)
theorem hd (said : (OpenLaw.row PySem.Challenge.rw_bi0020_03).wellSaid = true) (hc : Walk) : (OpenLaw.row PySem.Challenge.rw_bi0020_03).Holds := by
  refine holds_open (q := q) (loose := looseL) (Xt := Xt) (XP := XL q []) (Yf := Hook.obs Hk) (Ya := Hook.val Hk) (YP := Hook.says Hk) (N := 59106) left0 (Hook.of Hk) (Hook.keeps Hk) (fun s e => xl_of s (Bool.and_eq_true_iff.mp e).1) XL.keeps def0 def1 def2 (fun s e => recFacts_of (Bool.and_eq_true_iff.mp e).2) (by rfl) said (by decide +kernel) ⟨rfl, rfl, rfl, rfl, rfl, by decide +kernel⟩ ?hw hc
  case hw => w_witness2

end Mine
end
end

section
/-! the plain law: what the codec computes, in plain Lean -/
namespace Rlp
/-- a value of the codec: octets, or a row -/
inductive D where
  | b (x : List UInt8)
  | l (xs : List D)

/-- the octets of n, the most significant first, k of them -/
def beK : Nat → Nat → List UInt8
  | 0, _ => []
  | k + 1, n => beK k (n / 256) ++ [UInt8.ofNat (n % 256)]
/-- how many octets n has, at least one -/
def octs (n : Nat) : Nat := if n < 256 then 1 else octs (n / 256) + 1
termination_by n
def be (n : Nat) : List UInt8 := beK (octs n) n
def ofBe (x : List UInt8) : Nat := x.foldl (fun a c => a * 256 + c.toNat) 0
/-- a head -/
def pre (n off : Nat) : List UInt8 := if n < 56 then [UInt8.ofNat (off + n)] else UInt8.ofNat (off + 55 + octs n) :: be n

mutual
def enc : D → List UInt8
  | .b x => match x with
    | [c] => if c.toNat < 128 then [c] else pre 1 128 ++ [c]
    | x => pre x.length 128 ++ x
  | .l xs => pre (encs xs).length 192 ++ encs xs
def encs : List D → List UInt8
  | [] => []
  | d :: r => enc d ++ encs r
end

theorem beK_length : ∀ k n, (beK k n).length = k
  | 0, _ => rfl
  | k + 1, n => by simp [beK, beK_length k]
theorem octs_pos (n : Nat) : 0 < octs n := by unfold octs; split <;> omega
theorem lt_octs (n : Nat) : n < 256 ^ octs n := by
  induction n using Nat.strongRecOn with
  | ind n ih =>
    unfold octs
    split
    · simpa using by assumption
    · have h := ih (n / 256) (by omega)
      rw [Nat.pow_succ]; omega
theorem octs_le {n k : Nat} (hk : 0 < k) (h : n < 256 ^ k) : octs n ≤ k := by
  induction k generalizing n with
  | zero => omega
  | succ k ih =>
    unfold octs
    split
    · omega
    · rename_i h2
      cases k with
      | zero => simp at h; omega
      | succ k =>
        have := ih (n := n / 256) (by omega) (by rw [Nat.pow_succ] at h; omega)
        omega
theorem octs_ge {n : Nat} (h : 256 ≤ n) : 256 ^ (octs n - 1) ≤ n := by
  induction n using Nat.strongRecOn with
  | ind n ih =>
    unfold octs
    rw [if_neg (by omega)]
    by_cases h2 : n / 256 < 256
    · have : octs (n / 256) = 1 := by unfold octs; rw [if_pos h2]
      rw [this]; simpa using h
    · have h3 := ih (n / 256) (by omega) (by omega)
      have h4 := octs_pos (n / 256)
      obtain ⟨j, hj⟩ : ∃ j, octs (n / 256) = j + 1 := ⟨octs (n / 256) - 1, by omega⟩
      rw [hj] at h3 ⊢
      simp only [Nat.add_sub_cancel] at h3 ⊢
      rw [Nat.pow_succ]
      omega
theorem ofBe_append (x : List UInt8) (c : UInt8) : ofBe (x ++ [c]) = ofBe x * 256 + c.toNat := by simp [ofBe]
theorem ofBe_beK : ∀ k n, n < 256 ^ k → ofBe (beK k n) = n
  | 0, n, h => by simp at h; subst h; rfl
  | k + 1, n, h => by
    rw [beK, ofBe_append, ofBe_beK k (n / 256) (by rw [Nat.pow_succ] at h; omega)]
    rw [UInt8.toNat_ofNat']
    omega
theorem ofBe_be (n : Nat) : ofBe (be n) = n := ofBe_beK _ _ (lt_octs n)
theorem be_length (n : Nat) : (be n).length = octs n := beK_length _ _
theorem fold_ge : ∀ (x : List UInt8) (a : Nat), a * 256 ^ x.length ≤ x.foldl (fun a c => a * 256 + c.toNat) a ∧ x.foldl (fun a c => a * 256 + c.toNat) a < (a + 1) * 256 ^ x.length
  | [], a => by simp
  | c :: r, a => by
    have h := fold_ge r (a * 256 + c.toNat)
    have hc := c.toNat_lt
    rw [List.foldl_cons, List.length_cons, Nat.pow_succ]
    have e1 : a * (256 ^ r.length * 256) = (a * 256) * 256 ^ r.length := by rw [Nat.mul_comm (256 ^ r.length) 256, Nat.mul_assoc]
    have e2 : (a + 1) * (256 ^ r.length * 256) = (a * 256 + 256) * 256 ^ r.length := by rw [Nat.mul_comm (256 ^ r.length) 256, ← Nat.mul_assoc, Nat.add_mul, Nat.one_mul]
    rw [e1, e2]
    exact ⟨Nat.le_trans (Nat.mul_le_mul_right _ (by omega)) h.1, Nat.lt_of_lt_of_le h.2 (Nat.mul_le_mul_right _ (by omega))⟩
theorem ofBe_lt (x : List UInt8) : ofBe x < 256 ^ x.length := by have := (fold_ge x 0).2; simpa [ofBe] using this
theorem ofBe_cons (c : UInt8) (r : List UInt8) : c.toNat * 256 ^ r.length ≤ ofBe (c :: r) := by have := (fold_ge r c.toNat).1; simpa [ofBe] using this
theorem beK_ofBe : ∀ (x : List UInt8), beK x.length (ofBe x) = x := by
  intro x
  generalize hn : x.length = n
  induction n generalizing x with
  | zero => rw [List.eq_nil_of_length_eq_zero hn]; rfl
  | succ n ih =>
    obtain ⟨y, c, rfl⟩ : ∃ y c, x = y ++ [c] := by
      cases hx : x.reverse with
      | nil => simp at hx; subst hx; simp at hn
      | cons c r => exact ⟨r.reverse, c, by rw [← List.reverse_reverse x, hx, List.reverse_cons]⟩
    have hy : y.length = n := by simpa using hn
    rw [ofBe_append]
    have hc := c.toNat_lt
    show beK n ((ofBe y * 256 + c.toNat) / 256) ++ [UInt8.ofNat ((ofBe y * 256 + c.toNat) % 256)] = y ++ [c]
    rw [show (ofBe y * 256 + c.toNat) / 256 = ofBe y by omega, show (ofBe y * 256 + c.toNat) % 256 = c.toNat by omega, ih y hy]
    simp
/-- the head with no zero in front is the number's own -/
theorem be_ofBe {c : UInt8} {r : List UInt8} (h : c.toNat ≠ 0 ∨ r = []) : be (ofBe (c :: r)) = c :: r := by
  have hl : octs (ofBe (c :: r)) = (c :: r).length := by
    have h1 := octs_le (n := ofBe (c :: r)) (k := (c :: r).length) (by simp) (ofBe_lt _)
    rcases h with h | rfl
    · have h2 := ofBe_cons c r
      by_cases hr : r = []
      · subst hr; have := octs_pos (ofBe [c]); simp at h1 ⊢; omega
      · have h3 := lt_octs (ofBe (c :: r))
        have h4 : 256 ^ r.length ≤ ofBe (c :: r) := Nat.le_trans (by have : 1 ≤ c.toNat := by omega
                                                                     exact Nat.le_mul_of_pos_left _ this) h2
        have h5 : r.length < octs (ofBe (c :: r)) := (Nat.pow_lt_pow_iff_right (by decide)).mp (Nat.lt_of_le_of_lt h4 h3)
        simp at h1 ⊢; omega
    · have := octs_pos (ofBe [c]); simp at h1 ⊢; omega
  rw [be, hl]; exact beK_ofBe _
end Rlp
end

section
/-! the reader, as the text reckons it -/
namespace Rlp
/-- how a call ends: a value, an IndexError, a DecodingError; `out`: the depth given did not do -/
inductive R (α : Type) where
  | ok (a : α)
  | ix
  | de
  | out
/-- rlp[st : st + n] -/
def slice (x : List UInt8) (st n : Nat) : List UInt8 := (x.drop st).take n

/-- the head at st: its octets, whether a row, the length told, where the payload begins -/
def clp (x : List UInt8) (st : Nat) : R (List UInt8 × Bool × Nat × Nat) :=
  match x[st]? with
  | none => .ix
  | some c =>
    let b := c.toNat
    if b < 128 then .ok ([], false, 1, st)
    else if b < 184 then
      (if b = 129 then (match x[st + 1]? with
          | none => .ix
          | some c' => if c'.toNat < 128 then .de else .ok (slice x st 1, false, 1, st + 1))
        else .ok (slice x st 1, false, b - 128, st + 1))
    else if b < 192 then
      (if slice x (st + 1) 1 = [0] then .de
       else if ofBe (slice x (st + 1) (b - 183)) < 56 then .de
       else .ok (slice x st 1 ++ slice x (st + 1) (b - 183), false, ofBe (slice x (st + 1) (b - 183)), st + 1 + (b - 183)))
    else if b < 248 then .ok (slice x st 1, true, b - 192, st + 1)
    else
      (if slice x (st + 1) 1 = [0] then .de
       else if ofBe (slice x (st + 1) (b - 247)) < 56 then .de
       else .ok (slice x st 1 ++ slice x (st + 1) (b - 247), true, ofBe (slice x (st + 1) (b - 247)), st + 1 + (b - 247)))

/-- the items of a row, from next to fin -/
def clLoop (step : Nat → R (D × List UInt8 × Nat)) (fin : Nat) : Nat → Nat → R (List D × List UInt8 × Nat)
  | 0, next => if next < fin then .out else .ok ([], [], next)
  | n + 1, next => if next < fin then (match step next with
      | .ok (d, r, nx) => (match clLoop step fin n nx with
        | .ok (ds, rs, e) => .ok (d :: ds, r ++ rs, e)
        | .ix => .ix | .de => .de | .out => .out)
      | .ix => .ix | .de => .de | .out => .out)
    else .ok ([], [], next)

/-- the item at st: its value, its octets, where it ends -/
def item (x : List UInt8) : Nat → Nat → R (D × List UInt8 × Nat)
  | 0, _ => .out
  | dep + 1, st => match clp x st with
    | .ok (p, false, l, s) => .ok (.b (slice x s l), p ++ slice x s l, s + l)
    | .ok (p, true, l, s) => (match clLoop (item x dep) (s + l) (l + 1) s with
      | .ok (ds, rs, e) => if e > s + l then .de else .ok (.l ds, p ++ rs, e)
      | .ix => .ix | .de => .de | .out => .out)
    | .ix => .ix | .de => .de | .out => .out

/-- what decode tells: none, a DecodingError -/
def dec (strict : Bool) (dep : Nat) (x : List UInt8) : Option D := match item x dep 0 with
  | .ok (d, _, e) => if e ≠ x.length ∧ strict = true then none else some d
  | _ => none

theorem slice_append {a b : List UInt8} : slice (a ++ b) a.length b.length = b := by simp [slice]
theorem slice_mid {a b c : List UInt8} {st n : Nat} (h1 : st = a.length) (h2 : n = b.length) : slice (a ++ (b ++ c)) st n = b := by
  subst h1 h2; simp [slice]
theorem slice_length (x : List UInt8) (st n : Nat) : (slice x st n).length = min n (x.length - st) := by simp [slice]
theorem get_mid {a c : List UInt8} {b : UInt8} {st : Nat} (h : st = a.length) : (a ++ b :: c)[st]? = some b := by subst h; simp

mutual
def D.depth : D → Nat
  | .b _ => 0
  | .l xs => depths xs + 1
def depths : List D → Nat
  | [] => 0
  | d :: r => max d.depth (depths r)
end

/-- the head of n octets or of a row of n octets, read again -/
theorem clp_pre {a rest : List UInt8} {n : Nat} (hn : n < 256 ^ 8) (row : Bool) (h1 : row = false → n = 1 → ∀ c, rest[0]? = some c → 128 ≤ c.toNat) (h2 : row = false → n = 1 → rest ≠ []) :
    clp (a ++ (pre n (if row then 192 else 128) ++ rest)) a.length = .ok (pre n (if row then 192 else 128), row, n, a.length + (pre n (if row then 192 else 128)).length) := by
  unfold pre
  split
  · rename_i hs
    have hc : (UInt8.ofNat ((if row = true then 192 else 128) + n)).toNat = (if row = true then 192 else 128) + n := by
      rw [UInt8.toNat_ofNat']; split <;> omega
    have hget : (a ++ ([UInt8.ofNat ((if row = true then 192 else 128) + n)] ++ rest))[a.length]? = some (UInt8.ofNat ((if row = true then 192 else 128) + n)) := get_mid rfl
    have hsl : slice (a ++ ([UInt8.ofNat ((if row = true then 192 else 128) + n)] ++ rest)) a.length 1 = [UInt8.ofNat ((if row = true then 192 else 128) + n)] := slice_mid rfl rfl
    unfold clp
    rw [hget]
    dsimp only
    rw [hc, hsl]
    cases row with
    | false =>
      try simp only [Bool.false_eq_true, if_false]
      rw [if_neg (by omega), if_pos (by omega)]
      by_cases h129 : 128 + n = 129
      · have h1n : n = 1 := by omega
        rw [if_pos h129]
        have hne := h2 rfl h1n
        cases rest with
        | nil => exact absurd rfl hne
        | cons c r =>
          have hg2 : (a ++ ([UInt8.ofNat (128 + n)] ++ c :: r))[a.length + 1]? = some c := by
            rw [show a ++ ([UInt8.ofNat (128 + n)] ++ c :: r) = (a ++ [UInt8.ofNat (128 + n)]) ++ c :: r by simp]
            exact get_mid (by simp)
          try simp only [Bool.false_eq_true, if_false] at hg2 ⊢
          rw [hg2]
          dsimp only
          have := h1 rfl h1n c rfl
          rw [if_neg (by omega), h1n]
          rfl
      · rw [if_neg h129]
        simp
    | true =>
      try simp only [if_true]
      rw [if_neg (by omega), if_neg (by omega), if_neg (by omega), if_pos (by omega)]
      simp
  · rename_i hs
    have ho := octs_le (n := n) (k := 8) (by decide) hn
    have ho1 := octs_pos n
    have hc : (UInt8.ofNat ((if row = true then 192 else 128) + 55 + octs n)).toNat = (if row = true then 192 else 128) + 55 + octs n := by
      rw [UInt8.toNat_ofNat']; split <;> omega
    generalize hC : UInt8.ofNat ((if row = true then 192 else 128) + 55 + octs n) = C at hc
    have hget : (a ++ (C :: be n ++ rest))[a.length]? = some C := get_mid rfl
    have hsl : slice (a ++ (C :: be n ++ rest)) a.length 1 = [C] := slice_mid (b := [C]) (c := be n ++ rest) rfl rfl
    have hsl2 : slice (a ++ (C :: be n ++ rest)) (a.length + 1) (octs n) = be n := by
      rw [show a ++ (C :: be n ++ rest) = (a ++ [C]) ++ (be n ++ rest) by simp]
      exact slice_mid (by simp) (by rw [be_length])
    have hhead : slice (a ++ (C :: be n ++ rest)) (a.length + 1) 1 ≠ [0] := by
      intro h
      have hb : be n ≠ [] := fun e => by have := be_length n; rw [e] at this; simp at this; omega
      cases hbe : be n with
      | nil => exact hb hbe
      | cons c r =>
        rw [show a ++ (C :: be n ++ rest) = (a ++ [C]) ++ ([c] ++ (r ++ rest)) by rw [hbe]; simp] at h
        rw [slice_mid (a := a ++ [C]) (b := [c]) (c := r ++ rest) (st := a.length + 1) (n := 1) (by simp) rfl] at h
        have h0 : c = 0 := by simpa using h
        have hl := be_length n
        rw [hbe] at hl
        have hv := ofBe_be n
        rw [hbe, h0] at hv
        have hlt := ofBe_lt r
        have hv2 : ofBe r = n := by simpa [ofBe] using hv
        rw [hv2] at hlt
        have : octs n ≤ r.length := by
          by_cases hr : r.length = 0
          · rw [hr] at hlt; simp at hlt; omega
          · exact octs_le (by omega) hlt
        simp at hl
        omega
    unfold clp
    rw [hget]
    dsimp only
    rw [hc, hsl]
    have hv := ofBe_be n
    cases row with
    | false =>
      simp only [Bool.false_eq_true, if_false] at hhead hc ⊢
      rw [if_neg (by omega), if_neg (by omega), if_pos (by omega), if_neg hhead]
      rw [show 128 + 55 + octs n - 183 = octs n by omega, hsl2, hv, if_neg hs]
      simp [be_length]; omega
    | true =>
      simp only [if_true] at hhead hc ⊢
      rw [if_neg (by omega), if_neg (by omega), if_neg (by omega), if_neg (by omega), if_neg hhead]
      rw [show 192 + 55 + octs n - 247 = octs n by omega, hsl2, hv, if_neg hs]
      simp [be_length]; omega
end Rlp
end

section
namespace Rlp
theorem pre_length_pos (n off : Nat) : 0 < (pre n off).length := by unfold pre; split <;> simp
theorem enc_length_pos : ∀ d : D, 0 < (enc d).length
  | .b x => by
    unfold enc
    split
    · split <;> simp [pre]
    · have := pre_length_pos x.length 128; simp; omega
  | .l xs => by unfold enc; have := pre_length_pos (encs xs).length 192; simp; omega

theorem item_succ (x : List UInt8) (dep st : Nat) : item x (dep + 1) st = (match clp x st with
    | .ok (p, false, l, s) => .ok (.b (slice x s l), p ++ slice x s l, s + l)
    | .ok (p, true, l, s) => (match clLoop (item x dep) (s + l) (l + 1) s with
      | .ok (ds, rs, e) => if e > s + l then .de else .ok (.l ds, p ++ rs, e)
      | .ix => .ix | .de => .de | .out => .out)
    | .ix => .ix | .de => .de | .out => .out) := rfl

mutual
/-- what is written is read again -/
theorem item_enc (d : D) (dep : Nat) (a rest : List UInt8) (hd : d.depth < dep) (hz : (enc d).length < 256 ^ 8) :
    item (a ++ (enc d ++ rest)) dep a.length = .ok (d, enc d, a.length + (enc d).length) := by
  obtain ⟨dep, rfl⟩ : ∃ k, dep = k + 1 := ⟨dep - 1, by omega⟩
  match d with
  | .b x =>
    by_cases h1 : ∃ c, x = [c] ∧ c.toNat < 128
    · obtain ⟨c, rfl, hc⟩ := h1
      have he : enc (.b [c]) = [c] := by simp [enc, hc]
      rw [he, item_succ]
      have hg : (a ++ ([c] ++ rest))[a.length]? = some c := get_mid rfl
      have hcl : clp (a ++ ([c] ++ rest)) a.length = .ok ([], false, 1, a.length) := by
        unfold clp; rw [hg]; dsimp only; rw [if_pos hc]
      rw [hcl]
      dsimp only
      have hs : slice (a ++ ([c] ++ rest)) a.length 1 = [c] := slice_mid rfl rfl
      rw [hs]; rfl
    · have he : enc (.b x) = pre x.length 128 ++ x := by
        unfold enc
        split
        · rename_i c
          rw [if_neg (fun h => h1 ⟨c, rfl, h⟩)]; rfl
        · rfl
      have hz' : x.length < 256 ^ 8 := by rw [he] at hz; simp at hz; omega
      rw [he, item_succ]
      have hcl := clp_pre (a := a) (rest := x ++ rest) (n := x.length) hz' false (fun _ hn c hc => by
          match x, hn with
          | [c'], _ =>
            simp at hc; subst hc
            exact Nat.le_of_not_lt fun h => h1 ⟨c', rfl, h⟩) (fun _ hn h => by
          match x, hn with
          | [c'], _ => simp at h)
      simp only [Bool.false_eq_true, if_false] at hcl
      rw [show a ++ (pre x.length 128 ++ x ++ rest) = a ++ (pre x.length 128 ++ (x ++ rest)) by simp, hcl]
      dsimp only
      have hs : slice (a ++ (pre x.length 128 ++ (x ++ rest))) (a.length + (pre x.length 128).length) x.length = x := by
        rw [← List.append_assoc]; exact slice_mid (by simp) rfl
      rw [hs]; simp [Nat.add_assoc]
  | .l xs =>
    have he : enc (.l xs) = pre (encs xs).length 192 ++ encs xs := by unfold enc; rfl
    have hz' : (encs xs).length < 256 ^ 8 := by rw [he] at hz; simp at hz; omega
    rw [he, item_succ]
    have hcl := clp_pre (a := a) (rest := encs xs ++ rest) (n := (encs xs).length) hz' true (fun h => by cases h) (fun h => by cases h)
    simp only [if_true] at hcl
    rw [show a ++ (pre (encs xs).length 192 ++ encs xs ++ rest) = a ++ (pre (encs xs).length 192 ++ (encs xs ++ rest)) by simp, hcl]
    dsimp only
    have hd' : depths xs < dep := by simp only [D.depth] at hd; omega
    have hl := loop_enc xs dep (a ++ pre (encs xs).length 192) rest ((encs xs).length + 1) hd' hz' (by omega)
    simp only [List.append_assoc, List.length_append] at hl
    rw [hl]
    simp [Nat.add_assoc]
theorem loop_enc (xs : List D) (dep : Nat) (a rest : List UInt8) (n : Nat) (hd : depths xs < dep) (hz : (encs xs).length < 256 ^ 8) (hn : (encs xs).length < n) :
    clLoop (item (a ++ (encs xs ++ rest)) dep) (a.length + (encs xs).length) n a.length = .ok (xs, encs xs, a.length + (encs xs).length) := by
  obtain ⟨n, rfl⟩ : ∃ k, n = k + 1 := ⟨n - 1, by omega⟩
  match xs with
  | [] => simp [clLoop, encs]
  | d :: r =>
    have hd : max d.depth (depths r) < dep := by simpa [depths] using hd
    have he : encs (d :: r) = enc d ++ encs r := by rw [encs]
    have hp := enc_length_pos d
    rw [he] at hz hn ⊢
    simp only [List.length_append] at hz hn ⊢
    unfold clLoop
    rw [if_pos (by omega)]
    have h1 := item_enc d dep a (encs r ++ rest) (by omega) (by omega)
    rw [show a ++ (enc d ++ encs r ++ rest) = a ++ (enc d ++ (encs r ++ rest)) by simp, h1]
    dsimp only
    have h2 := loop_enc r dep (a ++ enc d) rest n (by omega) (by omega) (by omega)
    simp only [List.append_assoc, List.length_append] at h2
    rw [← Nat.add_assoc, h2]
end

/-- a head within the octets is the head of its length -/
theorem clp_back {x p : List UInt8} {st l s : Nat} {row : Bool} (h : clp x st = .ok (p, row, l, s)) (hs : s ≤ x.length) (hl : row = false → s + l ≤ x.length) :
    (row = false ∧ l = 1 ∧ s = st ∧ p = [] ∧ ∃ c, x[st]? = some c ∧ c.toNat < 128) ∨
    (p = pre l (if row then 192 else 128) ∧ s = st + p.length ∧ slice x st p.length = p ∧ (row = false → l = 1 → ∃ c, x[s]? = some c ∧ 128 ≤ c.toNat)) := by
  unfold clp at h
  cases hx : x[st]? with
  | none => rw [hx] at h; cases h
  | some c =>
    rw [hx] at h
    dsimp only at h
    have hst : st < x.length := by
      rcases Nat.lt_or_ge st x.length with q | q
      · exact q
      · rw [List.getElem?_eq_none q] at hx; cases hx
    have hcl := c.toNat_lt
    have hone : slice x st 1 = [c] := by
      have hd : x.drop st = c :: x.drop (st + 1) := by
        rw [List.drop_eq_getElem_cons hst]
        congr 1
        rw [List.getElem?_eq_getElem hst] at hx
        exact Option.some.inj hx
      simp [slice, hd]
    have hadd : ∀ n, slice x st (1 + n) = [c] ++ slice x (st + 1) n := by
      intro n
      have hd : x.drop st = c :: x.drop (st + 1) := by
        rw [List.drop_eq_getElem_cons hst]
        congr 1
        rw [List.getElem?_eq_getElem hst] at hx
        exact Option.some.inj hx
      simp [slice, hd, Nat.add_comm 1 n]
    -- the long heads
    have long : ∀ (k : Nat) (off : Nat) (rw_ : Bool), 0 < k → k ≤ 8 → c.toNat = off + 55 + k → ¬ slice x (st + 1) 1 = [0] → ¬ ofBe (slice x (st + 1) k) < 56 → st + 1 + k ≤ x.length →
        slice x st 1 ++ slice x (st + 1) k = pre (ofBe (slice x (st + 1) k)) off := by
      intro k off rw_ hk0 hk hc hz h56 hlen
      have hsl : (slice x (st + 1) k).length = k := by rw [slice_length]; omega
      cases hcs : slice x (st + 1) k with
      | nil => rw [hcs] at hsl; simp at hsl; omega
      | cons c1 r1 =>
        have hc1 : c1.toNat ≠ 0 := by
          intro h0
          apply hz
          have : slice x (st + 1) 1 = (slice x (st + 1) k).take 1 := by
            simp only [slice, List.take_take]
            rw [Nat.min_eq_left hk0]
          rw [this, hcs]
          have : c1 = 0 := UInt8.toNat_inj.mp (by simpa using h0)
          simp [this]
        have hbe := be_ofBe (c := c1) (r := r1) (Or.inl hc1)
        have hoc : octs (ofBe (c1 :: r1)) = k := by
          rw [← be_length, hbe, ← hcs, hsl]
        rw [hcs] at h56
        unfold pre
        rw [if_neg h56, hbe, hoc, hone, ← hc]
        simp
    split at h
    · rename_i h1
      simp only [R.ok.injEq, Prod.mk.injEq] at h
      obtain ⟨rfl, rfl, rfl, rfl⟩ := h
      exact Or.inl ⟨rfl, rfl, rfl, rfl, c, rfl, h1⟩
    · rename_i h1
      split at h
      · rename_i h2
        split at h
        · rename_i h3
          split at h
          · cases h
          · rename_i c' hc'
            split at h
            · cases h
            · rename_i h4
              simp only [R.ok.injEq, Prod.mk.injEq] at h
              obtain ⟨rfl, rfl, rfl, rfl⟩ := h
              refine Or.inr ⟨?_, by simp [hone], by rw [hone]; exact hone, fun _ _ => ⟨c', hc', by omega⟩⟩
              rw [hone]
              have : c = UInt8.ofNat (128 + 1) := UInt8.toNat_inj.mp (by rw [UInt8.toNat_ofNat']; omega)
              simp [pre, this]
        · rename_i h3
          simp only [R.ok.injEq, Prod.mk.injEq] at h
          obtain ⟨rfl, rfl, rfl, rfl⟩ := h
          refine Or.inr ⟨?_, by simp [hone], by rw [hone]; exact hone, fun _ h5 => by omega⟩
          rw [hone]
          have h6 : c.toNat - 128 < 56 := by omega
          have : c = UInt8.ofNat (128 + (c.toNat - 128)) := UInt8.toNat_inj.mp (by rw [UInt8.toNat_ofNat']; omega)
          unfold pre
          rw [if_pos h6]
          simpa using this
      · rename_i h2
        split at h
        · rename_i h3
          split at h
          · cases h
          · rename_i h4
            split at h
            · cases h
            · rename_i h5
              simp only [R.ok.injEq, Prod.mk.injEq] at h
              obtain ⟨rfl, rfl, rfl, rfl⟩ := h
              have hk : st + 1 + (c.toNat - 183) ≤ x.length := hs
              have e := long (c.toNat - 183) 128 false (by omega) (by omega) (by omega) h4 h5 hk
              have hlen : (slice x st 1 ++ slice x (st + 1) (c.toNat - 183)).length = 1 + (c.toNat - 183) := by rw [hone, List.length_append, slice_length]; simp; omega
              refine Or.inr ⟨e, by rw [hlen]; omega, by rw [hlen, hadd, hone], fun _ h6 => by omega⟩
        · rename_i h3
          split at h
          · rename_i h4
            simp only [R.ok.injEq, Prod.mk.injEq] at h
            obtain ⟨rfl, rfl, rfl, rfl⟩ := h
            refine Or.inr ⟨?_, by simp [hone], by rw [hone]; exact hone, fun h => by cases h⟩
            rw [hone]
            have h6 : c.toNat - 192 < 56 := by omega
            have : c = UInt8.ofNat (192 + (c.toNat - 192)) := UInt8.toNat_inj.mp (by rw [UInt8.toNat_ofNat']; omega)
            unfold pre
            rw [if_pos h6]
            simpa using this
          · rename_i h4
            split at h
            · cases h
            · rename_i h5
              split at h
              · cases h
              · rename_i h6
                simp only [R.ok.injEq, Prod.mk.injEq] at h
                obtain ⟨rfl, rfl, rfl, rfl⟩ := h
                have hk : st + 1 + (c.toNat - 247) ≤ x.length := hs
                have e := long (c.toNat - 247) 192 true (by omega) (by omega) (by omega) h5 h6 hk
                have hlen : (slice x st 1 ++ slice x (st + 1) (c.toNat - 247)).length = 1 + (c.toNat - 247) := by rw [hone, List.length_append, slice_length]; simp; omega
                exact Or.inr ⟨e, by rw [hlen]; omega, by rw [hlen, hadd, hone], fun h => by cases h⟩
end Rlp
end

section
namespace Rlp
theorem clp_ge {x p : List UInt8} {st l s : Nat} {row : Bool} (h : clp x st = .ok (p, row, l, s)) : st ≤ s ∧ (row = false → st < s + l) ∧ (row = true → st < s) ∧ st < x.length := by
  unfold clp at h
  cases hx : x[st]? with
  | none => rw [hx] at h; cases h
  | some c =>
    have hst : st < x.length := by
      rcases Nat.lt_or_ge st x.length with q | q
      · exact q
      · rw [List.getElem?_eq_none q] at hx; cases hx
    rw [hx] at h
    dsimp only at h
    (repeat' split at h) <;> first
      | (simp only [R.ok.injEq, Prod.mk.injEq] at h; obtain ⟨rfl, rfl, rfl, rfl⟩ := h; refine ⟨by omega, ?_, ?_, hst⟩ <;> intro h <;> first | omega | cases h)
      | (exact nomatch h)
mutual
theorem item_ge : ∀ {x : List UInt8} {dep st : Nat} {d : D} {r : List UInt8} {e : Nat}, item x dep st = .ok (d, r, e) → st < e
  | x, 0, st, d, r, e, h => by cases h
  | x, dep + 1, st, d, r, e, h => by
    rw [item_succ] at h
    cases hc : clp x st with
    | ok q =>
      obtain ⟨p, row, l, s⟩ := q
      rw [hc] at h
      have hg := clp_ge hc
      cases row with
      | false =>
        simp only [R.ok.injEq, Prod.mk.injEq] at h
        obtain ⟨_, _, rfl⟩ := h
        exact hg.2.1 rfl
      | true =>
        dsimp only at h
        cases hl : clLoop (item x dep) (s + l) (l + 1) s with
        | ok q =>
          obtain ⟨ds, rs, e'⟩ := q
          rw [hl] at h
          dsimp only at h
          split at h
          · cases h
          · simp only [R.ok.injEq, Prod.mk.injEq] at h
            obtain ⟨_, _, rfl⟩ := h
            have := (loop_ge hl).1
            have := hg.2.2.1 rfl
            omega
        | ix => rw [hl] at h; cases h
        | de => rw [hl] at h; cases h
        | out => rw [hl] at h; cases h
    | ix => rw [hc] at h; cases h
    | de => rw [hc] at h; cases h
    | out => rw [hc] at h; cases h
termination_by x dep => (dep, 0)
theorem loop_ge : ∀ {x : List UInt8} {dep fin n next : Nat} {ds : List D} {rs : List UInt8} {e : Nat}, clLoop (item x dep) fin n next = .ok (ds, rs, e) → next ≤ e ∧ fin ≤ e
  | x, dep, fin, 0, next, ds, rs, e, h => by
    unfold clLoop at h
    split at h
    · exact nomatch h
    · simp only [R.ok.injEq, Prod.mk.injEq] at h
      obtain ⟨_, _, rfl⟩ := h
      omega
  | x, dep, fin, n + 1, next, ds, rs, e, h => by
    unfold clLoop at h
    split at h
    · rename_i hlt
      cases hs : item x dep next with
      | ok q =>
        obtain ⟨d, r, nx⟩ := q
        rw [hs] at h
        dsimp only at h
        have h1 := item_ge hs
        cases hl : clLoop (item x dep) fin n nx with
        | ok q =>
          obtain ⟨ds', rs', e'⟩ := q
          rw [hl] at h
          simp only [R.ok.injEq, Prod.mk.injEq] at h
          obtain ⟨_, _, rfl⟩ := h
          have := loop_ge hl
          omega
        | ix => rw [hl] at h; cases h
        | de => rw [hl] at h; cases h
        | out => rw [hl] at h; cases h
      | ix => rw [hs] at h; cases h
      | de => rw [hs] at h; cases h
      | out => rw [hs] at h; cases h
    · simp only [R.ok.injEq, Prod.mk.injEq] at h
      obtain ⟨_, _, rfl⟩ := h
      omega
termination_by x dep fin n => (dep, n + 1)
end
theorem slice_join {x a b : List UInt8} {st : Nat} (h1 : slice x st a.length = a) (h2 : slice x (st + a.length) b.length = b) : slice x st (a ++ b).length = a ++ b := by
  simp only [slice, List.length_append] at *
  rw [List.take_add, List.drop_drop, h1, h2]
mutual
/-- what is read within the octets is what its value is written as -/
theorem enc_item : ∀ {x : List UInt8} {dep st : Nat} {d : D} {r : List UInt8} {e : Nat}, item x dep st = .ok (d, r, e) → e ≤ x.length → enc d = r ∧ e = st + r.length ∧ slice x st r.length = r
  | x, 0, st, d, r, e, h, _ => by cases h
  | x, dep + 1, st, d, r, e, h, he => by
    rw [item_succ] at h
    cases hc : clp x st with
    | ok q =>
      obtain ⟨p, row, l, s⟩ := q
      rw [hc] at h
      have hg := clp_ge hc
      cases row with
      | false =>
        simp only [R.ok.injEq, Prod.mk.injEq] at h
        obtain ⟨rfl, rfl, rfl⟩ := h
        rcases clp_back hc (by omega) (fun _ => he) with ⟨_, rfl, rfl, rfl, c, hx, hc⟩ | ⟨hp, hs, hsl, h1⟩
        · have hst : s < x.length := by omega
          have hone : slice x s 1 = [c] := by
            have hd : x.drop s = c :: x.drop (s + 1) := by
              rw [List.drop_eq_getElem_cons hst]
              congr 1
              rw [List.getElem?_eq_getElem hst] at hx
              exact Option.some.inj hx
            simp [slice, hd]
          rw [hone]
          refine ⟨?_, by simp, by simpa using hone⟩
          simp [enc, hc]
        · have hlen : (slice x s l).length = l := by rw [slice_length]; omega
          have hj : slice x st (p ++ slice x s l).length = p ++ slice x s l := slice_join hsl (by rw [hlen, ← hs])
          refine ⟨?_, by rw [List.length_append, hlen]; omega, hj⟩
          simp only [Bool.false_eq_true, if_false] at hp
          have hen : ∀ y : List UInt8, (y.length = 1 → ∃ c, y = [c] ∧ 128 ≤ c.toNat) → enc (.b y) = pre y.length 128 ++ y := by
            intro y hy
            unfold enc
            split
            · rename_i c
              obtain ⟨c', h2, h3⟩ := hy rfl
              cases h2
              rw [if_neg (by omega)]; rfl
            · rfl
          rw [hen, hlen, ← hp]
          intro hl1
          rw [hlen] at hl1
          subst hl1
          obtain ⟨c, hcx, h128⟩ := h1 rfl rfl
          refine ⟨c, ?_, h128⟩
          have hst : s < x.length := by omega
          have hd : x.drop s = c :: x.drop (s + 1) := by
            rw [List.drop_eq_getElem_cons hst]
            congr 1
            rw [List.getElem?_eq_getElem hst] at hcx
            exact Option.some.inj hcx
          simp [slice, hd]
      | true =>
        dsimp only at h
        cases hl : clLoop (item x dep) (s + l) (l + 1) s with
        | ok q =>
          obtain ⟨ds, rs, e'⟩ := q
          rw [hl] at h
          dsimp only at h
          split at h
          · cases h
          · rename_i hgt
            simp only [R.ok.injEq, Prod.mk.injEq] at h
            obtain ⟨rfl, rfl, rfl⟩ := h
            have h2 := (loop_ge hl)
            have h3 := encs_loop hl he
            rcases clp_back hc (by omega) (fun h => by cases h) with ⟨hf, _⟩ | ⟨hp, hs, hsl, _⟩
            · cases hf
            · simp only [if_true] at hp
              have hrl : rs.length = l := by omega
              refine ⟨?_, by rw [List.length_append]; omega, slice_join hsl (by rw [← hs]; exact h3.2.2)⟩
              unfold enc
              rw [h3.1, hrl, ← hp]
        | ix => rw [hl] at h; cases h
        | de => rw [hl] at h; cases h
        | out => rw [hl] at h; cases h
    | ix => rw [hc] at h; cases h
    | de => rw [hc] at h; cases h
    | out => rw [hc] at h; cases h
termination_by x dep => (dep, 0)
theorem encs_loop : ∀ {x : List UInt8} {dep fin n next : Nat} {ds : List D} {rs : List UInt8} {e : Nat}, clLoop (item x dep) fin n next = .ok (ds, rs, e) → e ≤ x.length → encs ds = rs ∧ e = next + rs.length ∧ slice x next rs.length = rs
  | x, dep, fin, 0, next, ds, rs, e, h, _ => by
    unfold clLoop at h
    split at h
    · exact nomatch h
    · simp only [R.ok.injEq, Prod.mk.injEq] at h
      obtain ⟨rfl, rfl, rfl⟩ := h
      exact ⟨by rw [encs], by simp, by simp [slice]⟩
  | x, dep, fin, n + 1, next, ds, rs, e, h, he => by
    unfold clLoop at h
    split at h
    · rename_i hlt
      cases hs : item x dep next with
      | ok q =>
        obtain ⟨d, r, nx⟩ := q
        rw [hs] at h
        dsimp only at h
        cases hl : clLoop (item x dep) fin n nx with
        | ok q =>
          obtain ⟨ds', rs', e'⟩ := q
          rw [hl] at h
          simp only [R.ok.injEq, Prod.mk.injEq] at h
          obtain ⟨rfl, rfl, rfl⟩ := h
          have h2 := loop_ge hl
          have h3 := encs_loop hl he
          have h4 := enc_item hs (by omega)
          refine ⟨by rw [encs, h4.1, h3.1], by rw [List.length_append]; omega, slice_join h4.2.2 (by rw [← h4.2.1]; exact h3.2.2)⟩
        | ix => rw [hl] at h; cases h
        | de => rw [hl] at h; cases h
        | out => rw [hl] at h; cases h
      | ix => rw [hs] at h; cases h
      | de => rw [hs] at h; cases h
      | out => rw [hs] at h; cases h
    · simp only [R.ok.injEq, Prod.mk.injEq] at h
      obtain ⟨rfl, rfl, rfl⟩ := h
      exact ⟨by rw [encs], by simp, by simp [slice]⟩
termination_by x dep fin n => (dep, n + 1)
end
theorem enc_of_dec {x : List UInt8} {dep : Nat} {d : D} (h : dec true dep x = some d) : enc d = x := by
  unfold dec at h
  split at h
  · rename_i d' r e hi
    split at h
    · cases h
    · rename_i hne
      cases h
      have he : e = x.length := by
        rcases Decidable.em (e = x.length) with q | q
        · exact q
        · exact absurd ⟨q, rfl⟩ hne
      have := enc_item hi (by omega)
      rw [this.1, ← this.2.2]
      have h2 := this.2.1
      rw [show r.length = x.length by omega]
      simp [slice]
  · cases h
theorem dec_enc {d : D} {dep : Nat} (hd : d.depth < dep) (hz : (enc d).length < 256 ^ 8) : dec true dep (enc d) = some d := by
  have h := item_enc d dep [] [] hd hz
  simp only [List.nil_append, List.append_nil, List.length_nil, Nat.zero_add] at h
  unfold dec
  rw [h]
  simp
/-- nothing behind an item is let -/
theorem dec_more {d : D} {dep : Nat} {y : List UInt8} (hd : d.depth < dep) (hz : (enc d).length < 256 ^ 8) (hy : y ≠ []) : dec true dep (enc d ++ y) = none := by
  have h := item_enc d dep [] y hd hz
  simp only [List.nil_append, List.length_nil, Nat.zero_add] at h
  unfold dec
  rw [h]
  have : y.length ≠ 0 := fun h => hy (List.eq_nil_of_length_eq_zero h)
  dsimp only
  rw [if_pos ⟨by rw [List.length_append]; omega, rfl⟩]

theorem clp_not_out (x : List UInt8) (st : Nat) : clp x st ≠ .out := by
  unfold clp
  intro h
  split at h
  · exact nomatch h
  · dsimp only at h
    (repeat' split at h) <;> exact nomatch h
theorem loop_in {x : List UInt8} {dep fin : Nat} : ∀ (n next : Nat), fin < n + next → (∀ st, next ≤ st → item x dep st ≠ .out) → clLoop (item x dep) fin n next ≠ .out
  | 0, next, hn, _ => by
    unfold clLoop
    rw [if_neg (by omega)]
    exact fun h => nomatch h
  | n + 1, next, hn, hs => by
    unfold clLoop
    split
    · intro h
      cases hi : item x dep next with
      | ok q =>
        obtain ⟨d, r, nx⟩ := q
        rw [hi] at h
        dsimp only at h
        have h1 := item_ge hi
        have h2 := loop_in (x := x) (dep := dep) (fin := fin) n nx (by omega) (fun st h => hs st (by omega))
        split at h
        · exact nomatch h
        · exact nomatch h
        · exact nomatch h
        · rename_i q; exact h2 q
      | ix => rw [hi] at h; exact nomatch h
      | de => rw [hi] at h; exact nomatch h
      | out => exact hs next (Nat.le_refl _) hi
    · exact fun h => nomatch h
/-- the depth that does for any octets -/
theorem item_in : ∀ (dep : Nat) (x : List UInt8) (st : Nat), 0 < dep → x.length < dep + st → item x dep st ≠ .out
  | 0, x, st, h0, h => by omega
  | dep + 1, x, st, _, h => by
    rw [item_succ]
    cases hc : clp x st with
    | ok q =>
      obtain ⟨p, row, l, s⟩ := q
      have hg := clp_ge hc
      cases row with
      | false => exact fun h => nomatch h
      | true =>
        dsimp only
        have h1 := hg.2.2.1 rfl
        have h2 := loop_in (x := x) (dep := dep) (fin := s + l) (l + 1) s (by omega) (fun st' h' => item_in dep x st' (by omega) (by omega))
        split
        · split <;> exact fun h => nomatch h
        · exact fun h => nomatch h
        · exact fun h => nomatch h
        · rename_i q; exact absurd q h2
    | ix => exact fun h => nomatch h
    | de => exact fun h => nomatch h
    | out => exact absurd hc (clp_not_out x st)
theorem clp_ix {x : List UInt8} {st : Nat} (h : x.length ≤ st) : clp x st = .ix := by
  unfold clp; rw [List.getElem?_eq_none h]
theorem item_ix {x : List UInt8} {dep st : Nat} (h : x.length ≤ st) (hd : 0 < dep) : item x dep st = .ix := by
  obtain ⟨k, rfl⟩ : ∃ k, dep = k + 1 := ⟨dep - 1, by omega⟩
  rw [item_succ, clp_ix h]
/-- a head in the first n octets: the same, or cut off -/
theorem clp_take {x p : List UInt8} {st l s n : Nat} {row : Bool} (h : clp x st = .ok (p, row, l, s)) :
    (s ≤ n ∧ (clp (x.take n) st = .ok (p, row, l, s) ∨ clp (x.take n) st = .ix)) ∨ (n < s ∧ (clp (x.take n) st = .ix ∨ clp (x.take n) st = .de ∨ ∃ p' l', clp (x.take n) st = .ok (p', row, l', s) ∧ (row = true → 0 < l))) := by
  have hg := clp_ge h
  rcases Nat.lt_or_ge st n with hn | hn
  · have hget : ∀ i, i < n → (x.take n)[i]? = x[i]? := fun i hi => by rw [List.getElem?_take, if_pos hi]
    have hsl : ∀ i k, i + k ≤ n → slice (x.take n) i k = slice x i k := fun i k hik => by
      simp only [slice, List.drop_take, List.take_take]
      rw [Nat.min_eq_left (by omega)]
    unfold clp at h ⊢
    rw [hget st hn]
    cases hx : x[st]? with
    | none => rw [hx] at h; exact nomatch h
    | some c =>
      rw [hx] at h
      dsimp only at h ⊢
      have h1 : slice (x.take n) st 1 = slice x st 1 := hsl st 1 (by omega)
      rw [h1]
      have long : ∀ (k : Nat) (row' : Bool), 0 < k → (if slice x (st + 1) 1 = [0] then R.de else if ofBe (slice x (st + 1) k) < 56 then R.de else R.ok (slice x st 1 ++ slice x (st + 1) k, row', ofBe (slice x (st + 1) k), st + 1 + k)) = R.ok (p, row, l, s) →
          (s ≤ n ∧ ((if slice (x.take n) (st + 1) 1 = [0] then R.de else if ofBe (slice (x.take n) (st + 1) k) < 56 then R.de else R.ok (slice x st 1 ++ slice (x.take n) (st + 1) k, row', ofBe (slice (x.take n) (st + 1) k), st + 1 + k)) = R.ok (p, row, l, s) ∨
            (if slice (x.take n) (st + 1) 1 = [0] then R.de else if ofBe (slice (x.take n) (st + 1) k) < 56 then R.de else R.ok (slice x st 1 ++ slice (x.take n) (st + 1) k, row', ofBe (slice (x.take n) (st + 1) k), st + 1 + k)) = R.ix)) ∨
          (n < s ∧ ((if slice (x.take n) (st + 1) 1 = [0] then R.de else if ofBe (slice (x.take n) (st + 1) k) < 56 then R.de else R.ok (slice x st 1 ++ slice (x.take n) (st + 1) k, row', ofBe (slice (x.take n) (st + 1) k), st + 1 + k)) = R.ix ∨
            (if slice (x.take n) (st + 1) 1 = [0] then R.de else if ofBe (slice (x.take n) (st + 1) k) < 56 then R.de else R.ok (slice x st 1 ++ slice (x.take n) (st + 1) k, row', ofBe (slice (x.take n) (st + 1) k), st + 1 + k)) = R.de ∨
            ∃ p' l', (if slice (x.take n) (st + 1) 1 = [0] then R.de else if ofBe (slice (x.take n) (st + 1) k) < 56 then R.de else R.ok (slice x st 1 ++ slice (x.take n) (st + 1) k, row', ofBe (slice (x.take n) (st + 1) k), st + 1 + k)) = R.ok (p', row, l', s) ∧ (row = true → 0 < l))) := by
        intro k row' hk hh
        split at hh
        · exact nomatch hh
        · rename_i hz
          split at hh
          · exact nomatch hh
          · rename_i h56
            simp only [R.ok.injEq, Prod.mk.injEq] at hh
            obtain ⟨rfl, rfl, rfl, rfl⟩ := hh
            rcases Nat.lt_or_ge n (st + 1 + k) with hs | hs
            · refine Or.inr ⟨hs, ?_⟩
              split
              · exact Or.inr (Or.inl rfl)
              · split
                · exact Or.inr (Or.inl rfl)
                · exact Or.inr (Or.inr ⟨_, _, rfl, fun _ => by omega⟩)
            · refine Or.inl ⟨hs, Or.inl ?_⟩
              rw [hsl (st + 1) 1 (by omega), hsl (st + 1) k (by omega), if_neg hz, if_neg h56]
      split at h
      · rename_i q; rw [if_pos q]
        simp only [R.ok.injEq, Prod.mk.injEq] at h
        obtain ⟨rfl, rfl, rfl, rfl⟩ := h
        exact Or.inl ⟨by omega, Or.inl rfl⟩
      · rename_i q; rw [if_neg q]
        split at h
        · rename_i q2; rw [if_pos q2]
          split at h
          · rename_i q3; rw [if_pos q3]
            split at h
            · exact nomatch h
            · rename_i c' hc'
              split at h
              · exact nomatch h
              · rename_i q4
                simp only [R.ok.injEq, Prod.mk.injEq] at h
                obtain ⟨rfl, rfl, rfl, rfl⟩ := h
                refine Or.inl ⟨by omega, ?_⟩
                rcases Nat.lt_or_ge (st + 1) n with q5 | q5
                · rw [hget _ q5, hc']
                  dsimp only
                  rw [if_neg q4]
                  exact Or.inl rfl
                · rw [List.getElem?_take, if_neg (by omega)]
                  exact Or.inr rfl
          · rename_i q3; rw [if_neg q3]
            simp only [R.ok.injEq, Prod.mk.injEq] at h
            obtain ⟨rfl, rfl, rfl, rfl⟩ := h
            exact Or.inl ⟨by omega, Or.inl rfl⟩
        · rename_i q2; rw [if_neg q2]
          split at h
          · rename_i q3; rw [if_pos q3]
            exact long _ _ (by omega) h
          · rename_i q3; rw [if_neg q3]
            split at h
            · rename_i q4; rw [if_pos q4]
              simp only [R.ok.injEq, Prod.mk.injEq] at h
              obtain ⟨rfl, rfl, rfl, rfl⟩ := h
              exact Or.inl ⟨by omega, Or.inl rfl⟩
            · rename_i q4; rw [if_neg q4]
              exact long _ _ (by omega) h
  · have hi : clp (x.take n) st = .ix := clp_ix (by rw [List.length_take]; omega)
    rcases Nat.lt_or_ge n s with q | q
    · exact Or.inr ⟨q, Or.inl hi⟩
    · exact Or.inl ⟨q, Or.inr hi⟩
mutual
/-- the first n octets of an item: no deeper than the item -/
theorem item_take : ∀ {x : List UInt8} {dep st n : Nat} {d : D} {r : List UInt8} {e : Nat}, item x dep st = .ok (d, r, e) → item (x.take n) dep st ≠ .out ∧ ∀ d' r' e', item (x.take n) dep st = .ok (d', r', e') → e' = e ∨ n < e'
  | x, 0, st, n, d, r, e, h => nomatch h
  | x, dep + 1, st, n, d, r, e, h => by
    rw [item_succ] at h
    rw [item_succ]
    cases hc : clp x st with
    | ok q =>
      obtain ⟨p, row, l, s⟩ := q
      rw [hc] at h
      rcases clp_take (n := n) hc with ⟨hs, ht | ht⟩ | ⟨hs, ht | ht | ⟨p', l', ht, hl0⟩⟩
      · rw [ht]
        cases row with
        | false =>
          simp only [R.ok.injEq, Prod.mk.injEq] at h
          obtain ⟨_, _, rfl⟩ := h
          refine ⟨(fun h => nomatch h), fun d' r' e' h' => ?_⟩
          simp only [R.ok.injEq, Prod.mk.injEq] at h'
          exact Or.inl h'.2.2.symm
        | true =>
          dsimp only at h ⊢
          cases hl : clLoop (item x dep) (s + l) (l + 1) s with
          | ok q =>
            obtain ⟨ds, rs, e1⟩ := q
            rw [hl] at h
            dsimp only at h
            split at h
            · exact nomatch h
            · rename_i hgt
              simp only [R.ok.injEq, Prod.mk.injEq] at h
              obtain ⟨_, _, rfl⟩ := h
              have ih := loop_take (n := n) (by omega) hl
              split
              · rename_i ds' rs' e' hq
                split
                · exact ⟨(fun h => nomatch h), fun _ _ _ h' => nomatch h'⟩
                · refine ⟨(fun h => nomatch h), fun d'' r'' e'' h' => ?_⟩
                  simp only [R.ok.injEq, Prod.mk.injEq] at h'
                  rw [← h'.2.2]
                  exact ih.2 _ _ _ hq
              · exact ⟨(fun h => nomatch h), fun _ _ _ h' => nomatch h'⟩
              · exact ⟨(fun h => nomatch h), fun _ _ _ h' => nomatch h'⟩
              · rename_i hq; exact absurd hq ih.1
          | ix => rw [hl] at h; exact nomatch h
          | de => rw [hl] at h; exact nomatch h
          | out => rw [hl] at h; exact nomatch h
      · rw [ht]; exact ⟨(fun h => nomatch h), fun _ _ _ h' => nomatch h'⟩
      · rw [ht]; exact ⟨(fun h => nomatch h), fun _ _ _ h' => nomatch h'⟩
      · rw [ht]; exact ⟨(fun h => nomatch h), fun _ _ _ h' => nomatch h'⟩
      · rw [ht]
        cases row with
        | false =>
          refine ⟨(fun h => nomatch h), fun d' r' e' h' => ?_⟩
          simp only [R.ok.injEq, Prod.mk.injEq] at h'
          exact Or.inr (by omega)
        | true =>
          dsimp only at h ⊢
          have hd : 0 < dep := by
            have := hl0 rfl
            rcases Nat.eq_zero_or_pos dep with q | q
            · subst q
              unfold clLoop at h
              rw [if_pos (by omega)] at h
              exact nomatch h
            · exact q
          unfold clLoop
          by_cases hlt : s < s + l'
          · rw [if_pos hlt, item_ix (by rw [List.length_take]; omega) hd]
            exact ⟨(fun h => nomatch h), fun _ _ _ h' => nomatch h'⟩
          · rw [if_neg hlt]
            dsimp only
            split
            · exact ⟨(fun h => nomatch h), fun _ _ _ h' => nomatch h'⟩
            · refine ⟨(fun h => nomatch h), fun d'' r'' e'' h' => ?_⟩
              simp only [R.ok.injEq, Prod.mk.injEq] at h'
              exact Or.inr (by omega)
    | ix => rw [hc] at h; exact nomatch h
    | de => rw [hc] at h; exact nomatch h
    | out => rw [hc] at h; exact nomatch h
termination_by x dep => (dep, 0)
theorem loop_take : ∀ {x : List UInt8} {dep fin k next n : Nat} {ds : List D} {rs : List UInt8} {e : Nat}, fin ≤ k + next → clLoop (item x dep) fin k next = .ok (ds, rs, e) →
    clLoop (item (x.take n) dep) fin k next ≠ .out ∧ ∀ ds' rs' e', clLoop (item (x.take n) dep) fin k next = .ok (ds', rs', e') → e' = e ∨ n < e'
  | x, dep, fin, 0, next, n, ds, rs, e, _, h => by
    unfold clLoop at h ⊢
    split at h
    · exact nomatch h
    · rename_i q
      rw [if_neg q]
      simp only [R.ok.injEq, Prod.mk.injEq] at h
      obtain ⟨_, _, rfl⟩ := h
      refine ⟨(fun h => nomatch h), fun d'' r'' e'' h' => ?_⟩
      simp only [R.ok.injEq, Prod.mk.injEq] at h'
      exact Or.inl h'.2.2.symm
  | x, dep, fin, k + 1, next, n, ds, rs, e, hf, h => by
    unfold clLoop at h ⊢
    split at h
    · rename_i hlt
      rw [if_pos hlt]
      cases hs : item x dep next with
      | ok q =>
        obtain ⟨d, r, nx⟩ := q
        rw [hs] at h
        dsimp only at h
        cases hl : clLoop (item x dep) fin k nx with
        | ok q =>
          obtain ⟨ds', rs', e1⟩ := q
          rw [hl] at h
          simp only [R.ok.injEq, Prod.mk.injEq] at h
          obtain ⟨_, _, rfl⟩ := h
          have ih := item_take (n := n) hs
          have hd : 0 < dep := by
            rcases Nat.eq_zero_or_pos dep with q | q
            · subst q; exact nomatch hs
            · exact q
          cases hs' : item (x.take n) dep next with
          | ok q =>
            obtain ⟨d2, r2, nx2⟩ := q
            dsimp only
            rcases ih.2 _ _ _ hs' with rfl | hn
            · have ih2 := loop_take (n := n) (by have := item_ge hs; omega) hl
              split
              · rename_i hq
                refine ⟨(fun h => nomatch h), fun d'' r'' e'' h' => ?_⟩
                simp only [R.ok.injEq, Prod.mk.injEq] at h'
                rw [← h'.2.2]
                exact ih2.2 _ _ _ hq
              · exact ⟨(fun h => nomatch h), fun _ _ _ h' => nomatch h'⟩
              · exact ⟨(fun h => nomatch h), fun _ _ _ h' => nomatch h'⟩
              · rename_i hq; exact absurd hq ih2.1
            · have hk : ∀ k, (k ≠ 0 ∨ fin ≤ nx2) → clLoop (item (x.take n) dep) fin k nx2 = .ix ∨ clLoop (item (x.take n) dep) fin k nx2 = .ok ([], [], nx2) := by
                intro k hk
                cases k with
                | zero =>
                  unfold clLoop
                  rw [if_neg (by omega)]
                  exact Or.inr rfl
                | succ k =>
                  unfold clLoop
                  split
                  · rw [item_ix (by rw [List.length_take]; omega) hd]
                    exact Or.inl rfl
                  · exact Or.inr rfl
              have hkk : k ≠ 0 ∨ fin ≤ nx2 := by
                rcases Nat.eq_zero_or_pos k with q | q
                · have := item_ge hs'; exact Or.inr (by omega)
                · exact Or.inl (by omega)
              rcases hk k hkk with q | q
              · rw [q]; exact ⟨(fun h => nomatch h), fun _ _ _ h' => nomatch h'⟩
              · rw [q]
                refine ⟨(fun h => nomatch h), fun d'' r'' e'' h' => ?_⟩
                simp only [R.ok.injEq, Prod.mk.injEq] at h'
                exact Or.inr (by omega)
          | ix => exact ⟨(fun h => nomatch h), fun _ _ _ h' => nomatch h'⟩
          | de => exact ⟨(fun h => nomatch h), fun _ _ _ h' => nomatch h'⟩
          | out => exact absurd hs' ih.1
        | ix => rw [hl] at h; exact nomatch h
        | de => rw [hl] at h; exact nomatch h
        | out => rw [hl] at h; exact nomatch h
      | ix => rw [hs] at h; exact nomatch h
      | de => rw [hs] at h; exact nomatch h
      | out => rw [hs] at h; exact nomatch h
    · rename_i q
      rw [if_neg q]
      simp only [R.ok.injEq, Prod.mk.injEq] at h
      obtain ⟨_, _, rfl⟩ := h
      refine ⟨(fun h => nomatch h), fun d'' r'' e'' h' => ?_⟩
      simp only [R.ok.injEq, Prod.mk.injEq] at h'
      exact Or.inl h'.2.2.symm
termination_by x dep fin k => (dep, k + 1)
end
end Rlp
end

section
namespace Rlp
/-- the payload, as consume_payload reckons it -/
def pay (x : List UInt8) (dep : Nat) (q : List UInt8) (row : Bool) (l e : Nat) : R (D × List UInt8 × Nat) :=
  match row with
  | false => .ok (.b (slice x e l), q ++ slice x e l, e + l)
  | true => match clLoop (item x dep) (e + l) (l + 1) e with
    | .ok (ds, rs, e') => if e' > e + l then .de else .ok (.l ds, q ++ rs, e')
    | .ix => .ix | .de => .de | .out => .out
theorem item_pay (x : List UInt8) (dep st : Nat) : item x (dep + 1) st = (match clp x st with
    | .ok (p, row, l, s) => pay x dep p row l s
    | .ix => .ix | .de => .de | .out => .out) := by
  rw [item_succ]
  cases clp x st with
  | ok q => obtain ⟨p, row, l, s⟩ := q; cases row <;> rfl
  | ix => rfl
  | de => rfl
  | out => rfl
theorem item_split {x : List UInt8} {dep st : Nat} {d : D} {r : List UInt8} {e : Nat} (h : item x dep st = .ok (d, r, e)) :
    ∃ k q row l s, dep = k + 1 ∧ clp x st = .ok (q, row, l, s) ∧ pay x k q row l s = .ok (d, r, e) := by
  cases dep with
  | zero => cases h
  | succ k =>
    rw [item_pay] at h
    cases hc : clp x st with
    | ok q => obtain ⟨p, row, l, s⟩ := q; rw [hc] at h; exact ⟨k, p, row, l, s, rfl, rfl, h⟩
    | ix => rw [hc] at h; cases h
    | de => rw [hc] at h; cases h
    | out => rw [hc] at h; cases h
theorem pay_row {x : List UInt8} {k : Nat} {q : List UInt8} {l s : Nat} {d : D} {r : List UInt8} {e : Nat} (h : pay x k q true l s = .ok (d, r, e)) :
    ∃ ds rs, clLoop (item x k) (s + l) (l + 1) s = .ok (ds, rs, e) ∧ e ≤ s + l ∧ d = .l ds ∧ r = q ++ rs := by
  unfold pay at h
  dsimp only at h
  cases hl : clLoop (item x k) (s + l) (l + 1) s with
  | ok v =>
    obtain ⟨ds, rs, e'⟩ := v
    rw [hl] at h
    dsimp only at h
    split at h
    · cases h
    · simp only [R.ok.injEq, Prod.mk.injEq] at h
      obtain ⟨rfl, rfl, rfl⟩ := h
      exact ⟨_, _, rfl, by omega, rfl, rfl⟩
  | ix => rw [hl] at h; cases h
  | de => rw [hl] at h; cases h
  | out => rw [hl] at h; cases h
theorem loop_more {step : Nat → R (D × List UInt8 × Nat)} {fin n next : Nat} {ds : List D} {rs : List UInt8} {e : Nat} (h : clLoop step fin n next = .ok (ds, rs, e)) (hl : next < fin) :
    ∃ n' d r nx ds' rs', step next = .ok (d, r, nx) ∧ clLoop step fin n' nx = .ok (ds', rs', e) ∧ ds = d :: ds' ∧ rs = r ++ rs' := by
  cases n with
  | zero => unfold clLoop at h; rw [if_pos hl] at h; cases h
  | succ n =>
    unfold clLoop at h
    rw [if_pos hl] at h
    cases hs : step next with
    | ok v =>
      obtain ⟨d, r, nx⟩ := v
      rw [hs] at h
      dsimp only at h
      cases hq : clLoop step fin n nx with
      | ok v =>
        obtain ⟨ds', rs', e'⟩ := v
        rw [hq] at h
        simp only [R.ok.injEq, Prod.mk.injEq] at h
        obtain ⟨rfl, rfl, rfl⟩ := h
        exact ⟨n, d, r, nx, ds', rs', rfl, hq, rfl, rfl⟩
      | ix => rw [hq] at h; cases h
      | de => rw [hq] at h; cases h
      | out => rw [hq] at h; cases h
    | ix => rw [hs] at h; cases h
    | de => rw [hs] at h; cases h
    | out => rw [hs] at h; cases h
theorem loop_end {step : Nat → R (D × List UInt8 × Nat)} {fin n next : Nat} {ds : List D} {rs : List UInt8} {e : Nat} (h : clLoop step fin n next = .ok (ds, rs, e)) (hl : ¬ next < fin) :
    ds = [] ∧ rs = [] ∧ e = next := by
  cases n with
  | zero => unfold clLoop at h; rw [if_neg hl] at h; cases h; exact ⟨rfl, rfl, rfl⟩
  | succ n => unfold clLoop at h; rw [if_neg hl] at h; cases h; exact ⟨rfl, rfl, rfl⟩
theorem clp_len {x p : List UInt8} {st l s : Nat} {row : Bool} (h : clp x st = .ok (p, row, l, s)) : p.length ≤ s - st ∧ p.length ≤ x.length - st ∧ p.length ≤ 9 ∧ s ≤ st + 9 := by
  unfold clp at h
  cases hx : x[st]? with
  | none => rw [hx] at h; cases h
  | some c =>
    have hst : st < x.length := (List.getElem?_eq_some_iff.mp hx).1
    have hc : c.toNat < 256 := c.toNat_lt
    rw [hx] at h
    dsimp only at h
    (repeat' split at h) <;> first
      | (simp only [R.ok.injEq, Prod.mk.injEq] at h; obtain ⟨rfl, rfl, rfl, rfl⟩ := h; simp only [List.length_append, slice_length, List.length_nil]; omega)
      | (exact nomatch h)
mutual
theorem item_len : ∀ {x : List UInt8} {dep st : Nat} {d : D} {r : List UInt8} {e : Nat}, item x dep st = .ok (d, r, e) → r.length ≤ x.length - st ∧ r.length ≤ e - st
  | x, 0, st, d, r, e, h => by cases h
  | x, dep + 1, st, d, r, e, h => by
    obtain ⟨k, q, row, l, s, hk, hc, hp⟩ := item_split h
    cases hk
    have h1 := clp_len hc
    have h2 := clp_ge hc
    cases row with
    | false =>
      unfold pay at hp
      simp only [R.ok.injEq, Prod.mk.injEq] at hp
      obtain ⟨_, rfl, rfl⟩ := hp
      simp only [List.length_append, slice_length]
      omega
    | true =>
      obtain ⟨ds, rs, hl, he, rfl, rfl⟩ := pay_row hp
      have h3 := loop_len hl
      have h4 := loop_ge hl
      simp only [List.length_append]
      omega
termination_by x dep => (dep, 0)
theorem loop_len : ∀ {x : List UInt8} {dep fin n next : Nat} {ds : List D} {rs : List UInt8} {e : Nat}, clLoop (item x dep) fin n next = .ok (ds, rs, e) → rs.length ≤ x.length - next ∧ rs.length ≤ e - next ∧ ds.length ≤ x.length - next
  | x, dep, fin, 0, next, ds, rs, e, h => by
    by_cases hl : next < fin
    · unfold clLoop at h; rw [if_pos hl] at h; cases h
    · obtain ⟨rfl, rfl, rfl⟩ := loop_end h hl
      simp
  | x, dep, fin, n + 1, next, ds, rs, e, h => by
    by_cases hl : next < fin
    · unfold clLoop at h
      rw [if_pos hl] at h
      cases hs : item x dep next with
      | ok v =>
        obtain ⟨d, r, nx⟩ := v
        rw [hs] at h
        dsimp only at h
        cases hq : clLoop (item x dep) fin n nx with
        | ok v =>
          obtain ⟨ds', rs', e'⟩ := v
          rw [hq] at h
          simp only [R.ok.injEq, Prod.mk.injEq] at h
          obtain ⟨rfl, rfl, rfl⟩ := h
          have h1 := item_len hs
          have h2 := item_ge hs
          have h3 := loop_len hq
          have h4 := loop_ge hq
          obtain ⟨k, q, row, l, s, hk, hc, hp⟩ := item_split hs
          have h5 := clp_ge hc
          simp only [List.length_append, List.length_cons]
          omega
        | ix => rw [hq] at h; cases h
        | de => rw [hq] at h; cases h
        | out => rw [hq] at h; cases h
      | ix => rw [hs] at h; cases h
      | de => rw [hs] at h; cases h
      | out => rw [hs] at h; cases h
    · obtain ⟨rfl, rfl, rfl⟩ := loop_end h hl
      simp
termination_by x dep fin n => (dep, n + 1)
end
end Rlp
end

section
set_option maxRecDepth 100000
set_option linter.unusedVariables false
set_option Elab.async false
open PySem PySem.W PyProof.Rows PySem.Spec PySem.Calls
namespace Mine
open Rlp
open PySem.Builtin.Int (intBits)
section
variable {prog : Program} {w : World} {M : Model} {A : Around} {E : Value → Shared → Prop} {s : Shared} {h₀ : Heap} {L : Addr} {m : Str → Option Value} {news : List (Addr × Obj)}
/-- a ledger's part, in any order -/
theorem News.sub {h₀ h : Heap} {l l' : List (Addr × Obj)} (N : News h₀ L h l) (k : ∀ p ∈ l', p ∈ l) : News h₀ L h l' := fun p hp => N p (k p hp)

/-- a ledger grown: all of the elder stands, what is new lies above it -/
def Grow (l l' : List (Addr × Obj)) : Prop := (∀ p ∈ l, p ∈ l') ∧ ∀ p ∈ l', p ∈ l ∨ ∀ q ∈ l, q.1 < p.1
theorem Grow.refl (l : List (Addr × Obj)) : Grow l l := ⟨fun _ h => h, fun _ h => .inl h⟩
theorem Grow.trans {a b c : List (Addr × Obj)} (x : Grow a b) (y : Grow b c) : Grow a c :=
  ⟨fun p h => y.1 p (x.1 p h), fun p h => (y.2 p h).elim (x.2 p) fun k => .inr fun q hq => k q (x.1 q hq)⟩
theorem Grow.cons {l : List (Addr × Obj)} {a : Addr} {o : Obj} (h : ∀ p ∈ l, p.1 < a) : Grow l ((a, o) :: l) :=
  ⟨fun _ h => .tail _ h, fun p hp => (List.mem_cons.mp hp).elim (fun e => .inr (by subst e; exact h)) .inl⟩
theorem Grow.then {l l' : List (Addr × Obj)} {a : Addr} {o : Obj} (g : Grow l l') (h : ∀ p ∈ l', p.1 < a) : Grow l ((a, o) :: l') := g.trans (.cons h)
theorem low_beK (X : Nat) : ∀ (k : Nat), ((List.range k).map fun i => ((X >>> (8 * i)) % 256).toUInt8).reverse = beK k X := by
  intro k
  induction k generalizing X with
  | zero => rfl
  | succ k ih =>
    rw [List.range_succ_eq_map, List.map_cons, List.map_map, List.reverse_cons, beK, ← ih (X / 256)]
    congr 1
    · congr 1
      refine List.map_congr_left fun i _ => ?_
      show ((X >>> (8 * (i + 1))) % 256).toUInt8 = ((X / 256) >>> (8 * i) % 256).toUInt8
      rw [show 8 * (i + 1) = 8 + 8 * i by omega, Nat.shiftRight_add, show X >>> 8 = X / 256 from Nat.shiftRight_eq_div_pow X 8]
theorem beK_zero : ∀ (j k n : Nat), n < 256 ^ k → beK (j + k) n = List.replicate j 0 ++ beK k n
  | j, 0, n, h => by
    simp at h; subst h
    induction j with
    | zero => rfl
    | succ j ih =>
      simp only [Nat.add_zero] at ih ⊢
      show beK j (0 / 256) ++ [UInt8.ofNat (0 % 256)] = _
      rw [show 0 / 256 = 0 from rfl, ih]
      simp [beK, List.replicate_succ']
  | j, k + 1, n, h => by
    rw [← Nat.add_assoc, beK, beK_zero j k (n / 256) (by rw [Nat.pow_succ] at h; omega), beK, List.append_assoc]
theorem lowBytes_rev {x k : Nat} (h : x < 256 ^ k) : (KTBy.low (x : Int) k).reverse = beK k x := by
  unfold KTBy.low
  generalize ho : min k (intBits (x : Int) / 8 + 1) = own
  have hle : own ≤ k := by omega
  have hown : x < 256 ^ own := by
    by_cases hc : k ≤ intBits (x : Int) / 8 + 1
    · rw [show own = k by omega]; exact h
    · have hb : intBits (x : Int) ≤ 8 * own := by omega
      have hn := intBits_le_iff.mp hb
      have e2 : (2 : Nat) ^ 8 = 256 := by decide
      rw [Nat.pow_mul, e2] at hn
      exact hn
  have hm : (((x : Int) % (256 ^ own : Int)).toNat) = x := by
    rw [KTBy.p256, ← Int.natCast_emod, Nat.mod_eq_of_lt hown, Int.toNat_natCast]
  rw [hm, if_neg (by omega), List.reverse_append, low_beK, List.reverse_replicate, ← beK_zero (k - own) own x hown]
  congr 1; omega
theorem to_big {Q : Value → Shared → Prop} {x k : Nat} {t u v : Tok} (hk : k ≤ 2 ^ 24) (h1 : x < 256 ^ k) (h : ∀ t' k', Q (.bytes (beK k x).toArray t') { s with toks := k' }) :
    wpAny (model prog w) A (call (.builtin "int.to_bytes") [.int (x : Int) t, .int (k : Int) u, .str (PySem.Str.ofString "big") v]) Q E s := by
  refine wpAny_call_entry KTBy.slot (typeIs_int s x t) KTBy.entry ?_ (KTBy.args _ _ _)
  have hb : intBits (x : Int) ≤ 8 * k := by
    refine intBits_le_iff.mpr ?_
    have e2 : (2 : Nat) ^ 8 = 256 := by decide
    rw [Nat.pow_mul, e2]
    omega
  show wpAny _ _ (Builtin.Int.intOfSelf (.int x t) >>= fun y => _) _ _ s
  refine wpAny_bind (wpAny_of_eq (a := (x : Int)) rfl ?_)
  show wpAny _ _ (Builtin.Int.intBindNamed "to_bytes" ["length", "byteorder", "signed"] 0 2 [.int (k : Int) u, .str (PySem.Str.ofString "big") v] [] >>= fun l => _) _ _ s
  refine wpAny_bind (wpAny_of_eq (a := [some (.int (k : Int) u), some (.str (PySem.Str.ofString "big") v), none]) (by kernel_rfl) ?_)
  show wpAny _ _ (Builtin.Int.intIndex "int.to_bytes" (.int (k : Int) u) >>= fun n => _) _ _ s
  refine wpAny_bind (wpAny_of_eq (a := (k : Int)) rfl ?_)
  refine KTBy.if_not (by show (decide ((k : Int) < -(2 ^ 63 : Int)) || decide ((k : Int) ≥ 2 ^ 63)) = false; rw [decide_eq_false (show ¬ ((k : Int) < -(2 ^ 63 : Int)) by omega), decide_eq_false (show ¬ ((k : Int) ≥ 2 ^ 63) by omega)]; rfl) ?_
  refine wpAny_bind (wpAny_of_eq (a := PySem.Str.ofString "big") (by kernel_rfl) ?_)
  refine wpAny_bind (wpAny_of_eq (a := false) rfl ?_)
  refine wpAny_bind (wpAny_of_eq (a := false) (by kernel_rfl) ?_)
  refine wpAny_ite_false (decide_eq_false (show ¬ ((k : Int) < 0) by omega)) ?_
  refine wpAny_ite_false (decide_eq_false (show ¬ ((k : Int) > 2 ^ 63 - 1 - 33) by omega)) ?_
  refine wpAny_ite_false (decide_eq_false (show ¬ ((k : Int) > (sizeLine : Int)) by rw [sizeLine_eq]; omega)) ?_
  refine KTBy.if_not (by show (decide ((x : Int) < 0) && !false) = false; rw [decide_eq_false (show ¬ (x : Int) < 0 by omega)]; rfl) ?_
  refine KTBy.if_not (by show (_ && decide ((intBits (x : Int) : Int) > 8 * (k : Int))) = false; rw [decide_eq_false (show ¬ ((intBits (x : Int) : Int) > 8 * (k : Int)) by omega), Bool.and_false]) ?_
  have e : List.reverse (KTBy.low (x : Int) (Int.toNat (k : Int))) = beK k x := by rw [Int.toNat_natCast, lowBytes_rev h1]
  refine wpAny_bind (wpAny_mkBytes (wpAny_pure ⟨_, rfl, ?_⟩) (by show (List.reverse (KTBy.low (x : Int) (Int.toNat (k : Int)))).length ≤ sizeLine; rw [e, beK_length, sizeLine_eq]; omega))
  show Q (.bytes (List.reverse (KTBy.low (x : Int) (Int.toNat (k : Int)))).toArray _) _
  rw [e]; exact h _ _

theorem fold_ofBe (b : List UInt8) : b.foldl (fun (acc : Int) (c : UInt8) => acc * 256 + (c.toNat : Int)) ((0 : Nat) : Int) = ((ofBe b : Nat) : Int) := KFB.foldI_eq b 0
theorem grown_nat {n k : Nat} {Q : Value → Shared → Prop} (hn : n < 2 ^ k) (hk : k ≤ 2 ^ 26) (h : Q (.int (n : Int) s.toks) { s with toks := s.toks + 1 }) : wpAny M A (mkIntGrown (n : Int)) Q E s := by
  unfold mkIntGrown
  have hl : ¬ ((n : Int).natAbs.log2 ≥ bitsLine) := by
    rw [Int.natAbs_natCast]
    have hb : bitsLine = 134217728 := by first | rfl | decide
    by_cases hz : n = 0
    · subst hz; rw [hb]; decide
    · have h1 := (Nat.log2_lt hz).mpr hn
      omega
  rw [if_neg hl]
  exact wpAny_mkInt h
theorem fb_tree {b : List UInt8} {t u : Tok} {P : Fin → Shared → Prop} (hl : b.length ≤ 2 ^ 23) (h : P (.done (.ret (.int (ofBe b : Nat) s.toks))) { s with toks := s.toks + 1 }) :
    wpAny M A (Builtin.«int.from_bytes» ⟨[.type "int", .bytes b.toArray t, .str (PySem.Str.ofString "big") u], []⟩) P E s := by
  have hn : ofBe b < 2 ^ (8 * b.length) := by
    have := ofBe_lt b
    have e2 : (2 : Nat) ^ 8 = 256 := by decide
    rw [Nat.pow_mul, e2]; exact this
  unfold Builtin.«int.from_bytes»
  refine wpAny_bind (wpAny_of_eq (a := true) KFB.type_int ?_)
  refine KFB.if_not rfl ?_
  refine wpAny_bind (wpAny_of_eq (a := true) F.conv_sub_int ?_)
  refine KFB.if_not rfl ?_
  refine wpAny_bind (wpAny_of_eq (a := [some (.bytes b.toArray t), some (.str (PySem.Str.ofString "big") u), none]) (by kernel_rfl) ?_)
  refine wpAny_bind (wpAny_of_eq (a := PySem.Str.ofString "big") (by kernel_rfl) ?_)
  refine wpAny_bind (wpAny_of_eq (a := false) rfl ?_)
  refine wpAny_bind (wpAny_of_eq (a := false) (by kernel_rfl) ?_)
  refine wpAny_bind (wpAny_of_eq (a := b.toArray) rfl ?_)
  show wpAny _ _ (mkIntGrown (b.toArray.toList.foldl (fun (acc : Int) (b : UInt8) => acc * 256 + (b.toNat : Int)) ((0 : Nat) : Int)) >>= fun v => _) _ _ _
  rw [show b.toArray.toList = b by simp, fold_ofBe]
  refine wpAny_bind (grown_nat hn (by omega) ?_)
  refine KFB.if_so (by decide +kernel) ?_
  exact wpAny_bind (wpAny_pure (wpAny_pure h))
theorem from_big {x : Addr} {b : List UInt8} {t u : Tok} {Q : Value → Shared → Prop} (N : News h₀ L s.heap news) (hm : (x, KFB.bound) ∈ news) (hl : b.length ≤ 2 ^ 23)
    (h : ∀ t' k, Q (.int (ofBe b : Nat) t') { s with toks := k }) : wpAny (model prog w) A (call (.ref x) [.bytes b.toArray t, .str (PySem.Str.ofString "big") u]) Q E s :=
  KFB.call_of (KFB.at_of N hm) (fun z => fb_tree hl z) (h _ _)

theorem slice_bytes {x : List UInt8} {t ta tb : Tok} {a b : Nat} {value slice : Expr} {Q : Value → Shared → Prop} (hF : Fr h₀ L s.heap m) (hN : News h₀ L s.heap news) (hz : x.length ≤ 16777216)
    (h : ∀ h' t' k, Fr h₀ L h' m → News h₀ L h' news → Q (.bytes ((x.drop a).take (b - a)).toArray t') { s with heap := h', toks := k })
    (hs : subscripted slice false (.bytes x.toArray t) (.ref s.heap.objs.size) = operate [.ref s.heap.objs.size, .bytes x.toArray t] (getItem (.bytes x.toArray t) (.ref s.heap.objs.size)) := by with_unfolding_all rfl)
    (ht : ∀ r, letTemporaryGo value (.bytes x.toArray t) r = pure () := by intro _; with_unfolding_all rfl) :
    wpAny (model prog w) A (subscriptTail value slice (.bytes x.toArray t) (.ref s.heap.objs.size)) Q E { s with heap := s.heap.push { cls := .type "slice", data := .fields #[.int (a : Int) ta, .int (b : Int) tb, .none] } } := by
  have e : KBy.picked x.toArray (some (a : Int)) (some (b : Int)) = ((x.drop a).take (b - a)).toArray := by
    rw [KBc.picked_eq]
    simp only [Option.elim, clipAt_nat, List.size_toArray]
    congr 1
    rcases Nat.le_total a x.length with h1 | h1
    · rw [Nat.min_eq_left h1]
      rcases Nat.le_total b x.length with h2 | h2
      · rw [Nat.min_eq_left h2]
      · rw [Nat.min_eq_right h2, List.take_of_length_le (by rw [List.length_drop]; omega), List.take_of_length_le (by rw [List.length_drop]; omega)]
    · rw [Nat.min_eq_right h1, List.drop_eq_nil_of_le (Nat.le_refl _), List.drop_eq_nil_of_le h1]; simp
  have hsz : x.toArray.size = (KBw.bInts x.toArray).length := (KBw.ints_length _).symm
  refine KBc.slice_K hF hN rfl (.int (a : Int) ta) (.int (b : Int) tb) (by rw [KBw.ints_length, List.size_toArray]; exact hz) (fun h' t' k F' N' _ => ?_) hs ht
  rw [e]; exact h h' t' k F' N'
end
end Mine
end

section
set_option maxRecDepth 100000
set_option linter.unusedVariables false
set_option Elab.async false
open PySem PySem.W PyProof.Rows PySem.Spec PySem.Calls
namespace Mine
open Rlp
section
variable {prog : Program} {w : World} {M : Model} {A : Around} {E : Value → Shared → Prop} {s : Shared} {h₀ : Heap} {L : Addr} {m : Str → Option Value} {news : List (Addr × Obj)}
theorem slice_int {x : List UInt8} {t ta tb : Tok} {a b : Int} {value slice : Expr} {Q : Value → Shared → Prop} (hF : Fr h₀ L s.heap m) (hN : News h₀ L s.heap news) (hz : x.length ≤ 16777216)
    (ha : 0 ≤ a) (hb : 0 ≤ b)
    (h : ∀ h' t' k, Fr h₀ L h' m → News h₀ L h' news → Q (.bytes (Rlp.slice x a.toNat (b - a).toNat).toArray t') { s with heap := h', toks := k })
    (hs : subscripted slice false (.bytes x.toArray t) (.ref s.heap.objs.size) = operate [.ref s.heap.objs.size, .bytes x.toArray t] (getItem (.bytes x.toArray t) (.ref s.heap.objs.size)) := by with_unfolding_all rfl)
    (ht : ∀ r, letTemporaryGo value (.bytes x.toArray t) r = pure () := by intro _; with_unfolding_all rfl) :
    wpAny (model prog w) A (subscriptTail value slice (.bytes x.toArray t) (.ref s.heap.objs.size)) Q E { s with heap := s.heap.push { cls := .type "slice", data := .fields #[.int a ta, .int b tb, .none] } } := by
  obtain ⟨i, rfl⟩ := Int.eq_ofNat_of_zero_le ha
  obtain ⟨j, rfl⟩ := Int.eq_ofNat_of_zero_le hb
  refine slice_bytes hF hN hz (fun h' t' k F' N' => ?_) hs ht
  have e : Rlp.slice x (Int.toNat (i : Int)) (Int.toNat ((j : Int) - (i : Int))) = (x.drop i).take (j - i) := by
    unfold Rlp.slice
    congr 1
    omega
  rw [← e]; exact h h' t' k F' N'
/-- what is around a piece within the frame of ev -/
abbrev ktrE (dp un : Nat) (gd : Option (List Code)) (ev : Env) (outer : List Env) : Around := { handled := none, depth := dp, frames := some (ev :: outer), guards := gd, units := un }
theorem ktr_dp {dp un : Nat} {gd : Option (List Code)} {ev : Env} {outer : List Env} : (ktrE dp un gd ev outer).depth = dp := rfl
theorem ktr_un {dp un : Nat} {gd : Option (List Code)} {ev : Env} {outer : List Env} : (ktrE dp un gd ev outer).units = un := rfl
end
end Mine
end

section
set_option maxRecDepth 100000
set_option linter.unusedVariables false
set_option Elab.async false
open PySem PySem.W PyProof.Rows PySem.Spec PySem.Calls
namespace Mine
open Rlp
theorem noI_bytes_add : typeLookup (.type "bytes") (dunderI "add") = pure none := by rw [typeLookup_type, builtinLookup_eq_fast]; kernel_rfl
section
variable {prog : Program} {w : World} {A : Around} {E : Value → Shared → Prop} {s : Shared} {b c : Array UInt8} {t u : Tok} {Q : Value → Shared → Prop}
theorem iadd_bytes (hsz : b.size + c.size ≤ 16777216) (h : ∀ t' k, Q (.bytes (b ++ c) t') { s with toks := k }) : wpAny (model prog w) A (inplaceOp .Add (.bytes b t) (.bytes c u)) Q E s := by
  refine iconcat_gives (typeIs_bytes s b t) (typeIs_bytes s c u) noI_bytes_add KBy.noFill_bytes_add KBy.seq_bytes_add FB.slot_bytes_add FB.entry_bytes_add (FB.args_bytes_add_2 _ _) (KBy.gives_bytes_add (KBy.tooLong_not hsz)) ?_
  split
  · rename_i hb
    have k := h u s.toks
    rw [Array.isEmpty_iff.1 hb, Array.empty_append] at k
    exact k
  · split
    · rename_i hc
      have k := h t s.toks
      rw [Array.isEmpty_iff.1 hc, Array.append_empty] at k
      exact k
    · exact ⟨by rw [Array.size_append, sizeLine_eq]; exact hsz, h _ _⟩
end
end Mine
end

section
open PySem PySem.W PyProof.Rows PySem.Spec PySem.Calls Rlp
set_option Elab.async false
set_option maxRecDepth 100000
set_option maxHeartbeats 0
set_option linter.unusedVariables false
namespace Mine
open PySem.Builtin.Int (intBits)
abbrev pg : Program := PySem.Challenge.pw_bi0020_03
theorem fillK : (fun (_ : OpenLaw) (_ : Params → Frag) => True) PySem.Challenge.rw_bi0020_03 K := by
  k_fill
  trivial
local macro_rules | `(tactic| walk_at "ENTER0") => `(tactic| (refine wpAny_call ?_; k_dflt (refine' code_def ?k1 ?k2 ?k3 ?k4 ?k5 ?kA ?kF ?kK ?k6 ?k7 ?k8 ?k9 ?kB ?_ ?c2 ?c3 ?c4 ?c5; (case kA => exact rfl); (case kF => exact And.right (by assumption)); (case kK => exact And.left (by assumption)); (case k1 => k_asm); (case k2 => k_asm); (case k3 => k_asm); (case k4 => k_asm); (case k5 => k_asm); (case k6 => k_is); (case k7 => k_is); (case k8 => ktr_room); (case k9 => exact BindsTo.of_eq rfl); (case c5 => decide); (case kB => exact locs rfl); (case c2 => exact rfl); (case c3 => exact rfl); (case c4 => exact rfl); k_whole; intro g' L' h' FG' F' N' B' X' T'; (try dsimp only); (try k_fold))))
local macro_rules | `(tactic| walk_at "ENTER") => `(tactic| (walk_at "ENTER0"; k_steps))
theorem octs_bits {n : Nat} (h : 0 < n) : octs n = (intBits (n : Int) + 7) / 8 := by
  have e2 : (2 : Nat) ^ 8 = 256 := by decide
  have hb0 : ¬ intBits (n : Int) ≤ 0 := by
    rw [intBits_le_iff]; simp; omega
  have h1 : octs n ≤ (intBits (n : Int) + 7) / 8 := by
    refine octs_le (by omega) ?_
    have := (intBits_le_iff (x := (n : Int)) (m := 8 * ((intBits (n : Int) + 7) / 8))).mp (by omega)
    rw [Nat.pow_mul, e2] at this
    simpa using this
  have h2 : intBits (n : Int) ≤ 8 * octs n := by
    rw [intBits_le_iff, Nat.pow_mul, e2]
    simpa using lt_octs n
  omega
theorem all_bytes (P : Params) : (K P).lookup 1450 = some ⟨.type "tuple", none, .seq ((List.range 256).map fun i => Value.bytes ⟨[UInt8.ofNat i]⟩ (397 + 3 * i)).toArray 0, ⟨[]⟩⟩ := by kernel_rfl!
section
variable {w : World} {p : Program} {loose : List Str} {mean : ExcName → Option Value} {mg mb : Str → Option Value} {dp un : Nat} {gd : Option (List Code)} {ev : Env} {outer : List Env} {A₀ : Around} {base h₀ : Heap} {L : Addr} {m : Str → Option Value} {news : List (Addr × Obj)} {s : Shared} {Q E : Value → Shared → Prop}
theorem i2b {n : Nat} {t : Tok}
    (B : Below A₀ base outer h₀) (F : Fr h₀ L s.heap m) (X : (K w.params).In h₀) (N : News h₀ L s.heap news) (T : Top p loose mean mg mb h₀) (hk : ev.scope.kind = .function ∧ ev.frame = some L)
    (hd : dp + 10 < recursionLimit) (hu : un + 40 < cLine) (hn : octs n ≤ 2 ^ 23)
    (hret : ∀ h' tk' tk, Fr h₀ L h' m → News h₀ L h' news → Q (.bytes (be n).toArray tk) { s with heap := h', toks := tk' }) :
    wpAny (model pg w) (ktrE dp un gd ev outer) (call (.ref 1471) [.int n t]) Q E s := by
  walk_at "ENTER"
  · rename_i hb
    have h0 : 0 < n := by
      rcases Nat.eq_zero_or_pos n with q | q
      · subst q; exact absurd rfl hb
      · exact q
    have e : ((intBits (n : Int) : Int) + 7).fdiv 8 = ((octs n : Nat) : Int) := by
      rw [octs_bits h0, Int.fdiv_eq_ediv_of_nonneg _ (by decide)]; omega
    rw [e]
    refine to_big (by omega) (lt_octs n) fun t' k' => ?_
    k_steps
    exact hret _ _ _ (by k_asm) (by k_asm)
  · rename_i hb
    have h0 : n = 0 := by
      rcases Nat.eq_zero_or_pos n with q | q
      · exact q
      · have e : ((intBits (n : Int) : Int) + 7).fdiv 8 = ((octs n : Nat) : Int) := by
          rw [octs_bits q, Int.fdiv_eq_ediv_of_nonneg _ (by decide)]; omega
        have := octs_pos n
        rw [e] at hb
        omega
    subst h0
    refine to_big (k := 1) (by decide) (by decide) fun t' k' => ?_
    k_steps
    have e : beK 1 0 = be 0 := by decide +kernel
    rw [e]
    exact hret _ _ _ (by k_asm) (by k_asm)
theorem allb {value slice : Expr} {k : Int} {u : Tok} {n : Nat} {A : Around} {Q : Value → Shared → Prop} (F : Fr h₀ L s.heap m) (X : (K w.params).In h₀) (hk : k = (n : Int)) (hn : n < 256) (h : ∀ t', Q (.bytes [UInt8.ofNat n].toArray t') s)
    (hs : subscripted slice false (.ref 1450) (.int k u) = operate [.ref 1450, .int k u] (getItem (.ref 1450) (.int k u)) := by with_unfolding_all rfl) :
    wpAny (model pg w) A (subscriptTail value slice (.ref 1450) (.int k u)) Q E s := by
  subst hk
  refine topTup_K (j := n) F X (all_bytes _) (by omega) (by omega) ?_ (v := .bytes ⟨[UInt8.ofNat n]⟩ (397 + 3 * n)) ?_ (h _) hs
  · unfold seqIndex?
    simp only [List.length_map, List.length_range]
    have h1 : ¬ ((n : Int) < 0) := by omega
    simp [h1]; omega
  · rw [List.getElem?_map, List.getElem?_range hn]; rfl
local macro_rules | `(tactic| walk_at "bsz") => `(tactic| ((try simp only [List.size_toArray, List.length_append, List.length_cons, List.length_nil, be_length, beK_length]); omega))
local macro_rules | `(tactic| walk_at "call builtin:len") => `(tactic| ((with_reducible show wpAny _ _ (call (Value.builtin _) [Value.bytes (List.toArray _) _]) _ _ _); refine len_bytes (by walk_at "bsz") ?_; (try simp only [List.size_toArray, be_length])))
local macro_rules | `(tactic| walk_at "binaryOp Add bytes bytes") => `(tactic| ((with_reducible show wpAny _ _ (binaryOp Operator.Add (Value.bytes (List.toArray _) _) (Value.bytes (List.toArray _) _)) _ _ _); refine KBy.add_bytes (by walk_at "bsz") ?_; intro _ _; (try simp only [List.append_toArray, List.cons_append, List.nil_append])))
theorem lp {n off : Nat} {t u : Tok}
    (B : Below A₀ base outer h₀) (F : Fr h₀ L s.heap m) (X : (K w.params).In h₀) (N : News h₀ L s.heap news) (T : Top p loose mean mg mb h₀) (hk : ev.scope.kind = .function ∧ ev.frame = some L)
    (hd : dp + 20 < recursionLimit) (hu : un + 60 < cLine) (hn : n < 2 ^ 24) (ho : off = 128 ∨ off = 192)
    (hret : ∀ h' tk' tk, Fr h₀ L h' m → News h₀ L h' news → Q (.bytes (pre n off).toArray tk) { s with heap := h', toks := tk' }) :
    wpAny (model pg w) (ktrE dp un gd ev outer) (call (.ref 1729) [.int n t, .int off u]) Q E s := by
  walk_at "ENTER"
  · rename_i hb
    have hn' : n < 56 := by omega
    refine allb (n := off + n) (by k_asm) (by k_asm) (by omega) (by omega) fun t' => ?_
    k_steps
    have e : pre n off = [UInt8.ofNat (off + n)] := by unfold pre; rw [if_pos hn']
    rw [← e]
    exact hret _ _ _ (by k_asm) (by k_asm)
  · have h56 : ¬ n < 56 := by omega
    have ho8 : octs n ≤ 8 := octs_le (by decide) (by omega)
    k_dflt (refine' i2b ?k1 ?k2 ?k3 ?k4 ?k5 ?k6 ?k7 ?k8 ?k9 ?_; (case k1 => k_asm); (case k2 => k_asm); (case k3 => k_asm); (case k4 => k_asm); (case k5 => k_asm); (case k6 => exact ⟨rfl, rfl⟩); (case k7 => (show dp + 1 + 10 < recursionLimit); omega); (case k8 => (show un + 3 + 40 < cLine); omega); (case k9 => omega))
    intro h' tk' tk F1 N1
    k_steps
    refine allb (n := off + 55 + octs n) (by k_asm) (by k_asm) (by omega) (by omega) fun t' => ?_
    k_steps
    have e : pre n off = UInt8.ofNat (off + 55 + octs n) :: be n := by unfold pre; rw [if_neg h56]
    rw [← e]
    exact hret _ _ _ (by k_asm) (by k_asm)
end
end Mine
end

section
open PySem PySem.W PyProof.Rows PySem.Spec PySem.Calls Rlp
set_option Elab.async false
set_option maxRecDepth 100000
set_option maxHeartbeats 0
set_option linter.unusedVariables false
namespace Mine
theorem fillK2 : (fun (_ : OpenLaw) (_ : Params → Frag) => True) PySem.Challenge.rw_bi0020_03 K := by
  k_fill
  trivial
local macro_rules | `(tactic| walk_at "ENTER0") => `(tactic| (refine wpAny_call ?_; k_dflt (refine' code_def ?k1 ?k2 ?k3 ?k4 ?k5 ?kA ?kF ?kK ?k6 ?k7 ?k8 ?k9 ?kB ?_ ?c2 ?c3 ?c4 ?c5; (case kA => exact rfl); (case kF => exact And.right (by assumption)); (case kK => exact And.left (by assumption)); (case k1 => k_asm); (case k2 => k_asm); (case k3 => k_asm); (case k4 => k_asm); (case k5 => k_asm); (case k6 => k_is); (case k7 => k_is); (case k8 => ktr_room); (case k9 => exact BindsTo.of_eq rfl); (case c5 => decide); (case kB => exact locs rfl); (case c2 => exact rfl); (case c3 => exact rfl); (case c4 => exact rfl); k_whole; intro g' L' h' FG' F' N' B' X' T'; (try dsimp only); (try k_fold))))
local macro_rules | `(tactic| walk_at "ENTER") => `(tactic| (walk_at "ENTER0"; k_steps))
local macro_rules | `(tactic| walk_at "bsz") => `(tactic| ((try simp only [List.size_toArray, List.length_append, List.length_cons, List.length_nil, be_length, beK_length]); omega))
local macro_rules | `(tactic| walk_at "call builtin:len") => `(tactic| ((with_reducible show wpAny _ _ (call (Value.builtin _) [Value.bytes (List.toArray _) _]) _ _ _); refine len_bytes (by walk_at "bsz") ?_; (try simp only [List.size_toArray, be_length])))
local macro_rules | `(tactic| walk_at "binaryOp Add bytes bytes") => `(tactic| ((with_reducible show wpAny _ _ (binaryOp Operator.Add (Value.bytes (List.toArray _) _) (Value.bytes (List.toArray _) _)) _ _ _); refine KBy.add_bytes (by walk_at "bsz") ?_; intro _ _; (try simp only [List.append_toArray, List.cons_append, List.nil_append])))
theorem pre_le {n : Nat} (off : Nat) (h : n < 256 ^ 8) : (pre n off).length ≤ 9 := by
  unfold pre
  split
  · simp
  · have := octs_le (n := n) (k := 8) (by decide) h
    simp [be_length]; omega
section
variable {w : World} {p : Program} {loose : List Str} {mean : ExcName → Option Value} {mg mb : Str → Option Value} {dp un : Nat} {gd : Option (List Code)} {ev : Env} {outer : List Env} {A₀ : Around} {base h₀ : Heap} {L : Addr} {m : Str → Option Value} {news : List (Addr × Obj)} {s : Shared} {Q E : Value → Shared → Prop}
theorem er_b {x : List UInt8} {t : Tok}
    (B : Below A₀ base outer h₀) (F : Fr h₀ L s.heap m) (X : (K w.params).In h₀) (N : News h₀ L s.heap news) (T : Top p loose mean mg mb h₀) (hk : ev.scope.kind = .function ∧ ev.frame = some L)
    (hd : dp + 30 < recursionLimit) (hu : un + 80 < cLine) (hx : x.length < 2 ^ 23)
    (hret : ∀ h' tk' tk, Fr h₀ L h' m → News h₀ L h' news → Q (.bytes (enc (.b x)).toArray tk) { s with heap := h', toks := tk' }) :
    wpAny (model pg w) (ktrE dp un gd ev outer) (call (.ref 1707) [.bytes x.toArray t]) Q E s := by
  walk_at "ENTER"
  · have h1 : x.length = 1 := by omega
    have h2 : ((x.getD (Int.toNat 0) 0).toNat : Int) < 128 := by assumption
    have e : enc (.b x) = x := by
      obtain ⟨c, rfl⟩ := List.length_eq_one_iff.mp h1
      have : c.toNat < 128 := by simp at h2; omega
      simp [enc, this]
    rw [← e]
    exact hret _ _ _ (by k_asm) (News.sub (by k_asm) fun _ h => .tail _ h)
  · have h1 : x.length = 1 := by omega
    have h2 : ¬ ((x.getD (Int.toNat 0) 0).toNat : Int) < 128 := by assumption
    have e : enc (.b x) = pre x.length 128 ++ x := by
      obtain ⟨c, rfl⟩ := List.length_eq_one_iff.mp h1
      have : ¬ c.toNat < 128 := by simp at h2; omega
      simp [enc, this]
    k_dflt (refine' lp (off := 128) ?k1 ?k2 ?k3 ?k4 ?k5 ?k6 ?k7 ?k8 ?k9 ?k0 ?_; (case k1 => k_asm); (case k2 => k_asm); (case k3 => k_asm); (case k4 => k_asm); (case k5 => k_asm); (case k6 => exact ⟨rfl, rfl⟩); (case k7 => (show dp + 1 + 20 < recursionLimit); omega); (case k8 => (show un + 3 + 60 < cLine); omega); (case k9 => omega); (case k0 => exact Or.inl rfl))
    intro h' tk' tk F1 N1
    have hp := pre_le (n := x.length) 128 (by omega)
    k_steps
    rw [← e]
    exact hret _ _ _ (by k_asm) (News.sub (by k_asm) fun _ h => .tail _ h)
  · have h1 : x.length ≠ 1 := by omega
    have e : enc (.b x) = pre x.length 128 ++ x := by
      unfold enc
      split
      · exact absurd rfl h1
      · rfl
    k_dflt (refine' lp (off := 128) ?k1 ?k2 ?k3 ?k4 ?k5 ?k6 ?k7 ?k8 ?k9 ?k0 ?_; (case k1 => k_asm); (case k2 => k_asm); (case k3 => k_asm); (case k4 => k_asm); (case k5 => k_asm); (case k6 => exact ⟨rfl, rfl⟩); (case k7 => (show dp + 1 + 20 < recursionLimit); omega); (case k8 => (show un + 3 + 60 < cLine); omega); (case k9 => omega); (case k0 => exact Or.inl rfl))
    intro h' tk' tk F1 N1
    have hp := pre_le (n := x.length) 128 (by omega)
    k_steps
    rw [← e]
    exact hret _ _ _ (by k_asm) (News.sub (by k_asm) fun _ h => .tail _ h)
end
end Mine
end

section
open PySem PySem.W PyProof.Rows PySem.Spec PySem.Calls Rlp
set_option Elab.async false
set_option maxRecDepth 100000
set_option maxHeartbeats 0
set_option linter.unusedVariables false
namespace Mine
theorem fillK3 : (fun (_ : OpenLaw) (_ : Params → Frag) => True) PySem.Challenge.rw_bi0020_03 K := by
  k_fill
  trivial
local macro_rules | `(tactic| walk_at "ENTER0") => `(tactic| (refine wpAny_call ?_; k_dflt (refine' code_def ?k1 ?k2 ?k3 ?k4 ?k5 ?kA ?kF ?kK ?k6 ?k7 ?k8 ?k9 ?kB ?_ ?c2 ?c3 ?c4 ?c5; (case kA => exact rfl); (case kF => exact And.right (by assumption)); (case kK => exact And.left (by assumption)); (case k1 => k_asm); (case k2 => k_asm); (case k3 => k_asm); (case k4 => k_asm); (case k5 => k_asm); (case k6 => k_is); (case k7 => k_is); (case k8 => ktr_room); (case k9 => exact BindsTo.of_eq rfl); (case c5 => decide); (case kB => exact locs rfl); (case c2 => exact rfl); (case c3 => exact rfl); (case c4 => exact rfl); k_whole; intro g' L' h' FG' F' N' B' X' T'; (try dsimp only); (try k_fold))))
local macro_rules | `(tactic| walk_at "ENTER") => `(tactic| (walk_at "ENTER0"; k_steps))
local macro_rules | `(tactic| walk_at "bsz") => `(tactic| ((try simp only [List.size_toArray, List.length_append, List.length_cons, List.length_nil, be_length, beK_length]); omega))
local macro_rules | `(tactic| walk_at "call builtin:len") => `(tactic| ((with_reducible show wpAny _ _ (call (Value.builtin _) [Value.bytes (List.toArray _) _]) _ _ _); refine len_bytes (by walk_at "bsz") ?_; (try simp only [List.size_toArray, be_length])))
local macro_rules | `(tactic| walk_at "binaryOp Add bytes bytes") => `(tactic| ((with_reducible show wpAny _ _ (binaryOp Operator.Add (Value.bytes (List.toArray _) _) (Value.bytes (List.toArray _) _)) _ _ _); refine KBy.add_bytes (by walk_at "bsz") ?_; intro _ _; (try simp only [List.append_toArray, List.cons_append, List.nil_append])))
section
variable {w : World} {p : Program} {loose : List Str} {mean : ExcName → Option Value} {mg mb : Str → Option Value} {dp un : Nat} {gd : Option (List Code)} {ev : Env} {outer : List Env} {A₀ : Around} {base h₀ : Heap} {L : Addr} {m : Str → Option Value} {news : List (Addr × Obj)} {s : Shared} {Q E : Value → Shared → Prop}
theorem b2i {x : List UInt8} {t : Tok}
    (B : Below A₀ base outer h₀) (F : Fr h₀ L s.heap m) (X : (K w.params).In h₀) (N : News h₀ L s.heap news) (T : Top p loose mean mg mb h₀) (hk : ev.scope.kind = .function ∧ ev.frame = some L)
    (hd : dp + 10 < recursionLimit) (hu : un + 40 < cLine) (hx : x.length ≤ 2 ^ 23)
    (hret : ∀ h' tk' tk, Fr h₀ L h' m → News h₀ L h' news → Q (.int (ofBe x : Nat) tk) { s with heap := h', toks := tk' }) :
    wpAny (model pg w) (ktrE dp un gd ev outer) (call (.ref 1464) [.bytes x.toArray t]) Q E s := by
  walk_at "ENTER"
  refine from_big (by k_asm) (by k_mem) hx fun t' k => ?_
  k_steps
  exact hret _ _ _ (by k_asm) (News.sub (by k_asm) fun _ h => .tail _ h)
theorem is_b {b : Array UInt8} {t : Tok}
    (B : Below A₀ base outer h₀) (F : Fr h₀ L s.heap m) (X : (K w.params).In h₀) (N : News h₀ L s.heap news) (T : Top p loose mean mg mb h₀) (hk : ev.scope.kind = .function ∧ ev.frame = some L)
    (hd : dp + 10 < recursionLimit) (hu : un + 40 < cLine)
    (hret : ∀ h' tk', Fr h₀ L h' m → News h₀ L h' news → Q (.bool true) { s with heap := h', toks := tk' }) :
    wpAny (model pg w) (ktrE dp un gd ev outer) (call (.ref 1457) [.bytes b t]) Q E s := by
  walk_at "ENTER"
  exact hret _ _ (by k_asm) (News.sub (by k_asm) fun _ h => .tail _ h)
/-- the octets of a number by the plain sedes -/
def ser0 (n : Nat) : List UInt8 := if n = 0 then [] else be n
theorem ser_plain {n : Nat} {t : Tok}
    (B : Below A₀ base outer h₀) (F : Fr h₀ L s.heap m) (X : (K w.params).In h₀) (N : News h₀ L s.heap news) (T : Top p loose mean mg mb h₀) (hk : ev.scope.kind = .function ∧ ev.frame = some L)
    (hd : dp + 20 < recursionLimit) (hu : un + 60 < cLine) (hn : octs n ≤ 2 ^ 23)
    (hret : ∀ h' tk' tk, Fr h₀ L h' m → News h₀ L h' news → Q (.bytes (ser0 n).toArray tk) { s with heap := h', toks := tk' }) :
    wpAny (model pg w) (ktrE dp un gd ev outer) (call (.ref 1493) [.ref 1509, .int n t]) Q E s := by
  walk_at "ENTER"
  · have e : ser0 n = [] := by unfold ser0; rw [if_pos (by omega)]
    rw [show (#[] : Array UInt8) = (ser0 n).toArray by rw [e]]
    exact hret _ _ _ (by k_asm) (by k_asm)
  · have e : ser0 n = be n := by unfold ser0; rw [if_neg (by omega)]
    k_dflt (refine' i2b ?k1 ?k2 ?k3 ?k4 ?k5 ?k6 ?k7 ?k8 ?k9 ?_; (case k1 => k_asm); (case k2 => k_asm); (case k3 => k_asm); (case k4 => k_asm); (case k5 => k_asm); (case k6 => exact ⟨rfl, rfl⟩); (case k7 => (show dp + 1 + 10 < recursionLimit); omega); (case k8 => (show un + 3 + 40 < cLine); omega); (case k9 => omega))
    intro h' tk' tk F1 N1
    k_steps
    rw [← e]
    exact hret _ _ _ (by k_asm) (by k_asm)
theorem des_plain {x : List UInt8} {t : Tok}
    (B : Below A₀ base outer h₀) (F : Fr h₀ L s.heap m) (X : (K w.params).In h₀) (N : News h₀ L s.heap news) (T : Top p loose mean mg mb h₀) (hk : ev.scope.kind = .function ∧ ev.frame = some L)
    (hd : dp + 20 < recursionLimit) (hu : un + 60 < cLine) (hx : x.length ≤ 2 ^ 23) (h0 : x[0]? ≠ some 0)
    (hret : ∀ h' tk' tk, Fr h₀ L h' m → News h₀ L h' news → Q (.int (ofBe x : Nat) tk) { s with heap := h', toks := tk' }) :
    wpAny (model pg w) (ktrE dp un gd ev outer) (call (.ref 1500) [.ref 1509, .bytes x.toArray t]) Q E s := by
  walk_at "ENTER"
  · refine slice_bytes (s := ⟨_, _, _, _, _⟩) (a := 0) (b := 1) (by k_asm) (by k_asm) (by omega) fun h' t' k F1 N1 => ?_
    k_steps
    · exfalso
      match x, h0 with
      | [], _ => simp_all
      | c :: r, h0 => simp_all
    · k_dflt (refine' b2i ?k1 ?k2 ?k3 ?k4 ?k5 ?k6 ?k7 ?k8 ?k9 ?_; (case k1 => k_asm); (case k2 => k_asm); (case k3 => k_asm); (case k4 => k_asm); (case k5 => k_asm); (case k6 => exact ⟨rfl, rfl⟩); (case k7 => (show dp + 1 + 10 < recursionLimit); omega); (case k8 => (show un + 3 + 40 < cLine); omega); (case k9 => omega))
      intro h' tk' tk F1 N1
      k_steps
      exact hret _ _ _ (by k_asm) (by k_asm)
    · exfalso
      simp_all
  · k_dflt (refine' b2i ?k1 ?k2 ?k3 ?k4 ?k5 ?k6 ?k7 ?k8 ?k9 ?_; (case k1 => k_asm); (case k2 => k_asm); (case k3 => k_asm); (case k4 => k_asm); (case k5 => k_asm); (case k6 => exact ⟨rfl, rfl⟩); (case k7 => (show dp + 1 + 10 < recursionLimit); omega); (case k8 => (show un + 3 + 40 < cLine); omega); (case k9 => omega))
    intro h' tk' tk F1 N1
    k_steps
    exact hret _ _ _ (by k_asm) (by k_asm)
  · k_dflt (refine' b2i (x := [0]) ?k1 ?k2 ?k3 ?k4 ?k5 ?k6 ?k7 ?k8 ?k9 ?_; (case k1 => k_asm); (case k2 => k_asm); (case k3 => k_asm); (case k4 => k_asm); (case k5 => k_asm); (case k6 => exact ⟨rfl, rfl⟩); (case k7 => (show dp + 1 + 10 < recursionLimit); omega); (case k8 => (show un + 3 + 40 < cLine); omega); (case k9 => decide))
    intro h' tk' tk F1 N1
    k_steps
    have e : x = [] := by
      match x with
      | [] => rfl
      | c :: r => simp_all
    subst e
    exact hret _ _ _ (by k_asm) (by k_asm)
end
end Mine
end

section
open PySem PySem.W PyProof.Rows PySem.Spec PySem.Calls Rlp
set_option Elab.async false
set_option maxRecDepth 100000
set_option maxHeartbeats 0
set_option linter.unusedVariables false
namespace Mine
theorem fillK4 : (fun (_ : OpenLaw) (_ : Params → Frag) => True) PySem.Challenge.rw_bi0020_03 K := by
  k_fill
  trivial
local macro_rules | `(tactic| walk_at "ENTER0") => `(tactic| (refine wpAny_call ?_; k_dflt (refine' code_def ?k1 ?k2 ?k3 ?k4 ?k5 ?kA ?kF ?kK ?k6 ?k7 ?k8 ?k9 ?kB ?_ ?c2 ?c3 ?c4 ?c5; (case kA => exact rfl); (case kF => exact And.right (by assumption)); (case kK => exact And.left (by assumption)); (case k1 => k_asm); (case k2 => k_asm); (case k3 => k_asm); (case k4 => k_asm); (case k5 => k_asm); (case k6 => k_is); (case k7 => k_is); (case k8 => ktr_room); (case k9 => exact BindsTo.of_eq rfl); (case c5 => decide); (case kB => exact locs rfl); (case c2 => exact rfl); (case c3 => exact rfl); (case c4 => exact rfl); k_whole; intro g' L' h' FG' F' N' B' X' T'; (try dsimp only); (try k_fold))))
local macro_rules | `(tactic| walk_at "ENTER") => `(tactic| (walk_at "ENTER0"; k_steps))
local macro_rules | `(tactic| walk_at "bsz") => `(tactic| ((try simp only [List.size_toArray, List.length_append, List.length_cons, List.length_nil, be_length, beK_length, slice_length]); omega))
local macro_rules | `(tactic| walk_at "call builtin:len") => `(tactic| ((with_reducible show wpAny _ _ (call (Value.builtin _) [Value.bytes (List.toArray _) _]) _ _ _); refine len_bytes (by walk_at "bsz") ?_; (try simp only [List.size_toArray, be_length])))
local macro_rules | `(tactic| walk_at "binaryOp Add bytes bytes") => `(tactic| ((with_reducible show wpAny _ _ (binaryOp Operator.Add (Value.bytes (List.toArray _) _) (Value.bytes (List.toArray _) _)) _ _ _); refine KBy.add_bytes (by walk_at "bsz") ?_; intro _ _; (try simp only [List.append_toArray, List.cons_append, List.nil_append])))
local macro_rules | `(tactic| walk_at "subscriptTail") => `(tactic| ((with_reducible show wpAny _ _ (subscriptTail _ _ (Value.bytes (List.toArray _) _) (Value.ref _)) _ _ _); refine slice_int (s := ⟨_, _, _, _, _⟩) (by k_asm) (by k_asm) (by omega) (by omega) (by omega) ?_; intro _ _ _ _ _))
local macro_rules | `(tactic| walk_at "dp") => `(tactic| ((show _ + _ < _); simp only [ktr_dp, ktr_un]; omega))
local macro_rules | `(tactic| walk_at "call ref") => `(tactic| ((with_reducible show wpAny _ _ (call (Value.ref 1464) _) _ _ _); (k_dflt (refine' b2i ?k1 ?k2 ?k3 ?k4 ?k5 ?k6 ?k7 ?k8 ?k9 ?_; (case k1 => k_asm); (case k2 => k_asm); (case k3 => k_asm); (case k4 => k_asm); (case k5 => k_asm); (case k6 => exact ⟨rfl, rfl⟩); (case k7 => walk_at "dp"); (case k8 => walk_at "dp"); (case k9 => walk_at "bsz"))); intro _ _ _ _ _))
theorem tup_new {h₀ hh : Heap} {L : Addr} {b : Addr} {nw : List (Addr × Obj)} {q q' : List UInt8} {z z' : Str} {l l' e e' : Int} {t1 t2 t3 t4 : Tok}
    (h : News h₀ L hh ((b, (⟨.type "tuple", none, .seq #[.bytes q'.toArray t1, .str z' t2, .int l' t3, .int e' t4] 0, ⟨[]⟩⟩ : Obj)) :: nw)) (hq : q' = q) (hz : z' = z) (hl : l' = l) (he : e' = e) :
    News h₀ L hh ((b, (⟨.type "tuple", none, .seq #[.bytes q.toArray t1, .str z t2, .int l t3, .int e t4] 0, ⟨[]⟩⟩ : Obj)) :: nw) := by
  subst hq hz hl he; exact h
section
variable {w : World} {p : Program} {loose : List Str} {mean : ExcName → Option Value} {mg mb : Str → Option Value} {dp un : Nat} {gd : Option (List Code)} {ev : Env} {outer : List Env} {A₀ : Around} {base h₀ : Heap} {L : Addr} {m : Str → Option Value} {news : List (Addr × Obj)} {s : Shared} {Q E : Value → Shared → Prop}
theorem clp_ok {x : List UInt8} {st : Nat} {t u : Tok}
    (B : Below A₀ base outer h₀) (F : Fr h₀ L s.heap m) (X : (K w.params).In h₀) (N : News h₀ L s.heap news) (T : Top p loose mean mg mb h₀) (hk : ev.scope.kind = .function ∧ ev.frame = some L)
    (hd : dp + 20 < recursionLimit) (hu : un + 60 < cLine) (hx : x.length < 2 ^ 23) {q : List UInt8} {row : Bool} {l e : Nat} (hc : clp x st = .ok (q, row, l, e))
    (hret : ∀ h' tk' b t1 t2 t3 t4, Fr h₀ L h' m → News h₀ L h' ((b, (⟨.type "tuple", none, .seq #[.bytes q.toArray t1, .str (Str.ofString (if row then "list" else "bytes")) t2, .int (l : Nat) t3, .int (e : Nat) t4] 0, ⟨[]⟩⟩ : Obj)) :: news) → (∀ p ∈ news, p.1 < b) → Q (.ref b) { s with heap := h', toks := tk' }) :
    wpAny (model pg w) (ktrE dp un gd ev outer) (call (.ref 1736) [.bytes x.toArray t, .int st u]) Q E s := by
  have hst : st < x.length := (clp_ge hc).2.2.2
  obtain ⟨c, hcc⟩ : ∃ c, x[st]? = some c := ⟨_, List.getElem?_eq_getElem hst⟩
  have hcn : (x.getD (Int.toNat (st : Int)) 0).toNat = c.toNat := by simp [List.getD, hcc]
  unfold clp at hc
  rw [hcc] at hc
  dsimp only at hc
  have h129 : c.toNat = 129 → st + 1 < x.length := by
    intro h9
    simp only [h9] at hc
    cases hg : x[st + 1]? with
    | none => simp [hg] at hc
    | some c' => exact (List.getElem?_eq_some_iff.mp hg).1
  walk_at "ENTER"
  · rw [if_pos (by omega)] at hc
    simp only [R.ok.injEq, Prod.mk.injEq] at hc
    obtain ⟨rfl, rfl, rfl, rfl⟩ := hc
    exact hret _ _ _ _ _ _ _ (by k_asm) (tup_new (by k_asm) rfl rfl rfl rfl) (by assumption)
  · exfalso
    rw [if_neg (by omega), if_pos (by omega), if_pos (by omega)] at hc
    have h1 := h129 (by omega)
    rw [List.getElem?_eq_getElem h1] at hc
    have e1 : x.getD (Int.toNat ((st : Int) + 1)) 0 = x[st + 1] := by
      rw [show Int.toNat ((st : Int) + 1) = st + 1 by omega]; simp [List.getD, h1]
    simp only [e1] at *
    rw [if_pos (by omega)] at hc
    cases hc
  · rw [if_neg (by omega), if_pos (by omega), if_pos (by omega)] at hc
    have h1 := h129 (by omega)
    rw [List.getElem?_eq_getElem h1] at hc
    have e1 : x.getD (Int.toNat ((st : Int) + 1)) 0 = x[st + 1] := by
      rw [show Int.toNat ((st : Int) + 1) = st + 1 by omega]; simp [List.getD, h1]
    have h2 : ¬ (((x.getD (Int.toNat ((st : Int) + 1)) 0).toNat : Nat) : Int) < 128 := by assumption
    rw [e1] at h2
    simp only at hc
    rw [if_neg (by omega)] at hc
    simp only [R.ok.injEq, Prod.mk.injEq] at hc
    obtain ⟨rfl, rfl, rfl, rfl⟩ := hc
    exact hret _ _ _ _ _ _ _ (by k_asm) (tup_new (by k_asm) (by congr 1; omega) rfl (by omega) (by omega)) (by assumption)
  · rw [if_neg (by omega), if_pos (by omega), if_neg (by omega)] at hc
    simp only [R.ok.injEq, Prod.mk.injEq] at hc
    obtain ⟨rfl, rfl, rfl, rfl⟩ := hc
    exact hret _ _ _ _ _ _ _ (by k_asm) (tup_new (by k_asm) (by congr 1; omega) rfl (by omega) (by omega)) (by assumption)
  · exfalso
    rw [if_neg (by omega), if_neg (by omega), if_pos (by omega)] at hc
    have h2 : ((slice x (Int.toNat ((st : Int) + 1)) (Int.toNat ((st : Int) + 2 - (st + 1)))).toArray.toList == #[0].toList) = true := by assumption
    rw [show Int.toNat ((st : Int) + 1) = st + 1 by omega, show Int.toNat ((st : Int) + 2 - (st + 1)) = 1 by omega] at h2
    rw [if_pos (by simpa using h2)] at hc
    cases hc
  · exfalso
    rw [if_neg (by omega), if_neg (by omega), if_pos (by omega)] at hc
    have h3 : ((ofBe (slice x (Int.toNat ((st : Int) + 1)) (Int.toNat ((st : Int) + 1 + ((((x.getD (Int.toNat (st : Int)) 0).toNat : Nat) : Int) - 183) - (st + 1)))) : Nat) : Int) < 56 := by assumption
    rw [show Int.toNat ((st : Int) + 1) = st + 1 by omega, show Int.toNat ((st : Int) + 1 + ((((x.getD (Int.toNat (st : Int)) 0).toNat : Nat) : Int) - 183) - (st + 1)) = c.toNat - 183 by omega] at h3
    split at hc
    · cases hc
    · rw [if_pos (by omega)] at hc
      cases hc
  · rw [if_neg (by omega), if_neg (by omega), if_pos (by omega)] at hc
    have h2 : ((slice x (Int.toNat ((st : Int) + 1)) (Int.toNat ((st : Int) + 2 - (st + 1)))).toArray.toList == #[0].toList) = false := by assumption
    rw [show Int.toNat ((st : Int) + 1) = st + 1 by omega, show Int.toNat ((st : Int) + 2 - (st + 1)) = 1 by omega] at h2
    have h3 : ¬ ((ofBe (slice x (Int.toNat ((st : Int) + 1)) (Int.toNat ((st : Int) + 1 + ((((x.getD (Int.toNat (st : Int)) 0).toNat : Nat) : Int) - 183) - (st + 1)))) : Nat) : Int) < 56 := by assumption
    have e1 : Int.toNat ((st : Int) + 1) = st + 1 := by omega
    have e2 : Int.toNat ((st : Int) + 1 + ((((x.getD (Int.toNat (st : Int)) 0).toNat : Nat) : Int) - 183) - (st + 1)) = c.toNat - 183 := by omega
    rw [e1, e2] at h3
    rw [if_neg (by simpa using h2), if_neg (by omega)] at hc
    simp only [R.ok.injEq, Prod.mk.injEq] at hc
    obtain ⟨rfl, rfl, rfl, rfl⟩ := hc
    refine hret _ _ _ _ _ _ _ (by k_asm) (tup_new (by k_asm) ?_ rfl ?_ ?_) (by assumption)
    · rw [e1, e2]; congr 1; congr 1; omega
    · rw [e1, e2]
    · omega
  · rw [if_neg (by omega), if_neg (by omega), if_neg (by omega), if_pos (by omega)] at hc
    simp only [R.ok.injEq, Prod.mk.injEq] at hc
    obtain ⟨rfl, rfl, rfl, rfl⟩ := hc
    exact hret _ _ _ _ _ _ _ (by k_asm) (tup_new (by k_asm) (by congr 1; omega) rfl (by omega) (by omega)) (by assumption)
  · exfalso
    rw [if_neg (by omega), if_neg (by omega), if_neg (by omega), if_neg (by omega)] at hc
    have h2 : ((slice x (Int.toNat ((st : Int) + 1)) (Int.toNat ((st : Int) + 2 - (st + 1)))).toArray.toList == #[0].toList) = true := by assumption
    rw [show Int.toNat ((st : Int) + 1) = st + 1 by omega, show Int.toNat ((st : Int) + 2 - (st + 1)) = 1 by omega] at h2
    rw [if_pos (by simpa using h2)] at hc
    cases hc
  · exfalso
    rw [if_neg (by omega), if_neg (by omega), if_neg (by omega), if_neg (by omega)] at hc
    have h3 : ((ofBe (slice x (Int.toNat ((st : Int) + 1)) (Int.toNat ((st : Int) + 1 + ((((x.getD (Int.toNat (st : Int)) 0).toNat : Nat) : Int) - 192 - 56 + 1) - (st + 1)))) : Nat) : Int) < 56 := by assumption
    rw [show Int.toNat ((st : Int) + 1) = st + 1 by omega, show Int.toNat ((st : Int) + 1 + ((((x.getD (Int.toNat (st : Int)) 0).toNat : Nat) : Int) - 192 - 56 + 1) - (st + 1)) = c.toNat - 247 by omega] at h3
    split at hc
    · cases hc
    · rw [if_pos (by omega)] at hc
      cases hc
  · rw [if_neg (by omega), if_neg (by omega), if_neg (by omega), if_neg (by omega)] at hc
    have h2 : ((slice x (Int.toNat ((st : Int) + 1)) (Int.toNat ((st : Int) + 2 - (st + 1)))).toArray.toList == #[0].toList) = false := by assumption
    rw [show Int.toNat ((st : Int) + 1) = st + 1 by omega, show Int.toNat ((st : Int) + 2 - (st + 1)) = 1 by omega] at h2
    have h3 : ¬ ((ofBe (slice x (Int.toNat ((st : Int) + 1)) (Int.toNat ((st : Int) + 1 + ((((x.getD (Int.toNat (st : Int)) 0).toNat : Nat) : Int) - 192 - 56 + 1) - (st + 1)))) : Nat) : Int) < 56 := by assumption
    have e1 : Int.toNat ((st : Int) + 1) = st + 1 := by omega
    have e2 : Int.toNat ((st : Int) + 1 + ((((x.getD (Int.toNat (st : Int)) 0).toNat : Nat) : Int) - 192 - 56 + 1) - (st + 1)) = c.toNat - 247 := by omega
    rw [e1, e2] at h3
    rw [if_neg (by simpa using h2), if_neg (by omega)] at hc
    simp only [R.ok.injEq, Prod.mk.injEq] at hc
    obtain ⟨rfl, rfl, rfl, rfl⟩ := hc
    refine hret _ _ _ _ _ _ _ (by k_asm) (tup_new (by k_asm) ?_ rfl ?_ ?_) (by assumption)
    · rw [e1, e2]; congr 1; congr 1; omega
    · rw [e1, e2]
    · omega
end
end Mine
end

section
open PySem PySem.W PyProof.Rows PySem.Spec PySem.Calls Rlp
set_option Elab.async false
set_option maxRecDepth 100000
set_option maxHeartbeats 0
set_option linter.unusedVariables false
namespace Mine
theorem fillK5 : (fun (_ : OpenLaw) (_ : Params → Frag) => True) PySem.Challenge.rw_bi0020_03 K := by
  k_fill
  trivial
local macro_rules | `(tactic| walk_at "ENTER0") => `(tactic| (refine wpAny_call ?_; k_dflt (refine' code_def ?k1 ?k2 ?k3 ?k4 ?k5 ?kA ?kF ?kK ?k6 ?k7 ?k8 ?k9 ?kB ?_ ?c2 ?c3 ?c4 ?c5; (case kA => exact rfl); (case kF => exact And.right (by assumption)); (case kK => exact And.left (by assumption)); (case k1 => k_asm); (case k2 => k_asm); (case k3 => k_asm); (case k4 => k_asm); (case k5 => k_asm); (case k6 => k_is); (case k7 => k_is); (case k8 => ktr_room); (case k9 => exact BindsTo.of_eq rfl); (case c5 => decide); (case kB => exact locs rfl); (case c2 => exact rfl); (case c3 => exact rfl); (case c4 => exact rfl); k_whole; intro g' L' h' FG' F' N' B' X' T'; (try dsimp only); (try k_fold))))
local macro_rules | `(tactic| walk_at "ENTER") => `(tactic| (walk_at "ENTER0"; k_steps))
local macro_rules | `(tactic| walk_at "bsz") => `(tactic| ((try simp only [List.size_toArray, List.length_append, List.length_cons, List.length_nil, be_length, beK_length, slice_length]); omega))
local macro_rules | `(tactic| walk_at "call builtin:len") => `(tactic| ((with_reducible show wpAny _ _ (call (Value.builtin _) [Value.bytes (List.toArray _) _]) _ _ _); refine len_bytes (by walk_at "bsz") ?_; (try simp only [List.size_toArray, be_length])))
local macro_rules | `(tactic| walk_at "binaryOp Add bytes bytes") => `(tactic| ((with_reducible show wpAny _ _ (binaryOp Operator.Add (Value.bytes (List.toArray _) _) (Value.bytes (List.toArray _) _)) _ _ _); refine KBy.add_bytes (by walk_at "bsz") ?_; intro _ _; (try simp only [List.append_toArray, List.cons_append, List.nil_append])))
local macro_rules | `(tactic| walk_at "subscriptTail") => `(tactic| ((with_reducible show wpAny _ _ (subscriptTail _ _ (Value.bytes (List.toArray _) _) (Value.ref _)) _ _ _); refine slice_int (s := ⟨_, _, _, _, _⟩) (by k_asm) (by k_asm) (by omega) (by omega) (by omega) ?_; intro _ _ _ _ _))
local macro_rules | `(tactic| walk_at "dp") => `(tactic| ((show _ + _ < _); simp only [ktr_dp, ktr_un]; omega))
local macro_rules | `(tactic| walk_at "call ref") => `(tactic| ((with_reducible show wpAny _ _ (call (Value.ref 1464) _) _ _ _); (k_dflt (refine' b2i ?k1 ?k2 ?k3 ?k4 ?k5 ?k6 ?k7 ?k8 ?k9 ?_; (case k1 => k_asm); (case k2 => k_asm); (case k3 => k_asm); (case k4 => k_asm); (case k5 => k_asm); (case k6 => exact ⟨rfl, rfl⟩); (case k7 => walk_at "dp"); (case k8 => walk_at "dp"); (case k9 => walk_at "bsz"))); intro _ _ _ _ _))
theorem Grow.on {l l' : List (Addr × Obj)} {a : Addr} {o : Obj} (g : Grow l l') (h : ∀ p ∈ l, p.1 < a) : Grow l ((a, o) :: l') :=
  ⟨fun _ k => .tail _ (g.1 _ k), fun p hp => (List.mem_cons.mp hp).elim (fun e => .inr (by subst e; exact h)) (g.2 p)⟩
theorem of_allLt {d : Nat} : ∀ {l : List (Addr × Obj)}, AllLt d l → ∀ p ∈ l, p.1 < d
  | [], _, _, hp => nomatch hp
  | _ :: _, h, p, hp => (List.mem_cons.mp hp).elim (fun e => by subst e; exact h.1) (of_allLt h.2 p)
theorem of_allLt1 {d x : Nat} {l : List (Addr × Obj)} (h : x < d ∧ AllLt d l) : ∀ p ∈ l, p.1 < d := of_allLt h.2
theorem of_allLt2 {d x y : Nat} {l : List (Addr × Obj)} (h : x < d ∧ y < d ∧ AllLt d l) : ∀ p ∈ l, p.1 < d := of_allLt h.2.2
theorem of_allLt3 {d x y z : Nat} {l : List (Addr × Obj)} (h : x < d ∧ y < d ∧ z < d ∧ AllLt d l) : ∀ p ∈ l, p.1 < d := of_allLt h.2.2.2
local macro_rules | `(tactic| walk_at "lt_in") => `(tactic| first | assumption | exact of_allLt (by assumption) | exact of_allLt1 (by assumption) | exact of_allLt2 (by assumption) | exact of_allLt3 (by assumption))
mutual
inductive DIn (nw : List (Addr × Obj)) : Value → D → Prop
  | b {x : List UInt8} {t : Tok} : DIn nw (.bytes x.toArray t) (.b x)
  | l {a : Addr} {vs : List Value} {n : Nat} {ds : List D} : (a, (⟨.type "list", none, .seq vs.toArray n, ⟨[]⟩⟩ : Obj)) ∈ nw → DsIn nw vs ds → DIn nw (.ref a) (.l ds)
inductive DsIn (nw : List (Addr × Obj)) : List Value → List D → Prop
  | nil : DsIn nw [] []
  | cons {v : Value} {d : D} {vs : List Value} {ds : List D} : DIn nw v d → DsIn nw vs ds → DsIn nw (v :: vs) (d :: ds)
end
mutual
theorem DIn.mono {l l' : List (Addr × Obj)} (h : ∀ p ∈ l, p ∈ l') : ∀ {v : Value} {d : D}, DIn l v d → DIn l' v d
  | _, _, .b => .b
  | _, _, .l a b => .l (h _ a) (DsIn.mono h b)
theorem DsIn.mono {l l' : List (Addr × Obj)} (h : ∀ p ∈ l, p ∈ l') : ∀ {vs : List Value} {ds : List D}, DsIn l vs ds → DsIn l' vs ds
  | _, _, .nil => .nil
  | _, _, .cons a b => .cons (DIn.mono h a) (DsIn.mono h b)
end
theorem DsIn.snoc {l : List (Addr × Obj)} : ∀ {vs : List Value} {ds : List D} {v : Value} {d : D}, DsIn l vs ds → DIn l v d → DsIn l (vs ++ [v]) (ds ++ [d])
  | _, _, _, _, .nil, h => .cons h .nil
  | _, _, _, _, .cons a b, h => .cons a (DsIn.snoc b h)
theorem slot_mem {b : Addr} {nw : List (Addr × Obj)} {q q' : List UInt8} {v v' : Value} {e e' : Int} {t1 t2 : Tok}
    (h : (b, (⟨.type "tuple", none, .seq #[.bytes q'.toArray t1, v', .int e' t2] 0, ⟨[]⟩⟩ : Obj)) ∈ nw) (hq : q' = q) (hz : v' = v) (he : e' = e) :
    (b, (⟨.type "tuple", none, .seq #[.bytes q.toArray t1, v, .int e t2] 0, ⟨[]⟩⟩ : Obj)) ∈ nw := by
  subst hq hz he; exact h
theorem one_mem {b : Addr} {nw : List (Addr × Obj)} {q q' : List UInt8} {t1 : Tok} {n : Nat}
    (h : (b, (⟨.type "list", none, .seq #[.bytes q'.toArray t1] n, ⟨[]⟩⟩ : Obj)) ∈ nw) (hq : q' = q) :
    (b, (⟨.type "list", none, .seq #[.bytes q.toArray t1] n, ⟨[]⟩⟩ : Obj)) ∈ nw := by
  subst hq; exact h
section
variable {w : World} {p : Program} {loose : List Str} {mean : ExcName → Option Value} {mg mb : Str → Option Value} {dp un : Nat} {gd : Option (List Code)} {ev : Env} {outer : List Env} {A₀ : Around} {base h₀ : Heap} {L : Addr} {m : Str → Option Value} {news : List (Addr × Obj)} {s : Shared} {Q E : Value → Shared → Prop}
theorem pay_b {x q : List UInt8} {e l : Nat} {t t1 t2 t3 t4 : Tok}
    (B : Below A₀ base outer h₀) (F : Fr h₀ L s.heap m) (X : (K w.params).In h₀) (N : News h₀ L s.heap news) (T : Top p loose mean mg mb h₀) (hk : ev.scope.kind = .function ∧ ev.frame = some L)
    (hd : dp + 20 < recursionLimit) (hu : un + 60 < cLine) (hx : x.length < 2 ^ 23) (hq : q.length < 20)
    (hret : ∀ h' tk' b v u2 u3 pr its n Z, Fr h₀ L h' m → News h₀ L h' (Z ++ news) → (∀ p ∈ Z, ∀ r ∈ news, r.1 < p.1) → (b, (⟨.type "tuple", none, .seq #[v, .ref pr, .int ((e + l : Nat) : Int) u2] 0, ⟨[]⟩⟩ : Obj)) ∈ Z → DIn Z v (.b (slice x e l)) → (pr, (⟨.type "list", none, .seq (Value.bytes (q ++ slice x e l).toArray u3 :: its).toArray n, ⟨[]⟩⟩ : Obj)) ∈ Z → Q (.ref b) { s with heap := h', toks := tk' }) :
    wpAny (model pg w) (ktrE dp un gd ev outer) (call (.ref 1743) [.bytes x.toArray t, .bytes q.toArray t1, .int e t2, .str (Str.ofString "bytes") t3, .int l t4]) Q E s := by
  walk_at "ENTER"
  have e1 : slice x (Int.toNat (e : Int)) (Int.toNat ((e : Int) + l - e)) = slice x e l := by congr 1; omega
  refine hret _ _ _ _ _ _ _ [] _ [(_, _), (_, _)] (by k_asm) (by k_asm) (fun p hp => ?_) (slot_mem (.head _) e1 rfl (by omega)) .b (one_mem (.tail _ (.head _)) (by rw [e1]))
  rcases List.mem_cons.mp hp with rfl | hp
  · walk_at "lt_in"
  · rcases List.mem_cons.mp hp with rfl | hp
    · walk_at "lt_in"
    · nomatch hp
end
end Mine
end

section
open PySem PySem.W PyProof.Rows PySem.Spec PySem.Calls Rlp
set_option Elab.async false
set_option maxRecDepth 100000
set_option maxHeartbeats 0
set_option linter.unusedVariables false
namespace Mine
theorem fillK6 : (fun (_ : OpenLaw) (_ : Params → Frag) => True) PySem.Challenge.rw_bi0020_03 K := by
  k_fill
  trivial
local macro_rules | `(tactic| walk_at "ENTER0") => `(tactic| (refine wpAny_call ?_; k_dflt (refine' code_def ?k1 ?k2 ?k3 ?k4 ?k5 ?kA ?kF ?kK ?k6 ?k7 ?k8 ?k9 ?kB ?_ ?c2 ?c3 ?c4 ?c5; (case kA => exact rfl); (case kF => exact And.right (by assumption)); (case kK => exact And.left (by assumption)); (case k1 => k_asm); (case k2 => k_asm); (case k3 => k_asm); (case k4 => k_asm); (case k5 => k_asm); (case k6 => k_is); (case k7 => k_is); (case k8 => ktr_room); (case k9 => exact BindsTo.of_eq rfl); (case c5 => decide); (case kB => exact locs rfl); (case c2 => exact rfl); (case c3 => exact rfl); (case c4 => exact rfl); k_whole; intro g' L' h' FG' F' N' B' X' T'; (try dsimp only); (try k_fold))))
local macro_rules | `(tactic| walk_at "ENTER") => `(tactic| (walk_at "ENTER0"; k_steps))
local macro_rules | `(tactic| walk_at "bsz") => `(tactic| ((try simp only [List.size_toArray, List.length_append, List.length_cons, List.length_nil, be_length, beK_length, slice_length]); omega))
local macro_rules | `(tactic| walk_at "call builtin:len") => `(tactic| ((with_reducible show wpAny _ _ (call (Value.builtin _) [Value.bytes (List.toArray _) _]) _ _ _); refine len_bytes (by walk_at "bsz") ?_; (try simp only [List.size_toArray, be_length])))
local macro_rules | `(tactic| walk_at "binaryOp Add bytes bytes") => `(tactic| ((with_reducible show wpAny _ _ (binaryOp Operator.Add (Value.bytes (List.toArray _) _) (Value.bytes (List.toArray _) _)) _ _ _); refine KBy.add_bytes (by walk_at "bsz") ?_; intro _ _; (try simp only [List.append_toArray, List.cons_append, List.nil_append])))
local macro_rules | `(tactic| walk_at "subscriptTail") => `(tactic| ((with_reducible show wpAny _ _ (subscriptTail _ _ (Value.bytes (List.toArray _) _) (Value.ref _)) _ _ _); refine slice_int (s := ⟨_, _, _, _, _⟩) (by k_asm) (by k_asm) (by omega) (by omega) (by omega) ?_; intro _ _ _ _ _))
local macro_rules | `(tactic| walk_at "dp") => `(tactic| ((show _ + _ < _); simp only [ktr_dp, ktr_un]; omega))
local macro_rules | `(tactic| walk_at "call ref") => `(tactic| ((with_reducible show wpAny _ _ (call (Value.ref 1464) _) _ _ _); (k_dflt (refine' b2i ?k1 ?k2 ?k3 ?k4 ?k5 ?k6 ?k7 ?k8 ?k9 ?_; (case k1 => k_asm); (case k2 => k_asm); (case k3 => k_asm); (case k4 => k_asm); (case k5 => k_asm); (case k6 => exact ⟨rfl, rfl⟩); (case k7 => walk_at "dp"); (case k8 => walk_at "dp"); (case k9 => walk_at "bsz"))); intro _ _ _ _ _))
local macro_rules | `(tactic| walk_at "call ref") => `(tactic| ((with_reducible show wpAny _ _ (call (Value.ref 1736) _) _ _ _); (k_dflt (refine' clp_ok ?k1 ?k2 ?k3 ?k4 ?k5 ?k6 ?k7 ?k8 ?k9 ?k0 ?_; (case k1 => k_asm); (case k2 => k_asm); (case k3 => k_asm); (case k4 => k_asm); (case k5 => k_asm); (case k6 => exact ⟨rfl, rfl⟩); (case k7 => walk_at "dp"); (case k8 => walk_at "dp"); (case k9 => walk_at "bsz"); (case k0 => assumption))); intro _ _ _ _ _ _ _ _ _ _))
local macro_rules | `(tactic| walk_at "NOWHILE") => `(tactic| fail_if_success (with_reducible show wpAny _ _ (exec (Stmt.While _ _ _ _) _) _ _ _))
local macro_rules | `(tactic| walk_at "KUPTO") => `(tactic| repeat' (first | (k_unfold; (try dsimp only)) | (k_end; wrow_close) | ((walk_at "NOWHILE"); walk1) | (dsimp only; walk_at "NOWHILE"; walk1) | (walk_at "NOWHILE"; leave1; (try dsimp only)) | fail "no step"))
local macro_rules | `(tactic| k_all) => `(tactic| assumption)
local macro_rules | `(tactic| k_ne) => `(tactic| assumption)
local macro_rules | `(tactic| walk_at "inplaceOp Add bytes") => `(tactic| ((with_reducible show wpAny _ _ (inplaceOp Operator.Add (Value.bytes (List.toArray _) _) (Value.bytes (List.toArray _) _)) _ _ _); refine iadd_bytes (by walk_at "bsz") ?_; intro _ _; (try simp only [List.append_toArray, List.cons_append, List.nil_append])))
structure PS where
  ds : List D
  rs : List UInt8
  vs : List Value
  ps : List Value
  next : Nat
  n1 : Nat
  n2 : Nat
  t1 : Tok
  t2 : Tok
  Z : List (Addr × Obj)
/-- consume_payload, at the depth k -/
def PaySpec (w : World) (k : Nat) : Prop := ∀ {p : Program} {loose : List Str} {mean : ExcName → Option Value} {mg mb : Str → Option Value} {dp un : Nat} {gd : Option (List Code)} {ev : Env} {outer : List Env} {A₀ : Around} {base h₀ : Heap} {L : Addr} {m : Str → Option Value} {news : List (Addr × Obj)} {s : Shared} {Q E : Value → Shared → Prop}
    {x q r : List UInt8} {row : Bool} {e l e' : Nat} {d : D} {t t1 t2 t3 t4 : Tok}, Below A₀ base outer h₀ → Fr h₀ L s.heap m → (K w.params).In h₀ → News h₀ L s.heap news → Top p loose mean mg mb h₀ → (ev.scope.kind = .function ∧ ev.frame = some L) →
    dp + 30 + 2 * k < recursionLimit → un + 80 + 10 * k < cLine → x.length < 2 ^ 23 → q.length < 20 → pay x k q row l e = .ok (d, r, e') →
    (∀ h' tk' b v u2 u3 pr its n Z, Fr h₀ L h' m → News h₀ L h' (Z ++ news) → (∀ p ∈ Z, ∀ r ∈ news, r.1 < p.1) → (b, (⟨.type "tuple", none, .seq #[v, .ref pr, .int (e' : Int) u2] 0, ⟨[]⟩⟩ : Obj)) ∈ Z → DIn Z v d → (pr, (⟨.type "list", none, .seq (Value.bytes r.toArray u3 :: its).toArray n, ⟨[]⟩⟩ : Obj)) ∈ Z → Q (.ref b) { s with heap := h', toks := tk' }) →
    wpAny (model pg w) (ktrE dp un gd ev outer) (call (.ref 1743) [.bytes x.toArray t, .bytes q.toArray t1, .int e t2, .str (Str.ofString (if row then "list" else "bytes")) t3, .int l t4]) Q E s
theorem pay_call {w : World} {k : Nat} (H : PaySpec w k) {p : Program} {loose : List Str} {mean : ExcName → Option Value} {mg mb : Str → Option Value} {dp un : Nat} {gd : Option (List Code)} {ev : Env} {outer : List Env} {A₀ : Around} {base h₀ : Heap} {L : Addr} {m : Str → Option Value} {news : List (Addr × Obj)} {s : Shared} {Q E : Value → Shared → Prop}
    {x q r : List UInt8} {row : Bool} {e l e' : Nat} {d : D} {t t1 t2 t3 t4 : Tok} (B : Below A₀ base outer h₀) (F : Fr h₀ L s.heap m) (X : (K w.params).In h₀) (N : News h₀ L s.heap news) (T : Top p loose mean mg mb h₀) (hk : ev.scope.kind = .function ∧ ev.frame = some L)
    (hd : dp + 30 + 2 * k < recursionLimit) (hu : un + 80 + 10 * k < cLine) (hx : x.length < 2 ^ 23) (hq : q.length < 20) (hl : pay x k q row l e = .ok (d, r, e'))
    (hret : ∀ h' tk' b v u2 u3 pr its n Z, Fr h₀ L h' m → News h₀ L h' (Z ++ news) → (∀ p ∈ Z, ∀ r ∈ news, r.1 < p.1) → (b, (⟨.type "tuple", none, .seq #[v, .ref pr, .int (e' : Int) u2] 0, ⟨[]⟩⟩ : Obj)) ∈ Z → DIn Z v d → (pr, (⟨.type "list", none, .seq (Value.bytes r.toArray u3 :: its).toArray n, ⟨[]⟩⟩ : Obj)) ∈ Z → Q (.ref b) { s with heap := h', toks := tk' }) :
    wpAny (model pg w) (ktrE dp un gd ev outer) (call (.ref 1743) [.bytes x.toArray t, .bytes q.toArray t1, .int e t2, .str (Str.ofString (if row then "list" else "bytes")) t3, .int l t4]) Q E s := H B F X N T hk hd hu hx hq hl hret
theorem DsIn.len {l : List (Addr × Obj)} : ∀ {vs : List Value} {ds : List D}, DsIn l vs ds → vs.length = ds.length
  | _, _, .nil => rfl
  | _, _, .cons a b => by rw [List.length_cons, List.length_cons, DsIn.len b]
theorem pay_led {h₀ h : Heap} {L b pr : Addr} {Z W news : List (Addr × Obj)} {x y z : Addr × Obj} {ob op : Obj} (N : News h₀ L h (Z ++ x :: y :: z :: (W ++ news))) (hb : (b, ob) ∈ Z) (hp : (pr, op) ∈ Z) :
    News h₀ L h ((b, ob) :: (pr, op) :: y :: z :: ((Z ++ W) ++ news)) := by
  refine News.sub N fun p hp' => ?_
  simp only [List.mem_cons, List.mem_append] at hp' ⊢
  rcases hp' with rfl | rfl | h | h | (h | h) | h
  · exact .inl hb
  · exact .inl hp
  · exact .inr (.inr (.inl h))
  · exact .inr (.inr (.inr (.inl h)))
  · exact .inl h
  · exact .inr (.inr (.inr (.inr (.inl h))))
  · exact .inr (.inr (.inr (.inr (.inr h))))
section
variable {w : World} {p : Program} {loose : List Str} {mean : ExcName → Option Value} {mg mb : Str → Option Value} {dp un : Nat} {gd : Option (List Code)} {ev : Env} {outer : List Env} {A₀ : Around} {base h₀ : Heap} {L : Addr} {m : Str → Option Value} {news : List (Addr × Obj)} {s : Shared} {Q E : Value → Shared → Prop}
theorem pay_l (dep : Nat) (hrec : ∀ k, dep = k + 1 → PaySpec w k) {x q r : List UInt8} {e l e' : Nat} {d : D} {t t1 t2 t3 t4 : Tok}
    (B : Below A₀ base outer h₀) (F : Fr h₀ L s.heap m) (X : (K w.params).In h₀) (N : News h₀ L s.heap news) (T : Top p loose mean mg mb h₀) (hk : ev.scope.kind = .function ∧ ev.frame = some L)
    (hd : dp + 30 + 2 * dep < recursionLimit) (hu : un + 80 + 10 * dep < cLine) (hx : x.length < 2 ^ 23) (hq : q.length < 20) (hl : pay x dep q true l e = .ok (d, r, e'))
    (hret : ∀ h' tk' b v u2 u3 pr its n Z, Fr h₀ L h' m → News h₀ L h' (Z ++ news) → (∀ p ∈ Z, ∀ r ∈ news, r.1 < p.1) → (b, (⟨.type "tuple", none, .seq #[v, .ref pr, .int (e' : Int) u2] 0, ⟨[]⟩⟩ : Obj)) ∈ Z → DIn Z v d → (pr, (⟨.type "list", none, .seq (Value.bytes r.toArray u3 :: its).toArray n, ⟨[]⟩⟩ : Obj)) ∈ Z → Q (.ref b) { s with heap := h', toks := tk' }) :
    wpAny (model pg w) (ktrE dp un gd ev outer) (call (.ref 1743) [.bytes x.toArray t, .bytes q.toArray t1, .int e t2, .str (Str.ofString "list") t3, .int l t4]) Q E s := by
  obtain ⟨ds, rs, hlo, hle, rfl, rfl⟩ := pay_row hl
  walk_at "ENTER0"
  walk_at "KUPTO"
  rename_i I _ lI _ _ P _ lP _ _ _ h1 F1 N1
  have N2 : News _ _ h1 ((P, W.listOf (([] : List Value)).toArray 0) :: (I, W.listOf (([] : List Value)).toArray 0) :: (([] : List (Addr × Obj)) ++ news)) := N1
  skip
  refine ksw_while (σ := PS) (fun c => (P, W.listOf c.ps.toArray c.n2) :: (I, W.listOf c.vs.toArray c.n1) :: (c.Z ++ news)) (fun c => [(Str.ofString "list_rlp", .bytes (q ++ c.rs).toArray c.t1), (Str.ofString "next_item_start", .int (c.next : Int) c.t2)])
    (fun c => (∀ p ∈ c.Z, (∀ r ∈ news, r.1 < p.1) ∧ p.1 ≠ I ∧ p.1 ≠ P) ∧ DsIn c.Z c.vs c.ds ∧ c.ps.length = c.ds.length) [Str.ofString "p", Str.ofString "t", Str.ofString "l", Str.ofString "s", Str.ofString "item", Str.ofString "item_rlp"]
    (fun c => ∃ n ds' rs', clLoop (item x dep) (e + l) n c.next = .ok (ds', rs', e') ∧ c.ds ++ ds' = ds ∧ c.rs ++ rs' = rs) (fun c => e + l - c.next) ⟨[], [], [], [], e, 0, 0, t1, t2, []⟩ F1 N2 ?_ ?_ ?_ ?_ ?_
  · exact ⟨fun p hp => (List.not_mem_nil hp).elim, DsIn.nil, rfl⟩
  · simp only [List.append_nil]
    kst_all
  · exact ⟨l + 1, ds, rs, hlo, List.nil_append _, List.nil_append _⟩
  · intro c u h2 tk2 hf hP F2 N2
    obtain ⟨hZ, hDs, hps⟩ := hf
    have hvl := DsIn.len hDs
    have hlo1 := loop_len hlo
    obtain ⟨n, ds', rs', hcl, e1, e2⟩ := hP
    by_cases hlt : c.next < e + l
    · obtain ⟨n', d, r, nx, ds2, rs2, hit, hcl2, rfl, rfl⟩ := loop_more hcl hlt
      obtain ⟨k, qq, row, ll, ss, hdk, hc, hp⟩ := item_split hit
      subst hdk
      have hh : PaySpec w k := hrec k rfl
      have hrl : (q ++ c.rs).length + r.length ≤ 2 ^ 23 + 20 := by
        have := congrArg List.length e2
        simp only [List.length_append] at this ⊢
        omega
      have hdl : c.ds.length < 2 ^ 23 := by
        have := congrArg List.length e1
        simp only [List.length_append, List.length_cons] at this
        omega
      have hc9 := clp_len hc
      k_steps
      k_dflt (refine' pay_call hh ?k1 ?k2 ?k3 ?k4 ?k5 ?k6 ?k7 ?k8 ?k9 ?k0 ?ka ?_; (case k1 => k_asm); (case k2 => k_asm); (case k3 => k_asm); (case k4 => k_asm); (case k5 => k_asm); (case k6 => exact ⟨rfl, rfl⟩); (case k7 => walk_at "dp"); (case k8 => walk_at "dp"); (case k9 => exact hx); (case k0 => omega); (case ka => exact hp))
      intro h3 tk3 b2 v u2 u3 pr its n9 Z F3 N3 hZ3 hb3 hv3 hpr3
      have N4 := pay_led N3 hb3 hpr3
      have hPr : ∀ p ∈ (Z ++ c.Z) ++ news, p.1 ≠ P := by
        intro p hp
        rcases List.mem_append.mp hp with hp | hp
        · rcases List.mem_append.mp hp with hp | hp
          · exact Nat.ne_of_gt (hZ3 p hp _ (.tail _ (.head _)))
          · exact (hZ p hp).2.2
        · exact Nat.ne_of_lt (of_allLt1 lP p hp)
      have hIr : ∀ p ∈ (Z ++ c.Z) ++ news, p.1 ≠ I := by
        intro p hp
        rcases List.mem_append.mp hp with hp | hp
        · rcases List.mem_append.mp hp with hp | hp
          · exact Nat.ne_of_gt (hZ3 p hp _ (.tail _ (.tail _ (.head _))))
          · exact (hZ p hp).2.1
        · exact Nat.ne_of_lt (lI p hp)
      have hbP : b2 ≠ P := hPr _ (List.mem_append_left _ (List.mem_append_left _ hb3))
      have hbI : b2 ≠ I := hIr _ (List.mem_append_left _ (List.mem_append_left _ hb3))
      have hpP : pr ≠ P := hPr _ (List.mem_append_left _ (List.mem_append_left _ hpr3))
      have hpI : pr ≠ I := hIr _ (List.mem_append_left _ (List.mem_append_left _ hpr3))
      have hIP : I ≠ P := Nat.ne_of_lt lP.1
      have hPI : P ≠ I := hIP.symm
      clear N3
      k_steps
      skip
      refine iadd_bytes (b := (q ++ c.rs).toArray) (c := r.toArray) (by simpa using Nat.le_trans hrl (by decide)) fun t9 k9 => ?_
      rw [List.append_toArray]
      k_steps
      rename_i NZ
      simp only [List.push_toArray] at NZ
      have hnx := item_ge hit
      refine ksw_end (⟨c.ds ++ [d], c.rs ++ r, c.vs ++ [v], c.ps ++ [.ref pr], nx, c.n1 + 1, c.n2 + 1, t9, u2, Z ++ c.Z⟩ : PS) (by assumption) NZ (fun p hp => .tail _ (.tail _ hp)) ⟨fun p hp => ⟨?_, ?_, ?_⟩, ?_, ?_⟩ ?_ ?_ ⟨n', ds2, rs2, hcl2, by simpa using e1, by simpa using e2⟩ ?_
      · intro r' hr'
        rcases List.mem_append.mp hp with hp | hp
        · exact hZ3 p hp _ (.tail _ (.tail _ (.tail _ (List.mem_append_right _ hr'))))
        · exact (hZ p hp).1 r' hr'
      · exact hIr p (List.mem_append_left _ hp)
      · exact hPr p (List.mem_append_left _ hp)
      · exact DsIn.snoc (DsIn.mono (fun p hp => List.mem_append_right _ hp) hDs) (DIn.mono (fun p hp => List.mem_append_left _ hp) hv3)
      · simp [hps]
      · simp only [← List.append_assoc]
        kst_all
      · intro z h2 h3
        simp only [List.forall_mem_cons, List.not_mem_nil, false_implies, implies_true, and_true, ne_eq] at h2
        have h4 := h3
        simp only [List.contains_cons, List.contains_nil, Bool.or_false, Bool.or_eq_false_iff, beq_eq_false_iff_ne, ne_eq] at h4
        simp only [kstB, h2, h3, h4, if_false, Bool.false_eq_true]
      · show e + l - nx < e + l - c.next
        omega
    · obtain ⟨rfl, rfl, he⟩ := loop_end hcl hlt
      k_steps
      have e1' : ds = c.ds := by simpa using e1.symm
      have e2' : rs = c.rs := by simpa using e2.symm
      subst e1' e2' he
      refine kl_insert (l := Value.bytes (q ++ c.rs).toArray c.t1 :: c.ps) (n := c.n2) (its := c.ps.toArray) (by k_asm) (by k_asm) rfl (by simp [kl_ins]) (.head ?_) (by simp [sizeLine]; omega) ?_
      · intro p hp
        rcases List.mem_cons.mp hp with rfl | hp
        · exact Nat.ne_of_lt lP.1
        · rcases List.mem_append.mp hp with hp | hp
          · exact (hZ p hp).2.2
          · exact Nat.ne_of_lt (of_allLt1 lP p hp)
      intro h9 F9 N9
      k_steps
      rename_i D9 _ _ _ l9 kF kN _ _
      refine hret _ _ D9 (.ref I) _ _ P c.ps (c.n2 + 1) ((D9, _) :: (P, _) :: (I, _) :: c.Z) kF kN ?_ (.head _) (.l (.tail _ (.tail _ (.head _))) (DsIn.mono (fun p hp => .tail _ (.tail _ (.tail _ hp))) hDs)) (.tail _ (.head _))
      intro p hp r' hr'
      rcases List.mem_cons.mp hp with rfl | hp
      · exact of_allLt2 l9 r' (List.mem_append_right _ hr')
      · rcases List.mem_cons.mp hp with rfl | hp
        · exact of_allLt1 lP r' hr'
        · rcases List.mem_cons.mp hp with rfl | hp
          · exact lI r' hr'
          · exact (hZ p hp).1 r' hr'
  · passes_own
end
end Mine
end

section
open PySem PySem.W PyProof.Rows PySem.Spec PySem.Calls Rlp
set_option Elab.async false
set_option maxRecDepth 100000
set_option maxHeartbeats 0
set_option linter.unusedVariables false
namespace Mine
theorem fillK7 : (fun (_ : OpenLaw) (_ : Params → Frag) => True) PySem.Challenge.rw_bi0020_03 K := by
  k_fill
  trivial
local macro_rules | `(tactic| walk_at "ENTER0") => `(tactic| (refine wpAny_call ?_; k_dflt (refine' code_def ?k1 ?k2 ?k3 ?k4 ?k5 ?kA ?kF ?kK ?k6 ?k7 ?k8 ?k9 ?kB ?_ ?c2 ?c3 ?c4 ?c5; (case kA => exact rfl); (case kF => exact And.right (by assumption)); (case kK => exact And.left (by assumption)); (case k1 => k_asm); (case k2 => k_asm); (case k3 => k_asm); (case k4 => k_asm); (case k5 => k_asm); (case k6 => k_is); (case k7 => k_is); (case k8 => ktr_room); (case k9 => exact BindsTo.of_eq rfl); (case c5 => decide); (case kB => exact locs rfl); (case c2 => exact rfl); (case c3 => exact rfl); (case c4 => exact rfl); k_whole; intro g' L' h' FG' F' N' B' X' T'; (try dsimp only); (try k_fold))))
local macro_rules | `(tactic| walk_at "ENTER") => `(tactic| (walk_at "ENTER0"; k_steps))
local macro_rules | `(tactic| walk_at "bsz") => `(tactic| ((try simp only [List.size_toArray, List.length_append, List.length_cons, List.length_nil, be_length, beK_length, slice_length]); omega))
local macro_rules | `(tactic| walk_at "call builtin:len") => `(tactic| ((with_reducible show wpAny _ _ (call (Value.builtin _) [Value.bytes (List.toArray _) _]) _ _ _); refine len_bytes (by walk_at "bsz") ?_; (try simp only [List.size_toArray, be_length])))
local macro_rules | `(tactic| walk_at "binaryOp Add bytes bytes") => `(tactic| ((with_reducible show wpAny _ _ (binaryOp Operator.Add (Value.bytes (List.toArray _) _) (Value.bytes (List.toArray _) _)) _ _ _); refine KBy.add_bytes (by walk_at "bsz") ?_; intro _ _; (try simp only [List.append_toArray, List.cons_append, List.nil_append])))
local macro_rules | `(tactic| walk_at "subscriptTail") => `(tactic| ((with_reducible show wpAny _ _ (subscriptTail _ _ (Value.bytes (List.toArray _) _) (Value.ref _)) _ _ _); refine slice_int (s := ⟨_, _, _, _, _⟩) (by k_asm) (by k_asm) (by omega) (by omega) (by omega) ?_; intro _ _ _ _ _))
local macro_rules | `(tactic| walk_at "dp") => `(tactic| ((show _ + _ < _); simp only [ktr_dp, ktr_un]; omega))
local macro_rules | `(tactic| walk_at "call ref") => `(tactic| ((with_reducible show wpAny _ _ (call (Value.ref 1464) _) _ _ _); (k_dflt (refine' b2i ?k1 ?k2 ?k3 ?k4 ?k5 ?k6 ?k7 ?k8 ?k9 ?_; (case k1 => k_asm); (case k2 => k_asm); (case k3 => k_asm); (case k4 => k_asm); (case k5 => k_asm); (case k6 => exact ⟨rfl, rfl⟩); (case k7 => walk_at "dp"); (case k8 => walk_at "dp"); (case k9 => walk_at "bsz"))); intro _ _ _ _ _))
local macro_rules | `(tactic| walk_at "call ref") => `(tactic| ((with_reducible show wpAny _ _ (call (Value.ref 1736) _) _ _ _); (k_dflt (refine' clp_ok ?k1 ?k2 ?k3 ?k4 ?k5 ?k6 ?k7 ?k8 ?k9 ?k0 ?_; (case k1 => k_asm); (case k2 => k_asm); (case k3 => k_asm); (case k4 => k_asm); (case k5 => k_asm); (case k6 => exact ⟨rfl, rfl⟩); (case k7 => walk_at "dp"); (case k8 => walk_at "dp"); (case k9 => walk_at "bsz"); (case k0 => assumption))); intro _ _ _ _ _ _ _ _ _ _))
theorem pay_all (w : World) : ∀ k, PaySpec w k := by
  have all : ∀ n k, k < n → PaySpec w k := by
    intro n
    induction n with
    | zero => intro k h; exact absurd h (Nat.not_lt_zero _)
    | succ n ih =>
      intro k hk
      unfold PaySpec
      intro p loose mean mg mb dp un gd ev outer A₀ base h₀ L m news s Q E x q r row e l e' d t t1 t2 t3 t4 B F X N T hf hd hu hx hq hl hret
      cases row with
      | true => exact pay_l k (fun k' e => ih k' (by omega)) B F X N T hf hd hu hx hq hl hret
      | false =>
        unfold pay at hl
        simp only [R.ok.injEq, Prod.mk.injEq] at hl
        obtain ⟨rfl, rfl, rfl⟩ := hl
        exact pay_b B F X N T hf (by omega) (by omega) hx hq hret
  exact fun k => all (k + 1) k (Nat.lt_succ_self k)
local macro_rules | `(tactic| walk_at "call ref") => `(tactic| ((with_reducible show wpAny _ _ (call (Value.ref 1743) _) _ _ _); (k_dflt (refine' pay_call (pay_all _ _) ?k1 ?k2 ?k3 ?k4 ?k5 ?k6 ?k7 ?k8 ?k9 ?k0 ?ka ?_; (case k1 => k_asm); (case k2 => k_asm); (case k3 => k_asm); (case k4 => k_asm); (case k5 => k_asm); (case ka => assumption); (case k6 => exact ⟨rfl, rfl⟩); (case k7 => walk_at "dp"); (case k8 => walk_at "dp"); (case k9 => assumption); (case k0 => omega))); intro _ _ _ _ _ _ _ _ _ _ _ _ _ _ _ _))
section
variable {w : World} {p : Program} {loose : List Str} {mean : ExcName → Option Value} {mg mb : Str → Option Value} {dp un : Nat} {gd : Option (List Code)} {ev : Env} {outer : List Env} {A₀ : Around} {base h₀ : Heap} {L : Addr} {m : Str → Option Value} {news : List (Addr × Obj)} {s : Shared} {Q E : Value → Shared → Prop}
theorem news_drop {h₀ h : Heap} {L : Addr} {Z news : List (Addr × Obj)} {x : Addr × Obj} (N : News h₀ L h (Z ++ x :: news)) : News h₀ L h (Z ++ news) :=
  News.sub N fun p hp => (List.mem_append.mp hp).elim (fun h => List.mem_append_left _ h) fun h => List.mem_append_right _ (.tail _ h)
theorem above_cons {D : Addr} {o : Obj} {Z news : List (Addr × Obj)} (l9 : ∀ p ∈ Z ++ news, p.1 < D) (hZ : ∀ p ∈ Z, ∀ r ∈ news, r.1 < p.1) : ∀ p ∈ ((D, o) :: Z), ∀ r ∈ news, r.1 < p.1 := by
  intro p hp r' hr'
  rcases List.mem_cons.mp hp with rfl | hp
  · exact l9 r' (List.mem_append_right _ hr')
  · exact hZ p hp r' hr'
theorem it_ok {x r : List UInt8} {st dep e : Nat} {d : D} {t u : Tok}
    (B : Below A₀ base outer h₀) (F : Fr h₀ L s.heap m) (X : (K w.params).In h₀) (N : News h₀ L s.heap news) (T : Top p loose mean mg mb h₀) (hk : ev.scope.kind = .function ∧ ev.frame = some L)
    (hd : dp + 40 + 2 * dep < recursionLimit) (hu : un + 100 + 10 * dep < cLine) (hx : x.length < 2 ^ 23) (hi : item x dep st = .ok (d, r, e))
    (hret : ∀ h' tk' b v u2 u3 pr its n Z, Fr h₀ L h' m → News h₀ L h' (Z ++ news) → (∀ p ∈ Z, ∀ r ∈ news, r.1 < p.1) → (b, (⟨.type "tuple", none, .seq #[v, .ref pr, .int (e : Nat) u2] 0, ⟨[]⟩⟩ : Obj)) ∈ Z → DIn Z v d → (pr, (⟨.type "list", none, .seq (Value.bytes r.toArray u3 :: its).toArray n, ⟨[]⟩⟩ : Obj)) ∈ Z → Q (.ref b) { s with heap := h', toks := tk' }) :
    wpAny (model pg w) (ktrE dp un gd ev outer) (call (.ref 1750) [.bytes x.toArray t, .int st u]) Q E s := by
  obtain ⟨k, qq, row, ll, ss, hdk, hc, hp⟩ := item_split hi
  subst hdk
  have hc9 := clp_len hc
  walk_at "ENTER"
  rename_i hZ hb hv hpr kF kN _ _
  exact hret _ _ _ _ _ _ _ _ _ _ kF (news_drop kN) (fun p hp r hr => hZ p hp r (.tail _ hr)) hb hv hpr
local macro_rules | `(tactic| walk_at "call ref") => `(tactic| ((with_reducible show wpAny _ _ (call (Value.ref 1750) _) _ _ _); (k_dflt (refine' it_ok ?k1 ?k2 ?k3 ?k4 ?k5 ?k6 ?k7 ?k8 ?k9 ?ka ?_; (case k1 => k_asm); (case k2 => k_asm); (case k3 => k_asm); (case k4 => k_asm); (case k5 => k_asm); (case ka => assumption); (case k6 => exact ⟨rfl, rfl⟩); (case k7 => walk_at "dp"); (case k8 => walk_at "dp"); (case k9 => assumption))); intro _ _ _ _ _ _ _ _ _ _ _ _ _ _ _ _))
theorem dr_ok {x r : List UInt8} {dep e : Nat} {st y : Bool} {d : D} {t : Tok}
    (B : Below A₀ base outer h₀) (F : Fr h₀ L s.heap m) (X : (K w.params).In h₀) (N : News h₀ L s.heap news) (T : Top p loose mean mg mb h₀) (hk : ev.scope.kind = .function ∧ ev.frame = some L)
    (hd : dp + 50 + 2 * dep < recursionLimit) (hu : un + 120 + 10 * dep < cLine) (hx : x.length < 2 ^ 23) (hi : item x dep 0 = .ok (d, r, e)) (he : e = x.length ∨ st = false)
    (hret : ∀ h' tk' b v u3 pr its n Z, Fr h₀ L h' m → News h₀ L h' (Z ++ news) → (∀ p ∈ Z, ∀ r ∈ news, r.1 < p.1) → (b, (⟨.type "tuple", none, .seq #[v, .ref pr] 0, ⟨[]⟩⟩ : Obj)) ∈ Z → DIn Z v d → (pr, (⟨.type "list", none, .seq (Value.bytes r.toArray u3 :: its).toArray n, ⟨[]⟩⟩ : Obj)) ∈ Z → Q (.ref b) { s with heap := h', toks := tk' }) :
    wpAny (model pg w) (ktrE dp un gd ev outer) (call (.ref 1714) [.bytes x.toArray t, .bool st, .bool y]) Q E s := by
  have hi' : item x dep ((0 : Nat)) = .ok (d, r, e) := hi
  walk_at "ENTER"
  all_goals
    rename_i D9 _ _ _ l9 kF kN _ _
    rename DIn _ _ _ => hv
    exact hret _ _ D9 _ _ _ _ _ ((D9, _) :: _) kF kN (above_cons l9 (by assumption)) (.head _) (DIn.mono (fun p hp => .tail _ hp) hv) (.tail _ (by assumption))
end
end Mine
end

section
open PySem PySem.W PyProof.Rows PySem.Spec PySem.Calls Rlp
set_option Elab.async false
set_option maxRecDepth 100000
set_option maxHeartbeats 0
set_option linter.unusedVariables false
namespace Mine
theorem fillK8 : (fun (_ : OpenLaw) (_ : Params → Frag) => True) PySem.Challenge.rw_bi0020_03 K := by
  k_fill
  trivial
local macro_rules | `(tactic| walk_at "ENTER0") => `(tactic| (refine wpAny_call ?_; k_dflt (refine' code_def ?k1 ?k2 ?k3 ?k4 ?k5 ?kA ?kF ?kK ?k6 ?k7 ?k8 ?k9 ?kB ?_ ?c2 ?c3 ?c4 ?c5; (case kA => exact rfl); (case kF => exact And.right (by assumption)); (case kK => exact And.left (by assumption)); (case k1 => k_asm); (case k2 => k_asm); (case k3 => k_asm); (case k4 => k_asm); (case k5 => k_asm); (case k6 => k_is); (case k7 => k_is); (case k8 => ktr_room); (case k9 => first | exact BindsTo.of_eq rfl | exact binds_K (by k_in) rfl (by k_is) rfl rfl rfl); (case c5 => decide); (case kB => exact locs rfl); (case c2 => exact rfl); (case c3 => exact rfl); (case c4 => exact rfl); k_whole; intro g' L' h' FG' F' N' B' X' T'; (try dsimp only); (try k_fold))))
local macro_rules | `(tactic| walk_at "ENTER") => `(tactic| (walk_at "ENTER0"; k_steps))
local macro_rules | `(tactic| walk_at "bsz") => `(tactic| ((try simp only [List.size_toArray, List.length_append, List.length_cons, List.length_nil, be_length, beK_length, slice_length]); omega))
local macro_rules | `(tactic| walk_at "call builtin:len") => `(tactic| ((with_reducible show wpAny _ _ (call (Value.builtin _) [Value.bytes (List.toArray _) _]) _ _ _); refine len_bytes (by walk_at "bsz") ?_; (try simp only [List.size_toArray, be_length])))
local macro_rules | `(tactic| walk_at "binaryOp Add bytes bytes") => `(tactic| ((with_reducible show wpAny _ _ (binaryOp Operator.Add (Value.bytes (List.toArray _) _) (Value.bytes (List.toArray _) _)) _ _ _); refine KBy.add_bytes (by walk_at "bsz") ?_; intro _ _; (try simp only [List.append_toArray, List.cons_append, List.nil_append])))
local macro_rules | `(tactic| walk_at "subscriptTail") => `(tactic| ((with_reducible show wpAny _ _ (subscriptTail _ _ (Value.bytes (List.toArray _) _) (Value.ref _)) _ _ _); refine slice_int (s := ⟨_, _, _, _, _⟩) (by k_asm) (by k_asm) (by omega) (by omega) (by omega) ?_; intro _ _ _ _ _))
local macro_rules | `(tactic| walk_at "dp") => `(tactic| ((show _ + _ < _); simp only [ktr_dp, ktr_un]; omega))
local macro_rules | `(tactic| walk_at "call ref") => `(tactic| ((with_reducible show wpAny _ _ (call (Value.ref 1464) _) _ _ _); (k_dflt (refine' b2i ?k1 ?k2 ?k3 ?k4 ?k5 ?k6 ?k7 ?k8 ?k9 ?_; (case k1 => k_asm); (case k2 => k_asm); (case k3 => k_asm); (case k4 => k_asm); (case k5 => k_asm); (case k6 => exact ⟨rfl, rfl⟩); (case k7 => walk_at "dp"); (case k8 => walk_at "dp"); (case k9 => walk_at "bsz"))); intro _ _ _ _ _))
local macro_rules | `(tactic| walk_at "call ref") => `(tactic| ((with_reducible show wpAny _ _ (call (Value.ref 1736) _) _ _ _); (k_dflt (refine' clp_ok ?k1 ?k2 ?k3 ?k4 ?k5 ?k6 ?k7 ?k8 ?k9 ?k0 ?_; (case k1 => k_asm); (case k2 => k_asm); (case k3 => k_asm); (case k4 => k_asm); (case k5 => k_asm); (case k6 => exact ⟨rfl, rfl⟩); (case k7 => walk_at "dp"); (case k8 => walk_at "dp"); (case k9 => walk_at "bsz"); (case k0 => assumption))); intro _ _ _ _ _ _ _ _ _ _))
local macro_rules | `(tactic| walk_at "call ref") => `(tactic| ((with_reducible show wpAny _ _ (call (Value.ref 1457) _) _ _ _); (k_dflt (refine' is_b ?k1 ?k2 ?k3 ?k4 ?k5 ?k6 ?k7 ?k8 ?_; (case k1 => k_asm); (case k2 => k_asm); (case k3 => k_asm); (case k4 => k_asm); (case k5 => k_asm); (case k6 => exact ⟨rfl, rfl⟩); (case k7 => walk_at "dp"); (case k8 => walk_at "dp"))); intro _ _ _ _))
local macro_rules | `(tactic| walk_at "call ref") => `(tactic| ((with_reducible show wpAny _ _ (call (Value.ref 1714) _) _ _ _); (k_dflt (refine' dr_ok ?k1 ?k2 ?k3 ?k4 ?k5 ?k6 ?k7 ?k8 ?k9 ?ka ?kb ?_; (case k1 => k_asm); (case k2 => k_asm); (case k3 => k_asm); (case k4 => k_asm); (case k5 => k_asm); (case ka => assumption); (case kb => assumption); (case k6 => exact ⟨rfl, rfl⟩); (case k7 => walk_at "dp"); (case k8 => walk_at "dp"); (case k9 => assumption))); intro _ _ _ _ _ _ _ _ _ _ _ _ _ _ _))
local macro_rules | `(tactic| walk_at "call ref") => `(tactic| ((with_reducible show wpAny _ _ (call (Value.ref 1500) [Value.ref 1509, _]) _ _ _); (k_dflt (refine' des_plain ?k1 ?k2 ?k3 ?k4 ?k5 ?k6 ?k7 ?k8 ?k9 ?k0 ?_; (case k1 => k_asm); (case k2 => k_asm); (case k3 => k_asm); (case k4 => k_asm); (case k5 => k_asm); (case k6 => exact ⟨rfl, rfl⟩); (case k7 => walk_at "dp"); (case k8 => walk_at "dp"); (case k9 => walk_at "bsz"); (case k0 => assumption))); intro _ _ _ _ _))
section
variable {w : World} {p : Program} {loose : List Str} {mean : ExcName → Option Value} {mg mb : Str → Option Value} {dp un : Nat} {gd : Option (List Code)} {ev : Env} {outer : List Env} {A₀ : Around} {base h₀ : Heap} {L : Addr} {m : Str → Option Value} {news : List (Addr × Obj)} {s : Shared} {Q E : Value → Shared → Prop}
theorem de_plain {x y r : List UInt8} {dep e : Nat} {t : Tok}
    (B : Below A₀ base outer h₀) (F : Fr h₀ L s.heap m) (X : (K w.params).In h₀) (N : News h₀ L s.heap news) (T : Top p loose mean mg mb h₀) (hk : ev.scope.kind = .function ∧ ev.frame = some L)
    (hd : dp + 60 + 2 * dep < recursionLimit) (hu : un + 140 + 10 * dep < cLine) (hx : x.length < 2 ^ 23) (hi : item x dep 0 = .ok (.b y, r, e)) (he : e = x.length ∨ true = false) (h0 : y[0]? ≠ some 0) (hy : y.length ≤ 2 ^ 23)
    (hret : ∀ h' tk' tk, Fr h₀ L h' m → News h₀ L h' news → Q (.int (ofBe y : Nat) tk) { s with heap := h', toks := tk' }) :
    wpAny (model pg w) (ktrE dp un gd ev outer) (call (.ref 1758) [.bytes x.toArray t, .ref 1509]) Q E s := by
  walk_at "ENTER"
  rename DIn _ _ _ => hv
  cases hv
  k_steps
  exact hret _ _ _ (by k_asm) (News.sub (by k_asm) fun _ h => List.mem_append_right _ h)
end
end Mine
end

section
open PySem PySem.W PyProof.Rows PySem.Spec PySem.Calls Rlp
set_option Elab.async false
set_option maxRecDepth 100000
set_option maxHeartbeats 0
set_option linter.unusedVariables false
namespace Mine
theorem fillK9 : (fun (_ : OpenLaw) (_ : Params → Frag) => True) PySem.Challenge.rw_bi0020_03 K := by
  k_fill
  trivial
local macro_rules | `(tactic| walk_at "ENTER0") => `(tactic| (refine wpAny_call ?_; k_dflt (refine' code_def ?k1 ?k2 ?k3 ?k4 ?k5 ?kA ?kF ?kK ?k6 ?k7 ?k8 ?k9 ?kB ?_ ?c2 ?c3 ?c4 ?c5; (case kA => exact rfl); (case kF => exact And.right (by assumption)); (case kK => exact And.left (by assumption)); (case k1 => k_asm); (case k2 => k_asm); (case k3 => k_asm); (case k4 => k_asm); (case k5 => k_asm); (case k6 => k_is); (case k7 => k_is); (case k8 => ktr_room); (case k9 => first | exact BindsTo.of_eq rfl | exact binds_K (by k_in) rfl (by k_is) rfl rfl rfl); (case c5 => decide); (case kB => exact locs rfl); (case c2 => exact rfl); (case c3 => exact rfl); (case c4 => exact rfl); k_whole; intro g' L' h' FG' F' N' B' X' T'; (try dsimp only); (try k_fold))))
local macro_rules | `(tactic| walk_at "ENTER") => `(tactic| (walk_at "ENTER0"; k_steps))
local macro_rules | `(tactic| walk_at "bsz") => `(tactic| ((try simp only [List.size_toArray, List.length_append, List.length_cons, List.length_nil, be_length, beK_length, slice_length]); omega))
local macro_rules | `(tactic| walk_at "call builtin:len") => `(tactic| ((with_reducible show wpAny _ _ (call (Value.builtin _) [Value.bytes (List.toArray _) _]) _ _ _); refine len_bytes (by walk_at "bsz") ?_; (try simp only [List.size_toArray, be_length])))
local macro_rules | `(tactic| walk_at "binaryOp Add bytes bytes") => `(tactic| ((with_reducible show wpAny _ _ (binaryOp Operator.Add (Value.bytes (List.toArray _) _) (Value.bytes (List.toArray _) _)) _ _ _); refine KBy.add_bytes (by walk_at "bsz") ?_; intro _ _; (try simp only [List.append_toArray, List.cons_append, List.nil_append])))
local macro_rules | `(tactic| walk_at "subscriptTail") => `(tactic| ((with_reducible show wpAny _ _ (subscriptTail _ _ (Value.bytes (List.toArray _) _) (Value.ref _)) _ _ _); refine slice_int (s := ⟨_, _, _, _, _⟩) (by k_asm) (by k_asm) (by omega) (by omega) (by omega) ?_; intro _ _ _ _ _))
local macro_rules | `(tactic| walk_at "dp") => `(tactic| ((show _ + _ < _); simp only [ktr_dp, ktr_un]; omega))
local macro_rules | `(tactic| walk_at "call ref") => `(tactic| ((with_reducible show wpAny _ _ (call (Value.ref 1464) _) _ _ _); (k_dflt (refine' b2i ?k1 ?k2 ?k3 ?k4 ?k5 ?k6 ?k7 ?k8 ?k9 ?_; (case k1 => k_asm); (case k2 => k_asm); (case k3 => k_asm); (case k4 => k_asm); (case k5 => k_asm); (case k6 => exact ⟨rfl, rfl⟩); (case k7 => walk_at "dp"); (case k8 => walk_at "dp"); (case k9 => walk_at "bsz"))); intro _ _ _ _ _))
local macro_rules | `(tactic| walk_at "call ref") => `(tactic| ((with_reducible show wpAny _ _ (call (Value.ref 1736) _) _ _ _); (k_dflt (refine' clp_ok ?k1 ?k2 ?k3 ?k4 ?k5 ?k6 ?k7 ?k8 ?k9 ?k0 ?_; (case k1 => k_asm); (case k2 => k_asm); (case k3 => k_asm); (case k4 => k_asm); (case k5 => k_asm); (case k6 => exact ⟨rfl, rfl⟩); (case k7 => walk_at "dp"); (case k8 => walk_at "dp"); (case k9 => walk_at "bsz"); (case k0 => assumption))); intro _ _ _ _ _ _ _ _ _ _))
local macro_rules | `(tactic| walk_at "call ref") => `(tactic| ((with_reducible show wpAny _ _ (call (Value.ref 1457) _) _ _ _); (k_dflt (refine' is_b ?k1 ?k2 ?k3 ?k4 ?k5 ?k6 ?k7 ?k8 ?_; (case k1 => k_asm); (case k2 => k_asm); (case k3 => k_asm); (case k4 => k_asm); (case k5 => k_asm); (case k6 => exact ⟨rfl, rfl⟩); (case k7 => walk_at "dp"); (case k8 => walk_at "dp"))); intro _ _ _ _))
local macro_rules | `(tactic| walk_at "call ref") => `(tactic| ((with_reducible show wpAny _ _ (call (Value.ref 1714) _) _ _ _); (k_dflt (refine' dr_ok ?k1 ?k2 ?k3 ?k4 ?k5 ?k6 ?k7 ?k8 ?k9 ?ka ?kb ?_; (case k1 => k_asm); (case k2 => k_asm); (case k3 => k_asm); (case k4 => k_asm); (case k5 => k_asm); (case ka => assumption); (case kb => assumption); (case k6 => exact ⟨rfl, rfl⟩); (case k7 => walk_at "dp"); (case k8 => walk_at "dp"); (case k9 => assumption))); intro _ _ _ _ _ _ _ _ _ _ _ _ _ _ _))
local macro_rules | `(tactic| walk_at "call ref") => `(tactic| ((with_reducible show wpAny _ _ (call (Value.ref 1500) [Value.ref 1509, _]) _ _ _); (k_dflt (refine' des_plain ?k1 ?k2 ?k3 ?k4 ?k5 ?k6 ?k7 ?k8 ?k9 ?k0 ?_; (case k1 => k_asm); (case k2 => k_asm); (case k3 => k_asm); (case k4 => k_asm); (case k5 => k_asm); (case k6 => exact ⟨rfl, rfl⟩); (case k7 => walk_at "dp"); (case k8 => walk_at "dp"); (case k9 => walk_at "bsz"); (case k0 => assumption))); intro _ _ _ _ _))
local macro_rules | `(tactic| walk_at "call ref") => `(tactic| ((with_reducible show wpAny _ _ (call (Value.ref 1471) _) _ _ _); (k_dflt (refine' i2b ?k1 ?k2 ?k3 ?k4 ?k5 ?k6 ?k7 ?k8 ?k9 ?_; (case k1 => k_asm); (case k2 => k_asm); (case k3 => k_asm); (case k4 => k_asm); (case k5 => k_asm); (case k6 => exact ⟨rfl, rfl⟩); (case k7 => walk_at "dp"); (case k8 => walk_at "dp"); (case k9 => walk_at "bsz"))); intro _ _ _ _ _))
theorem flat_rep (z : Nat) : (List.replicate z [(0 : UInt8)]).flatten = List.replicate z 0 := by
  induction z with
  | zero => rfl
  | succ z ih => rw [List.replicate_succ, List.flatten_cons, ih]; rfl
theorem beK_nil : ∀ k, beK k 0 = List.replicate k 0
  | 0 => rfl
  | k + 1 => by rw [beK, beK_nil k, List.replicate_succ']; rfl
theorem pad_be {n k : Nat} (h : n < 256 ^ k) (hk : 0 < k) : List.replicate (k - octs n) 0 ++ be n = beK k n := by
  have h1 := octs_le hk h
  have h2 := beK_zero (k - octs n) (octs n) n (lt_octs n)
  rw [← show be n = beK (octs n) n from rfl] at h2
  rw [← h2]
  congr 1
  omega
section
variable {w : World} {p : Program} {loose : List Str} {mean : ExcName → Option Value} {mg mb : Str → Option Value} {dp un : Nat} {gd : Option (List Code)} {ev : Env} {outer : List Env} {A₀ : Around} {base h₀ : Heap} {L : Addr} {m : Str → Option Value} {news : List (Addr × Obj)} {s : Shared} {Q E : Value → Shared → Prop}
theorem ser_len {n k : Nat} {t u : Tok} {x dx : Addr} {kh : Int} {kt : Tok} {nn : Nat}
    (B : Below A₀ base outer h₀) (F : Fr h₀ L s.heap m) (X : (K w.params).In h₀) (N : News h₀ L s.heap news) (T : Top p loose mean mg mb h₀) (hk : ev.scope.kind = .function ∧ ev.frame = some L)
    (hd : dp + 20 < recursionLimit) (hu : un + 60 < cLine) (hk0 : 1 ≤ k) (hk1 : k ≤ 10) (hn : n < 256 ^ k) (hx : (x, instObj 1503 dx) ∈ news) (hdx : (dx, dictOf [⟨kh, .str (Str.ofString "length") kt, .int k u⟩] nn) ∈ news)
    (hret : ∀ h' tk' tk, Fr h₀ L h' m → News h₀ L h' news → Q (.bytes (beK k n).toArray tk) { s with heap := h', toks := tk' }) :
    wpAny (model pg w) (ktrE dp un gd ev outer) (call (.ref 1493) [.ref x, .int n t]) Q E s := by
  have ho := octs_le hk0 hn
  have hn' : ((n : Nat) : Int) < (256 : Int) ^ Int.toNat (k : Int) := by
    rw [Int.toNat_natCast]; exact_mod_cast hn
  walk_at "ENTER"
  · have h0 : n = 0 := by omega
    have e1 : (if (k : Int) - ((([] : List UInt8).length : Nat) : Int) > 0 then (k : Int) - ((([] : List UInt8).length : Nat) : Int) else 0).toNat = k := by
      simp only [List.length_nil]; split <;> omega
    rw [e1, flat_rep]
    refine KBy.add_bytes (by simp; omega) fun t9 k9 => ?_
    rw [Array.append_empty, ← beK_nil, ← h0]
    k_steps
    exact hret _ _ _ (by k_asm) (by k_asm)
  · have e1 : (if (k : Int) - ((octs n : Nat) : Int) > 0 then (k : Int) - ((octs n : Nat) : Int) else 0).toNat = k - octs n := by
      split <;> omega
    rw [e1, flat_rep]
    refine KBy.add_bytes (by simp [be_length]; omega) fun t9 k9 => ?_
    rw [List.append_toArray, pad_be hn hk0]
    k_steps
    exact hret _ _ _ (by k_asm) (by k_asm)
theorem des_len {y : List UInt8} {k : Nat} {t u : Tok} {x dx : Addr} {kh : Int} {kt : Tok} {nn : Nat}
    (B : Below A₀ base outer h₀) (F : Fr h₀ L s.heap m) (X : (K w.params).In h₀) (N : News h₀ L s.heap news) (T : Top p loose mean mg mb h₀) (hk : ev.scope.kind = .function ∧ ev.frame = some L)
    (hd : dp + 20 < recursionLimit) (hu : un + 60 < cLine) (hk0 : 1 ≤ k) (hk1 : k ≤ 10) (hy : y.length = k) (hx : (x, instObj 1503 dx) ∈ news) (hdx : (dx, dictOf [⟨kh, .str (Str.ofString "length") kt, .int k u⟩] nn) ∈ news)
    (hret : ∀ h' tk' tk, Fr h₀ L h' m → News h₀ L h' news → Q (.int (ofBe y : Nat) tk) { s with heap := h', toks := tk' }) :
    wpAny (model pg w) (ktrE dp un gd ev outer) (call (.ref 1500) [.ref x, .bytes y.toArray t]) Q E s := by
  walk_at "ENTER"
  · exfalso; omega
  · exact hret _ _ _ (by k_asm) (by k_asm)
  · exfalso
    have e : y = [] := by
      match y with
      | [] => rfl
      | c :: r => simp_all
    subst e
    simp at hy
    omega
end
end Mine
end

section
set_option maxRecDepth 100000
set_option linter.unusedVariables false
set_option Elab.async false
open PySem PySem.W PyProof.Rows PySem.Spec PySem.Calls
namespace Mine
open Sem (wp)
/-- more generators, none of the old ones touched -/
def GC (a b : Array GenState) : Prop := a.size ≤ b.size ∧ (∀ k, k < a.size → b[k]? = a[k]?) ∧ (AllBare a → AllBare b)
theorem GC.refl (a : Array GenState) : GC a a := ⟨Nat.le_refl _, fun _ _ => rfl, id⟩
theorem GC.trans {a b c : Array GenState} (x : GC a b) (y : GC b c) : GC a c :=
  ⟨Nat.le_trans x.1 y.1, fun k h => (y.2.1 k (Nat.lt_of_lt_of_le h x.1)).trans (x.2.1 k h), fun h => y.2.2 (x.2.2 h)⟩
/-- the same, but for the one generator g -/
def GX (g : Nat) (a b : Array GenState) : Prop := a.size ≤ b.size ∧ (∀ k, k < a.size → k ≠ g → b[k]? = a[k]?) ∧ (AllBare a → AllBare b)
theorem GX.refl (g : Nat) (a : Array GenState) : GX g a a := ⟨Nat.le_refl _, fun _ _ _ => rfl, id⟩
theorem GX.trans {g : Nat} {a b c : Array GenState} (x : GX g a b) (y : GX g b c) : GX g a c :=
  ⟨Nat.le_trans x.1 y.1, fun k h n => (y.2.1 k (Nat.lt_of_lt_of_le h x.1) n).trans (x.2.1 k h n), fun h => y.2.2 (x.2.2 h)⟩
theorem GX.of_GC {g : Nat} {a b : Array GenState} (x : GC a b) : GX g a b := ⟨x.1, fun k h _ => x.2.1 k h, x.2.2⟩
theorem GX.set {g : Nat} (s : Shared) {y : GenState} (hy : y.bare = true) : GX g s.gens (s.setGen g y).gens := by
  refine ⟨by simp [Shared.setGen], fun k _ hk => by simp [Shared.setGen, Ne.symm hk], fun h z hz => ?_⟩
  have hz' : z ∈ s.gens.setIfInBounds g y := by simpa [Shared.setGen] using hz
  obtain ⟨k, hk, e⟩ := Array.mem_iff_getElem.mp hz'
  rw [Array.getElem_setIfInBounds (by simpa using hk)] at e
  split at e
  · rw [← e]; exact hy
  · rw [← e]; exact h _ (Array.getElem_mem (by simpa using hk))
structure Since (wr : List Addr) (s₀ s : Shared) : Prop where
  heap : ∀ b o, b ∉ wr → s₀.heap.get? b = some o → s.heap.get? b = some o
  gens : GC s₀.gens s.gens
  drawn : s.drawn = s₀.drawn
  os : s.os = s₀.os
theorem Since.refl (wr : List Addr) (s : Shared) : Since wr s s := ⟨fun _ _ _ e => e, GC.refl _, rfl, rfl⟩
theorem Since.trans {wr : List Addr} {a b c : Shared} (x : Since wr a b) (y : Since wr b c) : Since wr a c :=
  ⟨fun p o h e => y.heap p o h (x.heap p o h e), x.gens.trans y.gens, y.drawn.trans x.drawn, y.os.trans x.os⟩
theorem Since.step {wr : List Addr} {s₀ s : Shared} (x : Since wr s₀ s) {h' : Heap} {tk : Nat} (hk : ∀ b o, b ∉ wr → s.heap.get? b = some o → h'.get? b = some o) : Since wr s₀ { s with heap := h', toks := tk } :=
  x.trans ⟨hk, GC.refl _, rfl, rfl⟩
/-- what a turn of the generator promises -/
def ownProto (fp wr : List Addr) (n₀ : Nat) (F : Nat → Value → Prop) : Protocol := fun m s₀ v s kap =>
  F (n₀ - 1 - m) v ∧ Since wr s₀ s ∧ ∀ s'' : Shared, (∀ b ∈ fp, ∀ o, s.heap.get? b = some o → s''.heap.get? b = some o) → kap (.send .none) s''
section
variable {prog : Program} {w : World} {A : Around}
abbrev ownR (wr : List Addr) : GenEnd := fun n s₀ r s₁ => r = .ok .next ∧ (n = 0 ∧ Since wr s₀ s₁)
/-- the element's own work -/
def EltOk (prog : Program) (w : World) (AE : Around) (cenv : Env) (x : Str) (elt : Expr) (fp wr we : List Addr) (P : Nat → Value → Prop) (F : Nat → Value → Prop) (href : Heap) : Prop :=
  ∀ (E' : Value → Shared → Prop) i v (s₂ : Shared) m₂, P i v → s₂.heap.Ns cenv.locals m₂ → m₂ x = some v → (∀ b ∈ fp, b ∉ wr → ∀ o, href.get? b = some o → s₂.heap.get? b = some o) →
    wpAny (model prog w) AE (eval elt cenv) (fun y s₃ => F i y ∧ (∃ m₃, s₃.heap.Ns cenv.locals m₃) ∧ Since we s₂ s₃) E' s₂
theorem seg_own {elt iter : Expr} {x : Str} {px : Pos} {scope : Scope} {pos : Pos} {I : Addr} {fp wr we fq : List Addr} {n₀ : Nat} {P : Nat → Value → Prop} {St₀ : Nat → Heap → Prop} {cenv : Env}
    (hh : A.handled = none) (W₀ : ∀ A' : Around, A'.handled = none → Walks prog w A' I fq [I] n₀ P St₀) (F : Nat → Value → Prop) (href : Heap)
    (hx : cenv.kindOf x = some .local) (hp : (cenv.scope.kind == .class || (cenv.scope.kind == .module && cenv.locals != cenv.globals)) = false)
    (hco : cenv.scope.isCoroutine = false) (hCw : cenv.locals ∈ wr) (hIw : I ∈ wr) (hsub : ∀ b ∈ wr, b ∈ fp) (hfq : ∀ b ∈ fq, b ∈ fp) (hCq : cenv.locals ∉ fq) (hwe : ∀ b ∈ we, b ∈ wr) (hqe : ∀ b ∈ fq, b ∉ we)
    (hq : EltOk prog w (A.over (.compLoop (.GeneratorExp elt [⟨.Name x px, iter, [], 0⟩] scope pos) 0 (.ref I) .none cenv) []) cenv x elt fp wr we P F href) :
    ∀ (k i : Nat) (s₀ s : Shared) (m : Str → Option Value), n₀ - i = k → i ≤ n₀ → St₀ i s.heap → s.heap.Ns cenv.locals m → Since wr s₀ s →
      (∀ b ∈ fp, b ∉ wr → ∀ o, href.get? b = some o → s.heap.get? b = some o) →
      Seg (model prog w) A (ownR wr) (ownProto fp wr n₀ F) (n₀ - i) s₀
        (.compLoop (.GeneratorExp elt [⟨.Name x px, iter, [], 0⟩] scope pos) 0 (.ref I) .none cenv)
        ((model prog w).den (.compLoop (.GeneratorExp elt [⟨.Name x px, iter, [], 0⟩] scope pos) 0 (.ref I) .none cenv)) [] s := by
  have hh' : (A.over (.compLoop (.GeneratorExp elt [⟨.Name x px, iter, [], 0⟩] scope pos) 0 (.ref I) .none cenv) []).handled = none := hh
  have hIC : cenv.locals ≠ I := fun e => hCq (e ▸ (W₀ A hh).sub _ (List.mem_singleton.mpr rfl))
  intro k
  induction k with
  | zero =>
    intro i s₀ s m hk hi hst hn hsince hkp
    have hin : i = n₀ := by omega
    subst hin
    show Seg _ A _ _ _ s₀ _ ((compTurn (.GeneratorExp elt [⟨.Name x px, iter, [], 0⟩] scope pos) 0 (.ref I) .none cenv).onRaise (leaving cenv)) [] s
    rw [compTurn_gen, Sem.onRaise_eq_wrap]
    refine seg_bind_wrap (wpAny_standAt ?_)
    refine seg_bind_wrap ((W₀ _ hh').done s _ _ hst fun h' tk hk' => ?_)
    exact seg_end (.ok .next) ⟨rfl, by omega, hsince.step fun b o hw e => hk' b o (fun h => hw (List.mem_singleton.mp h ▸ hIw)) e⟩
  | succ k ih =>
    intro i s₀ s m hk hi hst hn hsince hkp
    have hlt : i < n₀ := by omega
    show Seg _ A _ _ _ s₀ _ ((compTurn (.GeneratorExp elt [⟨.Name x px, iter, [], 0⟩] scope pos) 0 (.ref I) .none cenv).onRaise (leaving cenv)) [] s
    rw [compTurn_gen, Sem.onRaise_eq_wrap]
    refine seg_bind_wrap (wpAny_standAt ?_)
    refine seg_bind_wrap ((W₀ _ hh').item i s _ _ hlt hst fun v h₁ tk₁ hPv hst₁ hk₁ => ?_)
    refine seg_bind_wrap (wpAny_of_eq (rfl : letOwnedTupleGo (.Name x px) (.ref I) v = pure ()) ?_)
    refine seg_bind_wrap (wpAny_assign_Name (wpAny_storeName_local hx (hn.at' fun o e => hk₁ _ o (fun h => hIC (List.mem_singleton.mp h)) e) (fun h₂ hn₂ hs₂ => ?_) hp))
    have up₂ : ∀ b o, b ≠ cenv.locals → b ≠ I → s.heap.get? b = some o → h₂.get? b = some o := fun b o hbC hbI e => hs₂.extBut b o hbC (hk₁ b o (fun h => hbI (List.mem_singleton.mp h)) e)
    have hst₂ : St₀ (i + 1) h₂ := (W₀ A hh).frame _ _ _ hst₁ fun b hb o e => hs₂.extBut b o (fun h => hCq (h ▸ hb)) e
    have hkp₂ : ∀ b ∈ fp, b ∉ wr → ∀ o, href.get? b = some o → h₂.get? b = some o := fun b hb hbw o e => up₂ b o (fun h => hbw (h ▸ hCw)) (fun h => hbw (h ▸ hIw)) (hkp b hb hbw o e)
    refine seg_bind_wrap (wpAny_of_eq (a := true) rfl ?_)
    obtain ⟨j, hj⟩ : ∃ j, n₀ - i = j + 1 := ⟨n₀ - i - 1, by omega⟩
    rw [hj]
    simp only [if_true]
    have hy : ∀ v, yieldOut cenv v = yieldValue v := fun v => by simp only [yieldOut, hco, Bool.false_eq_true, if_false]
    simp only [hy]
    rw [Sem.bind_eq_wrap', Sem.bind_eq_wrap', Sem.wrap_wrap, Sem.wrap_wrap]
    refine seg_wrap (wpAny_mono (hq _ i v _ _ hPv hn₂ (by simp) hkp₂) (fun y s₄ h₄ => ?_) fun _ _ e => e)
    obtain ⟨hFy, ⟨m₄, hn₄⟩, hs₄⟩ := h₄
    have hsin₄ : Since wr s₀ s₄ := (hsince.step (h' := h₂) (tk := _) fun b o hbw e => up₂ b o (fun h => hbw (h ▸ hCw)) (fun h => hbw (h ▸ hIw)) e).trans
      ⟨fun b o hbw e => hs₄.heap b o (fun h => hbw (hwe _ h)) e, hs₄.gens, hs₄.drawn, hs₄.os⟩
    refine seg_at (seg_yield rfl rfl rfl ⟨by rw [show n₀ - 1 - j = i by omega]; exact hFy, hsin₄, fun s'' hal => ?_⟩)
    have ej : j = n₀ - (i + 1) := by omega
    rw [ej]
    refine seg_again rfl (ih (i + 1) s'' s'' m₄ (by omega) hlt ((W₀ A hh).frame _ _ _ hst₂ fun b hb o e => hal b (hfq b hb) o (hs₄.heap b o (hqe b hb) e))
      (hn₄.at' fun o e => hal _ (hsub _ hCw) o e) (Since.refl _ _) fun b hb hbw o e => hal b hb o (hs₄.heap b o (fun h => hbw (hwe _ h)) (hkp₂ b hb hbw o e)))
theorem seg_begin {elt iter : Expr} {x : Str} {px : Pos} {scope : Scope} {pos : Pos} {I : Addr} {fp wr we fq : List Addr} {n₀ : Nat} {P : Nat → Value → Prop} {St₀ : Nat → Heap → Prop} {cenv : Env}
    (hh : A.handled = none) (W₀ : ∀ A' : Around, A'.handled = none → Walks prog w A' I fq [I] n₀ P St₀) (F : Nat → Value → Prop) (href : Heap)
    (hx : cenv.kindOf x = some .local) (hp : (cenv.scope.kind == .class || (cenv.scope.kind == .module && cenv.locals != cenv.globals)) = false)
    (hco : cenv.scope.isCoroutine = false) (hCw : cenv.locals ∈ wr) (hIw : I ∈ wr) (hsub : ∀ b ∈ wr, b ∈ fp) (hfq : ∀ b ∈ fq, b ∈ fp) (hCq : cenv.locals ∉ fq) (hwe : ∀ b ∈ we, b ∈ wr) (hqe : ∀ b ∈ fq, b ∉ we)
    (hq : EltOk prog w (A.over (.compLoop (.GeneratorExp elt [⟨.Name x px, iter, [], 0⟩] scope pos) 0 (.ref I) .none cenv) []) cenv x elt fp wr we P F href)
    (s₀ s : Shared) (m : Str → Option Value) (hst : St₀ 0 s.heap) (hn : s.heap.Ns cenv.locals m) (hsince : Since wr s₀ s)
    (hkp : ∀ b ∈ fp, b ∉ wr → ∀ o, href.get? b = some o → s.heap.get? b = some o) :
    Seg (model prog w) A (ownR wr) (ownProto fp wr n₀ F) n₀ s₀
      (.compStart (.GeneratorExp elt [⟨.Name x px, iter, [], 0⟩] scope pos) 0 (.ref I) .none cenv)
      ((model prog w).den (.compStart (.GeneratorExp elt [⟨.Name x px, iter, [], 0⟩] scope pos) 0 (.ref I) .none cenv)) [] s := by
  have hh' : (A.over (.compStart (.GeneratorExp elt [⟨.Name x px, iter, [], 0⟩] scope pos) 0 (.ref I) .none cenv) []).handled = none := hh
  have loop := seg_own (iter := iter) (px := px) (scope := scope) (pos := pos) hh W₀ F href hx hp hco hCw hIw hsub hfq hCq hwe hqe hq n₀ 0 s₀ s m (Nat.sub_zero _) (Nat.zero_le _) hst hn hsince hkp
  rw [Nat.sub_zero] at loop
  show Seg _ A _ _ _ s₀ _ ((compStart (.GeneratorExp elt [⟨.Name x px, iter, [], 0⟩] scope pos) 0 (.ref I) .none cenv).onRaise (leaving cenv)) [] s
  unfold compStart
  rw [Sem.onRaise_eq_wrap]
  show Seg _ A _ _ _ s₀ _ ((ask >>= _).wrap _ _ _ _) [] s
  refine seg_bind_wrap (wpAny_askSetting ?_)
  split
  · exact seg_again rfl loop
  · refine seg_bind_wrap (wpAny_rule ?_)
    show Seg _ A _ _ _ s₀ _ ((standAt iter.pos >>= _).wrap _ _ _ _) [] s
    exact seg_bind_wrap (wpAny_standAt (seg_bind_wrap ((W₀ _ hh').self 0 s _ _ hst (seg_again rfl loop))))
/-- the generator a, about to tell its element j -/
def OwnAt (prog : Program) (w : World) (A : Around) (a : Addr) (g : Nat) (fp wr : List Addr) (n₀ : Nat) (F : Nat → Value → Prop) (j : Nat) (s : Shared) : Prop :=
  s.heap.IsGen a g ∧ s.heap.NoLimit ∧ ∃ gs, s.gens[g]? = some gs ∧ ∀ s'' : Shared, (∀ b ∈ fp, ∀ o, s.heap.get? b = some o → s''.heap.get? b = some o) →
    gs.Goes (model prog w) A.in1 (ownR wr) (ownProto fp wr n₀ F) (n₀ - j) (.send .none) s''
theorem set_size (s : Shared) (g : Nat) (y : GenState) : (s.setGen g y).gens.size = s.gens.size := by simp [Shared.setGen]
theorem walks_own (hh : A.handled = none) (a : Addr) (g : Nat) (fp wr : List Addr) (n₀ : Nat) (F : Nat → Value → Prop) (haf : a ∈ fp) (haw : a ∉ wr) (hsub : ∀ b ∈ wr, b ∈ fp)
    (hroom : A.depth < recursionLimit) (hcs : cStatics ∈ fp) (hcw : cStatics ∉ wr) :
    WalksS prog w A a fp wr (GX g) n₀ F (OwnAt prog w A a g fp wr n₀ F) where
  sub := hsub
  grefl := GX.refl g
  gtrans := fun _ _ _ x y => x.trans y
  frame := fun j s h' tk st _ hk =>
    ⟨let ⟨o, nm, qn, ho, r⟩ := st.1; ⟨o, nm, qn, hk a haf o ho, r⟩,
     (let ⟨mc, hns, hnn⟩ := st.2.1; ⟨mc, hns.at' fun o e => hk cStatics hcs o e, hnn⟩),
     let ⟨gs, hgs, hgo⟩ := st.2.2; ⟨gs, hgs, fun s'' hal => hgo s'' fun b hb o e => hal b hb o (hk b hb o e)⟩⟩
  item := fun j s Q E hj st hQ => by
    obtain ⟨hg, hl, gs, hgs, hgo⟩ := st
    obtain ⟨m, hm⟩ : ∃ m, n₀ - j = m + 1 := ⟨n₀ - j - 1, by omega⟩
    rw [hm] at hgo
    have hgl : g < s.gens.size := (Array.getElem?_eq_some_iff.mp hgs).1
    refine wpAny_with_toks (Nat.le_refl s.toks) ?_
    refine wpAny_pyNext_genexpQ (P := fun n s₀ s₁ => n = 0 ∧ Since wr s₀ s₁) hh hl hroom hg hgs (hgo _ fun _ _ _ e => e) (fun v s₁ gs' hb hv => ?_) (fun s₁ hp h' hk => ?_)
    · obtain ⟨hF, hs₁, hkap⟩ := hv
      have hidx : n₀ - 1 - (m + 1 - 1) = j := by omega
      rw [hidx] at hF
      intro htk
      have hrun : s₁.gens[g]? = some .running := (hs₁.gens.2.1 g (by rw [set_size]; exact hgl)).trans (setGen_self hgs)
      refine hQ v _ hF ⟨let ⟨o, nm, qn, ho, r⟩ := hg; ⟨o, nm, qn, hs₁.heap a o haw ho, r⟩, (let ⟨mc, hns, hnn⟩ := hl; ⟨mc, hns.at' fun o e => hs₁.heap cStatics o hcw e, hnn⟩), gs', setGen_self hrun, fun s'' hal => ?_⟩
        ⟨fun b o hb e => hs₁.heap b o hb e, ((GX.set s (y := .running) rfl).trans (GX.of_GC hs₁.gens)).trans (GX.set s₁ hb), hs₁.drawn, hs₁.os, htk⟩
      have e : n₀ - (j + 1) = m := by omega
      rw [e]
      exact hkap s'' hal
    · exact absurd hp.1 (Nat.succ_ne_zero m)
  done := fun s Q E st hQ => by
    obtain ⟨hg, hl, gs, hgs, hgo⟩ := st
    rw [Nat.sub_self] at hgo
    refine wpAny_with_toks (Nat.le_refl s.toks) ?_
    refine wpAny_pyNext_genexpQ (P := fun n s₀ s₁ => n = 0 ∧ Since wr s₀ s₁) hh hl hroom hg hgs (hgo _ fun _ _ _ e => e) (fun v s₁ gs' hb hv => ?_) (fun s₁ hp h' hk => ?_)
    · obtain ⟨_, _, hkap⟩ := hv
      exact False.elim (hkap s₁ fun _ _ _ e => e)
    · obtain ⟨_, hs₁⟩ := hp
      intro htk
      exact hQ _ ⟨fun b o hb e => hk b o (hs₁.heap b o hb e), ((GX.set s (y := .running) rfl).trans (GX.of_GC hs₁.gens)).trans (GX.set s₁ (y := .finished) rfl), hs₁.drawn, hs₁.os, htk⟩
  self := fun _ _ _ _ st hQ => wpAny_pyIter_gen st.1 hQ
theorem own_fresh {elt iter : Expr} {x : Str} {px : Pos} {scope : Scope} {pos : Pos} {I a : Addr} {g : Nat} {fp wr we fq : List Addr} {n₀ : Nat} {P : Nat → Value → Prop} {St₀ : Nat → Heap → Prop} {cenv : Env}
    (hh : A.handled = none) (W₀ : ∀ A' : Around, A'.handled = none → Walks prog w A' I fq [I] n₀ P St₀) (F : Nat → Value → Prop) {s : Shared} {m : Str → Option Value}
    (hx : cenv.kindOf x = some .local) (hp : (cenv.scope.kind == .class || (cenv.scope.kind == .module && cenv.locals != cenv.globals)) = false)
    (hco : cenv.scope.isCoroutine = false) (hCw : cenv.locals ∈ wr) (hIw : I ∈ wr) (hsub : ∀ b ∈ wr, b ∈ fp) (hfq : ∀ b ∈ fq, b ∈ fp) (hCq : cenv.locals ∉ fq) (hwe : ∀ b ∈ we, b ∈ wr) (hqe : ∀ b ∈ fq, b ∉ we)
    (hq : EltOk prog w (A.in1.over (.compLoop (.GeneratorExp elt [⟨.Name x px, iter, [], 0⟩] scope pos) 0 (.ref I) .none cenv) []) cenv x elt fp wr we P F s.heap)
    (hg : s.heap.IsGen a g) (hgs : s.gens[g]? = some (.fresh (.compStart (.GeneratorExp elt [⟨.Name x px, iter, [], 0⟩] scope pos) 0 (.ref I) .none cenv)))
    (hst : St₀ 0 s.heap) (hn : s.heap.Ns cenv.locals m) (hl : s.heap.NoLimit) : OwnAt prog w A a g fp wr n₀ F 0 s :=
  ⟨hg, hl, _, hgs, fun s'' hal => ⟨rfl, seg_begin (A := A.in1) hh W₀ F s.heap hx hp hco hCw hIw hsub hfq hCq hwe hqe hq s'' s'' m ((W₀ A hh).frame _ _ _ hst fun b hb o e => hal b (hfq b hb) o e)
    (hn.at' fun o e => hal _ (hsub _ hCw) o e) (Since.refl _ _) fun b hb _ o e => hal b hb o e⟩⟩
end
end Mine
end

section
set_option maxRecDepth 100000
set_option linter.unusedVariables false
set_option Elab.async false
open PySem PySem.W PyProof.Rows PySem.Spec PySem.Calls
namespace Mine
open Builtin
theorem slot_bytes_join : Slot "bytes" "join" "bytes.join" :=
  .of (owner := "bytes") (n := "join") (by rw [typeLookup_type, builtinLookup_eq_fast]; kernel_rfl) (by decide +kernel) (by decide +kernel) (by decide +kernel)
    (by first | exact .inl (by decide +kernel) | exact .inr (by decide +kernel)) (by rw [isSubtype_type]; kernel_rfl)
theorem entry_bytes_join : entryFor table "bytes.join" = some Builtin.«bytes.join» := entryFor_of_tree (by kernel_rfl)
theorem args_bytes_join_2 (a b : Value) : argsOk "bytes.join" ⟨[a, b], []⟩ := by
  unfold argsOk; rw [signature?_of (id := "bytes.join") (n := ['n', 'i', 'o', 'j']) (o := ['s', 'e', 't', 'y', 'b']) (by kernel_rfl) FB.owner_bytes]; kernel_rfl
theorem take_eq {id : String} {b : Array UInt8} {t : Tok} : Bytes.takeBuffer? id (.bytes b t) 0 = pure (some (b, none)) := by
  unfold Bytes.takeBuffer?
  rw [KBy.special_eq KBy.look_buffer, KBy.own_buffer]
  have e : Bytes.buffer? id (.bytes b t) ((0 : Int) == Bytes.fullReadOnly) = pure (some b) := by
    have : ((0 : Int) == Bytes.fullReadOnly) = false := by decide
    rw [this]; exact KBy.buffer_eq
  simp only [e]
  rfl
theorem takeQ_eq {id : String} {b : Array UInt8} {t : Tok} : Bytes.takeBufferQuiet? id (.bytes b t) 0 = pure (some (b, none)) := by
  unfold Bytes.takeBufferQuiet?
  rw [take_eq]; rfl
def bvals (l : List (List UInt8 × Tok)) : List Value := l.map fun p => .bytes p.1.toArray p.2
theorem exists_bvals : ∀ (vs : List Value), (∀ v ∈ vs, ∃ y u, v = Value.bytes (y : List UInt8).toArray u) → ∃ l, bvals l = vs
  | [], _ => ⟨[], rfl⟩
  | v :: vs, h => by
    obtain ⟨y, u, rfl⟩ := h v List.mem_cons_self
    obtain ⟨l, rfl⟩ := exists_bvals vs fun v hv => h v (List.mem_cons_of_mem _ hv)
    exact ⟨(y, u) :: l, rfl⟩
/-- what is taken up to now -/
def jst (l : List (List UInt8 × Tok)) (i : Nat) : Array (Array UInt8) × List (Value × Option Value) :=
  (((l.take i).map fun p => p.1.toArray).toArray, (l.take i).map fun p => (Value.bytes p.1.toArray p.2, none))
theorem jst_succ {l : List (List UInt8 × Tok)} {i : Nat} {p : List UInt8 × Tok} (h : l[i]? = some p) : ((jst l i).1.push p.1.toArray, (jst l i).2 ++ [(Value.bytes p.1.toArray p.2, none)]) = jst l (i + 1) := by
  unfold jst
  rw [List.take_add_one, h]
  simp
theorem jst_heap (l : List (List UInt8 × Tok)) (i : Nat) : ((jst l i).2.any fun x => x.1.onHeap) = false := by
  unfold jst
  rw [List.any_eq_false]
  intro x hx
  obtain ⟨p, _, rfl⟩ := List.mem_map.mp hx
  simp [Value.onHeap]
theorem joinLet {M : Model} {A : Around} {E : Value → Shared → Prop} {s : Shared} : ∀ (l : List (List UInt8 × Tok)) (keep : List Value) {Q : Unit → Shared → Prop}, Q () s →
    wpAny M A (Bytes.joinLetGo (l.map fun p => (Value.bytes p.1.toArray p.2, none)) keep) Q E s
  | [], _, _, h => wpAny_pure h
  | p :: l, keep, Q, h => by
    rw [List.map_cons]
    unfold Bytes.joinLetGo
    exact wpAny_bind (wpAny_letGo (joinLet l keep h))
theorem joined_flat (ps : List (Array UInt8)) : Bytes.joined #[] ps = (ps.map (·.toList)).flatten.toArray := by
  unfold Bytes.joined
  have all : ∀ (ps : List (Array UInt8)) (k : Nat) (out : Array UInt8), (ps.zipIdx k).foldl (fun out (x : Array UInt8 × Nat) => (if x.2 > 0 then out ++ #[] else out) ++ x.1) out = out ++ (ps.map (·.toList)).flatten.toArray := by
    intro ps
    induction ps with
    | nil => intro k out; simp
    | cons a r ih =>
      intro k out
      rw [List.zipIdx_cons, List.foldl_cons, ih]
      simp only [Array.append_empty, ite_self, List.map_cons, List.flatten_cons]
      rw [← List.append_toArray, Array.toArray_toList, Array.append_assoc]
  have := all ps 0 #[]
  rw [Array.empty_append] at this
  exact this
theorem sum_flat (l : List (List UInt8)) : ∀ k, (l.map List.toArray).foldl (fun (a : Nat) (b : Array UInt8) => a + b.size) k = k + l.flatten.length := by
  induction l with
  | nil => intro k; rfl
  | cons a r ih => intro k; rw [List.map_cons, List.foldl_cons, ih, List.flatten_cons, List.length_append]; simp only [List.size_toArray]; omega
section
variable {prog : Program} {w : World} {A : Around} {E : Value → Shared → Prop} {s : Shared} {Q : Value → Shared → Prop}
  {I : Addr} {fp wr : List Addr} {G : Array GenState → Array GenState → Prop} {n : Nat} {P : Nat → Value → Prop} {St : Nat → Shared → Prop}
theorem bytes_join {t : Tok} (W : WalksS prog w A.in1.in1.in1 I fp wr G n P St) (hT : ∀ i s, St i s → s.TypeIs (.ref I) "generator") (hst : St 0 s) (hfp : ∀ b ∈ fp, b < s.heap.objs.size) (hI : I ∈ fp) (hn : n ≤ sizeLine)
    (hq : ∀ s' (l : List (List UInt8 × Tok)), Moved (s.heap.objs.size :: wr) G { s with heap := s.heap.push { cls := .type "list", data := .seq #[] } } s' → ItemsOf P (bvals l).toArray n →
      (((l.map (·.1)).flatten.length ≤ 16777216) ∧ ∀ t' k, Q (.bytes (l.map (·.1)).flatten.toArray t') { s' with toks := k }))
    (hP : ∀ i v, P i v → ∃ y u, v = Value.bytes (y : List UInt8).toArray u) :
    wpAny (model prog w) A (call (.builtin "bytes.join") [.bytes #[] t, .ref I]) Q E s := by
  refine wpAny_call (codeAny_call_builtin slot_bytes_join.plain entry_bytes_join (slot_bytes_join.check _ _ _ _ _ _ _ _ (typeIs_bytes _ _ _) (args_bytes_join_2 _ _) ?_))
  show wpAny _ A.in1 (Bytes.joinM .bytes ⟨[.bytes #[] t, .ref I], []⟩) _ _ s
  unfold Bytes.joinM
  refine wpAny_bind (wpAny_of_eq (a := (Value.bytes #[] t, Value.ref I)) rfl ?_)
  show wpAny _ A.in1 (Bytes.joinItems (.ref I) >>= _) _ _ s
  refine wpAny_bind ?_
  unfold Bytes.joinItems
  refine wpAny_bind (wpAny_typeOf (hT 0 s hst) ?_)
  show wpAny _ A.in1 ((pyIter (.ref I)).tryCatch _ >>= fun it => call (.type "list") [it]) _ _ s
  refine wpAny_bind (wpAny_tryCatch (W.of_in1.of_in1.self 0 s _ _ hst ?_))
  refine call_list_gen W hT hst hfp hI (fun s' acc c hm hS hacc => ?_) hn
  obtain ⟨l, hl⟩ := exists_bvals acc.toList fun v hv => by
    obtain ⟨j, hj, rfl⟩ := Array.mem_iff_getElem.mp (Array.mem_toList_iff.mp hv)
    exact hP j _ (hacc.2 j _ (Array.getElem?_eq_getElem hj))
  obtain rfl : acc = (bvals l).toArray := by rw [hl]
  obtain ⟨hsz, hq⟩ := hq s' l hm hacc
  have seq9 : ∀ {Q : Option (Array Value) → Shared → Prop} {A : Around} {E : Value → Shared → Prop}, Q (some (bvals l).toArray) s' → wpAny (model prog w) A (seqItems? (.ref s.heap.objs.size)) Q E s' := fun h => wpAny_seqItems hS rfl h
  show wpAny _ A.in1 (seqItems? (.ref s.heap.objs.size) >>= _) _ _ s'
  refine wpAny_bind (seq9 ?_)
  have loop : ∀ (f : Nat → (Array (Array UInt8) × List (Value × Option Value)) → Sem (ForInStep (Array (Array UInt8) × List (Value × Option Value)))) {Q : Array (Array UInt8) × List (Value × Option Value) → Shared → Prop} {E : Value → Shared → Prop},
      (∀ i p, l[i]? = some p → ∀ {Q : ForInStep (Array (Array UInt8) × List (Value × Option Value)) → Shared → Prop}, Q (.yield (jst l (i + 1))) s' → wpAny (model prog w) A.in1 (f i (jst l i)) Q E s') →
      Q (jst l l.length) s' → wpAny (model prog w) A.in1 (forIn [:(bvals l).toArray.size] ((#[] : Array (Array UInt8)), ([] : List (Value × Option Value))) f) Q E s' := by
    intro f Q E hf hQ
    have all : ∀ k i, i + k = l.length → wpAny (model prog w) A.in1 (forIn (List.range' i k 1) (jst l i) f) Q E s' := by
      intro k
      induction k with
      | zero => intro i hi; rw [show i = l.length by omega]; exact wpAny_pure hQ
      | succ k ih =>
        intro i hi
        rw [List.range'_succ]
        exact KPc.turn (hf i _ (List.getElem?_eq_getElem (by omega)) (ih (i + 1) (by omega)))
    rw [KPc.range_list]
    have e0 : ((#[] : Array (Array UInt8)), ([] : List (Value × Option Value))) = jst l 0 := rfl
    rw [e0, show (bvals l).toArray.size = l.length by simp [bvals]]
    exact all _ 0 (by omega)
  have fin : ∀ {f : PySem.Fin → Shared → Prop} {e : Value → Shared → Prop}, (∀ t' k, f (.done (.ret (.bytes (l.map (·.1)).flatten.toArray t'))) { s' with toks := k }) →
      wpAny (model prog w) A.in1 (do
        let result ← Bytes.Kind.bytes.new (Bytes.joined #[] (jst l l.length).1.toList)
        holding (result :: (jst l l.length).2.flatMap fun (y, u) => y :: u.toList) point
        Bytes.joinLetGo (jst l l.length).2 [result]
        ret result) f e s' := by
    intro f e hf
    have ej : Bytes.joined #[] (jst l l.length).1.toList = (l.map (·.1)).flatten.toArray := by
      rw [joined_flat]
      unfold jst
      rw [List.take_length]
      simp only [List.map_map]
      rfl
    rw [ej]
    refine wpAny_bind (wpAny_mkBytes ?_ (by rw [sizeLine_eq, List.size_toArray]; exact hsz))
    refine wpAny_bind (wpAny_holding (wpAny_point ?_))
    unfold jst
    rw [List.take_length]
    exact wpAny_bind (joinLet l _ (wpAny_pure (hf _ _)))
  have big : Bytes.tooLong (Array.foldl (fun x1 x2 => x1 + x2.size) ((#[] : Array UInt8).size * ((jst l l.length).1.size - 1)) (jst l l.length).1) = false := by
    unfold jst
    rw [List.take_length]
    rw [← Array.foldl_toList]
    have := sum_flat (l.map (·.1)) 0
    rw [List.map_map] at this
    show Bytes.tooLong (List.foldl _ (0 * _) (l.map fun p => p.1.toArray)) = false
    rw [Nat.zero_mul]
    rw [show (List.foldl (fun (x1 : Nat) (x2 : Array UInt8) => x1 + x2.size) 0 (l.map fun p => p.1.toArray)) = 0 + (l.map (·.1)).flatten.length from this]
    exact KBy.tooLong_not (by omega)
  show wpAny _ A.in1 (if (Bytes.Kind.bytes == Bytes.Kind.bytes) = true then _ else _) _ _ s'
  rw [if_pos (show (Bytes.Kind.bytes == Bytes.Kind.bytes) = true by decide)]
  rcases l with _ | ⟨p, _ | ⟨q, r⟩⟩
  · show wpAny _ A.in1 (forIn [:(bvals []).toArray.size] (#[], []) _ >>= _) _ _ s'
    refine wpAny_bind (loop _ (fun i p hp Q hQ => ?_) ?_)
    · cases hp
    · refine wpAny_bind (wpAny_of_eq (a := #[]) rfl ?_)
      show wpAny _ A.in1 (if _ then _ else _) _ _ s'
      rw [big, if_neg Bool.false_ne_true]
      exact fin fun t' k => hq t' k
  · show wpAny _ A.in1 (typeOf (.bytes p.1.toArray p.2) >>= _) _ _ s'
    refine wpAny_bind (wpAny_typeOf (typeIs_bytes _ _ _) ?_)
    show wpAny _ A.in1 (rule _ >>= fun _ => ret _) _ _ s'
    refine wpAny_bind (wpAny_rule (wpAny_pure ?_))
    have := hq p.2 s'.toks
    rw [show (([p] : List (List UInt8 × Tok)).map (·.1)).flatten = p.1 by simp] at this
    exact this
  · show wpAny _ A.in1 (forIn [:(bvals (p :: q :: r)).toArray.size] (#[], []) _ >>= _) _ _ s'
    refine wpAny_bind (loop _ (fun i b hp Q hQ => ?_) ?_)
    · refine wpAny_bind (seq9 ?_)
      have hx : (bvals (p :: q :: r)).toArray.getD i .none = .bytes b.1.toArray b.2 := by
        have : (bvals (p :: q :: r))[i]? = some (.bytes b.1.toArray b.2) := by unfold bvals; rw [List.getElem?_map, hp]; rfl
        have hi := (List.getElem?_eq_some_iff.mp this).1
        simp only [Array.getD_eq_getD_getElem?, List.getElem?_toArray, this, Option.getD_some]
      dsimp only
      rw [hx]
      show wpAny _ A.in1 (if _ then _ else _) _ _ s'
      rw [show (Bytes.Kind.bytes == Bytes.Kind.bytearray || (jst (p :: q :: r) i).2.any fun x => x.1.onHeap) = false by rw [jst_heap]; rfl, if_neg Bool.false_ne_true]
      refine wpAny_bind (wpAny_holding (wpAny_of_eq takeQ_eq ?_))
      refine wpAny_bind (seq9 ?_)
      show wpAny _ A.in1 (if _ then _ else _) _ _ s'
      rw [if_neg (by simp)]
      refine wpAny_pure ?_
      have := jst_succ hp
      rw [← this] at hQ
      exact hQ
    · refine wpAny_bind (wpAny_of_eq (a := #[]) rfl ?_)
      show wpAny _ A.in1 (if _ then _ else _) _ _ s'
      rw [big, if_neg Bool.false_ne_true]
      exact fin fun t' k => hq t' k
end
end Mine
end

section
set_option maxRecDepth 100000
set_option linter.unusedVariables false
set_option Elab.async false
open PySem PySem.W PyProof.Rows PySem.Spec PySem.Calls
namespace Mine
theorem type_bytes_join : typeOf (.builtin "bytes.join") = pure (.type "method_descriptor") := by show builtinType _ = _; rw [builtinType_eq_fast]; kernel_rfl
theorem meth_join {M : Model} {A : Around} {E : Value → Shared → Prop} {s : Shared} {b : Array UInt8} {t : Tok} {pl : Sem Bool} {Q : Value × List Value → Shared → Prop} (h : Q (.builtin "bytes.join", [.bytes b t]) s) : wpAny M A (getMethod (.bytes b t) (Str.ofString "join") pl) Q E s := by
  with_reducible exact KBd.method_of (.bytes b t) (typeIs_bytes _ _ _) slot_bytes_join type_bytes_join KBd.noRef h
/-- the code object of the generator: there already, or made now -/
theorem code_made {M : Model} {A : Around} {E : Value → Shared → Prop} {s : Shared} {env : Env} {c P : Addr} {ps : Array Value} {pos : Pos} {qualname : Str} {scope : Scope} {Q : Value → Shared → Prop} (hc : env.code = .ref c)
    (hok : s.heap.IsCode c P ps) (htab : s.heap.TableAt c P ps)
    (hQ : ∀ c' h' tk ps', Heap.ExtBut P s.heap h' → s.heap.objs.size ≤ h'.objs.size → h'.TableAt c P ps' → TriplesOk ps'.toList → (codeAmong pos ps'.toList).isSome = true → ((codeAmong pos ps.toList).isSome = true → ps' = ps) → Q c' { s with heap := h', toks := tk }) :
    wpAny M A (genexprCode env pos qualname scope) Q E s := by
  cases hnf : codeAmong pos ps.toList with
  | none =>
    refine wpAny_genexprCodeX hc hok htab hnf fun c' h' tk hx hge hlt hcode _ htab' _ => ?_
    have htr : TriplesOk ps.toList := by obtain ⟨o, vs, file, tf, flags, tg, inF, text, tt, op, _, _, _, _, _, _, _, _, _, h, _⟩ := hok; exact h
    have htr' : TriplesOk (ps ++ #[rawInt pos.line, rawInt pos.col, .ref c']).toList := by obtain ⟨o, vs, file, tf, flags, tg, inF, text, tt, op, _, _, _, _, _, _, _, _, _, h, _⟩ := hcode; exact h
    refine hQ _ _ _ _ hx (by omega) htab' htr' ?_ (fun h => by rw [hnf] at h; cases h)
    have e : (ps ++ #[rawInt pos.line, rawInt pos.col, Value.ref c']).toList = ps.toList ++ [rawInt pos.line, rawInt pos.col, .ref c'] := by simp
    rw [e, codeAmong_snoc _ htr hnf]; rfl
  | some cv =>
    have htr : TriplesOk ps.toList := by obtain ⟨o, vs, file, tf, flags, tg, inF, text, tt, op, _, _, _, _, _, _, _, _, _, h, _⟩ := hok; exact h
    obtain ⟨o, vs, file, tf, flags, tg, inF, text, tt, op, ho, hd, h11, h2, h7, h9, h10, hop, hpd, _, hne⟩ := hok
    unfold genexprCode codeAt
    rw [hc, if_neg (show ¬ ((Value.ref c == Value.none) = true) from Bool.false_ne_true)]
    refine wpAny_bind (wpAny_fieldsOf ho hd ?_)
    rw [h11]
    refine wpAny_bind (wpAny_fieldsOf hop hpd ?_)
    rw [hnf]
    exact wpAny_pure (hQ cv s.heap s.toks ps (Heap.ExtBut.refl _ _) (Nat.le_refl _) htab htr (by rw [hnf]; rfl) fun _ => rfl)
section
variable {prog : Program} {w : World} {A : Around} {E : Value → Shared → Prop} {s : Shared}
theorem gen_make {env : Env} {elt iter : Expr} {x : Str} {px : Pos} {scope : Scope} {pos : Pos} {Q : Value → Shared → Prop} {c P l : Addr} {ps items : Array Value} {mg : Str → Option Value} {bm : Addr} {ob : Obj}
    (hco : scope.isCoroutine = false) (hclos : closureFor scope env = pure []) (hcell : ∀ y ∈ scope.names, y.2 ≠ .cell) (h0 : scope.names.lookup (".0" : Str) = some NameKind.local) (hkind : scope.kind = .function)
    (hroom : A.depth < recursionLimit) (hc : env.code = .ref c) (hlim : s.heap.NoLimit) (hl : s.heap.IsList l items) (hlP : l ≠ P)
    (hok : s.heap.IsCode c P ps) (htab : s.heap.TableAt c P ps) (Mb : BMod s.heap env.globals mg bm ob)
    (hiter : wpAny (model prog w) A (eval iter env) (fun v s₁ => v = .ref l ∧ s₁ = s) E s)
    (hQ : ∀ C I a h₅ tk code ps', I = s.heap.objs.size → I < C → a = C + 1 → h₅.objs.size = a + 1 → Heap.ExtBut P s.heap h₅ → h₅.IsListIter I l 0 → h₅.IsList l items → h₅.Ns C (fun y => if y = (".0" : Str) then some (.ref I) else none) →
      h₅.IsGen a s.gens.size → h₅.NoLimit → h₅.TableAt c P ps' → TriplesOk ps'.toList → (codeAmong pos ps'.toList).isSome = true → ((codeAmong pos ps.toList).isSome = true → ps' = ps) →
      Q (.ref a) { s with gens := s.gens.push (.fresh (.compStart (.GeneratorExp elt [⟨.Name x px, iter, [], 0⟩] scope pos) 0 (.ref I) .none (genEnv scope [] C code builtinsNs env))), toks := tk, heap := h₅ })
    (hs : ∀ x, genFold iter env x = pure x) :
    wpAny (model prog w) A (eval (.GeneratorExp elt [⟨.Name x px, iter, [], 0⟩] scope pos) env) Q E s := by
  refine wpAny_GeneratorExp_make hco hclos hcell h0 hkind hroom (wpAny_mono hiter (fun v s₁ h₁ => ?_) fun _ _ e => e) hs
  obtain ⟨rfl, rfl⟩ := h₁
  have hllt : l < s₁.heap.objs.size := by obtain ⟨_, e, _⟩ := hl; exact Heap.lt_size e
  have hPlt : P < s₁.heap.objs.size := Heap.lt_size htab.2
  have hcP : cStatics ≠ P := fun e => by
    obtain ⟨_, hns, _⟩ := hlim
    obtain ⟨o, es, ep, ho, hd, _⟩ := hns
    rw [e, htab.2] at ho; cases ho; cases hd
  have push1 : ∀ b o, s₁.heap.get? b = some o → (s₁.heap.push { cls := .type "list_iterator", data := .fields #[.ref l, .int 0 0] }).get? b = some o := fun b o e => Heap.get?_push_of_some _ e
  refine wpAny_pyIter_list hl ⟨hlim.keeps push1, code_made hc (hok.keeps push1) (htab.keeps push1) fun c' h₃ tk₃ ps' hx₃ hge htab₃ htr₃ hsome hsame => ?_⟩
  have hg3 : s₁.heap.objs.size + 1 ≤ h₃.objs.size := by rw [Heap.size_push] at hge; exact hge
  have M₃ : BMod h₃ env.globals mg bm ob := (Mb.keeps push1).extBut (htab.keeps push1) hx₃
  refine wpAny_builtinsFor M₃.ns M₃.name M₃.ne M₃.obj M₃.cls M₃.dict M₃.data fun h' hn' hs' => ?_
  have hsz : h'.objs.size = h₃.objs.size + 1 := by rw [hs'.1, Heap.size_push]
  have keep' : ∀ b o, h₃.get? b = some o → h'.get? b = some o := fun b o e => hs'.extBut b o (Nat.ne_of_lt (Heap.lt_size e)) (Heap.get?_push_of_some _ e)
  have keep₅ : ∀ (g : Obj) b o, h₃.get? b = some o → (h'.push g).get? b = some o := fun g b o e => Heap.get?_push_of_some _ (keep' b o e)
  have hit : (s₁.heap.push { cls := .type "list_iterator", data := .fields #[.ref l, .int 0 0] }).IsListIter s₁.heap.objs.size l 0 := ⟨_, Heap.get?_push_size _ rfl, rfl, rfl⟩
  have hIP : s₁.heap.objs.size ≠ P := (Nat.ne_of_lt hPlt).symm
  refine hQ h₃.objs.size s₁.heap.objs.size h'.objs.size _ _ _ ps' rfl (by omega) (by omega) (by rw [Heap.size_push]) (fun b o hb e => keep₅ _ b o (hx₃ b o hb (push1 b o e)))
    (let ⟨o, ho, r⟩ := hit; ⟨o, keep₅ _ _ _ (hx₃ _ o hIP ho), r⟩) (let ⟨o, ho, r⟩ := hl; ⟨o, keep₅ _ _ _ (hx₃ _ o hlP (push1 _ _ ho)), r⟩) (hn'.push _) ⟨_, _, _, Heap.get?_push_size _ rfl, rfl, rfl, rfl⟩
    ((hlim.keeps push1).extBut hx₃ hcP |>.keeps (keep₅ _)) (htab₃.keeps (keep₅ _)) htr₃ hsome hsame
end
end Mine
end

section
set_option maxRecDepth 100000
set_option linter.unusedVariables false
set_option Elab.async false
open PySem PySem.W PyProof.Rows PySem.Spec PySem.Calls
namespace Mine
/-- what stands in the heap at lo and above, but for C -/
def restOf (lo C : Addr) (h : Heap) : List (Addr × Obj) := (List.range h.objs.size).filterMap fun b => if lo ≤ b ∧ b ≠ C then (h.get? b).map fun o => (b, o) else none
theorem mem_rest {lo C b : Addr} {h : Heap} {o : Obj} : (b, o) ∈ restOf lo C h ↔ lo ≤ b ∧ b ≠ C ∧ h.get? b = some o := by
  unfold restOf
  rw [List.mem_filterMap]
  constructor
  · rintro ⟨x, hx, e⟩
    split at e
    · rename_i hc
      cases hg : h.get? x with
      | none => rw [hg] at e; cases e
      | some o' =>
        rw [hg] at e
        simp only [Option.map_some, Option.some.injEq, Prod.mk.injEq] at e
        obtain ⟨rfl, rfl⟩ := e
        exact ⟨hc.1, hc.2, hg⟩
    · cases e
  · rintro ⟨h1, h2, h3⟩
    exact ⟨b, List.mem_range.mpr (Heap.lt_size h3), by rw [if_pos ⟨h1, h2⟩, h3]; rfl⟩
/-- a base for a frame further in: all that stands, but for the ledger -/
theorem hide_base {A : Around} {base g h : Heap} {outer : List Env} {L a : Addr} {m : Str → Option Value} {ledger : List (Addr × Obj)} {name : Str} {scope : Scope} {cd : Value}
    (B : Below A base outer g) (F : Fr g L h m) (N : News g L h ledger) (hk : scope.kind = .function) :
    ∃ g₂ : Heap, (∀ b o, g.get? b = some o → g₂.get? b = some o) ∧ Below (A.deeper (envOf name scope L a cd)) base (envOf name scope L a cd :: outer) g₂ ∧ g₂.objs.size = h.objs.size ∧ (∀ b o, g₂.get? b = some o → h.get? b = some o) ∧
      (∀ p ∈ ledger, g₂.get? p.1 = none) ∧ (∀ b o, h.get? b = some o → (∀ p ∈ ledger, p.1 ≠ b) → g₂.get? b = some o) := by
  have nm : ∀ b o, g.get? b = some o → b ∉ ledger.map (·.1) := fun b o e q => by
    obtain ⟨p, hp, rfl⟩ := List.mem_map.mp q
    rw [(N p hp).2.2] at e; cases e
  have st : ∀ b o, g.get? b = some o → (hideAll h (ledger.map (·.1))).get? b = some o := fun b o e => hideAll_get _ (F.keep b o e) (nm b o e)
  have nL : L ∉ ledger.map (·.1) := fun q => by
    obtain ⟨p, hp, e⟩ := List.mem_map.mp q
    exact (N p hp).2.1 e
  have B₁ := B.push (name := name) (scope := scope) (a := a) (cd := cd) F hk
  refine ⟨hideAll h (ledger.map (·.1)), st, ⟨B₁.stack, fun b o e => st b o (B.stays b o e), funFrames_hideAll B₁.frames fun env he b hb hf => ?_⟩, hideAll_size _ _, fun b o e => of_hideAll _ e,
    fun p hp => hideAll_none _ (List.mem_map_of_mem hp), fun b o e hne => hideAll_get _ e fun q => ?_⟩
  · cases he with
    | head => exact nL ((Option.some.inj hf : L = b) ▸ hb)
    | tail _ he =>
      obtain ⟨L₁, o₁, hf₁, ho₁⟩ := funFrames_in B.frames env he
      rw [hf₁] at hf
      exact nm L₁ o₁ ho₁ ((Option.some.inj hf : L₁ = b) ▸ hb)
  · obtain ⟨p, hp, rfl⟩ := List.mem_map.mp q
    exact hne p hp rfl
theorem items_are {bs : List (List UInt8)} {n : Nat} {l : List (List UInt8 × Tok)} (hlen : bs.length = n)
    (h : ItemsOf (fun i v => ∃ b tk, bs[i]? = some b ∧ v = Value.bytes b.toArray tk) (bvals l).toArray n) : l.map (·.1) = bs := by
  have hl : l.length = n := by have := h.1; simpa [bvals] using this
  apply List.ext_getElem?
  intro i
  by_cases hi : i < l.length
  · have hv : (bvals l).toArray[i]? = some (.bytes (l[i]).1.toArray (l[i]).2) := by simp [bvals, hi]
    obtain ⟨b, tk, hb, e⟩ := h.2 i _ hv
    have hb' : (l[i]).1 = b := by
      have := (Value.bytes.inj e).1
      have := congrArg Array.toList this
      simpa using this
    rw [List.getElem?_map, List.getElem?_eq_getElem hi, hb, ← hb']
    rfl
  · rw [List.getElem?_eq_none (by simpa using hi), List.getElem?_eq_none (by omega)]
section
variable {prog : Program} {w : World} {A : Around} {E : Value → Shared → Prop} {s : Shared}
theorem gen_run {t : Tok} {a C I l g : Nat} {items : Array Value} {elt iter : Expr} {x : Str} {px : Pos} {scope : Scope} {pos : Pos} {code : Value} {env : Env} {bs : List (List UInt8)} {m : Str → Option Value} {Q : Value → Shared → Prop}
    (hh : A.handled = none) (hroom : A.depth < recursionLimit) (hco : scope.isCoroutine = false) (hkind : scope.kind = .function) (hx : scope.names.lookup x = some .local)
    (hgen : s.heap.IsGen a g) (hgs : s.gens[g]? = some (.fresh (.compStart (.GeneratorExp elt [⟨.Name x px, iter, [], 0⟩] scope pos) 0 (.ref I) .none (genEnv scope [] C code builtinsNs env))))
    (hit : s.heap.IsListIter I l 0) (hlist : s.heap.IsList l items) (hns : s.heap.Ns C m) (hlim : s.heap.NoLimit) (hsz : s.heap.objs.size = a + 1) (hI : I < C) (hC : a = C + 1) (hl : l < I) (hcs : @LT.lt Nat _ cStatics I)
    (dead : List Addr) (hdead : ∀ b ∈ dead, @LT.lt Nat _ b I ∧ b ≠ l ∧ b ≠ cStatics)
    (hq : EltOk prog w (A.in1.in1.in1.in1.over (.compLoop (.GeneratorExp elt [⟨.Name x px, iter, [], 0⟩] scope pos) 0 (.ref I) .none (genEnv scope [] C code builtinsNs env)) []) (genEnv scope [] C code builtinsNs env) x elt (List.range (a + 1)) (C :: I :: dead) (C :: dead)
      (fun i v => items[i]? = some v) (fun i v => ∃ b tk, bs[i]? = some b ∧ v = Value.bytes b.toArray tk) s.heap)
    (hlen : bs.length = items.size) (hbs : bs.flatten.length ≤ 16777216) (hn : items.size ≤ sizeLine)
    (hQ : ∀ h' gs' tk' t', (∀ b o, b ≠ C → b ≠ I → b ∉ dead → s.heap.get? b = some o → h'.get? b = some o) → GX g s.gens gs' → Q (.bytes bs.flatten.toArray t') { s with heap := h', gens := gs', toks := tk' }) :
    wpAny (model prog w) A (call (.builtin "bytes.join") [.bytes #[] t, .ref a]) Q E s := by
  have hwr : ∀ b, b ∈ C :: I :: dead → @LT.lt Nat _ b a := by
    intro b hb
    rcases List.mem_cons.mp hb with rfl | hb
    · omega
    · rcases List.mem_cons.mp hb with rfl | hb
      · omega
      · have := (hdead b hb).1; omega
  have hsub : ∀ b ∈ C :: I :: dead, b ∈ List.range (a + 1) := fun b hb => List.mem_range.mpr (Nat.lt_succ_of_lt (hwr b hb))
  have hcw : cStatics ∉ C :: I :: dead := by
    intro h
    rcases List.mem_cons.mp h with h | h
    · exact absurd hI (Nat.not_lt.mpr (Nat.le_of_lt (h ▸ hcs)))
    · rcases List.mem_cons.mp h with h | h
      · exact Nat.lt_irrefl I (h ▸ hcs)
      · exact (hdead _ h).2.2 rfl
  have W := walks_own (prog := prog) (w := w) (A := A.in1.in1.in1) hh a g (List.range (a + 1)) (C :: I :: dead) items.size (fun i v => ∃ b tk, bs[i]? = some b ∧ v = Value.bytes b.toArray tk)
    (List.mem_range.mpr (Nat.lt_succ_self a)) (fun h => Nat.lt_irrefl _ (hwr a h)) hsub hroom (List.mem_range.mpr (Nat.lt_trans hcs (by omega))) hcw
  have hst : OwnAt prog w A.in1.in1.in1 a g (List.range (a + 1)) (C :: I :: dead) items.size (fun i v => ∃ b tk, bs[i]? = some b ∧ v = Value.bytes b.toArray tk) 0 s := by
    refine own_fresh (A := A.in1.in1.in1) (P := fun i v => items[i]? = some v) (St₀ := fun i h => h.IsListIter I l i ∧ h.IsList l items) (fq := [I, l]) (we := C :: dead) (cenv := genEnv scope [] C code builtinsNs env) (m := m) hh
      (fun A' hA => Walks.list hA I l (Nat.ne_of_lt hl) items) _ hx (by simp [genEnv, hkind]) hco (List.mem_cons_self ..) (List.mem_cons_of_mem _ (List.mem_cons_self ..)) hsub ?_ ?_ ?_ ?_ hq hgen hgs ⟨hit, hlist⟩ hns hlim
    · intro b hb
      rcases List.mem_cons.mp hb with rfl | hb
      · exact List.mem_range.mpr (by omega)
      · rcases List.mem_cons.mp hb with rfl | hb
        · exact List.mem_range.mpr (by omega)
        · nomatch hb
    · show C ∉ [I, l]
      intro h
      rcases List.mem_cons.mp h with h | h
      · omega
      · rcases List.mem_cons.mp h with h | h
        · omega
        · nomatch h
    · intro b hb
      rcases List.mem_cons.mp hb with rfl | hb
      · exact List.mem_cons_self ..
      · exact List.mem_cons_of_mem _ (List.mem_cons_of_mem _ hb)
    · intro b hb h
      have h1 : @LT.lt Nat _ b C := by
        rcases List.mem_cons.mp hb with rfl | hb
        · omega
        · rcases List.mem_cons.mp hb with rfl | hb
          · omega
          · nomatch hb
      rcases List.mem_cons.mp h with rfl | h
      · exact Nat.lt_irrefl _ h1
      · rcases List.mem_cons.mp hb with rfl | hb
        · exact Nat.lt_irrefl _ (hdead b h).1
        · rcases List.mem_cons.mp hb with rfl | hb
          · exact (hdead b h).2.1 rfl
          · nomatch hb
  refine bytes_join W (fun i s st => st.1.typeIs) hst (fun b hb => by rw [hsz]; exact List.mem_range.mp hb) (List.mem_range.mpr (Nat.lt_succ_self a)) hn (fun s' l' hm hacc => ?_) (fun i v h => by obtain ⟨b, tk, _, e⟩ := h; exact ⟨b, tk, e⟩)
  rw [items_are hlen hacc]
  refine ⟨hbs, fun t' k => ?_⟩
  obtain ⟨h', gs', d', tk', o'⟩ := s'
  obtain ⟨hm1, hm2, hm3, hm4, hm5⟩ := hm
  dsimp only at hm1 hm2 hm3 hm4 hm5
  subst hm3 hm4
  refine hQ h' gs' k t' (fun b o h1 h2 h3 e => hm1 b o ?_ (Heap.get?_push_of_some _ e)) hm2
  intro hb
  rcases List.mem_cons.mp hb with rfl | hb
  · exact Nat.lt_irrefl _ (Heap.lt_size e)
  · rcases List.mem_cons.mp hb with rfl | hb
    · exact h1 rfl
    · rcases List.mem_cons.mp hb with rfl | hb
      · exact h2 rfl
      · exact h3 hb
end
end Mine
end

section
open PySem PySem.W PyProof.Rows PySem.Spec PySem.Calls Rlp
set_option Elab.async false
set_option maxRecDepth 100000
set_option maxHeartbeats 0
set_option linter.unusedVariables false
namespace Mine
theorem fillK10 : (fun (_ : OpenLaw) (_ : Params → Frag) => True) PySem.Challenge.rw_bi0020_03 K := by
  k_fill
  trivial
local macro_rules | `(tactic| walk_at "ENTER0") => `(tactic| (refine wpAny_call ?_; k_dflt (refine' code_def ?k1 ?k2 ?k3 ?k4 ?k5 ?kA ?kF ?kK ?k6 ?k7 ?k8 ?k9 ?kB ?_ ?c2 ?c3 ?c4 ?c5; (case kA => exact rfl); (case kF => exact And.right (by assumption)); (case kK => exact And.left (by assumption)); (case k1 => k_asm); (case k2 => k_asm); (case k3 => k_asm); (case k4 => k_asm); (case k5 => k_asm); (case k6 => k_is); (case k7 => k_is); (case k8 => ktr_room); (case k9 => first | exact BindsTo.of_eq rfl | exact binds_K (by k_in) rfl (by k_is) rfl rfl rfl); (case c5 => decide); (case kB => exact locs rfl); (case c2 => exact rfl); (case c3 => exact rfl); (case c4 => exact rfl); k_whole; intro g' L' h' FG' F' N' B' X' T'; (try dsimp only); (try k_fold))))
local macro_rules | `(tactic| walk_at "ENTER") => `(tactic| (walk_at "ENTER0"; k_steps))
local macro_rules | `(tactic| walk_at "bsz") => `(tactic| ((try simp only [List.size_toArray, List.length_append, List.length_cons, List.length_nil, be_length, beK_length, slice_length]); omega))
local macro_rules | `(tactic| walk_at "call builtin:len") => `(tactic| ((with_reducible show wpAny _ _ (call (Value.builtin _) [Value.bytes (List.toArray _) _]) _ _ _); refine len_bytes (by walk_at "bsz") ?_; (try simp only [List.size_toArray, be_length])))
local macro_rules | `(tactic| walk_at "binaryOp Add bytes bytes") => `(tactic| ((with_reducible show wpAny _ _ (binaryOp Operator.Add (Value.bytes (List.toArray _) _) (Value.bytes (List.toArray _) _)) _ _ _); refine KBy.add_bytes (by walk_at "bsz") ?_; intro _ _; (try simp only [List.append_toArray, List.cons_append, List.nil_append])))
local macro_rules | `(tactic| walk_at "subscriptTail") => `(tactic| ((with_reducible show wpAny _ _ (subscriptTail _ _ (Value.bytes (List.toArray _) _) (Value.ref _)) _ _ _); refine slice_int (s := ⟨_, _, _, _, _⟩) (by k_asm) (by k_asm) (by omega) (by omega) (by omega) ?_; intro _ _ _ _ _))
local macro_rules | `(tactic| walk_at "dp") => `(tactic| ((show _ + _ < _); simp only [ktr_dp, ktr_un]; omega))
local macro_rules | `(tactic| walk_at "call ref") => `(tactic| ((with_reducible show wpAny _ _ (call (Value.ref 1464) _) _ _ _); (k_dflt (refine' b2i ?k1 ?k2 ?k3 ?k4 ?k5 ?k6 ?k7 ?k8 ?k9 ?_; (case k1 => k_asm); (case k2 => k_asm); (case k3 => k_asm); (case k4 => k_asm); (case k5 => k_asm); (case k6 => exact ⟨rfl, rfl⟩); (case k7 => walk_at "dp"); (case k8 => walk_at "dp"); (case k9 => walk_at "bsz"))); intro _ _ _ _ _))
local macro_rules | `(tactic| walk_at "call ref") => `(tactic| ((with_reducible show wpAny _ _ (call (Value.ref 1736) _) _ _ _); (k_dflt (refine' clp_ok ?k1 ?k2 ?k3 ?k4 ?k5 ?k6 ?k7 ?k8 ?k9 ?k0 ?_; (case k1 => k_asm); (case k2 => k_asm); (case k3 => k_asm); (case k4 => k_asm); (case k5 => k_asm); (case k6 => exact ⟨rfl, rfl⟩); (case k7 => walk_at "dp"); (case k8 => walk_at "dp"); (case k9 => walk_at "bsz"); (case k0 => assumption))); intro _ _ _ _ _ _ _ _ _ _))
local macro_rules | `(tactic| walk_at "call ref") => `(tactic| ((with_reducible show wpAny _ _ (call (Value.ref 1457) _) _ _ _); (k_dflt (refine' is_b ?k1 ?k2 ?k3 ?k4 ?k5 ?k6 ?k7 ?k8 ?_; (case k1 => k_asm); (case k2 => k_asm); (case k3 => k_asm); (case k4 => k_asm); (case k5 => k_asm); (case k6 => exact ⟨rfl, rfl⟩); (case k7 => walk_at "dp"); (case k8 => walk_at "dp"))); intro _ _ _ _))
local macro_rules | `(tactic| walk_at "call ref") => `(tactic| ((with_reducible show wpAny _ _ (call (Value.ref 1714) _) _ _ _); (k_dflt (refine' dr_ok ?k1 ?k2 ?k3 ?k4 ?k5 ?k6 ?k7 ?k8 ?k9 ?ka ?kb ?_; (case k1 => k_asm); (case k2 => k_asm); (case k3 => k_asm); (case k4 => k_asm); (case k5 => k_asm); (case ka => assumption); (case kb => assumption); (case k6 => exact ⟨rfl, rfl⟩); (case k7 => walk_at "dp"); (case k8 => walk_at "dp"); (case k9 => assumption))); intro _ _ _ _ _ _ _ _ _ _ _ _ _ _ _))
local macro_rules | `(tactic| walk_at "call ref") => `(tactic| ((with_reducible show wpAny _ _ (call (Value.ref 1500) [Value.ref 1509, _]) _ _ _); (k_dflt (refine' des_plain ?k1 ?k2 ?k3 ?k4 ?k5 ?k6 ?k7 ?k8 ?k9 ?k0 ?_; (case k1 => k_asm); (case k2 => k_asm); (case k3 => k_asm); (case k4 => k_asm); (case k5 => k_asm); (case k6 => exact ⟨rfl, rfl⟩); (case k7 => walk_at "dp"); (case k8 => walk_at "dp"); (case k9 => walk_at "bsz"); (case k0 => assumption))); intro _ _ _ _ _))
local macro_rules | `(tactic| walk_at "call ref") => `(tactic| ((with_reducible show wpAny _ _ (call (Value.ref 1471) _) _ _ _); (k_dflt (refine' i2b ?k1 ?k2 ?k3 ?k4 ?k5 ?k6 ?k7 ?k8 ?k9 ?_; (case k1 => k_asm); (case k2 => k_asm); (case k3 => k_asm); (case k4 => k_asm); (case k5 => k_asm); (case k6 => exact ⟨rfl, rfl⟩); (case k7 => walk_at "dp"); (case k8 => walk_at "dp"); (case k9 => walk_at "bsz"))); intro _ _ _ _ _))
theorem mem_of {α : Type} {x : α} {l : List α} (h : x ∈ l) : List.Mem x l := h
local macro_rules | `(tactic| k_mem) => `(tactic| (refine mem_of ?_; ktr_member))
local macro_rules | `(tactic| walk_at "getMethod bytes") => `(tactic| ((with_reducible show wpAny _ _ (getMethod (Value.bytes _ _) _ _) _ _ _); refine meth_join ?_))
local macro_rules | `(tactic| walk_at "call ref") => `(tactic| ((with_reducible show wpAny _ _ (call (Value.ref 1729) [_, Value.int 192 _]) _ _ _); (k_dflt (refine' lp (off := 192) ?k1 ?k2 ?k3 ?k4 ?k5 ?k6 ?k7 ?k8 ?k9 ?k0 ?_; (case k1 => k_asm); (case k2 => k_asm); (case k3 => k_asm); (case k4 => k_asm); (case k5 => k_asm); (case k6 => exact ⟨rfl, rfl⟩); (case k7 => walk_at "dp"); (case k8 => walk_at "dp"); (case k9 => omega); (case k0 => exact Or.inr rfl))); intro _ _ _ _ _))
/-- the table of the code objects made within a code object -/
abbrev tabObj (ps : Array Value) : Obj := { cls := .none, data := .fields ps }
/-- where encode_raw's generator stands -/
def gpos : Pos := { line := 226, col := 27, endLine := 226, endCol := 56 }
/-- encode_raw, of values less deep than k -/
def ErSpec (w : World) (k : Nat) : Prop := ∀ {p : Program} {loose : List Str} {mean : ExcName → Option Value} {mg mb : Str → Option Value} {dp un : Nat} {gd : Option (List Code)} {ev : Env} {outer : List Env} {A₀ : Around} {base h₀ : Heap} {L : Addr} {m : Str → Option Value} {news : List (Addr × Obj)} {s : Shared} {Q E : Value → Shared → Prop} {ps : Array Value} {v : Value} {d : D},
    Below A₀ base outer h₀ → Fr h₀ L s.heap m → (K w.params).In h₀ → News h₀ L s.heap ((1702, tabObj ps) :: news) → Top p loose mean mg mb h₀ → ev.scope.kind = .function ∧ ev.frame = some L →
    dp + 30 + 4 * k < recursionLimit → un + 100 + 30 * k < cLine → TriplesOk ps.toList → (∀ p ∈ news, p.1 ≠ 1702) → DIn news v d → d.depth < k → (enc d).length < 2 ^ 23 →
    (∀ h' gs' tk' tk ps', Fr h₀ L h' m → News h₀ L h' ((1702, tabObj ps') :: news) → GC s.gens gs' → TriplesOk ps'.toList → ((codeAmong gpos ps.toList).isSome = true → ps' = ps) → Q (.bytes (enc d).toArray tk) { s with heap := h', gens := gs', toks := tk' }) →
    wpAny (model pg w) (ktrE dp un gd ev outer) (call (.ref 1707) [v]) Q E s
theorem er_call {w : World} {k : Nat} (H : ErSpec w k) {p : Program} {loose : List Str} {mean : ExcName → Option Value} {mg mb : Str → Option Value} {dp un : Nat} {gd : Option (List Code)} {ev : Env} {outer : List Env} {A₀ : Around} {base h₀ : Heap} {L : Addr} {m : Str → Option Value} {news : List (Addr × Obj)} {s : Shared} {Q E : Value → Shared → Prop} {ps : Array Value} {v : Value} {d : D}
    (B : Below A₀ base outer h₀) (F : Fr h₀ L s.heap m) (X : (K w.params).In h₀) (N : News h₀ L s.heap ((1702, tabObj ps) :: news)) (T : Top p loose mean mg mb h₀) (hk : ev.scope.kind = .function ∧ ev.frame = some L)
    (hd : dp + 30 + 4 * k < recursionLimit) (hu : un + 100 + 30 * k < cLine) (hps : TriplesOk ps.toList) (h17 : ∀ p ∈ news, p.1 ≠ 1702) (hv : DIn news v d) (hdk : d.depth < k) (hz : (enc d).length < 2 ^ 23)
    (hret : (∀ h' gs' tk' tk ps', Fr h₀ L h' m → News h₀ L h' ((1702, tabObj ps') :: news) → GC s.gens gs' → TriplesOk ps'.toList → ((codeAmong gpos ps.toList).isSome = true → ps' = ps) → Q (.bytes (enc d).toArray tk) { s with heap := h', gens := gs', toks := tk' })) :
    wpAny (model pg w) (ktrE dp un gd ev outer) (call (.ref 1707) [v]) Q E s := H B F X N T hk hd hu hps h17 hv hdk hz hret
theorem DsIn.at {nw : List (Addr × Obj)} : ∀ {vs : List Value} {ds : List D}, DsIn nw vs ds → ∀ {i : Nat} {v : Value}, vs[i]? = some v → ∃ d, ds[i]? = some d ∧ DIn nw v d
  | _, _, .nil, _, _, h => by simp at h
  | _, _, .cons a b, i, v, h => by
    cases i with
    | zero => simp only [List.getElem?_cons_zero, Option.some.injEq] at h; subst h; exact ⟨_, rfl, a⟩
    | succ i => simp only [List.getElem?_cons_succ] at h ⊢; exact DsIn.at b h
theorem depths_at : ∀ {ds : List D} {i : Nat} {d : D}, ds[i]? = some d → d.depth ≤ depths ds
  | [], _, _, h => by simp at h
  | x :: r, i, d, h => by
    unfold depths
    cases i with
    | zero => simp only [List.getElem?_cons_zero, Option.some.injEq] at h; subst h; omega
    | succ i => simp only [List.getElem?_cons_succ] at h; have := depths_at h; omega
theorem encs_flat : ∀ (ds : List D), (ds.map enc).flatten = encs ds
  | [] => rfl
  | d :: r => by rw [List.map_cons, List.flatten_cons, encs_flat r]; rfl
theorem encs_at : ∀ {ds : List D} {i : Nat} {d : D}, ds[i]? = some d → (enc d).length ≤ (encs ds).length
  | [], _, _, h => by simp at h
  | x :: r, i, d, h => by
    unfold encs
    rw [List.length_append]
    cases i with
    | zero => simp only [List.getElem?_cons_zero, Option.some.injEq] at h; subst h; omega
    | succ i => simp only [List.getElem?_cons_succ] at h; have := encs_at h; omega
theorem encs_count : ∀ (ds : List D), ds.length ≤ (encs ds).length
  | [] => Nat.le_refl _
  | d :: r => by unfold encs; rw [List.length_append, List.length_cons]; have := encs_count r; have := enc_length_pos d; omega
theorem elt_ok {w : World} {k : Nat} (H : ErSpec w k) {AE : Around} {cenv : Env} {C I a : Nat} {dead : List Addr} {vs : List Value} {ds : List D} {g₂ h₅ : Heap} {ps : Array Value} {p1 p2 p3 : Pos}
    {p : Program} {loose : List Str} {mean : ExcName → Option Value} {mg mb : Str → Option Value} {dp un : Nat} {gd : Option (List Code)} {outer : List Env} {A₀ : Around} {base : Heap} {news : List (Addr × Obj)}
    (hAE : AE = ktrE dp un gd cenv outer) (hcs : cenv.scope.kind = .function) (hcf : cenv.frame = some C) (hcl : cenv.locals = C) (hcg : cenv.globals = mainGlobals)
    (hkx : cenv.kindOf (Str.ofString "x") = some .local) (hkf : cenv.kindOf (Str.ofString "encode_raw") = some .globalImplicit)
    (B₂ : Below A₀ base outer g₂) (X₂ : (K w.params).In g₂) (T₂ : Top p loose mean mg mb g₂) (hg2 : g₂.objs.size = I) (hIC : I < C) (hCa : C < a + 1) (hI17 : 1702 < I)
    (hd : dp + 30 + 4 * k < recursionLimit) (hu : un + 100 + 30 * k < cLine) (hps : TriplesOk ps.toList) (hot : (codeAmong gpos ps.toList).isSome = true)
    (hkeep : ∀ b o, g₂.get? b = some o → h₅.get? b = some o ∧ b ∉ C :: I :: dead)
    (hled : ∀ p ∈ (1702, tabObj ps) :: news, h₅.get? p.1 = some p.2 ∧ g₂.get? p.1 = none ∧ @LT.lt Nat _ p.1 I ∧ p.1 ∉ dead) (h17 : ∀ p ∈ news, p.1 ≠ 1702)
    (hcov : ∀ b : Nat, b < I → b ∉ dead → (∃ o, g₂.get? b = some o) ∨ (∃ o, (b, o) ∈ (1702, tabObj ps) :: news))
    (hv : DsIn news vs ds) (hdk : depths ds < k) (hz : (encs ds).length < 2 ^ 23) :
    EltOk pg w AE cenv (Str.ofString "x") ((Expr.Name (Str.ofString "encode_raw") p1).Call [Expr.Name (Str.ofString "x") p2] [] p3) (List.range (a + 1)) (C :: I :: dead) (C :: dead)
      (fun i v => vs.toArray[i]? = some v) (fun i v => ∃ b tk, (ds.map enc)[i]? = some b ∧ v = Value.bytes b.toArray tk) h₅ := by
  subst hAE hcl
  intro E' i v s₂ m₂ hi hn₂ hm hkp
  obtain ⟨d, hdi, hdv⟩ := DsIn.at hv (by simpa using hi)
  have hlow : ∀ b o, @LT.lt Nat _ b I → b ∉ dead → h₅.get? b = some o → s₂.heap.get? b = some o := fun b o hb hdd e => hkp b (List.mem_range.mpr (Nat.lt_trans hb (Nat.lt_trans hIC hCa))) (fun h => by
    rcases List.mem_cons.mp h with h | h
    · exact Nat.lt_irrefl _ (Nat.lt_trans hIC (h ▸ hb))
    · rcases List.mem_cons.mp h with h | h
      · exact Nat.lt_irrefl _ (h ▸ hb)
      · exact hdd h) o e
  have F₂ : Fr g₂ cenv.locals s₂.heap m₂ := ⟨hn₂, fun b o e => hlow b o (by rw [← hg2]; exact Heap.lt_size e) (fun h => (hkeep b o e).2 (List.mem_cons_of_mem _ (List.mem_cons_of_mem _ h))) (hkeep b o e).1, by rw [hg2]; exact Nat.le_of_lt hIC⟩
  have N₂ : News g₂ cenv.locals s₂.heap ((1702, tabObj ps) :: (news ++ restOf I cenv.locals s₂.heap)) := by
    intro q hq
    have : q ∈ (1702, tabObj ps) :: news ∨ q ∈ restOf I cenv.locals s₂.heap := by
      rcases List.mem_cons.mp hq with h | h
      · exact .inl (h ▸ List.mem_cons_self ..)
      · exact (List.mem_append.mp h).imp (List.mem_cons_of_mem _) id
    rcases this with h | h
    · have z := hled q h
      exact ⟨hlow _ _ z.2.2.1 z.2.2.2 z.1, fun e => Nat.lt_irrefl _ (Nat.lt_trans hIC (e ▸ z.2.2.1)), z.2.1⟩
    · obtain ⟨b, o⟩ := q
      obtain ⟨h1, h2, h3⟩ := mem_rest.mp h
      refine ⟨h3, h2, ?_⟩
      cases e : g₂.get? b with
      | none => rfl
      | some o' => exact absurd (Heap.lt_size e) (Nat.not_lt.mpr (by rw [hg2]; exact h1))
  have kf : (K w.params).lookup 1707 = some (o1707 w.params) := by k_is
  have hk1 : keepIn (K w.params) (.ref 1707) = true := by k_is
  have hk2 : nsIn (K w.params) mainGlobals (Str.ofString "encode_raw") = some (some (.ref 1707)) := by k_is
  refine Call_ ?_
  refine nameG_K F₂ X₂ (topRead_of T₂) hk2 ?_ hcg hcs hkf (by decide)
  refine callWith_K X₂ hk1 ?_
  refine args_cons (wpAny_Name (wpAny_loadName_local hcs hkx hn₂ hm ?_) (by decide))
  refine args_nil ⟨X₂.keeps F₂.keep, ?_⟩
  refine er_call H (ps := ps) (d := d) B₂ F₂ X₂ N₂ T₂ ⟨hcs, hcf⟩ hd hu hps ?_ (DIn.mono (fun p hp => List.mem_append_left _ hp) hdv) (Nat.lt_of_le_of_lt (depths_at hdi) hdk) (Nat.lt_of_le_of_lt (encs_at hdi) hz) ?_
  · intro q hq
    rcases List.mem_append.mp hq with h | h
    · exact h17 q h
    · obtain ⟨b, o⟩ := q
      intro e
      have e' : b = 1702 := e
      subst e'
      exact absurd (mem_rest.mp h).1 (Nat.not_le.mpr hI17)
  · intro h' gs' tk' tk ps' F₃ N₃ hgc htr hsame
    obtain rfl := hsame hot
    refine ⟨⟨enc d, tk, by rw [List.getElem?_map, hdi]; rfl, rfl⟩, ⟨_, F₃.ns⟩, ⟨fun b o hb e => ?_, hgc, rfl, rfl⟩⟩
    have hbC : b ≠ cenv.locals := fun h => hb (h ▸ List.mem_cons_self ..)
    have hbd : b ∉ dead := fun h => hb (List.mem_cons_of_mem _ h)
    by_cases hlo : @LT.lt Nat _ b I
    · rcases hcov b hlo hbd with ⟨o', e'⟩ | ⟨o', e'⟩
      · have z := F₂.keep b o' e'
        rw [e] at z
        cases z
        exact F₃.keep b o e'
      · have e2 : (b, o') ∈ (1702, tabObj ps') :: (news ++ restOf I cenv.locals s₂.heap) := by
          rcases List.mem_cons.mp e' with h | h
          · exact h ▸ List.mem_cons_self ..
          · exact List.mem_cons_of_mem _ (List.mem_append_left _ h)
        have z := (N₂ _ e2).1
        rw [e] at z
        cases z
        exact (N₃ _ e2).1
    · exact (N₃ (b, o) (List.mem_cons_of_mem _ (List.mem_append_right _ (mem_rest.mpr ⟨Nat.not_lt.mp hlo, hbC, e⟩)))).1
theorem code_1706 {P : Params} {h : Heap} {ps : Array Value} (X : (K P).In h) (h17 : h.get? 1702 = some (tabObj ps)) (hps : TriplesOk ps.toList) : h.IsCode 1706 1702 ps ∧ h.TableAt 1706 1702 ps := by
  have hl : (K P).lookup 1706 = some (o1706 P) := by k_is
  have ho := X _ _ hl
  exact ⟨⟨_, _, z162, 1536, 3, 0, true, 181, 0, _, ho, rfl, rfl, rfl, rfl, rfl, rfl, h17, rfl, hps, by decide⟩, ⟨⟨_, _, ho, rfl, rfl, rfl⟩, h17⟩⟩
theorem ext_frame {g h h₅ : Heap} {L P : Addr} {m : Str → Option Value} {o o' : Obj} {rest : List (Addr × Obj)} (F : Fr g L h m) (N : News g L h ((P, o) :: rest)) (hne : ∀ p ∈ rest, p.1 ≠ P) (hx : Heap.ExtBut P h h₅) (hP : h₅.get? P = some o') :
    Fr g L h₅ m ∧ News g L h₅ ((P, o') :: rest) := by
  have z := N _ (List.mem_cons_self ..)
  refine ⟨⟨F.ns.at' fun o e => hx _ o (fun h => z.2.1 h.symm) e, fun b o e => hx b o (fun h => ?_) (F.keep b o e), F.above⟩, fun p hp => ?_⟩
  · rw [h] at e; have := z.2.2; rw [e] at this; cases this
  · rcases List.mem_cons.mp hp with rfl | hp
    · exact ⟨hP, z.2⟩
    · have y := N p (List.mem_cons_of_mem _ hp)
      exact ⟨hx _ _ (hne p hp) y.1, y.2⟩
section
variable {w : World} {p : Program} {loose : List Str} {mean : ExcName → Option Value} {mg mb : Str → Option Value} {dp un : Nat} {gd : Option (List Code)} {ev : Env} {outer : List Env} {A₀ : Around} {base h₀ : Heap} {L : Addr} {m : Str → Option Value} {news : List (Addr × Obj)} {s : Shared} {Q E : Value → Shared → Prop}
theorem er_list {k : Nat} (H : ErSpec w k) {ps : Array Value} {v : Value} {ds : List D}
    (B : Below A₀ base outer h₀) (F : Fr h₀ L s.heap m) (X : (K w.params).In h₀) (N : News h₀ L s.heap ((1702, tabObj ps) :: news)) (T : Top p loose mean mg mb h₀) (hk : ev.scope.kind = .function ∧ ev.frame = some L)
    (hd : dp + 30 + 4 * (k + 1) < recursionLimit) (hu : un + 100 + 30 * (k + 1) < cLine) (hps : TriplesOk ps.toList) (h17 : ∀ p ∈ news, p.1 ≠ 1702) (hv : DIn news v (.l ds)) (hdk : depths ds < k) (hz : (enc (.l ds)).length < 2 ^ 23)
    (hret : (∀ h' gs' tk' tk ps', Fr h₀ L h' m → News h₀ L h' ((1702, tabObj ps') :: news) → GC s.gens gs' → TriplesOk ps'.toList → ((codeAmong gpos ps.toList).isSome = true → ps' = ps) → Q (.bytes (enc (.l ds)).toArray tk) { s with heap := h', gens := gs', toks := tk' })) :
    wpAny (model pg w) (ktrE dp un gd ev outer) (call (.ref 1707) [v]) Q E s := by
  cases hv with
  | l ha hvs =>
  rename_i a vs n
  have ha17 : a ≠ 1702 := h17 _ ha
  walk_at "ENTER"
  rename_i g' L' h0 FG B' X' T' D1 h1 l1 tk1 D2 h2 F' N' l2 tk2
  have N2 : News g' L' h2 ((1702, tabObj ps) :: (D2, _) :: (D1, _) :: news) := News.sub N' fun p hp => by
    simp only [List.mem_cons] at hp ⊢
    rcases hp with h | h | h | h
    · exact Or.inr (Or.inr (Or.inl h))
    · exact Or.inl h
    · exact Or.inr (Or.inl h)
    · exact Or.inr (Or.inr (Or.inr h))
  have hx17 : h2.get? 1702 = some (tabObj ps) := (N2 _ (.head _)).1
  obtain ⟨hcode, htab⟩ := code_1706 (X'.keeps F'.keep) hx17 hps
  have hlim := T'.nolimit.keeps F'.keep
  obtain ⟨bm, ob, M⟩ := bmod_of_top T'
  have hled17 : ∀ p ∈ ((D2, (⟨.type "tuple", none, .seq #[.type "list", .type "tuple"] 0, ⟨[]⟩⟩ : Obj)) :: (D1, (⟨.type "tuple", none, .seq #[.type "bytes", .type "bytearray"] 0, ⟨[]⟩⟩ : Obj)) :: news), p.1 ≠ 1702 := by
    intro p hp
    rcases List.mem_cons.mp hp with rfl | hp
    · exact Nat.ne_of_gt l2.2.1
    · rcases List.mem_cons.mp hp with rfl | hp
      · exact Nat.ne_of_gt l1.1
      · exact h17 p hp
  have hlist : h2.IsList a vs.toArray := ⟨_, (N2 _ (.tail _ (.tail _ (.tail _ ha)))).1, rfl, ⟨_, rfl⟩⟩
  obtain ⟨g₂, hg1, hB2, hgs, hof, hno, hyes⟩ := hide_base (name := z256) (scope := fscope (st 29)) (a := 1707) (cd := .ref 1706) B' F' N2 rfl
  refine gen_make (c := 1706) (P := 1702) (l := a) (ps := ps) (items := vs.toArray) (mg := mg) rfl rfl (by decide) rfl rfl ?hroom rfl hlim hlist ha17 hcode htab (M.keeps F'.keep) ?hiter ?hQ (fun x => rfl)
  case hroom => ktr_room
  case hiter => k_steps
  case hQ =>
    intro C I a5 h5 tk5 code ps' hI hIC haC hsz hext hit hlist5 hns hgen hlim5 htab5 htr5 hsome hsame
    obtain ⟨F5, N5⟩ := ext_frame F' N2 hled17 hext htab5.2
    k_steps
    have hdead : ∀ b ∈ (List.range I).filter (fun b => (h2.get? b).isNone), @LT.lt Nat _ b I ∧ h2.get? b = none := fun b hb => ⟨List.mem_range.mp (List.mem_filter.mp hb).1, Option.isNone_iff_eq_none.mp (List.mem_filter.mp hb).2⟩
    have halive : ∀ b o, h2.get? b = some o → b ∉ (List.range I).filter (fun b => (h2.get? b).isNone) := fun b o e h => by have := (hdead b h).2; rw [e] at this; cases this
    have hlt2 : ∀ b o, h2.get? b = some o → @LT.lt Nat _ b I := fun b o e => by rw [hI]; exact Heap.lt_size e
    have hcsl : ∃ o, h2.get? cStatics = some o := by obtain ⟨_, ⟨o, _, _, ho, _⟩, _⟩ := hlim; exact ⟨o, ho⟩
    have hIC' : I < C := hIC
    have hCI : ∀ b o, h2.get? b = some o → b ≠ C ∧ b ≠ I := fun b o e => ⟨fun h => Nat.lt_irrefl _ (Nat.lt_trans hIC (h ▸ hlt2 b o e)), fun h => Nat.lt_irrefl _ (h ▸ hlt2 b o e)⟩
    have hsz2 : (encs ds).length < 2 ^ 23 := by
      have : (enc (.l ds)).length = (pre (encs ds).length 192).length + (encs ds).length := by unfold enc; rw [List.length_append]
      omega
    have hpr := pre_le (n := (encs ds).length) 192 (by omega)
    refine gen_run (C := C) (I := I) (l := a) (g := s.gens.size) (items := vs.toArray) (bs := ds.map enc) rfl ?r1 rfl rfl rfl hgen (Array.getElem?_push_size ..) hit hlist5 hns hlim5 hsz hIC haC (hlt2 a _ (N2 _ (.tail _ (.tail _ (.tail _ ha)))).1) (hlt2 _ _ hcsl.choose_spec)
      ((List.range I).filter (fun b => (h2.get? b).isNone)) ?r2 ?r3 ?r4 ?r5 ?r6 ?r7
    case r1 => ktr_room
    case r2 =>
      intro b hb
      refine ⟨(hdead b hb).1, fun e => ?_, fun e => ?_⟩
      · exact halive a _ (N2 _ (.tail _ (.tail _ (.tail _ ha)))).1 (e ▸ hb)
      · exact halive _ _ hcsl.choose_spec (e ▸ hb)
    case r3 =>
      refine elt_ok H (news := (D2, (⟨.type "tuple", none, .seq #[.type "list", .type "tuple"] 0, ⟨[]⟩⟩ : Obj)) :: (D1, (⟨.type "tuple", none, .seq #[.type "bytes", .type "bytearray"] 0, ⟨[]⟩⟩ : Obj)) :: news) (ps := ps') (dp := dp + 2) (un := un + 10) (ds := ds) (g₂ := g₂) rfl rfl rfl rfl rfl rfl rfl hB2 (X'.keeps hg1) (T'.keeps hg1) (by rw [hgs, hI]) hIC (by omega) (hlt2 _ _ hx17) (by omega) (by omega) htr5 hsome ?_ ?_ hled17 ?_ (DsIn.mono (fun p hp => .tail _ (.tail _ hp)) hvs) hdk hsz2
      · intro b o e
        have e2 := hof b o e
        have hb17 : b ≠ 1702 := fun h => by rw [h] at e; have := hno _ (List.mem_cons_self ..); rw [e] at this; cases this
        refine ⟨hext b o hb17 e2, fun h => ?_⟩
        rcases List.mem_cons.mp h with h | h
        · exact (hCI b o e2).1 h
        · rcases List.mem_cons.mp h with h | h
          · exact (hCI b o e2).2 h
          · exact halive b o e2 h
      · intro q hq
        have e5 := N5 q hq
        have e2 : ∃ o, h2.get? q.1 = some o := by
          rcases List.mem_cons.mp hq with rfl | hq
          · exact ⟨_, hx17⟩
          · exact ⟨_, (N2 _ (List.mem_cons_of_mem _ hq)).1⟩
        obtain ⟨o2, e2⟩ := e2
        refine ⟨e5.1, ?_, hlt2 _ _ e2, halive _ _ e2⟩
        rcases List.mem_cons.mp hq with rfl | hq
        · exact hno (1702, tabObj ps) (List.mem_cons_self ..)
        · exact hno q (List.mem_cons_of_mem _ hq)
      · intro b hb hbd
        have e2 : ∃ o, h2.get? b = some o := by
          cases e : h2.get? b with
          | some o => exact ⟨o, rfl⟩
          | none => exact absurd (List.mem_filter.mpr ⟨List.mem_range.mpr hb, by rw [e]; rfl⟩) hbd
        obtain ⟨o2, e2⟩ := e2
        by_cases hin : ∃ q ∈ ((1702, tabObj ps) :: (D2, (⟨.type "tuple", none, .seq #[.type "list", .type "tuple"] 0, ⟨[]⟩⟩ : Obj)) :: (D1, (⟨.type "tuple", none, .seq #[.type "bytes", .type "bytearray"] 0, ⟨[]⟩⟩ : Obj)) :: news), q.1 = b
        · obtain ⟨q, hq, rfl⟩ := hin
          refine .inr ?_
          rcases List.mem_cons.mp hq with rfl | hq
          · exact ⟨_, List.mem_cons_self ..⟩
          · exact ⟨q.2, List.mem_cons_of_mem _ hq⟩
        · exact .inl ⟨o2, hyes b o2 e2 fun q hq e => hin ⟨q, hq, e⟩⟩
    case r4 =>
      have := hvs
      rw [List.length_map, List.size_toArray, DsIn.len hvs]
    case r5 => rw [encs_flat]; omega
    case r6 =>
      rw [List.size_toArray, DsIn.len hvs, sizeLine_eq]
      have := encs_count ds
      omega
    case r7 =>
      intro h' gs' tk' t' hkeep hgx
      rw [encs_flat]
      have hk6 : ∀ b o o', h2.get? b = some o' → h5.get? b = some o → h'.get? b = some o := fun b o o' e' e => hkeep b o (hCI b o' e').1 (hCI b o' e').2 (halive b o' e') e
      obtain ⟨oL, eL, epL, hL, hL'⟩ := F'.ns
      have F6 : Fr g' L' h' _ := ⟨F5.ns.at' fun o e => hk6 _ _ _ hL e, fun b o e => hk6 b o _ (F'.keep b o e) (F5.keep b o e), F5.above⟩
      have N6 : News g' L' h' ((1702, tabObj ps') :: (D2, (⟨.type "tuple", none, .seq #[.type "list", .type "tuple"] 0, ⟨[]⟩⟩ : Obj)) :: (D1, (⟨.type "tuple", none, .seq #[.type "bytes", .type "bytearray"] 0, ⟨[]⟩⟩ : Obj)) :: news) := by
        intro q hq
        have z := N5 q hq
        refine ⟨?_, z.2⟩
        rcases List.mem_cons.mp hq with rfl | hq
        · exact hk6 _ _ _ hx17 z.1
        · exact hk6 _ _ _ (N2 _ (List.mem_cons_of_mem _ hq)).1 z.1
      have hgc : GC s.gens gs' := by
        refine ⟨Nat.le_trans (by simp) hgx.1, fun k hk => (hgx.2.1 k (by simp; omega) (Nat.ne_of_lt hk)).trans (by rw [Array.getElem?_push_lt hk, Array.getElem?_eq_getElem hk]), fun hb => hgx.2.2 (hb.push rfl)⟩
      clear F5 N5 F' N'
      k_steps
      have ee : enc (.l ds) = pre (encs ds).length 192 ++ encs ds := by unfold enc; rfl
      rw [← ee]
      exact hret _ _ _ _ ps' (by k_asm) (News.sub (by k_asm) fun q hq => by
        rcases List.mem_cons.mp hq with h | h
        · exact h ▸ List.mem_cons_self ..
        · exact .tail _ (.tail _ (.tail _ h))) hgc htr5 hsame
end
theorem enc_b_ge (x : List UInt8) : x.length ≤ (enc (.b x)).length := by
  unfold enc
  split
  · split <;> simp
  · rw [List.length_append]; omega
theorem er_all (w : World) : ∀ k, ErSpec w k := by
  intro k
  induction k with
  | zero => intro p loose mean mg mb dp un gd ev outer A₀ base h₀ L m news s Q E ps v d B F X N T hk hd hu hps h17 hv hdk; exact absurd hdk (Nat.not_lt_zero _)
  | succ k ih =>
    intro p loose mean mg mb dp un gd ev outer A₀ base h₀ L m news s Q E ps v d B F X N T hk hd hu hps h17 hv hdk hz hret
    cases d with
    | l ds => exact er_list ih B F X N T hk hd hu hps h17 hv (by unfold D.depth at hdk; omega) hz hret
    | b x =>
      cases hv with
      | b => exact er_b B F X N T hk (by omega) (by omega) (Nat.lt_of_le_of_lt (enc_b_ge x) hz) fun h' tk' tk F' N' => hret h' s.gens tk' tk ps F' N' (GC.refl _) hps fun _ => rfl
end Mine
end

section
set_option maxRecDepth 100000
set_option linter.unusedVariables false
set_option Elab.async false
open PySem PySem.W PyProof.Rows PySem.Spec PySem.Calls
namespace Mine
theorem unrPost_mono {h₀ : Heap} {L : Addr} {s₁ : Shared} {its : List (Addr × Obj)} {rest rest' : (Str → Option Value) → List (Addr × Obj) → Prop} {Q : Flow → Shared → Prop} {f : Flow} {s₂ : Shared}
    (x : UnrPostW h₀ L s₁ its rest Q f s₂) (h : ∀ m n, rest m n → rest' m n) : UnrPostW h₀ L s₁ its rest' Q f s₂ := by
  cases f with
  | ret v => exact x
  | brk => exact x
  | next => obtain ⟨a, b, c, d, e, f, g, i, j⟩ := x; exact ⟨a, b, c, d, e, f, g, i, h _ _ j⟩
  | cont => obtain ⟨a, b, c, d, e, f, g, i, j⟩ := x; exact ⟨a, b, c, d, e, f, g, i, h _ _ j⟩
theorem allObj_mono : ∀ {ws : List (Addr × String)} {k k' : List (Addr × Obj) → Prop}, AllObj ws k → (∀ its, k its → k' its) → AllObj ws k'
  | [], _, _, x, h => h _ x
  | _ :: _, _, _, x, h => fun o e => allObj_mono (x o e) fun its => h _
section
variable {prog : Program} {w : World} {A : Around} {E : Value → Shared → Prop} {h₀ : Heap} {env : Env} {target : Expr} {body : List Stmt} {Q : Flow → Shared → Prop} {s : Shared} {ws : List (Addr × String)} {keep : List (Addr × Obj)}
/-- what one turn owes -/
def TurnOk (prog : Program) (w : World) (A : Around) (E : Value → Shared → Prop) (h₀ : Heap) (env : Env) (target : Expr) (body : List Stmt) (Q : Flow → Shared → Prop) (s : Shared) (ws : List (Addr × String)) (keep : List (Addr × Obj)) (v : Value) (h : Heap) (tk : Nat) (Inv : (Str → Option Value) → List (Addr × Obj) → Prop) (news : List (Addr × Obj)) : Prop :=
  AllObj ws (fun its => News h₀ env.locals h (its ++ news) →
      wpAny (model prog w) A (assign target env v) (fun _ s₂ => wpAny (model prog w) A (execs body env) (UnrPostW h₀ env.locals { s with heap := h, toks := tk } its (fun m' n' => SubL keep n' ∧ Inv m' n') Q) E s₂) E { s with heap := h, toks := tk })
theorem items_rest {xs : List Itm} (Inv : Nat → (Str → Option Value) → List (Addr × Obj) → Prop)
    (step : ∀ i a m news v h tk, xs[i]? = some a → Inv i m news → a.Is v h → Fr h₀ env.locals h m → SubL keep news → TurnOk prog w A E h₀ env target body Q s ws keep v h tk (Inv (i + 1)) news)
    (fin : ∀ m news h tk, Inv xs.length m news → Fr h₀ env.locals h m → News h₀ env.locals h news → Q .next { s with heap := h, toks := tk }) :
    ∀ k i m news, i + k = xs.length → Inv i m news → SubL keep news → ItemsRest prog w A E h₀ env target body Q s ws keep (xs.drop i) m news := by
  intro k
  induction k with
  | zero =>
    intro i m news hi hI hs
    rw [List.drop_of_length_le (by omega)]
    rw [show i = xs.length by omega] at hI
    exact fun h tk F N => fin m news h tk hI F N
  | succ k ih =>
    intro i m news hi hI hs
    have hlt : i < xs.length := by omega
    rw [List.drop_eq_getElem_cons hlt]
    intro v h tk hv F
    refine allObj_mono (step i _ m news v h tk (List.getElem?_eq_getElem hlt) hI hv F hs) fun its hq N => ?_
    refine wpAny_mono (hq N) (fun _ s₂ h₂ => wpAny_mono h₂ (fun f s₃ h₃ => unrPost_mono h₃ fun m' n' z => ⟨z.1, ih (i + 1) m' n' (by omega) z.2 z.1⟩) fun _ _ e => e) fun _ _ e => e
end
section
variable {prog : Program} {w : World} {A : Around} {E : Value → Shared → Prop} {s : Shared} {env : Env} {h₀ : Heap} {body : List Stmt} {Q : Flow → Shared → Prop}
/-- for (i, v) in enumerate(list) -/
theorem for_enum {elts : List Expr} {k : Nat} {pos : Pos} {l : Addr} {vs : List Value} {n : Nat} {m₀ : Str → Option Value} {news : List (Addr × Obj)}
    (hh : A.handled = none) (F : Fr h₀ env.locals s.heap m₀) (N : News h₀ env.locals s.heap news) (hm : (l, W.listOf vs.toArray n) ∈ news)
    (Inv : Nat → (Str → Option Value) → List (Addr × Obj) → Prop) (h0 : Inv 0 m₀ news)
    (step : ∀ I i x m news' h tk T t, (∀ p ∈ news, p.1 < I) → vs[i]? = some x → Inv i m news' → IsTup h T #[.int ((i : Nat) : Int) t, x] → Fr h₀ env.locals h m → (l, W.listOf vs.toArray n) ∈ news' →
      TurnOk prog w A E h₀ env (.Tuple elts k pos) body Q s [(I + 1, "enumerate"), (I, "list_iterator")] [(l, W.listOf vs.toArray n)] (.ref T) h tk (Inv (i + 1)) news')
    (fin : ∀ m news h tk, Inv vs.length m news → Fr h₀ env.locals h m → News h₀ env.locals h news → Q .next { s with heap := h, toks := tk }) :
    wpAny (model prog w) A (call (.type "enumerate") [.ref l]) (fun xv s₁ => wpAny (model prog w) A (pyIter xv) (fun it s₂ => TurnsAt prog w A h₀ env (.Tuple elts k pos) body Q E it s₂) E s₁) E s := by
  refine ktu_enum hh F N hm rfl rfl rfl fun I hI => ?_
  have := items_rest (prog := prog) (w := w) (A := A) (E := E) (h₀ := h₀) (env := env) (target := .Tuple elts k pos) (body := body) (Q := Q) (s := s) (ws := [(I + 1, "enumerate"), (I, "list_iterator")]) (keep := [(l, W.listOf vs.toArray n)]) (xs := enumItems 0 vs) Inv
    (fun i a m news' v h tk ha hi hv F' hs => by
      have hlt : i < vs.length := by have := (List.getElem?_eq_some_iff.mp ha).1; rwa [enumItems_length] at this
      have e := enumItems_get vs 0 i (List.getElem?_eq_getElem hlt)
      rw [ha] at e
      cases e
      obtain ⟨T, t, rfl, hT⟩ := hv
      rw [Nat.zero_add] at hT
      exact step I i _ m news' h tk T t hI (List.getElem?_eq_getElem hlt) hi hT F' hs.1)
    (fun m news' h tk hi F' N' => fin m news' h tk (by rwa [enumItems_length] at hi) F' N') vs.length 0 m₀ news (by rw [enumItems_length]; omega) h0 ⟨hm, trivial⟩
  simpa using this
/-- for (x, y) in zip(list, list) -/
theorem for_zip {elts : List Expr} {k : Nat} {pos : Pos} {l1 l2 : Addr} {xs ys : List Value} {n1 n2 : Nat} {m₀ : Str → Option Value} {news : List (Addr × Obj)}
    (hh : A.handled = none) (F : Fr h₀ env.locals s.heap m₀) (N : News h₀ env.locals s.heap news) (hm1 : (l1, W.listOf xs.toArray n1) ∈ news) (hm2 : (l2, W.listOf ys.toArray n2) ∈ news) (hlen : xs.length = ys.length)
    (Inv : Nat → (Str → Option Value) → List (Addr × Obj) → Prop) (h0 : Inv 0 m₀ news)
    (step : ∀ I i x y m news' h tk T, (∀ p ∈ news, p.1 < I) → xs[i]? = some x → ys[i]? = some y → Inv i m news' → IsTup h T #[x, y] → Fr h₀ env.locals h m → (l1, W.listOf xs.toArray n1) ∈ news' → (l2, W.listOf ys.toArray n2) ∈ news' →
      TurnOk prog w A E h₀ env (.Tuple elts k pos) body Q s [(I + 4, "zip"), (I + 2, "tuple"), (I + 3, "tuple"), (I, "list_iterator"), (I + 1, "list_iterator")] [(l1, W.listOf xs.toArray n1), (l2, W.listOf ys.toArray n2)] (.ref T) h tk (Inv (i + 1)) news')
    (fin : ∀ m news h tk, Inv xs.length m news → Fr h₀ env.locals h m → News h₀ env.locals h news → Q .next { s with heap := h, toks := tk }) :
    wpAny (model prog w) A (call (.type "zip") [.ref l1, .ref l2]) (fun xv s₁ => wpAny (model prog w) A (pyIter xv) (fun it s₂ => TurnsAt prog w A h₀ env (.Tuple elts k pos) body Q E it s₂) E s₁) E s := by
  refine ktu_zip hh F N hm1 rfl rfl hm2 rfl rfl fun I hI => ?_
  have hzl : (zipItems xs ys).length = xs.length := by rw [zipItems_length, hlen, Nat.min_self]
  have := items_rest (prog := prog) (w := w) (A := A) (E := E) (h₀ := h₀) (env := env) (target := .Tuple elts k pos) (body := body) (Q := Q) (s := s) (ws := [(I + 4, "zip"), (I + 2, "tuple"), (I + 3, "tuple"), (I, "list_iterator"), (I + 1, "list_iterator")]) (keep := [(l1, W.listOf xs.toArray n1), (l2, W.listOf ys.toArray n2)]) (xs := zipItems xs ys) Inv
    (fun i a m news' v h tk ha hi hv F' hs => by
      have hlt : i < xs.length := by have := (List.getElem?_eq_some_iff.mp ha).1; rwa [hzl] at this
      have e := zipItems_get xs ys i (List.getElem?_eq_getElem hlt) (List.getElem?_eq_getElem (by omega))
      rw [ha] at e
      cases e
      obtain ⟨T, t, rfl, hT⟩ := hv
      exact step I i _ _ m news' h tk T hI (List.getElem?_eq_getElem hlt) (List.getElem?_eq_getElem (by omega)) hi hT F' hs.1 hs.2.1)
    (fun m news' h tk hi F' N' => fin m news' h tk (by rwa [hzl] at hi) F' N') xs.length 0 m₀ news (by rw [hzl]; omega) h0 ⟨hm1, hm2, trivial⟩
  simpa using this
theorem off_frame {stored : List Str} {m m₀ : Str → Option Value} (h : ∀ z, stored.contains z = false → m z = m₀ z) : m = fun z => if stored.contains z then m z else m₀ z := by
  funext z
  cases hz : stored.contains z with
  | true => simp
  | false => simp [h z hz]
/-- the same loops, with a state of one's own and the names that a turn may store -/
theorem for_enumS {σ : Type} (stored : List Str) (Led : Nat → σ → List (Addr × Obj)) (Facts : Nat → σ → Prop) (c₀ : σ) {elts : List Expr} {k : Nat} {pos : Pos} {l : Addr} {vs : List Value} {n : Nat} {m₀ : Str → Option Value}
    (hh : A.handled = none) (F : Fr h₀ env.locals s.heap m₀) (N : News h₀ env.locals s.heap (Led 0 c₀)) (hm : (l, W.listOf vs.toArray n) ∈ Led 0 c₀) (h0 : Facts 0 c₀)
    (step : ∀ I i x c (u : Str → Option Value) h tk T t, (∀ p ∈ Led 0 c₀, p.1 < I) → vs[i]? = some x → Facts i c → IsTup h T #[.int ((i : Nat) : Int) t, x] → Fr h₀ env.locals h (fun z => if stored.contains z then u z else m₀ z) → (l, W.listOf vs.toArray n) ∈ Led i c →
      TurnOk prog w A E h₀ env (.Tuple elts k pos) body Q s [(I + 1, "enumerate"), (I, "list_iterator")] [(l, W.listOf vs.toArray n)] (.ref T) h tk (fun m' n' => ∃ c', n' = Led (i + 1) c' ∧ Facts (i + 1) c' ∧ ∀ z, stored.contains z = false → m' z = m₀ z) (Led i c))
    (fin : ∀ c (u : Str → Option Value) h tk, Facts vs.length c → Fr h₀ env.locals h (fun z => if stored.contains z then u z else m₀ z) → News h₀ env.locals h (Led vs.length c) → Q .next { s with heap := h, toks := tk }) :
    wpAny (model prog w) A (call (.type "enumerate") [.ref l]) (fun xv s₁ => wpAny (model prog w) A (pyIter xv) (fun it s₂ => TurnsAt prog w A h₀ env (.Tuple elts k pos) body Q E it s₂) E s₁) E s := by
  refine for_enum hh F N hm (fun i m' n' => ∃ c', n' = Led i c' ∧ Facts i c' ∧ ∀ z, stored.contains z = false → m' z = m₀ z) ⟨c₀, rfl, h0, fun _ _ => rfl⟩ ?_ ?_
  · rintro I i x m news' h tk T t hI hx ⟨c, rfl, hf, hz⟩ hT F' hl
    rw [off_frame hz] at F'
    exact step I i x c m h tk T t hI hx hf hT F' hl
  · rintro m news' h tk ⟨c, rfl, hf, hz⟩ F' N'
    rw [off_frame hz] at F'
    exact fin c m h tk hf F' N'
theorem for_zipS {σ : Type} (stored : List Str) (Led : Nat → σ → List (Addr × Obj)) (Facts : Nat → σ → Prop) (c₀ : σ) {elts : List Expr} {k : Nat} {pos : Pos} {l1 l2 : Addr} {xs ys : List Value} {n1 n2 : Nat} {m₀ : Str → Option Value}
    (hh : A.handled = none) (F : Fr h₀ env.locals s.heap m₀) (N : News h₀ env.locals s.heap (Led 0 c₀)) (hm1 : (l1, W.listOf xs.toArray n1) ∈ Led 0 c₀) (hm2 : (l2, W.listOf ys.toArray n2) ∈ Led 0 c₀) (hlen : xs.length = ys.length) (h0 : Facts 0 c₀)
    (step : ∀ I i x y c (u : Str → Option Value) h tk T, (∀ p ∈ Led 0 c₀, p.1 < I) → xs[i]? = some x → ys[i]? = some y → Facts i c → IsTup h T #[x, y] → Fr h₀ env.locals h (fun z => if stored.contains z then u z else m₀ z) → (l1, W.listOf xs.toArray n1) ∈ Led i c → (l2, W.listOf ys.toArray n2) ∈ Led i c →
      TurnOk prog w A E h₀ env (.Tuple elts k pos) body Q s [(I + 4, "zip"), (I + 2, "tuple"), (I + 3, "tuple"), (I, "list_iterator"), (I + 1, "list_iterator")] [(l1, W.listOf xs.toArray n1), (l2, W.listOf ys.toArray n2)] (.ref T) h tk (fun m' n' => ∃ c', n' = Led (i + 1) c' ∧ Facts (i + 1) c' ∧ ∀ z, stored.contains z = false → m' z = m₀ z) (Led i c))
    (fin : ∀ c (u : Str → Option Value) h tk, Facts xs.length c → Fr h₀ env.locals h (fun z => if stored.contains z then u z else m₀ z) → News h₀ env.locals h (Led xs.length c) → Q .next { s with heap := h, toks := tk }) :
    wpAny (model prog w) A (call (.type "zip") [.ref l1, .ref l2]) (fun xv s₁ => wpAny (model prog w) A (pyIter xv) (fun it s₂ => TurnsAt prog w A h₀ env (.Tuple elts k pos) body Q E it s₂) E s₁) E s := by
  refine for_zip hh F N hm1 hm2 hlen (fun i m' n' => ∃ c', n' = Led i c' ∧ Facts i c' ∧ ∀ z, stored.contains z = false → m' z = m₀ z) ⟨c₀, rfl, h0, fun _ _ => rfl⟩ ?_ ?_
  · rintro I i x y m news' h tk T hI hx hy ⟨c, rfl, hf, hz⟩ hT F' hl1 hl2
    rw [off_frame hz] at F'
    exact step I i x y c m h tk T hI hx hy hf hT F' hl1 hl2
  · rintro m news' h tk ⟨c, rfl, hf, hz⟩ F' N'
    rw [off_frame hz] at F'
    exact fin c m h tk hf F' N'
theorem turn_end {L : Addr} {s₁ : Shared} {its all : List (Addr × Obj)} {rest : (Str → Option Value) → List (Addr × Obj) → Prop} {h' : Heap} {tk : Nat} {m' : Str → Option Value} (news' : List (Addr × Obj)) (F : Fr h₀ L h' m') (N : News h₀ L h' all)
    (hI : ∀ p ∈ its ++ news', p ∈ all) (off : ∀ p ∈ news', ∀ q ∈ its, p.1 ≠ q.1) (r : rest m' news') : UnrEndW h₀ L s₁ its rest { s₁ with heap := h', toks := tk } := ⟨h', tk, m', news', rfl, F, News.sub N hI, off, r⟩
end
end Mine
end

section
open PySem PySem.W PyProof.Rows PySem.Spec PySem.Calls Rlp
set_option Elab.async false
set_option maxRecDepth 100000
set_option maxHeartbeats 0
set_option linter.unusedVariables false
namespace Mine
theorem fillK11 : (fun (_ : OpenLaw) (_ : Params → Frag) => True) PySem.Challenge.rw_bi0020_03 K := by
  k_fill
  trivial
local macro_rules | `(tactic| walk_at "ENTER0") => `(tactic| (refine wpAny_call ?_; k_dflt (refine' code_def ?k1 ?k2 ?k3 ?k4 ?k5 ?kA ?kF ?kK ?k6 ?k7 ?k8 ?k9 ?kB ?_ ?c2 ?c3 ?c4 ?c5; (case kA => exact rfl); (case kF => exact And.right (by assumption)); (case kK => exact And.left (by assumption)); (case k1 => k_asm); (case k2 => k_asm); (case k3 => k_asm); (case k4 => k_asm); (case k5 => k_asm); (case k6 => k_is); (case k7 => k_is); (case k8 => ktr_room); (case k9 => first | exact BindsTo.of_eq rfl | exact binds_K (by k_in) rfl (by k_is) rfl rfl rfl); (case c5 => decide); (case kB => exact locs rfl); (case c2 => exact rfl); (case c3 => exact rfl); (case c4 => exact rfl); k_whole; intro g' L' h' FG' F' N' B' X' T'; (try dsimp only); (try k_fold))))
local macro_rules | `(tactic| walk_at "ENTER") => `(tactic| (walk_at "ENTER0"; k_steps))
local macro_rules | `(tactic| walk_at "bsz") => `(tactic| ((try simp only [List.size_toArray, List.length_append, List.length_cons, List.length_nil, be_length, beK_length, slice_length]); omega))
local macro_rules | `(tactic| walk_at "call builtin:len") => `(tactic| ((with_reducible show wpAny _ _ (call (Value.builtin _) [Value.bytes (List.toArray _) _]) _ _ _); refine len_bytes (by walk_at "bsz") ?_; (try simp only [List.size_toArray, be_length])))
local macro_rules | `(tactic| walk_at "binaryOp Add bytes bytes") => `(tactic| ((with_reducible show wpAny _ _ (binaryOp Operator.Add (Value.bytes (List.toArray _) _) (Value.bytes (List.toArray _) _)) _ _ _); refine KBy.add_bytes (by walk_at "bsz") ?_; intro _ _; (try simp only [List.append_toArray, List.cons_append, List.nil_append])))
local macro_rules | `(tactic| walk_at "subscriptTail") => `(tactic| ((with_reducible show wpAny _ _ (subscriptTail _ _ (Value.bytes (List.toArray _) _) (Value.ref _)) _ _ _); refine slice_int (s := ⟨_, _, _, _, _⟩) (by k_asm) (by k_asm) (by omega) (by omega) (by omega) ?_; intro _ _ _ _ _))
local macro_rules | `(tactic| walk_at "dp") => `(tactic| ((show _ + _ < _); simp only [ktr_dp, ktr_un]; omega))
local macro_rules | `(tactic| walk_at "call ref") => `(tactic| ((with_reducible show wpAny _ _ (call (Value.ref 1464) _) _ _ _); (k_dflt (refine' b2i ?k1 ?k2 ?k3 ?k4 ?k5 ?k6 ?k7 ?k8 ?k9 ?_; (case k1 => k_asm); (case k2 => k_asm); (case k3 => k_asm); (case k4 => k_asm); (case k5 => k_asm); (case k6 => exact ⟨rfl, rfl⟩); (case k7 => walk_at "dp"); (case k8 => walk_at "dp"); (case k9 => walk_at "bsz"))); intro _ _ _ _ _))
local macro_rules | `(tactic| walk_at "call ref") => `(tactic| ((with_reducible show wpAny _ _ (call (Value.ref 1736) _) _ _ _); (k_dflt (refine' clp_ok ?k1 ?k2 ?k3 ?k4 ?k5 ?k6 ?k7 ?k8 ?k9 ?k0 ?_; (case k1 => k_asm); (case k2 => k_asm); (case k3 => k_asm); (case k4 => k_asm); (case k5 => k_asm); (case k6 => exact ⟨rfl, rfl⟩); (case k7 => walk_at "dp"); (case k8 => walk_at "dp"); (case k9 => walk_at "bsz"); (case k0 => assumption))); intro _ _ _ _ _ _ _ _ _ _))
local macro_rules | `(tactic| walk_at "call ref") => `(tactic| ((with_reducible show wpAny _ _ (call (Value.ref 1457) _) _ _ _); (k_dflt (refine' is_b ?k1 ?k2 ?k3 ?k4 ?k5 ?k6 ?k7 ?k8 ?_; (case k1 => k_asm); (case k2 => k_asm); (case k3 => k_asm); (case k4 => k_asm); (case k5 => k_asm); (case k6 => exact ⟨rfl, rfl⟩); (case k7 => walk_at "dp"); (case k8 => walk_at "dp"))); intro _ _ _ _))
local macro_rules | `(tactic| walk_at "call ref") => `(tactic| ((with_reducible show wpAny _ _ (call (Value.ref 1714) _) _ _ _); (k_dflt (refine' dr_ok ?k1 ?k2 ?k3 ?k4 ?k5 ?k6 ?k7 ?k8 ?k9 ?ka ?kb ?_; (case k1 => k_asm); (case k2 => k_asm); (case k3 => k_asm); (case k4 => k_asm); (case k5 => k_asm); (case ka => assumption); (case kb => assumption); (case k6 => exact ⟨rfl, rfl⟩); (case k7 => walk_at "dp"); (case k8 => walk_at "dp"); (case k9 => assumption))); intro _ _ _ _ _ _ _ _ _ _ _ _ _ _ _))
local macro_rules | `(tactic| walk_at "call ref") => `(tactic| ((with_reducible show wpAny _ _ (call (Value.ref 1500) [Value.ref 1509, _]) _ _ _); (k_dflt (refine' des_plain ?k1 ?k2 ?k3 ?k4 ?k5 ?k6 ?k7 ?k8 ?k9 ?k0 ?_; (case k1 => k_asm); (case k2 => k_asm); (case k3 => k_asm); (case k4 => k_asm); (case k5 => k_asm); (case k6 => exact ⟨rfl, rfl⟩); (case k7 => walk_at "dp"); (case k8 => walk_at "dp"); (case k9 => walk_at "bsz"); (case k0 => assumption))); intro _ _ _ _ _))
local macro_rules | `(tactic| walk_at "call ref") => `(tactic| ((with_reducible show wpAny _ _ (call (Value.ref 1471) _) _ _ _); (k_dflt (refine' i2b ?k1 ?k2 ?k3 ?k4 ?k5 ?k6 ?k7 ?k8 ?k9 ?_; (case k1 => k_asm); (case k2 => k_asm); (case k3 => k_asm); (case k4 => k_asm); (case k5 => k_asm); (case k6 => exact ⟨rfl, rfl⟩); (case k7 => walk_at "dp"); (case k8 => walk_at "dp"); (case k9 => walk_at "bsz"))); intro _ _ _ _ _))
local macro_rules | `(tactic| k_mem) => `(tactic| (refine mem_of ?_; ktr_member))
local macro_rules | `(tactic| walk_at "call ref") => `(tactic| ((with_reducible show wpAny _ _ (call (Value.ref 1493) [Value.ref _, _]) _ _ _); (k_dflt (refine' ser_len ?k1 ?k2 ?k3 ?k4 ?k5 ?k6 ?k7 ?k8 ?k9 ?k0 ?ka ?kb ?kc ?_; (case k1 => k_asm); (case k2 => k_asm); (case k3 => k_asm); (case k4 => k_asm); (case k5 => k_asm); (case k6 => exact ⟨rfl, rfl⟩); (case k7 => walk_at "dp"); (case k8 => walk_at "dp"); (case k9 => omega); (case k0 => omega); (case ka => assumption); (case kb => k_mem); (case kc => k_mem);)); intro _ _ _ _ _))
local macro_rules | `(tactic| walk_at "exec For Tuple Call cons nil") => `(tactic| (k_here; (rename Fr _ _ _ _ => lF'); (with_unfolding_all refine' For_turns lF' ?_; k_whole)))
local macro_rules | `(tactic| walk_at "exec For Tuple Call") => `(tactic| (k_here; (rename Fr _ _ _ _ => lF'); (with_unfolding_all refine' For_turns lF' ?_; k_whole)))
theorem off_enum {I : Nat} {o1 o2 : Obj} {news : List (Addr × Obj)} (h : ∀ p ∈ news, @LT.lt Nat _ p.1 I) : ∀ p ∈ news, ∀ q ∈ [((I + 1 : Nat), o1), ((I : Nat), o2)], p.1 ≠ q.1 := by
  intro p hp q hq
  have hl := h p hp
  rcases List.mem_cons.mp hq with rfl | hq
  · exact Nat.ne_of_lt (Nat.lt_succ_of_lt hl)
  · rw [List.mem_singleton.mp hq]; exact Nat.ne_of_lt hl
theorem ints_at : ∀ {vs : List Value} {is : List Int}, IntsAre vs is → ∀ {i : Nat} {y : Value}, vs[i]? = some y → ∃ n t, is[i]? = some n ∧ y = .int n t
  | _, _, .nil, _, _, h => by simp at h
  | _, _, .cons n t r, i, y, h => by
    cases i with
    | zero => simp only [List.getElem?_cons_zero, Option.some.injEq] at h; exact ⟨n, t, rfl, h.symm⟩
    | succ i => simp only [List.getElem?_cons_succ] at h ⊢; exact ints_at r h
local macro_rules | `(tactic| k_all) => `(tactic| assumption)
section
variable {w : World} {p : Program} {loose : List Str} {mean : ExcName → Option Value} {mg mb : Str → Option Value} {dp un : Nat} {gd : Option (List Code)} {ev : Env} {outer : List Env} {A₀ : Around} {base h₀ : Heap} {L : Addr} {m : Str → Option Value} {news : List (Addr × Obj)} {s : Shared} {Q E : Value → Shared → Prop}
/-- is_sequence of a list -/
theorem is_seq {a : Addr} {vs : List Value} {n : Nat}
    (B : Below A₀ base outer h₀) (F : Fr h₀ L s.heap m) (X : (K w.params).In h₀) (N : News h₀ L s.heap news) (T : Top p loose mean mg mb h₀) (hk : ev.scope.kind = .function ∧ ev.frame = some L)
    (hd : dp + 10 < recursionLimit) (hu : un + 40 < cLine) (ha : (a, (⟨.type "list", none, .seq vs.toArray n, ⟨[]⟩⟩ : Obj)) ∈ news)
    (hret : ∀ h' tk', Fr h₀ L h' m → News h₀ L h' news → Q (.bool true) { s with heap := h', toks := tk' }) :
    wpAny (model pg w) (ktrE dp un gd ev outer) (call (.ref 1621) [.ref a]) Q E s := by
  walk_at "ENTER"
  exact hret _ _ (by k_asm) (News.sub (by k_asm) fun _ h => .tail _ h)
end
local macro_rules | `(tactic| walk_at "call ref") => `(tactic| ((with_reducible show wpAny _ _ (call (Value.ref 1621) _) _ _ _); (k_dflt (refine' is_seq ?k1 ?k2 ?k3 ?k4 ?k5 ?k6 ?k7 ?k8 ?k9 ?_; (case k1 => k_asm); (case k2 => k_asm); (case k3 => k_asm); (case k4 => k_asm); (case k5 => k_asm); (case k6 => exact ⟨rfl, rfl⟩); (case k7 => walk_at "dp"); (case k8 => walk_at "dp"); (case k9 => k_mem);)); intro _ _ _ _))
section
variable {w : World} {p : Program} {loose : List Str} {mean : ExcName → Option Value} {mg mb : Str → Option Value} {dp un : Nat} {gd : Option (List Code)} {ev : Env} {outer : List Env} {A₀ : Around} {base h₀ : Heap} {L : Addr} {m : Str → Option Value} {news : List (Addr × Obj)} {s : Shared} {Q E : Value → Shared → Prop}
theorem cl_ser {k row : Nat} {ns : List Nat} {vs : List Value} {c dc x dx nr nc nn : Nat} {kh kh1 kh2 : Int} {kt kt1 kt2 u : Tok}
    (B : Below A₀ base outer h₀) (F : Fr h₀ L s.heap m) (X : (K w.params).In h₀) (N : News h₀ L s.heap news) (T : Top p loose mean mg mb h₀) (hk : ev.scope.kind = .function ∧ ev.frame = some L)
    (hd : dp + 40 < recursionLimit) (hu : un + 100 < cLine) (hk0 : 1 ≤ k) (hk1 : k ≤ 10) (hnl : ns.length ≤ 1000000) (hns : ∀ n ∈ ns, n < 256 ^ k) (hvs : IntsAre vs (ns.map fun n : Nat => (n : Int)))
    (hrow : (row, W.listOf vs.toArray nr) ∈ news) (hc : (c, instObj 1696 dc) ∈ news) (hdc : (dc, dictOf [⟨kh1, .str (Str.ofString "element_sedes") kt1, .ref x⟩, ⟨kh2, .str (Str.ofString "max_length") kt2, .none⟩] nc) ∈ news)
    (hx : (x, instObj 1503 dx) ∈ news) (hdx : (dx, dictOf [⟨kh, .str (Str.ofString "length") kt, .int k u⟩] nn) ∈ news)
    (hret : ∀ h' tk' b Z, Fr h₀ L h' m → News h₀ L h' (Z ++ news) → (∀ p ∈ Z, ∀ r ∈ news, r.1 < p.1) → DIn Z (.ref b) (.l (ns.map fun n => .b (beK k n))) → Q (.ref b) { s with heap := h', toks := tk' }) :
    wpAny (model pg w) (ktrE dp un gd ev outer) (call (.ref 1686) [.ref c, .ref row]) Q E s := by
  walk_at "ENTER"
  rename_i g' L' _ FG B' X' T' _ _ _ FL h1 l1 h2 F' N'
  have hrl : ns.length = vs.length := by have := IntsAre.length hvs; simpa using this.symm
  refine for_enumS (σ := List Value × Nat) [Str.ofString "index", Str.ofString "element", Str.ofString "e"] (fun _ c => (FL, W.listOf c.1.toArray c.2) :: news) (fun i c => DsIn [] c.1 ((ns.take i).map fun n => D.b (beK k n))) ([], 0) (l := row) (vs := vs) (n := nr) rfl F' N' (.tail _ hrow) .nil ?_ ?_
  · intro I i y c1 u h tk T t hI hy hf hT F2 hl
    intro o1 e1 o2 e2 N2
    obtain ⟨y0, ty, hy0, rfl⟩ := ints_at hvs hy
    obtain ⟨y', hy', rfl⟩ : ∃ y' : Nat, ns[i]? = some y' ∧ y0 = (y' : Int) := by
      rw [List.getElem?_map] at hy0
      cases h9 : ns[i]? with
      | none => rw [h9] at hy0; cases hy0
      | some y' => rw [h9] at hy0; exact ⟨y', rfl, by simpa using hy0.symm⟩
    have hn9 : y' < 256 ^ k := hns _ (List.mem_of_getElem? hy')
    have hFI : FL < I := hI _ (.head _)
    have hFn : ∀ p ∈ news, p.1 ≠ FL := fun p hp => Nat.ne_of_lt (l1 p hp)
    k_steps
    have hcl : c1.1.length ≤ ns.length := by rw [DsIn.len hf, List.length_map, List.length_take]; omega
    refine append_K (D := FL) (its := c1.1.toArray) (n := c1.2) (by k_asm) (by k_asm) (.tail (Nat.ne_of_gt (Nat.lt_succ_of_lt hFI)) (.tail (Nat.ne_of_gt hFI) (.head hFn))) (fun h9 F9 N9 => ?_) (by rw [List.size_toArray, sizeLine_eq]; omega)
    k_steps
    simp only [List.push_toArray] at N9
    refine turn_end ((FL, _) :: news) F9 N9 (fun p hp => hp) ?_ ⟨⟨.tail _ hrow, trivial⟩, (c1.1 ++ [Value.bytes (beK k y').toArray _], c1.2 + 1), rfl, ?_, ?_⟩
    · exact off_enum (fun p hp => (List.mem_cons.mp hp).elim (fun e => by subst e; exact hFI) fun h => hI p (.tail _ h))
    · rw [List.take_add_one, hy', List.map_append]
      exact DsIn.snoc hf .b
    · intro z hz
      have h4 := hz
      simp only [List.contains_cons, List.contains_nil, Bool.or_false, Bool.or_eq_false_iff, beq_eq_false_iff_ne, ne_eq] at h4
      simp only [hz, h4, if_false, Bool.false_eq_true]
  · intro c1 u h tk hf F2 N2
    rw [← hrl, List.take_length] at hf
    k_steps
    rename_i kF kN _ _
    exact hret _ _ FL [(FL, _)] kF kN (fun p hp r hr => by rw [List.mem_singleton.mp hp]; exact l1 r hr) (.l (.head _) (DsIn.mono (fun p hp => (List.not_mem_nil hp).elim) hf))
end
end Mine
end

section
open PySem PySem.W PyProof.Rows PySem.Spec PySem.Calls Rlp
set_option Elab.async false
set_option maxRecDepth 100000
set_option maxHeartbeats 0
set_option linter.unusedVariables false
namespace Mine
theorem fillK12 : (fun (_ : OpenLaw) (_ : Params → Frag) => True) PySem.Challenge.rw_bi0020_03 K := by
  k_fill
  trivial
local macro_rules | `(tactic| walk_at "ENTER0") => `(tactic| (refine wpAny_call ?_; k_dflt (refine' code_def ?k1 ?k2 ?k3 ?k4 ?k5 ?kA ?kF ?kK ?k6 ?k7 ?k8 ?k9 ?kB ?_ ?c2 ?c3 ?c4 ?c5; (case kA => exact rfl); (case kF => exact And.right (by assumption)); (case kK => exact And.left (by assumption)); (case k1 => k_asm); (case k2 => k_asm); (case k3 => k_asm); (case k4 => k_asm); (case k5 => k_asm); (case k6 => k_is); (case k7 => k_is); (case k8 => ktr_room); (case k9 => first | exact BindsTo.of_eq rfl | exact binds_K (by k_in) rfl (by k_is) rfl rfl rfl); (case c5 => decide); (case kB => exact locs rfl); (case c2 => exact rfl); (case c3 => exact rfl); (case c4 => exact rfl); k_whole; intro g' L' h' FG' F' N' B' X' T'; (try dsimp only); (try k_fold))))
local macro_rules | `(tactic| walk_at "ENTER") => `(tactic| (walk_at "ENTER0"; k_steps))
local macro_rules | `(tactic| walk_at "bsz") => `(tactic| ((try simp only [List.size_toArray, List.length_append, List.length_cons, List.length_nil, be_length, beK_length, slice_length]); omega))
local macro_rules | `(tactic| walk_at "call builtin:len") => `(tactic| ((with_reducible show wpAny _ _ (call (Value.builtin _) [Value.bytes (List.toArray _) _]) _ _ _); refine len_bytes (by walk_at "bsz") ?_; (try simp only [List.size_toArray, be_length])))
local macro_rules | `(tactic| walk_at "binaryOp Add bytes bytes") => `(tactic| ((with_reducible show wpAny _ _ (binaryOp Operator.Add (Value.bytes (List.toArray _) _) (Value.bytes (List.toArray _) _)) _ _ _); refine KBy.add_bytes (by walk_at "bsz") ?_; intro _ _; (try simp only [List.append_toArray, List.cons_append, List.nil_append])))
local macro_rules | `(tactic| walk_at "subscriptTail") => `(tactic| ((with_reducible show wpAny _ _ (subscriptTail _ _ (Value.bytes (List.toArray _) _) (Value.ref _)) _ _ _); refine slice_int (s := ⟨_, _, _, _, _⟩) (by k_asm) (by k_asm) (by omega) (by omega) (by omega) ?_; intro _ _ _ _ _))
local macro_rules | `(tactic| walk_at "dp") => `(tactic| ((show _ + _ < _); simp only [ktr_dp, ktr_un]; omega))
local macro_rules | `(tactic| walk_at "call ref") => `(tactic| ((with_reducible show wpAny _ _ (call (Value.ref 1464) _) _ _ _); (k_dflt (refine' b2i ?k1 ?k2 ?k3 ?k4 ?k5 ?k6 ?k7 ?k8 ?k9 ?_; (case k1 => k_asm); (case k2 => k_asm); (case k3 => k_asm); (case k4 => k_asm); (case k5 => k_asm); (case k6 => exact ⟨rfl, rfl⟩); (case k7 => walk_at "dp"); (case k8 => walk_at "dp"); (case k9 => walk_at "bsz"))); intro _ _ _ _ _))
local macro_rules | `(tactic| walk_at "call ref") => `(tactic| ((with_reducible show wpAny _ _ (call (Value.ref 1736) _) _ _ _); (k_dflt (refine' clp_ok ?k1 ?k2 ?k3 ?k4 ?k5 ?k6 ?k7 ?k8 ?k9 ?k0 ?_; (case k1 => k_asm); (case k2 => k_asm); (case k3 => k_asm); (case k4 => k_asm); (case k5 => k_asm); (case k6 => exact ⟨rfl, rfl⟩); (case k7 => walk_at "dp"); (case k8 => walk_at "dp"); (case k9 => walk_at "bsz"); (case k0 => assumption))); intro _ _ _ _ _ _ _ _ _ _))
local macro_rules | `(tactic| walk_at "call ref") => `(tactic| ((with_reducible show wpAny _ _ (call (Value.ref 1457) _) _ _ _); (k_dflt (refine' is_b ?k1 ?k2 ?k3 ?k4 ?k5 ?k6 ?k7 ?k8 ?_; (case k1 => k_asm); (case k2 => k_asm); (case k3 => k_asm); (case k4 => k_asm); (case k5 => k_asm); (case k6 => exact ⟨rfl, rfl⟩); (case k7 => walk_at "dp"); (case k8 => walk_at "dp"))); intro _ _ _ _))
local macro_rules | `(tactic| walk_at "call ref") => `(tactic| ((with_reducible show wpAny _ _ (call (Value.ref 1714) _) _ _ _); (k_dflt (refine' dr_ok ?k1 ?k2 ?k3 ?k4 ?k5 ?k6 ?k7 ?k8 ?k9 ?ka ?kb ?_; (case k1 => k_asm); (case k2 => k_asm); (case k3 => k_asm); (case k4 => k_asm); (case k5 => k_asm); (case ka => assumption); (case kb => assumption); (case k6 => exact ⟨rfl, rfl⟩); (case k7 => walk_at "dp"); (case k8 => walk_at "dp"); (case k9 => assumption))); intro _ _ _ _ _ _ _ _ _ _ _ _ _ _ _))
local macro_rules | `(tactic| walk_at "call ref") => `(tactic| ((with_reducible show wpAny _ _ (call (Value.ref 1500) [Value.ref 1509, _]) _ _ _); (k_dflt (refine' des_plain ?k1 ?k2 ?k3 ?k4 ?k5 ?k6 ?k7 ?k8 ?k9 ?k0 ?_; (case k1 => k_asm); (case k2 => k_asm); (case k3 => k_asm); (case k4 => k_asm); (case k5 => k_asm); (case k6 => exact ⟨rfl, rfl⟩); (case k7 => walk_at "dp"); (case k8 => walk_at "dp"); (case k9 => walk_at "bsz"); (case k0 => assumption))); intro _ _ _ _ _))
local macro_rules | `(tactic| walk_at "call ref") => `(tactic| ((with_reducible show wpAny _ _ (call (Value.ref 1471) _) _ _ _); (k_dflt (refine' i2b ?k1 ?k2 ?k3 ?k4 ?k5 ?k6 ?k7 ?k8 ?k9 ?_; (case k1 => k_asm); (case k2 => k_asm); (case k3 => k_asm); (case k4 => k_asm); (case k5 => k_asm); (case k6 => exact ⟨rfl, rfl⟩); (case k7 => walk_at "dp"); (case k8 => walk_at "dp"); (case k9 => walk_at "bsz"))); intro _ _ _ _ _))
local macro_rules | `(tactic| k_mem) => `(tactic| (refine mem_of ?_; ktr_member))
local macro_rules | `(tactic| walk_at "call ref") => `(tactic| ((with_reducible show wpAny _ _ (call (Value.ref 1500) [Value.ref _, _]) _ _ _); (k_dflt (refine' des_len ?k1 ?k2 ?k3 ?k4 ?k5 ?k6 ?k7 ?k8 ?k9 ?k0 ?ka ?kb ?kc ?_; (case k1 => k_asm); (case k2 => k_asm); (case k3 => k_asm); (case k4 => k_asm); (case k5 => k_asm); (case k6 => exact ⟨rfl, rfl⟩); (case k7 => walk_at "dp"); (case k8 => walk_at "dp"); (case k9 => omega); (case k0 => omega); (case ka => assumption); (case kb => k_mem); (case kc => k_mem);)); intro _ _ _ _ _))
local macro_rules | `(tactic| walk_at "call ref") => `(tactic| ((with_reducible show wpAny _ _ (call (Value.ref 1621) _) _ _ _); (k_dflt (refine' is_seq ?k1 ?k2 ?k3 ?k4 ?k5 ?k6 ?k7 ?k8 ?k9 ?_; (case k1 => k_asm); (case k2 => k_asm); (case k3 => k_asm); (case k4 => k_asm); (case k5 => k_asm); (case k6 => exact ⟨rfl, rfl⟩); (case k7 => walk_at "dp"); (case k8 => walk_at "dp"); (case k9 => k_mem);)); intro _ _ _ _))
local macro_rules | `(tactic| walk_at "exec For Tuple Call cons nil") => `(tactic| (k_here; (rename Fr _ _ _ _ => lF'); (with_unfolding_all refine' For_turns lF' ?_; k_whole)))
local macro_rules | `(tactic| walk_at "exec For Tuple Call") => `(tactic| (k_here; (rename Fr _ _ _ _ => lF'); (with_unfolding_all refine' For_turns lF' ?_; k_whole)))
local macro_rules | `(tactic| k_all) => `(tactic| assumption)
theorem tuple_fresh {prog : Program} {w : World} {A : Around} {E : Value → Shared → Prop} {s : Shared} {h₀ : Heap} {L : Addr} {m : Str → Option Value} {news : List (Addr × Obj)} {l : Addr} {vs : List Value} {n : Nat} {Q : Value → Shared → Prop} (F : Fr h₀ L s.heap m) (N : News h₀ L s.heap news) (hl : (l, W.listOf vs.toArray n) ∈ news) (hz : vs.length ≤ sizeLine)
    (h : ∀ D h', Fr h₀ L h' m → News h₀ L h' ((D, (⟨.type "tuple", none, .seq vs.toArray 0, ⟨[]⟩⟩ : Obj)) :: news) → (∀ p ∈ news, p.1 < D) → Q (.ref D) { s with heap := h' }) : wpAny (model prog w) A (call (.type "tuple") [.ref l]) Q E s := by
  refine call_tuple_list ⟨_, (N _ hl).1, rfl, _, rfl⟩ (fun h' hk => ?_) (by rw [List.size_toArray]; exact hz)
  have F' : Fr h₀ L h' m := F.keeps hk
  have N' : News h₀ L h' news := fun p hp => ⟨hk _ _ (N p hp).1, (N p hp).2⟩
  exact h _ _ (F'.push _) (N'.push F' _) fun p hp => Heap.lt_size (N' p hp).1
local macro_rules | `(tactic| walk_at "call type:tuple") => `(tactic| ((with_reducible show wpAny _ _ (call (Value.type _) [Value.ref _]) _ _ _); k_dflt (refine' tuple_fresh (by k_asm) (by k_asm) (by k_mem) ?_ ?_; (rw [sizeLine_eq]; omega)); intro _ _ _ _ _))
theorem IntsAre.snoc' : ∀ {vs : List Value} {is : List Int}, IntsAre vs is → ∀ (n : Int) (t : Tok), IntsAre (vs ++ [.int n t]) (is ++ [n])
  | _, _, .nil, n, t => .cons n t .nil
  | _, _, .cons a b r, n, t => .cons a b (IntsAre.snoc' r n t)
section
variable {w : World} {p : Program} {loose : List Str} {mean : ExcName → Option Value} {mg mb : Str → Option Value} {dp un : Nat} {gd : Option (List Code)} {ev : Env} {outer : List Env} {A₀ : Around} {base h₀ : Heap} {L : Addr} {m : Str → Option Value} {news : List (Addr × Obj)} {s : Shared} {Q E : Value → Shared → Prop}
theorem cl_des {k row : Nat} {ys : List (List UInt8)} {vs : List Value} {c dc x dx nr nc nn : Nat} {kh kh1 kh2 : Int} {kt kt1 kt2 u : Tok}
    (B : Below A₀ base outer h₀) (F : Fr h₀ L s.heap m) (X : (K w.params).In h₀) (N : News h₀ L s.heap news) (T : Top p loose mean mg mb h₀) (hk : ev.scope.kind = .function ∧ ev.frame = some L)
    (hd : dp + 40 < recursionLimit) (hu : un + 100 < cLine) (hk0 : 1 ≤ k) (hk1 : k ≤ 10) (hnl : ys.length ≤ 1000000) (hys : ∀ y ∈ ys, y.length = k) (hvs : DsIn news vs (ys.map D.b))
    (hrow : (row, W.listOf vs.toArray nr) ∈ news) (hc : (c, instObj 1696 dc) ∈ news) (hdc : (dc, dictOf [⟨kh1, .str (Str.ofString "element_sedes") kt1, .ref x⟩, ⟨kh2, .str (Str.ofString "max_length") kt2, .none⟩] nc) ∈ news)
    (hx : (x, instObj 1503 dx) ∈ news) (hdx : (dx, dictOf [⟨kh, .str (Str.ofString "length") kt, .int k u⟩] nn) ∈ news)
    (hret : ∀ h' tk' b vs', Fr h₀ L h' m → News h₀ L h' ((b, (⟨.type "tuple", none, .seq vs'.toArray 0, ⟨[]⟩⟩ : Obj)) :: news) → (∀ p ∈ news, @LT.lt Nat _ p.1 b) → IntsAre vs' (ys.map fun y => ((ofBe y : Nat) : Int)) → Q (.ref b) { s with heap := h', toks := tk' }) :
    wpAny (model pg w) (ktrE dp un gd ev outer) (call (.ref 1693) [.ref c, .ref row]) Q E s := by
  walk_at "ENTER"
  rename_i g' L' _ FG B' X' T' _ FL h1 l1 h2 F' N'
  have hrl : ys.length = vs.length := by have := DsIn.len hvs; simpa using this.symm
  refine for_enumS (σ := List Value × Nat) [Str.ofString "index", Str.ofString "element", Str.ofString "e"] (fun _ c => (FL, W.listOf c.1.toArray c.2) :: news) (fun i c => IntsAre c.1 ((ys.take i).map fun y => ((ofBe y : Nat) : Int))) ([], 0) (l := row) (vs := vs) (n := nr) rfl F' N' (.tail _ hrow) .nil ?_ ?_
  · intro I i y c1 u h tk T t hI hy hf hT F2 hl
    intro o1 e1 o2 e2 N2
    obtain ⟨d0, hd0, hdv⟩ := DsIn.at hvs hy
    obtain ⟨y', hy', rfl⟩ : ∃ y' : List UInt8, ys[i]? = some y' ∧ d0 = D.b y' := by
      rw [List.getElem?_map] at hd0
      cases h9 : ys[i]? with
      | none => rw [h9] at hd0; cases hd0
      | some y' => rw [h9] at hd0; exact ⟨y', rfl, by simpa using hd0.symm⟩
    cases hdv
    have hn9 : y'.length = k := hys _ (List.mem_of_getElem? hy')
    have hFI : FL < I := hI _ (.head _)
    have hFn : ∀ p ∈ news, p.1 ≠ FL := fun p hp => Nat.ne_of_lt (l1 p hp)
    k_steps
    have hcl : c1.1.length ≤ ys.length := by have := IntsAre.length hf; rw [List.length_map, List.length_take] at this; omega
    refine append_K (D := FL) (its := c1.1.toArray) (n := c1.2) (by k_asm) (by k_asm) (.tail (Nat.ne_of_gt (Nat.lt_succ_of_lt hFI)) (.tail (Nat.ne_of_gt hFI) (.head hFn))) (fun h9 F9 N9 => ?_) (by rw [List.size_toArray, sizeLine_eq]; omega)
    k_steps
    simp only [List.push_toArray] at N9
    refine turn_end ((FL, _) :: news) F9 N9 (fun p hp => hp) ?_ ⟨⟨.tail _ hrow, trivial⟩, (c1.1 ++ [Value.int ((ofBe y' : Nat) : Int) _], c1.2 + 1), rfl, ?_, ?_⟩
    · exact off_enum (fun p hp => (List.mem_cons.mp hp).elim (fun e => by subst e; exact hFI) fun h => hI p (.tail _ h))
    · rw [List.take_add_one, hy', List.map_append]
      exact IntsAre.snoc' hf _ _
    · intro z hz
      have h4 := hz
      simp only [List.contains_cons, List.contains_nil, Bool.or_false, Bool.or_eq_false_iff, beq_eq_false_iff_ne, ne_eq] at h4
      simp only [hz, h4, if_false, Bool.false_eq_true]
  · intro c1 u h tk hf F2 N2
    rw [← hrl, List.take_length] at hf
    have hcl : c1.1.length ≤ 1000000 := by have := IntsAre.length hf; rw [List.length_map] at this; omega
    k_steps
    rename_i hfr kF kN _ _
    exact hret _ _ _ _ kF (News.sub kN fun q hq => (List.mem_cons.mp hq).elim (fun e => e ▸ .head _) fun h => .tail _ (.tail _ h)) (fun q hq => hfr q (.tail _ hq)) hf
end
end Mine
end

section
open PySem PySem.W PyProof.Rows PySem.Spec PySem.Calls Rlp
set_option Elab.async false
set_option maxRecDepth 100000
set_option maxHeartbeats 0
set_option linter.unusedVariables false
namespace Mine
theorem fillK13 : (fun (_ : OpenLaw) (_ : Params → Frag) => True) PySem.Challenge.rw_bi0020_03 K := by
  k_fill
  trivial
local macro_rules | `(tactic| walk_at "ENTER0") => `(tactic| (refine wpAny_call ?_; k_dflt (refine' code_def ?k1 ?k2 ?k3 ?k4 ?k5 ?kA ?kF ?kK ?k6 ?k7 ?k8 ?k9 ?kB ?_ ?c2 ?c3 ?c4 ?c5; (case kA => exact rfl); (case kF => exact And.right (by assumption)); (case kK => exact And.left (by assumption)); (case k1 => k_asm); (case k2 => k_asm); (case k3 => k_asm); (case k4 => k_asm); (case k5 => k_asm); (case k6 => k_is); (case k7 => k_is); (case k8 => ktr_room); (case k9 => first | exact BindsTo.of_eq rfl | exact binds_K (by k_in) rfl (by k_is) rfl rfl rfl); (case c5 => decide); (case kB => exact locs rfl); (case c2 => exact rfl); (case c3 => exact rfl); (case c4 => exact rfl); k_whole; intro g' L' h' FG' F' N' B' X' T'; (try dsimp only); (try k_fold))))
local macro_rules | `(tactic| walk_at "ENTER") => `(tactic| (walk_at "ENTER0"; k_steps))
local macro_rules | `(tactic| walk_at "bsz") => `(tactic| ((try simp only [List.size_toArray, List.length_append, List.length_cons, List.length_nil, be_length, beK_length, slice_length]); omega))
local macro_rules | `(tactic| walk_at "call builtin:len") => `(tactic| ((with_reducible show wpAny _ _ (call (Value.builtin _) [Value.bytes (List.toArray _) _]) _ _ _); refine len_bytes (by walk_at "bsz") ?_; (try simp only [List.size_toArray, be_length])))
local macro_rules | `(tactic| walk_at "binaryOp Add bytes bytes") => `(tactic| ((with_reducible show wpAny _ _ (binaryOp Operator.Add (Value.bytes (List.toArray _) _) (Value.bytes (List.toArray _) _)) _ _ _); refine KBy.add_bytes (by walk_at "bsz") ?_; intro _ _; (try simp only [List.append_toArray, List.cons_append, List.nil_append])))
local macro_rules | `(tactic| walk_at "subscriptTail") => `(tactic| ((with_reducible show wpAny _ _ (subscriptTail _ _ (Value.bytes (List.toArray _) _) (Value.ref _)) _ _ _); refine slice_int (s := ⟨_, _, _, _, _⟩) (by k_asm) (by k_asm) (by omega) (by omega) (by omega) ?_; intro _ _ _ _ _))
local macro_rules | `(tactic| walk_at "dp") => `(tactic| ((show _ + _ < _); simp only [ktr_dp, ktr_un]; omega))
local macro_rules | `(tactic| walk_at "call ref") => `(tactic| ((with_reducible show wpAny _ _ (call (Value.ref 1464) _) _ _ _); (k_dflt (refine' b2i ?k1 ?k2 ?k3 ?k4 ?k5 ?k6 ?k7 ?k8 ?k9 ?_; (case k1 => k_asm); (case k2 => k_asm); (case k3 => k_asm); (case k4 => k_asm); (case k5 => k_asm); (case k6 => exact ⟨rfl, rfl⟩); (case k7 => walk_at "dp"); (case k8 => walk_at "dp"); (case k9 => walk_at "bsz"))); intro _ _ _ _ _))
local macro_rules | `(tactic| walk_at "call ref") => `(tactic| ((with_reducible show wpAny _ _ (call (Value.ref 1736) _) _ _ _); (k_dflt (refine' clp_ok ?k1 ?k2 ?k3 ?k4 ?k5 ?k6 ?k7 ?k8 ?k9 ?k0 ?_; (case k1 => k_asm); (case k2 => k_asm); (case k3 => k_asm); (case k4 => k_asm); (case k5 => k_asm); (case k6 => exact ⟨rfl, rfl⟩); (case k7 => walk_at "dp"); (case k8 => walk_at "dp"); (case k9 => walk_at "bsz"); (case k0 => assumption))); intro _ _ _ _ _ _ _ _ _ _))
local macro_rules | `(tactic| walk_at "call ref") => `(tactic| ((with_reducible show wpAny _ _ (call (Value.ref 1457) _) _ _ _); (k_dflt (refine' is_b ?k1 ?k2 ?k3 ?k4 ?k5 ?k6 ?k7 ?k8 ?_; (case k1 => k_asm); (case k2 => k_asm); (case k3 => k_asm); (case k4 => k_asm); (case k5 => k_asm); (case k6 => exact ⟨rfl, rfl⟩); (case k7 => walk_at "dp"); (case k8 => walk_at "dp"))); intro _ _ _ _))
local macro_rules | `(tactic| walk_at "call ref") => `(tactic| ((with_reducible show wpAny _ _ (call (Value.ref 1714) _) _ _ _); (k_dflt (refine' dr_ok ?k1 ?k2 ?k3 ?k4 ?k5 ?k6 ?k7 ?k8 ?k9 ?ka ?kb ?_; (case k1 => k_asm); (case k2 => k_asm); (case k3 => k_asm); (case k4 => k_asm); (case k5 => k_asm); (case ka => assumption); (case kb => assumption); (case k6 => exact ⟨rfl, rfl⟩); (case k7 => walk_at "dp"); (case k8 => walk_at "dp"); (case k9 => assumption))); intro _ _ _ _ _ _ _ _ _ _ _ _ _ _ _))
local macro_rules | `(tactic| walk_at "call ref") => `(tactic| ((with_reducible show wpAny _ _ (call (Value.ref 1500) [Value.ref 1509, _]) _ _ _); (k_dflt (refine' des_plain ?k1 ?k2 ?k3 ?k4 ?k5 ?k6 ?k7 ?k8 ?k9 ?k0 ?_; (case k1 => k_asm); (case k2 => k_asm); (case k3 => k_asm); (case k4 => k_asm); (case k5 => k_asm); (case k6 => exact ⟨rfl, rfl⟩); (case k7 => walk_at "dp"); (case k8 => walk_at "dp"); (case k9 => walk_at "bsz"); (case k0 => assumption))); intro _ _ _ _ _))
local macro_rules | `(tactic| walk_at "call ref") => `(tactic| ((with_reducible show wpAny _ _ (call (Value.ref 1471) _) _ _ _); (k_dflt (refine' i2b ?k1 ?k2 ?k3 ?k4 ?k5 ?k6 ?k7 ?k8 ?k9 ?_; (case k1 => k_asm); (case k2 => k_asm); (case k3 => k_asm); (case k4 => k_asm); (case k5 => k_asm); (case k6 => exact ⟨rfl, rfl⟩); (case k7 => walk_at "dp"); (case k8 => walk_at "dp"); (case k9 => walk_at "bsz"))); intro _ _ _ _ _))
local macro_rules | `(tactic| k_mem) => `(tactic| (refine mem_of ?_; ktr_member))
local macro_rules | `(tactic| walk_at "call ref") => `(tactic| ((with_reducible show wpAny _ _ (call (Value.ref 1493) [Value.ref _, _]) _ _ _); (k_dflt (refine' ser_len ?k1 ?k2 ?k3 ?k4 ?k5 ?k6 ?k7 ?k8 ?k9 ?k0 ?ka ?kb ?kc ?_; (case k1 => k_asm); (case k2 => k_asm); (case k3 => k_asm); (case k4 => k_asm); (case k5 => k_asm); (case k6 => exact ⟨rfl, rfl⟩); (case k7 => walk_at "dp"); (case k8 => walk_at "dp"); (case k9 => omega); (case k0 => omega); (case ka => assumption); (case kb => k_mem); (case kc => k_mem);)); intro _ _ _ _ _))
local macro_rules | `(tactic| walk_at "call ref") => `(tactic| ((with_reducible show wpAny _ _ (call (Value.ref 1493) [Value.ref 1509, _]) _ _ _); (k_dflt (refine' ser_plain ?k1 ?k2 ?k3 ?k4 ?k5 ?k6 ?k7 ?k8 ?k9 ?_; (case k1 => k_asm); (case k2 => k_asm); (case k3 => k_asm); (case k4 => k_asm); (case k5 => k_asm); (case k6 => exact ⟨rfl, rfl⟩); (case k7 => walk_at "dp"); (case k8 => walk_at "dp"); (case k9 => assumption);)); intro _ _ _ _ _))
local macro_rules | `(tactic| walk_at "call ref") => `(tactic| ((with_reducible show wpAny _ _ (call (Value.ref 1500) [Value.ref _, _]) _ _ _); (k_dflt (refine' des_len ?k1 ?k2 ?k3 ?k4 ?k5 ?k6 ?k7 ?k8 ?k9 ?k0 ?ka ?kb ?kc ?_; (case k1 => k_asm); (case k2 => k_asm); (case k3 => k_asm); (case k4 => k_asm); (case k5 => k_asm); (case k6 => exact ⟨rfl, rfl⟩); (case k7 => walk_at "dp"); (case k8 => walk_at "dp"); (case k9 => omega); (case k0 => omega); (case ka => assumption); (case kb => k_mem); (case kc => k_mem);)); intro _ _ _ _ _))
local macro_rules | `(tactic| walk_at "call ref") => `(tactic| ((with_reducible show wpAny _ _ (call (Value.ref 1707) [Value.bytes _ _]) _ _ _); (k_dflt (refine' er_b ?k1 ?k2 ?k3 ?k4 ?k5 ?k6 ?k7 ?k8 ?k9 ?_; (case k1 => k_asm); (case k2 => k_asm); (case k3 => k_asm); (case k4 => k_asm); (case k5 => k_asm); (case k6 => exact ⟨rfl, rfl⟩); (case k7 => walk_at "dp"); (case k8 => walk_at "dp"); (case k9 => assumption);)); intro _ _ _ _ _))
local macro_rules | `(tactic| walk_at "call ref") => `(tactic| ((with_reducible show wpAny _ _ (call (Value.ref 1686) _) _ _ _); (k_dflt (refine' cl_ser (k := _) ?k1 ?k2 ?k3 ?k4 ?k5 ?k6 ?k7 ?k8 ?k9 ?k0 ?ka ?kb ?kc ?kd ?ke ?kf ?kg ?kh ?_; (case k1 => k_asm); (case k2 => k_asm); (case k3 => k_asm); (case k4 => k_asm); (case k5 => k_asm); (case k6 => exact ⟨rfl, rfl⟩); (case k7 => walk_at "dp"); (case k8 => walk_at "dp"); (case k9 => omega); (case k0 => omega); (case ka => assumption); (case kb => assumption); (case kc => assumption); (case kd => k_mem); (case ke => k_mem); (case kf => k_mem); (case kg => k_mem); (case kh => k_mem);)); intro _ _ _ _ _ _ _ _))
local macro_rules | `(tactic| walk_at "call ref") => `(tactic| ((with_reducible show wpAny _ _ (call (Value.ref 1457) _) _ _ _); (k_dflt (refine' is_b ?k1 ?k2 ?k3 ?k4 ?k5 ?k6 ?k7 ?k8 ?_; (case k1 => k_asm); (case k2 => k_asm); (case k3 => k_asm); (case k4 => k_asm); (case k5 => k_asm); (case k6 => exact ⟨rfl, rfl⟩); (case k7 => walk_at "dp"); (case k8 => walk_at "dp");)); intro _ _ _ _))
local macro_rules | `(tactic| walk_at "call ref") => `(tactic| ((with_reducible show wpAny _ _ (call (Value.ref 1714) _) _ _ _); (k_dflt (refine' dr_ok ?k1 ?k2 ?k3 ?k4 ?k5 ?k6 ?k7 ?k8 ?k9 ?ka ?kb ?_; (case k1 => k_asm); (case k2 => k_asm); (case k3 => k_asm); (case k4 => k_asm); (case k5 => k_asm); (case ka => assumption); (case kb => assumption); (case k6 => exact ⟨rfl, rfl⟩); (case k7 => walk_at "dp"); (case k8 => walk_at "dp"); (case k9 => assumption))); intro _ _ _ _ _ _ _ _ _ _ _ _ _ _ _))
section
variable {w : World} {p : Program} {loose : List Str} {mean : ExcName → Option Value} {mg mb : Str → Option Value} {dp un : Nat} {gd : Option (List Code)} {ev : Env} {outer : List Env} {A₀ : Around} {base h₀ : Heap} {L : Addr} {m : Str → Option Value} {news : List (Addr × Obj)} {s : Shared} {Q E : Value → Shared → Prop}
theorem en_plain {n : Nat} {t : Tok}
    (B : Below A₀ base outer h₀) (F : Fr h₀ L s.heap m) (X : (K w.params).In h₀) (N : News h₀ L s.heap news) (T : Top p loose mean mg mb h₀) (hk : ev.scope.kind = .function ∧ ev.frame = some L)
    (hd : dp + 50 < recursionLimit) (hu : un + 120 < cLine) (hn : octs n ≤ 2 ^ 23) (hz : (ser0 n).length < 2 ^ 23)
    (hret : ∀ h' tk' tk, Fr h₀ L h' m → News h₀ L h' news → Q (.bytes (enc (.b (ser0 n))).toArray tk) { s with heap := h', toks := tk' }) :
    wpAny (model pg w) (ktrE dp un gd ev outer) (call (.ref 1722) [.int n t, .ref 1509]) Q E s := by
  walk_at "ENTER"
  exact hret _ _ _ (by k_asm) (by k_asm)
theorem en_len {n k : Nat} {t u : Tok} {x dx : Addr} {kh : Int} {kt : Tok} {nn : Nat}
    (B : Below A₀ base outer h₀) (F : Fr h₀ L s.heap m) (X : (K w.params).In h₀) (N : News h₀ L s.heap news) (T : Top p loose mean mg mb h₀) (hk : ev.scope.kind = .function ∧ ev.frame = some L)
    (hd : dp + 50 < recursionLimit) (hu : un + 120 < cLine) (hk0 : 1 ≤ k) (hk1 : k ≤ 10) (hx : (x, instObj 1503 dx) ∈ news) (hdx : (dx, dictOf [⟨kh, .str (Str.ofString "length") kt, .int k u⟩] nn) ∈ news) (hn : n < 256 ^ k) (hz : (beK k n).length < 2 ^ 23)
    (hret : ∀ h' tk' tk, Fr h₀ L h' m → News h₀ L h' news → Q (.bytes (enc (.b (beK k n))).toArray tk) { s with heap := h', toks := tk' }) :
    wpAny (model pg w) (ktrE dp un gd ev outer) (call (.ref 1722) [.int n t, .ref x]) Q E s := by
  walk_at "ENTER"
  exact hret _ _ _ (by k_asm) (by k_asm)
theorem de_len {y z r : List UInt8} {dep e k : Nat} {t u : Tok} {x dx : Addr} {kh : Int} {kt : Tok} {nn : Nat}
    (B : Below A₀ base outer h₀) (F : Fr h₀ L s.heap m) (X : (K w.params).In h₀) (N : News h₀ L s.heap news) (T : Top p loose mean mg mb h₀) (hk : ev.scope.kind = .function ∧ ev.frame = some L)
    (hd : dp + 60 + 2 * dep < recursionLimit) (hu : un + 140 + 10 * dep < cLine) (hk0 : 1 ≤ k) (hk1 : k ≤ 10) (hx : (x, instObj 1503 dx) ∈ news) (hdx : (dx, dictOf [⟨kh, .str (Str.ofString "length") kt, .int k u⟩] nn) ∈ news) (hz : z.length < 2 ^ 23) (hi : item z dep 0 = .ok (.b y, r, e)) (he : e = z.length ∨ true = false) (hy : y.length = k)
    (hret : ∀ h' tk' tk, Fr h₀ L h' m → News h₀ L h' news → Q (.int (ofBe y : Nat) tk) { s with heap := h', toks := tk' }) :
    wpAny (model pg w) (ktrE dp un gd ev outer) (call (.ref 1758) [.bytes z.toArray t, .ref x]) Q E s := by
  walk_at "ENTER"
  rename DIn _ _ _ => hv
  cases hv
  k_steps
  exact hret _ _ _ (by k_asm) (News.sub (by k_asm) fun _ h => List.mem_append_right _ h)
theorem en_count {k row : Nat} {ns : List Nat} {vs : List Value} {ps : Array Value} {c dc x dx nr nc nn : Nat} {kh kh1 kh2 : Int} {kt kt1 kt2 u : Tok}
    (B : Below A₀ base outer h₀) (F : Fr h₀ L s.heap m) (X : (K w.params).In h₀) (N : News h₀ L s.heap ((1702, tabObj ps) :: news)) (T : Top p loose mean mg mb h₀) (hk : ev.scope.kind = .function ∧ ev.frame = some L)
    (hd : dp + 100 < recursionLimit) (hu : un + 300 < cLine) (hk0 : 1 ≤ k) (hk1 : k ≤ 10) (hx : (x, instObj 1503 dx) ∈ news) (hdx : (dx, dictOf [⟨kh, .str (Str.ofString "length") kt, .int k u⟩] nn) ∈ news) (hnl : ns.length ≤ 1000000) (hns : ∀ n ∈ ns, n < 256 ^ k) (hvs : IntsAre vs (ns.map fun n : Nat => (n : Int)))
    (hrow : (row, W.listOf vs.toArray nr) ∈ news) (hc : (c, instObj 1696 dc) ∈ news) (hdc : (dc, dictOf [⟨kh1, .str (Str.ofString "element_sedes") kt1, .ref x⟩, ⟨kh2, .str (Str.ofString "max_length") kt2, .none⟩] nc) ∈ news)
    (hps : TriplesOk ps.toList) (h17 : ∀ p ∈ news, p.1 ≠ 1702) (hz : (enc (.l (ns.map fun n => .b (beK k n)))).length < 2 ^ 23)
    (hret : ∀ h' gs' tk' tk ps', Fr h₀ L h' m → News h₀ L h' ((1702, tabObj ps') :: news) → GC s.gens gs' → TriplesOk ps'.toList → Q (.bytes (enc (.l (ns.map fun n => .b (beK k n)))).toArray tk) { s with heap := h', gens := gs', toks := tk' }) :
    wpAny (model pg w) (ktrE dp un gd ev outer) (call (.ref 1722) [.ref row, .ref c]) Q E s := by
  walk_at "ENTER"
  rename_i g' L' _ FG B' X' T' _ _ _ b Z hZ hdin _ F' N'
  have hdep : (D.l (ns.map fun n => D.b (beK k n))).depth < 2 := by
    have : depths (ns.map fun n => D.b (beK k n)) = 0 := by
      clear hz hret hdin hvs hns hnl
      induction ns with
      | nil => rfl
      | cons a r ih => rw [List.map_cons]; unfold depths; rw [ih]; rfl
    unfold D.depth
    omega
  k_dflt (refine' er_call (er_all _ 2) (ps := ps) (d := D.l (ns.map fun n => D.b (beK k n))) (news := Z ++ news) ?k1 ?k2 ?k3 ?k4 ?k5 ?k6 ?k7 ?k8 hps ?k9 (DIn.mono (fun p hp => List.mem_append_left _ hp) hdin) hdep hz ?_; (case k1 => k_asm); (case k2 => k_asm); (case k3 => k_asm); (case k4 => exact News.sub N' (fun q hq => by
    rcases List.mem_cons.mp hq with h | h
    · exact List.mem_append_right _ (h ▸ List.mem_cons_self ..)
    · exact (List.mem_append.mp h).elim (fun h => List.mem_append_left _ h) fun h => List.mem_append_right _ (.tail _ h))); (case k5 => k_asm); (case k6 => exact ⟨rfl, rfl⟩); (case k7 => walk_at "dp"); (case k8 => walk_at "dp"); (case k9 => exact fun q hq => (List.mem_append.mp hq).elim (fun h => Nat.ne_of_gt (hZ q h _ (List.mem_cons_self ..))) (h17 q)))
  intro h' gs' tk' tk ps' F9 N9 hgc htr hsame
  k_steps
  exact hret _ _ _ _ ps' (by k_asm) (News.sub (by k_asm) fun q hq => by
    rcases List.mem_cons.mp hq with h | h
    · exact h ▸ List.mem_cons_self ..
    · exact .tail _ (List.mem_append_right _ h)) hgc htr
theorem de_count {z r : List UInt8} {ys : List (List UInt8)} {dep e k : Nat} {c dc x dx nc nn : Nat} {kh kh1 kh2 : Int} {kt kt1 kt2 u t : Tok}
    (B : Below A₀ base outer h₀) (F : Fr h₀ L s.heap m) (X : (K w.params).In h₀) (N : News h₀ L s.heap news) (T : Top p loose mean mg mb h₀) (hk : ev.scope.kind = .function ∧ ev.frame = some L)
    (hd : dp + 100 + 2 * dep < recursionLimit) (hu : un + 300 + 10 * dep < cLine) (hk0 : 1 ≤ k) (hk1 : k ≤ 10) (hx : (x, instObj 1503 dx) ∈ news) (hdx : (dx, dictOf [⟨kh, .str (Str.ofString "length") kt, .int k u⟩] nn) ∈ news) (hnl : ys.length ≤ 1000000) (hys : ∀ y ∈ ys, y.length = k) (hc : (c, instObj 1696 dc) ∈ news) (hdc : (dc, dictOf [⟨kh1, .str (Str.ofString "element_sedes") kt1, .ref x⟩, ⟨kh2, .str (Str.ofString "max_length") kt2, .none⟩] nc) ∈ news)
    (hz : z.length < 2 ^ 23) (hi : item z dep 0 = .ok (.l (ys.map D.b), r, e)) (he : e = z.length ∨ true = false)
    (hret : ∀ h' tk' b vs', Fr h₀ L h' m → News h₀ L h' ((b, (⟨.type "tuple", none, .seq vs'.toArray 0, ⟨[]⟩⟩ : Obj)) :: news) → (∀ p ∈ news, @LT.lt Nat _ p.1 b) → IntsAre vs' (ys.map fun y => ((ofBe y : Nat) : Int)) → Q (.ref b) { s with heap := h', toks := tk' }) :
    wpAny (model pg w) (ktrE dp un gd ev outer) (call (.ref 1758) [.bytes z.toArray t, .ref c]) Q E s := by
  walk_at "ENTER"
  rename DIn _ _ _ => hv
  cases hv with
  | l ha hvs =>
  k_steps
  k_dflt (refine' cl_des (k := k) (ys := ys) ?k1 ?k2 ?k3 ?k4 ?k5 ?k6 ?k7 ?k8 ?k9 ?k0 hnl hys ?ka ?kb ?kc ?kd ?ke ?kf ?_; (case k1 => k_asm); (case k2 => k_asm); (case k3 => k_asm); (case k4 => k_asm); (case k5 => k_asm); (case k6 => exact ⟨rfl, rfl⟩); (case k7 => walk_at "dp"); (case k8 => walk_at "dp"); (case k9 => exact hk0); (case k0 => exact hk1); (case ka => exact DsIn.mono (fun p hp => List.mem_append_left _ hp) hvs); (case kb => exact List.mem_append_left _ ha); (case kc => exact List.mem_append_right _ hc); (case kd => exact List.mem_append_right _ hdc); (case ke => exact List.mem_append_right _ hx); (case kf => exact List.mem_append_right _ hdx))
  intro h9 tk9 b9 vs9 F9 N9 hfr hi9
  k_steps
  exact hret _ _ _ _ (by k_asm) (News.sub (by k_asm) fun q hq => by
    rcases List.mem_cons.mp hq with rfl | h
    · exact List.mem_cons_self ..
    · exact .tail _ (List.mem_append_right _ h)) (fun q hq => hfr q (List.mem_append_right _ hq)) hi9
end
end Mine
end

section
open PySem PySem.W PyProof.Rows PySem.Spec PySem.Calls Rlp
set_option Elab.async false
set_option maxRecDepth 100000
set_option maxHeartbeats 0
set_option linter.unusedVariables false
namespace Mine
theorem fillK14 : (fun (_ : OpenLaw) (_ : Params → Frag) => True) PySem.Challenge.rw_bi0020_03 K := by
  k_fill
  trivial
local macro_rules | `(tactic| walk_at "ENTER0") => `(tactic| (refine wpAny_call ?_; k_dflt (refine' code_def ?k1 ?k2 ?k3 ?k4 ?k5 ?kA ?kF ?kK ?k6 ?k7 ?k8 ?k9 ?kB ?_ ?c2 ?c3 ?c4 ?c5; (case kA => exact rfl); (case kF => exact And.right (by assumption)); (case kK => exact And.left (by assumption)); (case k1 => k_asm); (case k2 => k_asm); (case k3 => k_asm); (case k4 => k_asm); (case k5 => k_asm); (case k6 => k_is); (case k7 => k_is); (case k8 => ktr_room); (case k9 => first | exact BindsTo.of_eq rfl | exact binds_K (by k_in) rfl (by k_is) rfl rfl rfl); (case c5 => decide); (case kB => exact locs rfl); (case c2 => exact rfl); (case c3 => exact rfl); (case c4 => exact rfl); k_whole; intro g' L' h' FG' F' N' B' X' T'; (try dsimp only); (try k_fold))))
local macro_rules | `(tactic| walk_at "ENTER") => `(tactic| (walk_at "ENTER0"; k_steps))
local macro_rules | `(tactic| walk_at "bsz") => `(tactic| ((try simp only [List.size_toArray, List.length_append, List.length_cons, List.length_nil, be_length, beK_length, slice_length]); omega))
local macro_rules | `(tactic| walk_at "call builtin:len") => `(tactic| ((with_reducible show wpAny _ _ (call (Value.builtin _) [Value.bytes (List.toArray _) _]) _ _ _); refine len_bytes (by walk_at "bsz") ?_; (try simp only [List.size_toArray, be_length])))
local macro_rules | `(tactic| walk_at "binaryOp Add bytes bytes") => `(tactic| ((with_reducible show wpAny _ _ (binaryOp Operator.Add (Value.bytes (List.toArray _) _) (Value.bytes (List.toArray _) _)) _ _ _); refine KBy.add_bytes (by walk_at "bsz") ?_; intro _ _; (try simp only [List.append_toArray, List.cons_append, List.nil_append])))
local macro_rules | `(tactic| walk_at "subscriptTail") => `(tactic| ((with_reducible show wpAny _ _ (subscriptTail _ _ (Value.bytes (List.toArray _) _) (Value.ref _)) _ _ _); refine slice_int (s := ⟨_, _, _, _, _⟩) (by k_asm) (by k_asm) (by omega) (by omega) (by omega) ?_; intro _ _ _ _ _))
local macro_rules | `(tactic| walk_at "dp") => `(tactic| ((show _ + _ < _); simp only [ktr_dp, ktr_un]; omega))
local macro_rules | `(tactic| walk_at "call ref") => `(tactic| ((with_reducible show wpAny _ _ (call (Value.ref 1464) _) _ _ _); (k_dflt (refine' b2i ?k1 ?k2 ?k3 ?k4 ?k5 ?k6 ?k7 ?k8 ?k9 ?_; (case k1 => k_asm); (case k2 => k_asm); (case k3 => k_asm); (case k4 => k_asm); (case k5 => k_asm); (case k6 => exact ⟨rfl, rfl⟩); (case k7 => walk_at "dp"); (case k8 => walk_at "dp"); (case k9 => walk_at "bsz"))); intro _ _ _ _ _))
local macro_rules | `(tactic| walk_at "call ref") => `(tactic| ((with_reducible show wpAny _ _ (call (Value.ref 1736) _) _ _ _); (k_dflt (refine' clp_ok ?k1 ?k2 ?k3 ?k4 ?k5 ?k6 ?k7 ?k8 ?k9 ?k0 ?_; (case k1 => k_asm); (case k2 => k_asm); (case k3 => k_asm); (case k4 => k_asm); (case k5 => k_asm); (case k6 => exact ⟨rfl, rfl⟩); (case k7 => walk_at "dp"); (case k8 => walk_at "dp"); (case k9 => walk_at "bsz"); (case k0 => assumption))); intro _ _ _ _ _ _ _ _ _ _))
local macro_rules | `(tactic| walk_at "call ref") => `(tactic| ((with_reducible show wpAny _ _ (call (Value.ref 1457) _) _ _ _); (k_dflt (refine' is_b ?k1 ?k2 ?k3 ?k4 ?k5 ?k6 ?k7 ?k8 ?_; (case k1 => k_asm); (case k2 => k_asm); (case k3 => k_asm); (case k4 => k_asm); (case k5 => k_asm); (case k6 => exact ⟨rfl, rfl⟩); (case k7 => walk_at "dp"); (case k8 => walk_at "dp"))); intro _ _ _ _))
local macro_rules | `(tactic| walk_at "call ref") => `(tactic| ((with_reducible show wpAny _ _ (call (Value.ref 1714) _) _ _ _); (k_dflt (refine' dr_ok ?k1 ?k2 ?k3 ?k4 ?k5 ?k6 ?k7 ?k8 ?k9 ?ka ?kb ?_; (case k1 => k_asm); (case k2 => k_asm); (case k3 => k_asm); (case k4 => k_asm); (case k5 => k_asm); (case ka => assumption); (case kb => assumption); (case k6 => exact ⟨rfl, rfl⟩); (case k7 => walk_at "dp"); (case k8 => walk_at "dp"); (case k9 => assumption))); intro _ _ _ _ _ _ _ _ _ _ _ _ _ _ _))
local macro_rules | `(tactic| walk_at "call ref") => `(tactic| ((with_reducible show wpAny _ _ (call (Value.ref 1500) [Value.ref 1509, _]) _ _ _); (k_dflt (refine' des_plain ?k1 ?k2 ?k3 ?k4 ?k5 ?k6 ?k7 ?k8 ?k9 ?k0 ?_; (case k1 => k_asm); (case k2 => k_asm); (case k3 => k_asm); (case k4 => k_asm); (case k5 => k_asm); (case k6 => exact ⟨rfl, rfl⟩); (case k7 => walk_at "dp"); (case k8 => walk_at "dp"); (case k9 => walk_at "bsz"); (case k0 => assumption))); intro _ _ _ _ _))
local macro_rules | `(tactic| walk_at "call ref") => `(tactic| ((with_reducible show wpAny _ _ (call (Value.ref 1471) _) _ _ _); (k_dflt (refine' i2b ?k1 ?k2 ?k3 ?k4 ?k5 ?k6 ?k7 ?k8 ?k9 ?_; (case k1 => k_asm); (case k2 => k_asm); (case k3 => k_asm); (case k4 => k_asm); (case k5 => k_asm); (case k6 => exact ⟨rfl, rfl⟩); (case k7 => walk_at "dp"); (case k8 => walk_at "dp"); (case k9 => walk_at "bsz"))); intro _ _ _ _ _))
section
variable {w : World} {p : Program} {loose : List Str} {mean : ExcName → Option Value} {mg mb : Str → Option Value} {dp un : Nat} {gd : Option (List Code)} {ev : Env} {outer : List Env} {A₀ : Around} {base h₀ : Heap} {L : Addr} {m : Str → Option Value} {news : List (Addr × Obj)} {s : Shared} {Q E : Value → Shared → Prop}
/-- the k-th number of the script, or another -/
theorem lawat {scr : Addr} {vs : List Value} {is : List Int} {k : Nat} {d : Int} {t u : Tok}
    (B : Below A₀ base outer h₀) (F : Fr h₀ L s.heap m) (X : (K w.params).In h₀) (N : News h₀ L s.heap news) (T : Top p loose mean mg mb h₀) (hk : ev.scope.kind = .function ∧ ev.frame = some L)
    (hd : dp + 10 < recursionLimit) (hu : un + 40 < cLine) (hL : h₀.IsList scr vs.toArray) (hI : IntsAre vs is) (hlen : is.length ≤ 63)
    (hret : ∀ h' tk' tk, Fr h₀ L h' m → News h₀ L h' news → Q (.int (is.getD k d) tk) { s with heap := h', toks := tk' }) :
    wpAny (model pg w) (ktrE dp un gd ev outer) (call (.ref 1770) [.ref scr, .int k t, .int d u]) Q E s := by
  have hvl := IntsAre.length hI
  walk_at "ENTER0"
  rename_i g' L' h' FG F' N' B' X' T'
  have hL2 : g'.IsList scr vs.toArray := let ⟨o, ho, r⟩ := hL; ⟨o, FG.keep _ _ ho, r⟩
  k_steps
  · have hlt : k < is.length := by omega
    have e : is.getD k d = is.getD (Int.toNat (k : Int)) 0 := by
      rw [Int.toNat_natCast]
      simp only [List.getD_eq_getElem?_getD, List.getElem?_eq_getElem hlt, Option.getD_some]
    rw [← e]
    exact hret _ _ _ (by k_asm) (by k_asm)
  · have hge : is.length ≤ k := by omega
    have e : is.getD k d = d := by
      simp only [List.getD_eq_getElem?_getD, List.getElem?_eq_none hge, Option.getD_none]
    rw [e] at hret
    exact hret _ _ _ (by k_asm) (by k_asm)
end
end Mine
end

section
open PySem PySem.W PyProof.Rows PySem.Spec PySem.Calls Rlp
set_option Elab.async false
set_option maxRecDepth 100000
set_option maxHeartbeats 0
set_option linter.unusedVariables false
namespace Mine
/-- how a law's walk ends well: true, the old heap but for the grown tables, generators bare -/
def LawGood (s₁ : Shared) (tabs : List (Addr × Addr)) (r : Result) (s' : Shared) : Prop :=
  r = .ok (.ret (.bool true)) ∧ (∀ b o, (ghostOf s₁.heap tabs).get? b = some o → s'.heap.get? b = some o) ∧ GrownAll tabs s'.heap ∧ s'.os = s₁.os ∧ AllBare s'.gens
theorem law_post {M : Model} {A : Around} {cd : Code} {s s₁ : Shared} {cw : ClaimW} {cl : Str → Option Addr} {mean : ExcName → Option Value} {args : List WData} {tabs : List (Addr × Addr)} (hT : TabsAt tabs s₁.heap) (hr : ∀ a x, cw.raises a x = false)
    (hp : cw.post args (.bool true) args = true) (h : codeAny M A cd (LawGood s₁ tabs) s) : codeAny M A cd (GoodWG cw cl mean args s₁) s :=
  codeAny_mono h fun r s' ⟨hc, hk, hgr, hos, hg⟩ => by
    subst hc
    have keep : ∀ b o, b ∉ tabs.map (·.2) → s₁.heap.get? b = some o → s'.heap.get? b = some o := fun b o hb e => hk b o (ghost_ne e hb)
    have grown : ∀ b o, b ∈ tabs.map (·.2) → s₁.heap.get? b = some o → isCodeTable s₁.heap b ∧ o = W.tabObj #[] ∧ ∃ ps, s'.heap.get? b = some (W.tabObj ps) := fun b o hb e => by
      obtain ⟨q, hq, rfl⟩ := List.mem_map.mp hb
      have e2 := (hT q hq).2
      rw [e] at e2
      exact ⟨((hT q hq).1.tab (hT q hq).2).isCodeTable, Option.some.inj e2, hgr.get q hq⟩
    refine ⟨.inl ⟨.bool true, .bool true, [], rfl, hr args, .bool true, hp, fun _ => ⟨.nil, fun _ ha => nomatch ha⟩⟩, ⟨fun b o e => ?_, fun b o e => ?_⟩, hos, hg⟩
    · by_cases hb : b ∈ tabs.map (·.2)
      · obtain ⟨ht, rfl, ps, hP⟩ := grown b o hb e
        exact .inr (.inl ⟨ht, rfl, #[], ps, rfl, by rw [Array.empty_append]; exact hP⟩)
      · exact .inl (keep b o hb e)
    · by_cases hb : b ∈ tabs.map (·.2)
      · obtain ⟨_, _, ps, hP⟩ := grown b o hb e
        exact ⟨_, hP⟩
      · exact ⟨o, keep b o hb e⟩
end Mine
end

section
set_option maxRecDepth 100000
set_option linter.unusedVariables false
set_option Elab.async false
open PySem PySem.W PyProof.Rows PySem.Spec PySem.Calls
namespace Mine
section
variable {prog : Program} {w : World} {A : Around} {h₀ : Heap} {L : Addr} {m : Str → Option Value} {env : Env} {elt : Expr} {x : Str} {scope : Scope} {cl : List (Str × Addr)} {s : Shared} {S : List (Addr × Obj) → Prop} {P : Nat → Value → Prop} {Fin : List Value → List (Addr × Obj) → Prop} {news : List (Addr × Obj)}
theorem comp_rest {n : Nat} (Good : Nat → List Value → List (Addr × Obj) → Prop)
    (turn : ∀ i v I oI C oC D m₂ ys nw h tk (E' : Value → Shared → Prop), i < n → P i v → Good i ys nw → LCg.NsObj oC m₂ → m₂ x = some v → Fr h₀ L h m → News h₀ L h ((I, oI) :: (C, oC) :: (D, LCg.lst ys) :: nw) → LCg.Off3 I C D nw → ((@Ne Nat I C) ∧ (@Ne Nat I D) ∧ (@Ne Nat C D)) →
      wpAny (model prog w) A (eval elt (compEnvC scope cl C env)) (LCg.CompEnd h₀ L m { s with heap := h, toks := tk } I oI C oC D (LCg.lst ys) S (fun y nw' => Good (i + 1) (ys ++ [y]) nw')) E' { s with heap := h, toks := tk })
    (fin : ∀ ys nw, Good n ys nw → Fin ys nw) : ∀ k i ys nw, i + k = n → Good i ys nw → LCg.CompRest prog w A h₀ L m env elt x scope cl s S P Fin k i ys nw := by
  intro k
  induction k with
  | zero => intro i ys nw hi hg; rw [show i = n by omega] at hg; exact LCg.CompRest.zero (fin ys nw hg)
  | succ k ih =>
    intro i ys nw hi hg
    refine LCg.CompRest.succ ?_
    intro v I oI C oC D m₂ h tk E' hv hC hx F N off ne
    refine wpAny_mono (turn i v I oI C oC D m₂ ys nw h tk E' (by omega) hv hg hC hx F N off ne) (fun y s₂ hq => ?_) fun _ _ e => e
    obtain ⟨h', tk', nw', e, F', N', off', hS, hg'⟩ := hq
    exact ⟨h', tk', nw', e, F', N', off', hS, ih (i + 1) _ nw' (by omega) hg'⟩
end
theorem kst_name {m : Str → Option Value} {ps : List (Str × Value)} (h : ∀ p ∈ ps, m p.1 = some p.2) : m = kstB m ps := by
  funext y
  exact (kstB_eq h fun _ => rfl).symm
end Mine
end

section
set_option maxRecDepth 100000
set_option linter.unusedVariables false
set_option Elab.async false
open PySem PySem.W PyProof.Rows PySem.Spec PySem.Calls
namespace Mine
open Builtin
/-- the order of octets, the first that differs decides -/
def blt : List UInt8 → List UInt8 → Bool
  | [], [] => false
  | [], _ :: _ => true
  | _ :: _, [] => false
  | a :: x, b :: y => if a.toNat < b.toNat then true else if b.toNat < a.toNat then false else blt x y
theorem slot_bytes_lt : Slot "bytes" (cmpInfo .Lt).2.1 "bytes.__lt__" :=
  .of (owner := "bytes") (n := "__lt__") (by rw [typeLookup_type, builtinLookup_eq_fast]; kernel_rfl) (by decide +kernel) (by decide +kernel) (by decide +kernel)
    (by first | exact .inl (by decide +kernel) | exact .inr (by decide +kernel)) (by rw [isSubtype_type]; kernel_rfl)
theorem entry_bytes_lt : entryFor table "bytes.__lt__" = some Builtin.«bytes.__lt__» := entryFor_of_tree (by kernel_rfl)
theorem args_bytes_lt_2 (a b : Value) : argsOk "bytes.__lt__" ⟨[a, b], []⟩ := by
  unfold argsOk; rw [signature?_of (id := "bytes.__lt__") (n := ['_', '_', 't', 'l', '_', '_']) (o := ['s', 'e', 't', 'y', 'b']) (by kernel_rfl) FB.owner_bytes]; kernel_rfl
theorem order_lt : ∀ (a b : List UInt8), Bytes.holds "__lt__" (Bytes.order a b) = blt a b
  | [], [] => rfl
  | [], _ :: _ => rfl
  | _ :: _, [] => rfl
  | a :: x, b :: y => by
    unfold blt Bytes.order
    by_cases h1 : a < b
    · have h1' : a.toNat < b.toNat := UInt8.lt_iff_toNat_lt.mp h1
      simp only [h1, if_true, h1']
      rfl
    · have h1' : ¬ a.toNat < b.toNat := fun h => h1 (UInt8.lt_iff_toNat_lt.mpr h)
      by_cases h2 : b < a
      · have h2' : b.toNat < a.toNat := UInt8.lt_iff_toNat_lt.mp h2
        simp only [h1, if_false, h1', h2, if_true, h2']
        rfl
      · have h2' : ¬ b.toNat < a.toNat := fun h => h2 (UInt8.lt_iff_toNat_lt.mpr h)
        simp only [h1, if_false, h1', h2, h2']
        exact order_lt x y
theorem gives_bytes_lt (b c : Array UInt8) (t u : Tok) : Gives («bytes.__lt__» ⟨[.bytes b t, .bytes c u], []⟩) (.val (.bool (blt b.toList c.toList))) := by
  refine .of_wp fun M A E s Q hq => ?_
  show wpAny M A (isInstance (.bytes c u) (.type "bytes") >>= fun r => _) _ E s
  refine wpAny_bind (wpAny_isInstance (typeIs_bytes s c u) F.sub_bytes_bytes ?_)
  exact wpAny_pure ⟨_, rfl, by rw [← order_lt] at hq; exact hq⟩
section
variable {prog : Program} {w : World} {A : Around} {E : Value → Shared → Prop} {s : Shared} {b c : List UInt8} {t u : Tok}
theorem lt_bytes {Q : Value → Shared → Prop} (h : Q (.bool (blt b c)) s) : wpAny (model prog w) A (compareOp .Lt (.bytes b.toArray t) (.bytes c.toArray u)) Q E s :=
  compareOp_gives (op := .Lt) (typeIs_bytes s _ t) (typeIs_bytes s _ u) slot_bytes_lt entry_bytes_lt (args_bytes_lt_2 _ _) (gives_bytes_lt _ _ t u) (fun e => nomatch e) h
end
end Mine
end

section
open PySem PySem.W PyProof.Rows PySem.Spec PySem.Calls Rlp
set_option Elab.async false
set_option maxRecDepth 100000
set_option maxHeartbeats 0
set_option linter.unusedVariables false
namespace Mine
theorem fillLS3 : (fun (_ : OpenLaw) (_ : Params → Frag) => True) PySem.Challenge.rw_bi0020_03 K := by
  k_fill
  trivial
/-- the law's frame -/
noncomputable abbrev lawE (L fa : Addr) (cd : Value) : Env := envOfC dL.name dL.scope L fa cd
/-- the octets of a plain number -/
def e0 (n : Nat) : List UInt8 := enc (.b (ser0 n))
/-- what the first loops ask of two numbers -/
def Fit0 (n m : Nat) : Prop := (0 < n → 0 < m → blt (e0 n) (e0 m) = decide (n < m)) ∧ (e0 n == e0 m) = decide (n = m) ∧ (n = 0 → 0 < m → blt (e0 m) (e0 n) = decide (m < 128))
def Back0 (n : Nat) : Prop := (e0 n).length < 2 ^ 23 ∧ item (e0 n) 2 0 = .ok (.b (ser0 n), e0 n, (e0 n).length) ∧ (ser0 n)[0]? ≠ some 0 ∧ (ser0 n).length ≤ 2 ^ 23 ∧ ofBe (ser0 n) = n
local macro_rules | `(tactic| walk_at "bsz") => `(tactic| ((try simp only [List.size_toArray, List.length_append, List.length_cons, List.length_nil, be_length, beK_length, slice_length]); omega))
local macro_rules | `(tactic| walk_at "call builtin:len") => `(tactic| ((with_reducible show wpAny _ _ (call (Value.builtin _) [Value.bytes (List.toArray _) _]) _ _ _); refine len_bytes (by walk_at "bsz") ?_; (try simp only [List.size_toArray, be_length])))
local macro_rules | `(tactic| walk_at "binaryOp Add bytes bytes") => `(tactic| ((with_reducible show wpAny _ _ (binaryOp Operator.Add (Value.bytes (List.toArray _) _) (Value.bytes (List.toArray _) _)) _ _ _); refine KBy.add_bytes (by walk_at "bsz") ?_; intro _ _; (try simp only [List.append_toArray, List.cons_append, List.nil_append])))
local macro_rules | `(tactic| walk_at "subscriptTail") => `(tactic| ((with_reducible show wpAny _ _ (subscriptTail _ _ (Value.bytes (List.toArray _) _) (Value.ref _)) _ _ _); refine slice_int (s := ⟨_, _, _, _, _⟩) (by k_asm) (by k_asm) (by omega) (by omega) (by omega) ?_; intro _ _ _ _ _))
local macro_rules | `(tactic| walk_at "dp") => `(tactic| ((show _ + _ < _); simp only [ktr_dp, ktr_un]; omega))
local macro_rules | `(tactic| walk_at "call ref") => `(tactic| ((with_reducible show wpAny _ _ (call (Value.ref 1464) _) _ _ _); (k_dflt (refine' b2i ?k1 ?k2 ?k3 ?k4 ?k5 ?k6 ?k7 ?k8 ?k9 ?_; (case k1 => k_asm); (case k2 => k_asm); (case k3 => k_asm); (case k4 => k_asm); (case k5 => k_asm); (case k6 => exact ⟨rfl, rfl⟩); (case k7 => walk_at "dp"); (case k8 => walk_at "dp"); (case k9 => walk_at "bsz"))); intro _ _ _ _ _))
local macro_rules | `(tactic| walk_at "call ref") => `(tactic| ((with_reducible show wpAny _ _ (call (Value.ref 1736) _) _ _ _); (k_dflt (refine' clp_ok ?k1 ?k2 ?k3 ?k4 ?k5 ?k6 ?k7 ?k8 ?k9 ?k0 ?_; (case k1 => k_asm); (case k2 => k_asm); (case k3 => k_asm); (case k4 => k_asm); (case k5 => k_asm); (case k6 => exact ⟨rfl, rfl⟩); (case k7 => walk_at "dp"); (case k8 => walk_at "dp"); (case k9 => walk_at "bsz"); (case k0 => assumption))); intro _ _ _ _ _ _ _ _ _ _))
local macro_rules | `(tactic| walk_at "call ref") => `(tactic| ((with_reducible show wpAny _ _ (call (Value.ref 1457) _) _ _ _); (k_dflt (refine' is_b ?k1 ?k2 ?k3 ?k4 ?k5 ?k6 ?k7 ?k8 ?_; (case k1 => k_asm); (case k2 => k_asm); (case k3 => k_asm); (case k4 => k_asm); (case k5 => k_asm); (case k6 => exact ⟨rfl, rfl⟩); (case k7 => walk_at "dp"); (case k8 => walk_at "dp"))); intro _ _ _ _))
local macro_rules | `(tactic| walk_at "call ref") => `(tactic| ((with_reducible show wpAny _ _ (call (Value.ref 1714) _) _ _ _); (k_dflt (refine' dr_ok ?k1 ?k2 ?k3 ?k4 ?k5 ?k6 ?k7 ?k8 ?k9 ?ka ?kb ?_; (case k1 => k_asm); (case k2 => k_asm); (case k3 => k_asm); (case k4 => k_asm); (case k5 => k_asm); (case ka => assumption); (case kb => assumption); (case k6 => exact ⟨rfl, rfl⟩); (case k7 => walk_at "dp"); (case k8 => walk_at "dp"); (case k9 => assumption))); intro _ _ _ _ _ _ _ _ _ _ _ _ _ _ _))
local macro_rules | `(tactic| walk_at "call ref") => `(tactic| ((with_reducible show wpAny _ _ (call (Value.ref 1500) [Value.ref 1509, _]) _ _ _); (k_dflt (refine' des_plain ?k1 ?k2 ?k3 ?k4 ?k5 ?k6 ?k7 ?k8 ?k9 ?k0 ?_; (case k1 => k_asm); (case k2 => k_asm); (case k3 => k_asm); (case k4 => k_asm); (case k5 => k_asm); (case k6 => exact ⟨rfl, rfl⟩); (case k7 => walk_at "dp"); (case k8 => walk_at "dp"); (case k9 => walk_at "bsz"); (case k0 => assumption))); intro _ _ _ _ _))
local macro_rules | `(tactic| walk_at "call ref") => `(tactic| ((with_reducible show wpAny _ _ (call (Value.ref 1471) _) _ _ _); (k_dflt (refine' i2b ?k1 ?k2 ?k3 ?k4 ?k5 ?k6 ?k7 ?k8 ?k9 ?_; (case k1 => k_asm); (case k2 => k_asm); (case k3 => k_asm); (case k4 => k_asm); (case k5 => k_asm); (case k6 => exact ⟨rfl, rfl⟩); (case k7 => walk_at "dp"); (case k8 => walk_at "dp"); (case k9 => walk_at "bsz"))); intro _ _ _ _ _))
local macro_rules | `(tactic| k_mem) => `(tactic| (refine mem_of ?_; ktr_member))
local macro_rules | `(tactic| walk_at "dp") => `(tactic| (k_dflt ((try simp only [depth_deeper, depth_caller, units_in1, units_deeper, units_caller]); decide)))
local macro_rules | `(tactic| walk_at "compareOp Lt bytes bytes") => `(tactic| ((with_reducible show wpAny _ _ (compareOp CmpOp.Lt (Value.bytes (List.toArray _) _) (Value.bytes (List.toArray _) _)) _ _ _); refine lt_bytes ?_))
local macro_rules | `(tactic| walk_at "GUARD") => `(tactic| ((fail_if_success (with_reducible show UnrEndW _ _ _ _ _ _)); (fail_if_success (with_reducible show wpAny _ _ (call (Value.type "zip") _) _ _ _)); (fail_if_success (with_reducible show wpAny _ _ (call (Value.type "enumerate") _) _ _ _)); (fail_if_success (with_reducible show wpAny _ _ (exec (Stmt.Assign [_] (Expr.ListComp _ _ _ _) _) _) _ _ _)); (fail_if_success (with_reducible show wpAny _ _ (eval (Expr.ListComp _ _ _ _) _) _ _ _))))
local macro_rules | `(tactic| walk_at "UPTO") => `(tactic| repeat' (first | (k_unfold; (try dsimp only)) | (k_end; wrow_close) | (walk_at "GUARD"; walk1) | (dsimp only; walk_at "GUARD"; walk1) | (walk_at "GUARD"; leave1; (try dsimp only)) | fail "no step"))
local macro_rules | `(tactic| walk_at "call ref") => `(tactic| ((with_reducible show wpAny _ _ (call (Value.ref 1758) [Value.bytes _ _, Value.ref 1509]) _ _ _); (k_dflt (refine' de_plain (dep := 2) ?k1 ?k2 ?k3 ?k4 ?k5 ?k6 ?k7 ?k8 ?k9 ?ka ?kb ?kc ?kd ?_; (case k1 => k_asm); (case k2 => k_asm); (case k3 => k_asm); (case k4 => k_asm); (case k5 => k_asm); (case k6 => exact ⟨rfl, rfl⟩); (case k7 => walk_at "dp"); (case k8 => walk_at "dp"); (case k9 => assumption); (case ka => assumption); (case kb => exact Or.inl rfl); (case kc => assumption); (case kd => assumption))); intro _ _ _ _ _))
local macro_rules | `(tactic| walk_at "exec For Tuple Call cons nil") => `(tactic| (k_here; (rename Fr _ _ _ _ => lF'); (with_unfolding_all refine' For_turns lF' ?_ (hE := by assumption); k_whole)))
local macro_rules | `(tactic| walk_at "exec For Tuple Call") => `(tactic| (k_here; (rename Fr _ _ _ _ => lF'); (with_unfolding_all refine' For_turns lF' ?_ (hE := by assumption); k_whole)))
section
variable {w : World} {p : Program} {loose : List Str} {mean : ExcName → Option Value} {mg mb : Str → Option Value} {g : Heap} {L fa : Addr} {cd : Value} {m : Str → Option Value} {s : Shared} {Q : Flow → Shared → Prop} {E : Value → Shared → Prop}
theorem off_zip {I : Nat} {o1 o2 o3 o4 o5 : Obj} {news : List (Addr × Obj)} (h : ∀ p ∈ news, @LT.lt Nat _ p.1 I) : ∀ p ∈ news, ∀ q ∈ [((I + 4 : Nat), o1), ((I + 2 : Nat), o2), ((I + 3 : Nat), o3), ((I : Nat), o4), ((I + 1 : Nat), o5)], p.1 ≠ q.1 := by
  intro p hp q hq
  have hl := h p hp
  have hq' : @LE.le Nat _ I q.1 := by
    simp only [List.mem_cons, List.not_mem_nil, or_false] at hq
    rcases hq with rfl | rfl | rfl | rfl | rfl <;> first | exact Nat.le_refl _ | exact Nat.le_add_right _ _
  exact Nat.ne_of_lt (Nat.lt_of_lt_of_le hl hq')
theorem seg3 {DN DM : Addr} {vN vM : List Value} {nN nM : Nat} {nums : List Nat} {c1 c2 c3 c4 c5 c6 : Obj}
    (K0 : Below callerA g [] g) (X : (K w.params).In g) (T : Top p loose mean mg mb g)
    (F : Fr g L s.heap m) (hm1 : m (Str.ofString "numbers") = some (.ref DN)) (hm2 : m (Str.ofString "made") = some (.ref DM))
    (N : News g L s.heap ((DM, W.listOf vM.toArray nM) :: (DN, W.listOf vN.toArray nN) :: (L + 1 + 1 + 1 + 1 + 1 + 1, c6) :: (L + 1 + 1 + 1 + 1 + 1, c5) :: (L + 1 + 1 + 1 + 1, c4) :: (L + 1 + 1 + 1, c3) :: (L + 1 + 1, c2) :: (L + 1, c1) :: (1702, tabObj #[]) :: []))
    (hN : IntsAre vN (nums.map fun n : Nat => (n : Int))) (hM : DsIn [] vM (nums.map fun n => D.b (e0 n))) (hnl : nums.length ≤ 11)
    (hback : ∀ n ∈ nums, Back0 n) (hfit : ∀ n ∈ nums, ∀ m ∈ nums, Fit0 n m)
    (hE : PassesOwn (model rr.prog w) (callerA.deeper (lawE L fa cd)) (lawE L fa cd) E)
    (hnext : ∀ m' h' tk, Fr g L h' m' → m' (Str.ofString "numbers") = some (.ref DN) → News g L h' ((DM, W.listOf vM.toArray nM) :: (DN, W.listOf vN.toArray nN) :: (L + 1 + 1 + 1 + 1 + 1 + 1, c6) :: (L + 1 + 1 + 1 + 1 + 1, c5) :: (L + 1 + 1 + 1 + 1, c4) :: (L + 1 + 1 + 1, c3) :: (L + 1 + 1, c2) :: (L + 1, c1) :: (1702, tabObj #[]) :: []) →
      wpAny (model rr.prog w) (callerA.deeper (lawE L fa cd)) (execs (dL.body.drop 3) (lawE L fa cd)) Q E { s with heap := h', toks := tk }) :
    wpAny (model rr.prog w) (callerA.deeper (lawE L fa cd)) (execs (dL.body.drop 2) (lawE L fa cd)) Q E s := by
  rw [kst_name (m := m) (ps := [(Str.ofString "numbers", .ref DN), (Str.ofString "made", .ref DM)]) (fun q hq => by
    rcases List.mem_cons.mp hq with rfl | hq
    · exact hm1
    · rw [List.mem_singleton.mp hq]; exact hm2)] at F
  have hvn : vN.length = nums.length := by rw [IntsAre.length hN, List.length_map]
  have hvm : vM.length = nums.length := by rw [DsIn.len hM, List.length_map]
  walk_at "UPTO"
  rename Fr _ _ _ _ => F
  refine for_zipS (σ := Unit) [Str.ofString "n", Str.ofString "one", Str.ofString "m", Str.ofString "other"] (fun _ _ => _) (fun _ _ => True) () (l1 := DN) (l2 := DM) (xs := vN) (ys := vM) (n1 := nN) (n2 := nM) rfl F N (.tail _ (.head _)) (.head _) (by omega) trivial ?_ ?_
  · intro I i x y c u h tk T0 hI hx hy _ hT F2 hl1 hl2
    intro o1 e1 o2 e2 o3 e3 o4 e4 o5 e5 N2
    obtain ⟨d1, hd1, hdv⟩ := DsIn.at hM hy
    obtain ⟨y0, ty, hy0, rfl⟩ := ints_at hN hx
    obtain ⟨n, hn, rfl, rfl⟩ : ∃ n : Nat, nums[i]? = some n ∧ y0 = (n : Int) ∧ d1 = D.b (e0 n) := by
      rw [List.getElem?_map] at hy0 hd1
      cases h9 : nums[i]? with
      | none => rw [h9] at hy0; cases hy0
      | some y' => rw [h9] at hy0 hd1; exact ⟨y', rfl, by simpa using hy0.symm, by simpa using hd1.symm⟩
    cases hdv
    have hnm := List.mem_of_getElem? hn
    obtain ⟨b1, b2, b3, b4, b5⟩ := hback n hnm
    walk_at "UPTO"
    · exfalso; omega
    rename Fr _ _ _ _ => F3
    rename News _ _ _ _ => N3
    refine for_zipS (σ := Unit) [Str.ofString "m", Str.ofString "other"] (fun _ _ => _) (fun _ _ => True) () (l1 := DN) (l2 := DM) (xs := vN) (ys := vM) (n1 := nN) (n2 := nM) rfl F3 N3 (.tail _ (.tail _ (.tail _ (.tail _ (.tail _ (.tail _ (.head _))))))) (.tail _ (.tail _ (.tail _ (.tail _ (.tail _ (.head _)))))) (by omega) trivial ?_ ?_
    · intro I' i' x' y' c' u' h' tk' T' hI' hx' hy' _ hT' F4 hl1' hl2'
      intro o1' e1' o2' e2' o3' e3' o4' e4' o5' e5' N4
      obtain ⟨d1', hd1', hdv'⟩ := DsIn.at hM hy'
      obtain ⟨y0', ty', hy0', rfl⟩ := ints_at hN hx'
      obtain ⟨n', hn', rfl, rfl⟩ : ∃ n : Nat, nums[i']? = some n ∧ y0' = (n : Int) ∧ d1' = D.b (e0 n) := by
        rw [List.getElem?_map] at hy0' hd1'
        cases h9 : nums[i']? with
        | none => rw [h9] at hy0'; cases hy0'
        | some y' => rw [h9] at hy0' hd1'; exact ⟨y', rfl, by simpa using hy0'.symm, by simpa using hd1'.symm⟩
      cases hdv'
      have hnm' := List.mem_of_getElem? hn'
      obtain ⟨f1, f2, f3⟩ := hfit n hnm n' hnm'
      have g1 : 0 < (n : Int) → 0 < (n' : Int) → (blt (e0 n) (e0 n') != decide ((n : Int) < (n' : Int))) = false := fun h1 h2 => by
        rw [f1 (by omega) (by omega)]; simp
      have g2 : (((e0 n).toArray.toList == (e0 n').toArray.toList) != ((n : Int) == (n' : Int))) = false := by
        have e : ((n : Int) == (n' : Int)) = decide (n = n') := by
          rw [Bool.eq_iff_iff]; simp; omega
        show ((e0 n == e0 n') != _) = false
        rw [f2, e]; simp
      have g3 : (n : Int) = 0 → 0 < (n' : Int) → (blt (e0 n') (e0 n) != decide ((n' : Int) < 128)) = false := fun h1 h2 => by
        rw [f3 (by omega) (by omega)]
        have e : decide ((n' : Int) < 128) = decide (n' < 128) := by rw [Bool.eq_iff_iff]; simp; omega
        rw [e]; simp
      walk_at "UPTO"
      all_goals first
        | (exfalso; omega)
        | exact absurd ((g1 (by assumption) (by assumption)).symm.trans (by assumption)) Bool.false_ne_true
        | exact absurd (g2.symm.trans (by assumption)) Bool.false_ne_true
        | exact absurd ((g3 (by assumption) (by assumption)).symm.trans (by assumption)) Bool.false_ne_true
        | (refine turn_end _ (by assumption) (by assumption) (fun p hp => hp) (off_zip fun p hp => hI' p hp) ⟨⟨hl1', hl2', trivial⟩, (), rfl, trivial, ?_⟩
           intro z hz
           have h4 := hz
           simp only [List.contains_cons, List.contains_nil, Bool.or_false, Bool.or_eq_false_iff, beq_eq_false_iff_ne, ne_eq] at h4
           simp only [hz, h4, if_false, Bool.false_eq_true])
    · intro c u' h tk _ F2 N2
      walk_at "UPTO"
      refine turn_end _ (by assumption) (by assumption) (fun p hp => hp) (off_zip fun p hp => hI p hp) ⟨⟨hl1, hl2, trivial⟩, (), rfl, trivial, ?_⟩
      intro z hz
      have h4 := hz
      simp only [List.contains_cons, List.contains_nil, Bool.or_false, Bool.or_eq_false_iff, beq_eq_false_iff_ne, ne_eq] at h4
      have h5 : ([Str.ofString "m", Str.ofString "other"] : List Str).contains z = false := by
        simp only [List.contains_cons, List.contains_nil, Bool.or_false, Bool.or_eq_false_iff, beq_eq_false_iff_ne, ne_eq]
        exact ⟨h4.2.2.1, h4.2.2.2⟩
      simp only [hz, h4, h5, if_false, Bool.false_eq_true]
  · intro c u h tk _ F2 N2
    refine hnext _ h tk F2 rfl N2
end
end Mine
end

section
open PySem PySem.W PyProof.Rows PySem.Spec PySem.Calls Rlp
set_option Elab.async false
set_option maxRecDepth 100000
set_option maxHeartbeats 0
set_option linter.unusedVariables false
namespace Mine
theorem fillLS2 : (fun (_ : OpenLaw) (_ : Params → Frag) => True) PySem.Challenge.rw_bi0020_03 K := by
  k_fill
  trivial
local macro_rules | `(tactic| walk_at "bsz") => `(tactic| ((try simp only [List.size_toArray, List.length_append, List.length_cons, List.length_nil, be_length, beK_length, slice_length]); omega))
local macro_rules | `(tactic| walk_at "call builtin:len") => `(tactic| ((with_reducible show wpAny _ _ (call (Value.builtin _) [Value.bytes (List.toArray _) _]) _ _ _); refine len_bytes (by walk_at "bsz") ?_; (try simp only [List.size_toArray, be_length])))
local macro_rules | `(tactic| walk_at "binaryOp Add bytes bytes") => `(tactic| ((with_reducible show wpAny _ _ (binaryOp Operator.Add (Value.bytes (List.toArray _) _) (Value.bytes (List.toArray _) _)) _ _ _); refine KBy.add_bytes (by walk_at "bsz") ?_; intro _ _; (try simp only [List.append_toArray, List.cons_append, List.nil_append])))
local macro_rules | `(tactic| walk_at "subscriptTail") => `(tactic| ((with_reducible show wpAny _ _ (subscriptTail _ _ (Value.bytes (List.toArray _) _) (Value.ref _)) _ _ _); refine slice_int (s := ⟨_, _, _, _, _⟩) (by k_asm) (by k_asm) (by omega) (by omega) (by omega) ?_; intro _ _ _ _ _))
local macro_rules | `(tactic| walk_at "dp") => `(tactic| ((show _ + _ < _); simp only [ktr_dp, ktr_un]; omega))
local macro_rules | `(tactic| walk_at "call ref") => `(tactic| ((with_reducible show wpAny _ _ (call (Value.ref 1464) _) _ _ _); (k_dflt (refine' b2i ?k1 ?k2 ?k3 ?k4 ?k5 ?k6 ?k7 ?k8 ?k9 ?_; (case k1 => k_asm); (case k2 => k_asm); (case k3 => k_asm); (case k4 => k_asm); (case k5 => k_asm); (case k6 => exact ⟨rfl, rfl⟩); (case k7 => walk_at "dp"); (case k8 => walk_at "dp"); (case k9 => walk_at "bsz"))); intro _ _ _ _ _))
local macro_rules | `(tactic| walk_at "call ref") => `(tactic| ((with_reducible show wpAny _ _ (call (Value.ref 1736) _) _ _ _); (k_dflt (refine' clp_ok ?k1 ?k2 ?k3 ?k4 ?k5 ?k6 ?k7 ?k8 ?k9 ?k0 ?_; (case k1 => k_asm); (case k2 => k_asm); (case k3 => k_asm); (case k4 => k_asm); (case k5 => k_asm); (case k6 => exact ⟨rfl, rfl⟩); (case k7 => walk_at "dp"); (case k8 => walk_at "dp"); (case k9 => walk_at "bsz"); (case k0 => assumption))); intro _ _ _ _ _ _ _ _ _ _))
local macro_rules | `(tactic| walk_at "call ref") => `(tactic| ((with_reducible show wpAny _ _ (call (Value.ref 1457) _) _ _ _); (k_dflt (refine' is_b ?k1 ?k2 ?k3 ?k4 ?k5 ?k6 ?k7 ?k8 ?_; (case k1 => k_asm); (case k2 => k_asm); (case k3 => k_asm); (case k4 => k_asm); (case k5 => k_asm); (case k6 => exact ⟨rfl, rfl⟩); (case k7 => walk_at "dp"); (case k8 => walk_at "dp"))); intro _ _ _ _))
local macro_rules | `(tactic| walk_at "call ref") => `(tactic| ((with_reducible show wpAny _ _ (call (Value.ref 1714) _) _ _ _); (k_dflt (refine' dr_ok ?k1 ?k2 ?k3 ?k4 ?k5 ?k6 ?k7 ?k8 ?k9 ?ka ?kb ?_; (case k1 => k_asm); (case k2 => k_asm); (case k3 => k_asm); (case k4 => k_asm); (case k5 => k_asm); (case ka => assumption); (case kb => assumption); (case k6 => exact ⟨rfl, rfl⟩); (case k7 => walk_at "dp"); (case k8 => walk_at "dp"); (case k9 => assumption))); intro _ _ _ _ _ _ _ _ _ _ _ _ _ _ _))
local macro_rules | `(tactic| walk_at "call ref") => `(tactic| ((with_reducible show wpAny _ _ (call (Value.ref 1500) [Value.ref 1509, _]) _ _ _); (k_dflt (refine' des_plain ?k1 ?k2 ?k3 ?k4 ?k5 ?k6 ?k7 ?k8 ?k9 ?k0 ?_; (case k1 => k_asm); (case k2 => k_asm); (case k3 => k_asm); (case k4 => k_asm); (case k5 => k_asm); (case k6 => exact ⟨rfl, rfl⟩); (case k7 => walk_at "dp"); (case k8 => walk_at "dp"); (case k9 => walk_at "bsz"); (case k0 => assumption))); intro _ _ _ _ _))
local macro_rules | `(tactic| walk_at "call ref") => `(tactic| ((with_reducible show wpAny _ _ (call (Value.ref 1471) _) _ _ _); (k_dflt (refine' i2b ?k1 ?k2 ?k3 ?k4 ?k5 ?k6 ?k7 ?k8 ?k9 ?_; (case k1 => k_asm); (case k2 => k_asm); (case k3 => k_asm); (case k4 => k_asm); (case k5 => k_asm); (case k6 => exact ⟨rfl, rfl⟩); (case k7 => walk_at "dp"); (case k8 => walk_at "dp"); (case k9 => walk_at "bsz"))); intro _ _ _ _ _))
local macro_rules | `(tactic| k_mem) => `(tactic| (refine mem_of ?_; ktr_member))
local macro_rules | `(tactic| walk_at "dp") => `(tactic| (k_dflt ((try simp only [depth_deeper, depth_caller, units_in1, units_deeper, units_caller]); decide)))
local macro_rules | `(tactic| walk_at "GUARD") => `(tactic| ((fail_if_success (with_reducible show UnrEndW _ _ _ _ _ _)); (fail_if_success (with_reducible show wpAny _ _ (call (Value.type "zip") _) _ _ _)); (fail_if_success (with_reducible show wpAny _ _ (call (Value.type "enumerate") _) _ _ _)); (fail_if_success (with_reducible show wpAny _ _ (exec (Stmt.Assign [_] (Expr.ListComp _ _ _ _) _) _) _ _ _)); (fail_if_success (with_reducible show wpAny _ _ (eval (Expr.ListComp _ _ _ _) _) _ _ _))))
local macro_rules | `(tactic| walk_at "UPTO") => `(tactic| repeat' (first | (k_unfold; (try dsimp only)) | (k_end; wrow_close) | (walk_at "GUARD"; walk1) | (dsimp only; walk_at "GUARD"; walk1) | (walk_at "GUARD"; leave1; (try dsimp only)) | fail "no step"))
local macro_rules | `(tactic| walk_at "call ref") => `(tactic| ((with_reducible show wpAny _ _ (call (Value.ref 1722) [Value.int _ _, Value.ref 1509]) _ _ _); (k_dflt (refine' en_plain ?k1 ?k2 ?k3 ?k4 ?k5 ?k6 ?k7 ?k8 ?k9 ?k0 ?_; (case k1 => k_asm); (case k2 => k_asm); (case k3 => k_asm); (case k4 => k_asm); (case k5 => k_asm); (case k6 => exact ⟨rfl, rfl⟩); (case k7 => walk_at "dp"); (case k8 => walk_at "dp"); (case k9 => assumption); (case k0 => assumption);)); intro _ _ _ _ _))
theorem nat_at {vs : List Value} {ns : List Nat} (h : IntsAre vs (ns.map fun n : Nat => (n : Int))) {i : Nat} {v : Value} (hv : vs[i]? = some v) : ∃ n t, ns[i]? = some n ∧ v = .int (n : Int) t := by
  obtain ⟨y0, ty, hy0, rfl⟩ := ints_at h hv
  rw [List.getElem?_map] at hy0
  cases h9 : ns[i]? with
  | none => rw [h9] at hy0; cases hy0
  | some y' => rw [h9] at hy0; exact ⟨y', ty, rfl, by simpa using hy0.symm⟩
section
variable {w : World} {p : Program} {loose : List Str} {mean : ExcName → Option Value} {mg mb : Str → Option Value} {g : Heap} {L fa : Addr} {cd : Value} {m : Str → Option Value} {s : Shared} {Q : Flow → Shared → Prop} {E : Value → Shared → Prop}
theorem seg2 {DN : Addr} {vN : List Value} {nN : Nat} {nums : List Nat} {c1 c2 c3 c4 c5 c6 : Obj}
    (K0 : Below callerA g [] g) (X : (K w.params).In g) (T : Top p loose mean mg mb g)
    (F : Fr g L s.heap m) (hm : m (Str.ofString "numbers") = some (.ref DN)) (N : News g L s.heap ((DN, W.listOf vN.toArray nN) :: (L + 1 + 1 + 1 + 1 + 1 + 1, c6) :: (L + 1 + 1 + 1 + 1 + 1, c5) :: (L + 1 + 1 + 1 + 1, c4) :: (L + 1 + 1 + 1, c3) :: (L + 1 + 1, c2) :: (L + 1, c1) :: (1702, tabObj #[]) :: []))
    (hN : IntsAre vN (nums.map fun n : Nat => (n : Int))) (hnl : nums.length ≤ 11) (hnb : ∀ n ∈ nums, octs n ≤ 50)
    (hnext : ∀ m' h' tk DM vM nM, Fr g L h' m' → m' (Str.ofString "numbers") = some (.ref DN) → m' (Str.ofString "made") = some (.ref DM) → News g L h' ((DM, W.listOf vM.toArray nM) :: (DN, W.listOf vN.toArray nN) :: (L + 1 + 1 + 1 + 1 + 1 + 1, c6) :: (L + 1 + 1 + 1 + 1 + 1, c5) :: (L + 1 + 1 + 1 + 1, c4) :: (L + 1 + 1 + 1, c3) :: (L + 1 + 1, c2) :: (L + 1, c1) :: (1702, tabObj #[]) :: []) → LCg.Off1 DM ((DN, W.listOf vN.toArray nN) :: (L + 1 + 1 + 1 + 1 + 1 + 1, c6) :: (L + 1 + 1 + 1 + 1 + 1, c5) :: (L + 1 + 1 + 1 + 1, c4) :: (L + 1 + 1 + 1, c3) :: (L + 1 + 1, c2) :: (L + 1, c1) :: (1702, tabObj #[]) :: []) → DsIn [] vM (nums.map fun n => D.b (e0 n)) →
      wpAny (model rr.prog w) (callerA.deeper (lawE L fa cd)) (execs (dL.body.drop 2) (lawE L fa cd)) Q E { s with heap := h', toks := tk }) :
    wpAny (model rr.prog w) (callerA.deeper (lawE L fa cd)) (execs (dL.body.drop 1) (lawE L fa cd)) Q E s := by
  rw [kst_name (m := m) (ps := [(Str.ofString "numbers", .ref DN)]) (fun q hq => by rw [List.mem_singleton.mp hq]; exact hm)] at F
  walk1
  k_dflt (refine LCg.Assign_ListComp_U (F₀ := F) (by rfl) (by with_unfolding_all rfl) (by with_unfolding_all rfl) (by decide) (by rfl) (by decide) (by rfl) (by rfl) (by rfl) ?_)
  walk1
  have hvn : vN.length = nums.length := by rw [IntsAre.length hN, List.length_map]
  refine LCg.CompSrc.ledger (its := vN.toArray) rfl F N (.head _) (by rw [List.size_toArray, hvn, sizeLine_eq]; omega) fun g' => ?_
  rw [List.size_toArray]
  refine comp_rest (n := vN.length) (fun i ys nw => nw = _ ∧ DsIn [] ys ((nums.take i).map fun n => D.b (e0 n))) ?_ ?_ vN.length 0 [] _ (by omega) ⟨rfl, .nil⟩
  · intro i v I oI C oC D m₂ ys nw h tk E' hi hv hg hC hx F2 N2 off ne
    obtain ⟨rfl, hys⟩ := hg
    obtain ⟨y', ty, hy', rfl⟩ := nat_at hN (by simpa using hv)
    have ho9 := hnb _ (List.mem_of_getElem? hy')
    have ho8 : octs y' ≤ 2 ^ 23 := Nat.le_trans ho9 (by decide)
    have hs8 : (ser0 y').length < 2 ^ 23 := by unfold ser0; split <;> simp [be_length]; omega
    walk_at "UPTO"
    refine LCg.CompEnd.intro (by k_asm) (by k_asm) _ (fun p hp => hp) off (.inr ⟨_, .head _, rfl, _, rfl⟩) ⟨rfl, ?_⟩
    rw [List.take_add_one, hy', List.map_append]
    exact DsIn.snoc hys .b
  · intro ys nw hg
    obtain ⟨rfl, hys⟩ := hg
    rw [hvn, List.take_length] at hys
    intro D h tk F2 N2 off
    exact hnext _ h tk D ys _ F2 rfl rfl N2 off hys
end
end Mine
end

section
open PySem PySem.W PyProof.Rows PySem.Spec PySem.Calls Rlp
set_option Elab.async false
set_option maxRecDepth 100000
set_option maxHeartbeats 0
set_option linter.unusedVariables false
namespace Mine
theorem fillLS4 : (fun (_ : OpenLaw) (_ : Params → Frag) => True) PySem.Challenge.rw_bi0020_03 K := by
  k_fill
  trivial
local macro_rules | `(tactic| walk_at "bsz") => `(tactic| ((try simp only [List.size_toArray, List.length_append, List.length_cons, List.length_nil, be_length, beK_length, slice_length]); omega))
local macro_rules | `(tactic| walk_at "call builtin:len") => `(tactic| ((with_reducible show wpAny _ _ (call (Value.builtin _) [Value.bytes (List.toArray _) _]) _ _ _); refine len_bytes (by walk_at "bsz") ?_; (try simp only [List.size_toArray, be_length])))
local macro_rules | `(tactic| walk_at "binaryOp Add bytes bytes") => `(tactic| ((with_reducible show wpAny _ _ (binaryOp Operator.Add (Value.bytes (List.toArray _) _) (Value.bytes (List.toArray _) _)) _ _ _); refine KBy.add_bytes (by walk_at "bsz") ?_; intro _ _; (try simp only [List.append_toArray, List.cons_append, List.nil_append])))
local macro_rules | `(tactic| walk_at "subscriptTail") => `(tactic| ((with_reducible show wpAny _ _ (subscriptTail _ _ (Value.bytes (List.toArray _) _) (Value.ref _)) _ _ _); refine slice_int (s := ⟨_, _, _, _, _⟩) (by k_asm) (by k_asm) (by omega) (by omega) (by omega) ?_; intro _ _ _ _ _))
local macro_rules | `(tactic| walk_at "dp") => `(tactic| ((show _ + _ < _); simp only [ktr_dp, ktr_un]; omega))
local macro_rules | `(tactic| walk_at "call ref") => `(tactic| ((with_reducible show wpAny _ _ (call (Value.ref 1464) _) _ _ _); (k_dflt (refine' b2i ?k1 ?k2 ?k3 ?k4 ?k5 ?k6 ?k7 ?k8 ?k9 ?_; (case k1 => k_asm); (case k2 => k_asm); (case k3 => k_asm); (case k4 => k_asm); (case k5 => k_asm); (case k6 => exact ⟨rfl, rfl⟩); (case k7 => walk_at "dp"); (case k8 => walk_at "dp"); (case k9 => walk_at "bsz"))); intro _ _ _ _ _))
local macro_rules | `(tactic| walk_at "call ref") => `(tactic| ((with_reducible show wpAny _ _ (call (Value.ref 1736) _) _ _ _); (k_dflt (refine' clp_ok ?k1 ?k2 ?k3 ?k4 ?k5 ?k6 ?k7 ?k8 ?k9 ?k0 ?_; (case k1 => k_asm); (case k2 => k_asm); (case k3 => k_asm); (case k4 => k_asm); (case k5 => k_asm); (case k6 => exact ⟨rfl, rfl⟩); (case k7 => walk_at "dp"); (case k8 => walk_at "dp"); (case k9 => walk_at "bsz"); (case k0 => assumption))); intro _ _ _ _ _ _ _ _ _ _))
local macro_rules | `(tactic| walk_at "call ref") => `(tactic| ((with_reducible show wpAny _ _ (call (Value.ref 1457) _) _ _ _); (k_dflt (refine' is_b ?k1 ?k2 ?k3 ?k4 ?k5 ?k6 ?k7 ?k8 ?_; (case k1 => k_asm); (case k2 => k_asm); (case k3 => k_asm); (case k4 => k_asm); (case k5 => k_asm); (case k6 => exact ⟨rfl, rfl⟩); (case k7 => walk_at "dp"); (case k8 => walk_at "dp"))); intro _ _ _ _))
local macro_rules | `(tactic| walk_at "call ref") => `(tactic| ((with_reducible show wpAny _ _ (call (Value.ref 1714) _) _ _ _); (k_dflt (refine' dr_ok ?k1 ?k2 ?k3 ?k4 ?k5 ?k6 ?k7 ?k8 ?k9 ?ka ?kb ?_; (case k1 => k_asm); (case k2 => k_asm); (case k3 => k_asm); (case k4 => k_asm); (case k5 => k_asm); (case ka => assumption); (case kb => assumption); (case k6 => exact ⟨rfl, rfl⟩); (case k7 => walk_at "dp"); (case k8 => walk_at "dp"); (case k9 => assumption))); intro _ _ _ _ _ _ _ _ _ _ _ _ _ _ _))
local macro_rules | `(tactic| walk_at "call ref") => `(tactic| ((with_reducible show wpAny _ _ (call (Value.ref 1500) [Value.ref 1509, _]) _ _ _); (k_dflt (refine' des_plain ?k1 ?k2 ?k3 ?k4 ?k5 ?k6 ?k7 ?k8 ?k9 ?k0 ?_; (case k1 => k_asm); (case k2 => k_asm); (case k3 => k_asm); (case k4 => k_asm); (case k5 => k_asm); (case k6 => exact ⟨rfl, rfl⟩); (case k7 => walk_at "dp"); (case k8 => walk_at "dp"); (case k9 => walk_at "bsz"); (case k0 => assumption))); intro _ _ _ _ _))
local macro_rules | `(tactic| walk_at "call ref") => `(tactic| ((with_reducible show wpAny _ _ (call (Value.ref 1471) _) _ _ _); (k_dflt (refine' i2b ?k1 ?k2 ?k3 ?k4 ?k5 ?k6 ?k7 ?k8 ?k9 ?_; (case k1 => k_asm); (case k2 => k_asm); (case k3 => k_asm); (case k4 => k_asm); (case k5 => k_asm); (case k6 => exact ⟨rfl, rfl⟩); (case k7 => walk_at "dp"); (case k8 => walk_at "dp"); (case k9 => walk_at "bsz"))); intro _ _ _ _ _))
local macro_rules | `(tactic| k_mem) => `(tactic| (refine mem_of ?_; ktr_member))
local macro_rules | `(tactic| walk_at "dp") => `(tactic| (k_dflt ((try simp only [depth_deeper, depth_caller, units_in1, units_deeper, units_caller]); decide)))
local macro_rules | `(tactic| walk_at "GUARD") => `(tactic| ((fail_if_success (with_reducible show UnrEndW _ _ _ _ _ _)); (fail_if_success (with_reducible show wpAny _ _ (call (Value.type "zip") _) _ _ _)); (fail_if_success (with_reducible show wpAny _ _ (call (Value.type "enumerate") _) _ _ _)); (fail_if_success (with_reducible show wpAny _ _ (exec (Stmt.Assign [_] (Expr.ListComp _ _ _ _) _) _) _ _ _)); (fail_if_success (with_reducible show wpAny _ _ (eval (Expr.ListComp _ _ _ _) _) _ _ _))))
local macro_rules | `(tactic| walk_at "UPTO") => `(tactic| repeat' (first | (k_unfold; (try dsimp only)) | (k_end; wrow_close) | (walk_at "GUARD"; walk1) | (dsimp only; walk_at "GUARD"; walk1) | (walk_at "GUARD"; leave1; (try dsimp only)) | fail "no step"))
local macro_rules | `(tactic| walk_at "call ref") => `(tactic| ((with_reducible show wpAny _ _ (call (Value.ref 1770) [Value.ref _, Value.int 5 _, Value.int _ _]) _ _ _); (k_dflt (refine' lawat (k := 5) ?k1 ?k2 ?k3 ?k4 ?k5 ?k6 ?k7 ?k8 ?k9 ?k0 ?ka ?_; (case k1 => k_asm); (case k2 => k_asm); (case k3 => k_asm); (case k4 => k_asm); (case k5 => k_asm); (case k6 => exact ⟨rfl, rfl⟩); (case k7 => walk_at "dp"); (case k8 => walk_at "dp"); (case k9 => assumption); (case k0 => assumption); (case ka => assumption))); intro _ _ _ _ _))
local macro_rules | `(tactic| walk_at "call ref") => `(tactic| ((with_reducible show wpAny _ _ (call (Value.ref 1493) [Value.ref _, Value.int _ _]) _ _ _); (k_dflt (refine' ser_len ?k1 ?k2 ?k3 ?k4 ?k5 ?k6 ?k7 ?k8 ?k9 ?k0 ?ka ?kb ?kc ?_; (case k1 => k_asm); (case k2 => k_asm); (case k3 => k_asm); (case k4 => k_asm); (case k5 => k_asm); (case k6 => exact ⟨rfl, rfl⟩); (case k7 => walk_at "dp"); (case k8 => walk_at "dp"); (case k9 => omega); (case k0 => omega); (case ka => assumption); (case kb => k_mem); (case kc => k_mem);)); intro _ _ _ _ _))
section
variable {w : World} {p : Program} {loose : List Str} {mean : ExcName → Option Value} {mg mb : Str → Option Value} {g : Heap} {L fa : Nat} {cd : Value} {m : Str → Option Value} {s : Shared} {Q : Flow → Shared → Prop} {E : Value → Shared → Prop}
theorem seg4 {DN DM scr : Nat} {vN vM vs : List Value} {is : List Int} {nN nM : Nat} {nums : List Nat} {c1 c2 c3 c4 c5 c6 : Obj}
    (K0 : Below callerA g [] g) (X : (K w.params).In g) (T : Top p loose mean mg mb g) (hL : g.IsList scr vs.toArray) (hI : IntsAre vs is) (hlen : is.length ≤ 63)
    (F : Fr g L s.heap m) (hm : m (Str.ofString "numbers") = some (.ref DN)) (N : News g L s.heap ((DM, W.listOf vM.toArray nM) :: (DN, W.listOf vN.toArray nN) :: (L + 1 + 1 + 1 + 1 + 1 + 1, c6) :: (L + 1 + 1 + 1 + 1 + 1, c5) :: (L + 1 + 1 + 1 + 1, c4) :: (L + 1 + 1 + 1, c3) :: (L + 1 + 1, c2) :: (L + 1, c1) :: (1702, tabObj #[]) :: []))
    (hDN : L + 1 + 1 + 1 + 1 + 1 + 1 < DN) (hDM : LCg.Off1 DM ((DN, W.listOf vN.toArray nN) :: (L + 1 + 1 + 1 + 1 + 1 + 1, c6) :: (L + 1 + 1 + 1 + 1 + 1, c5) :: (L + 1 + 1 + 1 + 1, c4) :: (L + 1 + 1 + 1, c3) :: (L + 1 + 1, c2) :: (L + 1, c1) :: (1702, tabObj #[]) :: [])) (h17 : 1702 < L)
    (hc1 : c1.data = .cell (some (.ref scr))) (hc2 : c2.data = .cell none) (hc3 : c3.data = .cell none)
    (hN : IntsAre vN (nums.map fun n : Nat => (n : Int))) (hnl : nums.length ≤ 11)
    {k : Nat} (hk : 1 + (is.getD 5 3).fmod 9 = (k : Int)) (hk1 : 1 ≤ k) (hk9 : k ≤ 9)
    (hnext : ∀ (m' : Str → Option Value) (h' : Heap) (tk DN' DM' x dx : Nat) (vN' vM' : List Value) (nN' nM' : Nat) (kh : Int) (kt u t2 : Tok) (nn : Nat) (o2 o3 : Obj), Fr g L h' m' → m' (Str.ofString "numbers") = some (.ref DN') → m' (Str.ofString "made") = some (.ref DM') →
      News g L h' ((DM', W.listOf vM'.toArray nM') :: (DN', W.listOf vN'.toArray nN') :: (x, instObj 1503 dx) :: (dx, dictOf [⟨kh, .str (Str.ofString "length") kt, .int k u⟩] nn) :: (L + 1 + 1 + 1 + 1 + 1 + 1, c6) :: (L + 1 + 1 + 1 + 1 + 1, c5) :: (L + 1 + 1 + 1 + 1, c4) :: (L + 1 + 1 + 1, o3) :: (L + 1 + 1, o2) :: (L + 1, c1) :: (1702, tabObj #[]) :: []) →
      LCg.Off1 DM' ((L + 1 + 1 + 1 + 1 + 1 + 1, c6) :: (L + 1 + 1 + 1 + 1 + 1, c5) :: (L + 1 + 1 + 1 + 1, c4) :: (L + 1 + 1 + 1, o3) :: (L + 1 + 1, o2) :: (L + 1, c1) :: (1702, tabObj #[]) :: []) → LCg.Off1 DN' ((L + 1 + 1 + 1 + 1 + 1 + 1, c6) :: (L + 1 + 1 + 1 + 1 + 1, c5) :: (L + 1 + 1 + 1 + 1, c4) :: (L + 1 + 1 + 1, o3) :: (L + 1 + 1, o2) :: (L + 1, c1) :: (1702, tabObj #[]) :: []) → LCg.Off1 dx ((L + 1 + 1 + 1 + 1 + 1 + 1, c6) :: (L + 1 + 1 + 1 + 1 + 1, c5) :: (L + 1 + 1 + 1 + 1, c4) :: (L + 1 + 1 + 1, o3) :: (L + 1 + 1, o2) :: (L + 1, c1) :: (1702, tabObj #[]) :: []) → LCg.Off1 x ((L + 1 + 1 + 1 + 1 + 1 + 1, c6) :: (L + 1 + 1 + 1 + 1 + 1, c5) :: (L + 1 + 1 + 1 + 1, c4) :: (L + 1 + 1 + 1, o3) :: (L + 1 + 1, o2) :: (L + 1, c1) :: (1702, tabObj #[]) :: []) →
      o2.data = .cell (some (.int k t2)) → o3.data = .cell (some (.ref x)) →
      IntsAre vN' ((nums.map fun n => n % 256 ^ k).map fun n : Nat => (n : Int)) → DsIn [] vM' ((nums.map fun n => n % 256 ^ k).map fun n => D.b (beK k n)) →
      wpAny (model rr.prog w) (callerA.deeper (lawE L fa cd)) (execs (dL.body.drop 7) (lawE L fa cd)) Q E { s with heap := h', toks := tk })
    (hE : PassesOwn (model rr.prog w) (callerA.deeper (lawE L fa cd)) (lawE L fa cd) E) :
    wpAny (model rr.prog w) (callerA.deeper (lawE L fa cd)) (execs (dL.body.drop 3) (lawE L fa cd)) Q E s := by
  rw [kst_name (m := m) (ps := [(Str.ofString "numbers", .ref DN)]) (fun q hq => by rw [List.mem_singleton.mp hq]; exact hm)] at F
  simp only [LCg.Off1, and_true] at hDM
  have hvn : vN.length = nums.length := by rw [IntsAre.length hN, List.length_map]
  walk_at "UPTO"
  rename_i h1 tk1 t1 h2 o2 d2 tk2 x dx h3 l1 l2 _ _ _ _ _ _ _ _ _ _ _ h4 o3 F4 N4 d3
  clear_value qk ek
  clear qk ek
  replace d2 : ∃ t, o2.data = .cell (some (.int k t)) := ⟨_, hk ▸ d2⟩
  obtain ⟨t2, d2⟩ := d2
  rw [hk] at N4
  obtain ⟨kh, kt, u, nn, N4⟩ : ∃ kh kt u nn, News g L h4 ((x, instObj 1503 dx) :: (dx, dictOf [⟨kh, .str (Str.ofString "length") kt, .int k u⟩] nn) :: (DM, W.listOf vM.toArray nM) :: (DN, W.listOf vN.toArray nN) :: (L + 1 + 1 + 1 + 1 + 1 + 1, c6) :: (L + 1 + 1 + 1 + 1 + 1, c5) :: (L + 1 + 1 + 1 + 1, c4) :: (L + 1 + 1 + 1, o3) :: (L + 1 + 1, o2) :: (L + 1, c1) :: (1702, tabObj #[]) :: []) := ⟨_, _, _, _, N4⟩
  k_dflt (refine LCg.Assign_ListComp_U (F₀ := F4) (by rfl) (by with_unfolding_all rfl) (by with_unfolding_all rfl) (by decide) (by rfl) (by decide) (by rfl) (by rfl) (by rfl) ?_)
  walk1
  refine LCg.CompSrc.ledger (its := vN.toArray) rfl F4 N4 (.tail _ (.tail _ (.tail _ (.head _)))) (by rw [List.size_toArray, hvn, sizeLine_eq]; omega) fun g' => ?_
  rw [List.size_toArray]
  refine comp_rest (n := vN.length) (fun i ys nw => nw = _ ∧ IntsAre ys ((nums.take i).map fun n => ((n % 256 ^ k : Nat) : Int))) ?_ ?_ vN.length 0 [] _ (by omega) ⟨rfl, .nil⟩
  · intro i v I oI C oC D m₂ ys nw h tk E' hi hv hg hC hx F2 N2 off ne
    obtain ⟨rfl, hys⟩ := hg
    obtain ⟨y', ty, hy', rfl⟩ := nat_at hN (by simpa using hv)
    walk_at "UPTO"
    have e9 : (y' : Int).fmod (256 ^ (k : Int).toNat) = ((y' % 256 ^ k : Nat) : Int) := by
      rw [Int.toNat_natCast, Int.fmod_eq_emod_of_nonneg _ (Int.pow_nonneg (by decide)), Int.natCast_emod, Int.natCast_pow]; rfl
    rw [e9]
    refine LCg.CompEnd.intro (by k_asm) (by k_asm) _ (fun p hp => hp) off (.inr ⟨_, .tail _ (.tail _ (.tail _ (.head _))), rfl, _, rfl⟩) ⟨rfl, ?_⟩
    rw [List.take_add_one, hy', List.map_append]
    exact IntsAre.snoc' hys _ _
  · intro ys nw hg
    obtain ⟨rfl, hys⟩ := hg
    rw [hvn, List.take_length] at hys
    replace hys : IntsAre ys ((nums.map fun n => n % 256 ^ k).map fun n : Nat => (n : Int)) := by rw [List.map_map]; exact hys
    intro D5 h5 tk5 F5 N5 off5
    have hb5 : ∀ n ∈ nums.map fun n => n % 256 ^ k, n < 256 ^ k := fun n hn => by
      obtain ⟨_, _, rfl⟩ := List.mem_map.mp hn
      exact Nat.mod_lt _ (Nat.pow_pos (by decide))
    have hn5 : (nums.map fun n => n % 256 ^ k).length = nums.length := List.length_map ..
    generalize (nums.map fun n => n % 256 ^ k) = nums5 at hys hb5 hn5 hnext
    have hvn5 : ys.length = nums5.length := by rw [IntsAre.length hys, List.length_map]
    walk_at "UPTO"
    k_dflt (refine LCg.Assign_ListComp_U (F₀ := F5) (by rfl) (by with_unfolding_all rfl) (by with_unfolding_all rfl) (by decide) (by rfl) (by decide) (by rfl) (by rfl) (by rfl) ?_)
    walk1
    refine LCg.CompSrc.ledger (its := ys.toArray) rfl F5 N5 (.head _) (by rw [List.size_toArray, hvn5, sizeLine_eq]; omega) fun g'' => ?_
    rw [List.size_toArray]
    refine comp_rest (n := ys.length) (fun i zs nw => nw = _ ∧ DsIn [] zs ((nums5.take i).map fun n => D.b (beK k n))) ?_ ?_ ys.length 0 [] _ (by omega) ⟨rfl, .nil⟩
    · intro i v I oI C oC D m₂ zs nw h tk E' hi hv hg hC hx F2 N2 off ne
      obtain ⟨rfl, hzs⟩ := hg
      obtain ⟨y', ty, hy', rfl⟩ := nat_at hys (by simpa using hv)
      have hb9 := hb5 _ (List.mem_of_getElem? hy')
      walk_at "UPTO"
      refine LCg.CompEnd.intro (by k_asm) (by k_asm) _ (fun p hp => hp) off (.inr ⟨_, .head _, rfl, _, rfl⟩) ⟨rfl, ?_⟩
      rw [List.take_add_one, hy', List.map_append]
      exact DsIn.snoc hzs .b
    · intro zs nw hg
      obtain ⟨rfl, hzs⟩ := hg
      rw [hvn5, List.take_length] at hzs
      intro D6 h6 tk6 F6 N6 off6
      simp only [LCg.Off1, and_true] at off5 off6
      refine hnext _ h6 tk6 D5 D6 x dx ys zs _ _ kh kt u t2 nn o2 o3 F6 rfl rfl (News.sub N6 (fun q hq => List.Sublist.subset (.cons₂ _ (.cons₂ _ (.cons₂ _ (.cons₂ _ (.cons _ (.cons _ (.refl _))))))) hq)) ?_ ?_ ?_ ?_ d2 d3 hys hzs
      all_goals simp only [LCg.Off1, and_true]
      all_goals omega
end
end Mine
end

section
open PySem PySem.W PyProof.Rows PySem.Spec PySem.Calls Rlp
set_option Elab.async false
set_option maxRecDepth 100000
set_option maxHeartbeats 0
set_option linter.unusedVariables false
namespace Mine
theorem fillLS7 : (fun (_ : OpenLaw) (_ : Params → Frag) => True) PySem.Challenge.rw_bi0020_03 K := by
  k_fill
  trivial
/-- what the second loops ask of two numbers -/
def FitK (k n m : Nat) : Prop := blt (beK k n) (beK k m) = decide (n < m) ∧ (beK k n == beK k m) = decide (n = m)
def BackK (k n : Nat) : Prop := n < 256 ^ k ∧ (enc (.b (beK k n))).length < 2 ^ 23 ∧ item (enc (.b (beK k n))) 2 0 = .ok (.b (beK k n), enc (.b (beK k n)), (enc (.b (beK k n))).length) ∧ (beK k n).length = k ∧ ofBe (beK k n) = n
local macro_rules | `(tactic| walk_at "bsz") => `(tactic| ((try simp only [List.size_toArray, List.length_append, List.length_cons, List.length_nil, be_length, beK_length, slice_length]); omega))
local macro_rules | `(tactic| walk_at "call builtin:len") => `(tactic| ((with_reducible show wpAny _ _ (call (Value.builtin _) [Value.bytes (List.toArray _) _]) _ _ _); refine len_bytes (by walk_at "bsz") ?_; (try simp only [List.size_toArray, be_length])))
local macro_rules | `(tactic| walk_at "binaryOp Add bytes bytes") => `(tactic| ((with_reducible show wpAny _ _ (binaryOp Operator.Add (Value.bytes (List.toArray _) _) (Value.bytes (List.toArray _) _)) _ _ _); refine KBy.add_bytes (by walk_at "bsz") ?_; intro _ _; (try simp only [List.append_toArray, List.cons_append, List.nil_append])))
local macro_rules | `(tactic| walk_at "subscriptTail") => `(tactic| ((with_reducible show wpAny _ _ (subscriptTail _ _ (Value.bytes (List.toArray _) _) (Value.ref _)) _ _ _); refine slice_int (s := ⟨_, _, _, _, _⟩) (by k_asm) (by k_asm) (by omega) (by omega) (by omega) ?_; intro _ _ _ _ _))
local macro_rules | `(tactic| walk_at "dp") => `(tactic| ((show _ + _ < _); simp only [ktr_dp, ktr_un]; omega))
local macro_rules | `(tactic| walk_at "call ref") => `(tactic| ((with_reducible show wpAny _ _ (call (Value.ref 1464) _) _ _ _); (k_dflt (refine' b2i ?k1 ?k2 ?k3 ?k4 ?k5 ?k6 ?k7 ?k8 ?k9 ?_; (case k1 => k_asm); (case k2 => k_asm); (case k3 => k_asm); (case k4 => k_asm); (case k5 => k_asm); (case k6 => exact ⟨rfl, rfl⟩); (case k7 => walk_at "dp"); (case k8 => walk_at "dp"); (case k9 => walk_at "bsz"))); intro _ _ _ _ _))
local macro_rules | `(tactic| walk_at "call ref") => `(tactic| ((with_reducible show wpAny _ _ (call (Value.ref 1736) _) _ _ _); (k_dflt (refine' clp_ok ?k1 ?k2 ?k3 ?k4 ?k5 ?k6 ?k7 ?k8 ?k9 ?k0 ?_; (case k1 => k_asm); (case k2 => k_asm); (case k3 => k_asm); (case k4 => k_asm); (case k5 => k_asm); (case k6 => exact ⟨rfl, rfl⟩); (case k7 => walk_at "dp"); (case k8 => walk_at "dp"); (case k9 => walk_at "bsz"); (case k0 => assumption))); intro _ _ _ _ _ _ _ _ _ _))
local macro_rules | `(tactic| walk_at "call ref") => `(tactic| ((with_reducible show wpAny _ _ (call (Value.ref 1457) _) _ _ _); (k_dflt (refine' is_b ?k1 ?k2 ?k3 ?k4 ?k5 ?k6 ?k7 ?k8 ?_; (case k1 => k_asm); (case k2 => k_asm); (case k3 => k_asm); (case k4 => k_asm); (case k5 => k_asm); (case k6 => exact ⟨rfl, rfl⟩); (case k7 => walk_at "dp"); (case k8 => walk_at "dp"))); intro _ _ _ _))
local macro_rules | `(tactic| walk_at "call ref") => `(tactic| ((with_reducible show wpAny _ _ (call (Value.ref 1714) _) _ _ _); (k_dflt (refine' dr_ok ?k1 ?k2 ?k3 ?k4 ?k5 ?k6 ?k7 ?k8 ?k9 ?ka ?kb ?_; (case k1 => k_asm); (case k2 => k_asm); (case k3 => k_asm); (case k4 => k_asm); (case k5 => k_asm); (case ka => assumption); (case kb => assumption); (case k6 => exact ⟨rfl, rfl⟩); (case k7 => walk_at "dp"); (case k8 => walk_at "dp"); (case k9 => assumption))); intro _ _ _ _ _ _ _ _ _ _ _ _ _ _ _))
local macro_rules | `(tactic| walk_at "call ref") => `(tactic| ((with_reducible show wpAny _ _ (call (Value.ref 1500) [Value.ref 1509, _]) _ _ _); (k_dflt (refine' des_plain ?k1 ?k2 ?k3 ?k4 ?k5 ?k6 ?k7 ?k8 ?k9 ?k0 ?_; (case k1 => k_asm); (case k2 => k_asm); (case k3 => k_asm); (case k4 => k_asm); (case k5 => k_asm); (case k6 => exact ⟨rfl, rfl⟩); (case k7 => walk_at "dp"); (case k8 => walk_at "dp"); (case k9 => walk_at "bsz"); (case k0 => assumption))); intro _ _ _ _ _))
local macro_rules | `(tactic| walk_at "call ref") => `(tactic| ((with_reducible show wpAny _ _ (call (Value.ref 1471) _) _ _ _); (k_dflt (refine' i2b ?k1 ?k2 ?k3 ?k4 ?k5 ?k6 ?k7 ?k8 ?k9 ?_; (case k1 => k_asm); (case k2 => k_asm); (case k3 => k_asm); (case k4 => k_asm); (case k5 => k_asm); (case k6 => exact ⟨rfl, rfl⟩); (case k7 => walk_at "dp"); (case k8 => walk_at "dp"); (case k9 => walk_at "bsz"))); intro _ _ _ _ _))
local macro_rules | `(tactic| k_mem) => `(tactic| (refine mem_of ?_; ktr_member))
local macro_rules | `(tactic| walk_at "dp") => `(tactic| (k_dflt ((try simp only [depth_deeper, depth_caller, units_in1, units_deeper, units_caller]); decide)))
local macro_rules | `(tactic| walk_at "compareOp Lt bytes bytes") => `(tactic| ((with_reducible show wpAny _ _ (compareOp CmpOp.Lt (Value.bytes (List.toArray _) _) (Value.bytes (List.toArray _) _)) _ _ _); refine lt_bytes ?_))
local macro_rules | `(tactic| walk_at "GUARD") => `(tactic| ((fail_if_success (with_reducible show UnrEndW _ _ _ _ _ _)); (fail_if_success (with_reducible show wpAny _ _ (call (Value.type "zip") _) _ _ _)); (fail_if_success (with_reducible show wpAny _ _ (call (Value.type "enumerate") _) _ _ _)); (fail_if_success (with_reducible show wpAny _ _ (exec (Stmt.Assign [_] (Expr.ListComp _ _ _ _) _) _) _ _ _)); (fail_if_success (with_reducible show wpAny _ _ (eval (Expr.ListComp _ _ _ _) _) _ _ _))))
local macro_rules | `(tactic| walk_at "UPTO") => `(tactic| repeat' (first | (k_unfold; (try dsimp only)) | (k_end; wrow_close) | (walk_at "GUARD"; walk1) | (dsimp only; walk_at "GUARD"; walk1) | (walk_at "GUARD"; leave1; (try dsimp only)) | fail "no step"))
local macro_rules | `(tactic| walk_at "call ref") => `(tactic| ((with_reducible show wpAny _ _ (call (Value.ref 1758) [Value.bytes _ _, Value.ref 1509]) _ _ _); (k_dflt (refine' de_plain (dep := 2) ?k1 ?k2 ?k3 ?k4 ?k5 ?k6 ?k7 ?k8 ?k9 ?ka ?kb ?kc ?kd ?_; (case k1 => k_asm); (case k2 => k_asm); (case k3 => k_asm); (case k4 => k_asm); (case k5 => k_asm); (case k6 => exact ⟨rfl, rfl⟩); (case k7 => walk_at "dp"); (case k8 => walk_at "dp"); (case k9 => assumption); (case ka => assumption); (case kb => exact Or.inl rfl); (case kc => assumption); (case kd => assumption))); intro _ _ _ _ _))
local macro_rules | `(tactic| walk_at "exec For Tuple Call cons nil") => `(tactic| (k_here; (rename Fr _ _ _ _ => lF'); (with_unfolding_all refine' For_turns lF' ?_ (hE := by assumption); k_whole)))
local macro_rules | `(tactic| walk_at "exec For Tuple Call") => `(tactic| (k_here; (rename Fr _ _ _ _ => lF'); (with_unfolding_all refine' For_turns lF' ?_ (hE := by assumption); k_whole)))
local macro_rules | `(tactic| walk_at "call ref") => `(tactic| ((with_reducible show wpAny _ _ (call (Value.ref 1758) [Value.bytes _ _, Value.ref _]) _ _ _); (k_dflt (refine' de_len (dep := 2) ?k1 ?k2 ?k3 ?k4 ?k5 ?k6 ?k7 ?k8 ?k9 ?k0 ?ka ?kb ?kc ?kd ?ke ?kf ?_; (case k1 => k_asm); (case k2 => k_asm); (case k3 => k_asm); (case k4 => k_asm); (case k5 => k_asm); (case k6 => exact ⟨rfl, rfl⟩); (case k7 => walk_at "dp"); (case k8 => walk_at "dp"); (case k9 => omega); (case k0 => omega); (case ka => k_mem); (case kb => k_mem); (case kc => assumption); (case kd => assumption); (case ke => exact Or.inl rfl); (case kf => assumption))); intro _ _ _ _ _))
local macro_rules | `(tactic| walk_at "call ref") => `(tactic| ((with_reducible show wpAny _ _ (call (Value.ref 1722) [Value.int _ _, Value.ref _]) _ _ _); (k_dflt (refine' en_len ?k1 ?k2 ?k3 ?k4 ?k5 ?k6 ?k7 ?k8 ?k9 ?k0 ?ka ?kb ?kc ?kd ?_; (case k1 => k_asm); (case k2 => k_asm); (case k3 => k_asm); (case k4 => k_asm); (case k5 => k_asm); (case k6 => exact ⟨rfl, rfl⟩); (case k7 => walk_at "dp"); (case k8 => walk_at "dp"); (case k9 => omega); (case k0 => omega); (case ka => k_mem); (case kb => k_mem); (case kc => assumption); (case kd => walk_at "bsz"))); intro _ _ _ _ _))
local macro_rules | `(tactic| walk_at "call ref") => `(tactic| ((with_reducible show wpAny _ _ (call (Value.ref 1500) [Value.ref _, _]) _ _ _); (k_dflt (refine' des_len ?k1 ?k2 ?k3 ?k4 ?k5 ?k6 ?k7 ?k8 ?k9 ?k0 ?ka ?kb ?kc ?_; (case k1 => k_asm); (case k2 => k_asm); (case k3 => k_asm); (case k4 => k_asm); (case k5 => k_asm); (case k6 => exact ⟨rfl, rfl⟩); (case k7 => walk_at "dp"); (case k8 => walk_at "dp"); (case k9 => omega); (case k0 => omega); (case ka => assumption); (case kb => k_mem); (case kc => k_mem);)); intro _ _ _ _ _))
section
variable {w : World} {p : Program} {loose : List Str} {mean : ExcName → Option Value} {mg mb : Str → Option Value} {g : Heap} {L fa : Nat} {cd : Value} {m : Str → Option Value} {s : Shared} {Q : Flow → Shared → Prop} {E : Value → Shared → Prop}
theorem seg7 {DN DM x dx : Nat} {vN vM : List Value} {nN nM nn k : Nat} {kh : Int} {kt u t2 : Tok} {nums : List Nat} {o2 o3 c1 c4 c5 c6 : Obj}
    (K0 : Below callerA g [] g) (X : (K w.params).In g) (T : Top p loose mean mg mb g)
    (F : Fr g L s.heap m) (hm1 : m (Str.ofString "numbers") = some (.ref DN)) (hm2 : m (Str.ofString "made") = some (.ref DM))
    (N : News g L s.heap ((DM, W.listOf vM.toArray nM) :: (DN, W.listOf vN.toArray nN) :: (x, instObj 1503 dx) :: (dx, dictOf [⟨kh, .str (Str.ofString "length") kt, .int k u⟩] nn) :: (L + 1 + 1 + 1 + 1 + 1 + 1, c6) :: (L + 1 + 1 + 1 + 1 + 1, c5) :: (L + 1 + 1 + 1 + 1, c4) :: (L + 1 + 1 + 1, o3) :: (L + 1 + 1, o2) :: (L + 1, c1) :: (1702, tabObj #[]) :: []))
    (ho2 : o2.data = .cell (some (.int k t2))) (ho3 : o3.data = .cell (some (.ref x))) (hk1 : 1 ≤ k) (hk9 : k ≤ 9)
    (hN : IntsAre vN (nums.map fun n : Nat => (n : Int))) (hM : DsIn [] vM (nums.map fun n => D.b (beK k n))) (hnl : nums.length ≤ 11)
    (hback : ∀ n ∈ nums, BackK k n) (hfit : ∀ n ∈ nums, ∀ m ∈ nums, FitK k n m)
    (hE : PassesOwn (model rr.prog w) (callerA.deeper (lawE L fa cd)) (lawE L fa cd) E)
    (hnext : ∀ m' h' tk, Fr g L h' m' → News g L h' ((DM, W.listOf vM.toArray nM) :: (DN, W.listOf vN.toArray nN) :: (x, instObj 1503 dx) :: (dx, dictOf [⟨kh, .str (Str.ofString "length") kt, .int k u⟩] nn) :: (L + 1 + 1 + 1 + 1 + 1 + 1, c6) :: (L + 1 + 1 + 1 + 1 + 1, c5) :: (L + 1 + 1 + 1 + 1, c4) :: (L + 1 + 1 + 1, o3) :: (L + 1 + 1, o2) :: (L + 1, c1) :: (1702, tabObj #[]) :: []) →
      wpAny (model rr.prog w) (callerA.deeper (lawE L fa cd)) (execs (dL.body.drop 8) (lawE L fa cd)) Q E { s with heap := h', toks := tk }) :
    wpAny (model rr.prog w) (callerA.deeper (lawE L fa cd)) (execs (dL.body.drop 7) (lawE L fa cd)) Q E s := by
  rw [kst_name (m := m) (ps := [(Str.ofString "numbers", .ref DN), (Str.ofString "made", .ref DM)]) (fun q hq => by
    rcases List.mem_cons.mp hq with rfl | hq
    · exact hm1
    · rw [List.mem_singleton.mp hq]; exact hm2)] at F
  have hvn : vN.length = nums.length := by rw [IntsAre.length hN, List.length_map]
  have hvm : vM.length = nums.length := by rw [DsIn.len hM, List.length_map]
  walk_at "UPTO"
  rename Fr _ _ _ _ => F
  refine for_zipS (σ := Unit) [Str.ofString "n", Str.ofString "one", Str.ofString "m", Str.ofString "other"] (fun _ _ => _) (fun _ _ => True) () (l1 := DN) (l2 := DM) (xs := vN) (ys := vM) (n1 := nN) (n2 := nM) rfl F N (.tail _ (.head _)) (.head _) (by omega) trivial ?_ ?_
  · intro I i x0 y c u9 h tk T0 hI hx hy _ hT F2 hl1 hl2
    intro o1 e1 o2' e2 o3' e3 o4 e4 o5 e5 N2
    obtain ⟨d1, hd1, hdv⟩ := DsIn.at hM hy
    obtain ⟨y0, ty, hy0, rfl⟩ := ints_at hN hx
    obtain ⟨n, hn, rfl, rfl⟩ : ∃ n : Nat, nums[i]? = some n ∧ y0 = (n : Int) ∧ d1 = D.b (beK k n) := by
      rw [List.getElem?_map] at hy0 hd1
      cases h9 : nums[i]? with
      | none => rw [h9] at hy0; cases hy0
      | some y' => rw [h9] at hy0 hd1; exact ⟨y', rfl, by simpa using hy0.symm, by simpa using hd1.symm⟩
    cases hdv
    have hnm := List.mem_of_getElem? hn
    obtain ⟨b0, b1, b2, b3, b5⟩ := hback n hnm
    walk_at "UPTO"
    rotate_left 3
    · rename Fr _ _ _ _ => F3
      rename News _ _ _ _ => N3
      refine for_zipS (σ := Unit) [Str.ofString "m", Str.ofString "other"] (fun _ _ => _) (fun _ _ => True) () (l1 := DN) (l2 := DM) (xs := vN) (ys := vM) (n1 := nN) (n2 := nM) rfl F3 N3 (.tail _ (.tail _ (.tail _ (.tail _ (.tail _ (.tail _ (.head _))))))) (.tail _ (.tail _ (.tail _ (.tail _ (.tail _ (.head _)))))) (by omega) trivial ?_ ?_
      · intro I' i' x' y' c' u' h' tk' T' hI' hx' hy' _ hT' F4 hl1' hl2'
        intro o1' e1' o2' e2' o3' e3' o4' e4' o5' e5' N4
        obtain ⟨d1', hd1', hdv'⟩ := DsIn.at hM hy'
        obtain ⟨y0', ty', hy0', rfl⟩ := ints_at hN hx'
        obtain ⟨n', hn', rfl, rfl⟩ : ∃ n : Nat, nums[i']? = some n ∧ y0' = (n : Int) ∧ d1' = D.b (beK k n) := by
          rw [List.getElem?_map] at hy0' hd1'
          cases h9 : nums[i']? with
          | none => rw [h9] at hy0'; cases hy0'
          | some y' => rw [h9] at hy0' hd1'; exact ⟨y', rfl, by simpa using hy0'.symm, by simpa using hd1'.symm⟩
        cases hdv'
        have hnm' := List.mem_of_getElem? hn'
        obtain ⟨f1, f2⟩ := hfit n hnm n' hnm'
        have g1 : (blt (beK k n) (beK k n') != decide ((n : Int) < (n' : Int))) = false := by rw [f1]; simp
        have g2 : (((beK k n).toArray.toList == (beK k n').toArray.toList) != ((n : Int) == (n' : Int))) = false := by
          have e : ((n : Int) == (n' : Int)) = decide (n = n') := by
            rw [Bool.eq_iff_iff]; simp; omega
          show ((beK k n == beK k n') != _) = false
          rw [f2, e]; simp
        walk_at "UPTO"
        all_goals first
          | exact absurd (g1.symm.trans (by assumption)) Bool.false_ne_true
          | exact absurd (g2.symm.trans (by assumption)) Bool.false_ne_true
          | (refine turn_end _ (by assumption) (by assumption) (fun p hp => hp) (off_zip fun p hp => hI' p hp) ⟨⟨hl1', hl2', trivial⟩, (), rfl, trivial, ?_⟩
             intro z hz
             have h4 := hz
             simp only [List.contains_cons, List.contains_nil, Bool.or_false, Bool.or_eq_false_iff, beq_eq_false_iff_ne, ne_eq] at h4
             simp only [hz, h4, if_false, Bool.false_eq_true])
      · intro c u' h tk _ F2 N2
        walk_at "UPTO"
        refine turn_end _ (by assumption) (by assumption) (fun p hp => hp) (off_zip fun p hp => hI p hp) ⟨⟨hl1, hl2, trivial⟩, (), rfl, trivial, ?_⟩
        intro z hz
        have h4 := hz
        simp only [List.contains_cons, List.contains_nil, Bool.or_false, Bool.or_eq_false_iff, beq_eq_false_iff_ne, ne_eq] at h4
        have h5 : ([Str.ofString "m", Str.ofString "other"] : List Str).contains z = false := by
          simp only [List.contains_cons, List.contains_nil, Bool.or_false, Bool.or_eq_false_iff, beq_eq_false_iff_ne, ne_eq]
          exact ⟨h4.2.2.1, h4.2.2.2⟩
        simp only [hz, h4, h5, if_false, Bool.false_eq_true]
    all_goals exfalso
    all_goals simp only [beK_length, bne_self_eq_false, b5] at *
    all_goals first | omega | contradiction | exact absurd (by assumption) Bool.false_ne_true
  · intro c u h tk _ F2 N2
    refine hnext _ h tk F2 N2
end
end Mine
end

section
open PySem PySem.W PyProof.Rows PySem.Spec PySem.Calls Rlp
set_option Elab.async false
set_option maxRecDepth 100000
set_option maxHeartbeats 0
set_option linter.unusedVariables false
namespace Mine
theorem fillLS8 : (fun (_ : OpenLaw) (_ : Params → Frag) => True) PySem.Challenge.rw_bi0020_03 K := by
  k_fill
  trivial
section
variable {w : World} {p : Program} {loose : List Str} {mean : ExcName → Option Value} {mg mb : Str → Option Value} {dp un : Nat} {gd : Option (List Code)} {ev : Env} {outer : List Env} {A₀ : Around} {base h₀ : Heap} {L : Addr} {m : Str → Option Value} {news : List (Addr × Obj)} {s : Shared} {Q E : Value → Shared → Prop}
theorem lawatI {scr : Addr} {vs : List Value} {is : List Int} {k d : Int} {t u : Tok}
    (B : Below A₀ base outer h₀) (F : Fr h₀ L s.heap m) (X : (K w.params).In h₀) (N : News h₀ L s.heap news) (T : Top p loose mean mg mb h₀) (hk : ev.scope.kind = .function ∧ ev.frame = some L)
    (hd : dp + 10 < recursionLimit) (hu : un + 40 < cLine) (hL : h₀.IsList scr vs.toArray) (hI : IntsAre vs is) (hlen : is.length ≤ 63) (h0 : 0 ≤ k)
    (hret : ∀ h' tk' tk, Fr h₀ L h' m → News h₀ L h' news → Q (.int (is.getD k.toNat d) tk) { s with heap := h', toks := tk' }) :
    wpAny (model pg w) (ktrE dp un gd ev outer) (call (.ref 1770) [.ref scr, .int k t, .int d u]) Q E s := by
  obtain ⟨n, rfl⟩ := Int.eq_ofNat_of_zero_le h0
  exact lawat B F X N T hk hd hu hL hI hlen hret
end
local macro_rules | `(tactic| walk_at "bsz") => `(tactic| ((try simp only [List.size_toArray, List.length_append, List.length_cons, List.length_nil, be_length, beK_length, slice_length]); omega))
local macro_rules | `(tactic| walk_at "call builtin:len") => `(tactic| ((with_reducible show wpAny _ _ (call (Value.builtin _) [Value.bytes (List.toArray _) _]) _ _ _); refine len_bytes (by walk_at "bsz") ?_; (try simp only [List.size_toArray, be_length])))
local macro_rules | `(tactic| walk_at "binaryOp Add bytes bytes") => `(tactic| ((with_reducible show wpAny _ _ (binaryOp Operator.Add (Value.bytes (List.toArray _) _) (Value.bytes (List.toArray _) _)) _ _ _); refine KBy.add_bytes (by walk_at "bsz") ?_; intro _ _; (try simp only [List.append_toArray, List.cons_append, List.nil_append])))
local macro_rules | `(tactic| walk_at "subscriptTail") => `(tactic| ((with_reducible show wpAny _ _ (subscriptTail _ _ (Value.bytes (List.toArray _) _) (Value.ref _)) _ _ _); refine slice_int (s := ⟨_, _, _, _, _⟩) (by k_asm) (by k_asm) (by omega) (by omega) (by omega) ?_; intro _ _ _ _ _))
local macro_rules | `(tactic| walk_at "dp") => `(tactic| ((show _ + _ < _); simp only [ktr_dp, ktr_un]; omega))
local macro_rules | `(tactic| walk_at "call ref") => `(tactic| ((with_reducible show wpAny _ _ (call (Value.ref 1464) _) _ _ _); (k_dflt (refine' b2i ?k1 ?k2 ?k3 ?k4 ?k5 ?k6 ?k7 ?k8 ?k9 ?_; (case k1 => k_asm); (case k2 => k_asm); (case k3 => k_asm); (case k4 => k_asm); (case k5 => k_asm); (case k6 => exact ⟨rfl, rfl⟩); (case k7 => walk_at "dp"); (case k8 => walk_at "dp"); (case k9 => walk_at "bsz"))); intro _ _ _ _ _))
local macro_rules | `(tactic| walk_at "call ref") => `(tactic| ((with_reducible show wpAny _ _ (call (Value.ref 1736) _) _ _ _); (k_dflt (refine' clp_ok ?k1 ?k2 ?k3 ?k4 ?k5 ?k6 ?k7 ?k8 ?k9 ?k0 ?_; (case k1 => k_asm); (case k2 => k_asm); (case k3 => k_asm); (case k4 => k_asm); (case k5 => k_asm); (case k6 => exact ⟨rfl, rfl⟩); (case k7 => walk_at "dp"); (case k8 => walk_at "dp"); (case k9 => walk_at "bsz"); (case k0 => assumption))); intro _ _ _ _ _ _ _ _ _ _))
local macro_rules | `(tactic| walk_at "call ref") => `(tactic| ((with_reducible show wpAny _ _ (call (Value.ref 1457) _) _ _ _); (k_dflt (refine' is_b ?k1 ?k2 ?k3 ?k4 ?k5 ?k6 ?k7 ?k8 ?_; (case k1 => k_asm); (case k2 => k_asm); (case k3 => k_asm); (case k4 => k_asm); (case k5 => k_asm); (case k6 => exact ⟨rfl, rfl⟩); (case k7 => walk_at "dp"); (case k8 => walk_at "dp"))); intro _ _ _ _))
local macro_rules | `(tactic| walk_at "call ref") => `(tactic| ((with_reducible show wpAny _ _ (call (Value.ref 1714) _) _ _ _); (k_dflt (refine' dr_ok ?k1 ?k2 ?k3 ?k4 ?k5 ?k6 ?k7 ?k8 ?k9 ?ka ?kb ?_; (case k1 => k_asm); (case k2 => k_asm); (case k3 => k_asm); (case k4 => k_asm); (case k5 => k_asm); (case ka => assumption); (case kb => assumption); (case k6 => exact ⟨rfl, rfl⟩); (case k7 => walk_at "dp"); (case k8 => walk_at "dp"); (case k9 => assumption))); intro _ _ _ _ _ _ _ _ _ _ _ _ _ _ _))
local macro_rules | `(tactic| walk_at "call ref") => `(tactic| ((with_reducible show wpAny _ _ (call (Value.ref 1500) [Value.ref 1509, _]) _ _ _); (k_dflt (refine' des_plain ?k1 ?k2 ?k3 ?k4 ?k5 ?k6 ?k7 ?k8 ?k9 ?k0 ?_; (case k1 => k_asm); (case k2 => k_asm); (case k3 => k_asm); (case k4 => k_asm); (case k5 => k_asm); (case k6 => exact ⟨rfl, rfl⟩); (case k7 => walk_at "dp"); (case k8 => walk_at "dp"); (case k9 => walk_at "bsz"); (case k0 => assumption))); intro _ _ _ _ _))
local macro_rules | `(tactic| walk_at "call ref") => `(tactic| ((with_reducible show wpAny _ _ (call (Value.ref 1471) _) _ _ _); (k_dflt (refine' i2b ?k1 ?k2 ?k3 ?k4 ?k5 ?k6 ?k7 ?k8 ?k9 ?_; (case k1 => k_asm); (case k2 => k_asm); (case k3 => k_asm); (case k4 => k_asm); (case k5 => k_asm); (case k6 => exact ⟨rfl, rfl⟩); (case k7 => walk_at "dp"); (case k8 => walk_at "dp"); (case k9 => walk_at "bsz"))); intro _ _ _ _ _))
local macro_rules | `(tactic| k_mem) => `(tactic| (refine mem_of ?_; ktr_member))
local macro_rules | `(tactic| walk_at "dp") => `(tactic| (k_dflt ((try simp only [depth_deeper, depth_caller, units_in1, units_deeper, units_caller]); decide)))
local macro_rules | `(tactic| walk_at "compareOp Lt bytes bytes") => `(tactic| ((with_reducible show wpAny _ _ (compareOp CmpOp.Lt (Value.bytes (List.toArray _) _) (Value.bytes (List.toArray _) _)) _ _ _); refine lt_bytes ?_))
local macro_rules | `(tactic| walk_at "GUARD") => `(tactic| ((fail_if_success (with_reducible show wpAny _ _ (execs (Stmt.Assign [_] (Expr.List _ _) _ :: _) _) _ _ _)); (fail_if_success (with_reducible show UnrEndW _ _ _ _ _ _)); (fail_if_success (with_reducible show wpAny _ _ (call (Value.type "zip") _) _ _ _)); (fail_if_success (with_reducible show wpAny _ _ (call (Value.type "enumerate") _) _ _ _)); (fail_if_success (with_reducible show wpAny _ _ (exec (Stmt.Assign [_] (Expr.ListComp _ _ _ _) _) _) _ _ _)); (fail_if_success (with_reducible show wpAny _ _ (eval (Expr.ListComp _ _ _ _) _) _ _ _))))
local macro_rules | `(tactic| walk_at "UPTO") => `(tactic| repeat' (first | (k_unfold; (try dsimp only)) | (k_end; wrow_close) | (walk_at "GUARD"; walk1) | (dsimp only; walk_at "GUARD"; walk1) | (walk_at "GUARD"; leave1; (try dsimp only)) | fail "no step"))
local macro_rules | `(tactic| walk_at "call ref") => `(tactic| ((with_reducible show wpAny _ _ (call (Value.ref 1770) [Value.ref _, Value.int _ _, Value.int _ _]) _ _ _); (k_dflt (refine' lawatI ?k1 ?k2 ?k3 ?k4 ?k5 ?k6 ?k7 ?k8 ?k9 ?k0 ?ka ?kb ?_; (case k1 => k_asm); (case k2 => k_asm); (case k3 => k_asm); (case k4 => k_asm); (case k5 => k_asm); (case k6 => exact ⟨rfl, rfl⟩); (case k7 => walk_at "dp"); (case k8 => walk_at "dp"); (case k9 => assumption); (case k0 => assumption); (case ka => assumption); (case kb => omega))); intro _ _ _ _ _))
section
variable {w : World} {p : Program} {loose : List Str} {mean : ExcName → Option Value} {mg mb : Str → Option Value} {g : Heap} {L fa : Nat} {cd : Value} {m : Str → Option Value} {s : Shared} {Q : Flow → Shared → Prop} {E : Value → Shared → Prop}
theorem seg8 {DN DM x dx scr : Nat} {vN vM vs : List Value} {is : List Int} {nN nM nn k : Nat} {kh : Int} {kt u t2 : Tok} {o2 o3 c1 c4 c5 c6 : Obj}
    (K0 : Below callerA g [] g) (X : (K w.params).In g) (T : Top p loose mean mg mb g) (hL : g.IsList scr vs.toArray) (hI : IntsAre vs is) (hlen : is.length ≤ 63)
    (F : Fr g L s.heap m)
    (N : News g L s.heap ((DM, W.listOf vM.toArray nM) :: (DN, W.listOf vN.toArray nN) :: (x, instObj 1503 dx) :: (dx, dictOf [⟨kh, .str (Str.ofString "length") kt, .int k u⟩] nn) :: (L + 1 + 1 + 1 + 1 + 1 + 1, c6) :: (L + 1 + 1 + 1 + 1 + 1, c5) :: (L + 1 + 1 + 1 + 1, c4) :: (L + 1 + 1 + 1, o3) :: (L + 1 + 1, o2) :: (L + 1, c1) :: (1702, tabObj #[]) :: [])) (hDM : LCg.Off1 DM ((L + 1 + 1 + 1 + 1 + 1 + 1, c6) :: (L + 1 + 1 + 1 + 1 + 1, c5) :: (L + 1 + 1 + 1 + 1, c4) :: (L + 1 + 1 + 1, o3) :: (L + 1 + 1, o2) :: (L + 1, c1) :: (1702, tabObj #[]) :: [])) (hDN : LCg.Off1 DN ((L + 1 + 1 + 1 + 1 + 1 + 1, c6) :: (L + 1 + 1 + 1 + 1 + 1, c5) :: (L + 1 + 1 + 1 + 1, c4) :: (L + 1 + 1 + 1, o3) :: (L + 1 + 1, o2) :: (L + 1, c1) :: (1702, tabObj #[]) :: [])) (hdx : LCg.Off1 dx ((L + 1 + 1 + 1 + 1 + 1 + 1, c6) :: (L + 1 + 1 + 1 + 1 + 1, c5) :: (L + 1 + 1 + 1 + 1, c4) :: (L + 1 + 1 + 1, o3) :: (L + 1 + 1, o2) :: (L + 1, c1) :: (1702, tabObj #[]) :: [])) (hx : LCg.Off1 x ((L + 1 + 1 + 1 + 1 + 1 + 1, c6) :: (L + 1 + 1 + 1 + 1 + 1, c5) :: (L + 1 + 1 + 1 + 1, c4) :: (L + 1 + 1 + 1, o3) :: (L + 1 + 1, o2) :: (L + 1, c1) :: (1702, tabObj #[]) :: [])) (h17 : 1702 < L)
    (hc1 : c1.data = .cell (some (.ref scr))) (hc4 : c4.data = .cell none) (hc5 : c5.data = .cell none) (hc6 : c6.data = .cell none)
    (ho2 : o2.data = .cell (some (.int k t2))) (ho3 : o3.data = .cell (some (.ref x))) (hk1 : 1 ≤ k) (hk9 : k ≤ 9)
    {mn al : Nat} (hmn : 1 + (is.getD 6 1).fmod 3 = (mn : Int)) (hm1 : 1 ≤ mn) (hm3 : mn ≤ 3) (hal : (is.getD 7 1).fmod ((mn : Int) + 1) = (al : Int))
    (hnext : ∀ (m' : Str → Option Value) (h' : Heap) (tk x2 dx2 : Nat) (kh : Int) (kt u t5 t9 : Tok) (nn : Nat) (o4 o5 : Obj), Fr g L h' m' → m' (Str.ofString "many") = some (.int mn t9) → News g L h' ((x2, instObj 1503 dx2) :: (dx2, dictOf [⟨kh, .str (Str.ofString "length") kt, .int ((k + 1 : Nat) : Int) u⟩] nn) :: (L + 1 + 1 + 1 + 1 + 1 + 1, c6) :: (L + 1 + 1 + 1 + 1 + 1, o5) :: (L + 1 + 1 + 1 + 1, o4) :: (L + 1 + 1 + 1, o3) :: (L + 1 + 1, o2) :: (L + 1, c1) :: (1702, tabObj #[]) :: []) →
      LCg.Off1 dx2 ((L + 1 + 1 + 1 + 1 + 1 + 1, c6) :: (L + 1 + 1 + 1 + 1 + 1, o5) :: (L + 1 + 1 + 1 + 1, o4) :: (L + 1 + 1 + 1, o3) :: (L + 1 + 1, o2) :: (L + 1, c1) :: (1702, tabObj #[]) :: []) → LCg.Off1 x2 ((L + 1 + 1 + 1 + 1 + 1 + 1, c6) :: (L + 1 + 1 + 1 + 1 + 1, o5) :: (L + 1 + 1 + 1 + 1, o4) :: (L + 1 + 1 + 1, o3) :: (L + 1 + 1, o2) :: (L + 1, c1) :: (1702, tabObj #[]) :: []) → o4.data = .cell (some (.ref x2)) → o5.data = .cell (some (.int al t5)) →
      wpAny (model rr.prog w) (callerA.deeper (lawE L fa cd)) (execs (dL.body.drop 11) (lawE L fa cd)) Q E { s with heap := h', toks := tk })
    (hE : PassesOwn (model rr.prog w) (callerA.deeper (lawE L fa cd)) (lawE L fa cd) E) :
    wpAny (model rr.prog w) (callerA.deeper (lawE L fa cd)) (execs (dL.body.drop 8) (lawE L fa cd)) Q E s := by
  rw [kst_name (m := m) (ps := []) (fun q hq => nomatch hq)] at F
  simp only [LCg.Off1, and_true] at hDM hDN hdx hx
  have e6 : is.getD (Int.toNat 6) 1 = is.getD 6 1 := rfl
  have e7 : is.getD (Int.toNat 7) 1 = is.getD 7 1 := rfl
  walk_at "UPTO"
  · rename_i hz _ _ _ _
    rw [e6] at hz
    exfalso; omega
  rename_i x2 dx2 h1 l1 l2 _ _ _ _ _ _ _ _ _ _ _ h2 o4 d4 tk1 h3 tk2 t1 h4 h5 tk4 t2 hz h6 o5 F6 N6 d5
  clear_value qk ek
  clear qk ek
  rw [e6, hmn] at F6
  refine hnext _ h6 _ x2 dx2 _ _ _ _ _ _ o4 o5 F6 rfl (News.sub N6 (fun q hq => List.Sublist.subset (.cons_cons _ (.cons_cons _ (.cons _ (.cons _ (.cons _ (.cons _ (.refl _))))))) hq)) ?_ ?_ d4 (by rw [d5, e6, e7, hmn, hal])
  all_goals simp only [LCg.Off1, and_true]
  all_goals omega
end
end Mine
end

section
open PySem PySem.W PyProof.Rows PySem.Spec PySem.Calls Rlp
set_option Elab.async false
set_option maxRecDepth 100000
set_option maxHeartbeats 0
set_option linter.unusedVariables false
namespace Mine
theorem fillLS11 : (fun (_ : OpenLaw) (_ : Params → Frag) => True) PySem.Challenge.rw_bi0020_03 K := by
  k_fill
  trivial
def rowA (is : List Int) (k i : Nat) : Nat := (is.getD (8 + i) (300 * (i : Int)) % (256 : Int) ^ (k + 1)).toNat
def rowB (is : List Int) (k al i : Nat) : Nat := if i < al then rowA is k i else (is.getD (11 + i) (70 * (i : Int) + 9) % (256 : Int) ^ (k + 1)).toNat
theorem modK (a : Int) (k : Nat) : a.fmod (256 ^ ((k : Int) + 1).toNat) = ((a % (256 : Int) ^ (k + 1)).toNat : Int) := by
  rw [show ((k : Int) + 1).toNat = k + 1 by omega, Int.fmod_eq_emod_of_nonneg _ (Int.pow_nonneg (by decide)), Int.toNat_of_nonneg (Int.emod_nonneg _ (Int.ne_of_gt (Int.pow_pos (by decide))))]
local macro_rules | `(tactic| walk_at "bsz") => `(tactic| ((try simp only [List.size_toArray, List.length_append, List.length_cons, List.length_nil, be_length, beK_length, slice_length]); omega))
local macro_rules | `(tactic| walk_at "call builtin:len") => `(tactic| ((with_reducible show wpAny _ _ (call (Value.builtin _) [Value.bytes (List.toArray _) _]) _ _ _); refine len_bytes (by walk_at "bsz") ?_; (try simp only [List.size_toArray, be_length])))
local macro_rules | `(tactic| walk_at "binaryOp Add bytes bytes") => `(tactic| ((with_reducible show wpAny _ _ (binaryOp Operator.Add (Value.bytes (List.toArray _) _) (Value.bytes (List.toArray _) _)) _ _ _); refine KBy.add_bytes (by walk_at "bsz") ?_; intro _ _; (try simp only [List.append_toArray, List.cons_append, List.nil_append])))
local macro_rules | `(tactic| walk_at "subscriptTail") => `(tactic| ((with_reducible show wpAny _ _ (subscriptTail _ _ (Value.bytes (List.toArray _) _) (Value.ref _)) _ _ _); refine slice_int (s := ⟨_, _, _, _, _⟩) (by k_asm) (by k_asm) (by omega) (by omega) (by omega) ?_; intro _ _ _ _ _))
local macro_rules | `(tactic| walk_at "dp") => `(tactic| ((show _ + _ < _); simp only [ktr_dp, ktr_un]; omega))
local macro_rules | `(tactic| walk_at "call ref") => `(tactic| ((with_reducible show wpAny _ _ (call (Value.ref 1464) _) _ _ _); (k_dflt (refine' b2i ?k1 ?k2 ?k3 ?k4 ?k5 ?k6 ?k7 ?k8 ?k9 ?_; (case k1 => k_asm); (case k2 => k_asm); (case k3 => k_asm); (case k4 => k_asm); (case k5 => k_asm); (case k6 => exact ⟨rfl, rfl⟩); (case k7 => walk_at "dp"); (case k8 => walk_at "dp"); (case k9 => walk_at "bsz"))); intro _ _ _ _ _))
local macro_rules | `(tactic| walk_at "call ref") => `(tactic| ((with_reducible show wpAny _ _ (call (Value.ref 1736) _) _ _ _); (k_dflt (refine' clp_ok ?k1 ?k2 ?k3 ?k4 ?k5 ?k6 ?k7 ?k8 ?k9 ?k0 ?_; (case k1 => k_asm); (case k2 => k_asm); (case k3 => k_asm); (case k4 => k_asm); (case k5 => k_asm); (case k6 => exact ⟨rfl, rfl⟩); (case k7 => walk_at "dp"); (case k8 => walk_at "dp"); (case k9 => walk_at "bsz"); (case k0 => assumption))); intro _ _ _ _ _ _ _ _ _ _))
local macro_rules | `(tactic| walk_at "call ref") => `(tactic| ((with_reducible show wpAny _ _ (call (Value.ref 1457) _) _ _ _); (k_dflt (refine' is_b ?k1 ?k2 ?k3 ?k4 ?k5 ?k6 ?k7 ?k8 ?_; (case k1 => k_asm); (case k2 => k_asm); (case k3 => k_asm); (case k4 => k_asm); (case k5 => k_asm); (case k6 => exact ⟨rfl, rfl⟩); (case k7 => walk_at "dp"); (case k8 => walk_at "dp"))); intro _ _ _ _))
local macro_rules | `(tactic| walk_at "call ref") => `(tactic| ((with_reducible show wpAny _ _ (call (Value.ref 1714) _) _ _ _); (k_dflt (refine' dr_ok ?k1 ?k2 ?k3 ?k4 ?k5 ?k6 ?k7 ?k8 ?k9 ?ka ?kb ?_; (case k1 => k_asm); (case k2 => k_asm); (case k3 => k_asm); (case k4 => k_asm); (case k5 => k_asm); (case ka => assumption); (case kb => assumption); (case k6 => exact ⟨rfl, rfl⟩); (case k7 => walk_at "dp"); (case k8 => walk_at "dp"); (case k9 => assumption))); intro _ _ _ _ _ _ _ _ _ _ _ _ _ _ _))
local macro_rules | `(tactic| walk_at "call ref") => `(tactic| ((with_reducible show wpAny _ _ (call (Value.ref 1500) [Value.ref 1509, _]) _ _ _); (k_dflt (refine' des_plain ?k1 ?k2 ?k3 ?k4 ?k5 ?k6 ?k7 ?k8 ?k9 ?k0 ?_; (case k1 => k_asm); (case k2 => k_asm); (case k3 => k_asm); (case k4 => k_asm); (case k5 => k_asm); (case k6 => exact ⟨rfl, rfl⟩); (case k7 => walk_at "dp"); (case k8 => walk_at "dp"); (case k9 => walk_at "bsz"); (case k0 => assumption))); intro _ _ _ _ _))
local macro_rules | `(tactic| walk_at "call ref") => `(tactic| ((with_reducible show wpAny _ _ (call (Value.ref 1471) _) _ _ _); (k_dflt (refine' i2b ?k1 ?k2 ?k3 ?k4 ?k5 ?k6 ?k7 ?k8 ?k9 ?_; (case k1 => k_asm); (case k2 => k_asm); (case k3 => k_asm); (case k4 => k_asm); (case k5 => k_asm); (case k6 => exact ⟨rfl, rfl⟩); (case k7 => walk_at "dp"); (case k8 => walk_at "dp"); (case k9 => walk_at "bsz"))); intro _ _ _ _ _))
local macro_rules | `(tactic| k_mem) => `(tactic| (refine mem_of ?_; ktr_member))
local macro_rules | `(tactic| walk_at "dp") => `(tactic| (k_dflt ((try simp only [depth_deeper, depth_caller, units_in1, units_deeper, units_caller]); decide)))
local macro_rules | `(tactic| walk_at "compareOp Lt bytes bytes") => `(tactic| ((with_reducible show wpAny _ _ (compareOp CmpOp.Lt (Value.bytes (List.toArray _) _) (Value.bytes (List.toArray _) _)) _ _ _); refine lt_bytes ?_))
local macro_rules | `(tactic| walk_at "GUARD") => `(tactic| ((fail_if_success (with_reducible show UnrEndW _ _ _ _ _ _)); (fail_if_success (with_reducible show wpAny _ _ (call (Value.type "zip") _) _ _ _)); (fail_if_success (with_reducible show wpAny _ _ (call (Value.type "enumerate") _) _ _ _)); (fail_if_success (with_reducible show wpAny _ _ (exec (Stmt.Assign [_] (Expr.ListComp _ _ _ _) _) _) _ _ _)); (fail_if_success (with_reducible show wpAny _ _ (eval (Expr.ListComp _ _ _ _) _) _ _ _))))
local macro_rules | `(tactic| walk_at "UPTO") => `(tactic| repeat' (first | (k_unfold; (try dsimp only)) | (k_end; wrow_close) | (walk_at "GUARD"; walk1) | (dsimp only; walk_at "GUARD"; walk1) | (walk_at "GUARD"; leave1; (try dsimp only)) | fail "no step"))
local macro_rules | `(tactic| walk_at "GUARDE") => `(tactic| ((fail_if_success (with_reducible show wpAny _ _ (execs (Stmt.Assign [_] (Expr.ListComp _ _ _ _) _ :: _) _) _ _ _)); (fail_if_success (with_reducible show UnrEndW _ _ _ _ _ _)); (fail_if_success (with_reducible show wpAny _ _ (call (Value.type "zip") _) _ _ _)); (fail_if_success (with_reducible show wpAny _ _ (call (Value.type "enumerate") _) _ _ _)); (fail_if_success (with_reducible show wpAny _ _ (exec (Stmt.Assign [_] (Expr.ListComp _ _ _ _) _) _) _ _ _)); (fail_if_success (with_reducible show wpAny _ _ (eval (Expr.ListComp _ _ _ _) _) _ _ _))))
local macro_rules | `(tactic| walk_at "UPTOE") => `(tactic| repeat' (first | (k_unfold; (try dsimp only)) | (k_end; wrow_close) | (walk_at "GUARDE"; walk1) | (dsimp only; walk_at "GUARDE"; walk1) | (walk_at "GUARDE"; leave1; (try dsimp only)) | fail "no step"))
local macro_rules | `(tactic| walk_at "GUARDC") => `(tactic| ((fail_if_success (with_reducible show LCg.CompSrc _ _ _ _ _ _ _ _ _ _ _ _ _ _)); (fail_if_success (with_reducible show UnrEndW _ _ _ _ _ _)); (fail_if_success (with_reducible show wpAny _ _ (call (Value.type "zip") _) _ _ _)); (fail_if_success (with_reducible show wpAny _ _ (call (Value.type "enumerate") _) _ _ _)); (fail_if_success (with_reducible show wpAny _ _ (exec (Stmt.Assign [_] (Expr.ListComp _ _ _ _) _) _) _ _ _)); (fail_if_success (with_reducible show wpAny _ _ (eval (Expr.ListComp _ _ _ _) _) _ _ _))))
local macro_rules | `(tactic| walk_at "UPTOC") => `(tactic| repeat' (first | (k_unfold; (try dsimp only)) | (k_end; wrow_close) | (walk_at "GUARDC"; walk1) | (dsimp only; walk_at "GUARDC"; walk1) | (walk_at "GUARDC"; leave1; (try dsimp only)) | fail "no step"))
local macro_rules | `(tactic| walk_at "call ref") => `(tactic| ((with_reducible show wpAny _ _ (call (Value.ref 1770) [Value.ref _, Value.int _ _, Value.int _ _]) _ _ _); (k_dflt (refine' lawatI ?k1 ?k2 ?k3 ?k4 ?k5 ?k6 ?k7 ?k8 ?k9 ?k0 ?ka ?kb ?_; (case k1 => k_asm); (case k2 => k_asm); (case k3 => k_asm); (case k4 => k_asm); (case k5 => k_asm); (case k6 => exact ⟨rfl, rfl⟩); (case k7 => walk_at "dp"); (case k8 => walk_at "dp"); (case k9 => assumption); (case k0 => assumption); (case ka => assumption); (case kb => omega))); intro _ _ _ _ _))
section
variable {w : World} {p : Program} {loose : List Str} {mean : ExcName → Option Value} {mg mb : Str → Option Value} {g : Heap} {L fa : Nat} {cd : Value} {m : Str → Option Value} {s : Shared} {Q : Flow → Shared → Prop} {E : Value → Shared → Prop}
theorem seg11 {x2 dx2 scr : Nat} {vs : List Value} {is : List Int} {nn k mn al : Nat} {kh : Int} {kt u t2 t5 t9 : Tok} {o2 o3 o4 o5 c1 c6 : Obj}
    (K0 : Below callerA g [] g) (X : (K w.params).In g) (T : Top p loose mean mg mb g) (hL : g.IsList scr vs.toArray) (hI : IntsAre vs is) (hlen : is.length ≤ 63)
    (F : Fr g L s.heap m) (hm : m (Str.ofString "many") = some (.int mn t9))
    (N : News g L s.heap ((x2, instObj 1503 dx2) :: (dx2, dictOf [⟨kh, .str (Str.ofString "length") kt, .int ((k + 1 : Nat) : Int) u⟩] nn) :: (L + 1 + 1 + 1 + 1 + 1 + 1, c6) :: (L + 1 + 1 + 1 + 1 + 1, o5) :: (L + 1 + 1 + 1 + 1, o4) :: (L + 1 + 1 + 1, o3) :: (L + 1 + 1, o2) :: (L + 1, c1) :: (1702, tabObj #[]) :: [])) (hdx : LCg.Off1 dx2 ((L + 1 + 1 + 1 + 1 + 1 + 1, c6) :: (L + 1 + 1 + 1 + 1 + 1, o5) :: (L + 1 + 1 + 1 + 1, o4) :: (L + 1 + 1 + 1, o3) :: (L + 1 + 1, o2) :: (L + 1, c1) :: (1702, tabObj #[]) :: [])) (hx : LCg.Off1 x2 ((L + 1 + 1 + 1 + 1 + 1 + 1, c6) :: (L + 1 + 1 + 1 + 1 + 1, o5) :: (L + 1 + 1 + 1 + 1, o4) :: (L + 1 + 1 + 1, o3) :: (L + 1 + 1, o2) :: (L + 1, c1) :: (1702, tabObj #[]) :: [])) (h17 : 1702 < L)
    (hc1 : c1.data = .cell (some (.ref scr))) (hc6 : c6.data = .cell none)
    (ho2 : o2.data = .cell (some (.int k t2))) (ho4 : o4.data = .cell (some (.ref x2))) (ho5 : o5.data = .cell (some (.int al t5))) (hk1 : 1 ≤ k) (hk9 : k ≤ 9) (hm1 : 1 ≤ mn) (hm3 : mn ≤ 3)
    (hnext : ∀ (m' : Str → Option Value) (h' : Heap) (tk R D1 D2 : Nat) (v1 v2 : List Value) (nR n1 n2 : Nat) (o6 : Obj), Fr g L h' m' → News g L h' ((R, W.listOf (#[.ref D1, .ref D2] : Array Value) nR) :: (D2, W.listOf v2.toArray n2) :: (D1, W.listOf v1.toArray n1) :: (x2, instObj 1503 dx2) :: (dx2, dictOf [⟨kh, .str (Str.ofString "length") kt, .int ((k + 1 : Nat) : Int) u⟩] nn) :: (L + 1 + 1 + 1 + 1 + 1 + 1, o6) :: (L + 1 + 1 + 1 + 1 + 1, o5) :: (L + 1 + 1 + 1 + 1, o4) :: (L + 1 + 1 + 1, o3) :: (L + 1 + 1, o2) :: (L + 1, c1) :: (1702, tabObj #[]) :: []) →
      IntsAre v1 ((List.range mn).map fun i => ((rowA is k i : Nat) : Int)) → IntsAre v2 ((List.range mn).map fun i => ((rowB is k al i : Nat) : Int)) → o6.data = .cell (some (.ref R)) → (R ≠ 1702 ∧ D1 ≠ 1702 ∧ D2 ≠ 1702 ∧ x2 ≠ 1702 ∧ dx2 ≠ 1702) →
      wpAny (model rr.prog w) (callerA.deeper (lawE L fa cd)) (execs (dL.body.drop 13) (lawE L fa cd)) Q E { s with heap := h', toks := tk })
    (hE : PassesOwn (model rr.prog w) (callerA.deeper (lawE L fa cd)) (lawE L fa cd) E) :
    wpAny (model rr.prog w) (callerA.deeper (lawE L fa cd)) (execs (dL.body.drop 11) (lawE L fa cd)) Q E s := by
  rw [kst_name (m := m) (ps := [(Str.ofString "many", .int mn t9)]) (fun q hq => by rw [List.mem_singleton.mp hq]; exact hm)] at F
  simp only [LCg.Off1, and_true] at hdx hx
  walk_at "UPTO"
  k_dflt (refine LCg.ListComp_U (F₀ := by k_asm) (by with_unfolding_all rfl) (by decide) (by rfl) (by decide) (by rfl) ?_)
  walk_at "UPTO"
  k_dflt (refine LCg.ListComp_U (F₀ := by k_asm) (by with_unfolding_all rfl) (by decide) (by rfl) (by decide) (by rfl) ?_)
  walk_at "UPTOC"
  rename_i h1 tk1 _ _ _ _ _ hkl g1 hI8 hL8 D1 h2 tk2 oD1 R h3 l1 h4 o6 F4 N4 d6 h5 tk5 t5 u5 v5 hr5 F5 N5 up5
  replace hI8 : IntsAre ys ((List.range mn).map fun i => ((rowA is k i : Nat) : Int)) := by
    have e : (List.map (fun k' : Int => (is.getD (8 + k').toNat (300 * k')).fmod (256 ^ ((k : Int) + 1).toNat)) (rangeKs 0 ((mn : Int) - 0).toNat)) = ((List.range mn).map fun i => ((rowA is k i : Nat) : Int)) := by
      rw [Int.sub_zero, Int.toNat_natCast, rangeKs, List.map_map]
      refine List.map_congr_left fun i _ => ?_
      show (is.getD (8 + (0 + (i : Int))).toNat (300 * (0 + (i : Int)))).fmod (256 ^ ((k : Int) + 1).toNat) = _
      rw [modK, show (8 + (0 + (i : Int))).toNat = 8 + i by omega, Int.zero_add]
      rfl
    rw [← e]; exact hI8
  clear hL8
  have hyl : ys.length = mn := by rw [IntsAre.length hI8, List.length_map, List.length_range]
  refine LCg.CompSrc.range (n := mn) (by rfl) F5 N5 hr5 (small_one (by omega) (by omega) (by omega) (by omega)) (by rw [rangeSize_nat]; omega) (by rw [sizeLine_eq]; omega) fun g' => ?_
  refine comp_rest (n := mn) (fun i zs nw => nw = _ ∧ IntsAre zs ((List.range i).map fun i => ((rowB is k al i : Nat) : Int))) ?_ ?_ mn 0 [] _ (by omega) ⟨rfl, .nil⟩
  · intro i v I oI C oC D m₂ zs nw h tk E' hi hv hg hC hx F2 N2 off ne
    obtain ⟨rfl, hzs⟩ := hg
    obtain ⟨tv, rfl⟩ := hv
    obtain ⟨y0, tv0, hy0, hyv⟩ : ∃ y t, ((List.range mn).map fun i => ((rowA is k i : Nat) : Int))[i]? = some y ∧ ys[i]? = some (.int y t) := by
      have hlt : i < ys.length := by omega
      obtain ⟨n, t, h1, h2⟩ := ints_at hI8 (List.getElem?_eq_getElem hlt)
      exact ⟨n, t, h1, by rw [List.getElem?_eq_getElem hlt, h2]⟩
    rw [List.getElem?_map, List.getElem?_range hi] at hy0
    cases hy0
    walk_at "UPTO"
    · have hlt : 0 + (i : Int) < (al : Int) := by assumption
      have e9 : ((List.map (fun i => ((rowA is k i : Nat) : Int)) (List.range mn)).getD (0 + (i : Int)).toNat 0) = ((rowB is k al i : Nat) : Int) := by
        rw [show (0 + (i : Int)).toNat = i by omega, List.getD_eq_getElem?_getD, List.getElem?_map, List.getElem?_range hi, rowB, if_pos (by omega)]
        rfl
      rw [e9]
      refine LCg.CompEnd.intro (by k_asm) (by k_asm) _ (fun p hp => hp) off trivial ⟨rfl, ?_⟩
      rw [List.range_succ, List.map_append]
      exact IntsAre.snoc' hzs _ _
    · have hge : ¬ 0 + (i : Int) < (al : Int) := by assumption
      have e9 : (is.getD (11 + (0 + (i : Int))).toNat (70 * (0 + (i : Int)) + 9)).fmod (256 ^ ((k : Int) + 1).toNat) = ((rowB is k al i : Nat) : Int) := by
        rw [modK, show (11 + (0 + (i : Int))).toNat = 11 + i by omega, Int.zero_add, rowB, if_neg (by omega)]
      rw [e9]
      refine LCg.CompEnd.intro (by k_asm) (by k_asm) _ (fun p hp => hp) off trivial ⟨rfl, ?_⟩
      rw [List.range_succ, List.map_append]
      exact IntsAre.snoc' hzs _ _
  · intro zs nw hg
    obtain ⟨rfl, hzs⟩ := hg
    intro D2 h6 tk6 F6 N6 off6
    simp only [LCg.Off1, and_true] at off6
    walk_at "UPTOE"
    rename_i h7 F7 N7
    refine hnext _ h7 _ R D1 D2 ys zs (0 + 1) ys.length zs.length o6 F7 (News.sub N7 fun q hq => ?_) hI8 hzs d6 ?_
    · simp only [List.mem_cons] at hq ⊢
      rcases hq with rfl | rfl | rfl | hq
      · exact .inr (.inl rfl)
      · exact .inl rfl
      · exact .inr (.inr (.inl rfl))
      · exact .inr (.inr (.inr hq))
    · refine ⟨?_, ?_, ?_, ?_, ?_⟩ <;> omega
end
end Mine
end

section
open PySem PySem.W PyProof.Rows PySem.Spec PySem.Calls Rlp
set_option Elab.async false
set_option maxRecDepth 100000
set_option maxHeartbeats 0
set_option linter.unusedVariables false
namespace Mine
section
variable {prog : Program} {w : World} {A : Around} {E : Value → Shared → Prop} {s : Shared} {h₀ : Heap} {L : Addr} {m : Str → Option Value} {env : Env}
/-- one object of a ledger changes -/
theorem chg_one {h h' : Heap} {a : Addr} {o o' : Obj} {rest : List (Addr × Obj)} (F : Fr h₀ L h m) (N : News h₀ L h ((a, o) :: rest))
    (hk : ∀ b x, b ≠ a → h.get? b = some x → h'.get? b = some x) (ha : h'.get? a = some o') (off : ∀ p ∈ rest, p.1 ≠ a) : Fr h₀ L h' m ∧ News h₀ L h' ((a, o') :: rest) := by
  have z := N _ (List.mem_cons_self ..)
  refine ⟨⟨F.ns.at' fun o e => hk L o (Ne.symm z.2.1) e, fun b x e => hk b x ?_ (F.keep b x e), F.above⟩, fun p hp => ?_⟩
  · rintro rfl
    have := z.2.2
    rw [e] at this; cases this
  · rcases List.mem_cons.mp hp with rfl | hp
    · exact ⟨ha, z.2⟩
    · have z2 := N p (List.mem_cons_of_mem _ hp)
      exact ⟨hk _ _ (off p hp) z2.1, z2.2⟩
/-- the end of one element of a comprehension whose elements may make generators -/
def EndG (h₀ : Heap) (L : Addr) (m : Str → Option Value) (s₁ : Shared) (I : Addr) (oI : Obj) (C : Addr) (oC : Obj) (D : Addr) (oD : Obj) (rest : Value → List (Addr × Obj) → Array GenState → Prop) (y : Value) (s₂ : Shared) : Prop :=
  ∃ h' gs tk nw, s₂ = { s₁ with heap := h', gens := gs, toks := tk } ∧ Fr h₀ L h' m ∧ News h₀ L h' ((I, oI) :: (C, oC) :: (D, oD) :: nw) ∧ LCg.Off3 I C D nw ∧ rest y nw gs
theorem assign_compG {elt iter : Expr} {x y : Str} {px py : Pos} {scope : Scope} {cl : List (Str × Addr)} {pos spos : Pos} {Q : Flow → Shared → Prop} {ax : Addr} {its : Array Value} {k : Nat} {news : List (Addr × Obj)}
    (Good : Nat → List Value → List (Addr × Obj) → Array GenState → Prop) (hLe : env.locals = L)
    (hsw : swapsWith (.ListComp elt [⟨.Name x px, iter, [], 0⟩] scope pos) (some (.Name y py)) spos.line env = pure true)
    (hclos : closureFor scope env = pure cl) (hcell : ∀ z ∈ scope.names, z.2 ≠ .cell) (hkind : scope.kind = .function)
    (hnames : ∀ z ∈ scope.names, z.2 = .local → scope.names.lookup z.1 = some .local) (hx : scope.names.lookup x = some .local)
    (hy : env.kindOf y = some .local) (hp : (env.scope.kind == .class || (env.scope.kind == .module && env.locals != env.globals)) = false)
    (hh : A.handled = none) (hsz : its.size ≤ sizeLine)
    (hev : wpAny (model prog w) A (eval iter env) (fun xv s₁ => xv = .ref ax ∧ ∃ h tk, s₁ = { s with heap := h, toks := tk } ∧ Fr h₀ L h m ∧ News h₀ L h news) E s)
    (h0 : Good 0 [] news s.gens)
    (hsrc : ∀ i ys nw gs, Good i ys nw gs → (ax, ({ cls := .type "list", data := .seq its k } : Obj)) ∈ nw)
    (turn : ∀ i v I oI C oC D m₂ ys nw gs h tk (E' : Value → Shared → Prop), its[i]? = some v → Good i ys nw gs → LCg.NsObj oC m₂ → m₂ x = some v → Fr h₀ L h m → News h₀ L h ((I, oI) :: (C, oC) :: (D, LCg.lst ys) :: nw) → LCg.Off3 I C D nw → ((@Ne Nat I C) ∧ (@Ne Nat I D) ∧ (@Ne Nat C D)) →
      wpAny (model prog w) A (eval elt (compEnvC scope cl C env)) (EndG h₀ L m { s with heap := h, gens := gs, toks := tk } I oI C oC D (LCg.lst ys) (fun y nw' gs' => Good (i + 1) (ys ++ [y]) nw' gs')) E' { s with heap := h, gens := gs, toks := tk })
    (fin : ∀ ys nw gs D h tk, Good its.size ys nw gs → Fr h₀ L h (fun z => if z = y then some (.ref D) else m z) → News h₀ L h ((D, LCg.lst ys) :: nw) → LCg.Off1 D nw → Q .next { s with heap := h, gens := gs, toks := tk })
    (hs : ∀ x, foldedSetIterable iter env x = pure x := by intro _; rfl) :
    wpAny (model prog w) A (exec (.Assign [.Name y py] (.ListComp elt [⟨.Name x px, iter, [], 0⟩] scope pos) spos) env) Q E s := by
  subst hLe
  rw [exec_Assign_Name_used _ _ _ _ hsw]
  refine wpAny_bind (wpAny_standAt (wpAny_bind ?_))
  show wpAny _ A (do let _ ← comprehension (.ListComp elt [⟨.Name x px, iter, [], 0⟩] scope pos) scope env _ (newList []) false (eval iter env) (some (assign (.Name y py) env))) _ _ s
  refine wpAny_bind (wpAny_mono (wpAny_comprehension_free (use := some (assign (.Name y py) env)) (Q := fun _ s' => Q .next s') rfl hs hclos hkind hnames
    (wpAny_mono hev (fun xv s₁ h₁ => ?_) fun _ _ e => e)) (fun _ s' hq => wpAny_pure (wpAny_pure hq)) fun _ _ e => e)
  obtain ⟨rfl, h1, tk1, rfl, F, N⟩ := h₁
  have zax := N _ (hsrc _ _ _ _ h0)
  have hl : h1.IsList ax its := ⟨_, zax.1, rfl, _, rfl⟩
  refine wpAny_pyIter_list hl ?_
  have hI₀ : h₀.get? h1.objs.size = none := next_is_new F
  have hIL : h1.objs.size ≠ env.locals := Ne.symm (Nat.ne_of_lt F.ns.lt)
  generalize hH : h1.push { cls := .type "list_iterator", data := .fields #[.ref ax, .int 0 0] } = H1
  have u1 : ∀ b o, h1.get? b = some o → H1.get? b = some o := fun b o e => by rw [← hH]; exact Heap.get?_push_of_some _ e
  have hIt : H1.get? h1.objs.size = some { cls := .type "list_iterator", data := .fields #[.ref ax, .int 0 0] } := by rw [← hH]; exact Heap.get?_push_size _ rfl
  have s1 : H1.objs.size = h1.objs.size + 1 := by rw [← hH, Heap.size_push]
  have F1 := F.keeps u1
  have N1 := N.grown u1
  have hD₀ : h₀.get? H1.objs.size = none := next_is_new F1
  have hDL : H1.objs.size ≠ env.locals := Ne.symm (Nat.ne_of_lt F1.ns.lt)
  show wpAny _ A (newList []) _ _ { s with heap := H1, toks := tk1 }
  refine wpAny_newObj_type (wpAny_newFunctionEnv hcell (by intro y hy; simp at hy) (fun h₂ hns₂ hsb₂ => ?_) hkind)
  dsimp only at hns₂ hsb₂ ⊢
  generalize hH2 : H1.push { cls := .type "list", dict := none, data := .seq ([] : List Value).toArray } = H2 at hns₂ hsb₂ ⊢
  have u2 : ∀ b o, H1.get? b = some o → H2.get? b = some o := fun b o e => by rw [← hH2]; exact Heap.get?_push_of_some _ e
  have hDo : H2.get? H1.objs.size = some (LCg.lst []) := by rw [← hH2]; exact Heap.get?_push_size _ rfl
  have s2 : H2.objs.size = H1.objs.size + 1 := by rw [← hH2, Heap.size_push]
  have F2 := F1.keeps u2
  have N2 := N1.grown u2
  have hC₀ : h₀.get? H2.objs.size = none := next_is_new F2
  have hCL : H2.objs.size ≠ env.locals := Ne.symm (Nat.ne_of_lt F2.ns.lt)
  have u3 : ∀ b o, H2.get? b = some o → h₂.get? b = some o := fun b o e => hsb₂.extBut b o (Nat.ne_of_lt (Heap.lt_size e)) (Heap.get?_push_of_some _ e)
  have F3 := F2.keeps u3
  have N3 := N2.grown u3
  obtain ⟨oC, heC, hoC⟩ := LCg.ns_obj hns₂
  generalize hIa : h1.objs.size = I at *
  generalize hDa : H1.objs.size = D at *
  generalize hCa : H2.objs.size = C at *
  have nIC : I ≠ C := by omega
  have nID : I ≠ D := by omega
  have nCD : C ≠ D := by omega
  have N4 : News h₀ env.locals h₂ ((I, { cls := .type "list_iterator", data := .fields #[.ref ax, .int 0 0] }) :: (C, oC) :: (D, LCg.lst []) :: news) := fun p hp => by
    rcases List.mem_cons.mp hp with rfl | hp
    · exact ⟨u3 _ _ (u2 _ _ hIt), hIL, hI₀⟩
    rcases List.mem_cons.mp hp with rfl | hp
    · exact ⟨heC, hCL, hC₀⟩
    rcases List.mem_cons.mp hp with rfl | hp
    · exact ⟨u3 _ _ hDo, hDL, hD₀⟩
    · exact N3 p hp
  have lID : @LT.lt Nat _ I D := by omega
  have lDC : @LT.lt Nat _ D C := by omega
  have off0 : LCg.Off3 I C D news := LCg.Off3.of fun p hp => by
    have h9 : @LT.lt Nat _ p.1 I := hIa ▸ Heap.lt_size (N p hp).1
    exact ⟨Nat.ne_of_lt h9, Nat.ne_of_lt (Nat.lt_trans h9 (Nat.lt_trans lID lDC)), Nat.ne_of_lt (Nat.lt_trans h9 lID)⟩
  have hne : ax ≠ I := Nat.ne_of_lt (hIa ▸ Heap.lt_size zax.1)
  have W := Walks.list (prog := prog) (w := w) hh I ax hne its
  have src : ∀ {i ys nw gs} {h : Heap}, Good i ys nw gs → News h₀ env.locals h nw → h.IsList ax its := fun hg Nw => ⟨_, (Nw _ (hsrc _ _ _ _ hg)).1, rfl, _, rfl⟩
  have loop : ∀ s₃ : Shared, s₃ = { s with heap := h₂, toks := tk1 + ([] : List (Str × Value)).length } →
      codeAny (model prog w) A (.compLoop (.ListComp elt [⟨.Name x px, iter, [], 0⟩] scope pos) 0 (.ref I) (.ref D) (compEnvC scope cl C env))
        (compPost (model prog w) A E (some (assign (.Name y py) env)) (fun _ s' => Q .next s') (.ref D) C) s₃ := by
    rintro s₃ rfl
    refine codeAny_compLoop_tests
      (fun j s' => ∃ i ys h gs tk nw oI oC m', s' = { s with heap := h, gens := gs, toks := tk } ∧ i ≤ its.size ∧ j = its.size + 1 - i ∧ ys.length = i ∧ h.IsListIter I ax i ∧ LCg.NsObj oC m' ∧ Fr h₀ env.locals h m ∧
        News h₀ env.locals h ((I, oI) :: (C, oC) :: (D, LCg.lst ys) :: nw) ∧ LCg.Off3 I C D nw ∧ Good i ys nw gs) ?_ (its.size + 1)
      ⟨0, [], h₂, s.gens, _, news, _, oC, _, rfl, Nat.zero_le _, rfl, rfl, ⟨_, (N4 _ (List.mem_cons_self ..)).1, rfl, rfl⟩, hoC, F3, N4, off0, h0⟩
    rintro j s' ⟨i, ys, h, gs, tk, nw, oI, oC', m', rfl, hi, rfl, hyl, hit, hoC', F5, N5, off5, hg⟩
    have N5w : News h₀ env.locals h nw := fun p hp => N5 p (List.mem_cons_of_mem _ (List.mem_cons_of_mem _ (List.mem_cons_of_mem _ hp)))
    have off5m := off5.mem
    by_cases hlt : i < its.size
    · refine W.item i _ _ _ hlt ⟨hit, src hg N5w⟩ fun v h6 tk6 hv st6 hk6 => ?_
      obtain ⟨oI6, eI6⟩ : ∃ o, h6.get? I = some o := by obtain ⟨o, e, _⟩ := st6.1; exact ⟨o, e⟩
      obtain ⟨F6, N6⟩ := chg_one F5 N5 (fun b x hb e => hk6 b x (by simpa using hb) e) eI6 (fun p hp => by
        rcases List.mem_cons.mp hp with rfl | hp
        · exact Ne.symm nIC
        rcases List.mem_cons.mp hp with rfl | hp
        · exact Ne.symm nID
        · exact (off5m p hp).1)
      have nsC : h6.Ns C m' := hoC'.ns (N6 (C, oC') (List.mem_cons_of_mem _ (List.mem_cons_self ..))).1
      refine wpAny_assign_Name (wpAny_storeName_local (lookup_relabel_local hx) nsC (fun h7 hn7 hs7 => ?_) (by simp [compEnvC, relabel, hkind]))
      refine wpAny_tests_nil ?_
      simp only [if_true]
      obtain ⟨oC7, eC7, hoC7⟩ := LCg.ns_obj hn7
      obtain ⟨F7, N7⟩ := chg_one (rest := (I, oI6) :: (D, LCg.lst ys) :: nw) F6 (News.sub N6 fun q hq => by
          rcases List.mem_cons.mp hq with rfl | hq
          · exact List.mem_cons_of_mem _ (List.mem_cons_self ..)
          rcases List.mem_cons.mp hq with rfl | hq
          · exact List.mem_cons_self ..
          · exact List.mem_cons_of_mem _ (List.mem_cons_of_mem _ hq)) (fun b x hb e => hs7.extBut b x hb e) eC7 (fun p hp => by
        rcases List.mem_cons.mp hp with rfl | hp
        · exact nIC
        rcases List.mem_cons.mp hp with rfl | hp
        · exact Ne.symm nCD
        · exact (off5m p hp).2.1)
      refine wpAny_mono (turn i v I oI6 C oC7 D _ ys nw gs h7 _ _ hv hg hoC7 (by simp) F7 (News.sub N7 fun q hq => by
          rcases List.mem_cons.mp hq with rfl | hq
          · exact List.mem_cons_of_mem _ (List.mem_cons_self ..)
          rcases List.mem_cons.mp hq with rfl | hq
          · exact List.mem_cons_self ..
          · exact List.mem_cons_of_mem _ (List.mem_cons_of_mem _ hq)) off5 ⟨nIC, nID, nCD⟩) (fun e₁ s₄ h₄ => ?_) fun _ _ e => e
      obtain ⟨h8, gs8, tk8, nw8, rfl, F8, N8, off8, hg8⟩ := h₄
      have off8m := off8.mem
      have zD := (N8 (D, LCg.lst ys) (List.mem_cons_of_mem _ (List.mem_cons_of_mem _ (List.mem_cons_self ..)))).1
      have hit7 : h7.IsListIter I ax (i + 1) := st6.1.at fun o e => hs7.extBut _ _ nIC e
      have hit8 : h8.IsListIter I ax (i + 1) := by
        obtain ⟨o, e, r⟩ := hit7
        have e7 := (N7 (I, oI6) (List.mem_cons_of_mem _ (List.mem_cons_self ..))).1
        rw [e7] at e
        cases e
        exact ⟨_, (N8 (I, oI6) (List.mem_cons_self ..)).1, r⟩
      refine append_at (hsz := by show ys.toArray.size ≤ sizeLine; rw [List.size_toArray, hyl]; exact Nat.le_trans hi hsz) zD fun h9 hs9 hD9 => ?_
      obtain ⟨F9, N9⟩ := chg_one (o' := LCg.lst (ys ++ [e₁])) (rest := (I, oI6) :: (C, oC7) :: nw8) F8 (News.sub N8 fun q hq => by
          rcases List.mem_cons.mp hq with rfl | hq
          · exact List.mem_cons_of_mem _ (List.mem_cons_of_mem _ (List.mem_cons_self ..))
          rcases List.mem_cons.mp hq with rfl | hq
          · exact List.mem_cons_self ..
          rcases List.mem_cons.mp hq with rfl | hq
          · exact List.mem_cons_of_mem _ (List.mem_cons_self ..)
          · exact List.mem_cons_of_mem _ (List.mem_cons_of_mem _ (List.mem_cons_of_mem _ hq))) (fun b x hb e => hs9.extBut b x hb e) (hD9.trans (congrArg some (LCg.lst_snoc ys e₁))) (fun p hp => by
        rcases List.mem_cons.mp hp with rfl | hp
        · exact nID
        rcases List.mem_cons.mp hp with rfl | hp
        · exact nCD
        · exact (off8m p hp).2.2)
      exact ⟨its.size + 1 - (i + 1), by omega, i + 1, ys ++ [e₁], h9, gs8, tk8, nw8, oI6, oC7, _, rfl, hlt, rfl, by rw [List.length_append, List.length_singleton, hyl], hit8.at fun o e => hs9.extBut _ _ nID e, hoC7, F9, News.sub N9 (fun q hq => by
          rcases List.mem_cons.mp hq with rfl | hq
          · exact List.mem_cons_of_mem _ (List.mem_cons_self ..)
          rcases List.mem_cons.mp hq with rfl | hq
          · exact List.mem_cons_of_mem _ (List.mem_cons_of_mem _ (List.mem_cons_self ..))
          rcases List.mem_cons.mp hq with rfl | hq
          · exact List.mem_cons_self ..
          · exact List.mem_cons_of_mem _ (List.mem_cons_of_mem _ (List.mem_cons_of_mem _ hq))), off8, hg8⟩
    · obtain rfl : i = its.size := Nat.le_antisymm hi (Nat.not_lt.mp hlt)
      refine W.done _ _ _ ⟨hit, src hg N5w⟩ fun h6 tk6 hk6 => ?_
      have keep6 : ∀ b x, b ≠ I → h.get? b = some x → h6.get? b = some x := fun b x hb e => hk6 b x (by simpa using hb) e
      have zI := N5 _ (List.mem_cons_self ..)
      have F6 : Fr h₀ env.locals h6 m := ⟨F5.ns.at' fun o e => keep6 _ o (Ne.symm zI.2.1) e, fun b x e => keep6 b x (fun q => by have := zI.2.2; rw [← q, e] at this; cases this) (F5.keep b x e), F5.above⟩
      have N6 : News h₀ env.locals h6 ((C, oC') :: (D, LCg.lst ys) :: nw) := fun p hp => by
        have z := N5 p (List.mem_cons_of_mem _ hp)
        refine ⟨keep6 _ _ ?_ z.1, z.2⟩
        rcases List.mem_cons.mp hp with rfl | hp
        · exact Ne.symm nIC
        rcases List.mem_cons.mp hp with rfl | hp
        · exact Ne.symm nID
        · exact (off5m p hp).1
      show wpAny _ A (assign (.Name y py) env (.ref D)) _ _ _
      refine wpAny_assign_Name (wpAny_storeName_local hy F6.ns (fun h7 hn7 hs7 => ?_) hp)
      have hL₀ : h₀.get? env.locals = none := Heap.get?_none_of_le F6.above
      have F7 : Fr h₀ env.locals h7 (fun z => if z = y then some (.ref D) else m z) := ⟨hn7, fun b o e => hs7.extBut b o (fun q => by rw [q, hL₀] at e; cases e) (F6.keep b o e), F6.above⟩
      have N7 : News h₀ env.locals h7 ((C, oC') :: (D, LCg.lst ys) :: nw) := fun p hp => ⟨hs7.extBut _ _ (N6 p hp).2.1 (N6 p hp).1, (N6 p hp).2⟩
      refine ⟨m', hoC'.ns (N7 _ (List.mem_cons_self ..)).1, fun h8 hs8 => fin ys nw gs D h8 _ hg (F7.change hs8 hCL hC₀) (fun p hp => ?_) off5.one⟩
      have z := N7 p (List.mem_cons_of_mem _ hp)
      refine ⟨hs8.extBut _ _ ?_ z.1, z.2⟩
      rcases List.mem_cons.mp hp with rfl | hp
      · exact Ne.symm nCD
      · exact (off5m p hp).2.1
  exact codeAny_compStart_list (loop _ rfl) (W.self 0 _ _ _ ⟨⟨_, (N4 _ (List.mem_cons_self ..)).1, rfl, rfl⟩, src h0 N3⟩ (loop _ rfl))
end
end Mine
end

section
open PySem PySem.W PyProof.Rows PySem.Spec PySem.Calls Rlp
set_option Elab.async false
set_option maxRecDepth 100000
set_option maxHeartbeats 0
set_option linter.unusedVariables false
namespace Mine
theorem fillLS13 : (fun (_ : OpenLaw) (_ : Params → Frag) => True) PySem.Challenge.rw_bi0020_03 K := by
  k_fill
  trivial
/-- the octets of a row of numbers of k octets each -/
def eRow (k : Nat) (ns : List Nat) : List UInt8 := enc (.l (ns.map fun n => .b (beK k n)))
theorem off17 {c dc I C D R D2 D1 x2 dx2 L : Nat} {a1 a2 a3 a4 a5 a6 a7 a8 a9 a10 a11 a12 a13 a14 a15 a16 : Obj} (h1 : c ≠ 1702) (h2 : dc ≠ 1702) (h3 : I ≠ 1702) (h4 : C ≠ 1702) (h5 : D ≠ 1702) (hne : R ≠ 1702 ∧ D1 ≠ 1702 ∧ D2 ≠ 1702 ∧ x2 ≠ 1702 ∧ dx2 ≠ 1702) (h17 : 1702 < L) :
    ∀ p ∈ ([(c, a1), (dc, a2), (I, a3), (C, a4), (D, a5), (R, a6), (D2, a7), (D1, a8), (x2, a9), (dx2, a10), (L + 1 + 1 + 1 + 1 + 1 + 1, a11), (L + 1 + 1 + 1 + 1 + 1, a12), (L + 1 + 1 + 1 + 1, a13), (L + 1 + 1 + 1, a14), (L + 1 + 1, a15), (L + 1, a16)] : List (Nat × Obj)), p.1 ≠ 1702 := by
  intro q hq
  simp only [List.mem_cons, List.not_mem_nil, or_false] at hq
  rcases hq with rfl | rfl | rfl | rfl | rfl | rfl | rfl | rfl | rfl | rfl | rfl | rfl | rfl | rfl | rfl | rfl <;> (show @Ne Nat _ _) <;> omega
local macro_rules | `(tactic| walk_at "bsz") => `(tactic| ((try simp only [List.size_toArray, List.length_append, List.length_cons, List.length_nil, be_length, beK_length, slice_length]); omega))
local macro_rules | `(tactic| walk_at "call builtin:len") => `(tactic| ((with_reducible show wpAny _ _ (call (Value.builtin _) [Value.bytes (List.toArray _) _]) _ _ _); refine len_bytes (by walk_at "bsz") ?_; (try simp only [List.size_toArray, be_length])))
local macro_rules | `(tactic| walk_at "binaryOp Add bytes bytes") => `(tactic| ((with_reducible show wpAny _ _ (binaryOp Operator.Add (Value.bytes (List.toArray _) _) (Value.bytes (List.toArray _) _)) _ _ _); refine KBy.add_bytes (by walk_at "bsz") ?_; intro _ _; (try simp only [List.append_toArray, List.cons_append, List.nil_append])))
local macro_rules | `(tactic| walk_at "subscriptTail") => `(tactic| ((with_reducible show wpAny _ _ (subscriptTail _ _ (Value.bytes (List.toArray _) _) (Value.ref _)) _ _ _); refine slice_int (s := ⟨_, _, _, _, _⟩) (by k_asm) (by k_asm) (by omega) (by omega) (by omega) ?_; intro _ _ _ _ _))
local macro_rules | `(tactic| walk_at "dp") => `(tactic| ((show _ + _ < _); simp only [ktr_dp, ktr_un]; omega))
local macro_rules | `(tactic| walk_at "call ref") => `(tactic| ((with_reducible show wpAny _ _ (call (Value.ref 1464) _) _ _ _); (k_dflt (refine' b2i ?k1 ?k2 ?k3 ?k4 ?k5 ?k6 ?k7 ?k8 ?k9 ?_; (case k1 => k_asm); (case k2 => k_asm); (case k3 => k_asm); (case k4 => k_asm); (case k5 => k_asm); (case k6 => exact ⟨rfl, rfl⟩); (case k7 => walk_at "dp"); (case k8 => walk_at "dp"); (case k9 => walk_at "bsz"))); intro _ _ _ _ _))
local macro_rules | `(tactic| walk_at "call ref") => `(tactic| ((with_reducible show wpAny _ _ (call (Value.ref 1736) _) _ _ _); (k_dflt (refine' clp_ok ?k1 ?k2 ?k3 ?k4 ?k5 ?k6 ?k7 ?k8 ?k9 ?k0 ?_; (case k1 => k_asm); (case k2 => k_asm); (case k3 => k_asm); (case k4 => k_asm); (case k5 => k_asm); (case k6 => exact ⟨rfl, rfl⟩); (case k7 => walk_at "dp"); (case k8 => walk_at "dp"); (case k9 => walk_at "bsz"); (case k0 => assumption))); intro _ _ _ _ _ _ _ _ _ _))
local macro_rules | `(tactic| walk_at "call ref") => `(tactic| ((with_reducible show wpAny _ _ (call (Value.ref 1457) _) _ _ _); (k_dflt (refine' is_b ?k1 ?k2 ?k3 ?k4 ?k5 ?k6 ?k7 ?k8 ?_; (case k1 => k_asm); (case k2 => k_asm); (case k3 => k_asm); (case k4 => k_asm); (case k5 => k_asm); (case k6 => exact ⟨rfl, rfl⟩); (case k7 => walk_at "dp"); (case k8 => walk_at "dp"))); intro _ _ _ _))
local macro_rules | `(tactic| walk_at "call ref") => `(tactic| ((with_reducible show wpAny _ _ (call (Value.ref 1714) _) _ _ _); (k_dflt (refine' dr_ok ?k1 ?k2 ?k3 ?k4 ?k5 ?k6 ?k7 ?k8 ?k9 ?ka ?kb ?_; (case k1 => k_asm); (case k2 => k_asm); (case k3 => k_asm); (case k4 => k_asm); (case k5 => k_asm); (case ka => assumption); (case kb => assumption); (case k6 => exact ⟨rfl, rfl⟩); (case k7 => walk_at "dp"); (case k8 => walk_at "dp"); (case k9 => assumption))); intro _ _ _ _ _ _ _ _ _ _ _ _ _ _ _))
local macro_rules | `(tactic| walk_at "call ref") => `(tactic| ((with_reducible show wpAny _ _ (call (Value.ref 1500) [Value.ref 1509, _]) _ _ _); (k_dflt (refine' des_plain ?k1 ?k2 ?k3 ?k4 ?k5 ?k6 ?k7 ?k8 ?k9 ?k0 ?_; (case k1 => k_asm); (case k2 => k_asm); (case k3 => k_asm); (case k4 => k_asm); (case k5 => k_asm); (case k6 => exact ⟨rfl, rfl⟩); (case k7 => walk_at "dp"); (case k8 => walk_at "dp"); (case k9 => walk_at "bsz"); (case k0 => assumption))); intro _ _ _ _ _))
local macro_rules | `(tactic| walk_at "call ref") => `(tactic| ((with_reducible show wpAny _ _ (call (Value.ref 1471) _) _ _ _); (k_dflt (refine' i2b ?k1 ?k2 ?k3 ?k4 ?k5 ?k6 ?k7 ?k8 ?k9 ?_; (case k1 => k_asm); (case k2 => k_asm); (case k3 => k_asm); (case k4 => k_asm); (case k5 => k_asm); (case k6 => exact ⟨rfl, rfl⟩); (case k7 => walk_at "dp"); (case k8 => walk_at "dp"); (case k9 => walk_at "bsz"))); intro _ _ _ _ _))
local macro_rules | `(tactic| k_mem) => `(tactic| (refine mem_of ?_; ktr_member))
local macro_rules | `(tactic| walk_at "dp") => `(tactic| (k_dflt ((try simp only [depth_deeper, depth_caller, units_in1, units_deeper, units_caller]); decide)))
local macro_rules | `(tactic| walk_at "compareOp Lt bytes bytes") => `(tactic| ((with_reducible show wpAny _ _ (compareOp CmpOp.Lt (Value.bytes (List.toArray _) _) (Value.bytes (List.toArray _) _)) _ _ _); refine lt_bytes ?_))
local macro_rules | `(tactic| walk_at "GUARD") => `(tactic| ((fail_if_success (with_reducible show wpAny _ _ (call (Value.ref 1722) _) _ _ _)); (fail_if_success (with_reducible show wpAny _ _ (call (Value.ref 1758) _) _ _ _)); (fail_if_success (with_reducible show UnrEndW _ _ _ _ _ _)); (fail_if_success (with_reducible show wpAny _ _ (call (Value.type "zip") _) _ _ _)); (fail_if_success (with_reducible show wpAny _ _ (call (Value.type "enumerate") _) _ _ _)); (fail_if_success (with_reducible show wpAny _ _ (exec (Stmt.Assign [_] (Expr.ListComp _ _ _ _) _) _) _ _ _)); (fail_if_success (with_reducible show wpAny _ _ (eval (Expr.ListComp _ _ _ _) _) _ _ _))))
local macro_rules | `(tactic| walk_at "UPTO") => `(tactic| repeat' (first | (k_unfold; (try dsimp only)) | (k_end; wrow_close) | (walk_at "GUARD"; walk1) | (dsimp only; walk_at "GUARD"; walk1) | (walk_at "GUARD"; leave1; (try dsimp only)) | fail "no step"))
local macro_rules | `(tactic| walk_at "GUARDE") => `(tactic| ((fail_if_success (with_reducible show wpAny _ _ (execs (Stmt.Assign [_] (Expr.ListComp _ _ _ _) _ :: _) _) _ _ _)); (fail_if_success (with_reducible show wpAny _ _ (call (Value.ref 1722) _) _ _ _)); (fail_if_success (with_reducible show wpAny _ _ (call (Value.ref 1758) _) _ _ _)); (fail_if_success (with_reducible show UnrEndW _ _ _ _ _ _)); (fail_if_success (with_reducible show wpAny _ _ (call (Value.type "zip") _) _ _ _)); (fail_if_success (with_reducible show wpAny _ _ (call (Value.type "enumerate") _) _ _ _)); (fail_if_success (with_reducible show wpAny _ _ (exec (Stmt.Assign [_] (Expr.ListComp _ _ _ _) _) _) _ _ _)); (fail_if_success (with_reducible show wpAny _ _ (eval (Expr.ListComp _ _ _ _) _) _ _ _))))
local macro_rules | `(tactic| walk_at "UPTOE") => `(tactic| repeat' (first | (k_unfold; (try dsimp only)) | (k_end; wrow_close) | (walk_at "GUARDE"; walk1) | (dsimp only; walk_at "GUARDE"; walk1) | (walk_at "GUARDE"; leave1; (try dsimp only)) | fail "no step"))
local macro_rules | `(tactic| walk_at "GUARDC") => `(tactic| ((fail_if_success (with_reducible show LCg.CompSrc _ _ _ _ _ _ _ _ _ _ _ _ _ _)); (fail_if_success (with_reducible show wpAny _ _ (call (Value.ref 1722) _) _ _ _)); (fail_if_success (with_reducible show wpAny _ _ (call (Value.ref 1758) _) _ _ _)); (fail_if_success (with_reducible show UnrEndW _ _ _ _ _ _)); (fail_if_success (with_reducible show wpAny _ _ (call (Value.type "zip") _) _ _ _)); (fail_if_success (with_reducible show wpAny _ _ (call (Value.type "enumerate") _) _ _ _)); (fail_if_success (with_reducible show wpAny _ _ (exec (Stmt.Assign [_] (Expr.ListComp _ _ _ _) _) _) _ _ _)); (fail_if_success (with_reducible show wpAny _ _ (eval (Expr.ListComp _ _ _ _) _) _ _ _))))
local macro_rules | `(tactic| walk_at "UPTOC") => `(tactic| repeat' (first | (k_unfold; (try dsimp only)) | (k_end; wrow_close) | (walk_at "GUARDC"; walk1) | (dsimp only; walk_at "GUARDC"; walk1) | (walk_at "GUARDC"; leave1; (try dsimp only)) | fail "no step"))
section
variable {w : World} {p : Program} {loose : List Str} {mean : ExcName → Option Value} {mg mb : Str → Option Value} {g : Heap} {L fa : Nat} {cd : Value} {m : Str → Option Value} {s : Shared} {Q : Flow → Shared → Prop} {E : Value → Shared → Prop}
theorem seg13 {R D1 D2 x2 dx2 : Nat} {v1 v2 : List Value} {nR n1 n2 nn k : Nat} {nsA nsB : List Nat} {kh : Int} {kt u : Tok} {o2 o3 o4 o5 o6 c1 : Obj}
    (K0 : Below callerA g [] g) (X : (K w.params).In g) (T : Top p loose mean mg mb g)
    (F : Fr g L s.heap m)
    (N : News g L s.heap ((R, W.listOf (#[.ref D1, .ref D2] : Array Value) nR) :: (D2, W.listOf v2.toArray n2) :: (D1, W.listOf v1.toArray n1) :: (x2, instObj 1503 dx2) :: (dx2, dictOf [⟨kh, .str (Str.ofString "length") kt, .int ((k + 1 : Nat) : Int) u⟩] nn) :: (L + 1 + 1 + 1 + 1 + 1 + 1, o6) :: (L + 1 + 1 + 1 + 1 + 1, o5) :: (L + 1 + 1 + 1 + 1, o4) :: (L + 1 + 1 + 1, o3) :: (L + 1 + 1, o2) :: (L + 1, c1) :: (1702, tabObj #[]) :: [])) (h17 : 1702 < L)
    (ho4 : o4.data = .cell (some (.ref x2))) (ho6 : o6.data = .cell (some (.ref R))) (hk1 : 1 ≤ k) (hk9 : k ≤ 9) (hne : R ≠ 1702 ∧ D1 ≠ 1702 ∧ D2 ≠ 1702 ∧ x2 ≠ 1702 ∧ dx2 ≠ 1702)
    (hA : IntsAre v1 (nsA.map fun n : Nat => (n : Int))) (hB : IntsAre v2 (nsB.map fun n : Nat => (n : Int))) (hlA : nsA.length ≤ 3) (hlB : nsB.length ≤ 3)
    (hbA : ∀ n ∈ nsA, n < 256 ^ (k + 1)) (hbB : ∀ n ∈ nsB, n < 256 ^ (k + 1)) (hzA : (eRow (k + 1) nsA).length < 2 ^ 23) (hzB : (eRow (k + 1) nsB).length < 2 ^ 23)
    (hE : PassesOwn (model rr.prog w) (callerA.deeper (lawE L fa cd)) (lawE L fa cd) E)
    (hnext : ∀ (m' : Str → Option Value) (h' : Heap) (gs : Array GenState) (tk DM : Nat) (vM : List Value) (nM : Nat) (ps : Array Value), Fr g L h' m' → m' (Str.ofString "made") = some (.ref DM) → News g L h' ((DM, W.listOf vM.toArray nM) :: (R, W.listOf (#[.ref D1, .ref D2] : Array Value) nR) :: (D2, W.listOf v2.toArray n2) :: (D1, W.listOf v1.toArray n1) :: (x2, instObj 1503 dx2) :: (dx2, dictOf [⟨kh, .str (Str.ofString "length") kt, .int ((k + 1 : Nat) : Int) u⟩] nn) :: (L + 1 + 1 + 1 + 1 + 1 + 1, o6) :: (L + 1 + 1 + 1 + 1 + 1, o5) :: (L + 1 + 1 + 1 + 1, o4) :: (L + 1 + 1 + 1, o3) :: (L + 1 + 1, o2) :: (L + 1, c1) :: (1702, tabObj ps) :: []) → LCg.Off1 DM ((R, W.listOf (#[.ref D1, .ref D2] : Array Value) nR) :: (D2, W.listOf v2.toArray n2) :: (D1, W.listOf v1.toArray n1) :: (x2, instObj 1503 dx2) :: (dx2, dictOf [⟨kh, .str (Str.ofString "length") kt, .int ((k + 1 : Nat) : Int) u⟩] nn) :: (L + 1 + 1 + 1 + 1 + 1 + 1, o6) :: (L + 1 + 1 + 1 + 1 + 1, o5) :: (L + 1 + 1 + 1 + 1, o4) :: (L + 1 + 1 + 1, o3) :: (L + 1 + 1, o2) :: (L + 1, c1) :: (1702, tabObj ps) :: []) → GC s.gens gs → TriplesOk ps.toList →
      DsIn [] vM [D.b (eRow (k + 1) nsA), D.b (eRow (k + 1) nsB)] →
      wpAny (model rr.prog w) (callerA.deeper (lawE L fa cd)) (execs (dL.body.drop 14) (lawE L fa cd)) Q E { s with heap := h', gens := gs, toks := tk }) :
    wpAny (model rr.prog w) (callerA.deeper (lawE L fa cd)) (execs (dL.body.drop 13) (lawE L fa cd)) Q E s := by
  rw [kst_name (m := m) (ps := []) (fun q hq => nomatch hq)] at F
  walk1
  k_dflt (refine assign_compG (ax := R) (its := #[.ref D1, .ref D2]) (k := nR) (h₀ := g) (L := L) (m := kstB m []) (news := ((R, W.listOf (#[.ref D1, .ref D2] : Array Value) nR) :: (D2, W.listOf v2.toArray n2) :: (D1, W.listOf v1.toArray n1) :: (x2, instObj 1503 dx2) :: (dx2, dictOf [⟨kh, .str (Str.ofString "length") kt, .int ((k + 1 : Nat) : Int) u⟩] nn) :: (L + 1 + 1 + 1 + 1 + 1 + 1, o6) :: (L + 1 + 1 + 1 + 1 + 1, o5) :: (L + 1 + 1 + 1 + 1, o4) :: (L + 1 + 1 + 1, o3) :: (L + 1 + 1, o2) :: (L + 1, c1) :: (1702, tabObj #[]) :: [])) (fun i ys nw gs => ∃ ps : Array Value, nw = ((R, W.listOf (#[.ref D1, .ref D2] : Array Value) nR) :: (D2, W.listOf v2.toArray n2) :: (D1, W.listOf v1.toArray n1) :: (x2, instObj 1503 dx2) :: (dx2, dictOf [⟨kh, .str (Str.ofString "length") kt, .int ((k + 1 : Nat) : Int) u⟩] nn) :: (L + 1 + 1 + 1 + 1 + 1 + 1, o6) :: (L + 1 + 1 + 1 + 1 + 1, o5) :: (L + 1 + 1 + 1 + 1, o4) :: (L + 1 + 1 + 1, o3) :: (L + 1 + 1, o2) :: (L + 1, c1) :: (1702, tabObj ps) :: []) ∧ TriplesOk ps.toList ∧ GC s.gens gs ∧ DsIn [] ys ([D.b (eRow (k + 1) nsA), D.b (eRow (k + 1) nsB)].take i)) (by rfl) (by with_unfolding_all rfl) (by with_unfolding_all rfl) (by decide) (by rfl) (by decide) (by rfl) (by rfl) (by rfl) (by rfl) (by rw [sizeLine_eq]; exact Nat.le_of_ble_eq_true rfl) ?_ ?_ ?_ ?_ ?_)
  · walk1
    exact ⟨rfl, _, _, rfl, F, N⟩
  · exact ⟨#[], rfl, trivial, GC.refl _, .nil⟩
  · rintro i ys nw gs ⟨ps, rfl, _⟩
    exact .head _
  · rintro i v I oI C oC D m₂ ys nw gs h tk E' hv ⟨ps, rfl, hps, hgc, hys⟩ hC hx F2 N2 off ne
    obtain ⟨Dr, vr, nr, ns, rfl, hmem, hI9, hl9, hb9, hz9, hi9⟩ : ∃ (Dr : Nat) (vr : List Value) (nr : Nat) (ns : List Nat), v = .ref Dr ∧ (Dr, W.listOf vr.toArray nr) ∈ [(D2, W.listOf v2.toArray n2), (D1, W.listOf v1.toArray n1)] ∧ IntsAre vr (ns.map fun n : Nat => (n : Int)) ∧ ns.length ≤ 3 ∧ (∀ n ∈ ns, n < 256 ^ (k + 1)) ∧ (eRow (k + 1) ns).length < 2 ^ 23 ∧ ([Rlp.D.b (eRow (k + 1) nsA), Rlp.D.b (eRow (k + 1) nsB)] : List Rlp.D)[i]? = some (Rlp.D.b (eRow (k + 1) ns)) := by
      match i, hv with
      | 0, hv => cases hv; exact ⟨D1, v1, n1, nsA, rfl, .tail _ (.head _), hA, hlA, hbA, hzA, rfl⟩
      | 1, hv => cases hv; exact ⟨D2, v2, n2, nsB, rfl, .head _, hB, hlB, hbB, hzB, rfl⟩
      | i + 2, hv => cases hv
    walk_at "UPTO"
    rename_i cE qk0 ek0 c dc h1 F1 N1 l1 l2 g1 L1 h2 FG B1 X1 T1 h3 h4 F3 N3 F4 N4 Tc kX
    simp only [LCg.Off3, and_true] at off
    obtain ⟨kh1, kt1, kh2, kt2, nc, N4⟩ : ∃ kh1 kt1 kh2 kt2 nc, News g L h4 ([(c, instObj 1696 dc), (dc, dictOf [⟨kh1, .str (Str.ofString "element_sedes") kt1, .ref x2⟩, ⟨kh2, .str (Str.ofString "max_length") kt2, .none⟩] nc), (I, oI), (C, oC), (D, LCg.lst ys), (R, W.listOf #[Value.ref D1, Value.ref D2] nR), (D2, W.listOf v2.toArray n2), (D1, W.listOf v1.toArray n1), (x2, instObj 1503 dx2), (dx2, dictOf [⟨kh, .str (Str.ofString "length") kt, .int ((k + 1 : Nat) : Int) u⟩] nn), (L + 1 + 1 + 1 + 1 + 1 + 1, o6), (L + 1 + 1 + 1 + 1 + 1, o5), (L + 1 + 1 + 1 + 1, o4), (L + 1 + 1 + 1, o3), (L + 1 + 1, o2), (L + 1, c1)] ++ [(1702, tabObj ps)]) := ⟨_, _, _, _, _, N4⟩
    have hmem' : (Dr, W.listOf vr.toArray nr) ∈ [(c, instObj 1696 dc), (dc, dictOf [⟨kh1, .str (Str.ofString "element_sedes") kt1, .ref x2⟩, ⟨kh2, .str (Str.ofString "max_length") kt2, .none⟩] nc), (I, oI), (C, oC), (D, LCg.lst ys), (R, W.listOf #[Value.ref D1, Value.ref D2] nR), (D2, W.listOf v2.toArray n2), (D1, W.listOf v1.toArray n1), (x2, instObj 1503 dx2), (dx2, dictOf [⟨kh, .str (Str.ofString "length") kt, .int ((k + 1 : Nat) : Int) u⟩] nn), (L + 1 + 1 + 1 + 1 + 1 + 1, o6), (L + 1 + 1 + 1 + 1 + 1, o5), (L + 1 + 1 + 1 + 1, o4), (L + 1 + 1 + 1, o3), (L + 1 + 1, o2), (L + 1, c1)] := by
      refine .tail _ (.tail _ (.tail _ (.tail _ (.tail _ (.tail _ ?_)))))
      rcases List.mem_cons.mp hmem with h | h
      · rw [h]; exact .head _
      · rw [List.mem_singleton.mp h]; exact .tail _ (.head _)
    k_dflt (refine' en_count (k := k + 1) (ns := ns) (row := Dr) (vs := vr) (ps := ps) (c := c) (dc := dc) (x := x2) (dx := dx2) ?k1 ?k2 ?k3 (News.sub N4 (fun q hq => (List.mem_cons.mp hq).elim (fun h => List.mem_append_right _ (List.mem_singleton.mpr h)) (fun h => List.mem_append_left _ h))) ?k5 ?k6 ?k7 ?k8 ?k9 ?k0 (.tail _ (.tail _ (.tail _ (.tail _ (.tail _ (.tail _ (.tail _ (.tail _ (.head _))))))))) (.tail _ (.tail _ (.tail _ (.tail _ (.tail _ (.tail _ (.tail _ (.tail _ (.tail _ (.head _)))))))))) ?kc hb9 hI9 hmem' (.head _) (.tail _ (.head _)) hps ?kh hz9 ?_; (case k1 => k_asm); (case k2 => k_asm); (case k3 => k_asm); (case k5 => k_asm); (case k6 => exact ⟨rfl, rfl⟩); (case k7 => walk_at "dp"); (case k8 => walk_at "dp"); (case k9 => omega); (case k0 => omega); (case kc => omega))
    case kh => exact off17 (by omega) (by omega) (by omega) (by omega) (by omega) hne h17
    intro h9 gs9 tk9 t9 ps9 F9 N9 hgc9 htr9
    refine ⟨h9, gs9, tk9, _, rfl, F9, News.sub N9 ?_, ?_, ps9, rfl, htr9, hgc.trans hgc9, ?_⟩
    · intro q hq
      have hq2 : q ∈ [(I, oI), (C, oC), (D, LCg.lst ys), (R, W.listOf #[Value.ref D1, Value.ref D2] nR), (D2, W.listOf v2.toArray n2), (D1, W.listOf v1.toArray n1), (x2, instObj 1503 dx2), (dx2, dictOf [⟨kh, .str (Str.ofString "length") kt, .int ((k + 1 : Nat) : Int) u⟩] nn), (L + 1 + 1 + 1 + 1 + 1 + 1, o6), (L + 1 + 1 + 1 + 1 + 1, o5), (L + 1 + 1 + 1 + 1, o4), (L + 1 + 1 + 1, o3), (L + 1 + 1, o2), (L + 1, c1)] ++ [(1702, tabObj ps9)] := hq
      rcases List.mem_append.mp hq2 with h | h
      · exact .tail _ (.tail _ (.tail _ h))
      · rw [List.mem_singleton.mp h]; exact .head _
    · simp only [LCg.Off3, and_true]; exact off
    · rw [List.take_add_one, hi9]
      exact DsIn.snoc hys .b
  · rintro ys nw gs D h tk ⟨ps, rfl, hps, hgc, hys⟩ F6 N6 off6
    exact hnext _ h gs tk D ys _ ps F6 rfl N6 off6 hgc hps hys
end
end Mine
end

section
set_option maxRecDepth 100000
set_option linter.unusedVariables false
set_option Elab.async false
open PySem PySem.W PyProof.Rows PySem.Spec PySem.Calls
namespace Mine
open Builtin PySem.MeetsSeq PySem.MeetsSeq2 PySem.MeetsSeq3 PySem.SeqRoads2 PySem.SeqAt
open PySem.AutoSeq1 (wpAny_loadPart')
/-- the order of numbers in a row, the first that differs decides -/
def ilt : List Int → List Int → Bool
  | [], [] => false
  | [], _ :: _ => true
  | _ :: _, [] => false
  | a :: x, b :: y => if a = b then ilt x y else decide (a < b)
theorem ilt_nil : ilt [] [] = false := rfl
theorem lt_loopAt (l b : Addr) (items items2 : Array Value) (n n2 : Nat) (dd dd2 : Option Addr) (sl sl2 : Array (Option Value)) (is js : List Int) (hi : IntsAre items.toList is) (hj : IntsAre items2.toList js) (hsz : items.size = items2.size) (k : Nat) :
    ∀ i : Nat, items.size - i = k → Meets (Builtin.«list.__eq__.loop» ⟨[.ref l, .ref b, rawInt i, rawInt 0], []⟩)
      (fun A R s => s.heap.get? l = some { cls := .type "list", dict := dd, data := .seq items n, slots := sl } ∧ s.heap.get? b = some { cls := .type "list", dict := dd2, data := .seq items2 n2, slots := sl2 } ∧
        R (.ok (.ret (.bool (ilt (is.drop i) (js.drop i))))) s) := by
  have hil : items.size = is.length := by rw [← IntsAre.length hi]; rfl
  have hjl : items2.size = js.length := by rw [← IntsAre.length hj]; rfl
  induction k with
  | zero =>
    intro i hk prog w A R s h
    obtain ⟨hp, g, d, tk, os⟩ := s; obtain ⟨hl, hb, h⟩ := h
    wp_walk using wpAny_loadPart' hl, wpAny_loadPart' hb
    have hi1 : items[((i : Nat) : Int).toNat]? = none := by simp; omega
    have hi2 : items2[((i : Nat) : Int).toNat]? = none := by simp; omega
    rw [List.drop_of_length_le (by omega), List.drop_of_length_le (by omega)] at h
    rw [hi1, hi2]
    wp_walk using wpAny_loadPart' hl, wpAny_loadPart' hb
    show R (.ok (.ret (.bool (decide (items.size < items2.size))))) _
    rw [hsz]
    simpa [ilt] using h
  | succ k ih =>
    intro i hk prog w A R s h
    obtain ⟨hp, g, d, tk, os⟩ := s; obtain ⟨hl, hb, h⟩ := h
    wp_walk using wpAny_loadPart' hl, wpAny_loadPart' hb
    have hlt : i < items.size := by omega
    have hlt2 : i < items2.size := by omega
    obtain ⟨x, tx, hx, hx'⟩ := ints_at (i := i) (y := items[i]) hi (by simp [hlt])
    obtain ⟨y, ty, hy, hy'⟩ := ints_at (i := i) (y := items2[i]) hj (by simp [hlt2])
    have hi1 : items[((i : Nat) : Int).toNat]? = some (.int x tx) := by simp [hlt, hx']
    have hi2 : items2[((i : Nat) : Int).toNat]? = some (.int y ty) := by simp [hlt2, hy']
    have hd1 : is.drop i = x :: is.drop (i + 1) := by
      obtain ⟨h1, h2⟩ := List.getElem?_eq_some_iff.mp hx
      rw [List.drop_eq_getElem_cons h1, h2]
    have hd2 : js.drop i = y :: js.drop (i + 1) := by
      obtain ⟨h1, h2⟩ := List.getElem?_eq_some_iff.mp hy
      rw [List.drop_eq_getElem_cons h1, h2]
    have hc : ((i : Int) + 1) = ((i + 1 : Nat) : Int) := by push_cast; rfl
    rw [hd1, hd2, ilt] at h
    rw [hi1, hi2]
    refine wpAny_bind (SeqAt.EqAt.int_int x tx y ty prog w _ _ ?_)
    by_cases hxy : x = y
    · rw [if_pos hxy] at h
      have e : (x == y) = true := by simp [hxy]
      rw [e]
      wp_walk
      rw [hc]
      exact ⟨plainId_quiet plain_eq_loop _, codeAny_builtin entry_eq_loop (by
        rw [Around.under_plainId plain_eq_loop _]
        exact ih (i + 1) (by omega) prog w A R _ ⟨hl, hb, h⟩)⟩
    · rw [if_neg hxy] at h
      have e : (x == y) = false := by simp [hxy]
      rw [e]
      wp_walk using wpAny_loadPart' hl, wpAny_loadPart' hb
      rw [hi1, hi2]
      show wpAny (model prog w) A.in1 (richCompare CmpOp.Lt (.int x tx) (.int y ty) >>= fun r => ret r) _ _ _
      refine wpAny_bind (richCompare_gives (op := .Lt) (typeIs_int _ x tx) (typeIs_int _ y ty) F.slot_int_lt F.entry_int_lt (F.args_int_lt_2 _ _) (gives_int_lt x y tx ty) (fun e => nomatch e) ?_)
      exact wpAny_pure h
theorem list_ltAt (l b : Addr) (items items2 : Array Value) (n n2 : Nat) (is js : List Int) (hi : IntsAre items.toList is) (hj : IntsAre items2.toList js) (hsz : items.size = items2.size) :
    Meets (Builtin.«list.__lt__» ⟨[.ref l, .ref b], []⟩)
      (fun A R s => s.heap.get? l = some { cls := .type "list", data := .seq items n } ∧ s.heap.get? b = some { cls := .type "list", data := .seq items2 n2 } ∧
        R (.ok (.ret (.bool (ilt is js)))) s) := by
  intro prog w A R s h
  obtain ⟨hp, g, d, tk, os⟩ := s; obtain ⟨hl, hb, h⟩ := h
  have f3 := AutoSeq1.sub_list_list
  wp_walk using wpAny_loadPart' hl, wpAny_loadPart' hb
  exact ⟨plainId_quiet plain_eq_loop _, codeAny_builtin entry_eq_loop (by
    rw [Around.under_plainId plain_eq_loop _]
    exact lt_loopAt l b items items2 n n2 _ _ _ _ is js hi hj hsz _ 0 rfl prog w A R _ ⟨hl, hb, by simpa using h⟩)⟩
section
variable {prog : Program} {w : World} {A : Around} {E : Value → Shared → Prop} {s : Shared} {a b : Addr} {xs ys : List Value} {ns ms : List Int} {Q : Value → Shared → Prop} {n1 n2 : Nat}
theorem lt_ints (ha : s.heap.get? a = some (W.listOf xs.toArray n1)) (hb : s.heap.get? b = some (W.listOf ys.toArray n2)) (hi : IntsAre xs ns) (hj : IntsAre ys ms) (hl : xs.length = ys.length) (hu : A.units < cLine) (h : Q (.bool (ilt ns ms)) s) :
    wpAny (model prog w) A (compareOp .Lt (.ref a) (.ref b)) Q E s := by
  show wpAny (model prog w) A (richCompare .Lt (.ref a) (.ref b)) Q E s
  refine richCompare_meets_room (op := .Lt) (T := "list") ⟨_, ha, rfl⟩ ⟨_, hb, rfl⟩ F.slot_list_lt F.entry_list_lt (F.args_list_lt_2 _ _) (list_ltAt a b _ _ n1 n2 ns ms hi hj (by simpa using hl)) ⟨ha, hb, ?_⟩ hu
  exact ⟨(fun e => nomatch e), h⟩
end
end Mine
end

section
open PySem PySem.W PyProof.Rows PySem.Spec PySem.Calls Rlp
set_option Elab.async false
set_option maxRecDepth 100000
set_option maxHeartbeats 0
set_option linter.unusedVariables false
namespace Mine
theorem fillLS14 : (fun (_ : OpenLaw) (_ : Params → Frag) => True) PySem.Challenge.rw_bi0020_03 K := by
  k_fill
  trivial
local macro_rules | `(tactic| walk_at "bsz") => `(tactic| ((try simp only [List.size_toArray, List.length_append, List.length_cons, List.length_nil, be_length, beK_length, slice_length]); omega))
local macro_rules | `(tactic| walk_at "call builtin:len") => `(tactic| ((with_reducible show wpAny _ _ (call (Value.builtin _) [Value.bytes (List.toArray _) _]) _ _ _); refine len_bytes (by walk_at "bsz") ?_; (try simp only [List.size_toArray, be_length])))
local macro_rules | `(tactic| walk_at "binaryOp Add bytes bytes") => `(tactic| ((with_reducible show wpAny _ _ (binaryOp Operator.Add (Value.bytes (List.toArray _) _) (Value.bytes (List.toArray _) _)) _ _ _); refine KBy.add_bytes (by walk_at "bsz") ?_; intro _ _; (try simp only [List.append_toArray, List.cons_append, List.nil_append])))
local macro_rules | `(tactic| walk_at "subscriptTail") => `(tactic| ((with_reducible show wpAny _ _ (subscriptTail _ _ (Value.bytes (List.toArray _) _) (Value.ref _)) _ _ _); refine slice_int (s := ⟨_, _, _, _, _⟩) (by k_asm) (by k_asm) (by omega) (by omega) (by omega) ?_; intro _ _ _ _ _))
local macro_rules | `(tactic| walk_at "dp") => `(tactic| ((show _ + _ < _); simp only [ktr_dp, ktr_un]; omega))
local macro_rules | `(tactic| walk_at "call ref") => `(tactic| ((with_reducible show wpAny _ _ (call (Value.ref 1464) _) _ _ _); (k_dflt (refine' b2i ?k1 ?k2 ?k3 ?k4 ?k5 ?k6 ?k7 ?k8 ?k9 ?_; (case k1 => k_asm); (case k2 => k_asm); (case k3 => k_asm); (case k4 => k_asm); (case k5 => k_asm); (case k6 => exact ⟨rfl, rfl⟩); (case k7 => walk_at "dp"); (case k8 => walk_at "dp"); (case k9 => walk_at "bsz"))); intro _ _ _ _ _))
local macro_rules | `(tactic| walk_at "call ref") => `(tactic| ((with_reducible show wpAny _ _ (call (Value.ref 1736) _) _ _ _); (k_dflt (refine' clp_ok ?k1 ?k2 ?k3 ?k4 ?k5 ?k6 ?k7 ?k8 ?k9 ?k0 ?_; (case k1 => k_asm); (case k2 => k_asm); (case k3 => k_asm); (case k4 => k_asm); (case k5 => k_asm); (case k6 => exact ⟨rfl, rfl⟩); (case k7 => walk_at "dp"); (case k8 => walk_at "dp"); (case k9 => walk_at "bsz"); (case k0 => assumption))); intro _ _ _ _ _ _ _ _ _ _))
local macro_rules | `(tactic| walk_at "call ref") => `(tactic| ((with_reducible show wpAny _ _ (call (Value.ref 1457) _) _ _ _); (k_dflt (refine' is_b ?k1 ?k2 ?k3 ?k4 ?k5 ?k6 ?k7 ?k8 ?_; (case k1 => k_asm); (case k2 => k_asm); (case k3 => k_asm); (case k4 => k_asm); (case k5 => k_asm); (case k6 => exact ⟨rfl, rfl⟩); (case k7 => walk_at "dp"); (case k8 => walk_at "dp"))); intro _ _ _ _))
local macro_rules | `(tactic| walk_at "call ref") => `(tactic| ((with_reducible show wpAny _ _ (call (Value.ref 1714) _) _ _ _); (k_dflt (refine' dr_ok ?k1 ?k2 ?k3 ?k4 ?k5 ?k6 ?k7 ?k8 ?k9 ?ka ?kb ?_; (case k1 => k_asm); (case k2 => k_asm); (case k3 => k_asm); (case k4 => k_asm); (case k5 => k_asm); (case ka => assumption); (case kb => assumption); (case k6 => exact ⟨rfl, rfl⟩); (case k7 => walk_at "dp"); (case k8 => walk_at "dp"); (case k9 => assumption))); intro _ _ _ _ _ _ _ _ _ _ _ _ _ _ _))
local macro_rules | `(tactic| walk_at "call ref") => `(tactic| ((with_reducible show wpAny _ _ (call (Value.ref 1500) [Value.ref 1509, _]) _ _ _); (k_dflt (refine' des_plain ?k1 ?k2 ?k3 ?k4 ?k5 ?k6 ?k7 ?k8 ?k9 ?k0 ?_; (case k1 => k_asm); (case k2 => k_asm); (case k3 => k_asm); (case k4 => k_asm); (case k5 => k_asm); (case k6 => exact ⟨rfl, rfl⟩); (case k7 => walk_at "dp"); (case k8 => walk_at "dp"); (case k9 => walk_at "bsz"); (case k0 => assumption))); intro _ _ _ _ _))
local macro_rules | `(tactic| walk_at "call ref") => `(tactic| ((with_reducible show wpAny _ _ (call (Value.ref 1471) _) _ _ _); (k_dflt (refine' i2b ?k1 ?k2 ?k3 ?k4 ?k5 ?k6 ?k7 ?k8 ?k9 ?_; (case k1 => k_asm); (case k2 => k_asm); (case k3 => k_asm); (case k4 => k_asm); (case k5 => k_asm); (case k6 => exact ⟨rfl, rfl⟩); (case k7 => walk_at "dp"); (case k8 => walk_at "dp"); (case k9 => walk_at "bsz"))); intro _ _ _ _ _))
local macro_rules | `(tactic| k_mem) => `(tactic| (refine mem_of ?_; ktr_member))
local macro_rules | `(tactic| walk_at "dp") => `(tactic| (k_dflt ((try simp only [depth_deeper, depth_caller, units_in1, units_deeper, units_caller]); decide)))
local macro_rules | `(tactic| walk_at "compareOp Lt bytes bytes") => `(tactic| ((with_reducible show wpAny _ _ (compareOp CmpOp.Lt (Value.bytes (List.toArray _) _) (Value.bytes (List.toArray _) _)) _ _ _); refine lt_bytes ?_))
local macro_rules | `(tactic| walk_at "call type:tuple") => `(tactic| ((with_reducible show wpAny _ _ (call (Value.type _) [Value.ref _]) _ _ _); k_dflt (refine' tuple_fresh (by k_asm) (by k_asm) (by k_mem) ?_ ?_; (rw [sizeLine_eq]; omega)); intro _ _ _ _ _))
local macro_rules | `(tactic| walk_at "compareOp Lt ref ref") => `(tactic| ((with_reducible show wpAny _ _ (compareOp CmpOp.Lt (Value.ref _) (Value.ref _)) _ _ _); k_dflt (refine lt_ints (News.get (by k_asm) (by k_mem)) (News.get (by k_asm) (by k_mem)) (by assumption) (by assumption) (by assumption) (by ke_room) ?_)))
local macro_rules | `(tactic| walk_at "compareOp Lt bytes bytes") => `(tactic| ((with_reducible show wpAny _ _ (compareOp CmpOp.Lt (Value.bytes (List.toArray _) _) (Value.bytes (List.toArray _) _)) _ _ _); refine lt_bytes ?_))
local macro_rules | `(tactic| walk_at "GUARD") => `(tactic| ((fail_if_success (with_reducible show UnrEndW _ _ _ _ _ _)); (fail_if_success (with_reducible show wpAny _ _ (call (Value.type "zip") _) _ _ _)); (fail_if_success (with_reducible show wpAny _ _ (call (Value.type "enumerate") _) _ _ _)); (fail_if_success (with_reducible show wpAny _ _ (exec (Stmt.Assign [_] (Expr.ListComp _ _ _ _) _) _) _ _ _)); (fail_if_success (with_reducible show wpAny _ _ (eval (Expr.ListComp _ _ _ _) _) _ _ _))))
local macro_rules | `(tactic| walk_at "UPTO") => `(tactic| repeat' (first | (k_unfold; (try dsimp only)) | (k_end; wrow_close) | (walk_at "GUARD"; walk1) | (dsimp only; walk_at "GUARD"; walk1) | (walk_at "GUARD"; leave1; (try dsimp only)) | fail "no step"))
local macro_rules | `(tactic| walk_at "GUARDD") => `(tactic| ((fail_if_success (with_reducible show wpAny _ _ (call (Value.ref 1722) _) _ _ _)); (fail_if_success (with_reducible show wpAny _ _ (call (Value.ref 1758) _) _ _ _)); (fail_if_success (with_reducible show UnrEndW _ _ _ _ _ _)); (fail_if_success (with_reducible show wpAny _ _ (call (Value.type "zip") _) _ _ _)); (fail_if_success (with_reducible show wpAny _ _ (call (Value.type "enumerate") _) _ _ _)); (fail_if_success (with_reducible show wpAny _ _ (exec (Stmt.Assign [_] (Expr.ListComp _ _ _ _) _) _) _ _ _)); (fail_if_success (with_reducible show wpAny _ _ (eval (Expr.ListComp _ _ _ _) _) _ _ _))))
local macro_rules | `(tactic| walk_at "UPTOD") => `(tactic| repeat' (first | (k_unfold; (try dsimp only)) | (k_end; wrow_close) | (walk_at "GUARDD"; walk1) | (dsimp only; walk_at "GUARDD"; walk1) | (walk_at "GUARDD"; leave1; (try dsimp only)) | fail "no step"))
local macro_rules | `(tactic| walk_at "GUARDE") => `(tactic| ((fail_if_success (with_reducible show wpAny _ _ (execs (Stmt.Assign [_] (Expr.ListComp _ _ _ _) _ :: _) _) _ _ _)); (fail_if_success (with_reducible show wpAny _ _ (call (Value.ref 1722) _) _ _ _)); (fail_if_success (with_reducible show wpAny _ _ (call (Value.ref 1758) _) _ _ _)); (fail_if_success (with_reducible show UnrEndW _ _ _ _ _ _)); (fail_if_success (with_reducible show wpAny _ _ (call (Value.type "zip") _) _ _ _)); (fail_if_success (with_reducible show wpAny _ _ (call (Value.type "enumerate") _) _ _ _)); (fail_if_success (with_reducible show wpAny _ _ (exec (Stmt.Assign [_] (Expr.ListComp _ _ _ _) _) _) _ _ _)); (fail_if_success (with_reducible show wpAny _ _ (eval (Expr.ListComp _ _ _ _) _) _ _ _))))
local macro_rules | `(tactic| walk_at "UPTOE") => `(tactic| repeat' (first | (k_unfold; (try dsimp only)) | (k_end; wrow_close) | (walk_at "GUARDE"; walk1) | (dsimp only; walk_at "GUARDE"; walk1) | (walk_at "GUARDE"; leave1; (try dsimp only)) | fail "no step"))
local macro_rules | `(tactic| walk_at "GUARDC") => `(tactic| ((fail_if_success (with_reducible show LCg.CompSrc _ _ _ _ _ _ _ _ _ _ _ _ _ _)); (fail_if_success (with_reducible show wpAny _ _ (call (Value.ref 1722) _) _ _ _)); (fail_if_success (with_reducible show wpAny _ _ (call (Value.ref 1758) _) _ _ _)); (fail_if_success (with_reducible show UnrEndW _ _ _ _ _ _)); (fail_if_success (with_reducible show wpAny _ _ (call (Value.type "zip") _) _ _ _)); (fail_if_success (with_reducible show wpAny _ _ (call (Value.type "enumerate") _) _ _ _)); (fail_if_success (with_reducible show wpAny _ _ (exec (Stmt.Assign [_] (Expr.ListComp _ _ _ _) _) _) _ _ _)); (fail_if_success (with_reducible show wpAny _ _ (eval (Expr.ListComp _ _ _ _) _) _ _ _))))
local macro_rules | `(tactic| walk_at "UPTOC") => `(tactic| repeat' (first | (k_unfold; (try dsimp only)) | (k_end; wrow_close) | (walk_at "GUARDC"; walk1) | (dsimp only; walk_at "GUARDC"; walk1) | (walk_at "GUARDC"; leave1; (try dsimp only)) | fail "no step"))
local macro_rules | `(tactic| walk_at "GUARDS") => `(tactic| ((fail_if_success (with_reducible show wpAny _ _ (compareOp _ (Value.ref _) (Value.ref _)) _ _ _)); (fail_if_success (with_reducible show UnrEndW _ _ _ _ _ _)); (fail_if_success (with_reducible show wpAny _ _ (call (Value.type "zip") _) _ _ _)); (fail_if_success (with_reducible show wpAny _ _ (call (Value.type "enumerate") _) _ _ _)); (fail_if_success (with_reducible show wpAny _ _ (exec (Stmt.Assign [_] (Expr.ListComp _ _ _ _) _) _) _ _ _)); (fail_if_success (with_reducible show wpAny _ _ (eval (Expr.ListComp _ _ _ _) _) _ _ _))))
local macro_rules | `(tactic| walk_at "UPTOS") => `(tactic| repeat' (first | (k_unfold; (try dsimp only)) | (k_end; wrow_close) | (walk_at "GUARDS"; walk1) | (dsimp only; walk_at "GUARDS"; walk1) | (walk_at "GUARDS"; leave1; (try dsimp only)) | fail "no step"))
section
variable {w : World} {p : Program} {loose : List Str} {mean : ExcName → Option Value} {mg mb : Str → Option Value} {g : Heap} {L fa : Nat} {cd : Value} {m : Str → Option Value} {s : Shared} {Q : Flow → Shared → Prop} {E : Value → Shared → Prop}
theorem seg14 {DM R D1 D2 x2 dx2 : Nat} {vM v1 v2 : List Value} {nM nR n1 n2 nn k : Nat} {nsA nsB : List Nat} {kh : Int} {kt u : Tok} {o2 o3 o4 o5 o6 c1 : Obj} {ps : Array Value}
    (K0 : Below callerA g [] g) (X : (K w.params).In g) (T : Top p loose mean mg mb g)
    (F : Fr g L s.heap m) (hm : m (Str.ofString "made") = some (.ref DM))
    (N : News g L s.heap ((DM, W.listOf vM.toArray nM) :: (R, W.listOf (#[.ref D1, .ref D2] : Array Value) nR) :: (D2, W.listOf v2.toArray n2) :: (D1, W.listOf v1.toArray n1) :: (x2, instObj 1503 dx2) :: (dx2, dictOf [⟨kh, .str (Str.ofString "length") kt, .int ((k + 1 : Nat) : Int) u⟩] nn) :: (L + 1 + 1 + 1 + 1 + 1 + 1, o6) :: (L + 1 + 1 + 1 + 1 + 1, o5) :: (L + 1 + 1 + 1 + 1, o4) :: (L + 1 + 1 + 1, o3) :: (L + 1 + 1, o2) :: (L + 1, c1) :: (1702, tabObj ps) :: [])) (h17 : 1702 < L)
    (ho4 : o4.data = .cell (some (.ref x2))) (ho6 : o6.data = .cell (some (.ref R))) (hk1 : 1 ≤ k) (hk9 : k ≤ 9)
    (hM : DsIn [] vM [D.b (eRow (k + 1) nsA), D.b (eRow (k + 1) nsB)])
    (hA : IntsAre v1 (nsA.map fun n : Nat => (n : Int))) (hB : IntsAre v2 (nsB.map fun n : Nat => (n : Int))) (hlA : nsA.length ≤ 3) (hlAB : nsA.length = nsB.length)
    (hf1 : blt (eRow (k + 1) nsA) (eRow (k + 1) nsB) = ilt (nsA.map fun n : Nat => (n : Int)) (nsB.map fun n : Nat => (n : Int))) (hf2 : (eRow (k + 1) nsA == eRow (k + 1) nsB) = decide ((nsA.map fun n : Nat => (n : Int)) = (nsB.map fun n : Nat => (n : Int))))
    (hbA : ∀ n ∈ nsA, n < 256 ^ (k + 1)) (hbB : ∀ n ∈ nsB, n < 256 ^ (k + 1)) (hzA : (eRow (k + 1) nsA).length < 2 ^ 23) (hzB : (eRow (k + 1) nsB).length < 2 ^ 23)
    (hiA : item (eRow (k + 1) nsA) 3 0 = .ok (.l ((nsA.map (beK (k + 1))).map Rlp.D.b), eRow (k + 1) nsA, (eRow (k + 1) nsA).length)) (hiB : item (eRow (k + 1) nsB) 3 0 = .ok (.l ((nsB.map (beK (k + 1))).map Rlp.D.b), eRow (k + 1) nsB, (eRow (k + 1) nsB).length))
    (hE : PassesOwn (model rr.prog w) (callerA.deeper (lawE L fa cd)) (lawE L fa cd) E)
    (hnext : ∀ (m' : Str → Option Value) (h' : Heap) (tk : Nat) (nw : List (Addr × Obj)), Fr g L h' m' → News g L h' nw → (1702, tabObj ps) ∈ nw → Q (.ret (.bool true)) { s with heap := h', toks := tk }) :
    wpAny (model rr.prog w) (callerA.deeper (lawE L fa cd)) (execs (dL.body.drop 14) (lawE L fa cd)) Q E s := by
  rw [kst_name (m := m) (ps := [(Str.ofString "made", .ref DM)]) (fun q hq => by rw [List.mem_singleton.mp hq]; exact hm)] at F
  cases hM with
  | cons h1 h2 =>
  cases h2 with
  | cons h2 h3 =>
  cases h3
  cases h1
  rename_i tA
  cases h2
  rename_i tB
  have hv1 : v1.length ≤ 3 := by rw [IntsAre.length hA, List.length_map]; exact hlA
  have hv2 : v2.length ≤ 3 := by rw [IntsAre.length hB, List.length_map]; omega
  have hlv : v1.length = v2.length := by rw [IntsAre.length hA, IntsAre.length hB, List.length_map, List.length_map, hlAB]
  walk_at "UPTO"
  rotate_left
  · exfalso
    rename_i _ hq
    rw [hf1, hf2] at hq
    simp at hq
  rename_i F8 N8 l8 hq8
  replace N8 : News g L _ ((DM, W.listOf #[Value.bytes (eRow (k + 1) nsA).toArray tA, Value.bytes (eRow (k + 1) nsB).toArray tB] nM) :: (R, W.listOf (#[.ref D1, .ref D2] : Array Value) nR) :: (D2, W.listOf v2.toArray n2) :: (D1, W.listOf v1.toArray n1) :: (x2, instObj 1503 dx2) :: (dx2, dictOf [⟨kh, .str (Str.ofString "length") kt, .int ((k + 1 : Nat) : Int) u⟩] nn) :: (L + 1 + 1 + 1 + 1 + 1 + 1, o6) :: (L + 1 + 1 + 1 + 1 + 1, o5) :: (L + 1 + 1 + 1 + 1, o4) :: (L + 1 + 1 + 1, o3) :: (L + 1 + 1, o2) :: (L + 1, c1) :: (1702, tabObj ps) :: []) := News.sub N8 fun q hq => .tail _ (.tail _ hq)
  k_dflt (refine LCg.ListComp_U (F₀ := F8) (by with_unfolding_all rfl) (by decide) (by rfl) (by decide) (by rfl) ?_)
  walk1
  refine LCg.CompSrc.ledger (its := #[.bytes (eRow (k + 1) nsA).toArray tA, .bytes (eRow (k + 1) nsB).toArray tB]) rfl F8 N8 (.head _) (by rw [sizeLine_eq]; exact Nat.le_of_ble_eq_true rfl) fun g' => ?_
  refine comp_rest (n := 2) (fun i zs nw => match i with
    | 0 => nw = ((DM, W.listOf #[Value.bytes (eRow (k + 1) nsA).toArray tA, Value.bytes (eRow (k + 1) nsB).toArray tB] nM) :: (R, W.listOf (#[.ref D1, .ref D2] : Array Value) nR) :: (D2, W.listOf v2.toArray n2) :: (D1, W.listOf v1.toArray n1) :: (x2, instObj 1503 dx2) :: (dx2, dictOf [⟨kh, .str (Str.ofString "length") kt, .int ((k + 1 : Nat) : Int) u⟩] nn) :: (L + 1 + 1 + 1 + 1 + 1 + 1, o6) :: (L + 1 + 1 + 1 + 1 + 1, o5) :: (L + 1 + 1 + 1 + 1, o4) :: (L + 1 + 1 + 1, o3) :: (L + 1 + 1, o2) :: (L + 1, c1) :: (1702, tabObj ps) :: []) ∧ zs = []
    | 1 => ∃ (b1 : Nat) (w1 : List Value), nw = (b1, (⟨.type "tuple", none, .seq w1.toArray 0, ⟨[]⟩⟩ : Obj)) :: ((DM, W.listOf #[Value.bytes (eRow (k + 1) nsA).toArray tA, Value.bytes (eRow (k + 1) nsB).toArray tB] nM) :: (R, W.listOf (#[.ref D1, .ref D2] : Array Value) nR) :: (D2, W.listOf v2.toArray n2) :: (D1, W.listOf v1.toArray n1) :: (x2, instObj 1503 dx2) :: (dx2, dictOf [⟨kh, .str (Str.ofString "length") kt, .int ((k + 1 : Nat) : Int) u⟩] nn) :: (L + 1 + 1 + 1 + 1 + 1 + 1, o6) :: (L + 1 + 1 + 1 + 1 + 1, o5) :: (L + 1 + 1 + 1 + 1, o4) :: (L + 1 + 1 + 1, o3) :: (L + 1 + 1, o2) :: (L + 1, c1) :: (1702, tabObj ps) :: []) ∧ zs = [.ref b1] ∧ IntsAre w1 (nsA.map fun n : Nat => (n : Int))
    | _ => ∃ (b1 : Nat) (w1 : List Value) (b2 : Nat) (w2 : List Value), nw = (b2, (⟨.type "tuple", none, .seq w2.toArray 0, ⟨[]⟩⟩ : Obj)) :: (b1, (⟨.type "tuple", none, .seq w1.toArray 0, ⟨[]⟩⟩ : Obj)) :: ((DM, W.listOf #[Value.bytes (eRow (k + 1) nsA).toArray tA, Value.bytes (eRow (k + 1) nsB).toArray tB] nM) :: (R, W.listOf (#[.ref D1, .ref D2] : Array Value) nR) :: (D2, W.listOf v2.toArray n2) :: (D1, W.listOf v1.toArray n1) :: (x2, instObj 1503 dx2) :: (dx2, dictOf [⟨kh, .str (Str.ofString "length") kt, .int ((k + 1 : Nat) : Int) u⟩] nn) :: (L + 1 + 1 + 1 + 1 + 1 + 1, o6) :: (L + 1 + 1 + 1 + 1 + 1, o5) :: (L + 1 + 1 + 1 + 1, o4) :: (L + 1 + 1 + 1, o3) :: (L + 1 + 1, o2) :: (L + 1, c1) :: (1702, tabObj ps) :: []) ∧ zs = [.ref b1, .ref b2] ∧ IntsAre w1 (nsA.map fun n : Nat => (n : Int)) ∧ IntsAre w2 (nsB.map fun n : Nat => (n : Int))) ?_ ?_ 2 0 [] _ rfl ⟨rfl, rfl⟩
  · intro i v I oI C oC D m₂ zs nw h tk E' hi hv hg hC hx F2 N2 off ne
    match i, hi with
    | 0, _ =>
      obtain ⟨rfl, rfl⟩ := hg
      cases hv
      walk_at "UPTOD"
      rename_i cE qk0 ek0 c dc h1 F1 N1 l1 l2 g1 L1 h2 FG B1 X1 T1 h3 h4 F3 N3 F4 N4 Tc kX
      obtain ⟨kh1, kt1, kh2, kt2, nc, N4⟩ : ∃ kh1 kt1 kh2 kt2 nc, News g L h4 ((c, instObj 1696 dc) :: (dc, dictOf [⟨kh1, .str (Str.ofString "element_sedes") kt1, .ref x2⟩, ⟨kh2, .str (Str.ofString "max_length") kt2, .none⟩] nc) :: (I, oI) :: (C, oC) :: (D, LCg.lst []) :: ((DM, W.listOf #[Value.bytes (eRow (k + 1) nsA).toArray tA, Value.bytes (eRow (k + 1) nsB).toArray tB] nM) :: (R, W.listOf (#[.ref D1, .ref D2] : Array Value) nR) :: (D2, W.listOf v2.toArray n2) :: (D1, W.listOf v1.toArray n1) :: (x2, instObj 1503 dx2) :: (dx2, dictOf [⟨kh, .str (Str.ofString "length") kt, .int ((k + 1 : Nat) : Int) u⟩] nn) :: (L + 1 + 1 + 1 + 1 + 1 + 1, o6) :: (L + 1 + 1 + 1 + 1 + 1, o5) :: (L + 1 + 1 + 1 + 1, o4) :: (L + 1 + 1 + 1, o3) :: (L + 1 + 1, o2) :: (L + 1, c1) :: (1702, tabObj ps) :: [])) := ⟨_, _, _, _, _, N4⟩
      k_dflt (refine' de_count (dep := 3) (k := k + 1) (ys := nsA.map (beK (k + 1))) (c := c) (dc := dc) (x := x2) (dx := dx2) ?k1 ?k2 ?k3 N4 ?k5 ?k6 ?k7 ?k8 ?k9 ?k0 (.tail _ (.tail _ (.tail _ (.tail _ (.tail _ (.tail _ (.tail _ (.tail _ (.tail _ (.head _)))))))))) (.tail _ (.tail _ (.tail _ (.tail _ (.tail _ (.tail _ (.tail _ (.tail _ (.tail _ (.tail _ (.head _))))))))))) ?kc ?kd (.head _) (.tail _ (.head _)) hzA hiA (Or.inl rfl) ?_; (case k1 => k_asm); (case k2 => k_asm); (case k3 => k_asm); (case k5 => k_asm); (case k6 => exact ⟨rfl, rfl⟩); (case k7 => walk_at "dp"); (case k8 => walk_at "dp"); (case k9 => omega); (case k0 => omega); (case kc => rw [List.length_map]; omega); (case kd => intro y hy; obtain ⟨n, _, rfl⟩ := List.mem_map.mp hy; exact beK_length _ _))
      intro h9 tk9 b vs9 F9 N9 hfr hi9
      have hfr' : ∀ q ∈ ((DM, W.listOf #[Value.bytes (eRow (k + 1) nsA).toArray tA, Value.bytes (eRow (k + 1) nsB).toArray tB] nM) :: (R, W.listOf (#[.ref D1, .ref D2] : Array Value) nR) :: (D2, W.listOf v2.toArray n2) :: (D1, W.listOf v1.toArray n1) :: (x2, instObj 1503 dx2) :: (dx2, dictOf [⟨kh, .str (Str.ofString "length") kt, .int ((k + 1 : Nat) : Int) u⟩] nn) :: (L + 1 + 1 + 1 + 1 + 1 + 1, o6) :: (L + 1 + 1 + 1 + 1 + 1, o5) :: (L + 1 + 1 + 1 + 1, o4) :: (L + 1 + 1 + 1, o3) :: (L + 1 + 1, o2) :: (L + 1, c1) :: (1702, tabObj ps) :: []), q.1 ≠ I ∧ q.1 ≠ C ∧ q.1 ≠ D := off.mem
      have bI : @LT.lt Nat _ I b := hfr _ (.tail _ (.tail _ (.head _)))
      have bC : @LT.lt Nat _ C b := hfr _ (.tail _ (.tail _ (.tail _ (.head _))))
      have bD : @LT.lt Nat _ D b := hfr _ (.tail _ (.tail _ (.tail _ (.tail _ (.head _)))))
      refine ⟨h9, tk9, (b, (⟨.type "tuple", none, .seq vs9.toArray 0, ⟨[]⟩⟩ : Obj)) :: ((DM, W.listOf #[Value.bytes (eRow (k + 1) nsA).toArray tA, Value.bytes (eRow (k + 1) nsB).toArray tB] nM) :: (R, W.listOf (#[.ref D1, .ref D2] : Array Value) nR) :: (D2, W.listOf v2.toArray n2) :: (D1, W.listOf v1.toArray n1) :: (x2, instObj 1503 dx2) :: (dx2, dictOf [⟨kh, .str (Str.ofString "length") kt, .int ((k + 1 : Nat) : Int) u⟩] nn) :: (L + 1 + 1 + 1 + 1 + 1 + 1, o6) :: (L + 1 + 1 + 1 + 1 + 1, o5) :: (L + 1 + 1 + 1 + 1, o4) :: (L + 1 + 1 + 1, o3) :: (L + 1 + 1, o2) :: (L + 1, c1) :: (1702, tabObj ps) :: []), rfl, F9, News.sub N9 ?_, ⟨⟨Nat.ne_of_gt bI, Nat.ne_of_gt bC, Nat.ne_of_gt bD⟩, off⟩, .inr ⟨_, .tail _ (.head _), rfl, _, rfl⟩, ?_⟩
      · intro q hq
        rcases List.mem_cons.mp hq with rfl | hq
        · exact .tail _ (.tail _ (.tail _ (.head _)))
        rcases List.mem_cons.mp hq with rfl | hq
        · exact .tail _ (.tail _ (.tail _ (.tail _ (.head _))))
        rcases List.mem_cons.mp hq with rfl | hq
        · exact .tail _ (.tail _ (.tail _ (.tail _ (.tail _ (.head _)))))
        rcases List.mem_cons.mp hq with rfl | hq
        · exact .head _
        · exact .tail _ (.tail _ (.tail _ (.tail _ (.tail _ (.tail _ hq)))))
      · have hi10 : IntsAre vs9 (nsA.map fun n : Nat => (n : Int)) := by
          rw [List.map_map] at hi9
          have e : nsA.map ((fun y => ((ofBe y : Nat) : Int)) ∘ beK (k + 1)) = nsA.map fun n : Nat => (n : Int) := List.map_congr_left fun n hn => by show ((ofBe (beK (k + 1) n) : Nat) : Int) = _; rw [ofBe_beK _ _ (hbA n hn)]
          rw [← e]; exact hi9
        exact ⟨b, vs9, rfl, rfl, hi10⟩
    | 1, _ =>
      obtain ⟨b1, w1, rfl, rfl, hw1⟩ := hg
      cases hv
      walk_at "UPTOD"
      rename_i cE qk0 ek0 c dc h1 F1 N1 l1 l2 g1 L1 h2 FG B1 X1 T1 h3 h4 F3 N3 F4 N4 Tc kX
      obtain ⟨kh1, kt1, kh2, kt2, nc, N4⟩ : ∃ kh1 kt1 kh2 kt2 nc, News g L h4 ((c, instObj 1696 dc) :: (dc, dictOf [⟨kh1, .str (Str.ofString "element_sedes") kt1, .ref x2⟩, ⟨kh2, .str (Str.ofString "max_length") kt2, .none⟩] nc) :: (I, oI) :: (C, oC) :: (D, LCg.lst [.ref b1]) :: ((b1, (⟨.type "tuple", none, .seq w1.toArray 0, ⟨[]⟩⟩ : Obj)) :: ((DM, W.listOf #[Value.bytes (eRow (k + 1) nsA).toArray tA, Value.bytes (eRow (k + 1) nsB).toArray tB] nM) :: (R, W.listOf (#[.ref D1, .ref D2] : Array Value) nR) :: (D2, W.listOf v2.toArray n2) :: (D1, W.listOf v1.toArray n1) :: (x2, instObj 1503 dx2) :: (dx2, dictOf [⟨kh, .str (Str.ofString "length") kt, .int ((k + 1 : Nat) : Int) u⟩] nn) :: (L + 1 + 1 + 1 + 1 + 1 + 1, o6) :: (L + 1 + 1 + 1 + 1 + 1, o5) :: (L + 1 + 1 + 1 + 1, o4) :: (L + 1 + 1 + 1, o3) :: (L + 1 + 1, o2) :: (L + 1, c1) :: (1702, tabObj ps) :: []))) := ⟨_, _, _, _, _, N4⟩
      k_dflt (refine' de_count (dep := 3) (k := k + 1) (ys := nsB.map (beK (k + 1))) (c := c) (dc := dc) (x := x2) (dx := dx2) ?k1 ?k2 ?k3 N4 ?k5 ?k6 ?k7 ?k8 ?k9 ?k0 (.tail _ (.tail _ (.tail _ (.tail _ (.tail _ (.tail _ (.tail _ (.tail _ (.tail _ (.tail _ (.head _))))))))))) (.tail _ (.tail _ (.tail _ (.tail _ (.tail _ (.tail _ (.tail _ (.tail _ (.tail _ (.tail _ (.tail _ (.head _)))))))))))) ?kc ?kd (.head _) (.tail _ (.head _)) hzB hiB (Or.inl rfl) ?_; (case k1 => k_asm); (case k2 => k_asm); (case k3 => k_asm); (case k5 => k_asm); (case k6 => exact ⟨rfl, rfl⟩); (case k7 => walk_at "dp"); (case k8 => walk_at "dp"); (case k9 => omega); (case k0 => omega); (case kc => rw [List.length_map]; omega); (case kd => intro y hy; obtain ⟨n, _, rfl⟩ := List.mem_map.mp hy; exact beK_length _ _))
      intro h9 tk9 b vs9 F9 N9 hfr hi9
      have hfr' : ∀ q ∈ ((b1, (⟨.type "tuple", none, .seq w1.toArray 0, ⟨[]⟩⟩ : Obj)) :: ((DM, W.listOf #[Value.bytes (eRow (k + 1) nsA).toArray tA, Value.bytes (eRow (k + 1) nsB).toArray tB] nM) :: (R, W.listOf (#[.ref D1, .ref D2] : Array Value) nR) :: (D2, W.listOf v2.toArray n2) :: (D1, W.listOf v1.toArray n1) :: (x2, instObj 1503 dx2) :: (dx2, dictOf [⟨kh, .str (Str.ofString "length") kt, .int ((k + 1 : Nat) : Int) u⟩] nn) :: (L + 1 + 1 + 1 + 1 + 1 + 1, o6) :: (L + 1 + 1 + 1 + 1 + 1, o5) :: (L + 1 + 1 + 1 + 1, o4) :: (L + 1 + 1 + 1, o3) :: (L + 1 + 1, o2) :: (L + 1, c1) :: (1702, tabObj ps) :: [])), q.1 ≠ I ∧ q.1 ≠ C ∧ q.1 ≠ D := off.mem
      have bI : @LT.lt Nat _ I b := hfr _ (.tail _ (.tail _ (.head _)))
      have bC : @LT.lt Nat _ C b := hfr _ (.tail _ (.tail _ (.tail _ (.head _))))
      have bD : @LT.lt Nat _ D b := hfr _ (.tail _ (.tail _ (.tail _ (.tail _ (.head _)))))
      refine ⟨h9, tk9, (b, (⟨.type "tuple", none, .seq vs9.toArray 0, ⟨[]⟩⟩ : Obj)) :: ((b1, (⟨.type "tuple", none, .seq w1.toArray 0, ⟨[]⟩⟩ : Obj)) :: ((DM, W.listOf #[Value.bytes (eRow (k + 1) nsA).toArray tA, Value.bytes (eRow (k + 1) nsB).toArray tB] nM) :: (R, W.listOf (#[.ref D1, .ref D2] : Array Value) nR) :: (D2, W.listOf v2.toArray n2) :: (D1, W.listOf v1.toArray n1) :: (x2, instObj 1503 dx2) :: (dx2, dictOf [⟨kh, .str (Str.ofString "length") kt, .int ((k + 1 : Nat) : Int) u⟩] nn) :: (L + 1 + 1 + 1 + 1 + 1 + 1, o6) :: (L + 1 + 1 + 1 + 1 + 1, o5) :: (L + 1 + 1 + 1 + 1, o4) :: (L + 1 + 1 + 1, o3) :: (L + 1 + 1, o2) :: (L + 1, c1) :: (1702, tabObj ps) :: [])), rfl, F9, News.sub N9 ?_, ⟨⟨Nat.ne_of_gt bI, Nat.ne_of_gt bC, Nat.ne_of_gt bD⟩, off⟩, .inr ⟨_, .tail _ (.tail _ (.head _)), rfl, _, rfl⟩, ?_⟩
      · intro q hq
        rcases List.mem_cons.mp hq with rfl | hq
        · exact .tail _ (.tail _ (.tail _ (.head _)))
        rcases List.mem_cons.mp hq with rfl | hq
        · exact .tail _ (.tail _ (.tail _ (.tail _ (.head _))))
        rcases List.mem_cons.mp hq with rfl | hq
        · exact .tail _ (.tail _ (.tail _ (.tail _ (.tail _ (.head _)))))
        rcases List.mem_cons.mp hq with rfl | hq
        · exact .head _
        · exact .tail _ (.tail _ (.tail _ (.tail _ (.tail _ (.tail _ hq)))))
      · have hi10 : IntsAre vs9 (nsB.map fun n : Nat => (n : Int)) := by
          rw [List.map_map] at hi9
          have e : nsB.map ((fun y => ((ofBe y : Nat) : Int)) ∘ beK (k + 1)) = nsB.map fun n : Nat => (n : Int) := List.map_congr_left fun n hn => by show ((ofBe (beK (k + 1) n) : Nat) : Int) = _; rw [ofBe_beK _ _ (hbB n hn)]
          rw [← e]; exact hi9
        exact ⟨b1, w1, b, vs9, rfl, rfl, hw1, hi10⟩
  · rintro ys nw ⟨b1, w1, b2, w2, rfl, rfl, hw1, hw2⟩
    intro D3 h6 tk6 F6 N6 off6
    simp only [LCg.Off1, and_true] at off6
    walk_at "UPTO"
    k_dflt (refine LCg.ListComp_U (F₀ := F6) (by with_unfolding_all rfl) (by decide) (by rfl) (by decide) (by rfl) ?_)
    walk1
    refine LCg.CompSrc.ledger (its := #[.ref D1, .ref D2]) rfl F6 N6 (.tail _ (.tail _ (.tail _ (.tail _ (.head _))))) (by rw [sizeLine_eq]; exact Nat.le_of_ble_eq_true rfl) fun g'' => ?_
    refine comp_rest (n := 2) (fun i zs nw => match i with
      | 0 => nw = (D3, LCg.lst [.ref b1, .ref b2]) :: (b2, (⟨.type "tuple", none, .seq w2.toArray 0, ⟨[]⟩⟩ : Obj)) :: (b1, (⟨.type "tuple", none, .seq w1.toArray 0, ⟨[]⟩⟩ : Obj)) :: ((DM, W.listOf #[Value.bytes (eRow (k + 1) nsA).toArray tA, Value.bytes (eRow (k + 1) nsB).toArray tB] nM) :: (R, W.listOf (#[.ref D1, .ref D2] : Array Value) nR) :: (D2, W.listOf v2.toArray n2) :: (D1, W.listOf v1.toArray n1) :: (x2, instObj 1503 dx2) :: (dx2, dictOf [⟨kh, .str (Str.ofString "length") kt, .int ((k + 1 : Nat) : Int) u⟩] nn) :: (L + 1 + 1 + 1 + 1 + 1 + 1, o6) :: (L + 1 + 1 + 1 + 1 + 1, o5) :: (L + 1 + 1 + 1 + 1, o4) :: (L + 1 + 1 + 1, o3) :: (L + 1 + 1, o2) :: (L + 1, c1) :: (1702, tabObj ps) :: []) ∧ zs = []
      | 1 => ∃ (e1 : Nat), nw = (e1, (⟨.type "tuple", none, .seq v1.toArray 0, ⟨[]⟩⟩ : Obj)) :: (D3, LCg.lst [.ref b1, .ref b2]) :: (b2, (⟨.type "tuple", none, .seq w2.toArray 0, ⟨[]⟩⟩ : Obj)) :: (b1, (⟨.type "tuple", none, .seq w1.toArray 0, ⟨[]⟩⟩ : Obj)) :: ((DM, W.listOf #[Value.bytes (eRow (k + 1) nsA).toArray tA, Value.bytes (eRow (k + 1) nsB).toArray tB] nM) :: (R, W.listOf (#[.ref D1, .ref D2] : Array Value) nR) :: (D2, W.listOf v2.toArray n2) :: (D1, W.listOf v1.toArray n1) :: (x2, instObj 1503 dx2) :: (dx2, dictOf [⟨kh, .str (Str.ofString "length") kt, .int ((k + 1 : Nat) : Int) u⟩] nn) :: (L + 1 + 1 + 1 + 1 + 1 + 1, o6) :: (L + 1 + 1 + 1 + 1 + 1, o5) :: (L + 1 + 1 + 1 + 1, o4) :: (L + 1 + 1 + 1, o3) :: (L + 1 + 1, o2) :: (L + 1, c1) :: (1702, tabObj ps) :: []) ∧ zs = [.ref e1]
      | _ => ∃ (e1 e2 : Nat), nw = (e2, (⟨.type "tuple", none, .seq v2.toArray 0, ⟨[]⟩⟩ : Obj)) :: (e1, (⟨.type "tuple", none, .seq v1.toArray 0, ⟨[]⟩⟩ : Obj)) :: (D3, LCg.lst [.ref b1, .ref b2]) :: (b2, (⟨.type "tuple", none, .seq w2.toArray 0, ⟨[]⟩⟩ : Obj)) :: (b1, (⟨.type "tuple", none, .seq w1.toArray 0, ⟨[]⟩⟩ : Obj)) :: ((DM, W.listOf #[Value.bytes (eRow (k + 1) nsA).toArray tA, Value.bytes (eRow (k + 1) nsB).toArray tB] nM) :: (R, W.listOf (#[.ref D1, .ref D2] : Array Value) nR) :: (D2, W.listOf v2.toArray n2) :: (D1, W.listOf v1.toArray n1) :: (x2, instObj 1503 dx2) :: (dx2, dictOf [⟨kh, .str (Str.ofString "length") kt, .int ((k + 1 : Nat) : Int) u⟩] nn) :: (L + 1 + 1 + 1 + 1 + 1 + 1, o6) :: (L + 1 + 1 + 1 + 1 + 1, o5) :: (L + 1 + 1 + 1 + 1, o4) :: (L + 1 + 1 + 1, o3) :: (L + 1 + 1, o2) :: (L + 1, c1) :: (1702, tabObj ps) :: []) ∧ zs = [.ref e1, .ref e2]) ?_ ?_ 2 0 [] _ rfl ⟨rfl, rfl⟩
    · intro i v I oI C oC D m₂ zs nw h tk E' hi hv hg hC hx F2 N2 off ne
      match i, hi with
      | 0, _ =>
        obtain ⟨rfl, rfl⟩ := hg
        replace hv : some (Value.ref D1) = some v := hv
        cases hv
        walk_at "UPTO"
        rename_i b h9 F9 N9 hfr
        have bI : @LT.lt Nat _ I b := hfr _ (.head _)
        have bC : @LT.lt Nat _ C b := hfr _ (.tail _ (.head _))
        have bD : @LT.lt Nat _ D b := hfr _ (.tail _ (.tail _ (.head _)))
        refine ⟨h9, _, (b, (⟨.type "tuple", none, .seq v1.toArray 0, ⟨[]⟩⟩ : Obj)) :: (D3, LCg.lst [.ref b1, .ref b2]) :: (b2, (⟨.type "tuple", none, .seq w2.toArray 0, ⟨[]⟩⟩ : Obj)) :: (b1, (⟨.type "tuple", none, .seq w1.toArray 0, ⟨[]⟩⟩ : Obj)) :: ((DM, W.listOf #[Value.bytes (eRow (k + 1) nsA).toArray tA, Value.bytes (eRow (k + 1) nsB).toArray tB] nM) :: (R, W.listOf (#[.ref D1, .ref D2] : Array Value) nR) :: (D2, W.listOf v2.toArray n2) :: (D1, W.listOf v1.toArray n1) :: (x2, instObj 1503 dx2) :: (dx2, dictOf [⟨kh, .str (Str.ofString "length") kt, .int ((k + 1 : Nat) : Int) u⟩] nn) :: (L + 1 + 1 + 1 + 1 + 1 + 1, o6) :: (L + 1 + 1 + 1 + 1 + 1, o5) :: (L + 1 + 1 + 1 + 1, o4) :: (L + 1 + 1 + 1, o3) :: (L + 1 + 1, o2) :: (L + 1, c1) :: (1702, tabObj ps) :: []), rfl, F9, News.sub N9 ?_, ⟨⟨Nat.ne_of_gt bI, Nat.ne_of_gt bC, Nat.ne_of_gt bD⟩, off⟩, .inr ⟨_, (.tail _ (.tail _ (.tail _ (.tail _ (.tail _ (.head _)))))), rfl, _, rfl⟩, ?_⟩
        · intro q hq
          rcases List.mem_cons.mp hq with rfl | hq
          · exact .tail _ (.head _)
          rcases List.mem_cons.mp hq with rfl | hq
          · exact .tail _ (.tail _ (.head _))
          rcases List.mem_cons.mp hq with rfl | hq
          · exact .tail _ (.tail _ (.tail _ (.head _)))
          rcases List.mem_cons.mp hq with rfl | hq
          · exact .head _
          · exact .tail _ (.tail _ (.tail _ (.tail _ hq)))
        · exact ⟨b, rfl, rfl⟩

      | 1, _ =>
        obtain ⟨e1, rfl, rfl⟩ := hg
        replace hv : some (Value.ref D2) = some v := hv
        cases hv
        walk_at "UPTO"
        rename_i b h9 F9 N9 hfr
        have bI : @LT.lt Nat _ I b := hfr _ (.head _)
        have bC : @LT.lt Nat _ C b := hfr _ (.tail _ (.head _))
        have bD : @LT.lt Nat _ D b := hfr _ (.tail _ (.tail _ (.head _)))
        refine ⟨h9, _, (b, (⟨.type "tuple", none, .seq v2.toArray 0, ⟨[]⟩⟩ : Obj)) :: ((e1, (⟨.type "tuple", none, .seq v1.toArray 0, ⟨[]⟩⟩ : Obj)) :: (D3, LCg.lst [.ref b1, .ref b2]) :: (b2, (⟨.type "tuple", none, .seq w2.toArray 0, ⟨[]⟩⟩ : Obj)) :: (b1, (⟨.type "tuple", none, .seq w1.toArray 0, ⟨[]⟩⟩ : Obj)) :: ((DM, W.listOf #[Value.bytes (eRow (k + 1) nsA).toArray tA, Value.bytes (eRow (k + 1) nsB).toArray tB] nM) :: (R, W.listOf (#[.ref D1, .ref D2] : Array Value) nR) :: (D2, W.listOf v2.toArray n2) :: (D1, W.listOf v1.toArray n1) :: (x2, instObj 1503 dx2) :: (dx2, dictOf [⟨kh, .str (Str.ofString "length") kt, .int ((k + 1 : Nat) : Int) u⟩] nn) :: (L + 1 + 1 + 1 + 1 + 1 + 1, o6) :: (L + 1 + 1 + 1 + 1 + 1, o5) :: (L + 1 + 1 + 1 + 1, o4) :: (L + 1 + 1 + 1, o3) :: (L + 1 + 1, o2) :: (L + 1, c1) :: (1702, tabObj ps) :: [])), rfl, F9, News.sub N9 ?_, ⟨⟨Nat.ne_of_gt bI, Nat.ne_of_gt bC, Nat.ne_of_gt bD⟩, off⟩, .inr ⟨_, (.tail _ (.tail _ (.tail _ (.tail _ (.tail _ (.tail _ (.head _))))))), rfl, _, rfl⟩, ?_⟩
        · intro q hq
          rcases List.mem_cons.mp hq with rfl | hq
          · exact .tail _ (.head _)
          rcases List.mem_cons.mp hq with rfl | hq
          · exact .tail _ (.tail _ (.head _))
          rcases List.mem_cons.mp hq with rfl | hq
          · exact .tail _ (.tail _ (.tail _ (.head _)))
          rcases List.mem_cons.mp hq with rfl | hq
          · exact .head _
          · exact .tail _ (.tail _ (.tail _ (.tail _ hq)))
        · exact ⟨e1, b, rfl, rfl⟩

    · rintro ys nw ⟨e1, e2, rfl, rfl⟩
      intro D4 h7 tk7 F7 N7 off7
      simp only [LCg.Off1, and_true] at off7
      have sh9 : SeqAt.shaped (.list [.tuple ((nsA.map fun n : Nat => (n : Int)).map PyData.int), .tuple ((nsB.map fun n : Nat => (n : Int)).map PyData.int)]) = true := by
        simp [SeqAt.shaped, PyData.canLay0, PyData.canLayAll0, PyData.depth, PyData.depthAll, ke_canLayAll0, ke_depthAll, -List.map_map]
      have r1 : Reads h7 (.ref D3) (.list [.tuple ((nsA.map fun n : Nat => (n : Int)).map PyData.int), .tuple ((nsB.map fun n : Nat => (n : Int)).map PyData.int)]) _ :=
        reads_list_at (vs := #[.ref b1, .ref b2]) (N7 _ (.tail _ (.tail _ (.tail _ (.head _))))).1 rfl rfl (.cons (reads_newDataT ⟨_, (N7 _ (.tail _ (.tail _ (.tail _ (.tail _ (.tail _ (.head _))))))).1, rfl, _, rfl⟩ (ke_carried hw1)) (.cons (reads_newDataT ⟨_, (N7 _ (.tail _ (.tail _ (.tail _ (.tail _ (.head _)))))).1, rfl, _, rfl⟩ (ke_carried hw2)) .nil))
      have r2 : Reads h7 (.ref D4) (.list [.tuple ((nsA.map fun n : Nat => (n : Int)).map PyData.int), .tuple ((nsB.map fun n : Nat => (n : Int)).map PyData.int)]) _ :=
        reads_list_at (vs := #[.ref e1, .ref e2]) (N7 _ (.head _)).1 rfl rfl (.cons (reads_newDataT ⟨_, (N7 _ (.tail _ (.tail _ (.head _)))).1, rfl, _, rfl⟩ (ke_carried hA)) (.cons (reads_newDataT ⟨_, (N7 _ (.tail _ (.head _))).1, rfl, _, rfl⟩ (ke_carried hB)) .nil))
      k_dflt (refine eq_dataH r1 r2 sh9 sh9 (by ke_room) ?_)
      have ev : PyData.eqv (.list [.tuple ((nsA.map fun n : Nat => (n : Int)).map PyData.int), .tuple ((nsB.map fun n : Nat => (n : Int)).map PyData.int)]) (.list [.tuple ((nsA.map fun n : Nat => (n : Int)).map PyData.int), .tuple ((nsB.map fun n : Nat => (n : Int)).map PyData.int)]) = true := by
        simp only [PyData.eqv, PyData.eqvAll, ked_eqvAll, decide_true, Bool.and_true]
      rw [ev]
      exact hnext _ h7 _ _ F7 N7 (.tail _ (.tail _ (.tail _ (.tail _ (.tail _ (.tail _ (.tail _ (.tail _ (.tail _ (.tail _ (.tail _ (.tail _ (.tail _ (.tail _ (.tail _ (.tail _ (.tail _ (.tail _ (.head _)))))))))))))))))))
end
end Mine
end

section
set_option maxRecDepth 10000
set_option linter.unusedVariables false
namespace Mine
open Rlp
theorem blt_irrefl : ∀ x : List UInt8, blt x x = false
  | [] => rfl
  | a :: r => by rw [blt, if_neg (Nat.lt_irrefl _), if_neg (Nat.lt_irrefl _)]; exact blt_irrefl r
theorem blt_pre (a x y : List UInt8) : blt (a ++ x) (a ++ y) = blt x y := by
  induction a with
  | nil => rfl
  | cons c r ih => rw [List.cons_append, List.cons_append, blt, if_neg (Nat.lt_irrefl _), if_neg (Nat.lt_irrefl _)]; exact ih
/-- two rows of octets that begin with as many octets -/
theorem blt_app : ∀ {p q : List UInt8} (x y : List UInt8), p.length = q.length → blt (p ++ x) (q ++ y) = if p = q then blt x y else blt p q
  | [], [], x, y, _ => by simp
  | [], _ :: _, _, _, h => nomatch h
  | _ :: _, [], _, _, h => nomatch h
  | a :: p, b :: q, x, y, h => by
    have ih := blt_app (p := p) (q := q) x y (by simpa using h)
    rw [List.cons_append, List.cons_append, blt, blt]
    by_cases h1 : a.toNat < b.toNat
    · have hne : ¬ (a :: p = b :: q) := fun e => by injection e with e _; rw [e] at h1; exact Nat.lt_irrefl _ h1
      rw [if_pos h1, if_pos h1, if_neg hne]
    · by_cases h2 : b.toNat < a.toNat
      · have hne : ¬ (a :: p = b :: q) := fun e => by injection e with e _; rw [e] at h2; exact Nat.lt_irrefl _ h2
        rw [if_neg h1, if_neg h1, if_pos h2, if_pos h2, if_neg hne]
      · have hab : a = b := UInt8.toNat_inj.mp (by omega)
        subst hab
        rw [if_neg h1, if_neg h1, if_neg h2, if_neg h2, ih]
        by_cases hpq : p = q
        · rw [if_pos hpq, if_pos (by rw [hpq])]
        · rw [if_neg hpq, if_neg (fun e => hpq (by injection e))]
theorem ofBe_cons_eq (c : UInt8) (r : List UInt8) : ofBe (c :: r) = c.toNat * 256 ^ r.length + ofBe r := by
  have key : ∀ (r : List UInt8) (a : Nat), r.foldl (fun a c => a * 256 + c.toNat) a = a * 256 ^ r.length + ofBe r := by
    intro r
    induction r with
    | nil => intro a; simp [ofBe]
    | cons d r ih =>
      intro a
      have e1 : (d :: r).foldl (fun a c => a * 256 + c.toNat) a = (a * 256 + d.toNat) * 256 ^ r.length + ofBe r := ih (a * 256 + d.toNat)
      have e2 : ofBe (d :: r) = (0 * 256 + d.toNat) * 256 ^ r.length + ofBe r := ih (0 * 256 + d.toNat)
      rw [e1, e2, List.length_cons, Nat.pow_succ, Nat.zero_mul, Nat.zero_add, Nat.add_mul, Nat.mul_assoc, Nat.mul_comm 256, Nat.add_assoc]
  have := key r c.toNat
  simpa [ofBe] using this
theorem blt_ofBe : ∀ {x y : List UInt8}, x.length = y.length → blt x y = decide (ofBe x < ofBe y)
  | [], [], _ => rfl
  | [], _ :: _, h => nomatch h
  | _ :: _, [], h => nomatch h
  | a :: x, b :: y, h => by
    have hl : x.length = y.length := by simpa using h
    have ih := blt_ofBe hl
    have hx := ofBe_lt x
    have hy := ofBe_lt y
    rw [blt, ofBe_cons_eq, ofBe_cons_eq, ← hl]
    rw [← hl] at hy
    by_cases h1 : a.toNat < b.toNat
    · rw [if_pos h1]
      have : (a.toNat + 1) * 256 ^ x.length ≤ b.toNat * 256 ^ x.length := Nat.mul_le_mul_right _ h1
      rw [Nat.add_mul, Nat.one_mul] at this
      exact (decide_eq_true (by omega)).symm
    · by_cases h2 : b.toNat < a.toNat
      · rw [if_neg h1, if_pos h2]
        have : (b.toNat + 1) * 256 ^ x.length ≤ a.toNat * 256 ^ x.length := Nat.mul_le_mul_right _ h2
        rw [Nat.add_mul, Nat.one_mul] at this
        exact (decide_eq_false (by omega)).symm
      · have hab : a.toNat = b.toNat := by omega
        rw [if_neg h1, if_neg h2, ih, hab]
        congr 1
        exact propext ⟨fun h => by omega, fun h => by omega⟩
theorem blt_beK {k n m : Nat} (hn : n < 256 ^ k) (hm : m < 256 ^ k) : blt (beK k n) (beK k m) = decide (n < m) := by
  rw [blt_ofBe (by rw [beK_length, beK_length]), ofBe_beK _ _ hn, ofBe_beK _ _ hm]
theorem beK_inj {k n m : Nat} (hn : n < 256 ^ k) (hm : m < 256 ^ k) (h : beK k n = beK k m) : n = m := by
  rw [← ofBe_beK _ _ hn, ← ofBe_beK _ _ hm, h]
theorem beq_beK {k n m : Nat} (hn : n < 256 ^ k) (hm : m < 256 ^ k) : (beK k n == beK k m) = decide (n = m) := by
  by_cases h : n = m
  · subst h; simp
  · have : beK k n ≠ beK k m := fun e => h (beK_inj hn hm e)
    simp [h, this]
/-- the head of octets -/
theorem enc_bytes {x : List UInt8} (h1 : x.length ≠ 1 ∨ ∃ c, x = [c] ∧ 128 ≤ c.toNat) (h2 : x.length < 56) : enc (.b x) = UInt8.ofNat (128 + x.length) :: x := by
  match x, h1 with
  | [], _ => rfl
  | [c], h1 =>
    rcases h1 with h | ⟨d, e, hd⟩
    · exact absurd rfl h
    · cases e
      unfold enc
      simp only
      rw [if_neg (by omega)]
      rfl
  | a :: b :: r, _ =>
    unfold enc
    simp only
    unfold pre
    rw [if_pos h2]
    rfl
theorem be_head {n : Nat} (h : 0 < n) : (be n)[0]? ≠ some 0 := by
  intro h0
  have hb := ofBe_be n
  have hl := be_length n
  match hx : be n with
  | [] => rw [hx] at h0; cases h0
  | c :: r =>
    rw [hx] at h0 hb hl
    have hc : c = 0 := by simpa using h0
    subst hc
    rw [ofBe_cons_eq] at hb
    have hr := ofBe_lt r
    simp at hb
    rw [hb] at hr
    by_cases h2 : 256 ≤ n
    · have h3 := octs_ge h2
      simp at hl
      rw [show octs n - 1 = r.length by omega] at h3
      omega
    · have : octs n = 1 := by unfold octs; rw [if_pos (by omega)]
      rw [this] at hl
      simp at hl
      rw [hl] at hr
      simp at hr
      omega
theorem octs_mono {n m : Nat} (h : octs n < octs m) : n < m := by
  have h1 := lt_octs n
  have hm : 256 ≤ m := by
    by_cases h2 : 256 ≤ m
    · exact h2
    · have : octs m = 1 := by unfold octs; rw [if_pos (by omega)]
      have := octs_pos n
      omega
  have h3 := octs_ge hm
  exact Nat.lt_of_lt_of_le h1 (Nat.le_trans (Nat.pow_le_pow_right (by decide) (by omega)) h3)
end Mine
end

section
set_option maxRecDepth 10000
set_option linter.unusedVariables false
namespace Mine
open Rlp
/-- the octets of a plain number (the same as e0 of LS3) -/
def f0 (n : Nat) : List UInt8 := enc (.b (ser0 n))
theorem f0_zero : f0 0 = [128] := by unfold f0 ser0; rw [if_pos rfl]; rfl
theorem be_small {n : Nat} (h : n < 256) : be n = [UInt8.ofNat n] := by
  have : octs n = 1 := by unfold octs; rw [if_pos h]
  unfold be
  rw [this]
  show [] ++ [UInt8.ofNat (n % 256)] = _
  rw [Nat.mod_eq_of_lt h]; rfl
theorem f0_small {n : Nat} (h0 : 0 < n) (h : n < 128) : f0 n = [UInt8.ofNat n] := by
  unfold f0 ser0
  rw [if_neg (by omega), be_small (by omega)]
  unfold enc
  simp only
  rw [if_pos (by rw [UInt8.toNat_ofNat']; omega)]
theorem f0_big {n : Nat} (h : 128 ≤ n) (ho : octs n ≤ 50) : f0 n = UInt8.ofNat (128 + octs n) :: be n := by
  unfold f0 ser0
  rw [if_neg (by omega), enc_bytes, be_length]
  · by_cases h2 : n < 256
    · exact .inr ⟨_, be_small h2, by rw [UInt8.toNat_ofNat']; omega⟩
    · refine .inl ?_
      rw [be_length]
      have h3 := octs_ge (n := n) (by omega)
      intro e
      rw [e] at h3
      unfold octs at e
      rw [if_neg (by omega)] at e
      have := octs_pos (n / 256)
      omega
  · rw [be_length]; omega
theorem octs50 {n : Nat} (h : n < 2 ^ 400) : octs n ≤ 50 := octs_le (by decide) (by rw [show (256 : Nat) ^ 50 = 2 ^ 400 by decide]; exact h)
theorem blt_head {a b : UInt8} {x y : List UInt8} (h : a.toNat < b.toNat) : blt (a :: x) (b :: y) = true := by rw [blt, if_pos h]
theorem blt_head' {a b : UInt8} {x y : List UInt8} (h : b.toNat < a.toNat) : blt (a :: x) (b :: y) = false := by rw [blt, if_neg (by omega), if_pos h]
theorem blt_same {a : UInt8} {x y : List UInt8} : blt (a :: x) (a :: y) = blt x y := blt_pre [a] x y
theorem lt_f0 {n m : Nat} (h0 : 0 < n) (h1 : 0 < m) (hn : octs n ≤ 50) (hm : octs m ≤ 50) : blt (f0 n) (f0 m) = decide (n < m) := by
  by_cases a : n < 128
  · rw [f0_small h0 a]
    by_cases b : m < 128
    · rw [f0_small h1 b]
      have en : (UInt8.ofNat n).toNat = n := by rw [UInt8.toNat_ofNat']; omega
      have em : (UInt8.ofNat m).toNat = m := by rw [UInt8.toNat_ofNat']; omega
      by_cases c : n < m
      · rw [blt_head (by omega)]; exact (decide_eq_true c).symm
      · rw [decide_eq_false c]
        by_cases d : m < n
        · exact blt_head' (by omega)
        · have : n = m := by omega
          subst this
          exact blt_irrefl _
    · rw [f0_big (by omega) hm, blt_head (by rw [UInt8.toNat_ofNat', UInt8.toNat_ofNat']; omega)]
      exact (decide_eq_true (by omega)).symm
  · rw [f0_big (by omega) hn]
    by_cases b : m < 128
    · rw [f0_small h1 b, blt_head' (by rw [UInt8.toNat_ofNat', UInt8.toNat_ofNat']; omega)]
      exact (decide_eq_false (by omega)).symm
    · rw [f0_big (by omega) hm]
      by_cases c : octs n < octs m
      · rw [blt_head (by rw [UInt8.toNat_ofNat', UInt8.toNat_ofNat']; omega)]
        exact (decide_eq_true (octs_mono c)).symm
      · by_cases d : octs m < octs n
        · rw [blt_head' (by rw [UInt8.toNat_ofNat', UInt8.toNat_ofNat']; omega)]
          have := octs_mono d
          exact (decide_eq_false (by omega)).symm
        · have e : octs n = octs m := by omega
          rw [e, blt_same, be, be, e]
          exact blt_beK (e ▸ lt_octs n) (lt_octs m)
theorem lt_f0_zero {n m : Nat} (h0 : n = 0) (h1 : 0 < m) (hm : octs m ≤ 50) : blt (f0 m) (f0 n) = decide (m < 128) := by
  subst h0
  rw [f0_zero]
  by_cases b : m < 128
  · rw [f0_small h1 b, blt_head (by rw [UInt8.toNat_ofNat']; show _ < 128; omega)]
    exact (decide_eq_true b).symm
  · rw [f0_big (by omega) hm, blt_head' (by rw [UInt8.toNat_ofNat']; show 128 < _; have := octs_pos m; omega)]
    exact (decide_eq_false b).symm
theorem eq_f0 {n m : Nat} (hn : octs n ≤ 50) (hm : octs m ≤ 50) : (f0 n == f0 m) = decide (n = m) := by
  by_cases h : n = m
  · subst h; simp
  · rw [decide_eq_false h, beq_eq_false_iff_ne]
    intro e
    by_cases hn0 : n = 0
    · have hm0 : 0 < m := by omega
      have z := lt_f0_zero hn0 hm0 hm
      rw [e, blt_irrefl] at z
      have z' : ¬ m < 128 := fun c => by rw [decide_eq_true c] at z; cases z
      subst hn0
      rw [f0_zero, f0_big (by omega) hm] at e
      injection e with e1 e2
      have : (128 : UInt8).toNat = (UInt8.ofNat (128 + octs m)).toNat := by rw [← e1]
      rw [UInt8.toNat_ofNat'] at this
      have := octs_pos m
      have h8 : (128 : UInt8).toNat = 128 := rfl
      omega
    · by_cases hm0 : m = 0
      · have z := lt_f0_zero hm0 (by omega : 0 < n) hn
        rw [e, blt_irrefl] at z
        have z' : ¬ n < 128 := fun c => by rw [decide_eq_true c] at z; cases z
        subst hm0
        rw [f0_zero, f0_big (by omega) hn] at e
        injection e with e1 e2
        have : (UInt8.ofNat (128 + octs n)).toNat = (128 : UInt8).toNat := by rw [e1]
        rw [UInt8.toNat_ofNat'] at this
        have := octs_pos n
        have h8 : (128 : UInt8).toNat = 128 := rfl
        omega
      · have a := lt_f0 (by omega : 0 < n) (by omega : 0 < m) hn hm
        have b := lt_f0 (by omega : 0 < m) (by omega : 0 < n) hm hn
        rw [e, blt_irrefl] at a
        rw [e, blt_irrefl] at b
        have a' : ¬ n < m := fun c => by rw [decide_eq_true c] at a; cases a
        have b' : ¬ m < n := fun c => by rw [decide_eq_true c] at b; cases b
        omega
theorem f0_len {n : Nat} (h : octs n ≤ 50) : (f0 n).length ≤ 51 := by
  by_cases h0 : n = 0
  · subst h0; rw [f0_zero]; decide
  · by_cases h1 : n < 128
    · rw [f0_small (by omega) h1]; simp
    · rw [f0_big (by omega) h, List.length_cons, be_length]; omega
theorem item_whole (d : D) (dep : Nat) (hd : d.depth < dep) (hz : (enc d).length < 256 ^ 8) : item (enc d) dep 0 = .ok (d, enc d, (enc d).length) := by
  have := item_enc d dep [] [] hd hz
  simpa using this
theorem ser0_facts {n : Nat} (h : octs n ≤ 50) : (ser0 n)[0]? ≠ some 0 ∧ (ser0 n).length ≤ 50 ∧ ofBe (ser0 n) = n := by
  unfold ser0
  by_cases h0 : n = 0
  · rw [if_pos h0]; subst h0; exact ⟨(fun e => nomatch e), by simp, rfl⟩
  · rw [if_neg h0]
    exact ⟨be_head (by omega), by rw [be_length]; exact h, ofBe_be n⟩
/-- one number of K octets within a row -/
theorem enc_beK {K n : Nat} (h2 : 2 ≤ K) (h10 : K ≤ 10) : enc (.b (beK K n)) = UInt8.ofNat (128 + K) :: beK K n := by
  rw [enc_bytes (.inl (by rw [beK_length]; omega)) (by rw [beK_length]; omega), beK_length]
theorem enc_beK_len {K n : Nat} (h1 : 1 ≤ K) (h10 : K ≤ 10) : (enc (.b (beK K n))).length ≤ K + 1 := by
  have hl := beK_length K n
  match hx : beK K n with
  | [] => rw [hx] at hl; simp at hl; omega
  | [c] =>
    unfold enc
    simp only
    split
    · simp
    · rw [hx] at hl; simp at hl; simp [pre]; omega
  | a :: b :: r =>
    rw [← hx, enc_bytes (.inl (by rw [hx]; simp)) (by rw [hl]; omega), List.length_cons, hl]
    exact Nat.le_refl _
theorem encs_row {K : Nat} (h2 : 2 ≤ K) (h10 : K ≤ 10) : ∀ ns : List Nat, (encs (ns.map fun n => .b (beK K n))).length = ns.length * (K + 1)
  | [] => by simp [encs]
  | n :: r => by
    rw [List.map_cons, encs, List.length_append, encs_row h2 h10 r, enc_beK h2 h10, List.length_cons, beK_length, List.length_cons, Nat.add_mul]
    omega
def gRow (K : Nat) (ns : List Nat) : List UInt8 := enc (.l (ns.map fun n => .b (beK K n)))
theorem gRow_eq {K : Nat} (h2 : 2 ≤ K) (h10 : K ≤ 10) {ns : List Nat} (h3 : ns.length ≤ 3) : gRow K ns = UInt8.ofNat (192 + ns.length * (K + 1)) :: encs (ns.map fun n => .b (beK K n)) := by
  unfold gRow enc
  rw [encs_row h2 h10]
  have : ns.length * (K + 1) ≤ 3 * 11 := Nat.mul_le_mul h3 (by omega)
  unfold pre
  rw [if_pos (by omega)]
  rfl
/-- the order of numbers in a row, told over naturals -/
def nlt : List Nat → List Nat → Bool
  | [], [] => false
  | [], _ :: _ => true
  | _ :: _, [] => false
  | a :: x, b :: y => if a = b then nlt x y else decide (a < b)
theorem lt_encs {K : Nat} (h2 : 2 ≤ K) (h10 : K ≤ 10) : ∀ (xs ys : List Nat), xs.length = ys.length → (∀ n ∈ xs, n < 256 ^ K) → (∀ n ∈ ys, n < 256 ^ K) →
    blt (encs (xs.map fun n => .b (beK K n))) (encs (ys.map fun n => .b (beK K n))) = nlt xs ys
  | [], [], _, _, _ => rfl
  | [], _ :: _, h, _, _ => nomatch h
  | _ :: _, [], h, _, _ => nomatch h
  | a :: x, b :: y, h, hx, hy => by
    have ih := lt_encs h2 h10 x y (by simpa using h) (fun n hn => hx n (.tail _ hn)) (fun n hn => hy n (.tail _ hn))
    have ha := hx a (.head _)
    have hb := hy b (.head _)
    rw [List.map_cons, List.map_cons, encs, encs, enc_beK h2 h10, enc_beK h2 h10, List.cons_append, List.cons_append, blt_same, blt_app _ _ (by rw [beK_length, beK_length]), ih, nlt]
    by_cases hab : a = b
    · subst hab; rw [if_pos rfl, if_pos rfl]
    · rw [if_neg (fun e => hab (beK_inj ha hb e)), if_neg hab, blt_beK ha hb]
theorem eq_encs {K : Nat} (h2 : 2 ≤ K) (h10 : K ≤ 10) : ∀ (xs ys : List Nat), xs.length = ys.length → (∀ n ∈ xs, n < 256 ^ K) → (∀ n ∈ ys, n < 256 ^ K) →
    encs (xs.map fun n => .b (beK K n)) = encs (ys.map fun n => .b (beK K n)) → xs = ys
  | [], [], _, _, _, _ => rfl
  | [], _ :: _, h, _, _, _ => nomatch h
  | _ :: _, [], h, _, _, _ => nomatch h
  | a :: x, b :: y, h, hx, hy, he => by
    have ih := eq_encs h2 h10 x y (by simpa using h) (fun n hn => hx n (.tail _ hn)) (fun n hn => hy n (.tail _ hn))
    rw [List.map_cons, List.map_cons, encs, encs] at he
    obtain ⟨e1, e2⟩ := List.append_inj he (by rw [enc_beK h2 h10, enc_beK h2 h10, List.length_cons, List.length_cons, beK_length, beK_length])
    rw [enc_beK h2 h10, enc_beK h2 h10] at e1
    injection e1 with _ e1
    rw [beK_inj (hx a (.head _)) (hy b (.head _)) e1, ih e2]
theorem lt_gRow {K : Nat} (h2 : 2 ≤ K) (h10 : K ≤ 10) {xs ys : List Nat} (hl : xs.length = ys.length) (h3 : xs.length ≤ 3) (hx : ∀ n ∈ xs, n < 256 ^ K) (hy : ∀ n ∈ ys, n < 256 ^ K) : blt (gRow K xs) (gRow K ys) = nlt xs ys := by
  rw [gRow_eq h2 h10 h3, gRow_eq h2 h10 (hl ▸ h3), hl, blt_same]
  exact lt_encs h2 h10 xs ys hl hx hy
theorem eq_gRow {K : Nat} (h2 : 2 ≤ K) (h10 : K ≤ 10) {xs ys : List Nat} (hl : xs.length = ys.length) (h3 : xs.length ≤ 3) (hx : ∀ n ∈ xs, n < 256 ^ K) (hy : ∀ n ∈ ys, n < 256 ^ K) : (gRow K xs == gRow K ys) = decide (xs = ys) := by
  by_cases h : xs = ys
  · subst h; simp
  · rw [decide_eq_false h, beq_eq_false_iff_ne, gRow_eq h2 h10 h3, gRow_eq h2 h10 (hl ▸ h3)]
    intro e
    injection e with _ e
    exact h (eq_encs h2 h10 xs ys hl hx hy e)
theorem gRow_len {K : Nat} (h2 : 2 ≤ K) (h10 : K ≤ 10) {ns : List Nat} (h3 : ns.length ≤ 3) : (gRow K ns).length ≤ 34 := by
  rw [gRow_eq h2 h10 h3, List.length_cons, encs_row h2 h10]
  have : ns.length * (K + 1) ≤ 3 * 11 := Nat.mul_le_mul h3 (by omega)
  omega
theorem depths_bs : ∀ xs : List (List UInt8), depths (xs.map D.b) = 0
  | [] => rfl
  | x :: r => by rw [List.map_cons, depths, depths_bs r]; rfl
theorem item_gRow {K : Nat} (h2 : 2 ≤ K) (h10 : K ≤ 10) {ns : List Nat} (h3 : ns.length ≤ 3) : item (gRow K ns) 3 0 = .ok (.l ((ns.map (beK K)).map D.b), gRow K ns, (gRow K ns).length) := by
  have e : (ns.map fun n => D.b (beK K n)) = (ns.map (beK K)).map D.b := by rw [List.map_map]; rfl
  have hl := gRow_len h2 h10 h3
  unfold gRow at hl ⊢
  rw [e] at hl ⊢
  exact item_whole _ 3 (by rw [D.depth, depths_bs]; decide) (Nat.lt_of_le_of_lt hl (by decide))
end Mine
end

section
open PySem PySem.W PyProof.Rows PySem.Spec PySem.Calls Rlp
set_option Elab.async false
set_option maxRecDepth 100000
set_option maxHeartbeats 0
set_option linter.unusedVariables false
namespace Mine
theorem fillLS0 : (fun (_ : OpenLaw) (_ : Params → Frag) => True) PySem.Challenge.rw_bi0020_03 K := by
  k_fill
  trivial
/-- the numbers of the law -/
def nums0 (is : List Int) : List Nat := (is.take 5).map (fun n => n.natAbs % 2 ^ 400) ++ [0, 1, 127, 128, 255, 256]
theorem nums0_are (is : List Int) : (nums0 is).map (fun n : Nat => (n : Int)) = List.map (fun k' : Int => (if k' < 0 then -k' else k').fmod (2 ^ Int.toNat 400)) (is.take 5) ++ [0, 1, 127, 128, 255, 256] := by
  unfold nums0
  rw [List.map_append, List.map_map]
  congr 1
  refine List.map_congr_left fun n _ => ?_
  show (((n.natAbs % 2 ^ 400 : Nat)) : Int) = _
  have e : (if n < 0 then -n else n) = (n.natAbs : Int) := by split <;> omega
  rw [e, Int.fmod_eq_emod_of_nonneg _ (Int.pow_nonneg (by decide)), Int.natCast_emod, Int.natCast_pow]
  rfl
theorem modK_lt (a : Int) (k : Nat) : (a % (256 : Int) ^ (k + 1)).toNat < 256 ^ (k + 1) := by
  have hp : (0 : Int) < (256 : Int) ^ (k + 1) := Int.pow_pos (by decide)
  have h1 := Int.emod_lt_of_pos a hp
  have h0 := Int.emod_nonneg a (Int.ne_of_gt hp)
  have e : ((256 ^ (k + 1) : Nat) : Int) = (256 : Int) ^ (k + 1) := by rw [Int.natCast_pow]; rfl
  omega
local macro_rules | `(tactic| walk_at "bsz") => `(tactic| ((try simp only [List.size_toArray, List.length_append, List.length_cons, List.length_nil, be_length, beK_length, slice_length]); omega))
local macro_rules | `(tactic| walk_at "call builtin:len") => `(tactic| ((with_reducible show wpAny _ _ (call (Value.builtin _) [Value.bytes (List.toArray _) _]) _ _ _); refine len_bytes (by walk_at "bsz") ?_; (try simp only [List.size_toArray, be_length])))
local macro_rules | `(tactic| walk_at "binaryOp Add bytes bytes") => `(tactic| ((with_reducible show wpAny _ _ (binaryOp Operator.Add (Value.bytes (List.toArray _) _) (Value.bytes (List.toArray _) _)) _ _ _); refine KBy.add_bytes (by walk_at "bsz") ?_; intro _ _; (try simp only [List.append_toArray, List.cons_append, List.nil_append])))
local macro_rules | `(tactic| walk_at "subscriptTail") => `(tactic| ((with_reducible show wpAny _ _ (subscriptTail _ _ (Value.bytes (List.toArray _) _) (Value.ref _)) _ _ _); refine slice_int (s := ⟨_, _, _, _, _⟩) (by k_asm) (by k_asm) (by omega) (by omega) (by omega) ?_; intro _ _ _ _ _))
local macro_rules | `(tactic| walk_at "dp") => `(tactic| ((show _ + _ < _); simp only [ktr_dp, ktr_un]; omega))
local macro_rules | `(tactic| walk_at "call ref") => `(tactic| ((with_reducible show wpAny _ _ (call (Value.ref 1464) _) _ _ _); (k_dflt (refine' b2i ?k1 ?k2 ?k3 ?k4 ?k5 ?k6 ?k7 ?k8 ?k9 ?_; (case k1 => k_asm); (case k2 => k_asm); (case k3 => k_asm); (case k4 => k_asm); (case k5 => k_asm); (case k6 => exact ⟨rfl, rfl⟩); (case k7 => walk_at "dp"); (case k8 => walk_at "dp"); (case k9 => walk_at "bsz"))); intro _ _ _ _ _))
local macro_rules | `(tactic| walk_at "call ref") => `(tactic| ((with_reducible show wpAny _ _ (call (Value.ref 1736) _) _ _ _); (k_dflt (refine' clp_ok ?k1 ?k2 ?k3 ?k4 ?k5 ?k6 ?k7 ?k8 ?k9 ?k0 ?_; (case k1 => k_asm); (case k2 => k_asm); (case k3 => k_asm); (case k4 => k_asm); (case k5 => k_asm); (case k6 => exact ⟨rfl, rfl⟩); (case k7 => walk_at "dp"); (case k8 => walk_at "dp"); (case k9 => walk_at "bsz"); (case k0 => assumption))); intro _ _ _ _ _ _ _ _ _ _))
local macro_rules | `(tactic| walk_at "call ref") => `(tactic| ((with_reducible show wpAny _ _ (call (Value.ref 1457) _) _ _ _); (k_dflt (refine' is_b ?k1 ?k2 ?k3 ?k4 ?k5 ?k6 ?k7 ?k8 ?_; (case k1 => k_asm); (case k2 => k_asm); (case k3 => k_asm); (case k4 => k_asm); (case k5 => k_asm); (case k6 => exact ⟨rfl, rfl⟩); (case k7 => walk_at "dp"); (case k8 => walk_at "dp"))); intro _ _ _ _))
local macro_rules | `(tactic| walk_at "call ref") => `(tactic| ((with_reducible show wpAny _ _ (call (Value.ref 1714) _) _ _ _); (k_dflt (refine' dr_ok ?k1 ?k2 ?k3 ?k4 ?k5 ?k6 ?k7 ?k8 ?k9 ?ka ?kb ?_; (case k1 => k_asm); (case k2 => k_asm); (case k3 => k_asm); (case k4 => k_asm); (case k5 => k_asm); (case ka => assumption); (case kb => assumption); (case k6 => exact ⟨rfl, rfl⟩); (case k7 => walk_at "dp"); (case k8 => walk_at "dp"); (case k9 => assumption))); intro _ _ _ _ _ _ _ _ _ _ _ _ _ _ _))
local macro_rules | `(tactic| walk_at "call ref") => `(tactic| ((with_reducible show wpAny _ _ (call (Value.ref 1500) [Value.ref 1509, _]) _ _ _); (k_dflt (refine' des_plain ?k1 ?k2 ?k3 ?k4 ?k5 ?k6 ?k7 ?k8 ?k9 ?k0 ?_; (case k1 => k_asm); (case k2 => k_asm); (case k3 => k_asm); (case k4 => k_asm); (case k5 => k_asm); (case k6 => exact ⟨rfl, rfl⟩); (case k7 => walk_at "dp"); (case k8 => walk_at "dp"); (case k9 => walk_at "bsz"); (case k0 => assumption))); intro _ _ _ _ _))
local macro_rules | `(tactic| walk_at "call ref") => `(tactic| ((with_reducible show wpAny _ _ (call (Value.ref 1471) _) _ _ _); (k_dflt (refine' i2b ?k1 ?k2 ?k3 ?k4 ?k5 ?k6 ?k7 ?k8 ?k9 ?_; (case k1 => k_asm); (case k2 => k_asm); (case k3 => k_asm); (case k4 => k_asm); (case k5 => k_asm); (case k6 => exact ⟨rfl, rfl⟩); (case k7 => walk_at "dp"); (case k8 => walk_at "dp"); (case k9 => walk_at "bsz"))); intro _ _ _ _ _))
local macro_rules | `(tactic| k_mem) => `(tactic| (refine mem_of ?_; ktr_member))
local macro_rules | `(tactic| walk_at "dp") => `(tactic| (k_dflt ((try simp only [depth_deeper, depth_caller, units_in1, units_deeper, units_caller]); decide)))
local macro_rules | `(tactic| walk_at "compareOp Lt bytes bytes") => `(tactic| ((with_reducible show wpAny _ _ (compareOp CmpOp.Lt (Value.bytes (List.toArray _) _) (Value.bytes (List.toArray _) _)) _ _ _); refine lt_bytes ?_))
local macro_rules | `(tactic| walk_at "GUARD") => `(tactic| ((fail_if_success (with_reducible show UnrEndW _ _ _ _ _ _)); (fail_if_success (with_reducible show wpAny _ _ (call (Value.type "zip") _) _ _ _)); (fail_if_success (with_reducible show wpAny _ _ (call (Value.type "enumerate") _) _ _ _)); (fail_if_success (with_reducible show wpAny _ _ (exec (Stmt.Assign [_] (Expr.ListComp _ _ _ _) _) _) _ _ _)); (fail_if_success (with_reducible show wpAny _ _ (eval (Expr.ListComp _ _ _ _) _) _ _ _))))
local macro_rules | `(tactic| walk_at "UPTO") => `(tactic| repeat' (first | (k_unfold; (try dsimp only)) | (k_end; wrow_close) | (walk_at "GUARD"; walk1) | (dsimp only; walk_at "GUARD"; walk1) | (walk_at "GUARD"; leave1; (try dsimp only)) | fail "no step"))
local macro_rules | `(tactic| walk_at "GUARDE") => `(tactic| ((fail_if_success (with_reducible show wpAny _ _ (execs (Stmt.Assign [_] (Expr.ListComp _ _ _ _) _ :: _) _) _ _ _)); (fail_if_success (with_reducible show UnrEndW _ _ _ _ _ _)); (fail_if_success (with_reducible show wpAny _ _ (call (Value.type "zip") _) _ _ _)); (fail_if_success (with_reducible show wpAny _ _ (call (Value.type "enumerate") _) _ _ _)); (fail_if_success (with_reducible show wpAny _ _ (exec (Stmt.Assign [_] (Expr.ListComp _ _ _ _) _) _) _ _ _)); (fail_if_success (with_reducible show wpAny _ _ (eval (Expr.ListComp _ _ _ _) _) _ _ _))))
local macro_rules | `(tactic| walk_at "UPTOE") => `(tactic| repeat' (first | (k_unfold; (try dsimp only)) | (k_end; wrow_close) | (walk_at "GUARDE"; walk1) | (dsimp only; walk_at "GUARDE"; walk1) | (walk_at "GUARDE"; leave1; (try dsimp only)) | fail "no step"))
section
variable {w : World} {p : Program} {loose : List Str} {mean : ExcName → Option Value} {mg mb : Str → Option Value} {g : Heap} {L fa : Nat} {cd : Value} {m : Str → Option Value} {s : Shared} {Q : Flow → Shared → Prop} {E : Value → Shared → Prop}
theorem seg0 {scr : Nat} {vs : List Value} {is : List Int} {c1 c2 c3 c4 c5 c6 : Obj}
    (K0 : Below callerA g [] g) (X : (K w.params).In g) (T : Top p loose mean mg mb g) (hL : g.IsList scr vs.toArray) (hI : IntsAre vs is) (hlen : is.length ≤ 63)
    (F : Fr g L s.heap m) (N : News g L s.heap ((L + 1 + 1 + 1 + 1 + 1 + 1, c6) :: (L + 1 + 1 + 1 + 1 + 1, c5) :: (L + 1 + 1 + 1 + 1, c4) :: (L + 1 + 1 + 1, c3) :: (L + 1 + 1, c2) :: (L + 1, c1) :: (1702, tabObj #[]) :: [])) (h17 : 1702 < L)
    (hc1 : c1.data = .cell (some (.ref scr)))
    (hE : PassesOwn (model rr.prog w) (callerA.deeper (lawE L fa cd)) (lawE L fa cd) E)
    (hnext : ∀ (m' : Str → Option Value) (h' : Heap) (tk DN : Nat) (vN : List Value) (nN : Nat), Fr g L h' m' → m' (Str.ofString "numbers") = some (.ref DN) → News g L h' ((DN, W.listOf vN.toArray nN) :: (L + 1 + 1 + 1 + 1 + 1 + 1, c6) :: (L + 1 + 1 + 1 + 1 + 1, c5) :: (L + 1 + 1 + 1 + 1, c4) :: (L + 1 + 1 + 1, c3) :: (L + 1 + 1, c2) :: (L + 1, c1) :: (1702, tabObj #[]) :: []) → L + 1 + 1 + 1 + 1 + 1 + 1 < DN →
      IntsAre vN ((nums0 is).map fun n : Nat => (n : Int)) → wpAny (model rr.prog w) (callerA.deeper (lawE L fa cd)) (execs (dL.body.drop 1) (lawE L fa cd)) Q E { s with heap := h', toks := tk }) :
    wpAny (model rr.prog w) (callerA.deeper (lawE L fa cd)) (execs dL.body (lawE L fa cd)) Q E s := by
  rw [kst_name (m := m) (ps := []) (fun q hq => nomatch hq)] at F
  walk_at "UPTOE"
  walk1
  walk_at "UPTOE"
  rename_i D2 ws2 h4 hI2 hC2 hL2 l12 hkl1 hkl g' hI8 hL8 D1 h3 tk3 o1 l' h2 l11 D' ws' h1 hI' l1 h' F' N'
  refine hnext _ h' _ D' ws' 0 F' rfl (News.sub N' fun q hq => ?_) (by omega) (by rw [nums0_are]; exact hI')
  rcases List.mem_cons.mp hq with h | h
  · exact h ▸ .head _
  · exact .tail _ (.tail _ (.tail _ (.tail _ h)))
theorem law_execs {scr : Nat} {vs : List Value} {is : List Int} {c1 c2 c3 c4 c5 c6 : Obj}
    (K0 : Below callerA g [] g) (X : (K w.params).In g) (T : Top p loose mean mg mb g) (hL : g.IsList scr vs.toArray) (hI : IntsAre vs is) (hlen : is.length ≤ 63)
    (F : Fr g L s.heap m) (N : News g L s.heap ((L + 1 + 1 + 1 + 1 + 1 + 1, c6) :: (L + 1 + 1 + 1 + 1 + 1, c5) :: (L + 1 + 1 + 1 + 1, c4) :: (L + 1 + 1 + 1, c3) :: (L + 1 + 1, c2) :: (L + 1, c1) :: (1702, tabObj #[]) :: [])) (h17 : 1702 < L)
    (hc1 : c1.data = .cell (some (.ref scr))) (hc2 : c2.data = .cell none) (hc3 : c3.data = .cell none) (hc4 : c4.data = .cell none) (hc5 : c5.data = .cell none) (hc6 : c6.data = .cell none)
    (hE : PassesOwn (model rr.prog w) (callerA.deeper (lawE L fa cd)) (lawE L fa cd) E)
    (hQ : ∀ (m' : Str → Option Value) (h' : Heap) (gs : Array GenState) (tk : Nat) (nw : List (Addr × Obj)) (ps : Array Value), Fr g L h' m' → News g L h' nw → (1702, tabObj ps) ∈ nw → GC s.gens gs → Q (.ret (.bool true)) { s with heap := h', gens := gs, toks := tk }) :
    wpAny (model rr.prog w) (callerA.deeper (lawE L fa cd)) (execs dL.body (lawE L fa cd)) Q E s := by
  have hb400 : ∀ n ∈ nums0 is, n < 2 ^ 400 := by
    intro n hn
    rcases List.mem_append.mp hn with h | h
    · obtain ⟨_, _, rfl⟩ := List.mem_map.mp h
      exact Nat.mod_lt _ (Nat.pow_pos (by decide))
    · have : n ≤ 256 := by
        simp only [List.mem_cons, List.not_mem_nil, or_false] at h
        omega
      exact Nat.lt_of_le_of_lt this (by decide +kernel)
  have hnl : (nums0 is).length ≤ 11 := by
    unfold nums0
    rw [List.length_append, List.length_map, List.length_take]
    simp only [List.length_cons, List.length_nil]
    omega
  have ho50 : ∀ n ∈ nums0 is, octs n ≤ 50 := fun n hn => octs50 (hb400 n hn)
  refine seg0 K0 X T hL hI hlen F N h17 hc1 hE ?_
  intro m1 h1 tk1 DN vN nN F1 hm1 N1 hDN hvN
  generalize nums0 is = nums at hb400 hnl ho50 hvN
  refine seg2 K0 X T F1 hm1 N1 hvN hnl ho50 ?_
  intro m2 h2 tk2 DM vM nM F2 hm2 hm2' N2 off2 hvM
  have hback : ∀ n ∈ nums, Back0 n := fun n hn => by
    obtain ⟨f1, f2, f3⟩ := ser0_facts (ho50 n hn)
    have hl := f0_len (ho50 n hn)
    exact ⟨Nat.lt_of_le_of_lt hl (by decide), item_whole _ 2 (by unfold D.depth; decide) (Nat.lt_of_le_of_lt hl (by decide)), f1, Nat.le_trans f2 (by decide), f3⟩
  have hfit : ∀ n ∈ nums, ∀ m ∈ nums, Fit0 n m := fun n hn m hm => ⟨fun a b => lt_f0 a b (ho50 n hn) (ho50 m hm), eq_f0 (ho50 n hn) (ho50 m hm), fun a b => lt_f0_zero a b (ho50 m hm)⟩
  refine seg3 K0 X T F2 hm2 hm2' N2 hvN hvM hnl hback hfit hE ?_
  intro m3 h3 tk3 F3 hm3 N3
  obtain ⟨k, hk⟩ : ∃ k : Nat, 1 + (is.getD 5 3).fmod 9 = (k : Int) := Int.eq_ofNat_of_zero_le (by have := Int.fmod_nonneg_of_pos (is.getD 5 3) (b := 9) (by decide); omega)
  have hk1 : 1 ≤ k := by have := Int.fmod_nonneg_of_pos (is.getD 5 3) (b := 9) (by decide); omega
  have hk9 : k ≤ 9 := by have := Int.fmod_lt_of_pos (is.getD 5 3) (b := 9) (by decide); omega
  refine seg4 K0 X T hL hI hlen F3 hm3 N3 hDN off2 h17 hc1 hc2 hc3 hvN hnl hk hk1 hk9 ?_ hE
  intro m4 h4 tk4 DN' DM' x dx vN' vM' nN' nM' kh kt u t2 nn o2 o3 F4 hm4 hm4' N4 offDM offDN offdx offx ho2 ho3 hvN' hvM'
  have hb4 : ∀ n ∈ nums.map fun n => n % 256 ^ k, n < 256 ^ k := fun n hn => by
    obtain ⟨_, _, rfl⟩ := List.mem_map.mp hn
    exact Nat.mod_lt _ (Nat.pow_pos (by decide))
  have hl4 : (nums.map fun n => n % 256 ^ k).length ≤ 11 := by rw [List.length_map]; exact hnl
  generalize (nums.map fun n => n % 256 ^ k) = nums4 at hb4 hl4 hvN' hvM'
  have hback4 : ∀ n ∈ nums4, BackK k n := fun n hn => by
    have hl := enc_beK_len (K := k) (n := n) hk1 (by omega)
    exact ⟨hb4 n hn, by omega, item_whole _ 2 (by unfold D.depth; decide) (by omega), beK_length _ _, ofBe_beK _ _ (hb4 n hn)⟩
  have hfit4 : ∀ n ∈ nums4, ∀ m ∈ nums4, FitK k n m := fun n hn m hm => ⟨blt_beK (hb4 n hn) (hb4 m hm), beq_beK (hb4 n hn) (hb4 m hm)⟩
  refine seg7 K0 X T F4 hm4 hm4' N4 ho2 ho3 hk1 hk9 hvN' hvM' hl4 hback4 hfit4 hE ?_
  intro m7 h7 tk7 F7 N7
  obtain ⟨mn, hmn⟩ : ∃ k : Nat, 1 + (is.getD 6 1).fmod 3 = (k : Int) := Int.eq_ofNat_of_zero_le (by have := Int.fmod_nonneg_of_pos (is.getD 6 1) (b := 3) (by decide); omega)
  have hmn1 : 1 ≤ mn := by have := Int.fmod_nonneg_of_pos (is.getD 6 1) (b := 3) (by decide); omega
  have hmn3 : mn ≤ 3 := by have := Int.fmod_lt_of_pos (is.getD 6 1) (b := 3) (by decide); omega
  obtain ⟨al, hal⟩ : ∃ k : Nat, (is.getD 7 1).fmod ((mn : Int) + 1) = (k : Int) := Int.eq_ofNat_of_zero_le (Int.fmod_nonneg_of_pos _ (by omega))
  refine seg8 K0 X T hL hI hlen F7 N7 offDM offDN offdx offx h17 hc1 hc4 hc5 hc6 ho2 ho3 hk1 hk9 hmn hmn1 hmn3 hal ?_ hE
  intro m8 h8 tk8 x2 dx2 kh2 kt2 u2 t5 t9 nn2 o4 o5 F8 hm8 N8 offdx2 offx2 ho4 ho5
  refine seg11 K0 X T hL hI hlen F8 hm8 N8 offdx2 offx2 h17 hc1 hc6 ho2 ho4 ho5 hk1 hk9 hmn1 hmn3 ?_ hE
  intro m11 h11 tk11 R D1 D2 v1 v2 nR n1 n2 o6 F11 N11 hv1 hv2 ho6 hne
  have hbA : ∀ n ∈ (List.range mn).map (rowA is k), n < 256 ^ (k + 1) := fun n hn => by
    obtain ⟨i, _, rfl⟩ := List.mem_map.mp hn
    unfold rowA
    exact modK_lt _ _
  have hbB : ∀ n ∈ (List.range mn).map (rowB is k al), n < 256 ^ (k + 1) := fun n hn => by
    obtain ⟨i, hi, rfl⟩ := List.mem_map.mp hn
    unfold rowB
    split
    · exact hbA _ (List.mem_map.mpr ⟨i, hi, rfl⟩)
    · exact modK_lt _ _
  have hlA : ((List.range mn).map (rowA is k)).length = mn := by rw [List.length_map, List.length_range]
  have hlB : ((List.range mn).map (rowB is k al)).length = mn := by rw [List.length_map, List.length_range]
  replace hv1 : IntsAre v1 (((List.range mn).map (rowA is k)).map fun n : Nat => (n : Int)) := by rw [List.map_map]; exact hv1
  replace hv2 : IntsAre v2 (((List.range mn).map (rowB is k al)).map fun n : Nat => (n : Int)) := by rw [List.map_map]; exact hv2
  generalize (List.range mn).map (rowA is k) = nsA at hbA hlA hv1
  generalize (List.range mn).map (rowB is k al) = nsB at hbB hlB hv2
  have hzA : (eRow (k + 1) nsA).length < 2 ^ 23 := Nat.lt_of_le_of_lt (gRow_len (by omega) (by omega) (by omega)) (by decide)
  have hzB : (eRow (k + 1) nsB).length < 2 ^ 23 := Nat.lt_of_le_of_lt (gRow_len (by omega) (by omega) (by omega)) (by decide)
  refine seg13 K0 X T F11 N11 h17 ho4 ho6 hk1 hk9 hne hv1 hv2 (by omega) (by omega) hbA hbB hzA hzB hE ?_
  intro m13 h13 gs13 tk13 DM13 vM13 nM13 ps F13 hm13 N13 off13 hgc htr hvM13
  have hcast : ∀ xs ys : List Nat, nlt xs ys = ilt (xs.map fun n : Nat => (n : Int)) (ys.map fun n : Nat => (n : Int)) := by
    intro xs
    induction xs with
    | nil => intro ys; cases ys <;> rfl
    | cons a r ih =>
      intro ys
      cases ys with
      | nil => rfl
      | cons b t =>
        show (if a = b then nlt r t else decide (a < b)) = (if (a : Int) = (b : Int) then ilt _ _ else decide ((a : Int) < (b : Int)))
        by_cases h : a = b
        · subst h; rw [if_pos rfl, if_pos rfl]; exact ih t
        · rw [if_neg h, if_neg (by omega)]
          congr 1
          exact propext ⟨fun h => by omega, fun h => by omega⟩
  refine seg14 K0 X T F13 hm13 N13 h17 ho4 ho6 hk1 hk9 hvM13 hv1 hv2 (by omega) (by omega) ?_ ?_ hbA hbB hzA hzB (item_gRow (by omega) (by omega) (by omega)) (item_gRow (by omega) (by omega) (by omega)) hE ?_
  · rw [← hcast]; exact lt_gRow (by omega) (by omega) (by omega) (by omega) hbA hbB
  · have e := eq_gRow (K := k + 1) (xs := nsA) (ys := nsB) (by omega) (by omega) (by omega) (by omega) hbA hbB
    refine Eq.trans e ?_
    congr 1
    refine propext ⟨fun h => by rw [h], fun h => ?_⟩
    exact (List.map_inj_right (f := fun n : Nat => (n : Int)) (fun a b (h : (a : Int) = (b : Int)) => by omega)).mp h
  · intro m14 h14 tk14 nw F14 N14 hin
    exact hQ _ h14 gs13 _ nw ps F14 N14 hin hgc
end
end Mine
end

section
open PySem PySem.W PyProof.Rows PySem.Spec PySem.Calls Rlp
set_option Elab.async false
set_option maxRecDepth 100000
set_option maxHeartbeats 0
set_option linter.unusedVariables false
namespace Mine
theorem fillLW4 : (fun (_ : OpenLaw) (_ : Params → Frag) => True) PySem.Challenge.rw_bi0020_03 K := by
  k_fill
  trivial
theorem walk : Walk := by
  intro w s₀ s₁ mg mb G Y fa o pm cd doc dV kV ho hd hcd hD hmg hg args vals as hpre hlay hrd hwl hlo
  have KX := kIn_of Y
  have X := (Ground.X G).1
  have V := (Ground.X G).2
  refine Ground.open G ?_
  intro T B D TE TW
  have hT9 : TabsAt [(1706, 1702)] s₁.heap := List.forall_mem_cons.mpr ⟨tab_of (x := Str.ofString "encode_raw") (c := 1706) (P := 1702) T KX rfl (by kernel_rfl), fun _ h => nomatch h⟩
  clear hmg
  wrow_args hpre hlay hrd hwl hlo
  all_goals (
    refine enter_call ?_
    w_top on
    refine law_post hT9 (fun _ _ => rfl) (by wrow_post) ?_
    w_call any ho hd hcd hD T F
    clear hd
    kn_ghosts F T
    k_drop
    skip)
  rename_i d6 d5 d4 d3 d2 d1 X0 X' T' K' F' N' l0
  rename IntsAre _ _ => hI9
  rename ¬ _ < _ => hlen9
  refine law_execs K' X' T' lifted hI9 (by omega) F' N' l0 ?d1 ?d2 ?d3 ?d4 ?d5 ?d6 PassesOwn.leaving ?hQ
  case d1 => exact d1
  case d2 => exact d2
  case d3 => exact d3
  case d4 => exact d4
  case d5 => exact d5
  case d6 => exact d6
  case hQ =>
    intro m' h' gs tk nw ps F9 N9 hin hgc
    refine ⟨rfl, F9.keep, ?_, rfl, hgc.2.2 ?_⟩
    · exact ⟨⟨ps, (N9 _ hin).1⟩, trivial⟩
    · exact AllBare.of_eq hg
end Mine
end

open PySem PySem.W PyProof.Rows
set_option maxRecDepth 100000 in
set_option maxHeartbeats 0 in
theorem PySem.Challenge.cw_bi0020_03_holds : PySem.Challenge.rw_bi0020_03.Holds := by
  w_on
  o_law
  exact Mine.hd (by assumption) Mine.walk
