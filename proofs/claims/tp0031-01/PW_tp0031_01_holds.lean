import PyProof.Rows.All
import Wide.All
import OpenK.AllK
import Wide.FinOn
import PySem.Challenge.RW_tp0031_01
set_option Elab.async false
set_option linter.all false
-- text HeadDefs
section
open PySem PySem.W PySem.Calls PyProof.Rows
set_option maxRecDepth 100000
set_option maxHeartbeats 0
namespace Mine
noncomputable abbrev pw : Program := PySem.Challenge.pw_tp0031_01
noncomputable def stmtAt (i : Nat) : Stmt := match pw.main.body.drop i with | s :: _ => s | [] => .Pass default
noncomputable def fdA (i : Nat) (pm cd : Value) (gl blt : Addr) : FuncData := match stmtAt i with
  | .FunctionDef name args body _ _ _ scope _ _ _ => { name, qualname := name, params := args, body := .stmts body, scope, globals := gl, closure := [], defaults := .none, kwdefaults := .none, doc := .none, pyModule := pm, annotations := none, code := cd, closureTuple := .none, builtins := blt }
  | _ => default
noncomputable def en (P : Params) (x : Str) (t : Tok) (v : Value) : DictEntry := ⟨PyData.keyHash P x, .str x t, v⟩
noncomputable def dob (es : List DictEntry) (n : Nat) : Obj := ⟨.type "dict", none, .dict ⟨es⟩ n, #[]⟩
noncomputable abbrev Row := Nat × Str
noncomputable def ents : Nat → List Row → List DictEntry
  | _, [] => []
  | t, x :: r => ⟨hashInt (x.1 : Int), .int (x.1 : Int) t, .str x.2 (t + 1)⟩ :: ents (t + 3) r
noncomputable def ents2 : Nat → List Row → List DictEntry
  | _, [] => []
  | t, x :: r => ⟨hashInt (x.1 : Int), .int (x.1 : Int) t, .str x.2 (t + 1)⟩ :: ents2 (t + 2) r
noncomputable def subsOf : Nat → List (List Row) → List Obj
  | _, [] => []
  | t, c :: r => dob (ents t c) 17 :: subsOf (t + 51) r
noncomputable def rowOf : Option Expr → Expr → Row
  | some (.Constant (.int k) _ _), .Constant (.str s) _ _ => (k.toNat, s)
  | _, _ => (0, Str.empty)
noncomputable def rows : List Row := match stmtAt 8 with
  | .Assign _ (.Dict ks vs _) _ => List.zipWith rowOf ks vs
  | _ => []
noncomputable def chunksOf : Nat → List Row → List (List Row)
  | 0, _ => []
  | n + 1, l => l.take 17 :: chunksOf n (l.drop 17)
noncomputable def c0 : List Row := rows.take 17
noncomputable def cs : List (List Row) := chunksOf 37 (rows.drop 17)
noncomputable def last : List Row := rows.drop 646
noncomputable def mainE : List DictEntry := ents 307 c0 ++ ents 358 cs.flatten ++ ents2 2245 last
noncomputable def dictObjs : List Obj := dob mainE 650 :: (subsOf 358 cs ++ [dob (ents2 2245 last) 4])
noncomputable def o11pre (P : Params) : Obj := ⟨(.type "tuple"), none, (.seq ⟨[]⟩ 0), ⟨[]⟩⟩
noncomputable def o12pre (P : Params) : Obj := ⟨.none, none, (.fields ⟨[]⟩), ⟨[]⟩⟩
noncomputable def o13pre (P : Params) : Obj := ⟨(.type "code"), none, (.fields ⟨[(.str (Str.mk ⟨[60, 109, 111, 100, 117, 108, 101, 62]⟩) 182), (.str (Str.mk ⟨[60, 109, 111, 100, 117, 108, 101, 62]⟩) 183), (.str (Str.mk ⟨[47, 99, 108, 97, 105, 109, 47, 99, 117, 116, 46, 112, 121]⟩) 184), (.int 1 0), (.int 0 0), (.int 0 0), (.int 0 0), (.int 0 0), (.ref 11), (.bool false), (.int 181 0), (.ref 12), .none, .none, .none, .none, (.int 185 0), (.int 1 0), (.str (Str.mk ⟨[47, 99, 108, 97, 105, 109, 47, 99, 117, 116, 46, 112, 121]⟩) 186)]⟩), ⟨[]⟩⟩
noncomputable def o14pre (P : Params) : Obj := ⟨(.type "frame"), none, .plain, ⟨[(some (.ref 13)), (some (.ref 3)), (some (.ref 3)), none, (some (.str (Str.mk ⟨[95, 95, 109, 97, 105, 110, 95, 95]⟩) 164)), none, (some (.ref 0))]⟩⟩
noncomputable def o15s1 (P : Params) : Obj := ⟨(.type "tuple"), none, (.seq ⟨[]⟩ 0), ⟨[]⟩⟩
noncomputable def o16s1 (P : Params) : Obj := ⟨.none, none, (.fields ⟨[]⟩), ⟨[]⟩⟩
noncomputable def o17s1 (P : Params) : Obj := ⟨(.type "tuple"), none, (.seq ⟨[(.str (Str.mk ⟨[114]⟩) 192), (.str (Str.mk ⟨[103]⟩) 193), (.str (Str.mk ⟨[98]⟩) 194), (.str (Str.mk ⟨[109, 97, 120, 99]⟩) 195), (.str (Str.mk ⟨[109, 105, 110, 99]⟩) 196), (.str (Str.mk ⟨[115, 117, 109, 99]⟩) 197), (.str (Str.mk ⟨[114, 97, 110, 103, 101, 99]⟩) 198), (.str (Str.mk ⟨[108]⟩) 199), (.str (Str.mk ⟨[115]⟩) 200), (.str (Str.mk ⟨[114, 99]⟩) 201), (.str (Str.mk ⟨[103, 99]⟩) 202), (.str (Str.mk ⟨[98, 99]⟩) 203), (.str (Str.mk ⟨[104]⟩) 204)]⟩ 0), ⟨[]⟩⟩
noncomputable def o18s1 (P : Params) : Obj := ⟨(.type "tuple"), none, (.seq ⟨[]⟩ 0), ⟨[]⟩⟩
noncomputable def o19s1 (P : Params) : Obj := ⟨.none, none, (.func (fdA 1 .none .none 0 0)), ⟨[]⟩⟩
noncomputable def o20s1 (P : Params) : Obj := ⟨(.type "code"), none, (.fields ⟨[(.str (Str.mk ⟨[114, 103, 98, 95, 116, 111, 95, 104, 108, 115]⟩) 189), (.str (Str.mk ⟨[114, 103, 98, 95, 116, 111, 95, 104, 108, 115]⟩) 190), (.str (Str.mk ⟨[47, 99, 108, 97, 105, 109, 47, 99, 117, 116, 46, 112, 121]⟩) 191), (.int 2 0), (.int 3 0), (.int 0 0), (.int 0 0), (.int 3 0), (.ref 15), (.bool true), (.int 181 0), (.ref 16), .none, (.ref 17), (.ref 18), (.ref 19), (.int 205 0), (.int 2 0), (.str (Str.mk ⟨[47, 99, 108, 97, 105, 109, 47, 99, 117, 116, 46, 112, 121]⟩) 206)]⟩), ⟨[]⟩⟩
noncomputable def o21s1 (P : Params) : Obj := ⟨(.type "function"), none, (.func (fdA 1 (.str (Str.mk ⟨[99, 112, 121, 51, 49, 51, 46, 99, 111, 108, 111, 114, 115, 121, 115]⟩) 187) (.ref 20) 3 0)), ⟨[]⟩⟩
noncomputable def o22s2 (P : Params) : Obj := ⟨(.type "tuple"), none, (.seq ⟨[]⟩ 0), ⟨[]⟩⟩
noncomputable def o23s2 (P : Params) : Obj := ⟨.none, none, (.fields ⟨[]⟩), ⟨[]⟩⟩
noncomputable def o24s2 (P : Params) : Obj := ⟨(.type "tuple"), none, (.seq ⟨[(.str (Str.mk ⟨[114]⟩) 211), (.str (Str.mk ⟨[103]⟩) 212), (.str (Str.mk ⟨[98]⟩) 213), (.str (Str.mk ⟨[109, 97, 120, 99]⟩) 214), (.str (Str.mk ⟨[109, 105, 110, 99]⟩) 215), (.str (Str.mk ⟨[114, 97, 110, 103, 101, 99]⟩) 216), (.str (Str.mk ⟨[118]⟩) 217), (.str (Str.mk ⟨[115]⟩) 218), (.str (Str.mk ⟨[114, 99]⟩) 219), (.str (Str.mk ⟨[103, 99]⟩) 220), (.str (Str.mk ⟨[98, 99]⟩) 221), (.str (Str.mk ⟨[104]⟩) 222)]⟩ 0), ⟨[]⟩⟩
noncomputable def o25s2 (P : Params) : Obj := ⟨(.type "tuple"), none, (.seq ⟨[]⟩ 0), ⟨[]⟩⟩
noncomputable def o26s2 (P : Params) : Obj := ⟨.none, none, (.func (fdA 2 .none .none 0 0)), ⟨[]⟩⟩
noncomputable def o27s2 (P : Params) : Obj := ⟨(.type "code"), none, (.fields ⟨[(.str (Str.mk ⟨[114, 103, 98, 95, 116, 111, 95, 104, 115, 118]⟩) 208), (.str (Str.mk ⟨[114, 103, 98, 95, 116, 111, 95, 104, 115, 118]⟩) 209), (.str (Str.mk ⟨[47, 99, 108, 97, 105, 109, 47, 99, 117, 116, 46, 112, 121]⟩) 210), (.int 25 0), (.int 3 0), (.int 0 0), (.int 0 0), (.int 3 0), (.ref 22), (.bool true), (.int 181 0), (.ref 23), .none, (.ref 24), (.ref 25), (.ref 26), (.int 223 0), (.int 25 0), (.str (Str.mk ⟨[47, 99, 108, 97, 105, 109, 47, 99, 117, 116, 46, 112, 121]⟩) 224)]⟩), ⟨[]⟩⟩
noncomputable def o28s2 (P : Params) : Obj := ⟨(.type "function"), none, (.func (fdA 2 (.str (Str.mk ⟨[99, 112, 121, 51, 49, 51, 46, 99, 111, 108, 111, 114, 115, 121, 115]⟩) 187) (.ref 27) 3 0)), ⟨[]⟩⟩
noncomputable def o12s4 (P : Params) : Obj := ⟨.none, none, (.fields ⟨[(.int 2 0), (.int 0 0), (.ref 20), (.int 25 0), (.int 0 0), (.ref 27), (.int 45 0), (.int 0 0), (.ref 34)]⟩), ⟨[]⟩⟩
noncomputable def o29s4 (P : Params) : Obj := ⟨(.type "tuple"), none, (.seq ⟨[]⟩ 0), ⟨[]⟩⟩
noncomputable def o30s4 (P : Params) : Obj := ⟨.none, none, (.fields ⟨[]⟩), ⟨[]⟩⟩
noncomputable def o31s4 (P : Params) : Obj := ⟨(.type "tuple"), none, (.seq ⟨[(.str (Str.mk ⟨[110, 117, 109]⟩) 231), (.str (Str.mk ⟨[118, 97, 108]⟩) 232), (.str (Str.mk ⟨[65, 80]⟩) 233), (.str (Str.mk ⟨[109, 111, 100]⟩) 234)]⟩ 0), ⟨[]⟩⟩
noncomputable def o32s4 (P : Params) : Obj := ⟨(.type "tuple"), none, (.seq ⟨[]⟩ 0), ⟨[]⟩⟩
noncomputable def o33s4 (P : Params) : Obj := ⟨.none, none, (.func (fdA 4 .none .none 0 0)), ⟨[]⟩⟩
noncomputable def o34s4 (P : Params) : Obj := ⟨(.type "code"), none, (.fields ⟨[(.str (Str.mk ⟨[73, 110, 116, 50, 65, 80]⟩) 228), (.str (Str.mk ⟨[73, 110, 116, 50, 65, 80]⟩) 229), (.str (Str.mk ⟨[47, 99, 108, 97, 105, 109, 47, 99, 117, 116, 46, 112, 121]⟩) 230), (.int 45 0), (.int 1 0), (.int 0 0), (.int 0 0), (.int 3 0), (.ref 29), (.bool true), (.int 181 0), (.ref 30), .none, (.ref 31), (.ref 32), (.ref 33), (.int 235 0), (.int 45 0), (.str (Str.mk ⟨[47, 99, 108, 97, 105, 109, 47, 99, 117, 116, 46, 112, 121]⟩) 236)]⟩), ⟨[]⟩⟩
noncomputable def o35s4 (P : Params) : Obj := ⟨(.type "function"), none, (.func (fdA 4 (.str (Str.mk ⟨[99, 112, 121, 51, 49, 51, 46, 105, 109, 97, 112, 108, 105, 98]⟩) 226) (.ref 34) 3 0)), ⟨[]⟩⟩
noncomputable def o3s5 (P : Params) : Obj := ⟨(.type "dict"), none, (.dict ⟨[(en P (Str.mk ⟨[95, 95, 110, 97, 109, 101, 95, 95]⟩) 165 (.str (Str.mk ⟨[99, 112, 121, 51, 49, 51, 46, 115, 116, 114, 105, 110, 103, 112, 114, 101, 112]⟩) 238)), (en P (Str.mk ⟨[95, 95, 100, 111, 99, 95, 95]⟩) 166 .none), (en P (Str.mk ⟨[95, 95, 112, 97, 99, 107, 97, 103, 101, 95, 95]⟩) 167 .none), (en P (Str.mk ⟨[95, 95, 108, 111, 97, 100, 101, 114, 95, 95]⟩) 168 (.builtin "__main__.__loader__#opaque")), (en P (Str.mk ⟨[95, 95, 115, 112, 101, 99, 95, 95]⟩) 169 .none), (en P (Str.mk ⟨[95, 95, 97, 110, 110, 111, 116, 97, 116, 105, 111, 110, 115, 95, 95]⟩) 170 (.ref 6)), (en P (Str.mk ⟨[95, 95, 98, 117, 105, 108, 116, 105, 110, 115, 95, 95]⟩) 171 (.ref 4)), (en P (Str.mk ⟨[95, 95, 102, 105, 108, 101, 95, 95]⟩) 173 (.str (Str.mk ⟨[47, 99, 108, 97, 105, 109, 47, 99, 117, 116, 46, 112, 121]⟩) 172)), (en P (Str.mk ⟨[95, 95, 99, 97, 99, 104, 101, 100, 95, 95]⟩) 174 .none), (en P (Str.mk ⟨[114, 103, 98, 95, 116, 111, 95, 104, 108, 115]⟩) 207 (.ref 21)), (en P (Str.mk ⟨[114, 103, 98, 95, 116, 111, 95, 104, 115, 118]⟩) 225 (.ref 28)), (en P (Str.mk ⟨[73, 110, 116, 50, 65, 80]⟩) 237 (.ref 35))]⟩ 12), ⟨[]⟩⟩
noncomputable def o3s6 (P : Params) : Obj := ⟨(.type "dict"), none, (.dict ⟨[(en P (Str.mk ⟨[95, 95, 110, 97, 109, 101, 95, 95]⟩) 165 (.str (Str.mk ⟨[99, 112, 121, 51, 49, 51, 46, 115, 116, 114, 105, 110, 103, 112, 114, 101, 112]⟩) 238)), (en P (Str.mk ⟨[95, 95, 100, 111, 99, 95, 95]⟩) 166 .none), (en P (Str.mk ⟨[95, 95, 112, 97, 99, 107, 97, 103, 101, 95, 95]⟩) 167 .none), (en P (Str.mk ⟨[95, 95, 108, 111, 97, 100, 101, 114, 95, 95]⟩) 168 (.builtin "__main__.__loader__#opaque")), (en P (Str.mk ⟨[95, 95, 115, 112, 101, 99, 95, 95]⟩) 169 .none), (en P (Str.mk ⟨[95, 95, 97, 110, 110, 111, 116, 97, 116, 105, 111, 110, 115, 95, 95]⟩) 170 (.ref 6)), (en P (Str.mk ⟨[95, 95, 98, 117, 105, 108, 116, 105, 110, 115, 95, 95]⟩) 171 (.ref 4)), (en P (Str.mk ⟨[95, 95, 102, 105, 108, 101, 95, 95]⟩) 173 (.str (Str.mk ⟨[47, 99, 108, 97, 105, 109, 47, 99, 117, 116, 46, 112, 121]⟩) 172)), (en P (Str.mk ⟨[95, 95, 99, 97, 99, 104, 101, 100, 95, 95]⟩) 174 .none), (en P (Str.mk ⟨[114, 103, 98, 95, 116, 111, 95, 104, 108, 115]⟩) 207 (.ref 21)), (en P (Str.mk ⟨[114, 103, 98, 95, 116, 111, 95, 104, 115, 118]⟩) 225 (.ref 28)), (en P (Str.mk ⟨[73, 110, 116, 50, 65, 80]⟩) 237 (.ref 35)), (en P (Str.mk ⟨[98, 49, 95, 115, 101, 116]⟩) 299 (.ref 43))]⟩ 13), ⟨[]⟩⟩
noncomputable def o36s6 (P : Params) : Obj := ⟨(.type "list"), none, (.seq ⟨[(.int 173 240), (.int 847 241), (.int 6150 242), (.int 6155 243), (.int 6156 244), (.int 6157 245), (.int 8203 246), (.int 8204 247), (.int 8205 248), (.int 8288 249), (.int 65279 250)]⟩ 0), ⟨[]⟩⟩
noncomputable def o37s6 (P : Params) : Obj := ⟨(.type "range"), none, (.fields ⟨[(.int 65024 251), (.int 65040 252), (.int 1 253)]⟩), ⟨[]⟩⟩
noncomputable def o38s6 (P : Params) : Obj := ⟨(.type "list"), none, (.seq ⟨[(.int 65024 256), (.int 65025 257), (.int 65026 258), (.int 65027 259), (.int 65028 260), (.int 65029 261), (.int 65030 262), (.int 65031 263), (.int 65032 264), (.int 65033 265), (.int 65034 266), (.int 65035 267), (.int 65036 268), (.int 65037 269), (.int 65038 270), (.int 65039 271)]⟩ 18), ⟨[]⟩⟩
noncomputable def o39s6 (P : Params) : Obj := ⟨(.type "range_iterator"), none, (.fields ⟨[(.int 65040 0), (.int 0 0), (.int 1 0)]⟩), ⟨[]⟩⟩
noncomputable def o40s6 (P : Params) : Obj := ⟨(.type "tuple"), none, (.seq ⟨[]⟩ 0), ⟨[]⟩⟩
noncomputable def o41s6 (P : Params) : Obj := ⟨(.type "StopIteration"), none, (.fields ⟨[(.ref 40), .none, .none, .none, (.bool false), .none]⟩), ⟨[]⟩⟩
noncomputable def o42s6 (P : Params) : Obj := ⟨(.type "list"), none, (.seq ⟨[(.int 173 240), (.int 847 241), (.int 6150 242), (.int 6155 243), (.int 6156 244), (.int 6157 245), (.int 8203 246), (.int 8204 247), (.int 8205 248), (.int 8288 249), (.int 65279 250), (.int 65024 256), (.int 65025 257), (.int 65026 258), (.int 65027 259), (.int 65028 260), (.int 65029 261), (.int 65030 262), (.int 65031 263), (.int 65032 264), (.int 65033 265), (.int 65034 266), (.int 65035 267), (.int 65036 268), (.int 65037 269), (.int 65038 270), (.int 65039 271)]⟩ 0), ⟨[]⟩⟩
noncomputable def o43s6 (P : Params) : Obj := ⟨(.type "set"), none, (.set ⟨[(65024, (.int 65024 256)), (65025, (.int 65025 257)), (65026, (.int 65026 258)), (65027, (.int 65027 259)), (65028, (.int 65028 260)), (65029, (.int 65029 261)), (6150, (.int 6150 242)), (65030, (.int 65030 262)), (65031, (.int 65031 263)), (65032, (.int 65032 264)), (65033, (.int 65033 265)), (6155, (.int 6155 243)), (6156, (.int 6156 244)), (6157, (.int 6157 245)), (8203, (.int 8203 246)), (8204, (.int 8204 247)), (8205, (.int 8205 248)), (65034, (.int 65034 266)), (65035, (.int 65035 267)), (65036, (.int 65036 268)), (65037, (.int 65037 269)), (65038, (.int 65038 270)), (65039, (.int 65039 271)), (173, (.int 173 240)), (847, (.int 847 241)), (8288, (.int 8288 249)), (65279, (.int 65279 250))]⟩ 29 ⟨127, ⟨[0, 1, 2, 3, 4, 5, 6, 7, 8, 9, 10, 11, 12, 13, 14, 15, 16, 17, 18, 19, 20, 21, 22, 45, 79, 96, 127]⟩, ⟨[]⟩, 0, !P.followText "set-order", 2, true⟩), ⟨[]⟩⟩
noncomputable def o44s6 (P : Params) : Obj := ⟨(.type "list_iterator"), none, (.fields ⟨[.none, (.int 27 0)]⟩), ⟨[]⟩⟩
noncomputable def o45s6 (P : Params) : Obj := ⟨(.type "tuple"), none, (.seq ⟨[]⟩ 0), ⟨[]⟩⟩
noncomputable def o46s6 (P : Params) : Obj := ⟨(.type "StopIteration"), none, (.fields ⟨[(.ref 45), .none, .none, .none, (.bool false), .none]⟩), ⟨[]⟩⟩
noncomputable def o3s7 (P : Params) : Obj := ⟨(.type "dict"), none, (.dict ⟨[(en P (Str.mk ⟨[95, 95, 110, 97, 109, 101, 95, 95]⟩) 165 (.str (Str.mk ⟨[99, 112, 121, 51, 49, 51, 46, 115, 116, 114, 105, 110, 103, 112, 114, 101, 112]⟩) 238)), (en P (Str.mk ⟨[95, 95, 100, 111, 99, 95, 95]⟩) 166 .none), (en P (Str.mk ⟨[95, 95, 112, 97, 99, 107, 97, 103, 101, 95, 95]⟩) 167 .none), (en P (Str.mk ⟨[95, 95, 108, 111, 97, 100, 101, 114, 95, 95]⟩) 168 (.builtin "__main__.__loader__#opaque")), (en P (Str.mk ⟨[95, 95, 115, 112, 101, 99, 95, 95]⟩) 169 .none), (en P (Str.mk ⟨[95, 95, 97, 110, 110, 111, 116, 97, 116, 105, 111, 110, 115, 95, 95]⟩) 170 (.ref 6)), (en P (Str.mk ⟨[95, 95, 98, 117, 105, 108, 116, 105, 110, 115, 95, 95]⟩) 171 (.ref 4)), (en P (Str.mk ⟨[95, 95, 102, 105, 108, 101, 95, 95]⟩) 173 (.str (Str.mk ⟨[47, 99, 108, 97, 105, 109, 47, 99, 117, 116, 46, 112, 121]⟩) 172)), (en P (Str.mk ⟨[95, 95, 99, 97, 99, 104, 101, 100, 95, 95]⟩) 174 .none), (en P (Str.mk ⟨[114, 103, 98, 95, 116, 111, 95, 104, 108, 115]⟩) 207 (.ref 21)), (en P (Str.mk ⟨[114, 103, 98, 95, 116, 111, 95, 104, 115, 118]⟩) 225 (.ref 28)), (en P (Str.mk ⟨[73, 110, 116, 50, 65, 80]⟩) 237 (.ref 35)), (en P (Str.mk ⟨[98, 49, 95, 115, 101, 116]⟩) 299 (.ref 43)), (en P (Str.mk ⟨[105, 110, 95, 116, 97, 98, 108, 101, 95, 98, 49]⟩) 306 (.ref 53))]⟩ 14), ⟨[]⟩⟩
noncomputable def o12s7 (P : Params) : Obj := ⟨.none, none, (.fields ⟨[(.int 2 0), (.int 0 0), (.ref 20), (.int 25 0), (.int 0 0), (.ref 27), (.int 45 0), (.int 0 0), (.ref 34), (.int 55 0), (.int 0 0), (.ref 52)]⟩), ⟨[]⟩⟩
noncomputable def o47s7 (P : Params) : Obj := ⟨(.type "tuple"), none, (.seq ⟨[]⟩ 0), ⟨[]⟩⟩
noncomputable def o48s7 (P : Params) : Obj := ⟨.none, none, (.fields ⟨[]⟩), ⟨[]⟩⟩
noncomputable def o49s7 (P : Params) : Obj := ⟨(.type "tuple"), none, (.seq ⟨[(.str (Str.mk ⟨[99, 111, 100, 101]⟩) 303)]⟩ 0), ⟨[]⟩⟩
noncomputable def o50s7 (P : Params) : Obj := ⟨(.type "tuple"), none, (.seq ⟨[]⟩ 0), ⟨[]⟩⟩
noncomputable def o51s7 (P : Params) : Obj := ⟨.none, none, (.func (fdA 7 .none .none 0 0)), ⟨[]⟩⟩
noncomputable def o52s7 (P : Params) : Obj := ⟨(.type "code"), none, (.fields ⟨[(.str (Str.mk ⟨[105, 110, 95, 116, 97, 98, 108, 101, 95, 98, 49]⟩) 300), (.str (Str.mk ⟨[105, 110, 95, 116, 97, 98, 108, 101, 95, 98, 49]⟩) 301), (.str (Str.mk ⟨[47, 99, 108, 97, 105, 109, 47, 99, 117, 116, 46, 112, 121]⟩) 302), (.int 55 0), (.int 1 0), (.int 0 0), (.int 0 0), (.int 3 0), (.ref 47), (.bool true), (.int 181 0), (.ref 48), .none, (.ref 49), (.ref 50), (.ref 51), (.int 304 0), (.int 55 0), (.str (Str.mk ⟨[47, 99, 108, 97, 105, 109, 47, 99, 117, 116, 46, 112, 121]⟩) 305)]⟩), ⟨[]⟩⟩
noncomputable def o53s7 (P : Params) : Obj := ⟨(.type "function"), none, (.func (fdA 7 (.str (Str.mk ⟨[99, 112, 121, 51, 49, 51, 46, 115, 116, 114, 105, 110, 103, 112, 114, 101, 112]⟩) 238) (.ref 52) 3 0)), ⟨[]⟩⟩
noncomputable def o3s8 (P : Params) : Obj := ⟨(.type "dict"), none, (.dict ⟨[(en P (Str.mk ⟨[95, 95, 110, 97, 109, 101, 95, 95]⟩) 165 (.str (Str.mk ⟨[99, 112, 121, 51, 49, 51, 46, 115, 116, 114, 105, 110, 103, 112, 114, 101, 112]⟩) 238)), (en P (Str.mk ⟨[95, 95, 100, 111, 99, 95, 95]⟩) 166 .none), (en P (Str.mk ⟨[95, 95, 112, 97, 99, 107, 97, 103, 101, 95, 95]⟩) 167 .none), (en P (Str.mk ⟨[95, 95, 108, 111, 97, 100, 101, 114, 95, 95]⟩) 168 (.builtin "__main__.__loader__#opaque")), (en P (Str.mk ⟨[95, 95, 115, 112, 101, 99, 95, 95]⟩) 169 .none), (en P (Str.mk ⟨[95, 95, 97, 110, 110, 111, 116, 97, 116, 105, 111, 110, 115, 95, 95]⟩) 170 (.ref 6)), (en P (Str.mk ⟨[95, 95, 98, 117, 105, 108, 116, 105, 110, 115, 95, 95]⟩) 171 (.ref 4)), (en P (Str.mk ⟨[95, 95, 102, 105, 108, 101, 95, 95]⟩) 173 (.str (Str.mk ⟨[47, 99, 108, 97, 105, 109, 47, 99, 117, 116, 46, 112, 121]⟩) 172)), (en P (Str.mk ⟨[95, 95, 99, 97, 99, 104, 101, 100, 95, 95]⟩) 174 .none), (en P (Str.mk ⟨[114, 103, 98, 95, 116, 111, 95, 104, 108, 115]⟩) 207 (.ref 21)), (en P (Str.mk ⟨[114, 103, 98, 95, 116, 111, 95, 104, 115, 118]⟩) 225 (.ref 28)), (en P (Str.mk ⟨[73, 110, 116, 50, 65, 80]⟩) 237 (.ref 35)), (en P (Str.mk ⟨[98, 49, 95, 115, 101, 116]⟩) 299 (.ref 43)), (en P (Str.mk ⟨[105, 110, 95, 116, 97, 98, 108, 101, 95, 98, 49]⟩) 306 (.ref 53)), (en P (Str.mk ⟨[98, 51, 95, 101, 120, 99, 101, 112, 116, 105, 111, 110, 115]⟩) 2257 (.ref 54))]⟩ 15), ⟨[]⟩⟩
noncomputable def o93s9 (P : Params) : Obj := ⟨(.type "tuple"), none, (.seq ⟨[]⟩ 0), ⟨[]⟩⟩
noncomputable def o94s9 (P : Params) : Obj := ⟨.none, none, (.fields ⟨[]⟩), ⟨[]⟩⟩
noncomputable def o95s9 (P : Params) : Obj := ⟨(.type "tuple"), none, (.seq ⟨[(.str (Str.mk ⟨[99, 111, 100, 101]⟩) 2261), (.str (Str.mk ⟨[114]⟩) 2262)]⟩ 0), ⟨[]⟩⟩
noncomputable def o96s9 (P : Params) : Obj := ⟨(.type "tuple"), none, (.seq ⟨[]⟩ 0), ⟨[]⟩⟩
noncomputable def o97s9 (P : Params) : Obj := ⟨.none, none, (.func (fdA 9 .none .none 0 0)), ⟨[]⟩⟩
noncomputable def o98s9 (P : Params) : Obj := ⟨(.type "code"), none, (.fields ⟨[(.str (Str.mk ⟨[109, 97, 112, 95, 116, 97, 98, 108, 101, 95, 98, 51]⟩) 2258), (.str (Str.mk ⟨[109, 97, 112, 95, 116, 97, 98, 108, 101, 95, 98, 51]⟩) 2259), (.str (Str.mk ⟨[47, 99, 108, 97, 105, 109, 47, 99, 117, 116, 46, 112, 121]⟩) 2260), (.int 58 0), (.int 1 0), (.int 0 0), (.int 0 0), (.int 3 0), (.ref 93), (.bool true), (.int 181 0), (.ref 94), .none, (.ref 95), (.ref 96), (.ref 97), (.int 2263 0), (.int 58 0), (.str (Str.mk ⟨[47, 99, 108, 97, 105, 109, 47, 99, 117, 116, 46, 112, 121]⟩) 2264)]⟩), ⟨[]⟩⟩
noncomputable def o99s9 (P : Params) : Obj := ⟨(.type "function"), none, (.func (fdA 9 (.str (Str.mk ⟨[99, 112, 121, 51, 49, 51, 46, 115, 116, 114, 105, 110, 103, 112, 114, 101, 112]⟩) 238) (.ref 98) 3 0)), ⟨[]⟩⟩
noncomputable def o100s11 (P : Params) : Obj := ⟨(.type "tuple"), none, (.seq ⟨[]⟩ 0), ⟨[]⟩⟩
noncomputable def o101s11 (P : Params) : Obj := ⟨.none, none, (.fields ⟨[]⟩), ⟨[]⟩⟩
noncomputable def o102s11 (P : Params) : Obj := ⟨(.type "tuple"), none, (.seq ⟨[(.str (Str.mk ⟨[108, 101, 116, 116, 101, 114]⟩) 2271), (.str (Str.mk ⟨[102, 111, 114, 109]⟩) 2272), (.str (Str.mk ⟨[107, 105, 110, 100]⟩) 2273)]⟩ 0), ⟨[]⟩⟩
noncomputable def o103s11 (P : Params) : Obj := ⟨(.type "tuple"), none, (.seq ⟨[]⟩ 0), ⟨[]⟩⟩
noncomputable def o104s11 (P : Params) : Obj := ⟨.none, none, (.func (fdA 11 .none .none 0 0)), ⟨[]⟩⟩
noncomputable def o105s11 (P : Params) : Obj := ⟨(.type "code"), none, (.fields ⟨[(.str (Str.mk ⟨[95, 108, 97, 119, 95, 115, 105, 103, 110]⟩) 2268), (.str (Str.mk ⟨[95, 108, 97, 119, 95, 115, 105, 103, 110]⟩) 2269), (.str (Str.mk ⟨[47, 99, 108, 97, 105, 109, 47, 99, 117, 116, 46, 112, 121]⟩) 2270), (.int 64 0), (.int 2 0), (.int 0 0), (.int 0 0), (.int 3 0), (.ref 100), (.bool true), (.int 181 0), (.ref 101), .none, (.ref 102), (.ref 103), (.ref 104), (.int 2274 0), (.int 64 0), (.str (Str.mk ⟨[47, 99, 108, 97, 105, 109, 47, 99, 117, 116, 46, 112, 121]⟩) 2275)]⟩), ⟨[]⟩⟩
noncomputable def o106s11 (P : Params) : Obj := ⟨(.type "function"), none, (.func (fdA 11 (.str (Str.mk ⟨[108, 97, 119, 95, 116, 112, 48, 48, 51, 49, 95, 48, 49]⟩) 2266) (.ref 105) 3 0)), ⟨[]⟩⟩
noncomputable def o107s12 (P : Params) : Obj := ⟨(.type "tuple"), none, (.seq ⟨[]⟩ 0), ⟨[]⟩⟩
noncomputable def o108s12 (P : Params) : Obj := ⟨.none, none, (.fields ⟨[]⟩), ⟨[]⟩⟩
noncomputable def o109s12 (P : Params) : Obj := ⟨.none, none, (.func (fdA 12 .none .none 0 0)), ⟨[]⟩⟩
noncomputable def o110s12 (P : Params) : Obj := ⟨(.type "code"), none, (.fields ⟨[(.str (Str.mk ⟨[95, 108, 97, 119, 95, 112, 97, 114, 116, 115]⟩) 2277), (.str (Str.mk ⟨[95, 108, 97, 119, 95, 112, 97, 114, 116, 115]⟩) 2278), (.str (Str.mk ⟨[47, 99, 108, 97, 105, 109, 47, 99, 117, 116, 46, 112, 121]⟩) 2279), (.int 71 0), (.int 1 0), (.int 0 0), (.int 0 0), (.int 3 0), (.ref 107), (.bool true), (.int 181 0), (.ref 108), .none, .none, .none, (.ref 109), (.int 2280 0), (.int 71 0), (.str (Str.mk ⟨[47, 99, 108, 97, 105, 109, 47, 99, 117, 116, 46, 112, 121]⟩) 2281)]⟩), ⟨[]⟩⟩
noncomputable def o111s12 (P : Params) : Obj := ⟨(.type "function"), none, (.func (fdA 12 (.str (Str.mk ⟨[108, 97, 119, 95, 116, 112, 48, 48, 51, 49, 95, 48, 49]⟩) 2266) (.ref 110) 3 0)), ⟨[]⟩⟩
noncomputable def o112s13 (P : Params) : Obj := ⟨(.type "tuple"), none, (.seq ⟨[]⟩ 0), ⟨[]⟩⟩
noncomputable def o113s13 (P : Params) : Obj := ⟨.none, none, (.fields ⟨[]⟩), ⟨[]⟩⟩
noncomputable def o114s13 (P : Params) : Obj := ⟨(.type "tuple"), none, (.seq ⟨[(.str (Str.mk ⟨[110, 117, 109, 98, 101, 114]⟩) 2286), (.str (Str.mk ⟨[115, 105, 122, 101]⟩) 2287), (.str (Str.mk ⟨[114, 101, 115, 116]⟩) 2288), (.str (Str.mk ⟨[111, 99, 116, 101, 116]⟩) 2289)]⟩ 0), ⟨[]⟩⟩
noncomputable def o115s13 (P : Params) : Obj := ⟨(.type "tuple"), none, (.seq ⟨[]⟩ 0), ⟨[]⟩⟩
noncomputable def o116s13 (P : Params) : Obj := ⟨.none, none, (.func (fdA 13 .none .none 0 0)), ⟨[]⟩⟩
noncomputable def o117s13 (P : Params) : Obj := ⟨(.type "code"), none, (.fields ⟨[(.str (Str.mk ⟨[95, 108, 97, 119, 95, 114, 101, 115, 116]⟩) 2283), (.str (Str.mk ⟨[95, 108, 97, 119, 95, 114, 101, 115, 116]⟩) 2284), (.str (Str.mk ⟨[47, 99, 108, 97, 105, 109, 47, 99, 117, 116, 46, 112, 121]⟩) 2285), (.int 74 0), (.int 2 0), (.int 0 0), (.int 0 0), (.int 3 0), (.ref 112), (.bool true), (.int 181 0), (.ref 113), .none, (.ref 114), (.ref 115), (.ref 116), (.int 2290 0), (.int 74 0), (.str (Str.mk ⟨[47, 99, 108, 97, 105, 109, 47, 99, 117, 116, 46, 112, 121]⟩) 2291)]⟩), ⟨[]⟩⟩
noncomputable def o118s13 (P : Params) : Obj := ⟨(.type "function"), none, (.func (fdA 13 (.str (Str.mk ⟨[108, 97, 119, 95, 116, 112, 48, 48, 51, 49, 95, 48, 49]⟩) 2266) (.ref 117) 3 0)), ⟨[]⟩⟩
noncomputable def o119s14 (P : Params) : Obj := ⟨(.type "tuple"), none, (.seq ⟨[]⟩ 0), ⟨[]⟩⟩
noncomputable def o120s14 (P : Params) : Obj := ⟨.none, none, (.fields ⟨[]⟩), ⟨[]⟩⟩
noncomputable def o121s14 (P : Params) : Obj := ⟨(.type "tuple"), none, (.seq ⟨[(.str (Str.mk ⟨[112, 97, 114, 116, 115]⟩) 2296), (.str (Str.mk ⟨[114, 101, 100]⟩) 2297), (.str (Str.mk ⟨[103, 114, 101, 101, 110]⟩) 2298), (.str (Str.mk ⟨[98, 108, 117, 101]⟩) 2299), (.str (Str.mk ⟨[104, 117, 101]⟩) 2300), (.str (Str.mk ⟨[115, 104, 97, 114, 101]⟩) 2301), (.str (Str.mk ⟨[118, 97, 108, 117, 101]⟩) 2302), (.str (Str.mk ⟨[111, 116, 104, 101, 114]⟩) 2303), (.str (Str.mk ⟨[108, 105, 103, 104, 116]⟩) 2304), (.str (Str.mk ⟨[102, 117, 108, 108]⟩) 2305)]⟩ 0), ⟨[]⟩⟩
noncomputable def o122s14 (P : Params) : Obj := ⟨(.type "tuple"), none, (.seq ⟨[]⟩ 0), ⟨[]⟩⟩
noncomputable def o123s14 (P : Params) : Obj := ⟨.none, none, (.func (fdA 14 .none .none 0 0)), ⟨[]⟩⟩
noncomputable def o124s14 (P : Params) : Obj := ⟨(.type "code"), none, (.fields ⟨[(.str (Str.mk ⟨[95, 108, 97, 119, 95, 116, 105, 110, 116]⟩) 2293), (.str (Str.mk ⟨[95, 108, 97, 119, 95, 116, 105, 110, 116]⟩) 2294), (.str (Str.mk ⟨[47, 99, 108, 97, 105, 109, 47, 99, 117, 116, 46, 112, 121]⟩) 2295), (.int 79 0), (.int 1 0), (.int 0 0), (.int 0 0), (.int 3 0), (.ref 119), (.bool true), (.int 181 0), (.ref 120), .none, (.ref 121), (.ref 122), (.ref 123), (.int 2306 0), (.int 79 0), (.str (Str.mk ⟨[47, 99, 108, 97, 105, 109, 47, 99, 117, 116, 46, 112, 121]⟩) 2307)]⟩), ⟨[]⟩⟩
noncomputable def o125s14 (P : Params) : Obj := ⟨(.type "function"), none, (.func (fdA 14 (.str (Str.mk ⟨[108, 97, 119, 95, 116, 112, 48, 48, 51, 49, 95, 48, 49]⟩) 2266) (.ref 124) 3 0)), ⟨[]⟩⟩
noncomputable def o3s15 (P : Params) : Obj := ⟨(.type "dict"), none, (.dict ⟨[(en P (Str.mk ⟨[95, 95, 110, 97, 109, 101, 95, 95]⟩) 165 (.str (Str.mk ⟨[108, 97, 119, 95, 116, 112, 48, 48, 51, 49, 95, 48, 49]⟩) 2266)), (en P (Str.mk ⟨[95, 95, 100, 111, 99, 95, 95]⟩) 166 .none), (en P (Str.mk ⟨[95, 95, 112, 97, 99, 107, 97, 103, 101, 95, 95]⟩) 167 .none), (en P (Str.mk ⟨[95, 95, 108, 111, 97, 100, 101, 114, 95, 95]⟩) 168 (.builtin "__main__.__loader__#opaque")), (en P (Str.mk ⟨[95, 95, 115, 112, 101, 99, 95, 95]⟩) 169 .none), (en P (Str.mk ⟨[95, 95, 97, 110, 110, 111, 116, 97, 116, 105, 111, 110, 115, 95, 95]⟩) 170 (.ref 6)), (en P (Str.mk ⟨[95, 95, 98, 117, 105, 108, 116, 105, 110, 115, 95, 95]⟩) 171 (.ref 4)), (en P (Str.mk ⟨[95, 95, 102, 105, 108, 101, 95, 95]⟩) 173 (.str (Str.mk ⟨[47, 99, 108, 97, 105, 109, 47, 99, 117, 116, 46, 112, 121]⟩) 172)), (en P (Str.mk ⟨[95, 95, 99, 97, 99, 104, 101, 100, 95, 95]⟩) 174 .none), (en P (Str.mk ⟨[114, 103, 98, 95, 116, 111, 95, 104, 108, 115]⟩) 207 (.ref 21)), (en P (Str.mk ⟨[114, 103, 98, 95, 116, 111, 95, 104, 115, 118]⟩) 225 (.ref 28)), (en P (Str.mk ⟨[73, 110, 116, 50, 65, 80]⟩) 237 (.ref 35)), (en P (Str.mk ⟨[98, 49, 95, 115, 101, 116]⟩) 299 (.ref 43)), (en P (Str.mk ⟨[105, 110, 95, 116, 97, 98, 108, 101, 95, 98, 49]⟩) 306 (.ref 53)), (en P (Str.mk ⟨[98, 51, 95, 101, 120, 99, 101, 112, 116, 105, 111, 110, 115]⟩) 2257 (.ref 54)), (en P (Str.mk ⟨[109, 97, 112, 95, 116, 97, 98, 108, 101, 95, 98, 51]⟩) 2265 (.ref 99)), (en P (Str.mk ⟨[95, 108, 97, 119, 95, 115, 105, 103, 110]⟩) 2276 (.ref 106)), (en P (Str.mk ⟨[95, 108, 97, 119, 95, 112, 97, 114, 116, 115]⟩) 2282 (.ref 111)), (en P (Str.mk ⟨[95, 108, 97, 119, 95, 114, 101, 115, 116]⟩) 2292 (.ref 118)), (en P (Str.mk ⟨[95, 108, 97, 119, 95, 116, 105, 110, 116]⟩) 2308 (.ref 125)), (en P (Str.mk ⟨[108, 97, 119]⟩) 2314 (.ref 130))]⟩ 21), ⟨[]⟩⟩
noncomputable def o12s15 (P : Params) : Obj := ⟨.none, none, (.fields ⟨[(.int 2 0), (.int 0 0), (.ref 20), (.int 25 0), (.int 0 0), (.ref 27), (.int 45 0), (.int 0 0), (.ref 34), (.int 55 0), (.int 0 0), (.ref 52), (.int 58 0), (.int 0 0), (.ref 98), (.int 64 0), (.int 0 0), (.ref 105), (.int 71 0), (.int 0 0), (.ref 110), (.int 74 0), (.int 0 0), (.ref 117), (.int 79 0), (.int 0 0), (.ref 124), (.int 86 0), (.int 0 0), (.ref 129)]⟩), ⟨[]⟩⟩
noncomputable def o126s15 (P : Params) : Obj := ⟨(.type "tuple"), none, (.seq ⟨[]⟩ 0), ⟨[]⟩⟩
noncomputable def o127s15 (P : Params) : Obj := ⟨.none, none, (.fields ⟨[]⟩), ⟨[]⟩⟩
noncomputable def o128s15 (P : Params) : Obj := ⟨.none, none, (.func (fdA 15 .none .none 0 0)), ⟨[]⟩⟩
noncomputable def o129s15 (P : Params) : Obj := ⟨(.type "code"), none, (.fields ⟨[(.str (Str.mk ⟨[108, 97, 119]⟩) 2309), (.str (Str.mk ⟨[108, 97, 119]⟩) 2310), (.str (Str.mk ⟨[47, 99, 108, 97, 105, 109, 47, 99, 117, 116, 46, 112, 121]⟩) 2311), (.int 86 0), (.int 1 0), (.int 0 0), (.int 0 0), (.int 3 0), (.ref 126), (.bool true), (.int 181 0), (.ref 127), .none, .none, .none, (.ref 128), (.int 2312 0), (.int 86 0), (.str (Str.mk ⟨[47, 99, 108, 97, 105, 109, 47, 99, 117, 116, 46, 112, 121]⟩) 2313)]⟩), ⟨[]⟩⟩
noncomputable def o130s15 (P : Params) : Obj := ⟨(.type "function"), none, (.func (fdA 15 (.str (Str.mk ⟨[108, 97, 119, 95, 116, 112, 48, 48, 51, 49, 95, 48, 49]⟩) 2266) (.ref 129) 3 0)), ⟨[]⟩⟩
noncomputable def l_pre (P : Params) : List Obj := [(boot_o_0 P), (boot_o_1 P), (boot_o_2 P), (boot_o_3 P), (boot_o_4 P), (boot_o_5 P), (boot_o_6 P), (boot_o_7 P), (boot_o_8 P), (boot_o_9 P), (boot_o_10 P), (o11pre P), (o12pre P), (o13pre P), (o14pre P)]
noncomputable def h_pre (P : Params) : Heap := ⟨⟨l_pre P⟩, (boot_heap P).life⟩
noncomputable def l_s5 (P : Params) : List Obj := [(boot_o_0 P), (boot_o_1 P), (boot_o_2 P), (o3s5 P), (boot_o_4 P), (boot_o_5 P), (boot_o_6 P), (boot_o_7 P), (boot_o_8 P), (boot_o_9 P), (boot_o_10 P), (o11pre P), (o12s4 P), (o13pre P), (o14pre P), (o15s1 P), (o16s1 P), (o17s1 P), (o18s1 P), (o19s1 P), (o20s1 P), (o21s1 P), (o22s2 P), (o23s2 P), (o24s2 P), (o25s2 P), (o26s2 P), (o27s2 P), (o28s2 P), (o29s4 P), (o30s4 P), (o31s4 P), (o32s4 P), (o33s4 P), (o34s4 P), (o35s4 P)]
noncomputable def h_s5 (P : Params) : Heap := ⟨⟨l_s5 P⟩, (boot_heap P).life⟩
noncomputable def l_s6 (P : Params) : List Obj := [(boot_o_0 P), (boot_o_1 P), (boot_o_2 P), (o3s6 P), (boot_o_4 P), (boot_o_5 P), (boot_o_6 P), (boot_o_7 P), (boot_o_8 P), (boot_o_9 P), (boot_o_10 P), (o11pre P), (o12s4 P), (o13pre P), (o14pre P), (o15s1 P), (o16s1 P), (o17s1 P), (o18s1 P), (o19s1 P), (o20s1 P), (o21s1 P), (o22s2 P), (o23s2 P), (o24s2 P), (o25s2 P), (o26s2 P), (o27s2 P), (o28s2 P), (o29s4 P), (o30s4 P), (o31s4 P), (o32s4 P), (o33s4 P), (o34s4 P), (o35s4 P), (o36s6 P), (o37s6 P), (o38s6 P), (o39s6 P), (o40s6 P), (o41s6 P), (o42s6 P), (o43s6 P), (o44s6 P), (o45s6 P), (o46s6 P)]
noncomputable def h_s6 (P : Params) : Heap := ⟨⟨l_s6 P⟩, (boot_heap P).life⟩
noncomputable def l_s7 (P : Params) : List Obj := [(boot_o_0 P), (boot_o_1 P), (boot_o_2 P), (o3s7 P), (boot_o_4 P), (boot_o_5 P), (boot_o_6 P), (boot_o_7 P), (boot_o_8 P), (boot_o_9 P), (boot_o_10 P), (o11pre P), (o12s7 P), (o13pre P), (o14pre P), (o15s1 P), (o16s1 P), (o17s1 P), (o18s1 P), (o19s1 P), (o20s1 P), (o21s1 P), (o22s2 P), (o23s2 P), (o24s2 P), (o25s2 P), (o26s2 P), (o27s2 P), (o28s2 P), (o29s4 P), (o30s4 P), (o31s4 P), (o32s4 P), (o33s4 P), (o34s4 P), (o35s4 P), (o36s6 P), (o37s6 P), (o38s6 P), (o39s6 P), (o40s6 P), (o41s6 P), (o42s6 P), (o43s6 P), (o44s6 P), (o45s6 P), (o46s6 P), (o47s7 P), (o48s7 P), (o49s7 P), (o50s7 P), (o51s7 P), (o52s7 P), (o53s7 P)]
noncomputable def h_s7 (P : Params) : Heap := ⟨⟨l_s7 P⟩, (boot_heap P).life⟩
noncomputable def l_s8 (P : Params) : List Obj := [(boot_o_0 P), (boot_o_1 P), (boot_o_2 P), (o3s8 P), (boot_o_4 P), (boot_o_5 P), (boot_o_6 P), (boot_o_7 P), (boot_o_8 P), (boot_o_9 P), (boot_o_10 P), (o11pre P), (o12s7 P), (o13pre P), (o14pre P), (o15s1 P), (o16s1 P), (o17s1 P), (o18s1 P), (o19s1 P), (o20s1 P), (o21s1 P), (o22s2 P), (o23s2 P), (o24s2 P), (o25s2 P), (o26s2 P), (o27s2 P), (o28s2 P), (o29s4 P), (o30s4 P), (o31s4 P), (o32s4 P), (o33s4 P), (o34s4 P), (o35s4 P), (o36s6 P), (o37s6 P), (o38s6 P), (o39s6 P), (o40s6 P), (o41s6 P), (o42s6 P), (o43s6 P), (o44s6 P), (o45s6 P), (o46s6 P), (o47s7 P), (o48s7 P), (o49s7 P), (o50s7 P), (o51s7 P), (o52s7 P), (o53s7 P)] ++ dictObjs
noncomputable def h_s8 (P : Params) : Heap := ⟨⟨l_s8 P⟩, (boot_heap P).life⟩
noncomputable def l_s15 (P : Params) : List Obj := [(boot_o_0 P), (boot_o_1 P), (boot_o_2 P), (o3s15 P), (boot_o_4 P), (boot_o_5 P), (boot_o_6 P), (boot_o_7 P), (boot_o_8 P), (boot_o_9 P), (boot_o_10 P), (o11pre P), (o12s15 P), (o13pre P), (o14pre P), (o15s1 P), (o16s1 P), (o17s1 P), (o18s1 P), (o19s1 P), (o20s1 P), (o21s1 P), (o22s2 P), (o23s2 P), (o24s2 P), (o25s2 P), (o26s2 P), (o27s2 P), (o28s2 P), (o29s4 P), (o30s4 P), (o31s4 P), (o32s4 P), (o33s4 P), (o34s4 P), (o35s4 P), (o36s6 P), (o37s6 P), (o38s6 P), (o39s6 P), (o40s6 P), (o41s6 P), (o42s6 P), (o43s6 P), (o44s6 P), (o45s6 P), (o46s6 P), (o47s7 P), (o48s7 P), (o49s7 P), (o50s7 P), (o51s7 P), (o52s7 P), (o53s7 P)] ++ dictObjs ++ [(o93s9 P), (o94s9 P), (o95s9 P), (o96s9 P), (o97s9 P), (o98s9 P), (o99s9 P), (o100s11 P), (o101s11 P), (o102s11 P), (o103s11 P), (o104s11 P), (o105s11 P), (o106s11 P), (o107s12 P), (o108s12 P), (o109s12 P), (o110s12 P), (o111s12 P), (o112s13 P), (o113s13 P), (o114s13 P), (o115s13 P), (o116s13 P), (o117s13 P), (o118s13 P), (o119s14 P), (o120s14 P), (o121s14 P), (o122s14 P), (o123s14 P), (o124s14 P), (o125s14 P), (o126s15 P), (o127s15 P), (o128s15 P), (o129s15 P), (o130s15 P)]
noncomputable def h_s15 (P : Params) : Heap := ⟨⟨l_s15 P⟩, (boot_heap P).life⟩
noncomputable def bd : List Stmt := behindTheImports pw
noncomputable def env0 : Env := { scope := pw.main.scope, locals := mainNs, globals := mainNs, cells := [], code := .ref 13, frame := some 14 }
noncomputable def cd0 : Code := .body bd env0
noncomputable def fp0 : Pos := ⟨0, 0, 0, 0⟩
noncomputable def B0 : List Frame := [topFrame fp0]
end Mine
end
-- text Rn
section
open PySem PySem.W PySem.Calls PyProof.Rows
set_option maxRecDepth 100000
set_option maxHeartbeats 4000000
namespace Mine
noncomputable abbrev Gd (w : World) (n : Nat) (s : Shared) (t : Thread) (s' : Shared) (t' : Thread) : Prop := segGo treeTable pw w 11 (some (.ref 6)) 1 n s t = some (s', t')
theorem gd_trans {w : World} {m : Nat} {s' : Shared} {t' : Thread} : ∀ {n : Nat} {s s1 : Shared} {t t1 : Thread}, Gd w n s t s1 t1 → Gd w m s1 t1 s' t' → Gd w (n + m) s t s' t'
  | 0, s, s1, t, t1, h, k => by
    obtain ⟨rfl, rfl⟩ : s = s1 ∧ t = t1 := by simpa [Gd, segGo] using h
    rw [Nat.zero_add]; exact k
  | n + 1, s, s1, t, t1, h, k => by
    rw [show n + 1 + m = n + m + 1 by omega]
    unfold Gd segGo at h ⊢
    cases he : endAt 1 t with
    | some f => rw [he] at h; cases h
    | none =>
      rw [he] at h
      cases hk : stepOk 11 (some (.ref 6)) t with
      | false => rw [hk] at h; cases h
      | true =>
        rw [hk] at h
        cases hs : step (denote treeTable) pw w s t with
        | halt o s₂ => rw [hs] at h; cases h
        | go s₂ t₂ => rw [hs] at h; exact gd_trans h k
theorem gd_step {w : World} {s s1 : Shared} {t t1 : Thread} (he : endAt 1 t = none) (hk : stepOk 11 (some (.ref 6)) t = true) (hs : step (denote treeTable) pw w s t = .go s1 t1) : Gd w 1 s t s1 t1 := by
  show segGo _ _ _ _ _ _ (0 + 1) s t = _
  unfold segGo
  rw [he, hk, hs]
  rfl
theorem end_open {t : Thread} (h : ∀ f, t.cur ≠ .pure (.done f)) : endAt 1 t = none := by
  unfold endAt
  split
  · rename_i e; exact absurd e (h _)
  · rfl

noncomputable def Rn {α : Type} (w : World) (n : Nat) (m : Sem α) (s : Shared) (p : Pos) (a : α) (s' : Shared) (p' : Pos) : Prop :=
  ∀ (K : α → Sem Fin) (H : Value → Sem Fin) (gd : Bool → Bool) (lv : List Value → List Value) (c : Code) (f0 : Frame) (st : List Frame),
    Gd w n s ⟨m.wrap K H gd lv, c, p, f0 :: st⟩ s' ⟨K a, c, p', f0 :: st⟩
section
variable {α β : Type} {w : World} {s s' s1 : Shared} {p p' p1 : Pos} {n k : Nat}
theorem rn_pure {a : α} : Rn w 0 (pure a) s p a s p := fun _ _ _ _ _ _ _ => rfl
theorem rn_bind {m : Sem α} {f : α → Sem β} {a : α} {b : β} (h : Rn w n m s p a s1 p1) (h' : Rn w k (f a) s1 p1 b s' p') : Rn w (n + k) (m >>= f) s p b s' p' := fun K H gd lv c f0 st => by
  rw [Sem.bind_eq_wrap', Sem.wrap_wrap]
  exact gd_trans (h _ _ _ _ c f0 st) (h' K H gd lv c f0 st)
theorem rn_keep {m : Sem α} {vs : List Value} {a : α} (h : Rn w n m s p a s' p') : Rn w n (m.keep vs) s p a s' p' := fun K H gd lv c f0 st => by
  rw [Sem.keep_eq_wrap, Sem.wrap_wrap]
  exact h _ _ _ _ c f0 st
theorem rn_holding {m : Sem α} {vs : List Value} {a : α} (h : Rn w n m s p a s' p') : Rn w n (holding vs m) s p a s' p' := by
  unfold holding
  split
  · exact h
  · exact rn_keep h
theorem rn_onRaise {m : Sem α} {g : Value → Sem Unit} {a : α} (h : Rn w n m s p a s' p') : Rn w n (m.onRaise g) s p a s' p' := fun K H gd lv c f0 st => by
  rw [Sem.onRaise_eq_wrap, Sem.wrap_wrap]
  exact h _ _ _ _ c f0 st
theorem rn_tryCatch {m : Sem α} {g : Value → Sem α} {a : α} (h : Rn w n m s p a s' p') : Rn w n (tryCatch m g) s p a s' p' := fun K H gd lv c f0 st => by
  show Gd w n s ⟨(Sem.tryCatch m g).wrap K H gd lv, c, p, f0 :: st⟩ _ _
  rw [Sem.tryCatch_eq_wrap, Sem.wrap_wrap]
  exact h _ _ _ _ c f0 st
theorem rn_rule {t : String} : Rn w 1 (rule t) s p () s p := fun _ _ _ _ _ _ _ => gd_step (end_open (fun _ e => by cases e)) rfl rfl
theorem rn_standAt {q : Pos} : Rn w 1 (standAt q) s p () s q := fun _ _ _ _ _ _ _ => gd_step (end_open (fun _ e => by cases e)) rfl rfl
theorem rn_ask : Rn w 1 ask s p ⟨pw, w.params⟩ s p := fun _ _ _ _ _ _ _ => gd_step (end_open (fun _ e => by cases e)) rfl rfl
theorem rn_fresh : Rn w 1 fresh s p s.toks { s with toks := s.toks + 1 } p := fun _ _ _ _ _ _ _ => gd_step (end_open (fun _ e => by cases e)) rfl rfl
theorem rn_alloc {o : Obj} : Rn w 1 (alloc o) s p s.heap.objs.size { s with heap := s.heap.push o } p := fun _ _ _ _ _ _ _ => gd_step (end_open (fun _ e => by cases e)) rfl rfl
theorem rn_loadPart {a : Addr} {part : Option Value} {o : Obj} (h : s.heap.get? a = some o) : Rn w 1 (loadPart a part) s p o s p := fun K H gd lv c f0 st => gd_step (end_open (fun _ e => by cases e)) rfl (by
  show step _ _ _ s ⟨.load a part _, _, _, _⟩ = _
  simp only [step, h]
  rfl)
theorem rn_updatePart {a : Addr} {part : Option Value} {f : Obj → Obj} (h : (s.heap.get? a).isSome = true) (ha : 11 ≤ a) : Rn w 1 (updatePart a part f) s p () { s with heap := s.heap.update a f } p := fun K H gd lv c f0 st => gd_step (end_open (fun _ e => by cases e))
  (by
    show (Thread.calm ⟨.update a part f _, c, p, f0 :: st⟩ && (Nat.ble 11 a || a == mainNs || a == cStatics || (some (Value.ref 6)) == some (.ref a))) = true
    rw [Nat.ble_eq_true_of_le ha]
    rfl) (by
  show step _ _ _ s ⟨.update a part f _, _, _, _⟩ = _
  simp only [step, h, if_true]
  rfl)
theorem rn_mkInt {i : Int} : Rn w 1 (mkInt i) s p (.int i s.toks) { s with toks := s.toks + 1 } p := rn_bind (k := 0) rn_fresh rn_pure
theorem rn_mkText {x : Str} : Rn w 1 (mkText x) s p (.str x s.toks) { s with toks := s.toks + 1 } p := rn_bind (k := 0) rn_fresh rn_pure
end
end Mine
end
-- text Rd
section
open PySem PySem.W PySem.Calls PyProof.Rows
set_option maxRecDepth 100000
set_option maxHeartbeats 4000000
namespace Mine
theorem den_call {k : Int} {t : Tok} : denote treeTable (.call (.builtin "int.__hash__") ⟨[.int k t], []⟩) = .pure (.again (.builtin "int.__hash__" ⟨[.int k t], []⟩)) := by kernel_rfl
theorem den_hash {k : Int} {t : Tok} : denote treeTable (.builtin "int.__hash__" ⟨[.int k t], []⟩) = .fresh fun tk => .pure (.done (.ret (.int (rawHash k) tk))) := by kernel_rfl
section
variable {w : World} {s : Shared} {p : Pos}
theorem frames_hash {k : Int} {t : Tok} {kk : Result → Sem PySem.Fin} {h : Option Value} {g : Bool} {l kept : List Value} {c : Code} {p0 : Pos} {f0 : Frame} {st : List Frame} :
    Gd w 3 s ⟨denote treeTable (.call (.builtin "int.__hash__") ⟨[.int k t], []⟩), .call (.builtin "int.__hash__") ⟨[.int k t], []⟩, p, .ret kk h g l c p0 kept :: f0 :: st⟩
      { s with toks := s.toks + 1 } ⟨kk (.ok (.ret (.int (rawHash k) s.toks))), c, p0, f0 :: st⟩ := by
  rw [den_call]
  refine gd_trans (n := 1) (m := 2) (gd_step (end_open (fun _ e => by cases e)) (by kernel_rfl) PySem.W.step_again) ?_
  rw [den_hash]
  refine gd_trans (n := 1) (m := 1) (gd_step (end_open (fun _ e => by cases e)) rfl rfl) ?_
  exact gd_step rfl rfl rfl
theorem call_hash {k : Int} {t : Tok} : Rn w 4 (call (.builtin "int.__hash__") [.int k t]) s p (.int (rawHash k) s.toks) { s with toks := s.toks + 1 } p := fun K H gd lv c f0 st =>
  gd_trans (n := 1) (m := 3) (gd_step (end_open (fun _ e => by cases e)) rfl rfl) frames_hash
theorem rn_hash {k : Int} {t : Tok} : Rn w 5 (pyHash (.int k t)) s p (hashInt k) { s with toks := s.toks + 1 } p := by
  have hr := rawHash_range k
  unfold pyHash
  show Rn w 5 (pyHashByItsType (.int k t)) s p _ _ p
  unfold pyHashByItsType
  refine rn_bind (n := 0) (k := 5) (a := ()) rn_pure ?_
  have hsp : specialOf (.int k t) "__hash__" = pure (some (.builtin "int.__hash__")) := slot_int_hash.lookup
  refine rn_bind (n := 0) (k := 5) (a := some (.builtin "int.__hash__")) (by rw [hsp]; exact rn_pure) ?_
  show Rn w 5 (if (some (Value.builtin "int.__hash__") == some Value.none) = true then _ else _) _ _ _ _ _
  rw [if_neg (by decide)]
  refine rn_bind (n := 0) (k := 5) (a := some (.builtin "int.__hash__")) (by rw [hsp]; exact rn_pure) ?_
  show Rn w 5 (callSpecialIfBoundUnlessNone? (.int k t) "__hash__" _ >>= _) _ _ _ _ _
  refine rn_bind (n := 5) (k := 0) (a := some (.int (rawHash k) s.toks)) (s1 := { s with toks := s.toks + 1 }) (p1 := p) ?_ ?_
  · unfold callSpecialIfBoundUnlessNone?
    refine rn_holding ?_
    refine rn_bind (n := 1) (k := 4) (a := some (.builtin "int.__hash__", [.int k t])) (s1 := s) (p1 := p) ?_ ?_
    · unfold bindSpecialIfBound?
      refine rn_bind (n := 0) (k := 1) (a := some (.builtin "int.__hash__")) (by rw [hsp]; exact rn_pure) ?_
      refine rn_bind (n := 1) (k := 0) rn_ask ?_
      have hb : Rn w 0 (do return some (← bindSpecial (.builtin "int.__hash__") (.int k t))) s p (some (.builtin "int.__hash__", [.int k t])) s p := by
        rw [slot_int_hash.bind]; exact rn_pure
      dsimp only
      split
      · exact hb
      · exact rn_tryCatch hb
    · show Rn w 4 (if (Value.builtin "int.__hash__" == Value.none) = true then _ else _) _ _ _ _ _
      rw [if_neg (by decide)]
      exact rn_bind (n := 4) (k := 0) call_hash rn_pure
  · show Rn w 0 (if (decide (-(2 : Int) ^ 63 ≤ rawHash k) && decide (rawHash k < 2 ^ 63)) = true then _ else _) _ _ _ _ _
    rw [if_pos (by rw [decide_eq_true hr.1, decide_eq_true hr.2]; rfl)]
    exact rn_pure
end
end Mine
end
-- text Rdict
section
open PySem PySem.W PySem.Calls PyProof.Rows
set_option maxRecDepth 100000
set_option maxHeartbeats 4000000
namespace Mine
noncomputable def stt (lf : Life) (os : OsState) (L : List Obj) (t : Nat) : Shared := ⟨⟨⟨L⟩, lf⟩, #[], boot_drawn, t, os⟩
theorem get_at {A B : List Obj} {es : List DictEntry} {n : Nat} {lf : Life} : (⟨⟨A ++ dob es n :: B⟩, lf⟩ : Heap).get? A.length = some (dob es n) := by
  have e : (⟨A ++ dob es n :: B⟩ : Array Obj)[A.length]? = some (dob es n) := by simp
  unfold Heap.get?
  show (match (⟨A ++ dob es n :: B⟩ : Array Obj)[A.length]? with | some ⟨_, _, .freed, _⟩ => none | o => o) = _
  rw [e]
  rfl
theorem upd_at {A B : List Obj} {o : Obj} {f : Obj → Obj} {lf : Life} : (⟨⟨A ++ o :: B⟩, lf⟩ : Heap).update A.length f = ⟨⟨A ++ f o :: B⟩, lf⟩ := by
  show (⟨Array.modify ⟨A ++ o :: B⟩ A.length f, lf⟩ : Heap) = _
  congr 1
  apply Array.toList_inj.mp
  rw [Array.toList_modify]
  induction A with
  | nil => rfl
  | cons a A ih => simpa using ih
section
variable {w : World} {p : Pos} {lf : Life} {os : OsState} {A B : List Obj} {es : List DictEntry} {n t : Nat}
theorem rn_entries {part : Option Value} : Rn w 1 (dictEntries A.length part) (stt lf os (A ++ dob es n :: B) t) p ⟨es⟩ (stt lf os (A ++ dob es n :: B) t) p :=
  rn_bind (n := 1) (k := 0) (rn_loadPart get_at) rn_pure
theorem rn_epoch {part : Option Value} : Rn w 1 (dictEpoch A.length part) (stt lf os (A ++ dob es n :: B) t) p n (stt lf os (A ++ dob es n :: B) t) p :=
  rn_bind (n := 1) (k := 0) (rn_loadPart get_at) rn_pure
theorem places_none {h : Int} (hn : ∀ e ∈ es, e.hash ≠ h) : placesWithHash (⟨es⟩ : Array DictEntry).size (fun i => (⟨es⟩ : Array DictEntry)[i]?.map (·.hash)) h = [] := by
  unfold placesWithHash
  rw [List.filter_eq_nil_iff]
  intro i hi
  have hi' : i < es.length := by simpa using hi
  simp only [List.getElem?_toArray, List.getElem?_eq_getElem hi', Option.map_some, beq_iff_eq, Option.some.injEq]
  exact hn _ (List.getElem_mem hi')
theorem rn_find {k : Int} {u : Tok} {h : Int} (hn : ∀ e ∈ es, e.hash ≠ h) : Rn w 1 (dictFind A.length (.int k u) h) (stt lf os (A ++ dob es n :: B) t) p none (stt lf os (A ++ dob es n :: B) t) p := by
  have hp := places_none hn
  unfold dictFind
  refine rn_holding ?_
  refine rn_bind (n := 1) (k := 0) rn_entries ?_
  dsimp only
  rw [hp]
  have hc : ([Value.int k u].all carriedByValue) = true := rfl
  simp only [List.filterMap_nil, hc, if_true]
  exact rn_bind (n := 0) (k := 0) rn_pure rn_pure
theorem past_none (hl : es.length ≤ 1000) : (Data.dict ⟨es⟩ n).pastItsLine = none := pastItsLine_dict (by rw [List.size_toArray, sizeLine_eq]; omega)
theorem rn_keys {part : Option Value} {e : DictEntry} (hA : 11 ≤ A.length) (hl : es.length < 1000) :
    Rn w 3 (updateDictKeys A.length (·.push e) part) (stt lf os (A ++ dob es n :: B) t) p () (stt lf os (A ++ dob (es ++ [e]) (n + 1) :: B) t) p := by
  unfold updateDictKeys
  refine rn_bind (n := 1) (k := 2) (rn_loadPart get_at) ?_
  show Rn w 2 (updatePart A.length part (Obj.mapDictKeys (·.push e)) >>= fun _ => lookBehind A.length part) _ _ _ _ _
  refine rn_bind (n := 1) (k := 1) (a := ()) (p1 := p) (s1 := stt lf os (A ++ dob (es ++ [e]) (n + 1) :: B) t) ?_ ?_
  · have := rn_updatePart (w := w) (p := p) (s := stt lf os (A ++ dob es n :: B) t) (a := A.length) (part := part) (f := Obj.mapDictKeys (·.push e)) (by show (Heap.get? _ _).isSome = true; rw [show (stt lf os (A ++ dob es n :: B) t).heap = ⟨⟨A ++ dob es n :: B⟩, lf⟩ from rfl, get_at]; rfl) hA
    rw [show (stt lf os (A ++ dob es n :: B) t).heap = ⟨⟨A ++ dob es n :: B⟩, lf⟩ from rfl, upd_at] at this
    rw [show Obj.mapDictKeys (·.push e) (dob es n) = dob (es ++ [e]) (n + 1) from by simp [dob, Obj.mapDictKeys]] at this
    exact this
  · unfold lookBehind
    refine rn_bind (n := 1) (k := 0) (rn_loadPart get_at) ?_
    rw [show (dob (es ++ [e]) (n + 1)).data.pastItsLine = none from past_none (by simp; omega)]
    exact rn_pure
theorem rn_set {k : Int} {u : Tok} {v : Value} (hn : ∀ e ∈ es, e.hash ≠ hashInt k) (hA : 11 ≤ A.length) (hl : es.length < 1000) :
    Rn w 10 (dictSet A.length (.int k u) v) (stt lf os (A ++ dob es n :: B) t) p () (stt lf os (A ++ dob (es ++ [⟨hashInt k, .int k u, v⟩]) (n + 1) :: B) (t + 1)) p := by
  unfold dictSet
  refine rn_holding ?_
  refine rn_bind (n := 5) (k := 5) rn_hash ?_
  unfold dictSetHashed
  refine rn_holding ?_
  refine rn_bind (n := 1) (k := 4) (s1 := stt lf os (A ++ dob es n :: B) (t + 1)) (p1 := p) (rn_find hn) ?_
  exact rn_bind (n := 1) (k := 3) rn_rule (rn_keys hA hl)
theorem rn_put {k : Int} {u : Tok} {v : Value} {h : Int} (hn : ∀ e ∈ es, e.hash ≠ h) (hA : 11 ≤ A.length) (hl : es.length < 1000) :
    Rn w 4 (dictPut A.length h (.int k u) v) (stt lf os (A ++ dob es n :: B) t) p () (stt lf os (A ++ dob (es ++ [⟨h, .int k u, v⟩]) (n + 1) :: B) t) p := by
  unfold dictPut
  exact rn_bind (n := 1) (k := 3) (rn_find hn) (rn_keys hA hl)
theorem hp_push {L : List Obj} {o : Obj} : (⟨⟨L⟩, lf⟩ : Heap).push o = ⟨⟨L ++ [o]⟩, lf⟩ := by
  show (⟨Array.push ⟨L⟩ o, lf⟩ : Heap) = _
  rw [List.push_toArray]
noncomputable def keyM (x : Row) : Sem Value := mkInt (x.1 : Int)
noncomputable def valM (q : Pos) (x : Row) : Sem Value := do let v ← mkText x.2; standAt q; pure v
theorem ents_length : ∀ (l : List Row) (t : Nat), (ents t l).length = l.length
  | [], _ => rfl
  | _ :: r, t => by simp [ents, ents_length r]
theorem ents_hash : ∀ (l : List Row) (t : Nat), (ents t l).map (·.hash) = l.map fun x => hashInt (x.1 : Int)
  | [], _ => rfl
  | _ :: r, t => by simp [ents, ents_hash r]
theorem ents_app : ∀ (l r : List Row) (t : Nat), ents t (l ++ r) = ents t l ++ ents (t + 3 * l.length) r
  | [], _, _ => by simp [ents]
  | _ :: l, r, t => by simp only [List.cons_append, ents, ents_app l r, List.length_cons, List.cons_append]; rw [show t + 3 + 3 * l.length = t + 3 * (l.length + 1) by omega]
theorem ents2_hash : ∀ (l : List Row) (t : Nat), (ents2 t l).map (·.hash) = l.map fun x => hashInt (x.1 : Int)
  | [], _ => rfl
  | _ :: r, t => by simp [ents2, ents2_hash r]
theorem ents2_length : ∀ (l : List Row) (t : Nat), (ents2 t l).length = l.length
  | [], _ => rfl
  | _ :: r, t => by simp [ents2, ents2_length r]
noncomputable def Apart (es : List DictEntry) (hs : List Int) : Prop := (es.map (·.hash) ++ hs).Nodup
theorem Apart.head {h : Int} {r : List Int} (a : Apart es (h :: r)) : ∀ e ∈ es, e.hash ≠ h := fun e he q => by
  unfold Apart at a
  rw [List.nodup_append] at a
  exact a.2.2 e.hash (List.mem_map_of_mem he) h (List.mem_cons_self ..) q
theorem Apart.tail {h : Int} {r : List Int} {k v : Value} (a : Apart es (h :: r)) : Apart (es ++ [⟨h, k, v⟩]) r := by
  unfold Apart at a ⊢
  simpa using a
theorem rn_sub_loop {q p₀ : Pos} (hA : 11 ≤ A.length) : ∀ (l : List Row) (es : List DictEntry) (n t : Nat) (p₀ : Pos), Apart es (l.map fun x => hashInt (x.1 : Int)) → es.length + l.length < 1000 →
    Rn w (13 * l.length) (forIn (l.map fun x => (keyM x, valM q x)) PUnit.unit fun x (_ : PUnit) => match x with
      | (k, v) => do
        let kv ← k
        let vv ← holding [kv] v
        holding [kv, vv] (dictSet A.length kv vv)
        pure (ForInStep.yield PUnit.unit)) (stt lf os (A ++ dob es n :: B) t) p₀ PUnit.unit (stt lf os (A ++ dob (es ++ ents t l) (n + l.length) :: B) (t + 3 * l.length)) (if l.isEmpty then p₀ else q)
  | [], es, n, t, p₀, _, _ => by
    simp only [List.map_nil, ents, List.append_nil, List.length_nil]
    exact rn_pure
  | x :: l, es, n, t, p₀, ap, hl => by
    simp only [List.map_cons, List.forIn_cons, List.length_cons, List.length_map] at ap hl ⊢
    rw [show 13 * (l.length + 1) = 13 + 13 * l.length by omega]
    refine rn_bind (n := 13) (k := 13 * l.length) (a := ForInStep.yield PUnit.unit) (s1 := stt lf os (A ++ dob (es ++ [⟨hashInt (x.1 : Int), .int (x.1 : Int) t, .str x.2 (t + 1)⟩]) (n + 1) :: B) (t + 3)) (p1 := q) ?_ ?_
    · refine rn_bind (n := 1) (k := 12) rn_mkInt ?_
      refine rn_bind (n := 2) (k := 10) (a := .str x.2 (t + 1)) (s1 := stt lf os (A ++ dob es n :: B) (t + 2)) (p1 := q) (rn_holding (rn_bind (n := 1) (k := 1) rn_mkText (rn_bind (n := 1) (k := 0) rn_standAt rn_pure))) ?_
      refine rn_bind (n := 10) (k := 0) (rn_holding (rn_set (ap.head) hA (by omega))) rn_pure
    · have := rn_sub_loop (q := q) (p₀ := p₀) hA l (es ++ [⟨hashInt (x.1 : Int), .int (x.1 : Int) t, .str x.2 (t + 1)⟩]) (n + 1) (t + 3) q ap.tail (by simp; omega)
      simp only [List.append_assoc, List.singleton_append] at this
      rw [show (if l.isEmpty then q else q) = q from by split <;> rfl, show n + 1 + l.length = n + (l.length + 1) by omega, show t + 3 + 3 * l.length = t + 3 * (l.length + 1) by omega] at this
      exact this
end
end Mine
end
-- text Rmerge
section
open PySem PySem.W PySem.Calls PyProof.Rows
set_option maxRecDepth 100000
set_option maxHeartbeats 4000000
namespace Mine
section
variable {w : World} {p : Pos} {lf : Life} {os : OsState} {A B : List Obj} {es : List DictEntry} {n t : Nat}
theorem rn_pb {α β : Type} {f : α → Sem β} {a : α} {b : β} {k : Nat} {s s' : Shared} {p p' : Pos} (h : Rn w k (f a) s p b s' p') : Rn w k (pure a >>= f) s p b s' p' := h
theorem rn_subDict {q : Pos} {L : List Obj} {l : List Row} (hL : 11 ≤ L.length) (ap : Apart [] (l.map fun x => hashInt (x.1 : Int))) (hl : l.length = 17) :
    Rn w 223 (subDict (l.map fun x => (keyM x, valM q x))) (stt lf os L t) p L.length (stt lf os (L ++ [dob (ents t l) 17]) (t + 51)) q := by
  unfold subDict
  refine rn_bind (n := 1) (k := 222) (a := L.length) (s1 := stt lf os (L ++ [dob [] 0]) t) (p1 := p) ?_ ?_
  · have := rn_alloc (w := w) (p := p) (s := stt lf os L t) (o := dob [] 0)
    rw [show (stt lf os L t).heap = ⟨⟨L⟩, lf⟩ from rfl, hp_push] at this
    exact this
  · refine rn_bind (n := 222) (k := 0) (a := ()) (p1 := q) (s1 := stt lf os (L ++ [dob (ents t l) 17]) (t + 51)) (rn_holding ?_) rn_pure
    rw [if_neg (by simp [hl])]
    refine rn_bind (n := 1) (k := 221) rn_rule ?_
    refine rn_bind (n := 221) (k := 0) (a := PUnit.unit) ?_ rn_pure
    have := rn_sub_loop (w := w) (lf := lf) (os := os) (A := L) (B := []) (q := q) (p₀ := p) hL l [] 0 t p ap (by simp [hl])
    rw [hl, show (if l.isEmpty then p else q) = q from by cases l with | nil => cases hl | cons _ _ => rfl] at this
    simpa using this
theorem isInst_dict {d : Addr} {o : Obj} {s : Shared} (h : s.heap.get? d = some o) (hc : o.cls = .type "dict") : Rn w 1 (isInstance (.ref d) (.type "dict")) s p true s p := by
  unfold isInstance typeOf
  refine rn_bind (n := 1) (k := 0) (a := .type "dict") (s1 := s) (p1 := p) (rn_bind (n := 1) (k := 0) (rn_loadPart h) (by rw [hc]; exact rn_pure)) ?_
  rw [show isSubtype (.type "dict") (.type "dict") = pure true from by rw [isSubtype_type]; kernel_rfl]
  exact rn_pure
theorem special_iter {d : Addr} {o : Obj} {s : Shared} (h : s.heap.get? d = some o) (hc : o.cls = .type "dict") : Rn w 1 (specialOf (.ref d) "__iter__") s p (some (.builtin "dict.__iter__")) s p := by
  unfold specialOf typeOf
  refine rn_bind (n := 1) (k := 0) (a := .type "dict") (s1 := s) (p1 := p) (rn_bind (n := 1) (k := 0) (rn_loadPart h) (by rw [hc]; exact rn_pure)) ?_
  rw [show typeLookup (.type "dict") "__iter__" = pure (some (.builtin "dict.__iter__")) from by rw [typeLookup_type, builtinLookup_eq_fast]; kernel_rfl]
  exact rn_pure
noncomputable def IntKey (e : DictEntry) : Prop := ∃ k u, e.key = .int k u
theorem ents_int : ∀ (l : List Row) (t : Nat), ∀ e ∈ ents t l, IntKey e
  | [], _, _, h => nomatch h
  | _ :: r, t, e, h => by
    rcases List.mem_cons.mp h with rfl | h
    · exact ⟨_, _, rfl⟩
    · exact ents_int r _ e h
theorem ents2_int : ∀ (l : List Row) (t : Nat), ∀ e ∈ ents2 t l, IntKey e
  | [], _, _, h => nomatch h
  | _ :: r, t, e, h => by
    rcases List.mem_cons.mp h with rfl | h
    · exact ⟨_, _, rfl⟩
    · exact ents2_int r _ e h
theorem rn_merge_loop {se : List DictEntry} {m : Nat} (hA : 11 ≤ A.length) (hi : ∀ e ∈ se, IntKey e) : ∀ (k j : Nat), j + k = se.length → Apart (es ++ se.take j) ((se.drop j).map (·.hash)) → es.length + se.length < 1000 →
    Rn w (6 * k) (forIn (List.range' j k) PUnit.unit fun i (_ : PUnit) => do
      let es' ← dictEntries (A ++ dob es n :: B).length
      match es'[i]? with
      | some e => do
        holding [e.key, e.val] (dictPut A.length e.hash e.key e.val)
        let ep ← dictEpoch (A ++ dob es n :: B).length
        if (ep != m) = true then do
          unsupported "dict.changed-during-merge"
          pure (ForInStep.yield PUnit.unit)
        else pure (ForInStep.yield PUnit.unit)
      | _ => do
        unsupported "dict.changed-during-merge"
        pure (ForInStep.yield PUnit.unit)) (stt lf os (A ++ dob (es ++ se.take j) (n + j) :: B ++ [dob se m]) t) p PUnit.unit (stt lf os (A ++ dob (es ++ se) (n + se.length) :: B ++ [dob se m]) t) p
  | 0, j, hj, _, _ => by
    have : j = se.length := by omega
    subst this
    rw [List.take_length]
    exact rn_pure
  | k + 1, j, hj, ap, hl => by
    have hj' : j < se.length := by omega
    rw [List.range'_succ, List.forIn_cons, show 6 * (k + 1) = 6 + 6 * k by omega]
    obtain ⟨ik, iu, hk⟩ := hi se[j] (List.getElem_mem hj')
    have hlen : (A ++ dob es n :: B).length = (A ++ dob (es ++ se.take j) (n + j) :: B).length := by simp
    have hlen' : (A ++ dob es n :: B).length = (A ++ dob (es ++ se.take (j + 1)) (n + (j + 1)) :: B).length := by simp
    have hd : se.drop j = se[j] :: se.drop (j + 1) := by simp
    have ht : se.take (j + 1) = se.take j ++ [se[j]] := by simp
    rw [hd, List.map_cons] at ap
    refine rn_bind (n := 6) (k := 6 * k) (a := ForInStep.yield PUnit.unit) (s1 := stt lf os (A ++ dob (es ++ se.take (j + 1)) (n + (j + 1)) :: B ++ [dob se m]) t) (p1 := p) ?_ ?_
    · refine rn_bind (n := 1) (k := 5) (a := ⟨se⟩) (s1 := stt lf os (A ++ dob (es ++ se.take j) (n + j) :: B ++ [dob se m]) t) (p1 := p) (by rw [hlen]; exact rn_entries (A := A ++ dob (es ++ se.take j) (n + j) :: B) (B := [])) ?_
      rw [show (⟨se⟩ : Array DictEntry)[j]? = some se[j] from by simp [hj']]
      refine rn_bind (n := 4) (k := 1) (a := ()) (s1 := stt lf os (A ++ dob (es ++ se.take (j + 1)) (n + (j + 1)) :: B ++ [dob se m]) t) (p1 := p) (rn_holding ?_) ?_
      · have := rn_put (w := w) (p := p) (lf := lf) (os := os) (A := A) (B := B ++ [dob se m]) (es := es ++ se.take j) (n := n + j) (t := t) (k := ik) (u := iu) (v := se[j].val) (h := se[j].hash) ap.head hA (by simp; omega)
        rw [show (⟨se[j].hash, .int ik iu, se[j].val⟩ : DictEntry) = se[j] from by rw [← hk], ← hk, List.append_assoc, ← ht] at this
        simpa [Nat.add_assoc] using this
      · refine rn_bind (n := 1) (k := 0) (a := m) (s1 := stt lf os (A ++ dob (es ++ se.take (j + 1)) (n + (j + 1)) :: B ++ [dob se m]) t) (p1 := p) (by rw [hlen']; exact rn_epoch (A := A ++ dob (es ++ se.take (j + 1)) (n + (j + 1)) :: B) (B := [])) ?_
        rw [if_neg (by simp)]
        exact rn_pure
    · have ap' : Apart (es ++ se.take (j + 1)) ((se.drop (j + 1)).map (·.hash)) := by
        rw [ht, ← List.append_assoc]
        have := ap.tail (k := se[j].key) (v := se[j].val)
        exact this
      exact rn_merge_loop hA hi k (j + 1) (by omega) ap' hl
theorem rn_merge {se : List DictEntry} {m : Nat} (hA : 11 ≤ A.length) (hi : ∀ e ∈ se, IntKey e) (ap : Apart es (se.map (·.hash))) (hl : es.length + se.length < 1000) (hne : es ≠ []) :
    Rn w (5 + 6 * se.length) (mergeMapping A.length (.ref (A ++ dob es n :: B).length) false) (stt lf os (A ++ dob es n :: B ++ [dob se m]) t) p () (stt lf os (A ++ dob (es ++ se) (n + se.length) :: B ++ [dob se m]) t) p := by
  have hsub : (stt lf os (A ++ dob es n :: B ++ [dob se m]) t).heap.get? (A ++ dob es n :: B).length = some (dob se m) := get_at (A := A ++ dob es n :: B) (B := [])
  unfold mergeMapping
  rw [show 5 + 6 * se.length = 1 + (4 + 6 * se.length) by omega]
  refine rn_bind (n := 1) (k := 4 + 6 * se.length) (isInst_dict hsub rfl) ?_
  dsimp only
  rw [if_pos rfl, show 4 + 6 * se.length = 1 + (3 + 6 * se.length) by omega]
  refine rn_bind (n := 1) (k := 3 + 6 * se.length) (special_iter hsub rfl) ?_
  rw [show (some (Value.builtin "dict.__iter__") == some (Value.builtin "dict.__iter__")) = true from by decide]
  refine rn_pb ?_
  dsimp only
  rw [if_neg (fun h => by have h' : (A ++ dob es n :: B).length = 1 := eq_of_beq h; simp only [List.length_append, List.length_cons] at h'; omega)]
  rw [show 3 + 6 * se.length = 1 + (2 + 6 * se.length) by omega]
  refine rn_bind (n := 1) (k := 2 + 6 * se.length) (a := ⟨es⟩) (s1 := stt lf os (A ++ dob es n :: B ++ [dob se m]) t) (p1 := p) (by rw [List.append_assoc, List.cons_append]; exact rn_entries) ?_
  rw [if_neg (by cases es with | nil => exact absurd rfl hne | cons _ _ => simp)]
  rw [show 2 + 6 * se.length = 1 + (1 + 6 * se.length) by omega]
  refine rn_bind (n := 1) (k := 1 + 6 * se.length) (a := ⟨se⟩) (s1 := stt lf os (A ++ dob es n :: B ++ [dob se m]) t) (p1 := p) (rn_entries (A := A ++ dob es n :: B) (B := [])) ?_
  refine rn_bind (n := 1) (k := 6 * se.length) (a := m) (s1 := stt lf os (A ++ dob es n :: B ++ [dob se m]) t) (p1 := p) (rn_epoch (A := A ++ dob es n :: B) (B := [])) ?_
  have L := rn_merge_loop (w := w) (p := p) (lf := lf) (os := os) (A := A) (B := B) (es := es) (n := n) (t := t) (se := se) (m := m) hA hi se.length 0 (by omega) (by simpa using ap) hl
  simp only [List.take_zero, List.append_nil, Nat.add_zero] at L
  rw [← List.range_eq_range'] at L
  exact rn_bind (n := 6 * se.length) (k := 0) L rn_pure
end
end Mine
end
-- text Rdd
section
open PySem PySem.W PySem.Calls PyProof.Rows
set_option maxRecDepth 100000
set_option maxHeartbeats 4000000
namespace Mine
section
variable {w : World} {p q : Pos} {lf : Life} {os : OsState} {A B : List Obj} {es : List DictEntry} {n t : Nat}
noncomputable def pairs2 : Nat → List Row → List (Value × Value)
  | _, [] => []
  | t, x :: r => (.int (x.1 : Int) t, .str x.2 (t + 1)) :: pairs2 (t + 2) r
theorem rn_evalPairs {L : List Obj} : ∀ (l : List Row) (t : Nat), Rn w (3 * l.length) (evalPairs (l.map fun x => (keyM x, valM q x))) (stt lf os L t) q (pairs2 t l) (stt lf os L (t + 2 * l.length)) q
  | [], t => rn_pure
  | x :: l, t => by
    rw [List.map_cons, List.length_cons, show 3 * (l.length + 1) = 1 + (2 + 3 * l.length) by omega]
    unfold evalPairs
    refine rn_bind (n := 1) (k := 2 + 3 * l.length) rn_mkInt ?_
    refine rn_bind (n := 2) (k := 3 * l.length) (a := .str x.2 (t + 1)) (s1 := stt lf os L (t + 2)) (p1 := q) (rn_holding (rn_bind (n := 1) (k := 1) rn_mkText (rn_bind (n := 1) (k := 0) rn_standAt rn_pure))) ?_
    have := rn_bind (n := 3 * l.length) (k := 0) (f := fun r => (pure ((Value.int (x.1 : Int) t, Value.str x.2 (t + 1)) :: r) : Sem _)) (rn_holding (vs := [Value.int (x.1 : Int) t, Value.str x.2 (t + 1)]) (rn_evalPairs (L := L) l (t + 2))) rn_pure
    rw [show t + 2 + 2 * l.length = t + 2 * (l.length + 1) by omega] at this
    exact this
theorem rn_set_loop (hA : 11 ≤ A.length) : ∀ (l : List Row) (es : List DictEntry) (n u t : Nat), Apart es (l.map fun x => hashInt (x.1 : Int)) → es.length + l.length < 1000 →
    Rn w (10 * l.length) (forIn (pairs2 u l) PUnit.unit fun x (_ : PUnit) => match x with
      | (k, v) => do
        dictSet A.length k v
        pure (ForInStep.yield PUnit.unit)) (stt lf os (A ++ dob es n :: B) t) p PUnit.unit (stt lf os (A ++ dob (es ++ ents2 u l) (n + l.length) :: B) (t + l.length)) p
  | [], es, n, u, t, _, _ => by
    simp only [pairs2, ents2, List.append_nil, List.length_nil]
    exact rn_pure
  | x :: l, es, n, u, t, ap, hl => by
    simp only [List.map_cons, pairs2, List.forIn_cons, List.length_cons] at ap hl ⊢
    rw [show 10 * (l.length + 1) = 10 + 10 * l.length by omega]
    refine rn_bind (n := 10) (k := 10 * l.length) (a := ForInStep.yield PUnit.unit) (s1 := stt lf os (A ++ dob (es ++ [⟨hashInt (x.1 : Int), .int (x.1 : Int) u, .str x.2 (u + 1)⟩]) (n + 1) :: B) (t + 1)) (p1 := p) (rn_bind (n := 10) (k := 0) (rn_set ap.head hA (by omega)) rn_pure) ?_
    have := rn_set_loop hA l (es ++ [⟨hashInt (x.1 : Int), .int (x.1 : Int) u, .str x.2 (u + 1)⟩]) (n + 1) (u + 2) (t + 1) ap.tail (by simp; omega)
    simp only [List.append_assoc, List.singleton_append] at this
    rw [show n + 1 + l.length = n + (l.length + 1) by omega, show t + 1 + l.length = t + (l.length + 1) by omega] at this
    exact this
theorem rn_subDict2 {L : List Obj} {l : List Row} (hL : 11 ≤ L.length) (ap : Apart [] (l.map fun x => hashInt (x.1 : Int))) (hl : l.length = 4) :
    Rn w 53 (subDict (l.map fun x => (keyM x, valM q x))) (stt lf os L t) q L.length (stt lf os (L ++ [dob (ents2 t l) 4]) (t + 12)) q := by
  unfold subDict
  refine rn_bind (n := 1) (k := 52) (a := L.length) (s1 := stt lf os (L ++ [dob [] 0]) t) (p1 := q) ?_ ?_
  · have := rn_alloc (w := w) (p := q) (s := stt lf os L t) (o := dob [] 0)
    rw [show (stt lf os L t).heap = ⟨⟨L⟩, lf⟩ from rfl, hp_push] at this
    exact this
  · refine rn_bind (n := 52) (k := 0) (a := ()) (p1 := q) (s1 := stt lf os (L ++ [dob (ents2 t l) 4]) (t + 12)) (rn_holding ?_) rn_pure
    rw [if_pos (by simp [hl])]
    refine rn_bind (n := 12) (k := 40) (a := pairs2 t l) (s1 := stt lf os (L ++ [dob [] 0]) (t + 8)) (p1 := q) (by have := rn_evalPairs (w := w) (q := q) (lf := lf) (os := os) (L := L ++ [dob [] 0]) l t; rw [hl] at this; exact this) (rn_holding ?_)
    refine rn_bind (n := 40) (k := 0) (a := PUnit.unit) ?_ rn_pure
    have := rn_set_loop (w := w) (p := q) (lf := lf) (os := os) (A := L) (B := []) hL l [] 0 t (t + 8) ap (by simp [hl])
    rw [hl] at this
    simpa using this
end
noncomputable abbrev DBody := (Option (Sem Value) × Sem Value) → (Option Addr × List (Sem Value × Sem Value)) → Sem (ForInStep (Option Addr × List (Sem Value × Sem Value)))
noncomputable abbrev DFlush := List (Sem Value × Sem Value) → Option Addr → Sem (Option Addr)
section
variable {w : World} {q : Pos} {lf : Life} {os : OsState} {A B : List Obj} {es : List DictEntry} {n t : Nat} {flush : DFlush} {body : DBody}
noncomputable abbrev itF (q : Pos) (x : Row) : Option (Sem Value) × Sem Value := (some (keyM x), valM q x)
noncomputable abbrev itG (q : Pos) (x : Row) : Sem Value × Sem Value := (keyM x, valM q x)
noncomputable def BodyIs (q : Pos) (flush : DFlush) (body : DBody) : Prop := ∀ x main run, body (itF q x) (main, run) = if ((run ++ [itG q x]).length == 17) = true then (do let main ← flush (run ++ [itG q x]) main; pure (ForInStep.yield (main, []))) else pure (ForInStep.yield (main, run ++ [itG q x]))
theorem dd_acc (hb : BodyIs q flush body) {main : Option Addr} {rest : List (Option (Sem Value) × Sem Value)} : ∀ (l : List Row) (run : List (Sem Value × Sem Value)), run.length + l.length ≤ 16 →
    forIn (l.map (itF q) ++ rest) (main, run) body = forIn rest (main, run ++ l.map (itG q)) body
  | [], run, _ => by simp
  | x :: l, run, h => by
    rw [List.map_cons, List.cons_append, List.forIn_cons, hb, if_neg (by simp only [List.length_append, List.length_cons, List.length_nil, beq_iff_eq] at h ⊢; omega), pure_bind]
    have := dd_acc hb (main := main) (rest := rest) l (run ++ [itG q x]) (by simp only [List.length_append, List.length_cons, List.length_nil] at h ⊢; omega)
    rw [List.append_assoc] at this
    exact this
theorem dd_chunk (hb : BodyIs q flush body) {main : Option Addr} {rest : List (Option (Sem Value) × Sem Value)} {l : List Row} (hl : l.length = 17) :
    forIn (l.map (itF q) ++ rest) (main, []) body = (flush (l.map (itG q)) main >>= fun main => forIn rest (main, []) body) := by
  have e : l = l.take 16 ++ [l[16]] := by
    have := List.take_append_drop 16 l
    have hd : l.drop 16 = [l[16]] := by rw [List.drop_eq_getElem_cons (by omega), List.drop_eq_nil_of_le (by omega)]
    rw [hd] at this
    exact this.symm
  generalize l[16] = x at e
  generalize hm : l.take 16 = m at e
  have hml : m.length = 16 := by rw [← hm, List.length_take]; omega
  subst e
  rw [List.map_append, List.append_assoc, dd_acc hb m [] (by simp [hml]), List.map_cons, List.map_nil, List.cons_append, List.nil_append, List.forIn_cons, hb, if_pos (by simp [hml])]
  simp only [bind_assoc, pure_bind, List.nil_append, List.map_append, List.map_cons, List.map_nil]
noncomputable def FlushIs (flush : DFlush) : Prop := (∀ run, run ≠ [] → flush run none = (do let d ← subDict run; pure (some d))) ∧
  ∃ g : Addr → Value → Sem Unit, ∀ run d, run ≠ [] → flush run (some d) = (do
    let sub ← holding [.ref d] (subDict run)
    (holding [.ref d, .ref sub] (mergeMapping d (.ref sub) false)).onRaise (g d)
    pure (some d))
theorem rn_flush (hf : FlushIs flush) {l : List Row} (hA : 11 ≤ A.length) (hne : es ≠ []) (ap : Apart es (l.map fun x => hashInt (x.1 : Int))) (hl : l.length = 17) (hs : es.length + 17 < 1000) :
    Rn w 330 (flush (l.map (itG q)) (some A.length)) (stt lf os (A ++ dob es n :: B) t) q (some A.length) (stt lf os (A ++ dob (es ++ ents t l) (n + 17) :: (B ++ [dob (ents t l) 17])) (t + 51)) q := by
  obtain ⟨_, g, hg⟩ := hf
  rw [hg _ _ (by intro h; rw [List.map_eq_nil_iff] at h; rw [h] at hl; cases hl)]
  have ap' : Apart [] (l.map fun x => hashInt (x.1 : Int)) := by unfold Apart at ap ⊢; rw [List.nodup_append] at ap; simpa using ap.2.1
  refine rn_bind (n := 223) (k := 107) (a := (A ++ dob es n :: B).length) (s1 := stt lf os (A ++ dob es n :: B ++ [dob (ents t l) 17]) (t + 51)) (p1 := q) (rn_holding (rn_subDict (by simp; omega) ap' hl)) ?_
  refine rn_bind (n := 107) (k := 0) (a := ()) (p1 := q) (s1 := stt lf os (A ++ dob (es ++ ents t l) (n + 17) :: (B ++ [dob (ents t l) 17])) (t + 51)) (rn_onRaise (rn_holding ?_)) rn_pure
  have := rn_merge (w := w) (p := q) (lf := lf) (os := os) (A := A) (B := B) (es := es) (n := n) (t := t + 51) (se := ents t l) (m := 17) hA (ents_int _ _) (by rw [ents_hash]; exact ap) (by rw [ents_length, hl]; exact hs) hne
  rw [ents_length, hl, List.append_assoc, List.cons_append, List.append_assoc, List.cons_append] at this
  rw [List.append_assoc, List.cons_append]
  exact this
theorem rn_flush2 (hf : FlushIs flush) {l : List Row} (hA : 11 ≤ A.length) (hne : es ≠ []) (ap : Apart es (l.map fun x => hashInt (x.1 : Int))) (hl : l.length = 4) (hs : es.length + 4 < 1000) :
    Rn w 82 (flush (l.map (itG q)) (some A.length)) (stt lf os (A ++ dob es n :: B) t) q (some A.length) (stt lf os (A ++ dob (es ++ ents2 t l) (n + 4) :: (B ++ [dob (ents2 t l) 4])) (t + 12)) q := by
  obtain ⟨_, g, hg⟩ := hf
  rw [hg _ _ (by intro h; rw [List.map_eq_nil_iff] at h; rw [h] at hl; cases hl)]
  have ap' : Apart [] (l.map fun x => hashInt (x.1 : Int)) := by unfold Apart at ap ⊢; rw [List.nodup_append] at ap; simpa using ap.2.1
  refine rn_bind (n := 53) (k := 29) (a := (A ++ dob es n :: B).length) (s1 := stt lf os (A ++ dob es n :: B ++ [dob (ents2 t l) 4]) (t + 12)) (p1 := q) (rn_holding (rn_subDict2 (by simp; omega) ap' hl)) ?_
  refine rn_bind (n := 29) (k := 0) (a := ()) (p1 := q) (s1 := stt lf os (A ++ dob (es ++ ents2 t l) (n + 4) :: (B ++ [dob (ents2 t l) 4])) (t + 12)) (rn_onRaise (rn_holding ?_)) rn_pure
  have := rn_merge (w := w) (p := q) (lf := lf) (os := os) (A := A) (B := B) (es := es) (n := n) (t := t + 12) (se := ents2 t l) (m := 4) hA (ents2_int _ _) (by rw [ents2_hash]; exact ap) (by rw [ents2_length, hl]; exact hs) hne
  rw [ents2_length, hl, List.append_assoc, List.cons_append, List.append_assoc, List.cons_append] at this
  rw [List.append_assoc, List.cons_append]
  exact this
theorem rn_chunks (hb : BodyIs q flush body) (hf : FlushIs flush) (hA : 11 ≤ A.length) {rest : List (Option (Sem Value) × Sem Value)} {r : Option Addr × List (Sem Value × Sem Value)} {s' : Shared} {k : Nat} :
    ∀ (cs : List (List Row)) (es : List DictEntry) (B : List Obj) (n t : Nat), es ≠ [] → (∀ c ∈ cs, c.length = 17) → Apart es (cs.flatten.map fun x => hashInt (x.1 : Int)) → es.length + 17 * cs.length < 1000 →
    Rn w k (forIn rest (some A.length, []) body) (stt lf os (A ++ dob (es ++ ents t cs.flatten) (n + 17 * cs.length) :: (B ++ subsOf t cs)) (t + 51 * cs.length)) q r s' q →
    Rn w (330 * cs.length + k) (forIn (cs.flatten.map (itF q) ++ rest) (some A.length, []) body) (stt lf os (A ++ dob es n :: B) t) q r s' q
  | [], es, B, n, t, _, _, _, _, h => by simpa [ents, subsOf] using h
  | c :: cs, es, B, n, t, hne, hc, ap, hs, h => by
    have hl : c.length = 17 := hc c (List.mem_cons_self ..)
    rw [List.flatten_cons, List.map_append, List.append_assoc, dd_chunk hb hl, List.length_cons, show 330 * (cs.length + 1) + k = 330 + (330 * cs.length + k) by omega]
    rw [List.flatten_cons, List.map_append] at ap
    have ap1 : Apart es (c.map fun x => hashInt (x.1 : Int)) := by
      unfold Apart at ap ⊢
      rw [← List.append_assoc, List.nodup_append] at ap
      exact ap.1
    have ap2 : Apart (es ++ ents t c) (cs.flatten.map fun x => hashInt (x.1 : Int)) := by
      unfold Apart at ap ⊢
      rw [List.map_append, ents_hash, List.append_assoc]
      exact ap
    simp only [List.length_cons] at hs
    refine rn_bind (n := 330) (k := 330 * cs.length + k) (rn_flush hf hA hne ap1 hl (by omega)) ?_
    refine rn_chunks hb hf hA cs (es ++ ents t c) (B ++ [dob (ents t c) 17]) (n + 17) (t + 51) (by simp [hne]) (fun c' h' => hc c' (List.mem_cons_of_mem _ h')) ap2 (by rw [List.length_append, ents_length, hl]; omega) ?_
    rw [List.flatten_cons, ents_app, hl, List.length_cons, subsOf] at h
    rw [List.append_assoc, List.append_assoc, show n + 17 + 17 * cs.length = n + 17 * (cs.length + 1) by omega, show t + 51 + 51 * cs.length = t + 51 * (cs.length + 1) by omega]
    exact h
theorem sum_len : ∀ {cs : List (List Row)}, (∀ c ∈ cs, c.length = 17) → (cs.map List.length).sum = 17 * cs.length
  | [], _ => rfl
  | c :: cs, h => by
    simp only [List.map_cons, List.sum_cons, List.length_cons]
    rw [h c (List.mem_cons_self ..), sum_len fun c' h' => h c' (List.mem_cons_of_mem _ h')]
    omega
theorem rn_display {L : List Obj} {c0 last : List Row} {cs : List (List Row)} (hL : 11 ≤ L.length) (h0 : c0.length = 17) (hc : ∀ c ∈ cs, c.length = 17) (h4 : last.length = 4)
    (ap : Apart [] ((c0 ++ (cs.flatten ++ last)).map fun x => hashInt (x.1 : Int))) (hs : 17 * cs.length < 900) :
    Rn w (223 + (330 * cs.length + 82)) (dictDisplay ((c0 ++ (cs.flatten ++ last)).map (itF q))) (stt lf os L t) q (.ref L.length)
      (stt lf os (L ++ dob (ents t c0 ++ ents (t + 51) cs.flatten ++ ents2 (t + 51 + 51 * cs.length) last) (17 + 17 * cs.length + 4) :: (subsOf (t + 51) cs ++ [dob (ents2 (t + 51 + 51 * cs.length) last) 4])) (t + 51 + 51 * cs.length + 12)) q := by
  unfold dictDisplay
  extract_lets flush main0 run0
  have hf : FlushIs flush := ⟨fun run hr => by
      show (if run.isEmpty = true then _ else _) = _
      rw [if_neg (by simpa using hr)], ⟨_, fun run d hr => by
      show (if run.isEmpty = true then _ else _) = _
      rw [if_neg (by simpa using hr)]⟩⟩
  have aps := ap
  unfold Apart at aps
  simp only [List.map_append, List.map_nil, List.nil_append] at aps
  have hsum := sum_len hc
  have hne : ents t c0 ≠ [] := by intro h; have := ents_length c0 t; rw [h, h0] at this; cases this
  refine rn_bind (n := 223 + 330 * cs.length) (k := 82) (a := (some L.length, last.map (itG q))) (s1 := stt lf os (L ++ dob (ents t c0 ++ ents (t + 51) cs.flatten) (17 + 17 * cs.length) :: subsOf (t + 51) cs) (t + 51 + 51 * cs.length)) (p1 := q) ?_ ?_
  · generalize hbody : (fun (x : Option (Sem Value) × Sem Value) (__s : Option Addr × List (Sem Value × Sem Value)) => _) = body
    have hb : BodyIs q flush body := fun x main run => by rw [← hbody]
    rw [List.map_append, dd_chunk hb h0]
    refine rn_bind (n := 223) (k := 330 * cs.length) (a := some L.length) (s1 := stt lf os (L ++ [dob (ents t c0) 17]) (t + 51)) (p1 := q) ?_ ?_
    · rw [hf.1 _ (by intro h; rw [List.map_eq_nil_iff] at h; rw [h] at h0; cases h0)]
      refine rn_bind (n := 223) (k := 0) (rn_subDict hL ?_ h0) rn_pure
      unfold Apart
      rw [List.nodup_append] at aps
      simpa using aps.1
    · rw [List.map_append]
      refine rn_chunks (k := 0) (A := L) hb hf hL cs (ents t c0) [] 17 (t + 51) hne hc ?_ (by rw [ents_length, h0]; omega) ?_
      · unfold Apart
        rw [ents_hash]
        rw [← List.append_assoc, List.nodup_append] at aps
        exact aps.1
      · have := dd_acc hb (main := some L.length) (rest := []) last [] (by simp [h4])
        rw [List.append_nil] at this
        rw [this]
        exact rn_pure
  · refine rn_bind (n := 82) (k := 0) (a := some L.length) (p1 := q) (rn_flush2 (A := L) hf hL (by simp [hne]) ?_ h4 (by simp only [List.length_append, ents_length, h0, List.length_flatten]; rw [hsum]; omega)) rn_pure
    unfold Apart
    rw [List.map_append, ents_hash, ents_hash, List.append_assoc]
    exact aps
end
end Mine
end
-- text HA6
section
open PySem PySem.W PySem.Calls PyProof.Rows
set_option maxRecDepth 100000
set_option maxHeartbeats 0
namespace Mine
noncomputable def q8 : Pos := match stmtAt 8 with
  | .Assign _ (.Dict _ _ q) _ => q
  | _ => default
noncomputable def p8 : Pos := match stmtAt 8 with
  | .Assign _ _ q => q
  | _ => default
noncomputable def tg8 : List Expr := match stmtAt 8 with
  | .Assign l _ _ => l
  | _ => []
noncomputable def va8 : Expr := match stmtAt 8 with
  | .Assign _ v _ => v
  | _ => default
noncomputable def tail8 (v : Value) : Sem Flow := do
  assignStores env0 v (← swappedStores tg8 va8 env0) ((assignEach tg8 env0).map (·.2))
theorem rows_split : rows = c0 ++ (cs.flatten ++ last) := by kernel_rfl
noncomputable def disp8 : Sem Value := dictDisplay (rows.map (itF q8))
noncomputable def pre8 : Sem Value := standAt p8 >>= fun _ => standAt q8 >>= fun _ => disp8
theorem exec8 : exec (stmtAt 8) env0 = pre8 >>= tail8 := by kernel_rfl
noncomputable def incr : List Int → Bool
  | a :: b :: r => decide (a < b) && incr (b :: r)
  | _ => true
theorem incr_lt : ∀ {l : List Int} {a : Int}, incr (a :: l) = true → ∀ b ∈ l, a < b
  | [], _, _, _, h => nomatch h
  | c :: l, a, h, b, hb => by
    unfold incr at h
    rw [Bool.and_eq_true, decide_eq_true_eq] at h
    rcases List.mem_cons.mp hb with rfl | hb
    · exact h.1
    · have := incr_lt h.2 b hb
      omega
theorem incr_nodup : ∀ {l : List Int}, incr l = true → l.Nodup
  | [], _ => List.nodup_nil
  | [a], _ => by simp
  | a :: b :: r, h => by
    have h' := h
    unfold incr at h'
    rw [Bool.and_eq_true] at h'
    exact List.nodup_cons.mpr ⟨fun hm => by have := incr_lt h a hm; omega, incr_nodup h'.2⟩
theorem apart8 : Apart [] ((c0 ++ (cs.flatten ++ last)).map fun x => hashInt (x.1 : Int)) := by
  unfold Apart
  rw [← rows_split]
  exact incr_nodup (by kernel_rfl)
theorem chunks17 : ∀ c ∈ cs, c.length = 17 := by
  have : (cs.all fun c => c.length == 17) = true := by kernel_rfl
  intro c hc
  exact eq_of_beq (List.all_eq_true.mp this c hc)
theorem len_cs : cs.length = 37 := by kernel_rfl
theorem show8 (w : World) (os : OsState) : Rn w 12515 disp8 (stt (boot_heap w.params).life os (l_s7 w.params) 307) q8 (.ref 54) (stt (boot_heap w.params).life os (l_s7 w.params ++ dictObjs) 2257) q8 := by
  have := rn_display (w := w) (q := q8) (lf := (boot_heap w.params).life) (os := os) (t := 307) (L := l_s7 w.params) (c0 := c0) (cs := cs) (last := last) (show 11 ≤ 54 by decide) (by kernel_rfl) chunks17 (by kernel_rfl) apart8 (by rw [len_cs]; decide)
  rw [len_cs, ← rows_split] at this
  exact this
theorem run8 (w : World) (os : OsState) : Rn w 12517 pre8 (stt (boot_heap w.params).life os (l_s7 w.params) 307) ⟨55, 0, 56, 30⟩ (.ref 54) (stt (boot_heap w.params).life os (l_s7 w.params ++ dictObjs) 2257) q8 := by
  unfold pre8
  exact rn_bind (n := 1) (k := 12516) rn_standAt (rn_bind (n := 1) (k := 12515) rn_standAt (show8 w os))
theorem tail8_run (w : World) (os : OsState) : segRun treeTable pw w 11 (some (.ref 6)) 1 8 (stt (boot_heap w.params).life os (l_s7 w.params ++ dictObjs) 2257)
    ⟨(tail8 (.ref 54)).wrap (fun f => match f with | .next => (execs [] env0).wrap doneF deadEnd id id | f => doneF f) deadEnd id id, cd0, q8, B0⟩ = some (.next, ⟨h_s8 w.params, #[], boot_drawn, 2258, os⟩, cd0, ⟨57, 0, 57, 13⟩) := by
  rw [PySem.W.Fast.te14374325043358763698, PySem.W.Fast.te14364793385576792824]
  kernel_rfl
theorem segD (w : World) (os : OsState) : segRun treeTable pw w 11 (some (.ref 6)) 1 12525 ⟨h_s7 w.params, #[], boot_drawn, 307, os⟩ (piecesOf ((bd.drop 8).take 1) env0 cd0 ⟨55, 0, 56, 30⟩ B0) =
    some (.next, ⟨h_s8 w.params, #[], boot_drawn, 2258, os⟩, cd0, ⟨57, 0, 57, 13⟩) := by
  have e : (bd.drop 8).take 1 = [stmtAt 8] := by kernel_rfl
  rw [e]
  show segRun _ _ _ _ _ _ (12517 + 8) _ ⟨(execs [stmtAt 8] env0).wrap doneF deadEnd id id, cd0, ⟨55, 0, 56, 30⟩, B0⟩ = _
  rw [execs_cons_wrap, exec8, Sem.bind_eq_wrap', Sem.wrap_wrap]
  exact seg_go (run8 w os _ _ _ _ cd0 (topFrame fp0) []) (tail8_run w os)
end Mine
end
-- text HA7
section
open PySem PySem.W PySem.Calls PyProof.Rows
set_option maxRecDepth 100000
set_option maxHeartbeats 0
namespace Mine
theorem pre_go (w : World) (os : OsState) : topGo treeTable pw w 11 (some (.ref 6)) 12 ⟨boot_heap w.params, #[], boot_drawn, boot_toks, os⟩ (topStub pw) =
    some (⟨h_pre w.params, #[], boot_drawn, 187, os⟩, ⟨denote treeTable cd0, cd0, fp0, B0⟩) := by
  rw [PySem.W.Fast.te15667345088766844465, PySem.W.Fast.te11892475500146522536, PySem.W.Fast.te14364793385576792824]
  kernel_rfl
theorem blk_go (w : World) (os : OsState) : segRun treeTable pw w 11 (some (.ref 6)) 1 1 ⟨h_pre w.params, #[], boot_drawn, 187, os⟩ (blockOf bd env0 cd0 fp0 B0) = some (.next, ⟨h_pre w.params, #[], boot_drawn, 187, os⟩, cd0, fp0) := by
  rw [PySem.W.Fast.te14374325043358763698, PySem.W.Fast.te14364793385576792824]
  kernel_rfl
theorem segA (w : World) (os : OsState) : segRun treeTable pw w 11 (some (.ref 6)) 1 141 ⟨h_pre w.params, #[], boot_drawn, 187, os⟩ (piecesOf (bd.take 6) env0 cd0 fp0 B0) =
    some (.next, ⟨h_s5 w.params, #[], boot_drawn, 240, os⟩, cd0, ⟨53, 0, 53, 8⟩) := by
  rw [PySem.W.Fast.te14374325043358763698, PySem.W.Fast.te14364793385576792824]
  kernel_rfl
theorem segC (w : World) (os : OsState) : segRun treeTable pw w 11 (some (.ref 6)) 1 30 ⟨h_s6 w.params, #[], boot_drawn, 300, os⟩ (piecesOf ((bd.drop 7).take 1) env0 cd0 ⟨54, 0, 54, 6⟩ B0) =
    some (.next, ⟨h_s7 w.params, #[], boot_drawn, 307, os⟩, cd0, ⟨55, 0, 56, 30⟩) := by
  rw [PySem.W.Fast.te14374325043358763698, PySem.W.Fast.te14364793385576792824]
  kernel_rfl
theorem segE (w : World) (os : OsState) : segRun treeTable pw w 11 (some (.ref 6)) 1 193 ⟨h_s8 w.params, #[], boot_drawn, 2258, os⟩ (piecesOf (bd.drop 9) env0 cd0 ⟨57, 0, 57, 13⟩ B0) =
    some (.next, ⟨h_s15 w.params, #[], boot_drawn, 2315, os⟩, cd0, ⟨86, 0, 151, 83⟩) := by
  rw [PySem.W.Fast.te14374325043358763698, PySem.W.Fast.te14364793385576792824]
  kernel_rfl
theorem fin_go (w : World) (os : OsState) : topRun treeTable pw w 11 (some (.ref 6)) 2 ⟨h_s15 w.params, #[], boot_drawn, 2315, os⟩ ⟨doneF .next, cd0, ⟨86, 0, 151, 83⟩, B0⟩ = some ⟨h_s15 w.params, #[], boot_drawn, 2315, os⟩ := by
  rw [PySem.W.Fast.te14082659384304107361, PySem.W.Fast.te14364793385576792824]
  kernel_rfl
end Mine
end
-- text HL1
section
open PySem PySem.W PySem.Calls PyProof.Rows
set_option maxRecDepth 100000
set_option maxHeartbeats 0
namespace Mine
noncomputable def kf (P : Params) : Frag := (nat_lit 2, boot_o_2 P) :: (nat_lit 3, o3s15 P) :: (nat_lit 6, boot_o_6 P) :: (nat_lit 15, o15s1 P) :: (nat_lit 17, o17s1 P) :: (nat_lit 18, o18s1 P) :: (nat_lit 20, o20s1 P) :: (nat_lit 21, o21s1 P) :: (nat_lit 22, o22s2 P) :: (nat_lit 24, o24s2 P) :: (nat_lit 25, o25s2 P) :: (nat_lit 27, o27s2 P) :: (nat_lit 28, o28s2 P) :: (nat_lit 29, o29s4 P) :: (nat_lit 31, o31s4 P) :: (nat_lit 32, o32s4 P) :: (nat_lit 34, o34s4 P) :: (nat_lit 35, o35s4 P) :: (nat_lit 43, o43s6 P) :: (nat_lit 47, o47s7 P) :: (nat_lit 49, o49s7 P) :: (nat_lit 50, o50s7 P) :: (nat_lit 52, o52s7 P) :: (nat_lit 53, o53s7 P) :: (nat_lit 54, dob mainE 650) :: (nat_lit 93, o93s9 P) :: (nat_lit 95, o95s9 P) :: (nat_lit 96, o96s9 P) :: (nat_lit 98, o98s9 P) :: (nat_lit 99, o99s9 P) :: (nat_lit 100, o100s11 P) :: (nat_lit 102, o102s11 P) :: (nat_lit 103, o103s11 P) :: (nat_lit 105, o105s11 P) :: (nat_lit 106, o106s11 P) :: (nat_lit 107, o107s12 P) :: (nat_lit 110, o110s12 P) :: (nat_lit 111, o111s12 P) :: (nat_lit 112, o112s13 P) :: (nat_lit 114, o114s13 P) :: (nat_lit 115, o115s13 P) :: (nat_lit 117, o117s13 P) :: (nat_lit 118, o118s13 P) :: (nat_lit 119, o119s14 P) :: (nat_lit 121, o121s14 P) :: (nat_lit 122, o122s14 P) :: (nat_lit 124, o124s14 P) :: (nat_lit 125, o125s14 P) :: (nat_lit 126, o126s15 P) :: (nat_lit 129, o129s15 P) :: (nat_lit 130, o130s15 P) :: []
noncomputable def kas : List Addr := [2, 3, 6, 15, 17, 18, 20, 21, 22, 24, 25, 27, 28, 29, 31, 32, 34, 35, 43, 47, 49, 50, 52, 53, 54, 93, 95, 96, 98, 99, 100, 102, 103, 105, 106, 107, 110, 111, 112, 114, 115, 117, 118, 119, 121, 122, 124, 125, 126, 129, 130]
noncomputable def qv : Program := view pw [1, 2, 4, 6, 7, 8, 9, 11, 12, 13, 14, 15]
noncomputable def lz : List Str := ["b1_set", "b3_exceptions"]
theorem kas_eq : ∀ P, kas = (kf P).map (·.1) := fun _ => by kernel_rfl
theorem look_st (w : World) : (staticsOk (importedModules pw.main.body) (boot_heap w.params) (h_s15 w.params) && namesBound pw (h_s15 w.params) && laidKept (boot_heap w.params) (h_s15 w.params)) = true := by kernel_rfl
theorem look_k (w : World) : kas.map (h_s15 w.params).get? = (kf w.params).map fun p => some p.2 := by kernel_rfl
end Mine
end
-- text HL2
section
open PySem PySem.W PySem.Calls PyProof.Rows
set_option maxRecDepth 100000
set_option maxHeartbeats 0
namespace Mine
noncomputable def sE (w : World) (os : OsState) : Shared := ⟨h_s15 w.params, #[], boot_drawn, 2315, os⟩
noncomputable abbrev xt : Shared → Bool := fun s => xlAt qv [] s && recOk (RowW.records (OpenRow.toRowW PySem.Challenge.rw_tp0031_01.row)) s
noncomputable def rise : Nat → List (PyData × PyData) → Bool
  | _, [] => true
  | n, (.int (.ofNat k), _) :: D => Nat.ble n k && rise (k + 1) D
  | _, _ => false
theorem rise_has : ∀ (D : List (PyData × PyData)) (n k : Nat), rise n D = true → k < n → hasIntKey (k : Int) D = false
  | [], _, _, _, _ => rfl
  | (.int (.ofNat j), _) :: D, n, k, h, hk => by
    simp only [rise, Bool.and_eq_true, Nat.ble_eq] at h
    simp only [hasIntKey, Bool.or_eq_false_iff, beq_eq_false_iff_ne]
    refine ⟨fun e => ?_, rise_has D (j + 1) k h.2 (by omega)⟩
    have : j = k := Int.ofNat.inj e
    omega
  | (.int (.negSucc _), _) :: _, _, _, h, _ => by simp [rise] at h
  | (.none, _) :: _, _, _, h, _ | (.bool _, _) :: _, _, _, h, _ | (.str _, _) :: _, _, _, h, _ | (.list _, _) :: _, _, _, h, _ | (.tuple _, _) :: _, _, _, h, _ | (.dict _, _) :: _, _, _, h, _ => by simp [rise] at h
theorem rise_apart : ∀ (D : List (PyData × PyData)) (n : Nat), rise n D = true → keysApartInt D = true
  | [], _, _ => rfl
  | (.int (.ofNat j), _) :: D, n, h => by
    simp only [rise, Bool.and_eq_true, Nat.ble_eq] at h
    simp only [keysApartInt, Bool.and_eq_true, Bool.not_eq_true']
    exact ⟨rise_has D (j + 1) j h.2 (by omega), rise_apart D _ h.2⟩
  | (.int (.negSucc _), _) :: _, _, h => by simp [rise] at h
  | (.none, _) :: _, _, h | (.bool _, _) :: _, _, h | (.str _, _) :: _, _, h | (.list _, _) :: _, _, h | (.tuple _, _) :: _, _, h | (.dict _, _) :: _, _, h => by simp [rise] at h
noncomputable def tabRise (h : Heap) (name : Str) (D : List (PyData × PyData)) : Bool :=
  match h.nsMap mainGlobals name with
  | some (.ref a) => (match h.get? a with
    | some o => (match o.cls, o.dict, o.data with
      | .type n, none, .dict es _ => (n == "dict") && (o.slots.size == 0) && entriesAreInt es.toList D && rise 0 D && (a != sysModules)
      | _, _, _ => false)
    | none => false)
  | _ => false
theorem tab_of_rise {h : Heap} {name : Str} {D : List (PyData × PyData)} (x : tabRise h name D = true) : h.tabIntOk name D = true := by
  unfold tabRise at x
  unfold Heap.tabIntOk
  split at x
  · rename_i a hb
    split at x
    · rename_i o ho
      split at x
      · rename_i n es ep hc hd hdat
        simp only [hb, ho, hc, hd, hdat]
        simp only [Bool.and_eq_true] at x ⊢
        obtain ⟨⟨⟨⟨a, b⟩, c⟩, d⟩, e⟩ := x
        exact ⟨⟨⟨⟨a, b⟩, c⟩, rise_apart D 0 d⟩, e⟩
      · cases x
    · cases x
  · cases x
noncomputable def tablesRise (p : Program) (h : Heap) : Bool := (valNames p).all fun x =>
  (match tupIntsOf p x with | some ns => h.tupIntsOk x ns | none => true) &&
  (match tupStrsOf p x with | some ss => h.tupStrsOk x ss | none => true) &&
  (match tabIntOf p x with | some D => tabRise h x D | none => true)
theorem tables_of_rise {p : Program} {h : Heap} (x : tablesRise p h = true) : tablesOk p h = true := by
  unfold tablesRise at x
  unfold tablesOk
  refine List.all_eq_true.mpr fun y hy => ?_
  have := List.all_eq_true.mp x y hy
  simp only [Bool.and_eq_true] at this ⊢
  refine ⟨this.1, ?_⟩
  have h2 := this.2
  cases e : tabIntOf p y with
  | none => rfl
  | some D => rw [e] at h2; exact tab_of_rise h2
theorem t5 (w : World) (os : OsState) : tablesOk qv (sE w os).heap = true := tables_of_rise (by kernel_rfl)
theorem look_1 (w : World) (os : OsState) : ((sE w os).heap.keysOk (looseW qv lz) ((recsOf qv).map (·.name)) ((litsOf qv).map (·.1)) ((clssOf qv (looseW qv lz)).map (·.name)) && (sE w os).heap.accountedOkI (importedModules pw.main.body) && (sE w os).heap.isNs mainGlobals && (sE w os).heap.isNs builtinsNs) = true := by kernel_rfl
theorem look_2 (w : World) (os : OsState) : (xt (sE w os) && (if true = true then (sE w os).gens.size == 0 else !leftWithCleanup (sE w os).gens)) = true := by kernel_rfl
theorem and_all {a b c d e : Bool} (h1 : a = true) (h2 : b = true) (h3 : (c && d) = true) (e' : e = (a && b && c && d)) : e = true := by
  subst e' h1 h2
  simpa using h3
theorem look_3 (w : World) (os : OsState) : ((sE w os).heap.keysOk (looseW qv lz) ((recsOf qv).map (·.name)) ((litsOf qv).map (·.1)) ((clssOf qv (looseW qv lz)).map (·.name)) && (sE w os).heap.accountedOkI (importedModules pw.main.body) && (sE w os).heap.isNs mainGlobals && (sE w os).heap.isNs builtinsNs && tablesOk qv (sE w os).heap && xt (sE w os) && (if true = true then (sE w os).gens.size == 0 else !leftWithCleanup (sE w os).gens)) = true :=
  and_all (look_1 w os) (t5 w os) (look_2 w os) rfl
theorem look_4 (w : World) (os : OsState) : (seen ((recsOf qv).map (·.name)) (ownsOf qv) [] { (sE w os) with gens := #[] }, (sE w os).heap.bltView) = (expectedOf qv, bltViewBooted) := by kernel_rfl
theorem look_5 (w : World) (os : OsState) : (tabsOk qv (sE w os), pinSeenD qv (drecsOf qv) (sE w os), plainSeenE qv (looseW qv lz) (sE w os), plainSeenD qv lz (sE w os), wideSeen qv (sE w os), clsSeenW qv lz (sE w os)) = (true, pinGoodD (drecsOf qv), plainGoodE qv (looseW qv lz), plainGoodD qv lz, wideGood qv, clsGoodW qv lz) := by kernel_rfl
theorem join3 {α β γ δ : Type _} {a a' : α} {b b' : β} {c c' : γ} {d d' : δ} (h1 : (a, b) = (a', b')) (h2 : c = c') (h3 : d = d') : (a, b, c, d) = (a', b', c', d') := by
  cases h1; cases h2; cases h3; rfl
theorem look_o (w : World) (os : OsState) : openSeen qv lz (importedModules pw.main.body) xt true (sE w os) = openGood qv lz :=
  join3 (look_4 w os) (look_3 w os) (look_5 w os)
end Mine
end
-- text HA3
section
open PySem PySem.W PySem.Calls PyProof.Rows
set_option maxRecDepth 100000
set_option maxHeartbeats 0
namespace Mine
noncomputable abbrev segBP (w : World) : Prop := ∀ (os : OsState), segRun treeTable pw w 11 (some (.ref 6)) 1 999 ⟨h_s5 w.params, #[], boot_drawn, 240, os⟩ (piecesOf ((bd.drop 6).take 1) env0 cd0 ⟨53, 0, 53, 8⟩ B0) =
    some (.next, ⟨h_s6 w.params, #[], boot_drawn, 300, os⟩, cd0, ⟨54, 0, 54, 6⟩)
theorem segB1 (w : World) : segBP ((w.withFollow "special-get-raises" false).withFollow "set-order" false) := by
  intro os
  rw [PySem.W.Fast.te14374325043358763698, PySem.W.Fast.te14364793385576792824]
  kernel_rfl
theorem segB2 (w : World) : segBP ((w.withFollow "special-get-raises" true).withFollow "set-order" false) := by
  intro os
  rw [PySem.W.Fast.te14374325043358763698, PySem.W.Fast.te14364793385576792824]
  kernel_rfl
theorem segB3 (w : World) : segBP ((w.withFollow "special-get-raises" false).withFollow "set-order" true) := by
  intro os
  rw [PySem.W.Fast.te14374325043358763698, PySem.W.Fast.te14364793385576792824]
  kernel_rfl
theorem segB4 (w : World) : segBP ((w.withFollow "special-get-raises" true).withFollow "set-order" true) := by
  intro os
  rw [PySem.W.Fast.te14374325043358763698, PySem.W.Fast.te14364793385576792824]
  kernel_rfl
theorem segB (w : World) : segBP w :=
  byRow2 "set-order" (P := segBP) (fun w => byRow2 "special-get-raises" (P := fun w => segBP (w.withFollow "set-order" false)) segB1 segB2 w)
    (fun w => byRow2 "special-get-raises" (P := fun w => segBP (w.withFollow "set-order" true)) segB3 segB4 w) w
end Mine
end
-- text HL3
section
open PySem PySem.W PySem.Calls PyProof.Rows
set_option maxRecDepth 100000
set_option maxHeartbeats 0
namespace Mine
theorem bd_split : bd = bd.take 6 ++ ((bd.drop 6).take 1 ++ ((bd.drop 7).take 1 ++ ((bd.drop 8).take 1 ++ (bd.drop 9 ++ [])))) := by kernel_rfl
theorem top_go (w : World) (os : OsState) : topRun treeTable pw w 11 (some (.ref 6)) (12 + (1 + (141 + (999 + (30 + (12525 + (193 + 2))))))) ⟨boot_heap w.params, #[], boot_drawn, boot_toks, os⟩ (topStub pw) = some ⟨h_s15 w.params, #[], boot_drawn, 2315, os⟩ := by
  refine go_top (pre_go w os) ?_
  show topRun _ _ _ _ _ _ _ ⟨denote treeTable (.body bd env0), cd0, fp0, [topFrame fp0]⟩ = _
  refine piece_block (blk_go w os) ?_
  have e : restOf bd env0 cd0 fp0 [topFrame fp0] = restOf (bd.take 6 ++ ((bd.drop 6).take 1 ++ ((bd.drop 7).take 1 ++ ((bd.drop 8).take 1 ++ (bd.drop 9 ++ []))))) env0 cd0 fp0 [topFrame fp0] := congrArg (fun l => restOf l env0 cd0 fp0 [topFrame fp0]) bd_split
  rw [e]
  exact piece_app (segA w os) (piece_app (segB w os) (piece_app (segC w os) (piece_app (segD w os) (piece_app (segE w os) (piece_nil (fin_go w os))))))
theorem open_it : ∀ w : World, (fencedOpening treeTable pw w 30000).map (fun s => (s.heap, s.gens, s.drawn, s.toks)) = some (boot_heap w.params, Array.mk [], boot_drawn, boot_toks) :=
  boot_open (by kernel_rfl) (by decide) (fun s => by kernel_rfl)
noncomputable abbrev ya : World → List (Option Obj) := fun w => (kf w.params).map fun p => some p.2
noncomputable abbrev yf : Shared → List (Option Obj) := fun s => kas.map s.heap.get?
theorem left : LeftO pw qv lz xt yf ya 30000 := by
  refine LeftO.of_pieces (H₀ := boot_heap) (H₁ := h_s15) (gs₀ := #[]) (gs₁ := #[]) (d₀ := boot_drawn) (d₁ := boot_drawn) (k₀ := boot_toks) (k₁ := 2315) (m₀ := 11) (ann := some (.ref 6)) open_it (fun w => by kernel_rfl) top_go (by decide) fun w => ?_
  refine funext fun os => Prod.ext ?_ (Prod.ext (look_o w os) (look_k w))
  have := look_st w
  simp only [Bool.and_eq_true] at this ⊢
  exact ⟨⟨⟨this.1.1, this.1.2⟩, by kernel_rfl⟩, this.2⟩
end Mine
end
-- text W2
section
open PySem PySem.W PySem.Calls PyProof.Rows
set_option maxRecDepth 100000
set_option maxHeartbeats 8000000
namespace Mine
noncomputable abbrev Meets1 (w : World) (lv : Nat) (f : Addr) (args : List Value) (Ret : Value → List (Addr × Obj) → Prop) : Prop :=
  ∀ (mean : ExcName → Option Value) (mg mb : Str → Option Value) (dp un : Nat) (gd : Option (List Code)) (cn : Str) (cs : Scope) (a : Addr) (ccd : Value) (cl : List (Str × Addr)) (outer : List Env) (A₀ : Around) (base h₀ : Heap) (L : Addr) (m : Str → Option Value) (news : List (Addr × Obj)) (s : Shared) (Q E : Value → Shared → Prop),
    Below A₀ base outer h₀ → Fr h₀ L s.heap m → (kf w.params).In h₀ → News h₀ L s.heap news → Top qv (looseW qv lz) mean mg mb h₀ → cs.kind = .function → dp + lv < recursionLimit → un + 10 * lv < cLine →
    (∀ v tl h' tk', Fr h₀ L h' m → News h₀ L h' (tl ++ news) → Ret v tl → Q v { s with heap := h', toks := tk' }) →
    wpAny (model PySem.Challenge.rw_tp0031_01.prog w) (ktrTop dp un gd cn cs L a ccd cl outer) (call (.ref f) args) Q E s
-- the set b1_set and the table b3_exceptions, as the heap bears them
noncomputable def elemsB (es : List (Int × Value)) : Bool := es.all fun e => match e.2 with | .int k _ => e.1 == hashInt k | _ => false
theorem elems_of {prog : Program} {w : World} {es : List (Int × Value)} (h : elemsB es = true) : ElemsOf (intKind prog w) es := fun e he => by
  have := List.all_eq_true.mp h e he
  obtain ⟨x, v⟩ := e
  cases v with
  | int k t => exact ⟨⟨k, by simp [intKind, Value.isInt], eq_of_beq this⟩, rfl⟩
  | _ => cases this
noncomputable def memB (es : List (Int × Value)) (k : Int) : Bool := es.any fun e => Value.isInt k e.2
theorem set43 {prog : Program} {w : World} {h : Heap} (X : (kf w.params).In h) : h.SetOf (intKind prog w) 43 (fun k => memB (match (o43s6 w.params).data with | .set es _ _ => es.toList | _ => []) k) 27 := by
  refine ⟨o43s6 w.params, _, _, _, X 43 _ (by kernel_rfl), ⟨rfl, rfl, rfl⟩, rfl, elems_of (by kernel_rfl), fun k => ?_, by decide, by kernel_rfl, rfl⟩
  simp only [memB, List.any_eq_true]
  exact Iff.rfl
theorem ents_keys {prog : Program} {w : World} : ∀ (l : List Row) (t : Nat), ∀ e ∈ ents t l, ∃ k, (intKind prog w).is k e.key = true ∧ e.hash = (intKind prog w).hash k
  | [], _, _, h => nomatch h
  | x :: r, t, e, h => by
    rcases List.mem_cons.mp h with rfl | h
    · exact ⟨x.1, by simp [intKind, Value.isInt], rfl⟩
    · exact ents_keys r _ e h
theorem ents2_keys {prog : Program} {w : World} : ∀ (l : List Row) (t : Nat), ∀ e ∈ ents2 t l, ∃ k, (intKind prog w).is k e.key = true ∧ e.hash = (intKind prog w).hash k
  | [], _, _, h => nomatch h
  | x :: r, t, e, h => by
    rcases List.mem_cons.mp h with rfl | h
    · exact ⟨x.1, by simp [intKind, Value.isInt], rfl⟩
    · exact ents2_keys r _ e h
noncomputable def b3 (c : Int) : Option Value := findBy Value.isInt ⟨mainE⟩ c
theorem map54 {prog : Program} {w : World} {h : Heap} (X : (kf w.params).In h) : h.MapOf (intKind prog w) 54 b3 := by
  refine ⟨dob mainE 650, ⟨mainE⟩, 650, X 54 _ (by kernel_rfl), ⟨rfl, rfl, rfl⟩, rfl, fun e he => ?_, fun k => rfl⟩
  have he' : e ∈ mainE := by simpa using he
  unfold mainE at he'
  rcases List.mem_append.mp he' with he' | he'
  · rcases List.mem_append.mp he' with he' | he'
    · exact ents_keys _ _ e he'
    · exact ents_keys _ _ e he'
  · exact ents2_keys _ _ e he'
-- the signs: what each tells
noncomputable def alpha : List Nat := [107, 109, 98, 75, 77, 66, 13262, 13190, 13189, 120182, 120184, 120173, 120234, 120236, 120225, 120286, 120288, 120277, 120338, 120340, 120329, 120390, 120392, 120381, 120442, 120444, 120433]
noncomputable def tellL (c : Nat) : List Nat := if c = 13262 then [107, 109] else if c = 13190 then [109, 98] else if c = 13189 then [107, 98] else
  if c ∈ [107, 75, 120182, 120234, 120286, 120338, 120390, 120442] then [107] else if c ∈ [109, 77, 120184, 120236, 120288, 120340, 120392, 120444] then [109] else [98]
noncomputable def tellS (c : Nat) : Str := ⟨⟨tellL c⟩⟩
theorem find_ents (c : Nat) : ∀ (l : List Row) (t : Nat), ∃ u, ((ents t l).find? fun e => Value.isInt (c : Int) e.key).map (·.val) = (l.find? fun x => Nat.beq x.1 c).map fun x => Value.str x.2 u
  | [], _ => ⟨0, rfl⟩
  | x :: r, t => by
    unfold ents
    rw [List.find?_cons, List.find?_cons]
    cases h : Nat.beq x.1 c with
    | true =>
      have := Nat.eq_of_beq_eq_true h
      exact ⟨t + 1, by simp [Value.isInt, this]⟩
    | false =>
      have := Nat.ne_of_beq_eq_false h
      obtain ⟨u, hu⟩ := find_ents c r (t + 3)
      refine ⟨u, ?_⟩
      rw [← hu]
      have hc : Value.isInt (c : Int) (Value.int (x.1 : Int) t) = false := by
        simp only [Value.isInt, beq_eq_false_iff_ne]; omega
      simp only [hc]
theorem find_ents2 (c : Nat) : ∀ (l : List Row) (t : Nat), ∃ u, ((ents2 t l).find? fun e => Value.isInt (c : Int) e.key).map (·.val) = (l.find? fun x => Nat.beq x.1 c).map fun x => Value.str x.2 u
  | [], _ => ⟨0, rfl⟩
  | x :: r, t => by
    unfold ents2
    rw [List.find?_cons, List.find?_cons]
    cases h : Nat.beq x.1 c with
    | true =>
      have := Nat.eq_of_beq_eq_true h
      exact ⟨t + 1, by simp [Value.isInt, this]⟩
    | false =>
      have := Nat.ne_of_beq_eq_false h
      obtain ⟨u, hu⟩ := find_ents2 c r (t + 2)
      refine ⟨u, ?_⟩
      rw [← hu]
      have hc : Value.isInt (c : Int) (Value.int (x.1 : Int) t) = false := by
        simp only [Value.isInt, beq_eq_false_iff_ne]; omega
      simp only [hc]
theorem b3_rows (c : Nat) : ∃ u, b3 (c : Int) = (rows.find? fun x => Nat.beq x.1 c).map fun x => Value.str x.2 u := by
  unfold b3 findBy mainE
  rw [List.find?_toArray, List.find?_append, List.find?_append, rows_split, List.find?_append, List.find?_append]
  obtain ⟨u1, h1⟩ := find_ents c c0 307
  obtain ⟨u2, h2⟩ := find_ents c cs.flatten 358
  obtain ⟨u3, h3⟩ := find_ents2 c last 2245
  cases e1 : c0.find? (fun x => Nat.beq x.1 c) with
  | some x =>
    rw [e1] at h1
    refine ⟨u1, ?_⟩
    cases e : (ents 307 c0).find? (fun e => Value.isInt (c : Int) e.key) with
    | none => rw [e] at h1; cases h1
    | some y => rw [e] at h1; simpa using h1
  | none =>
    rw [e1] at h1
    have e : (ents 307 c0).find? (fun e => Value.isInt (c : Int) e.key) = none := by simpa using h1
    rw [e]
    simp only [Option.none_or]
    cases e2 : cs.flatten.find? (fun x => Nat.beq x.1 c) with
    | some x =>
      rw [e2] at h2
      refine ⟨u2, ?_⟩
      cases e : (ents 358 cs.flatten).find? (fun e => Value.isInt (c : Int) e.key) with
      | none => rw [e] at h2; cases h2
      | some y => rw [e] at h2; simpa using h2
    | none =>
      rw [e2] at h2
      have e : (ents 358 cs.flatten).find? (fun e => Value.isInt (c : Int) e.key) = none := by simpa using h2
      rw [e]
      simp only [Option.none_or]
      exact ⟨u3, h3⟩
theorem b3_alpha : ∀ c ∈ alpha, (∃ t, b3 (c : Int) = some (.str (tellS c) t)) ∨ (b3 (c : Int) = none ∧ c ∈ [107, 109, 98, 75, 77, 66]) := by
  have : (alpha.all fun c => match rows.find? fun x => Nat.beq x.1 c with
    | some x => x.2 == tellS c
    | none => [107, 109, 98, 75, 77, 66].contains c) = true := by kernel_rfl
  intro c hc
  have := List.all_eq_true.mp this c hc
  obtain ⟨u, hu⟩ := b3_rows c
  revert this hu
  cases rows.find? (fun x => Nat.beq x.1 c) with
  | none => intro h hu; exact .inr ⟨hu, by simpa using h⟩
  | some x => intro h hu; exact .inl ⟨u, by rw [hu, Option.map_some, eq_of_beq h]⟩
noncomputable def inB (w : World) (c : Nat) : Bool := memB (match (o43s6 w.params).data with | .set es _ _ => es.toList | _ => []) (c : Int)
end Mine
end
-- text W4
section
open PySem PySem.W PySem.Calls PyProof.Rows
set_option maxRecDepth 100000
set_option maxHeartbeats 8000000
namespace Mine
theorem fr2 {g h : Heap} {L : Addr} {M : Str → Option Value} (n1 n2 : Str) {v1 v2 : Value} (F : Fr g L h M) (h1 : M n1 = some v1) (h2 : M n2 = some v2) :
    ∃ rest : Str → Option Value, Fr g L h (fun y => if y = n1 then some v1 else if y = n2 then some v2 else rest y) := by
  refine ⟨M, ?_⟩
  have : (fun y => if y = n1 then some v1 else if y = n2 then some v2 else M y) = M := by
    funext y
    by_cases e1 : y = n1
    · rw [if_pos e1, e1, h1]
    rw [if_neg e1]
    by_cases e2 : y = n2
    · rw [if_pos e2, e2, h2]
    rw [if_neg e2]
  rw [this]; exact F
theorem fr3 {g h : Heap} {L : Addr} {M : Str → Option Value} (n1 n2 n3 : Str) {v1 v2 v3 : Value} (F : Fr g L h M) (h1 : M n1 = some v1) (h2 : M n2 = some v2) (h3 : M n3 = some v3) :
    ∃ rest : Str → Option Value, Fr g L h (fun y => if y = n1 then some v1 else if y = n2 then some v2 else if y = n3 then some v3 else rest y) := by
  refine ⟨M, ?_⟩
  have : (fun y => if y = n1 then some v1 else if y = n2 then some v2 else if y = n3 then some v3 else M y) = M := by
    funext y
    by_cases e1 : y = n1
    · rw [if_pos e1, e1, h1]
    rw [if_neg e1]
    by_cases e2 : y = n2
    · rw [if_pos e2, e2, h2]
    rw [if_neg e2]
    by_cases e3 : y = n3
    · rw [if_pos e3, e3, h3]
    rw [if_neg e3]
  rw [this]; exact F
noncomputable def TurnEnd (I : Nat → Shared → Prop) (R : Result → Shared → Prop) (n : Nat) (f : Flow) (s : Shared) : Prop := match f with
  | .next | .cont => ∃ m, m < n ∧ I m s
  | .brk => R (.ok .next) s
  | .ret v => R (.ok (.ret v)) s
theorem while_by {prog : Program} {w : World} {A : Around} {R : Result → Shared → Prop} {s : Shared} {test : PySem.Expr} {body orelse : List Stmt} {env : Env} (I : Nat → Shared → Prop)
    (turn : ∀ n s, I n s → wpAny (model prog w) A (isTrue test env (eval test env)) (fun b s₂ =>
        if b then wpAny (model prog w) A (execs body env) (TurnEnd I R n) (notedBy (model prog w) A env fun e s' => R (.error e) s') s₂
        else wpAny (model prog w) A (execs orelse env) (fun f s₃ => R (.ok f) s₃) (notedBy (model prog w) A env fun e s' => R (.error e) s') s₂)
        (notedBy (model prog w) A env fun e s' => R (.error e) s') s)
    (n : Nat) (h : I n s) : codeAny (model prog w) A (.whileLoop test body orelse env) R s := by
  refine codeAny_whileLoop I (fun n s hI => wpAny_mono (turn n s hI) (fun b s₂ hb => ?_) fun _ _ x => x) n h
  cases b with
  | false => exact hb
  | true => exact wpAny_mono hb (fun f s₃ hf => by cases f <;> exact hf) fun _ _ x => x
theorem picked16 : ∀ m : Nat, m < 16 → KBy.picked #[65, 66, 67, 68, 69, 70, 71, 72, 73, 74, 75, 76, 77, 78, 79, 80] (some (m : Int)) (some ((m : Int) + 1)) = #[(65 + m).toUInt8] := by
  intro m hm
  have : (List.range 16).all (fun m => KBy.picked #[65, 66, 67, 68, 69, 70, 71, 72, 73, 74, 75, 76, 77, 78, 79, 80] (some (m : Int)) (some ((m : Int) + 1)) == #[(65 + m).toUInt8]) = true := by decide +kernel
  exact eq_of_beq (List.all_eq_true.mp this m (List.mem_range.mpr hm))
noncomputable def apGo (k : Nat) (acc : List UInt8) : List UInt8 := if h : k = 0 then acc else apGo (k / 16) ((65 + (k % 16)).toUInt8 :: acc)
termination_by k
decreasing_by omega
theorem ap_call : ∀ (w : World) (k : Nat) (t1 : Tok), k < 2 ^ 20 → Meets1 w 2 35 [.int (k : Int) t1] (fun v tl => tl = [] ∧ ∃ t, v = .bytes ⟨apGo k []⟩ t) := by
  unfold Meets1
  k_fill
  intro w k t1 hk0 mean mg mb dp un gd cn cs a ccd cl outer A₀ base h₀ L m news s Q E B F X N T hk hdp hun ret
  refine wpAny_call ?_
  k_dflt ktr_enter
  (k_with "exec While Name cons nil" => refine wpAny_While ?_)
  k_steps
  rename News _ _ _ _ => N1
  rename Fr _ _ _ _ => F1
  rw [if_neg (by omega)] at F1
  obtain ⟨rest0, F2⟩ := fr3 (Str.ofString "num") (Str.ofString "val") (Str.ofString "AP") F1 rfl rfl rfl
  rename Heap => hx
  clear F1
  refine while_by (fun n s' => ∃ (j : Nat) (acc : List UInt8) (h' : Heap) (tk : Nat) (u t2 t3 : Tok) (rest : Str → Option Value), s' = { s with heap := h', toks := tk } ∧
      Fr _ _ h' (fun y => if y = Str.ofString "num" then some (.int (j : Int) u) else if y = Str.ofString "val" then some (.bytes ⟨acc⟩ t2) else if y = Str.ofString "AP" then some (.bytes #[65, 66, 67, 68, 69, 70, 71, 72, 73, 74, 75, 76, 77, 78, 79, 80] t3) else rest y) ∧ News _ _ h' news ∧
      n = j ∧ apGo j acc = apGo k [] ∧ acc.length + j ≤ k) ?_ k ⟨k, [], _, _, _, _, _, rest0, rfl, F2, N1, rfl, rfl, by simp⟩
  rintro n s' ⟨j, acc, h', tk', u, t2, t3, rest, rfl, F3, N3, rfl, he, hle⟩
  k_steps
  · rename News _ _ _ _ => N4
    rename Fr _ _ _ _ => F4
    refine KBc.slice_K (s := ⟨_, _, _, _, _⟩) F4 N4 (ks := [65, 66, 67, 68, 69, 70, 71, 72, 73, 74, 75, 76, 77, 78, 79, 80]) rfl (by constructor) (by constructor) (by decide) ?_
    intro h5 t5 tk5 F5 N5 _
    have e1 : ((n : Int).fmod 16) = ((n % 16 : Nat) : Int) := by rw [Int.fmod_eq_emod_of_nonneg _ (by decide)]; rfl
    rw [e1, picked16 _ (Nat.mod_lt _ (by decide))]
    k_steps
    refine KBy.add_bytes (by simp; omega) ?_
    intro t6 tk6
    k_steps
    rename News _ _ _ _ => N7
    rename Fr _ _ _ _ => F7
    obtain ⟨rest7, F8⟩ := fr3 (Str.ofString "num") (Str.ofString "val") (Str.ofString "AP") F7 rfl rfl rfl
    have e2 : (n : Int).fdiv 16 = ((n / 16 : Nat) : Int) := by rw [Int.fdiv_eq_ediv_of_nonneg _ (by decide)]; rfl
    rw [e2, show (#[(65 + n % 16).toUInt8] ++ (⟨acc⟩ : Array UInt8)) = ⟨(65 + n % 16).toUInt8 :: acc⟩ from by simp] at F8
    have hn0 : n ≠ 0 := by omega
    have he' := he
    rw [apGo, dif_neg hn0] at he'
    exact ⟨n / 16, by omega, n / 16, (65 + n % 16).toUInt8 :: acc, _, _, _, _, _, _, rfl, F8, fun p hp => N7 p (List.mem_cons_of_mem _ hp), rfl, he', by simp only [List.length_cons]; omega⟩
  · have hn0 : n = 0 := by omega
    subst hn0
    rw [apGo, dif_pos rfl] at he
    subst he
    exact ret _ [] _ _ (by k_asm) (by k_asm) ⟨rfl, _, rfl⟩
end Mine
end
-- text W5
section
open PySem PySem.W PySem.Calls PyProof.Rows
set_option maxRecDepth 100000
set_option maxHeartbeats 8000000
namespace Mine
noncomputable def ForEnd (J : Nat → Shared → Prop) (St : Nat → Heap → Prop) (R : Result → Shared → Prop) (i : Nat) (f : Flow) (s : Shared) : Prop := match f with
  | .next | .cont => J (i + 1) s ∧ St (i + 1) s.heap
  | .brk => R (.ok .next) s
  | .ret v => R (.ok (.ret v)) s
theorem for_by {prog : Program} {w : World} {A : Around} {R : Result → Shared → Prop} {s : Shared} {target : PySem.Expr} {I : Addr} {body : List Stmt} {env : Env} {fp wr : List Addr} {n : Nat} {P : Nat → Value → Prop} {St : Nat → Heap → Prop}
    (W : Walks prog w A I fp wr n P St) (J : Nat → Shared → Prop) (h0 : J 0 s) (st0 : St 0 s.heap)
    (turn : ∀ i v s h' tk, i < n → J i s → P i v → St (i + 1) h' → (∀ b o, b ∉ wr → s.heap.get? b = some o → h'.get? b = some o) →
      wpAny (model prog w) A (assign target env v) (fun _ s₂ => wpAny (model prog w) A (execs body env) (ForEnd J St R i) (notedBy (model prog w) A env fun e s' => R (.error e) s') s₂) (notedBy (model prog w) A env fun e s' => R (.error e) s') { s with heap := h', toks := tk })
    (done : ∀ s h' tk, J n s → (∀ b o, b ∉ wr → s.heap.get? b = some o → h'.get? b = some o) → R (.ok .next) { s with heap := h', toks := tk })
    (ht : ∀ v, letOwnedTupleGo target (.ref I) v = pure () := by intro _; rfl) : codeAny (model prog w) A (.forLoop target (.ref I) body [] env) R s := by
  refine codeAny_forLoop (fun k s' => ∃ i, i ≤ n ∧ k = n - i ∧ J i s' ∧ St i s'.heap) ?_ n ⟨0, Nat.zero_le _, rfl, h0, st0⟩ ht
  rintro k s' ⟨i, hi, rfl, hJ, hst⟩
  by_cases hlt : i < n
  · refine W.item i _ _ _ hlt hst fun v h' tk hP hst' hk => ?_
    refine wpAny_mono (turn i v s' h' tk hlt hJ hP hst' hk) (fun _ s₂ h₂ => wpAny_mono h₂ (fun f s₃ h₃ => ?_) fun _ _ x => x) fun _ _ x => x
    cases f with
    | next => exact ⟨n - (i + 1), by omega, i + 1, hlt, rfl, h₃.1, h₃.2⟩
    | cont => exact ⟨n - (i + 1), by omega, i + 1, hlt, rfl, h₃.1, h₃.2⟩
    | brk => exact h₃
    | ret v => exact h₃
  · have : i = n := by omega
    subst this
    refine W.done _ _ _ hst fun h' tk hk => wpAny_execs_nil ?_
    exact done s' h' tk hJ hk
theorem fr_but {g h h' : Heap} {L I : Addr} {m : Str → Option Value} (F : Fr g L h m) (hI : g.get? I = none) (hL : L ≠ I) (hk : ∀ b o, b ∉ [I] → h.get? b = some o → h'.get? b = some o) : Fr g L h' m :=
  ⟨F.ns.at' fun o e => hk _ o (by simpa using hL) e, fun b o e => hk b o (by simp only [List.mem_singleton]; rintro rfl; rw [hI] at e; cases e) (F.keep b o e), F.above⟩
theorem news_but {g h h' : Heap} {L I : Addr} {news : List (Addr × Obj)} (N : News g L h news) (hn : ∀ p ∈ news, p.1 ≠ I) (hk : ∀ b o, b ∉ [I] → h.get? b = some o → h'.get? b = some o) : News g L h' news :=
  fun p hp => ⟨hk _ _ (by simpa using hn p hp) (N p hp).1, (N p hp).2⟩
theorem new_addr {g h : Heap} {L : Addr} {m : Str → Option Value} {news : List (Addr × Obj)} (F : Fr g L h m) (N : News g L h news) : g.get? h.objs.size = none ∧ L ≠ h.objs.size ∧ ∀ p ∈ news, p.1 ≠ h.objs.size := by
  obtain ⟨oL, _, _, hL, _⟩ := F.ns
  refine ⟨?_, Nat.ne_of_lt (Heap.lt_size hL), fun p hp => Nat.ne_of_lt (Heap.lt_size (N p hp).1)⟩
  cases hq : g.get? h.objs.size with
  | none => rfl
  | some o => exact absurd (Heap.lt_size (F.keep _ _ hq)) (Nat.lt_irrefl _)
section
variable {w : World} {lv : Nat} {f : Addr} {args : List Value} {Ret : Value → List (Addr × Obj) → Prop} {mean : ExcName → Option Value} {mg mb : Str → Option Value} {dp un : Nat} {gd : Option (List Code)} {cn : Str} {cs : Scope} {a : Addr} {ccd : Value} {cl : List (Str × Addr)} {outer : List Env} {A₀ : Around} {base h₀ : Heap} {L : Addr} {m : Str → Option Value} {news : List (Addr × Obj)} {s : Shared} {Q E : Value → Shared → Prop}
theorem meets_use (C : Meets1 w lv f args Ret) (B : Below A₀ base outer h₀) (F : Fr h₀ L s.heap m) (X : (kf w.params).In h₀) (N : News h₀ L s.heap news) (T : Top qv (looseW qv lz) mean mg mb h₀) (hk : cs.kind = .function) (hd : dp + lv < recursionLimit) (hu : un + 10 * lv < cLine)
    (ret : ∀ v tl h' tk', Fr h₀ L h' m → News h₀ L h' (tl ++ news) → Ret v tl → Q v { s with heap := h', toks := tk' }) :
    wpAny (model PySem.Challenge.rw_tp0031_01.prog w) (ktrTop dp un gd cn cs L a ccd cl outer) (call (.ref f) args) Q E s :=
  C _ _ _ _ _ _ _ _ _ _ _ _ _ _ _ _ _ _ _ _ _ B F X N T hk hd hu ret
end
end Mine
end
-- text W3
section
open PySem PySem.W PySem.Calls PyProof.Rows
set_option maxRecDepth 100000
set_option maxHeartbeats 8000000
namespace Mine
theorem lower_len (c : Nat) : (tellS c).length ≤ sizeLine := by
  have : (tellL c).length ≤ 2 := by unfold tellL; (repeat' split) <;> decide
  show (tellL c).length ≤ _
  rw [sizeLine_eq]; omega
end Mine
end
-- text W14
section
open PySem PySem.W PySem.Calls PyProof.Rows
set_option maxRecDepth 100000
set_option maxHeartbeats 8000000
namespace Mine
noncomputable abbrev Meets3 (w : World) (lv : Nat) (f : Addr) (args : List Value) (Ret : Value → List (Addr × Obj) → Prop) : Prop :=
  ∀ (mean : ExcName → Option Value) (mg mb : Str → Option Value) (dp un : Nat) (gd : Option (List Code)) (cn : Str) (cs : Scope) (a : Addr) (ccd : Value) (cl : List (Str × Addr)) (outer : List Env) (A₀ : Around) (base h₀ : Heap) (L : Addr) (m : Str → Option Value) (news : List (Addr × Obj)) (s : Shared) (Q E : Value → Shared → Prop),
    Below A₀ base outer h₀ → Fr h₀ L s.heap m → (kf w.params).In h₀ → News h₀ L s.heap news → Top qv (looseW qv lz) mean mg mb h₀ → cs.kind = .function → dp + lv < recursionLimit → un + 10 * lv < cLine →
    (∀ v tl h' tk', Fr h₀ L h' m → News h₀ L h' (tl ++ news) → InElt s.heap h' → Ret v tl → Q v { s with heap := h', toks := tk' }) →
    wpAny (model PySem.Challenge.rw_tp0031_01.prog w) (ktrTop dp un gd cn cs L a ccd cl outer) (call (.ref f) args) Q E s
section
variable {w : World} {lv : Nat} {f : Addr} {args : List Value} {Ret : Value → List (Addr × Obj) → Prop} {mean : ExcName → Option Value} {mg mb : Str → Option Value} {dp un : Nat} {gd : Option (List Code)} {cn : Str} {cs : Scope} {a : Addr} {ccd : Value} {cl : List (Str × Addr)} {outer : List Env} {A₀ : Around} {base h₀ : Heap} {L : Addr} {m : Str → Option Value} {news : List (Addr × Obj)} {s : Shared} {Q E : Value → Shared → Prop}
theorem meets3_use (C : Meets3 w lv f args Ret) (B : Below A₀ base outer h₀) (F : Fr h₀ L s.heap m) (X : (kf w.params).In h₀) (N : News h₀ L s.heap news) (T : Top qv (looseW qv lz) mean mg mb h₀) (hk : cs.kind = .function) (hd : dp + lv < recursionLimit) (hu : un + 10 * lv < cLine)
    (ret : ∀ v tl h' tk', Fr h₀ L h' m → News h₀ L h' (tl ++ news) → InElt s.heap h' → Ret v tl → Q v { s with heap := h', toks := tk' }) :
    wpAny (model PySem.Challenge.rw_tp0031_01.prog w) (ktrTop dp un gd cn cs L a ccd cl outer) (call (.ref f) args) Q E s :=
  C _ _ _ _ _ _ _ _ _ _ _ _ _ _ _ _ _ _ _ _ _ B F X N T hk hd hu ret
end
theorem table_callG : ∀ (w : World) (c : Nat) (t1 : Tok), c < 0x110000 → Meets3 w 2 53 [.str ⟨#[c]⟩ t1] (fun v tl => tl = [] ∧ v = .bool (inB w c)) := by
  unfold Meets3
  k_fill
  intro w c t1 hc mean mg mb dp un gd cn cs a ccd cl outer A₀ base h₀ L m news s Q E B F X N T hk hdp hun ret
  refine wpAny_call ?_
  k_dflt (refine' code_defG ?k1 ?k2 ?k3 ?k4 ?k5 ?kA ?kF ?kK ?k6 ?k7 ?k8 ?k9 ?kB ?_ ?c2 ?c3 ?c4 ?c5)
  (case kA => exact rfl)
  (case kF => exact rfl)
  (case kK => assumption)
  (case k1 => k_asm)
  (case k2 => k_asm)
  (case k3 => k_asm)
  (case k4 => k_asm)
  (case k5 => k_asm)
  (case k6 => k_is)
  (case k7 => k_is)
  (case k8 => ktr_room)
  (case k9 => exact BindsTo.of_eq rfl)
  (case c5 => decide)
  (case kB => exact locs rfl)
  (case c2 => exact rfl)
  (case c3 => exact rfl)
  (case c4 => exact rfl)
  k_whole
  have cE := InElt.start s.heap
  intro g' L' h' FG' F' N' B' X' T' kG'
  (try dsimp only)
  (try k_fold)
  k_steps
  refine wpAny_inSet_of (knd := intKind _ w) (k := (c : Int)) (by simp [intKind, Value.isInt]) rfl (set43 (by k_in)) ?_
  k_steps
  rename InElt _ _ => kE
  exact ret _ [] _ _ (by k_asm) (by k_asm) kE ⟨rfl, rfl⟩
theorem map_callG : ∀ (w : World) (c : Nat) (t1 : Tok), c ∈ alpha → Meets3 w 2 99 [.str ⟨#[c]⟩ t1] (fun v tl => tl = [] ∧ ∃ t, v = .str (tellS c) t) := by
  unfold Meets3
  k_fill
  intro w c t1 hc mean mg mb dp un gd cn cs a ccd cl outer A₀ base h₀ L m news s Q E B F X N T hk hdp hun ret
  have hc' : c < 0x110000 := by
    have : (alpha.all fun c => decide (c < 0x110000)) = true := by decide
    exact of_decide_eq_true (List.all_eq_true.mp this c hc)
  refine wpAny_call ?_
  k_dflt (refine' code_defG ?k1 ?k2 ?k3 ?k4 ?k5 ?kA ?kF ?kK ?k6 ?k7 ?k8 ?k9 ?kB ?_ ?c2 ?c3 ?c4 ?c5)
  (case kA => exact rfl)
  (case kF => exact rfl)
  (case kK => assumption)
  (case k1 => k_asm)
  (case k2 => k_asm)
  (case k3 => k_asm)
  (case k4 => k_asm)
  (case k5 => k_asm)
  (case k6 => k_is)
  (case k7 => k_is)
  (case k8 => ktr_room)
  (case k9 => exact BindsTo.of_eq rfl)
  (case c5 => decide)
  (case kB => exact locs rfl)
  (case c2 => exact rfl)
  (case c3 => exact rfl)
  (case c4 => exact rfl)
  k_whole
  have cE := InElt.start s.heap
  intro g' L' h' FG' F' N' B' X' T' kG'
  (try dsimp only)
  (try k_fold)
  k_steps
  have hd : ∀ {h : Heap}, (kf w.params).In h → h.get? 54 = some (dob mainE 650) := fun X => X 54 _ (by kernel_rfl)
  refine getMethod_builtin (T := "dict") ⟨_, hd (by k_in), rfl⟩ PySem.F.plainAttrs_dict PySem.F.slot_dict_get PySem.F.type_dict_get (fun a e => by cases e; exact ⟨_, hd (by k_in), rfl⟩) ?_
  k_steps
  refine call_meetsIn PySem.F.slot_dict_get (Heap.MapOf.typeIs (map54 (prog := PySem.Challenge.rw_tp0031_01.prog) (w := w) (by k_in))) PySem.F.entry_dict_get (PySem.F.args_dict_get_2 _ _) (meets_dict_get (knd := intKind _ w) 54 (k := (c : Int)) (by simp [intKind, Value.isInt]) (by decide)) ⟨b3, map54 (by k_in), ?_⟩
  rcases b3_alpha c hc with ⟨t, h⟩ | ⟨h, hc2⟩
  · rw [h]
    (try dsimp only [Option.getD])
    k_steps
    rename InElt _ _ => kE
    exact ret _ [] _ _ (by k_asm) (by k_asm) kE ⟨rfl, _, rfl⟩
  · rw [h]
    (try dsimp only [Option.getD])
    k_steps
    have hl : (⟨placed ⟨#[c]⟩ fun i _ => Unicode.lowerAt #[c] i⟩ : Str) = tellS c := by
      simp only [List.mem_cons, List.not_mem_nil, or_false] at hc2
      rcases hc2 with rfl | rfl | rfl | rfl | rfl | rfl <;> kernel_rfl
    have hs : Builtin.Str.tooLong (placed ⟨#[c]⟩ fun i _ => Unicode.lowerAt #[c] i).size = false := by
      have := congrArg (fun x : Str => Builtin.Str.tooLong x.cps.size) hl
      refine this.trans ?_
      simp only [List.mem_cons, List.not_mem_nil, or_false] at hc2
      rcases hc2 with rfl | rfl | rfl | rfl | rfl | rfl <;> kernel_rfl
    refine call_meets PySem.F.slot_str_lower (typeIs_str _ _ _) PySem.F.entry_str_lower (PySem.F.args_str_lower_1 _) (gives_str_lower _ _ hs).meets ?_
    refine And.intro (a := Str.length _ ≤ sizeLine) ?_ ?_
    · rw [hl]; exact lower_len c
    · k_steps
      rename InElt _ _ => kE
      exact ret _ [] _ _ (by k_asm) (by k_asm) kE ⟨rfl, _, by rw [hl]⟩
end Mine
end
-- text W15
section
open PySem PySem.Builtin PySem.Builtin.Str
namespace Mine
theorem subAt_one (l : List Nat) (c i : Nat) : subAt ⟨⟨l⟩⟩ ⟨#[c]⟩ i = (l[i]? == some c) := by
  show ((⟨l⟩ : Array Nat).extract i (i + 1) == (#[c] : Array Nat)) = _
  rw [Bool.eq_iff_iff]
  simp only [beq_iff_eq]
  constructor
  · intro h
    have h2 := congrArg (fun a : Array Nat => a[0]?) h
    simpa [Array.getElem?_extract] using h2
  · intro h
    apply Array.ext_getElem?
    intro j
    have hi : i < l.length := by
      rcases List.getElem?_eq_some_iff.mp h with ⟨hi, _⟩; exact hi
    by_cases hj : j = 0
    · subst hj; simp [h]
    · simp [hj]; omega
theorem occ_run (l : List Nat) (c : Nat) : ∀ (k i : Nat) (st : Array Nat × Nat), i + k = l.length + 1 → st.1.size ≤ i → st.2 ≤ i → st.1.size = (l.take i).count c →
    (forIn (List.range' i k) st (StrLaws.occBody ⟨⟨l⟩⟩ ⟨#[c]⟩ l.length (l.length + 1))).run.1.size = l.count c
  | 0, i, st, hi, _, _, hc => by
    show st.1.size = _
    rw [hc, List.take_of_length_le (by omega)]
  | k + 1, i, st, hi, hs, hf, hc => by
    rw [List.range'_succ, List.forIn_cons]
    unfold StrLaws.occBody
    by_cases h : i < l.length
    · have e : (l.take (i + 1)).count c = (l.take i).count c + if l[i]? = some c then 1 else 0 := by
        rw [List.take_add_one, List.count_append, List.getElem?_eq_getElem h]
        by_cases hh : l[i] = c
        · rw [if_pos (by rw [hh])]; simp [hh]
        · rw [if_neg (by simpa using hh)]
          have : List.count c [l[i]] = 0 := List.count_eq_zero.mpr (by simpa using fun h => hh h.symm)
          simpa using this
      split
      · rename_i hh
        have h2 := hh.2
        rw [subAt_one] at h2
        refine occ_run l c k (i + 1) _ (by omega) (by simp only [Array.size_push]; omega) (Nat.le_refl _) ?_
        rw [e, if_pos (by simpa using h2)]
        simp [hc]
      · rename_i hh
        refine occ_run l c k (i + 1) _ (by omega) (Nat.le_succ_of_le hs) (Nat.le_succ_of_le hf) ?_
        rw [e, if_neg ?_, hc]; · rfl
        intro h3
        apply hh
        refine ⟨⟨⟨Nat.lt_succ_of_le (Nat.le_trans hs (by omega)), hf⟩, by show i + 1 ≤ _; omega⟩, by rw [subAt_one, h3]; simp⟩
    · have hil : i = l.length := by omega
      have : k = 0 := by omega
      subst this hil
      split
      · rename_i hh
        have : l.length + 1 ≤ l.length := hh.1.2
        omega
      · show st.1.size = _
        rw [hc, List.take_length]
theorem count_one (l : List Nat) (c : Nat) : Txt.count ⟨⟨l⟩⟩ ⟨#[c]⟩ = (l.count c : Int) := by
  show (((occurrences ⟨⟨l⟩⟩ ⟨#[c]⟩ 0 l.length (l.length + 1)).length : Nat) : Int) = _
  rw [StrLaws.occ_eq, Array.length_toList]
  congr 1
  exact occ_run l c _ 0 _ (by simp) (Nat.zero_le _) (Nat.zero_le _) (by simp)
theorem join_flat : ∀ (ts : List (List Nat)), Str.join ⟨#[]⟩ (ts.map fun t => ⟨⟨t⟩⟩) = ⟨⟨ts.flatten⟩⟩
  | [] => rfl
  | [t] => by simp [Str.join]
  | t :: u :: r => by
    have ih := join_flat (u :: r)
    show (⟨⟨t⟩⟩ : Str) ++ ⟨#[]⟩ ++ Str.join ⟨#[]⟩ ((u :: r).map fun t => ⟨⟨t⟩⟩) = _
    rw [ih]
    show (⟨(⟨t⟩ : Array Nat) ++ #[] ++ ⟨(u :: r).flatten⟩⟩ : Str) = _
    simp
end Mine
end
-- text W13
section
open PySem PySem.W PySem.Calls PyProof.Rows
set_option maxRecDepth 100000
set_option maxHeartbeats 8000000
namespace Mine
section
variable {prog : Program} {w : World} {A : Around} {E : Value → Shared → Prop} {s : Shared} {h₀ : Heap} {L : Addr} {m : Str → Option Value} {env : Env}
theorem ListComp_str (_F₀ : Fr h₀ L s.heap m) {elt iter : PySem.Expr} {x : Str} {px : Pos} {ifs : List PySem.Expr} {scope : Scope} {cl : List (Str × Addr)} {pos : Pos} {Q : Value → Shared → Prop} {pz : Str → Bool} {d : Str → PyData}
    (hh : A.handled = none) (hclos : closureFor scope env = pure cl) (hcell : ∀ y ∈ scope.names, y.2 ≠ .cell) (hkind : scope.kind = .function)
    (hnames : ∀ y ∈ scope.names, y.2 = .local → scope.names.lookup y.1 = some .local) (hx : scope.names.lookup x = some .local)
    (h : wpAny (model prog w) A (eval iter env) (fun xv s₁ => ∃ (news : List (Addr × Obj)) (y : Str) (t : Tok), xv = .str y t ∧ y.length ≤ sizeLine ∧ Fr h₀ L s₁.heap m ∧ News h₀ L s₁.heap news ∧
      (∀ C a v s₂ m₂ E', s₁.heap.objs.size ≤ C → a ∈ signs y → ItemKind.str.is a v → s₂.heap.Ns (compEnvC scope cl C env).locals m₂ → m₂ x = some v → (∀ b o, s₁.heap.get? b = some o → s₂.heap.get? b = some o) →
        wpAny (model prog w) A (forIn ifs true fun c r => if r = true then do let ok ← isTrue c (compEnvC scope cl C env) (eval c (compEnvC scope cl C env)); pure (ForInStep.yield ok) else pure (ForInStep.yield r))
          (fun ok s₃ => ok = pz a ∧ Keeps s₂ s₃) E' s₂) ∧
      (∀ C a v s₂ m₂ E', s₁.heap.objs.size ≤ C → a ∈ signs y → ItemKind.str.is a v → pz a = true → s₂.heap.Ns (compEnvC scope cl C env).locals m₂ → m₂ x = some v → (∀ b o, s₁.heap.get? b = some o → s₂.heap.get? b = some o) →
        wpAny (model prog w) A (eval elt (compEnvC scope cl C env)) (fun y s₃ => Carried y (d a) ∧ Keeps s₂ s₃) E' s₂) ∧
      (∀ D (ys : List Value) h' tk, Fr h₀ L h' m → News h₀ L h' news → h₀.get? D = none → h'.IsList D ys.toArray → NewPlain h' news D ys.toArray → CarriedAll ys (((signs y).filter pz).map d) → Q (.ref D) { s₁ with heap := h', toks := tk })) E s)
    (hs : ∀ x, foldedSetIterable iter env x = pure x) :
    wpAny (model prog w) A (eval (.ListComp elt [⟨.Name x px, iter, ifs, 0⟩] scope pos) env) Q E s := by
  refine wpAny_ListComp_free (ItemKind.str.lift pz) (fun v y => ∃ a, ItemKind.str.is a v ∧ Carried y (d a)) hclos hcell hkind hnames hx (wpAny_mono h (fun xv s₁ h₁ => ?_) fun _ _ e => e) hs
  obtain ⟨news, y, t, rfl, hsz, F, N, htests, helt, hQ⟩ := h₁
  refine wpAny_pyIter_str fun o St W hst => ?_
  have up : ∀ (h' : Heap), (∀ b o', b ∉ [s₁.heap.objs.size] → (s₁.heap.push o).get? b = some o' → h'.get? b = some o') → ∀ b o', s₁.heap.get? b = some o' → h'.get? b = some o' :=
    fun h' hk b o' e => hk b o' (old_not_new e) (Heap.get?_push_of_some _ e)
  have mem : ∀ {i : Nat} {c : Nat}, y.cps[i]? = some c → (⟨#[c]⟩ : Str) ∈ signs y := fun {i c} hc => List.mem_of_getElem? (i := i) (by simp [signs, hc])
  refine ⟨s₁.heap.objs.size, [s₁.heap.objs.size], [s₁.heap.objs.size], y.cps.size, SignAt y, St, rfl, W A hh, hsz, hst, ?_, ⟨?_, ?_⟩, ?_⟩
  · intro b hb
    show b < (s₁.heap.push o).objs.size
    rw [Heap.size_push, List.mem_singleton.mp hb]
    exact Nat.lt_succ_self _
  · intro C i v s₃ m₃ E' hC hP hn hm hk _
    obtain ⟨c, u, hc, rfl⟩ := hP
    have ha : ItemKind.str.is ⟨#[c]⟩ (.str ⟨#[c]⟩ u) := ⟨u, rfl⟩
    rw [ItemKind.lift_is ha]
    exact htests C _ _ s₃ m₃ E' (Nat.le_of_succ_le (by simpa [Heap.size_push] using hC)) (mem hc) ha hn hm (up _ hk)
  · intro C i v s₃ m₃ E' hC hP hp hn hm hk _
    obtain ⟨c, u, hc, rfl⟩ := hP
    have ha : ItemKind.str.is ⟨#[c]⟩ (.str ⟨#[c]⟩ u) := ⟨u, rfl⟩
    rw [ItemKind.lift_is ha] at hp
    exact wpAny_mono (helt C _ _ s₃ m₃ E' (Nat.le_of_succ_le (by simpa [Heap.size_push] using hC)) (mem hc) ha hp hn hm (up _ hk)) (fun r s₄ h₄ => ⟨⟨_, ha, h₄.1⟩, h₄.2⟩) fun _ _ e => e
  · intro D h' tk ys vs hnew hlD hplD hlen hP hF hk
    refine hQ D ys.toList h' tk (F.keeps (up h' hk)) (N.grown (up h' hk)) ?_ (by rw [Array.toArray_toList]; exact hlD) ⟨by rw [Array.toArray_toList]; exact hplD, fun p hp e => by rw [← e, Heap.get?_push_of_some _ (N p hp).1] at hnew; cases hnew⟩ ((areOf_signs hlen hP).paired pz d _ hF)
    cases e : h₀.get? D with
    | none => rfl
    | some o' => rw [Heap.get?_push_of_some _ (F.keep _ _ e)] at hnew; cases hnew
end
noncomputable def veilB (c : Nat) : Bool := Nat.ble 65024 c && Nat.ble c 65039
noncomputable def known (c : Nat) : Prop := c ∈ alpha ∨ veilB c = true
noncomputable def cp0 (x : Str) : Nat := x.cps.getD 0 0
theorem inB_veil (w : World) {c : Nat} (h : veilB c = true) : inB w c = true := by
  have hb : ((List.range 16).all fun i => inB w (65024 + i)) = true := by kernel_rfl
  have h1 : 65024 ≤ c ∧ c ≤ 65039 := by
    unfold veilB at h
    rw [Bool.and_eq_true, Nat.ble_eq, Nat.ble_eq] at h
    exact h
  have := List.all_eq_true.mp hb (c - 65024) (List.mem_range.mpr (by omega))
  rwa [show 65024 + (c - 65024) = c by omega] at this
theorem inB_alpha (w : World) {c : Nat} (h : c ∈ alpha) : inB w c = false := by
  have hb : (alpha.all fun c => !inB w c) = true := by kernel_rfl
  have := List.all_eq_true.mp hb c h
  rw [Bool.not_eq_true'] at this
  exact this
theorem alpha_not_veil {c : Nat} (h : c ∈ alpha) : veilB c = false := by
  have hb : (alpha.all fun c => !veilB c) = true := by decide
  have := List.all_eq_true.mp hb c h
  rw [Bool.not_eq_true'] at this
  exact this
theorem known_lt {c : Nat} (h : known c) : c < 0x110000 := by
  rcases h with h | h
  · have : (alpha.all fun c => decide (c < 0x110000)) = true := by decide
    exact of_decide_eq_true (List.all_eq_true.mp this c h)
  · unfold veilB at h
    rw [Bool.and_eq_true, Nat.ble_eq, Nat.ble_eq] at h
    omega
noncomputable def told (l : List Nat) : List Nat := ((l.filter fun c => !veilB c).map tellL).flatten
theorem filter_signs (w : World) : ∀ (l : List Nat), (∀ c ∈ l, known c) → ((signs ⟨⟨l⟩⟩).filter fun x => !inB w (cp0 x)) = (l.filter fun c => !veilB c).map fun c => ⟨#[c]⟩
  | [], _ => rfl
  | c :: l, h => by
    have ih := filter_signs w l fun c hc => h c (List.mem_cons_of_mem _ hc)
    have e : inB w c = veilB c := by
      rcases h c (List.mem_cons_self ..) with h | h
      · rw [inB_alpha w h, alpha_not_veil h]
      · rw [inB_veil w h, h]
    have e2 : signs ⟨⟨c :: l⟩⟩ = ⟨#[c]⟩ :: signs ⟨⟨l⟩⟩ := rfl
    rw [e2, List.filter_cons, List.filter_cons, show cp0 ⟨#[c]⟩ = c from rfl, e, ih]
    split <;> rfl
theorem strsAre_of : ∀ {vs : List Value} {ts : List Str}, CarriedAll vs (ts.map .str) → StrsAre vs ts
  | [], [], _ => .nil
  | v :: vs, t :: ts, h => by
    cases h with
    | cons h1 h2 =>
      cases h1
      exact .cons _ _ (strsAre_of h2)
  | [], t :: ts, h => by cases h
  | v :: vs, [], h => by cases h
theorem told_le : ∀ (l : List Nat), (told l).length ≤ 2 * l.length
  | [] => Nat.le_refl _
  | c :: l => by
    have ih := told_le l
    have : (tellL c).length ≤ 2 := by
      unfold tellL
      (repeat' split) <;> decide
    unfold told at ih ⊢
    rw [List.filter_cons]
    split
    · simp only [List.map_cons, List.flatten_cons, List.length_append, List.length_cons]; omega
    · simp only [List.length_cons]; omega
theorem told_fits (l : List Nat) (h : l.length < 1000) : ¬ (((⟨⟨told l⟩⟩ : Str).length : Nat) : Int) ≥ 2 ^ 63 := by
  have := told_le l
  show ¬ (((told l).length : Nat) : Int) ≥ _
  omega
theorem told_join (w : World) (l : List Nat) (hl : ∀ c ∈ l, known c) (hlen : l.length < 1000) {ys : List Value} (hca : CarriedAll ys (((signs ⟨⟨l⟩⟩).filter fun x => !inB w (cp0 x)).map fun x => .str (tellS (cp0 x)))) :
    StrsAre ys.toArray.toList ((l.filter fun c => !veilB c).map tellS) ∧ (((l.filter fun c => !veilB c).map tellS).map (·.length)).sum + ((l.filter fun c => !veilB c).map tellS).length * (Str.ofString "").length ≤ 16777216 ∧
    Txt.join (Str.ofString "") ((l.filter fun c => !veilB c).map tellS) = ⟨⟨told l⟩⟩ := by
  refine ⟨?_, ?_, ?_⟩
  · refine strsAre_of ?_
    rw [filter_signs w l hl] at hca
    simpa [Function.comp_def, cp0] using hca
  · have h1 : ∀ (k : List Nat), ((k.map tellS).map (·.length)).sum ≤ 2 * k.length := by
      intro k
      induction k with
      | nil => exact Nat.le_refl _
      | cons c k ih =>
        have : (tellS c).length ≤ 2 := by
          show (tellL c).length ≤ 2
          unfold tellL
          (repeat' split) <;> decide
        simp only [List.map_cons, List.sum_cons, List.length_cons]
        omega
    have h2 := h1 (l.filter fun c => !veilB c)
    have h3 := List.length_filter_le (fun c => !veilB c) l
    show _ + _ * 0 ≤ _
    omega
  · show Builtin.Str.glued _ _ = _
    rw [StrLaws.glued_eq_join]
    have := join_flat ((l.filter fun c => !veilB c).map tellL)
    rw [List.map_map] at this
    exact this
noncomputable abbrev MeetsO (w : World) (lv : Nat) (f : Addr) (args : List Value) (Ret : Value → List (Addr × Obj) → Prop) : Prop :=
  ∀ (mean : ExcName → Option Value) (mg mb : Str → Option Value) (dp un : Nat) (gd : Option (List Code)) (cn : Str) (cs : Scope) (a : Addr) (ccd : Value) (cl : List (Str × Addr)) (outer : List Env) (A₀ : Around) (base h₀ : Heap) (L : Addr) (m : Str → Option Value) (news : List (Addr × Obj)) (s : Shared) (Q E : Value → Shared → Prop),
    Below A₀ base outer h₀ → Fr h₀ L s.heap m → (kf w.params).In h₀ → News h₀ L s.heap news → Top qv (looseW qv lz) mean mg mb h₀ → cs.kind = .function → dp + lv < recursionLimit → un + 10 * lv < cLine →
    (∀ v tl h' tk', Fr h₀ L h' m → News h₀ L h' (tl ++ news) → (∀ q ∈ tl, ∀ p ∈ news, p.1 < q.1) → Ret v tl → Q v { s with heap := h', toks := tk' }) →
    wpAny (model PySem.Challenge.rw_tp0031_01.prog w) (ktrTop dp un gd cn cs L a ccd cl outer) (call (.ref f) args) Q E s
section
variable {w : World} {lv : Nat} {f : Addr} {args : List Value} {Ret : Value → List (Addr × Obj) → Prop} {mean : ExcName → Option Value} {mg mb : Str → Option Value} {dp un : Nat} {gd : Option (List Code)} {cn : Str} {cs : Scope} {a : Addr} {ccd : Value} {cl : List (Str × Addr)} {outer : List Env} {A₀ : Around} {base h₀ : Heap} {L : Addr} {m : Str → Option Value} {news : List (Addr × Obj)} {s : Shared} {Q E : Value → Shared → Prop}
theorem meetsO_use (C : MeetsO w lv f args Ret) (B : Below A₀ base outer h₀) (F : Fr h₀ L s.heap m) (X : (kf w.params).In h₀) (N : News h₀ L s.heap news) (T : Top qv (looseW qv lz) mean mg mb h₀) (hk : cs.kind = .function) (hd : dp + lv < recursionLimit) (hu : un + 10 * lv < cLine)
    (ret : ∀ v tl h' tk', Fr h₀ L h' m → News h₀ L h' (tl ++ news) → (∀ q ∈ tl, ∀ p ∈ news, p.1 < q.1) → Ret v tl → Q v { s with heap := h', toks := tk' }) :
    wpAny (model PySem.Challenge.rw_tp0031_01.prog w) (ktrTop dp un gd cn cs L a ccd cl outer) (call (.ref f) args) Q E s :=
  C _ _ _ _ _ _ _ _ _ _ _ _ _ _ _ _ _ _ _ _ _ B F X N T hk hd hu ret
end
theorem MeetsO.mono {w : World} {lv : Nat} {f : Addr} {args : List Value} {R R' : Value → List (Addr × Obj) → Prop} (C : MeetsO w lv f args R) (h : ∀ v tl, R v tl → R' v tl) : MeetsO w lv f args R' :=
  fun mean mg mb dp un gd cn cs a ccd cl outer A₀ base h₀ L m news s Q E B F X N T hk hd hu ret => C mean mg mb dp un gd cn cs a ccd cl outer A₀ base h₀ L m news s Q E B F X N T hk hd hu fun v tl h' tk' F' N' o r => ret v tl h' tk' F' N' o (h v tl r)
theorem parts_call : ∀ (w : World) (l : List Nat) (t1 : Tok), (∀ c ∈ l, known c) → l.length < 1000 → MeetsO w 4 111 [.str ⟨⟨l⟩⟩ t1] (fun v tl => ∃ D u1 u2 u3 u4 e, v = .ref D ∧ tl = [(D, listOf #[.int (((told l).count 107 : Nat) : Int) u1, .int (((told l).count 109 : Nat) : Int) u2, .int (((told l).count 98 : Nat) : Int) u3, .int (((told l).length : Nat) : Int) u4] e)]) := by
  unfold MeetsO
  k_fill
  intro w l t1 hl hlen mean mg mb dp un gd cn cs a ccd cl outer A₀ base h₀ L m news s Q E B F X N T hk hdp hun ret
  refine wpAny_call ?_
  k_dflt ktr_enter
  (k_with "eval ListComp" => ((rename Fr _ _ _ _ => F8); (with_reducible apply ListComp_str F8 (pz := fun x => !inB w (cp0 x)) (d := fun x => .str (tellS (cp0 x)))); (case hh => with_unfolding_all rfl); (case hclos => with_unfolding_all rfl); (case hcell => decide); (case hkind => with_unfolding_all rfl); (case hnames => decide); (case hx => with_unfolding_all rfl); (case hs => intro _; with_unfolding_all rfl); (case' h => with_reducible refine wpAny_compPack ?_)))
  k_steps
  rename Fr _ _ _ _ => F1
  rename News _ _ _ _ => N1
  refine CompPack.intro ⟨_, _, _, rfl, ?sz, F1, N1, ?tests, ?elt, ?done⟩
  case sz => show l.length ≤ _; rw [sizeLine_eq]; omega
  case tests =>
    intro C a1 v s2 m2 E2 hC ha hv hn hm hkp
    obtain ⟨t2, rfl⟩ := hv
    obtain ⟨c, hc, rfl⟩ : ∃ c ∈ l, a1 = ⟨#[c]⟩ := by
      simpa [signs, eq_comm] using ha
    k_steps
    k_dflt (refine' meets3_use (table_callG w c _ (known_lt (hl c hc))) ?k1 ?k2 ?k3 ?k4 ?k5 ?k6 ?k7 ?k8 ?_)
    (case k1 => k_asm)
    (case k2 => k_asm)
    (case k3 => k_asm)
    (case k4 => k_asm)
    (case k5 => k_asm)
    (case k6 => rfl)
    (case k7 => ktr_room)
    (case k8 => ktr_units)
    rintro v tl h9 tk9 F9 N9 K9 ⟨rfl, rfl⟩
    k_steps
    exact ⟨_, _, rfl, K9⟩
  case elt =>
    intro C a1 v s2 m2 E2 hC ha hv hp hn hm hkp
    obtain ⟨t2, rfl⟩ := hv
    obtain ⟨c, hc, rfl⟩ : ∃ c ∈ l, a1 = ⟨#[c]⟩ := by
      simpa [signs, eq_comm] using ha
    have hca : c ∈ alpha := by
      rcases hl c hc with h | h
      · exact h
      · rw [show cp0 ⟨#[c]⟩ = c from rfl, inB_veil w h] at hp; cases hp
    k_steps
    k_dflt (refine' meets3_use (map_callG w c _ hca) ?k1 ?k2 ?k3 ?k4 ?k5 ?k6 ?k7 ?k8 ?_)
    (case k1 => k_asm)
    (case k2 => k_asm)
    (case k3 => k_asm)
    (case k4 => k_asm)
    (case k5 => k_asm)
    (case k6 => rfl)
    (case k7 => ktr_room)
    (case k8 => ktr_units)
    rintro v tl h9 tk9 F9 N9 K9 ⟨rfl, t9, rfl⟩
    k_steps
    · exact .str _ _
    · exact ⟨_, _, rfl, K9⟩
  case done =>
    intro D ys h9 tk9 F9 N9 hD hl9 hpl hca
    have hst := told_join w l hl hlen hca
    (k_with "last call builtin:str.join" => ((refine join_list hl9 hst.1 hst.2.1 ?_); intro _ _; (rw [hst.2.2])))
    (k_with "call builtin:str.count" => ((refine KXw.count (count_one _ _) ?_); intro _ _))
    have hfit : ¬ (((⟨⟨told l⟩⟩ : Str).length : Nat) : Int) ≥ 2 ^ 63 := told_fits l hlen
    (k_with "call builtin:len" => (refine len_str hfit ?_))
    clear hca
    k_steps
    rename Fr _ _ _ _ => F1
    rename News _ _ _ _ => N1
    rename ∀ (p : Addr × Obj), p ∈ news → p.fst < _ => l1
    exact ret _ [_] _ _ F1 N1 (fun q hq => by rw [List.mem_singleton.mp hq]; exact l1) ⟨_, _, _, _, _, _, rfl, rfl⟩
end Mine
end
-- text L1e
section
open PySem PySem.W PySem.Calls PyProof.Rows
set_option maxRecDepth 100000
set_option maxHeartbeats 8000000
namespace Mine
theorem cells_un : ∀ {l : List (Str × Addr)} {cells : List (Addr × Obj)}, CellsAre (fun _ => none) l cells → ∃ r : List Obj, r.length = l.length ∧ (∀ o ∈ r, o.data = .cell none) ∧ cells = List.zip (l.map (·.2)) r
  | _, _, .nil => ⟨[], rfl, (fun _ h => nomatch h), rfl⟩
  | _, _, .cons (o := o) h Y => by
    obtain ⟨r, h1, h2, rfl⟩ := cells_un Y
    exact ⟨o :: r, congrArg Nat.succ h1, List.forall_mem_cons.mpr ⟨h, h2⟩, rfl⟩
theorem enter_law {K : Frag} {p : Program} {loose : List Str} {mean : ExcName → Option Value} {mg mb : Str → Option Value} {prog : Program} {w : World} {R : Result → Shared → Prop} {s : Shared} {name : Str} {params : Arguments} {body : List Stmt} {scope : Scope}
    {doc pm cdv oc : Value} {od : Option Addr} {osl : Array (Option Value)} {f : Addr} {args : List Value} {binds : List (Str × Value)}
    (X : K.In s.heap) (T : Top p loose mean mg mb s.heap)
    (ho : K.lookup f = some ⟨oc, od, .func (docDef name params body scope pm cdv doc), osl⟩) (hcd : codeIn K cdv name = true)
    (hbind : bindArgs (docDef name params body scope pm cdv doc) ⟨args, []⟩ = pure binds) (hkind : (binds.all fun y => scope.names.lookup y.1 == some .local || scope.names.lookup y.1 == some .cell) = true)
    (hnd : ((cellsFrom 0 scope.names []).map (·.1)).Nodup) (m : Str → Option Value) (hbl : ∀ L, (bindL (envOfC name scope L f cdv).kindOf binds fun _ => none) = m) (hbc : ∀ L, (bindC (envOfC name scope L f cdv).kindOf binds fun _ => none) = fun _ => none)
    (h : ∀ L h₁ tk cells, Fr s.heap L h₁ m → News s.heap L h₁ cells →
      CellsAre (fun _ => none) (cellsFrom (L + 1) scope.names []) cells → Below callerA s.heap [] s.heap →
      wpAny (model prog w) (callerA.deeper (envOfC name scope L f cdv)) (execs body (envOfC name scope L f cdv))
        (fun fl s' => R (.ok (.ret (match fl with | .ret v => v | _ => .none))) s')
        (fun e s' => wpAny (model prog w) (callerA.deeper (envOfC name scope L f cdv)) (leaving (envOfC name scope L f cdv) e)
          (fun _ s'' => R (.error e) s'') (fun e' s'' => R (.error e') s'') s')
        { s with heap := h₁, toks := tk })
    (hco : scope.isCoroutine = false) (hgen : scope.isGenerator = false) (hk : scope.kind = .function) : codeAny (model prog w) callerA (.call (.ref f) ⟨args, []⟩) R s :=
  call_cellsN (A := callerA) (by decide) (X _ _ ho) rfl (Top.nolimit T) (codeRec_of X hcd) hbind (kindsX hkind _) hnd (fun h₁ tk cells F N Y => h _ h₁ tk cells (hbl _ ▸ F) N (hbc _ ▸ Y) (below_caller s.heap)) hco hgen hk

theorem news_tail {g h : Heap} {L : Addr} {a : Addr × Obj} {r : List (Addr × Obj)} (N : News g L h (a :: r)) : News g L h r := fun p hp => N p (List.mem_cons_of_mem _ hp)
theorem news_cut_b {g h : Heap} {L : Addr} {a b : Addr × Obj} {r : List (Addr × Obj)} (N : News g L h (a :: b :: r)) : News g L h (a :: r) := List.forall_mem_cons.mpr ⟨N _ (List.mem_cons_self ..), news_tail (news_tail N)⟩
structure Stop (P : Prop) : Prop where
  out : P
theorem stop {P : Prop} (h : Stop P) : P := h.out
section
variable {prog : Program} {w : World} {A : Around} {E : Value → Shared → Prop} {s : Shared} {h₀ : Heap} {L : Addr} {m : Str → Option Value} {env : Env}
theorem comp_of (_F₀ : Fr h₀ L s.heap m) {α : Type} (K : ItemKind α) {elt iter : PySem.Expr} {x : Str} {px : Pos} {ifs : List PySem.Expr} {scope : Scope} {cl : List (Str × Addr)} {pos : Pos} {Q : Value → Shared → Prop} (pz : α → Bool) (d : α → PyData)
    (hh : A.handled = none) (hclos : closureFor scope env = pure cl) (hcell : ∀ y ∈ scope.names, y.2 ≠ .cell) (hkind : scope.kind = .function)
    (hnames : ∀ y ∈ scope.names, y.2 = .local → scope.names.lookup y.1 = some .local) (hx : scope.names.lookup x = some .local) (hs : ∀ x, foldedSetIterable iter env x = pure x)
    (h : wpAny (model prog w) A (eval iter env) (fun xv s₁ => ∃ news : List (Addr × Obj), ∃ ax vs as, xv = .ref ax ∧ s₁.heap.IsList ax vs.toArray ∧ AreOf K vs as ∧ as.length ≤ sizeLine ∧ Fr h₀ L s₁.heap m ∧ News h₀ L s₁.heap news ∧
      (∀ C a v s₂ m₂ E', s₁.heap.objs.size ≤ C → a ∈ as → K.is a v → s₂.heap.Ns (compEnvC scope cl C env).locals m₂ → m₂ x = some v → (∀ b o, s₁.heap.get? b = some o → s₂.heap.get? b = some o) →
        wpAny (model prog w) A (forIn ifs true fun c r => if r = true then do let ok ← isTrue c (compEnvC scope cl C env) (eval c (compEnvC scope cl C env)); pure (ForInStep.yield ok) else pure (ForInStep.yield r))
          (fun ok s₃ => ok = pz a ∧ Keeps s₂ s₃) E' s₂) ∧
      (∀ C a v s₂ m₂ E', s₁.heap.objs.size ≤ C → a ∈ as → K.is a v → pz a = true → s₂.heap.Ns (compEnvC scope cl C env).locals m₂ → m₂ x = some v → (∀ b o, s₁.heap.get? b = some o → s₂.heap.get? b = some o) →
        wpAny (model prog w) A (eval elt (compEnvC scope cl C env)) (fun y s₃ => Carried y (d a) ∧ Keeps s₂ s₃) E' s₂) ∧
      Stop (∀ D e (ys : List Value) h' tk, Fr h₀ L h' m → News h₀ L h' ((D, listOf ys.toArray e) :: news) → (∀ p ∈ news, p.1 ≠ D) → CarriedAll ys ((as.filter pz).map d) → Q (.ref D) { s₁ with heap := h', toks := tk })) E s) :
    wpAny (model prog w) A (eval (.ListComp elt [⟨.Name x px, iter, ifs, 0⟩] scope pos) env) Q E s :=
  ListComp_DCn hh hclos hcell hkind hnames hx (wpAny_mono h (fun xv s₁ h1 => by
    obtain ⟨news, ax, vs, as, e1, e2, e3, e4, F, N, ht, he, hq⟩ := h1
    refine ⟨news, ax, vs, as, e1, e2, e3, e4, F, N, ht, he, fun D ys h' tk F' N' hD hl hp hc => ?_⟩
    obtain ⟨⟨n, hg⟩, hne⟩ := id hp
    exact hq.out D n ys h' tk F' (List.forall_mem_cons.mpr ⟨⟨hg, hp.ne_locals F', hD⟩, N'⟩) hne hc) fun _ _ x => x) hs
end
end Mine
end
-- text G1
section
open PySem PySem.W PySem.Calls PyProof.Rows
set_option maxRecDepth 100000
set_option maxHeartbeats 8000000
namespace Mine
noncomputable def mkLit {K : Frag} {name : Str} {params : Arguments} {body : List Stmt} {scope : Scope} {pm cdv doc oc : Value} {od : Option Addr} {osl : Array (Option Value)} (ho : K.lookup 130 = some ⟨oc, od, .func (docDef name params body scope pm cdv doc), osl⟩) :
    { b : List Stmt × Scope × Str × Value × Arguments // ∃ oc od pm doc osl, K.lookup 130 = some ⟨oc, od, .func (docDef b.2.2.1 b.2.2.2.2 b.1 b.2.1 pm b.2.2.2.1 doc), osl⟩ } := ⟨(body, scope, name, cdv, params), oc, od, pm, doc, osl, ho⟩
noncomputable def lawLit (w : World) : { b : List Stmt × Scope × Str × Value × Arguments // ∃ oc od pm doc osl, (kf w.params).lookup 130 = some ⟨oc, od, .func (docDef b.2.2.1 b.2.2.2.2 b.1 b.2.1 pm b.2.2.2.1 doc), osl⟩ } := by
  refine' mkLit ?k
  case k => k_is
noncomputable def lawBody (w : World) : List Stmt := (lawLit w).1.1
noncomputable def lawEnv (w : World) (L : Addr) : Env := envOfC (lawLit w).1.2.2.1 (lawLit w).1.2.1 L 130 (lawLit w).1.2.2.2.1
noncomputable def SegEnd (s : Shared) (Post : Heap → Prop) (f : Flow) (s' : Shared) : Prop := f = .next ∧ ∃ h' tk', s' = { s with heap := h', toks := tk' } ∧ Post h'
noncomputable def Seg (w : World) (i n : Nat) (Pre Post : Heap → Addr → Heap → Prop) : Prop :=
  PySem.Challenge.rw_tp0031_01.prog = PySem.Challenge.rw_tp0031_01.prog → ∀ (mean : ExcName → Option Value) (mg mb : Str → Option Value) (h₀ : Heap) (L : Addr) (s : Shared) (E : Value → Shared → Prop),
    (kf w.params).In h₀ → Top qv (looseW qv lz) mean mg mb h₀ → Below callerA h₀ [] h₀ → Pre h₀ L s.heap →
    wpAny (model PySem.Challenge.rw_tp0031_01.prog w) (callerA.deeper (lawEnv w L)) (execs (((lawBody w).drop i).take n) (lawEnv w L)) (SegEnd s (Post h₀ L)) E s
theorem execs_append_eq {env : Env} (b : List Stmt) : ∀ (a : List Stmt), execs (a ++ b) env = (do match ← execs a env with | .next => execs b env | f => pure f)
  | [] => rfl
  | st :: a => by
    rw [List.cons_append, execs_cons, execs_cons, bind_assoc]
    refine bind_congr fun f => ?_
    cases f <;> first | exact execs_append_eq b a | rfl
theorem execs_append {prog : Program} {w : World} {A : Around} {env : Env} {E : Value → Shared → Prop} {b : List Stmt} {Q : Flow → Shared → Prop} (a : List Stmt) {s : Shared}
    (h : wpAny (model prog w) A (execs a env) (fun f s' => match f with | .next => wpAny (model prog w) A (execs b env) Q E s' | f => Q f s') E s) : wpAny (model prog w) A (execs (a ++ b) env) Q E s := by
  rw [execs_append_eq]
  exact wpAny_bind (wpAny_mono h (fun f s' h' => by cases f <;> first | exact h' | exact wpAny_pure h') fun _ _ e => e)
noncomputable def drawA (d : Nat → Nat) (t : Nat → Tok) : Array Value := #[.int ((d 0 : Nat) : Int) (t 0), .int ((d 1 : Nat) : Int) (t 1), .int ((d 2 : Nat) : Int) (t 2), .int ((d 3 : Nat) : Int) (t 3), .int ((d 4 : Nat) : Int) (t 4), .int ((d 5 : Nat) : Int) (t 5), .int ((d 6 : Nat) : Int) (t 6), .int ((d 7 : Nat) : Int) (t 7), .int ((d 8 : Nat) : Int) (t 8), .int ((d 9 : Nat) : Int) (t 9)]
theorem ints_fn : ∀ {vs : List Value} {ms : List Int}, IntsAre vs ms → (∀ m ∈ ms, 0 ≤ m ∧ m < 1000000) → ∃ (d : Nat → Nat) (t : Nat → Tok), (∀ i, d i < 1000000) ∧ vs = (List.range ms.length).map fun i => Value.int ((d i : Nat) : Int) (t i)
  | _, _, .nil, _ => ⟨fun _ => 0, fun _ => 0, (fun _ => (by decide : 0 < 1000000)), rfl⟩
  | _, _, .cons m u h, hr => by
    obtain ⟨d, t, hd, rfl⟩ := ints_fn h fun m hm => hr m (.tail _ hm)
    have h0 := hr _ (.head _)
    refine ⟨fun i => match i with | 0 => m.toNat | i + 1 => d i, fun i => match i with | 0 => u | i + 1 => t i, fun i => ?_, ?_⟩
    · cases i with
      | zero => exact (Int.toNat_lt h0.1).mpr h0.2
      | succ i => exact hd i
    · rw [List.length_cons, List.range_succ_eq_map, List.map_cons, List.map_map]
      show _ = Value.int ((m.toNat : Nat) : Int) u :: _
      rw [Int.toNat_of_nonneg h0.1]
      rfl
theorem ten_of {vs : List Value} {ms : List Int} (h : IntsAre vs ms) (hl : ms.length = 10) (hr : ∀ m ∈ ms, 0 ≤ m ∧ m < 1000000) : ∃ d t, (∀ i, d i < 1000000) ∧ vs.toArray = drawA d t := by
  obtain ⟨d, t, hd, rfl⟩ := ints_fn h hr
  rw [hl]
  exact ⟨d, t, hd, rfl⟩
theorem intsAre_of : ∀ {vs : List Value} {ms : List Int}, CarriedAll vs (ms.map .int) → IntsAre vs ms
  | [], [], _ => .nil
  | v :: vs, t :: ts, h => by
    cases h with
    | cons h1 h2 =>
      cases h1
      exact .cons _ _ (intsAre_of h2)
  | [], t :: ts, h => by cases h
  | v :: vs, [], h => by cases h
theorem draw10 {ns : List Int} {ys ws : List Value} (hC : CarriedAll ys (List.map (fun i => PyData.int (i.fmod 1000000)) (List.filter (fun _ => true) (List.take 10 ns)))) (hI : IntsAre ws (List.drop (((List.take 10 ns).length : Nat) : Int).toNat [5, 0, 2, 7, 209, 7, 37, 12, 40, 26])) :
    ∃ d t, (∀ i, d i < 1000000) ∧ (ys ++ ws).toArray = drawA d t := by
  have h1 : IntsAre ys ((List.take 10 ns).map fun i => i.fmod 1000000) := by
    refine intsAre_of ?_
    rw [List.filter_eq_self.mpr (fun _ _ => rfl)] at hC
    rw [List.map_map]; exact hC
  refine ten_of (h1.append hI) ?_ fun m hm => ?_
  · simp only [List.length_append, List.length_map, List.length_drop, List.length_take, List.length_cons, List.length_nil]
    omega
  · rcases List.mem_append.mp hm with hm | hm
    · obtain ⟨i, _, rfl⟩ := List.mem_map.mp hm
      exact ⟨Int.fmod_nonneg_of_pos _ (by decide), Int.fmod_lt_of_pos _ (by decide)⟩
    · have : ∀ m ∈ [5, 0, 2, 7, 209, 7, 37, 12, 40, (26 : Int)], 0 ≤ m ∧ m < 1000000 := by decide
      exact this m (List.mem_of_mem_drop hm)
end Mine
end
-- text GQ
section
open PySem PySem.W PySem.Calls PyProof.Rows
namespace Mine
theorem genQ {α : Type} {M : Model} {A : Around} {t : Sem α} {Q : α → Shared → Prop} {E : Value → Shared → Prop} {s : Shared} (h : ∀ QQ : α → Shared → Prop, (∀ a s', Q a s' → QQ a s') → wpAny M A t QQ E s) : wpAny M A t Q E s := h Q fun _ _ x => x
theorem lt_of_allLt {d : Addr} : ∀ {l : List (Addr × Obj)}, AllLt d l → ∀ p ∈ l, @LT.lt Nat _ p.1 d
  | [], _, _, h => nomatch h
  | _ :: _, h, p, hp => by
    rcases List.mem_cons.mp hp with rfl | hp
    · exact h.1
    · exact lt_of_allLt h.2 p hp
end Mine
end
-- text P1
section
set_option maxRecDepth 100000
set_option maxHeartbeats 8000000
namespace Mine
noncomputable abbrev Txt3 := Nat × Nat × Nat
structure St where
  mask : Nat
  cnt : Nat
  wide : Nat
  short : Nat
  found : List Txt3
noncomputable def stp (i : Nat) : Nat × Nat × Nat := match i with
  | 0 => (1, 0, 0) | 1 => (1, 1, 0) | 2 => (0, 1, 0) | 3 => (0, 1, 1) | 4 => (0, 0, 1) | _ => (1, 0, 1)
noncomputable def wt (a b c i : Nat) : Nat := match i with
  | 0 => a | 1 => a + b | 2 => b | 3 => b + c | 4 => c | _ => a + c
noncomputable def hasB (mask k : Nat) : Bool := Nat.beq (Nat.land (Nat.shiftRight mask k) 1) 1
noncomputable def addB (mask k : Nat) : Nat := Nat.lor mask (Nat.shiftLeft 1 k)
noncomputable def dirNe (p q : Txt3) : Bool := !(Nat.beq p.2.1 q.2.1 && Nat.beq (p.2.2 * q.1) (q.2.2 * p.1))
noncomputable def see (N r ring : Nat) (s : St) : St := match hasB s.mask r with
  | true => s
  | false => ⟨addB (addB s.mask r) (N - r), match hasB (addB s.mask r) (N - r) with | true => s.cnt + 1 | false => s.cnt + 1 + 1, ring, s.short, s.found⟩
noncomputable def note (t : Txt3) (l : List Txt3) : List Txt3 := match l with
  | [] => [t]
  | [p] => match dirNe t p with | true => [p, t] | false => [p]
  | l => l
noncomputable def far1 (l : List Txt3) : Nat := match l with | [] => 0 | p :: _ => p.1
noncomputable def find (r : Nat) (t : Txt3) (s : St) : St := match Nat.beq r 0 with
  | true => ⟨s.mask, s.cnt, s.wide, match Nat.beq t.1 (far1 (note t s.found)) with | true => s.short + 1 | false => s.short, note t s.found⟩
  | false => s
noncomputable def restN (N W1 W2 ring far : Nat) : Nat := ((ring - far) * W1 + far * W2) % N
noncomputable def step (N W1 W2 ring side far : Nat) (s : St) : St :=
  find (restN N W1 W2 ring far) (ring, side, far) (see N (restN N W1 W2 ring far) ring s)
noncomputable def farRun (N W1 W2 ring side : Nat) : Nat → St → St
  | 0, s => s
  | i + 1, s => step N W1 W2 ring side i (farRun N W1 W2 ring side i s)
noncomputable def sideRun (N a b c turn ring : Nat) : Nat → St → St
  | 0, s => s
  | j + 1, s => farRun N (wt a b c ((turn + j) % 6)) (wt a b c (((turn + j) % 6 + 1) % 6)) ring ((turn + j) % 6) ring (sideRun N a b c turn ring j s)
noncomputable def pt (t : Txt3) : Nat × Nat × Nat :=
  let p := stp t.2.1
  let q := stp ((t.2.1 + 1) % 6)
  ((t.1 - t.2.2) * p.1 + t.2.2 * q.1, (t.1 - t.2.2) * p.2.1 + t.2.2 * q.2.1, (t.1 - t.2.2) * p.2.2 + t.2.2 * q.2.2)
noncomputable def ptx (t : Txt3) : Int := ((pt t).1 : Int) - ((pt t).2.2 : Int)
noncomputable def pty (t : Txt3) : Int := ((pt t).2.1 : Int) - ((pt t).2.2 : Int)
noncomputable def gcd3 (N a b : Nat) : Nat := Nat.gcd (Nat.gcd a b) N
noncomputable def check (N a b : Nat) (s : St) : Bool := match s.found with
  | [p, q] =>
    let g := gcd3 N a b
    let ct := N / g
    let m := p.1
    let n := q.1
    let D := (ptx p * pty q - pty p * ptx q).natAbs
    Nat.beq s.cnt ct && Nat.ble ct (m * n) && Nat.ble (3 * m * n) (4 * ct) && Nat.beq D ct && Nat.ble n (2 * s.wide + 1) && Nat.ble (2 * s.wide) (m + n) && Nat.ble s.short 3 &&
    Nat.beq (((a : Int) * ptx p + (b : Int) * pty p) % (N : Int)).natAbs 0 && Nat.beq (((a : Int) * ptx q + (b : Int) * pty q) % (N : Int)).natAbs 0
  | _ => false
noncomputable def two? (l : List Txt3) : Bool := match l with | [_, _] => true | _ => false
noncomputable def go (N a b c turn : Nat) : Nat → Nat → St → Bool
  | 0, _, _ => false
  | f + 1, ring, s => match two? (sideRun N a b c turn ring 3 s).found with
    | true => check N a b (sideRun N a b c turn ring 3 s)
    | false => go N a b c turn f (ring + 1) (sideRun N a b c turn ring 3 s)
noncomputable def st0 : St := ⟨1, 1, 0, 0, []⟩
noncomputable def third (N a b : Nat) : Nat := (N - (a + b) % N) % N
noncomputable def good1 (N a b turn : Nat) : Bool := go N a b (third N a b) turn 8 1 st0
end Mine
end
-- text GS
section
open PySem PySem.W PySem.Calls PyProof.Rows
set_option maxRecDepth 100000
set_option maxHeartbeats 8000000
namespace Mine
noncomputable def ups : Nat → List Obj → List (Addr × Obj)
  | _, [] => []
  | C, o :: r => (C, o) :: ups (C + 1) r
theorem ups_ge : ∀ {r : List Obj} {C : Nat} {p : Addr × Obj}, p ∈ ups C r → @LE.le Nat _ C p.1
  | [], _, _, h => nomatch h
  | _ :: r, C, p, h => by
    rcases List.mem_cons.mp h with rfl | h
    · exact Nat.le_refl _
    · exact Nat.le_of_succ_le (ups_ge h)
theorem ups_top : ∀ {r : List Obj} {o : Obj} {C : Nat}, ∃ q, (C + r.length, q) ∈ ups C (o :: r)
  | [], o, C => ⟨o, .head _⟩
  | o' :: r, o, C => by
    obtain ⟨q, hq⟩ := @ups_top r o' (C + 1)
    refine ⟨q, .tail _ ?_⟩
    rw [List.length_cons, Nat.add_comm r.length 1, ← Nat.add_assoc]
    exact hq
theorem ups_out : ∀ {r : List Obj} {C D : Nat}, (∀ p ∈ ups C r, p.1 ≠ D) → @LT.lt Nat _ D C ∨ @LE.le Nat _ (C + r.length) D
  | [], C, D, _ => Nat.lt_or_ge D C
  | o :: r, C, D, h => by
    rcases ups_out (r := r) (C := C + 1) fun p hp => h p (.tail _ hp) with e | e
    · exact .inl (Nat.lt_of_le_of_ne (Nat.le_of_lt_succ e) (Ne.symm (h (C, o) (.head _))))
    · exact .inr (by rw [List.length_cons, Nat.add_comm r.length 1, ← Nat.add_assoc]; exact e)
theorem neL {a b : Nat} {P : Prop} (h : @LT.lt Nat _ a b ∧ P) : @Ne Nat b a := Nat.ne_of_gt h.1
theorem neN {a b : Nat} {P : Prop} (h : @Ne Nat a b ∧ P) : @Ne Nat b a := h.1.symm
structure Un (h₀ : Heap) (L : Addr) (h : Heap) (C : Nat) (r : List Obj) (led : List (Addr × Obj)) : Prop where
  NN : News h₀ L h (ups C r ++ led)
  un : ∀ o ∈ r, o.data = .cell none
  len : @Eq Nat (C + r.length) (@HAdd.hAdd Nat Nat Nat _ L 14)
  far : ∀ p ∈ led, @LT.lt Nat _ p.1 C ∨ @LT.lt Nat _ (@HAdd.hAdd Nat Nat Nat _ L 13) p.1
theorem un_perm {g h : Heap} {L : Addr} {b c : List (Addr × Obj)} (a : List (Addr × Obj)) (N : News g L h (a ++ (c ++ b))) : News g L h (c ++ (a ++ b)) := by
  have h1 := List.forall_mem_append.mp N
  have h2 := List.forall_mem_append.mp h1.2
  exact List.forall_mem_append.mpr ⟨h2.1, List.forall_mem_append.mpr ⟨h1.1, h2.2⟩⟩
theorem Un.go {h₀ h h' : Heap} {L : Addr} {C : Nat} {o : Obj} {r : List Obj} {led : List (Addr × Obj)} (U : Un h₀ L h C (o :: r) led) (a : List (Addr × Obj)) (N : News h₀ L h' (a ++ (ups (C + 1) r ++ led))) (k : ∀ p ∈ a, @LT.lt Nat _ p.1 (C + 1) ∨ @LT.lt Nat _ (@HAdd.hAdd Nat Nat Nat _ L 13) p.1) : Un h₀ L h' (C + 1) r (a ++ led) :=
  ⟨un_perm a N, fun x hx => U.un x (.tail _ hx), by
    have := U.len
    rw [List.length_cons] at this
    rw [Nat.add_assoc, Nat.add_comm 1]
    exact this, List.forall_mem_append.mpr ⟨k, fun p hp => (U.far p hp).imp Nat.lt_succ_of_lt id⟩⟩
theorem Un.stay {h₀ h h' : Heap} {L : Addr} {C : Nat} {r : List Obj} {led : List (Addr × Obj)} (U : Un h₀ L h C r led) (a : List (Addr × Obj)) (N : News h₀ L h' (a ++ (ups C r ++ led))) (k : ∀ p ∈ a, @LT.lt Nat _ p.1 C ∨ @LT.lt Nat _ (@HAdd.hAdd Nat Nat Nat _ L 13) p.1) : Un h₀ L h' C r (a ++ led) :=
  ⟨un_perm a N, U.un, U.len, List.forall_mem_append.mpr ⟨k, U.far⟩⟩
theorem Un.keep {h₀ h : Heap} {L : Addr} {C : Nat} {r : List Obj} {led : List (Addr × Obj)} (U : Un h₀ L h C r led) (hC : @LT.lt Nat _ C (@HAdd.hAdd Nat Nat Nat _ L 14)) :
    ∃ led2, News h₀ L h led2 ∧ (∀ p, p ∈ led → p ∈ led2) ∧ (∃ q, (@HAdd.hAdd Nat Nat Nat _ L 13, q) ∈ led2) ∧
      (∀ (h' : Heap) (a : List (Addr × Obj)), News h₀ L h' (a ++ led2) → (∀ p ∈ a, @LT.lt Nat _ p.1 C ∨ @LT.lt Nat _ (@HAdd.hAdd Nat Nat Nat _ L 13) p.1) → Un h₀ L h' C r (a ++ led)) ∧
      (∀ D : Nat, (∀ p ∈ led2, p.1 ≠ D) → @LT.lt Nat _ D C ∨ @LT.lt Nat _ (@HAdd.hAdd Nat Nat Nat _ L 13) D) := by
  refine ⟨_, U.NN, fun p hp => List.mem_append_right _ hp, ?_, fun h' a N k => U.stay a N k, fun D hD => (ups_out fun p hp => hD p (List.mem_append_left _ hp)).imp id fun e => Nat.lt_of_lt_of_le (Nat.lt_of_lt_of_eq (Nat.lt_succ_self _) U.len.symm) e⟩
  cases r with
  | nil => have := U.len; rw [List.length_nil] at this; exact absurd this (Nat.ne_of_lt hC)
  | cons o r =>
    obtain ⟨q, hq⟩ := @ups_top r o C
    have : C + r.length = @HAdd.hAdd Nat Nat Nat _ L 13 := Nat.succ.inj U.len
    rw [this] at hq
    exact ⟨q, List.mem_append_left _ hq⟩
theorem Un.take {h₀ h : Heap} {L : Addr} {C : Nat} {r : List Obj} {led : List (Addr × Obj)} (U : Un h₀ L h C r led) (hC : @LT.lt Nat _ C (@HAdd.hAdd Nat Nat Nat _ L 13)) :
    ∃ o r' led2, News h₀ L h ((C, o) :: led2) ∧ o.data = .cell none ∧ (∀ p ∈ led2, p.1 ≠ C) ∧ (∀ p, p ∈ led → p ∈ led2) ∧ (∃ q, (@HAdd.hAdd Nat Nat Nat _ L 13, q) ∈ led2) ∧
      (∀ (h' : Heap) (a : List (Addr × Obj)), News h₀ L h' (a ++ led2) → (∀ p ∈ a, @LT.lt Nat _ p.1 (C + 1) ∨ @LT.lt Nat _ (@HAdd.hAdd Nat Nat Nat _ L 13) p.1) → Un h₀ L h' (C + 1) r' (a ++ led)) ∧
      (∀ D : Nat, (∀ p ∈ led2, p.1 ≠ D) → @LT.lt Nat _ D (C + 1) ∨ @LT.lt Nat _ (@HAdd.hAdd Nat Nat Nat _ L 13) D) := by
  cases r with
  | nil => have := U.len; rw [List.length_nil] at this; exact absurd this (Nat.ne_of_lt (Nat.lt_succ_of_lt hC))
  | cons o r =>
    have l1 : C + r.length = @HAdd.hAdd Nat Nat Nat _ L 13 := Nat.succ.inj U.len
    have l3 : C + 1 + r.length = @HAdd.hAdd Nat Nat Nat _ L 14 := by rw [Nat.add_assoc, Nat.add_comm 1]; exact congrArg Nat.succ l1
    refine ⟨o, r, ups (C + 1) r ++ led, U.NN, U.un o (.head _), fun p hp => ?_, fun p hp => List.mem_append_right _ hp, ?_, fun h' a N k => U.go a N k, fun D hD => (ups_out fun p hp => hD p (List.mem_append_left _ hp)).imp id fun e => Nat.lt_of_lt_of_le (Nat.lt_of_lt_of_eq (Nat.lt_succ_self _) l3.symm) e⟩
    · rcases List.mem_append.mp hp with hp | hp
      · exact Nat.ne_of_gt (ups_ge hp)
      · exact (U.far p hp).elim Nat.ne_of_lt fun e => Nat.ne_of_gt (Nat.lt_trans hC e)
    · cases r with
      | nil => exact absurd l1 (Nat.ne_of_lt hC)
      | cons o' r =>
        obtain ⟨q, hq⟩ := @ups_top r o' (C + 1)
        have l2 : C + 1 + r.length = @HAdd.hAdd Nat Nat Nat _ L 13 := by rw [← l1, List.length_cons, Nat.add_comm r.length 1, Nat.add_assoc]
        rw [l2] at hq
        exact ⟨q, List.mem_append_left _ hq⟩
theorem Un.take2 {h₀ h : Heap} {L : Addr} {C : Nat} {r : List Obj} {led : List (Addr × Obj)} (U : Un h₀ L h C r led) (hC : @LT.lt Nat _ (C + 1) (@HAdd.hAdd Nat Nat Nat _ L 13)) :
    ∃ o o' r' led2, News h₀ L h ((C, o) :: (C + 1, o') :: led2) ∧ o.data = .cell none ∧ o'.data = .cell none ∧ (∀ p ∈ led2, p.1 ≠ C) ∧ (∀ p ∈ led2, p.1 ≠ C + 1) ∧ @Ne Nat C (C + 1) ∧ (∀ p, p ∈ led → p ∈ led2) ∧ (∃ q, (@HAdd.hAdd Nat Nat Nat _ L 13, q) ∈ led2) ∧
      (∀ (h' : Heap) (a : List (Addr × Obj)), News h₀ L h' (a ++ led2) → (∀ p ∈ a, @LT.lt Nat _ p.1 (C + 1 + 1) ∨ @LT.lt Nat _ (@HAdd.hAdd Nat Nat Nat _ L 13) p.1) → Un h₀ L h' (C + 1 + 1) r' (a ++ led)) := by
  cases r with
  | nil => have := U.len; rw [List.length_nil] at this; exact absurd this (Nat.ne_of_lt (Nat.lt_trans (Nat.lt_succ_self _) (Nat.lt_succ_of_lt hC)))
  | cons o r =>
    cases r with
    | nil => exact absurd (Nat.succ.inj U.len) (Nat.ne_of_lt (Nat.lt_trans (Nat.lt_succ_self _) hC))
    | cons o' r =>
      have l1 : C + 1 + r.length = @HAdd.hAdd Nat Nat Nat _ L 13 := by
        have : C + (r.length + 1) = @HAdd.hAdd Nat Nat Nat _ L 13 := Nat.succ.inj U.len
        rw [← this, Nat.add_comm r.length 1, Nat.add_assoc]
      refine ⟨o, o', r, ups (C + 1 + 1) r ++ led, U.NN, U.un o (.head _), U.un o' (.tail _ (.head _)), fun p hp => ?_, fun p hp => ?_, Nat.ne_of_lt (Nat.lt_succ_self _), fun p hp => List.mem_append_right _ hp, ?_, fun h' a N k => ⟨un_perm a N, fun x hx => U.un x (.tail _ (.tail _ hx)), ?_, List.forall_mem_append.mpr ⟨k, fun p hp => (U.far p hp).imp (fun e => Nat.lt_succ_of_lt (Nat.lt_succ_of_lt e)) id⟩⟩⟩
      · rcases List.mem_append.mp hp with hp | hp
        · exact Nat.ne_of_gt (Nat.le_of_succ_le (ups_ge hp))
        · exact (U.far p hp).elim Nat.ne_of_lt fun e => Nat.ne_of_gt (Nat.lt_trans (Nat.lt_trans (Nat.lt_succ_self _) hC) e)
      · rcases List.mem_append.mp hp with hp | hp
        · exact Nat.ne_of_gt (ups_ge hp)
        · exact (U.far p hp).elim (fun e => Nat.ne_of_lt (Nat.lt_succ_of_lt e)) fun e => Nat.ne_of_gt (Nat.lt_trans hC e)
      · cases r with
        | nil => exact absurd l1 (Nat.ne_of_lt hC)
        | cons o'' r =>
          obtain ⟨q, hq⟩ := @ups_top r o'' (C + 1 + 1)
          have l2 : C + 1 + 1 + r.length = @HAdd.hAdd Nat Nat Nat _ L 13 := by rw [← l1, List.length_cons, Nat.add_comm r.length 1, Nat.add_assoc (C + 1)]
          rw [l2] at hq
          exact ⟨q, List.mem_append_left _ hq⟩
      · show C + 1 + 1 + r.length = _
        rw [Nat.add_assoc (C + 1), Nat.add_comm 1 r.length]
        exact congrArg Nat.succ l1
noncomputable def downs (L : Nat) : Nat → List Addr
  | 0 => []
  | n + 1 => (L + n) :: downs L n
theorem ups_snoc (o : Obj) : ∀ (r : List Obj) (C : Nat), ups C (r ++ [o]) = ups C r ++ [(C + r.length, o)]
  | [], _ => rfl
  | x :: r, C => by
    show (C, x) :: ups (C + 1) (r ++ [o]) = (C, x) :: (ups (C + 1) r ++ [(C + (r.length + 1), o)])
    rw [ups_snoc o r (C + 1), Nat.add_comm r.length 1, Nat.add_assoc]
theorem zip_downs (L : Nat) : ∀ (r : List Obj), List.zip (downs L r.length) r = (ups L r.reverse).reverse
  | [] => rfl
  | x :: r => by
    rw [List.reverse_cons, ups_snoc, List.reverse_append, List.length_reverse, ← zip_downs L r]
    rfl
theorem un_cells {h₀ h : Heap} {L : Addr} {l : List (Str × Addr)} {cells : List (Addr × Obj)} (Y : CellsAre (fun _ => none) l cells) (hl : l.map (·.2) = downs (L + 1) 13) (N : News h₀ L h cells) : ∃ r, Un h₀ L h (L + 1) r [] := by
  obtain ⟨r, h1, h2, rfl⟩ := cells_un Y
  have h4 : r.length = 13 := by rw [h1, ← List.length_map (f := (·.2)), hl]; rfl
  rw [hl, ← h4, zip_downs] at N
  refine ⟨r.reverse, fun p hp => N p (List.mem_reverse.mpr (by rwa [List.append_nil] at hp)), fun o ho => h2 o (List.mem_reverse.mp ho), ?_, fun _ h => nomatch h⟩
  rw [List.length_reverse, h4]
noncomputable def P0 (h₀ : Heap) (L : Addr) (h : Heap) : Prop := ∃ D vs ns r, Fr h₀ L h (fun y => if y = Str.ofString "script" then some (.ref D) else none) ∧ h₀.IsList D vs.toArray ∧ IntsAre vs ns ∧ ns.length ≤ 63 ∧ Un h₀ L h (L + 1) r []
structure Num (N a b : Nat) : Prop where
  n8 : 8 ≤ N
  n16 : N ≤ 16
  a1 : 1 ≤ a
  aN : a < N
  b1 : 1 ≤ b
  bN : b < N
  ab : a + b ≠ N
structure Ltr (k mm b : Nat) : Prop where
  k1 : k ∈ alpha
  k2 : tellL k = [107]
  m1 : mm ∈ alpha
  m2 : tellL mm = [109]
  b1 : b ∈ alpha
  b2 : tellL b = [98]
noncomputable def frFun {g h : Heap} {L : Addr} {m : Str → Option Value} (_ : Fr g L h m) : Str → Option Value := m
noncomputable def nwA {g h : Heap} {L a : Addr} {o : Obj} {r : List (Addr × Obj)} (_ : News g L h ((a, o) :: r)) : Addr := a
set_option genInjectivity false
set_option genSizeOf false
structure LV where
  m : Str → Option Value
  d : Nat → Nat
  t : Nat → Tok
  (A e N a b W1 e1 D1 f1 D2 f2 k mm bb D3 f3 S0 S1 S2 S3 S4 S5 g0 g1 g2 g3 g4 g5 D4 f4 tr wh ve Se Fo fo wid sho : Nat)
  (tN ta tb u1 u2 u3 u4 y1 y2 y3 z2 z4 z6 tw tv tt twi tsh x00 x01 x02 x03 x10 x11 x12 x13 x20 x21 x22 x23 x30 x31 x32 x33 x40 x41 x42 x43 x50 x51 x52 x53 w0 w1 w2 w3 w4 w5 : Tok)
structure LZ extends LV where
  led : List (Addr × Obj)
  (c1 c2 c3 c4 c5 c6 c7 c8 c9 : Obj)
structure T1 (v : LZ) (r : List Obj) (h₀ : Heap) (L : Addr) (h : Heap) : Prop where
  F : Fr h₀ L h v.m
  U : Un h₀ L h (L + 1 + 1) r v.led
  mA : (v.A, listOf #[.int ((v.d 0 : Nat) : Int) (v.t 0), .int ((v.d 1 : Nat) : Int) (v.t 1), .int ((v.d 2 : Nat) : Int) (v.t 2), .int ((v.d 3 : Nat) : Int) (v.t 3), .int ((v.d 4 : Nat) : Int) (v.t 4), .int ((v.d 5 : Nat) : Int) (v.t 5), .int ((v.d 6 : Nat) : Int) (v.t 6), .int ((v.d 7 : Nat) : Int) (v.t 7), .int ((v.d 8 : Nat) : Int) (v.t 8), .int ((v.d 9 : Nat) : Int) (v.t 9)] v.e) ∈ v.led
  m1 : (L + 1, v.c1) ∈ v.led
  q1 : v.c1.data = .cell (some (.ref v.A))
  hd : ∀ i, v.d i < 1000000
noncomputable def T1' (h₀ : Heap) (L : Addr) (h : Heap) : Prop := ∃ v r, T1 v r h₀ L h
structure T2 (v : LZ) (r : List Obj) (h₀ : Heap) (L : Addr) (h : Heap) : Prop where
  F : Fr h₀ L h v.m
  U : Un h₀ L h (L + 1 + 1 + 1) r v.led
  mA : (v.A, listOf #[.int ((v.d 0 : Nat) : Int) (v.t 0), .int ((v.d 1 : Nat) : Int) (v.t 1), .int ((v.d 2 : Nat) : Int) (v.t 2), .int ((v.d 3 : Nat) : Int) (v.t 3), .int ((v.d 4 : Nat) : Int) (v.t 4), .int ((v.d 5 : Nat) : Int) (v.t 5), .int ((v.d 6 : Nat) : Int) (v.t 6), .int ((v.d 7 : Nat) : Int) (v.t 7), .int ((v.d 8 : Nat) : Int) (v.t 8), .int ((v.d 9 : Nat) : Int) (v.t 9)] v.e) ∈ v.led
  m1 : (L + 1, v.c1) ∈ v.led
  m2 : (L + 1 + 1, v.c2) ∈ v.led
  q1 : v.c1.data = .cell (some (.ref v.A))
  q2 : v.c2.data = .cell (some (.int ((v.N : Nat) : Int) v.tN))
  hd : ∀ i, v.d i < 1000000
  n8 : 8 ≤ v.N
  n16 : v.N ≤ 16
noncomputable def T2' (h₀ : Heap) (L : Addr) (h : Heap) : Prop := ∃ v r, T2 v r h₀ L h
structure T3 (v : LZ) (r : List Obj) (h₀ : Heap) (L : Addr) (h : Heap) : Prop where
  F : Fr h₀ L h v.m
  U : Un h₀ L h (L + 1 + 1 + 1 + 1) r v.led
  mA : (v.A, listOf #[.int ((v.d 0 : Nat) : Int) (v.t 0), .int ((v.d 1 : Nat) : Int) (v.t 1), .int ((v.d 2 : Nat) : Int) (v.t 2), .int ((v.d 3 : Nat) : Int) (v.t 3), .int ((v.d 4 : Nat) : Int) (v.t 4), .int ((v.d 5 : Nat) : Int) (v.t 5), .int ((v.d 6 : Nat) : Int) (v.t 6), .int ((v.d 7 : Nat) : Int) (v.t 7), .int ((v.d 8 : Nat) : Int) (v.t 8), .int ((v.d 9 : Nat) : Int) (v.t 9)] v.e) ∈ v.led
  m1 : (L + 1, v.c1) ∈ v.led
  m2 : (L + 1 + 1, v.c2) ∈ v.led
  m3 : (L + 1 + 1 + 1, v.c3) ∈ v.led
  q1 : v.c1.data = .cell (some (.ref v.A))
  q2 : v.c2.data = .cell (some (.int ((v.N : Nat) : Int) v.tN))
  q3 : v.c3.data = .cell (some (.int ((v.a : Nat) : Int) v.ta))
  hd : ∀ i, v.d i < 1000000
  n8 : 8 ≤ v.N
  n16 : v.N ≤ 16
  a1 : 1 ≤ v.a
  aN : v.a < v.N
noncomputable def T3' (h₀ : Heap) (L : Addr) (h : Heap) : Prop := ∃ v r, T3 v r h₀ L h
structure T4 (v : LZ) (r : List Obj) (h₀ : Heap) (L : Addr) (h : Heap) : Prop where
  F : Fr h₀ L h v.m
  U : Un h₀ L h (L + 1 + 1 + 1 + 1 + 1) r v.led
  mA : (v.A, listOf #[.int ((v.d 0 : Nat) : Int) (v.t 0), .int ((v.d 1 : Nat) : Int) (v.t 1), .int ((v.d 2 : Nat) : Int) (v.t 2), .int ((v.d 3 : Nat) : Int) (v.t 3), .int ((v.d 4 : Nat) : Int) (v.t 4), .int ((v.d 5 : Nat) : Int) (v.t 5), .int ((v.d 6 : Nat) : Int) (v.t 6), .int ((v.d 7 : Nat) : Int) (v.t 7), .int ((v.d 8 : Nat) : Int) (v.t 8), .int ((v.d 9 : Nat) : Int) (v.t 9)] v.e) ∈ v.led
  m1 : (L + 1, v.c1) ∈ v.led
  m2 : (L + 1 + 1, v.c2) ∈ v.led
  m3 : (L + 1 + 1 + 1, v.c3) ∈ v.led
  m4 : (L + 1 + 1 + 1 + 1, v.c4) ∈ v.led
  q1 : v.c1.data = .cell (some (.ref v.A))
  q2 : v.c2.data = .cell (some (.int ((v.N : Nat) : Int) v.tN))
  q3 : v.c3.data = .cell (some (.int ((v.a : Nat) : Int) v.ta))
  q4 : v.c4.data = .cell (some (.int ((v.b : Nat) : Int) v.tb))
  hd : ∀ i, v.d i < 1000000
  H : Num v.N v.a v.b
noncomputable def T4' (h₀ : Heap) (L : Addr) (h : Heap) : Prop := ∃ v r, T4 v r h₀ L h
structure T5 (v : LZ) (r : List Obj) (h₀ : Heap) (L : Addr) (h : Heap) : Prop where
  F : Fr h₀ L h v.m
  U : Un h₀ L h (L + 1 + 1 + 1 + 1 + 1 + 1) r v.led
  mA : (v.A, listOf #[.int ((v.d 0 : Nat) : Int) (v.t 0), .int ((v.d 1 : Nat) : Int) (v.t 1), .int ((v.d 2 : Nat) : Int) (v.t 2), .int ((v.d 3 : Nat) : Int) (v.t 3), .int ((v.d 4 : Nat) : Int) (v.t 4), .int ((v.d 5 : Nat) : Int) (v.t 5), .int ((v.d 6 : Nat) : Int) (v.t 6), .int ((v.d 7 : Nat) : Int) (v.t 7), .int ((v.d 8 : Nat) : Int) (v.t 8), .int ((v.d 9 : Nat) : Int) (v.t 9)] v.e) ∈ v.led
  mW1 : (v.W1, listOf #[.int ((v.a : Nat) : Int) v.u1, .int ((v.b : Nat) : Int) v.u2, .int ((third v.N v.a v.b : Nat) : Int) v.u3] v.e1) ∈ v.led
  m1 : (L + 1, v.c1) ∈ v.led
  m2 : (L + 1 + 1, v.c2) ∈ v.led
  m3 : (L + 1 + 1 + 1, v.c3) ∈ v.led
  m4 : (L + 1 + 1 + 1 + 1, v.c4) ∈ v.led
  m5 : (L + 1 + 1 + 1 + 1 + 1, v.c5) ∈ v.led
  q1 : v.c1.data = .cell (some (.ref v.A))
  q2 : v.c2.data = .cell (some (.int ((v.N : Nat) : Int) v.tN))
  q3 : v.c3.data = .cell (some (.int ((v.a : Nat) : Int) v.ta))
  q4 : v.c4.data = .cell (some (.int ((v.b : Nat) : Int) v.tb))
  q5 : v.c5.data = .cell (some (.ref v.W1))
  hd : ∀ i, v.d i < 1000000
  H : Num v.N v.a v.b
noncomputable def T5' (h₀ : Heap) (L : Addr) (h : Heap) : Prop := ∃ v r, T5 v r h₀ L h
structure TC (v : LZ) (r : List Obj) (h₀ : Heap) (L : Addr) (h : Heap) : Prop where
  F : Fr h₀ L h v.m
  U : Un h₀ L h (L + 1 + 1 + 1 + 1 + 1 + 1) r v.led
  mA : (v.A, listOf #[.int ((v.d 0 : Nat) : Int) (v.t 0), .int ((v.d 1 : Nat) : Int) (v.t 1), .int ((v.d 2 : Nat) : Int) (v.t 2), .int ((v.d 3 : Nat) : Int) (v.t 3), .int ((v.d 4 : Nat) : Int) (v.t 4), .int ((v.d 5 : Nat) : Int) (v.t 5), .int ((v.d 6 : Nat) : Int) (v.t 6), .int ((v.d 7 : Nat) : Int) (v.t 7), .int ((v.d 8 : Nat) : Int) (v.t 8), .int ((v.d 9 : Nat) : Int) (v.t 9)] v.e) ∈ v.led
  mW1 : (v.W1, listOf #[.int ((v.a : Nat) : Int) v.u1, .int ((v.b : Nat) : Int) v.u2, .int ((third v.N v.a v.b : Nat) : Int) v.u3] v.e1) ∈ v.led
  m1 : (L + 1, v.c1) ∈ v.led
  m2 : (L + 1 + 1, v.c2) ∈ v.led
  m3 : (L + 1 + 1 + 1, v.c3) ∈ v.led
  m4 : (L + 1 + 1 + 1 + 1, v.c4) ∈ v.led
  m5 : (L + 1 + 1 + 1 + 1 + 1, v.c5) ∈ v.led
  q1 : v.c1.data = .cell (some (.ref v.A))
  q2 : v.c2.data = .cell (some (.int ((v.N : Nat) : Int) v.tN))
  q3 : v.c3.data = .cell (some (.int ((v.a : Nat) : Int) v.ta))
  q4 : v.c4.data = .cell (some (.int ((v.b : Nat) : Int) v.tb))
  q5 : v.c5.data = .cell (some (.ref v.W1))
  hd : ∀ i, v.d i < 1000000
  H : Num v.N v.a v.b
  z_count : v.m (Str.ofString "count") = some (.int ((v.N / gcd3 v.N v.a v.b : Nat) : Int) v.u4)
noncomputable def TC' (h₀ : Heap) (L : Addr) (h : Heap) : Prop := ∃ v r, TC v r h₀ L h
structure T6 (v : LZ) (r : List Obj) (h₀ : Heap) (L : Addr) (h : Heap) : Prop where
  F : Fr h₀ L h v.m
  U : Un h₀ L h (L + 1 + 1 + 1 + 1 + 1 + 1 + 1) r v.led
  mA : (v.A, listOf #[.int ((v.d 0 : Nat) : Int) (v.t 0), .int ((v.d 1 : Nat) : Int) (v.t 1), .int ((v.d 2 : Nat) : Int) (v.t 2), .int ((v.d 3 : Nat) : Int) (v.t 3), .int ((v.d 4 : Nat) : Int) (v.t 4), .int ((v.d 5 : Nat) : Int) (v.t 5), .int ((v.d 6 : Nat) : Int) (v.t 6), .int ((v.d 7 : Nat) : Int) (v.t 7), .int ((v.d 8 : Nat) : Int) (v.t 8), .int ((v.d 9 : Nat) : Int) (v.t 9)] v.e) ∈ v.led
  mW1 : (v.W1, listOf #[.int ((v.a : Nat) : Int) v.u1, .int ((v.b : Nat) : Int) v.u2, .int ((third v.N v.a v.b : Nat) : Int) v.u3] v.e1) ∈ v.led
  mD1 : (v.D1, listOf #[.str ⟨#[v.k]⟩ v.y1, .str ⟨#[v.mm]⟩ v.y2, .str ⟨#[v.bb]⟩ v.y3] v.f1) ∈ v.led
  mD2 : (v.D2, listOf #[.str ⟨#[v.k]⟩ v.y1, .str ⟨#[13262]⟩ v.z2, .str ⟨#[v.mm]⟩ v.y2, .str ⟨#[13190]⟩ v.z4, .str ⟨#[v.bb]⟩ v.y3, .str ⟨#[13189]⟩ v.z6] v.f2) ∈ v.led
  m1 : (L + 1, v.c1) ∈ v.led
  m2 : (L + 1 + 1, v.c2) ∈ v.led
  m3 : (L + 1 + 1 + 1, v.c3) ∈ v.led
  m4 : (L + 1 + 1 + 1 + 1, v.c4) ∈ v.led
  m5 : (L + 1 + 1 + 1 + 1 + 1, v.c5) ∈ v.led
  m6 : (L + 1 + 1 + 1 + 1 + 1 + 1, v.c6) ∈ v.led
  q1 : v.c1.data = .cell (some (.ref v.A))
  q2 : v.c2.data = .cell (some (.int ((v.N : Nat) : Int) v.tN))
  q3 : v.c3.data = .cell (some (.int ((v.a : Nat) : Int) v.ta))
  q4 : v.c4.data = .cell (some (.int ((v.b : Nat) : Int) v.tb))
  q5 : v.c5.data = .cell (some (.ref v.W1))
  q6 : v.c6.data = .cell (some (.ref v.D2))
  hd : ∀ i, v.d i < 1000000
  H : Num v.N v.a v.b
  HL : Ltr v.k v.mm v.bb
  lD1 : @LT.lt Nat _ (@HAdd.hAdd Nat Nat Nat _ L 13) v.D1
  z_count : v.m (Str.ofString "count") = some (.int ((v.N / gcd3 v.N v.a v.b : Nat) : Int) v.u4)
  z_letters : v.m (Str.ofString "letters") = some (.ref v.D1)
noncomputable def T6' (h₀ : Heap) (L : Addr) (h : Heap) : Prop := ∃ v r, T6 v r h₀ L h
structure T7 (v : LZ) (r : List Obj) (h₀ : Heap) (L : Addr) (h : Heap) : Prop where
  F : Fr h₀ L h v.m
  U : Un h₀ L h (L + 1 + 1 + 1 + 1 + 1 + 1 + 1 + 1) r v.led
  mA : (v.A, listOf #[.int ((v.d 0 : Nat) : Int) (v.t 0), .int ((v.d 1 : Nat) : Int) (v.t 1), .int ((v.d 2 : Nat) : Int) (v.t 2), .int ((v.d 3 : Nat) : Int) (v.t 3), .int ((v.d 4 : Nat) : Int) (v.t 4), .int ((v.d 5 : Nat) : Int) (v.t 5), .int ((v.d 6 : Nat) : Int) (v.t 6), .int ((v.d 7 : Nat) : Int) (v.t 7), .int ((v.d 8 : Nat) : Int) (v.t 8), .int ((v.d 9 : Nat) : Int) (v.t 9)] v.e) ∈ v.led
  mW1 : (v.W1, listOf #[.int ((v.a : Nat) : Int) v.u1, .int ((v.b : Nat) : Int) v.u2, .int ((third v.N v.a v.b : Nat) : Int) v.u3] v.e1) ∈ v.led
  mD1 : (v.D1, listOf #[.str ⟨#[v.k]⟩ v.y1, .str ⟨#[v.mm]⟩ v.y2, .str ⟨#[v.bb]⟩ v.y3] v.f1) ∈ v.led
  mD2 : (v.D2, listOf #[.str ⟨#[v.k]⟩ v.y1, .str ⟨#[13262]⟩ v.z2, .str ⟨#[v.mm]⟩ v.y2, .str ⟨#[13190]⟩ v.z4, .str ⟨#[v.bb]⟩ v.y3, .str ⟨#[13189]⟩ v.z6] v.f2) ∈ v.led
  mS0 : (v.S0, listOf #[.int 1 v.x00, .int 0 v.x01, .int 0 v.x02, .int 1 v.x03] v.g0) ∈ v.led
  mS1 : (v.S1, listOf #[.int 1 v.x10, .int 1 v.x11, .int 0 v.x12, .int 2 v.x13] v.g1) ∈ v.led
  mS2 : (v.S2, listOf #[.int 0 v.x20, .int 1 v.x21, .int 0 v.x22, .int 1 v.x23] v.g2) ∈ v.led
  mS3 : (v.S3, listOf #[.int 0 v.x30, .int 1 v.x31, .int 1 v.x32, .int 2 v.x33] v.g3) ∈ v.led
  mS4 : (v.S4, listOf #[.int 0 v.x40, .int 0 v.x41, .int 1 v.x42, .int 1 v.x43] v.g4) ∈ v.led
  mS5 : (v.S5, listOf #[.int 1 v.x50, .int 0 v.x51, .int 1 v.x52, .int 2 v.x53] v.g5) ∈ v.led
  mD3 : (v.D3, listOf #[.ref v.S0, .ref v.S1, .ref v.S2, .ref v.S3, .ref v.S4, .ref v.S5] v.f3) ∈ v.led
  m1 : (L + 1, v.c1) ∈ v.led
  m2 : (L + 1 + 1, v.c2) ∈ v.led
  m3 : (L + 1 + 1 + 1, v.c3) ∈ v.led
  m4 : (L + 1 + 1 + 1 + 1, v.c4) ∈ v.led
  m5 : (L + 1 + 1 + 1 + 1 + 1, v.c5) ∈ v.led
  m6 : (L + 1 + 1 + 1 + 1 + 1 + 1, v.c6) ∈ v.led
  m7 : (L + 1 + 1 + 1 + 1 + 1 + 1 + 1, v.c7) ∈ v.led
  q1 : v.c1.data = .cell (some (.ref v.A))
  q2 : v.c2.data = .cell (some (.int ((v.N : Nat) : Int) v.tN))
  q3 : v.c3.data = .cell (some (.int ((v.a : Nat) : Int) v.ta))
  q4 : v.c4.data = .cell (some (.int ((v.b : Nat) : Int) v.tb))
  q5 : v.c5.data = .cell (some (.ref v.W1))
  q6 : v.c6.data = .cell (some (.ref v.D2))
  q7 : v.c7.data = .cell (some (.ref v.D3))
  hd : ∀ i, v.d i < 1000000
  H : Num v.N v.a v.b
  HL : Ltr v.k v.mm v.bb
  lD1 : @LT.lt Nat _ (@HAdd.hAdd Nat Nat Nat _ L 13) v.D1
  z_count : v.m (Str.ofString "count") = some (.int ((v.N / gcd3 v.N v.a v.b : Nat) : Int) v.u4)
  z_letters : v.m (Str.ofString "letters") = some (.ref v.D1)
noncomputable def T7' (h₀ : Heap) (L : Addr) (h : Heap) : Prop := ∃ v r, T7 v r h₀ L h
structure TW (v : LZ) (r : List Obj) (h₀ : Heap) (L : Addr) (h : Heap) : Prop where
  F : Fr h₀ L h v.m
  U : Un h₀ L h (L + 1 + 1 + 1 + 1 + 1 + 1 + 1 + 1) r v.led
  mA : (v.A, listOf #[.int ((v.d 0 : Nat) : Int) (v.t 0), .int ((v.d 1 : Nat) : Int) (v.t 1), .int ((v.d 2 : Nat) : Int) (v.t 2), .int ((v.d 3 : Nat) : Int) (v.t 3), .int ((v.d 4 : Nat) : Int) (v.t 4), .int ((v.d 5 : Nat) : Int) (v.t 5), .int ((v.d 6 : Nat) : Int) (v.t 6), .int ((v.d 7 : Nat) : Int) (v.t 7), .int ((v.d 8 : Nat) : Int) (v.t 8), .int ((v.d 9 : Nat) : Int) (v.t 9)] v.e) ∈ v.led
  mW1 : (v.W1, listOf #[.int ((v.a : Nat) : Int) v.u1, .int ((v.b : Nat) : Int) v.u2, .int ((third v.N v.a v.b : Nat) : Int) v.u3] v.e1) ∈ v.led
  mD1 : (v.D1, listOf #[.str ⟨#[v.k]⟩ v.y1, .str ⟨#[v.mm]⟩ v.y2, .str ⟨#[v.bb]⟩ v.y3] v.f1) ∈ v.led
  mD2 : (v.D2, listOf #[.str ⟨#[v.k]⟩ v.y1, .str ⟨#[13262]⟩ v.z2, .str ⟨#[v.mm]⟩ v.y2, .str ⟨#[13190]⟩ v.z4, .str ⟨#[v.bb]⟩ v.y3, .str ⟨#[13189]⟩ v.z6] v.f2) ∈ v.led
  mS0 : (v.S0, listOf #[.int 1 v.x00, .int 0 v.x01, .int 0 v.x02, .int 1 v.x03] v.g0) ∈ v.led
  mS1 : (v.S1, listOf #[.int 1 v.x10, .int 1 v.x11, .int 0 v.x12, .int 2 v.x13] v.g1) ∈ v.led
  mS2 : (v.S2, listOf #[.int 0 v.x20, .int 1 v.x21, .int 0 v.x22, .int 1 v.x23] v.g2) ∈ v.led
  mS3 : (v.S3, listOf #[.int 0 v.x30, .int 1 v.x31, .int 1 v.x32, .int 2 v.x33] v.g3) ∈ v.led
  mS4 : (v.S4, listOf #[.int 0 v.x40, .int 0 v.x41, .int 1 v.x42, .int 1 v.x43] v.g4) ∈ v.led
  mS5 : (v.S5, listOf #[.int 1 v.x50, .int 0 v.x51, .int 1 v.x52, .int 2 v.x53] v.g5) ∈ v.led
  mD3 : (v.D3, listOf #[.ref v.S0, .ref v.S1, .ref v.S2, .ref v.S3, .ref v.S4, .ref v.S5] v.f3) ∈ v.led
  mD4 : (v.D4, listOf #[.int ((wt v.a v.b (third v.N v.a v.b) 0 : Nat) : Int) v.w0, .int ((wt v.a v.b (third v.N v.a v.b) 1 : Nat) : Int) v.w1, .int ((wt v.a v.b (third v.N v.a v.b) 2 : Nat) : Int) v.w2, .int ((wt v.a v.b (third v.N v.a v.b) 3 : Nat) : Int) v.w3, .int ((wt v.a v.b (third v.N v.a v.b) 4 : Nat) : Int) v.w4, .int ((wt v.a v.b (third v.N v.a v.b) 5 : Nat) : Int) v.w5] v.f4) ∈ v.led
  m1 : (L + 1, v.c1) ∈ v.led
  m2 : (L + 1 + 1, v.c2) ∈ v.led
  m3 : (L + 1 + 1 + 1, v.c3) ∈ v.led
  m4 : (L + 1 + 1 + 1 + 1, v.c4) ∈ v.led
  m5 : (L + 1 + 1 + 1 + 1 + 1, v.c5) ∈ v.led
  m6 : (L + 1 + 1 + 1 + 1 + 1 + 1, v.c6) ∈ v.led
  m7 : (L + 1 + 1 + 1 + 1 + 1 + 1 + 1, v.c7) ∈ v.led
  q1 : v.c1.data = .cell (some (.ref v.A))
  q2 : v.c2.data = .cell (some (.int ((v.N : Nat) : Int) v.tN))
  q3 : v.c3.data = .cell (some (.int ((v.a : Nat) : Int) v.ta))
  q4 : v.c4.data = .cell (some (.int ((v.b : Nat) : Int) v.tb))
  q5 : v.c5.data = .cell (some (.ref v.W1))
  q6 : v.c6.data = .cell (some (.ref v.D2))
  q7 : v.c7.data = .cell (some (.ref v.D3))
  hd : ∀ i, v.d i < 1000000
  H : Num v.N v.a v.b
  HL : Ltr v.k v.mm v.bb
  lD1 : @LT.lt Nat _ (@HAdd.hAdd Nat Nat Nat _ L 13) v.D1
  z_count : v.m (Str.ofString "count") = some (.int ((v.N / gcd3 v.N v.a v.b : Nat) : Int) v.u4)
  z_letters : v.m (Str.ofString "letters") = some (.ref v.D1)
  z_worths : v.m (Str.ofString "worths") = some (.ref v.D4)
noncomputable def TW' (h₀ : Heap) (L : Addr) (h : Heap) : Prop := ∃ v r, TW v r h₀ L h
structure T9 (v : LZ) (r : List Obj) (h₀ : Heap) (L : Addr) (h : Heap) : Prop where
  F : Fr h₀ L h v.m
  U : Un h₀ L h (L + 1 + 1 + 1 + 1 + 1 + 1 + 1 + 1 + 1 + 1) r v.led
  mA : (v.A, listOf #[.int ((v.d 0 : Nat) : Int) (v.t 0), .int ((v.d 1 : Nat) : Int) (v.t 1), .int ((v.d 2 : Nat) : Int) (v.t 2), .int ((v.d 3 : Nat) : Int) (v.t 3), .int ((v.d 4 : Nat) : Int) (v.t 4), .int ((v.d 5 : Nat) : Int) (v.t 5), .int ((v.d 6 : Nat) : Int) (v.t 6), .int ((v.d 7 : Nat) : Int) (v.t 7), .int ((v.d 8 : Nat) : Int) (v.t 8), .int ((v.d 9 : Nat) : Int) (v.t 9)] v.e) ∈ v.led
  mW1 : (v.W1, listOf #[.int ((v.a : Nat) : Int) v.u1, .int ((v.b : Nat) : Int) v.u2, .int ((third v.N v.a v.b : Nat) : Int) v.u3] v.e1) ∈ v.led
  mD1 : (v.D1, listOf #[.str ⟨#[v.k]⟩ v.y1, .str ⟨#[v.mm]⟩ v.y2, .str ⟨#[v.bb]⟩ v.y3] v.f1) ∈ v.led
  mD2 : (v.D2, listOf #[.str ⟨#[v.k]⟩ v.y1, .str ⟨#[13262]⟩ v.z2, .str ⟨#[v.mm]⟩ v.y2, .str ⟨#[13190]⟩ v.z4, .str ⟨#[v.bb]⟩ v.y3, .str ⟨#[13189]⟩ v.z6] v.f2) ∈ v.led
  mS0 : (v.S0, listOf #[.int 1 v.x00, .int 0 v.x01, .int 0 v.x02, .int 1 v.x03] v.g0) ∈ v.led
  mS1 : (v.S1, listOf #[.int 1 v.x10, .int 1 v.x11, .int 0 v.x12, .int 2 v.x13] v.g1) ∈ v.led
  mS2 : (v.S2, listOf #[.int 0 v.x20, .int 1 v.x21, .int 0 v.x22, .int 1 v.x23] v.g2) ∈ v.led
  mS3 : (v.S3, listOf #[.int 0 v.x30, .int 1 v.x31, .int 1 v.x32, .int 2 v.x33] v.g3) ∈ v.led
  mS4 : (v.S4, listOf #[.int 0 v.x40, .int 0 v.x41, .int 1 v.x42, .int 1 v.x43] v.g4) ∈ v.led
  mS5 : (v.S5, listOf #[.int 1 v.x50, .int 0 v.x51, .int 1 v.x52, .int 2 v.x53] v.g5) ∈ v.led
  mD3 : (v.D3, listOf #[.ref v.S0, .ref v.S1, .ref v.S2, .ref v.S3, .ref v.S4, .ref v.S5] v.f3) ∈ v.led
  mD4 : (v.D4, listOf #[.int ((wt v.a v.b (third v.N v.a v.b) 0 : Nat) : Int) v.w0, .int ((wt v.a v.b (third v.N v.a v.b) 1 : Nat) : Int) v.w1, .int ((wt v.a v.b (third v.N v.a v.b) 2 : Nat) : Int) v.w2, .int ((wt v.a v.b (third v.N v.a v.b) 3 : Nat) : Int) v.w3, .int ((wt v.a v.b (third v.N v.a v.b) 4 : Nat) : Int) v.w4, .int ((wt v.a v.b (third v.N v.a v.b) 5 : Nat) : Int) v.w5] v.f4) ∈ v.led
  m1 : (L + 1, v.c1) ∈ v.led
  m2 : (L + 1 + 1, v.c2) ∈ v.led
  m3 : (L + 1 + 1 + 1, v.c3) ∈ v.led
  m4 : (L + 1 + 1 + 1 + 1, v.c4) ∈ v.led
  m5 : (L + 1 + 1 + 1 + 1 + 1, v.c5) ∈ v.led
  m6 : (L + 1 + 1 + 1 + 1 + 1 + 1, v.c6) ∈ v.led
  m7 : (L + 1 + 1 + 1 + 1 + 1 + 1 + 1, v.c7) ∈ v.led
  m8 : (L + 1 + 1 + 1 + 1 + 1 + 1 + 1 + 1, v.c8) ∈ v.led
  m9 : (L + 1 + 1 + 1 + 1 + 1 + 1 + 1 + 1 + 1, v.c9) ∈ v.led
  q1 : v.c1.data = .cell (some (.ref v.A))
  q2 : v.c2.data = .cell (some (.int ((v.N : Nat) : Int) v.tN))
  q3 : v.c3.data = .cell (some (.int ((v.a : Nat) : Int) v.ta))
  q4 : v.c4.data = .cell (some (.int ((v.b : Nat) : Int) v.tb))
  q5 : v.c5.data = .cell (some (.ref v.W1))
  q6 : v.c6.data = .cell (some (.ref v.D2))
  q7 : v.c7.data = .cell (some (.ref v.D3))
  q8 : v.c8.data = .cell (some (.int ((v.wh : Nat) : Int) v.tw))
  q9 : v.c9.data = .cell (some (.str ⟨#[v.ve]⟩ v.tv))
  hd : ∀ i, v.d i < 1000000
  H : Num v.N v.a v.b
  HL : Ltr v.k v.mm v.bb
  lD1 : @LT.lt Nat _ (@HAdd.hAdd Nat Nat Nat _ L 13) v.D1
  htr : v.tr < 6
  hwh : v.wh < 3
  hve : veilB v.ve = true
  z_count : v.m (Str.ofString "count") = some (.int ((v.N / gcd3 v.N v.a v.b : Nat) : Int) v.u4)
  z_letters : v.m (Str.ofString "letters") = some (.ref v.D1)
  z_worths : v.m (Str.ofString "worths") = some (.ref v.D4)
  z_turn : v.m (Str.ofString "turn") = some (.int ((v.tr : Nat) : Int) v.tt)
noncomputable def T9' (h₀ : Heap) (L : Addr) (h : Heap) : Prop := ∃ v r, T9 v r h₀ L h
end Mine
end
-- text GR0
section
open PySem PySem.W PySem.Calls PyProof.Rows
set_option maxRecDepth 100000
set_option maxHeartbeats 8000000
namespace Mine
theorem tail_at {prog : Program} {w : World} {A : Around} {E : Value → Shared → Prop} {s : Shared} {value slice : PySem.Expr} {l : Addr} {items : Array Value} {i : Nat} {v : Value} {k : Int} {u : Tok} {Q : Value → Shared → Prop} (hl : s.heap.IsList l items) (hk : k = (i : Int)) (hi : items[i]? = some v) (hfit : i < 1000) (h : Q v s)
    (hs : subscripted slice false (.ref l) (.int k u) = operate [.ref l, .int k u] (getItem (.ref l) (.int k u)) := by with_unfolding_all rfl) :
    wpAny (model prog w) A (subscriptTail value slice (.ref l) (.int k u)) Q E s := by
  subst hk
  exact PyProof.Rows.tail_any hl.typeIs slot_list_getitem.lookup (wpAny_getItem_list hl (by omega) (by omega) (by simpa using hi) h) hs
end Mine
end
-- text W12
section
open PySem PySem.W PySem.Calls PyProof.Rows
set_option maxRecDepth 100000
set_option maxHeartbeats 8000000
namespace Mine
noncomputable def signC (letter form : Nat) : Nat := if form % 8 = 0 then 97 + letter else if form % 8 = 1 then 65 + letter else 120068 + 52 * (form % 8) + letter
theorem fmod_nat (a b : Nat) : (a : Int).fmod (b : Int) = ((a % b : Nat) : Int) := by
  rw [Int.fmod_eq_emod_of_nonneg _ (by omega)]; rfl
theorem sign_call : ∀ (w : World) (letter form : Nat) (i1 i2 : Int) (t1 t2 : Tok), letter < 26 → i1 = (letter : Int) → i2 = (form : Int) → Meets1 w 1 106 [.int i1 t1, .int i2 t2] (fun v tl => tl = [] ∧ ∃ t, v = .str ⟨#[signC letter form]⟩ t) := by
  unfold Meets1
  k_fill
  intro w letter form i1 i2 t1 t2 hl e1 e2 mean mg mb dp un gd cn cs a ccd cl outer A₀ base h₀ L m news s Q E B F X0 N T hk hdp hun ret
  subst e1 e2
  refine wpAny_call ?_
  k_dflt ktr_enter
  k_steps
  · rename (form : Int).fmod 8 = 0 => e
    rw [show (8 : Int) = ((8 : Nat) : Int) from rfl, fmod_nat] at e
    refine ret _ [] _ _ (by k_asm) (by k_asm) ⟨rfl, _, congrArg (fun n => Value.str ⟨#[n]⟩ _) ?_⟩
    unfold signC
    rw [if_pos (by omega)]; omega
  · rename (form : Int).fmod 8 = 1 => e
    rw [show (8 : Int) = ((8 : Nat) : Int) from rfl, fmod_nat] at e
    refine ret _ [] _ _ (by k_asm) (by k_asm) ⟨rfl, _, congrArg (fun n => Value.str ⟨#[n]⟩ _) ?_⟩
    unfold signC
    rw [if_neg (by omega), if_pos (by omega)]; omega
  · rename ¬ (form : Int).fmod 8 = 1 => e
    rename ¬ (form : Int).fmod 8 = 0 => e0
    have f := fmod_nat form 8
    rw [show ((8 : Nat) : Int) = (8 : Int) from rfl] at f
    rw [f] at e e0
    refine ret _ [] _ _ (by k_asm) (by k_asm) ⟨rfl, _, congrArg (fun n => Value.str ⟨#[n]⟩ _) ?_⟩
    unfold signC
    rw [if_neg (by omega), if_neg (by omega), f]; omega
end Mine
end
-- text Z1
section
open PySem PySem.W PySem.Calls PyProof.Rows PyProof.Rows.LCg PySem.Spec
set_option maxRecDepth 100000
set_option maxHeartbeats 8000000
namespace Mine
section
variable {prog : Program} {w : World} {A : Around} {E : Value → Shared → Prop} {s : Shared} {env : Env}
noncomputable def ZipAt (z TI TO i1 i2 l1 l2 : Addr) (xs ys : Array Value) (i : Nat) (h : Heap) : Prop :=
  IsZip h z TI TO .none ∧ IsPair h TI (.ref i1) (.ref i2) ∧ (∃ a b, IsPair h TO a b) ∧ h.IsListIter i1 l1 i ∧ h.IsListIter i2 l2 i ∧ h.IsList l1 xs ∧ h.IsList l2 ys
theorem zip_comp {elt iter : PySem.Expr} {x x₂ : Str} {px px₂ tp : Pos} {kk : Nat} {scope : Scope} {cl : List (Str × Addr)} {pos : Pos} {Q : Value → Shared → Prop} {xs ys : Array Value} (f : Nat → Int) (n : Nat)
    (hclos : closureFor scope env = pure cl) (hcell : ∀ y ∈ scope.names, y.2 ≠ .cell) (hkind : scope.kind = .function)
    (hnames : ∀ y ∈ scope.names, y.2 = .local → scope.names.lookup y.1 = some .local) (hxa : scope.names.lookup x = some .local) (hxb : scope.names.lookup x₂ = some .local) (hab : ¬ x = x₂) (hh : A.handled = none)
    (hn : min xs.size ys.size = n) (hsz : n ≤ sizeLine)
    (h : wpAny (model prog w) A (eval iter env) (fun xv s₁ => ∃ z TI TO i1 i2 l1 l2, xv = .ref z ∧ ZipApart z TI TO i1 i2 l1 l2 ∧ ZipAt z TI TO i1 i2 l1 l2 xs ys 0 s₁.heap ∧ s.heap.objs.size ≤ z ∧ s.heap.objs.size ≤ TO ∧ s.heap.objs.size ≤ i1 ∧ s.heap.objs.size ≤ i2 ∧ (∀ b o, s.heap.get? b = some o → s₁.heap.get? b = some o) ∧
      (∀ i v1 v2 C s₂ m₂ E', i < n → xs[i]? = some v1 → ys[i]? = some v2 → s₂.heap.Ns (compEnvC scope cl C env).locals m₂ → m₂ x = some v1 → m₂ x₂ = some v2 → (∀ b o, s.heap.get? b = some o → s₂.heap.get? b = some o) →
        wpAny (model prog w) A (eval elt (compEnvC scope cl C env)) (fun y s₃ => (∃ t, y = .int (f i) t) ∧ Keeps s₂ s₃) E' s₂) ∧
      (∀ D h' tk vs, s.heap.get? D = none → h'.get? D = some (lst vs) → IntsAre vs ((List.range n).map f) → (∀ b o, s.heap.get? b = some o → h'.get? b = some o) → Q (.ref D) { s₁ with heap := h', toks := tk })) E s)
    (hs : ∀ x, foldedSetIterable iter env x = pure x := by intro _; rfl) :
    wpAny (model prog w) A (eval (.ListComp elt [⟨.Tuple [.Name x px, .Name x₂ px₂] kk tp, iter, [], 0⟩] scope pos) env) Q E s := by
  rw [eval_ListComp]
  refine wpAny_comprehension_free (use := none) rfl hs hclos hkind hnames (wpAny_mono h (fun xv s₁ h₁ => ?_) fun _ _ e => e)
  obtain ⟨z, TI, TO, i1, i2, l1, l2, rfl, ap, hst, nz, nTO, ni1, ni2, keep0, helt, hQ⟩ := h₁
  have W := WalksT.zip2 (prog := prog) (w := w) hh z TI TO i1 i2 l1 l2 ap xs ys
  rw [hn] at W
  refine wpAny_pyIter_zip hst.1 ?_
  refine wpAny_newObj_type (wpAny_newFunctionEnv hcell (by intro y hy; simp at hy) (fun h₁ hns₁ hsb₁ => ?_) hkind)
  dsimp only at hns₁ hsb₁ ⊢
  generalize hH2 : s₁.heap.push { cls := .type "list", dict := none, data := .seq ([] : List Value).toArray } = H2 at hns₁ hsb₁ ⊢
  have hC : H2.objs.size = s₁.heap.objs.size + 1 := by rw [← hH2, Heap.size_push]
  have hDC : s₁.heap.objs.size ≠ H2.objs.size := by rw [hC]; exact Nat.ne_of_lt (Nat.lt_succ_self _)
  have below : ∀ b, b < s₁.heap.objs.size → b ≠ H2.objs.size ∧ b ≠ s₁.heap.objs.size := fun b hb => ⟨by rw [hC]; exact Nat.ne_of_lt (Nat.lt_succ_of_lt hb), Nat.ne_of_lt hb⟩
  have old : ∀ b o, s₁.heap.get? b = some o → h₁.get? b = some o := fun b o e => hsb₁.extBut b o (below b (Heap.lt_size e)).1 (Heap.get?_push_of_some _ (hH2 ▸ Heap.get?_push_of_some _ e))
  have hacc : h₁.get? s₁.heap.objs.size = some (lst []) := hsb₁.extBut _ _ hDC (Heap.get?_push_of_some _ (hH2 ▸ Heap.get?_push_size _ rfl))
  have fplt : ∀ b ∈ [z, TI, TO, i1, i2, l1, l2], b < s₁.heap.objs.size := by
    obtain ⟨a1, a2, ⟨_, _, a3⟩, ⟨_, a4, _⟩, ⟨_, a5, _⟩, ⟨_, a6, _⟩, ⟨_, a7, _⟩⟩ := hst
    intro b hb
    simp only [List.mem_cons, List.not_mem_nil, or_false] at hb
    rcases hb with rfl | rfl | rfl | rfl | rfl | rfl | rfl
    · exact Heap.lt_size a1
    · exact Heap.lt_size a2
    · exact Heap.lt_size a3
    · exact Heap.lt_size a4
    · exact Heap.lt_size a5
    · exact Heap.lt_size a6
    · exact Heap.lt_size a7
  have wrlt : ∀ b ∈ [z, TO, i1, i2], b < s₁.heap.objs.size := fun b hb => fplt b (W.sub b hb)
  have Cfp : H2.objs.size ∉ [z, TI, TO, i1, i2, l1, l2] := fun hm => by have := fplt _ hm; rw [hC] at this; exact Nat.lt_irrefl _ (Nat.lt_of_succ_lt this)
  have Dfp : s₁.heap.objs.size ∉ [z, TI, TO, i1, i2, l1, l2] := fun hm => Nat.lt_irrefl _ (fplt _ hm)
  have Cwr : H2.objs.size ∉ [z, TO, i1, i2] := fun hm => Cfp (W.sub _ hm)
  have Dwr : s₁.heap.objs.size ∉ [z, TO, i1, i2] := fun hm => Dfp (W.sub _ hm)
  have newwr : ∀ b o, s.heap.get? b = some o → b ∉ [z, TO, i1, i2] := fun b o e hm => by
    have hb := Heap.lt_size e
    simp only [List.mem_cons, List.not_mem_nil, or_false] at hm
    rcases hm with rfl | rfl | rfl | rfl
    · exact Nat.lt_irrefl _ (Nat.lt_of_lt_of_le hb nz)
    · exact Nat.lt_irrefl _ (Nat.lt_of_lt_of_le hb nTO)
    · exact Nat.lt_irrefl _ (Nat.lt_of_lt_of_le hb ni1)
    · exact Nat.lt_irrefl _ (Nat.lt_of_lt_of_le hb ni2)
  have loop : ∀ s₃ : Shared, s₃ = { s₁ with heap := h₁, toks := s₁.toks + ([] : List (Str × Value)).length } →
      codeAny (model prog w) A (.compLoop (.ListComp elt [⟨.Tuple [.Name x px, .Name x₂ px₂] kk tp, iter, [], 0⟩] scope pos) 0 (.ref z) (.ref s₁.heap.objs.size) (compEnvC scope cl H2.objs.size env))
        (compPost (model prog w) A E none Q (.ref s₁.heap.objs.size) H2.objs.size) s₃ := by
    rintro s₃ rfl
    refine kcp_loop
      (fun k s' => ∃ h' tk i vs m', s' = { s₁ with heap := h', toks := tk } ∧ i ≤ n ∧ k = n + 1 - i ∧ vs.length = i ∧ IntsAre vs ((List.range i).map f) ∧ ZipAt z TI TO i1 i2 l1 l2 xs ys i h' ∧ h'.Ns H2.objs.size m' ∧
        h'.get? s₁.heap.objs.size = some (lst vs) ∧ ∀ b o, s.heap.get? b = some o → h'.get? b = some o) ?_ (n + 1)
      ⟨h₁, _, 0, [], _, rfl, Nat.zero_le _, rfl, rfl, .nil, W.frame _ _ _ hst fun b _ o e => old b o e, hns₁, hacc, fun b o e => old b o (keep0 b o e)⟩
    rintro k s' ⟨h', tk, i, vs, m', rfl, hi, rfl, hvl, hvi, hz', hn', hD', hk'⟩
    by_cases hlt : i < n
    · refine W.item i _ _ _ hlt hz' fun T vals h₂ tk₂ hP hT hTup hMid hk₂ => ?_
      obtain ⟨v1, v2, e1, e2, rfl⟩ := hP
      refine W.go _ _ _ i T _ _ _ hMid fun h₃ hst₃ hk₃ => ?_
      have hTwr := W.apart _ _ _ hMid
      have up₃ : ∀ c o, c ∉ [z, TO, i1, i2] → h'.get? c = some o → h₃.get? c = some o := fun c o hc e => hk₃ c o hc (hk₂ c o hc e)
      have hT₃ : h₃.IsTuple T #[v1, v2] := by
        obtain ⟨o, e, r⟩ := hTup
        exact ⟨o, hk₃ _ _ hTwr e, r⟩
      refine kcp_assign (env := compEnvC scope cl H2.objs.size env) hh hT₃ (lookup_relabel_local hxa) (lookup_relabel_local hxb) (by simp [compEnvC, relabel, hkind]) (hn'.at' fun o e => up₃ _ o Cwr e) fun h₄ tk₄ hn₄ hs₄ => ?_
      have up₄ : ∀ c o, c ∉ [z, TO, i1, i2] → c ≠ H2.objs.size → h'.get? c = some o → h₄.get? c = some o := fun c o h1 h2 e => hs₄ c o h2 (up₃ c o h1 e)
      have hst₄ : ZipAt z TI TO i1 i2 l1 l2 xs ys (i + 1) h₄ := W.frame _ _ _ hst₃ fun b hb o e => hs₄ b o (fun q => Cfp (by rw [show H2.objs.size = b from q.symm]; exact hb)) e
      have oldC : ∀ b o, s.heap.get? b = some o → b ≠ H2.objs.size := fun b o e => (below b (Heap.lt_size (keep0 b o e))).1
      refine wpAny_mono (helt i v1 v2 H2.objs.size _ _ _ hlt e1 e2 hn₄ (by simp [hab]) (by simp) (fun b o e => up₄ b o (newwr b o e) (oldC b o e) (hk' b o e))) (fun y s₅ h₅ => ?_) fun _ _ e => e
      obtain ⟨⟨t, rfl⟩, h₅, tk₅, rfl, hk₅⟩ := h₅
      have hD₅ : h₅.get? s₁.heap.objs.size = some (lst vs) := hk₅ _ _ (up₄ _ _ Dwr hDC hD')
      have hst₅ : ZipAt z TI TO i1 i2 l1 l2 xs ys (i + 1) h₅ := W.frame _ _ _ hst₄ fun b _ o e => hk₅ b o e
      refine append_at (hsz := by show vs.toArray.size ≤ sizeLine; rw [List.size_toArray, hvl]; exact Nat.le_trans hi hsz) hD₅ fun h₆ hs₆ hD₆ => ?_
      refine ⟨n + 1 - (i + 1), by omega, h₆, tk₅, i + 1, vs ++ [.int (f i) t], _, rfl, hlt, rfl, by rw [List.length_append, List.length_singleton, hvl], ?_, W.frame _ _ _ hst₅ fun b hb o e => hs₆.extBut b o (fun q => Dfp (by rw [show s₁.heap.objs.size = b from q.symm]; exact hb)) e,
        (hn₄.at' fun o e => hk₅ _ o e).sameBut hs₆ (Ne.symm hDC), hD₆.trans (congrArg some (lst_snoc vs _)), fun b o e => hs₆.extBut b o (below b (Heap.lt_size (keep0 b o e))).2 (hk₅ b o (up₄ b o (newwr b o e) (oldC b o e) (hk' b o e)))⟩
      rw [List.range_succ, List.map_append]
      exact hvi.append (.cons _ _ .nil)
    · obtain rfl : i = n := Nat.le_antisymm hi (Nat.not_lt.mp hlt)
      refine W.done _ _ _ hz' fun h₂ tk₂ hk₂ => ?_
      refine ⟨m', hn'.at' fun o e => hk₂ _ o Cwr e, fun h'' hs'' => ?_⟩
      refine hQ _ h'' tk₂ vs ?_ (hs''.extBut _ _ hDC (hk₂ _ _ Dwr hD')) hvi fun b o e => hs''.extBut b o (below b (Heap.lt_size (keep0 b o e))).1 (hk₂ b o (newwr b o e) (hk' b o e))
      cases e : s.heap.get? s₁.heap.objs.size with
      | none => rfl
      | some o' => exact absurd (Heap.lt_size (keep0 _ _ e)) (Nat.lt_irrefl _)
  exact codeAny_compStart_list (loop _ rfl) (wpAny_pyIter_zip (W.frame _ _ _ hst fun b _ o e => old b o e).1 (loop _ rfl))
theorem zip_prod {h₀ : Heap} {L : Addr} {m : Str → Option Value} {news : List (Addr × Obj)} {iter : PySem.Expr} {x x₂ : Str} {p1 p2 pp px px₂ tp : Pos} {kk : Nat} {scope : Scope} {cl : List (Str × Addr)} {pos : Pos} {Q : Value → Shared → Prop} {xs ys : Array Value}
    (F : Fr h₀ L s.heap m) (N : News h₀ L s.heap news) (fx fy : Nat → Int) (n : Nat)
    (hclos : closureFor scope env = pure cl) (hcell : ∀ y ∈ scope.names, y.2 ≠ .cell) (hkind : scope.kind = .function)
    (hnames : ∀ y ∈ scope.names, y.2 = .local → scope.names.lookup y.1 = some .local) (hxa : scope.names.lookup x = some .local) (hxb : scope.names.lookup x₂ = some .local) (hab : ¬ x = x₂) (hh : A.handled = none)
    (hd1 : (x == ("__debug__" : Str)) = false) (hd2 : (x₂ == ("__debug__" : Str)) = false)
    (hn : min xs.size ys.size = n) (hsz : n ≤ sizeLine) (hX : ∀ i v, xs[i]? = some v → i < n → ∃ t, v = .int (fx i) t) (hY : ∀ i v, ys[i]? = some v → i < n → ∃ t, v = .int (fy i) t) (hM : ∀ i, i < n → IntMulOk (fx i) (fy i))
    (h : wpAny (model prog w) A (eval iter env) (fun xv s₁ => ∃ z TI TO i1 i2 l1 l2, xv = .ref z ∧ ZipApart z TI TO i1 i2 l1 l2 ∧ ZipAt z TI TO i1 i2 l1 l2 xs ys 0 s₁.heap ∧ s.heap.objs.size ≤ z ∧ s.heap.objs.size ≤ TO ∧ s.heap.objs.size ≤ i1 ∧ s.heap.objs.size ≤ i2 ∧ (∀ b o, s.heap.get? b = some o → s₁.heap.get? b = some o) ∧
      Stop (∀ D h' tk vs, Fr h₀ L h' m → News h₀ L h' news → h'.IsList D vs.toArray → IntsAre vs ((List.range n).map fun i => fx i * fy i) → Q (.ref D) { s₁ with heap := h', toks := tk })) E s)
    (hs : ∀ x, foldedSetIterable iter env x = pure x := by intro _; rfl) :
    wpAny (model prog w) A (eval (.ListComp (.BinOp (.Name x p1) .Mult (.Name x₂ p2) pp) [⟨.Tuple [.Name x px, .Name x₂ px₂] kk tp, iter, [], 0⟩] scope pos) env) Q E s := by
  refine zip_comp (fun i => fx i * fy i) n hclos hcell hkind hnames hxa hxb hab hh hn hsz (wpAny_mono h (fun xv s₁ h₁ => ?_) fun _ _ e => e) hs
  obtain ⟨z, TI, TO, i1, i2, l1, l2, e, ap, hst, nz, nTO, ni1, ni2, keep0, hQ⟩ := h₁
  refine ⟨z, TI, TO, i1, i2, l1, l2, e, ap, hst, nz, nTO, ni1, ni2, keep0, ?_, ?_⟩
  · intro i v1 v2 C s₂ m₂ E' hi e1 e2 hns hm1 hm2 _
    obtain ⟨t1, rfl⟩ := hX i v1 e1 hi
    obtain ⟨t2, rfl⟩ := hY i v2 e2 hi
    refine wpAny_BinOp (wpAny_Name (wpAny_loadName_local (by simp [compEnvC, relabel, hkind]) (lookup_relabel_local hxa) hns hm1 ?_) hd1)
    refine wpAny_Name (wpAny_loadName_local (by simp [compEnvC, relabel, hkind]) (lookup_relabel_local hxb) hns hm2 ?_) hd2
    exact PyProof.Rows.mul_int ⟨⟨_, rfl⟩, _, _, rfl, fun _ _ e => e⟩ (hM i hi)
  · intro D h' tk vs _ hD hi hk
    exact hQ.out D h' tk vs (F.keeps hk) (N.grown hk) ⟨_, hD, rfl, _, rfl⟩ hi
end
noncomputable def sel3 (a b c : Int) (i : Nat) : Int := match i with | 0 => a | 1 => b | _ => c
theorem arr3 {a b c : Int} {t u x : Tok} {n : Nat} (hn : n = 3) : ∀ i v, (#[.int a t, .int b u, .int c x] : Array Value)[i]? = some v → i < n → ∃ t, v = .int (sel3 a b c i) t
  | 0, _, h, _ => ⟨t, (Option.some.inj h).symm⟩
  | 1, _, h, _ => ⟨u, (Option.some.inj h).symm⟩
  | 2, _, h, _ => ⟨x, (Option.some.inj h).symm⟩
  | i + 3, _, _, h => by omega
theorem arr4 {a b c d : Int} {t u x y : Tok} {n : Nat} (hn : n = 3) : ∀ i v, (#[.int a t, .int b u, .int c x, .int d y] : Array Value)[i]? = some v → i < n → ∃ t, v = .int (sel3 a b c i) t
  | 0, _, h, _ => ⟨t, (Option.some.inj h).symm⟩
  | 1, _, h, _ => ⟨u, (Option.some.inj h).symm⟩
  | 2, _, h, _ => ⟨x, (Option.some.inj h).symm⟩
  | i + 3, _, _, h => by omega
theorem bits32 {a : Nat} (h : a < 32) : Builtin.Int.intBits (a : Int) ≤ 64 := by
  have : ((List.range 32).all fun a => decide (Builtin.Int.intBits ((a : Nat) : Int) ≤ 64)) = true := by decide +kernel
  exact of_decide_eq_true (List.all_eq_true.mp this a (List.mem_range.mpr h))
theorem mulOk3 {a b c : Nat} {f : Nat → Int} {n : Nat} (ha : a < 32) (hb : b < 32) (hc : c < 32) : ∀ i, i < n → IntMulOk (sel3 (a : Int) (b : Int) (c : Int) i) (f i)
  | 0, _ => .of_left (bits32 ha)
  | 1, _ => .of_left (bits32 hb)
  | i + 2, _ => .of_left (bits32 hc)
theorem sum3 (a b c x y z : Int) : (List.map (fun i => sel3 a b c i * sel3 x y z i) (List.range 3)).sum = a * x + b * y + c * z := by
  show a * x + (b * y + (c * z + 0)) = _
  omega
end Mine
end
-- text W7
section
open PySem PySem.W PySem.Calls PyProof.Rows
set_option maxRecDepth 100000
set_option maxHeartbeats 8000000
namespace Mine
noncomputable def X (a : Nat) : UInt64 := Float64.ofFrac false a 64
noncomputable def below (n : Nat) (p : Nat → Bool) : Bool := (List.range n).all p
theorem below_of {n : Nat} {p : Nat → Bool} (h : below n p = true) {a : Nat} (ha : a < n) : p a = true := List.all_eq_true.mp h a (List.mem_range.mpr ha)
theorem f_sub {a b : Nat} (ha : a < 11) (hb : b ≤ a) : Float64.sub (X a) (X b) = X (a - b) := by
  have h : below 11 (fun a => below (a + 1) fun b => Float64.sub (X a) (X b) == X (a - b)) = true := by kernel_rfl
  exact eq_of_beq (below_of (below_of h ha) (Nat.lt_succ_of_le hb))
theorem f_cmp {a b : Nat} (ha : a < 11) (hb : b < 11) : Float64.cmp (X a) (X b) = some (compare a b) := by
  have h : below 11 (fun a => below 11 fun b => Float64.cmp (X a) (X b) == some (compare a b)) = true := by kernel_rfl
  exact eq_of_beq (below_of (below_of h ha) hb)
theorem f_zero {a : Nat} (ha : a < 21) : Float64.isZero (X a) = decide (a = 0) := by
  have h : below 21 (fun a => Float64.isZero (X a) == decide (a = 0)) = true := by kernel_rfl
  exact eq_of_beq (below_of h ha)
theorem f_add {a b : Nat} (ha : a < 11) (hb : b < 11) : Float64.add (X a) (X b) = X (a + b) := by
  have h : below 11 (fun a => below 11 fun b => Float64.add (X a) (X b) == X (a + b)) = true := by kernel_rfl
  exact eq_of_beq (below_of (below_of h ha) hb)
theorem f_inf {a : Nat} (ha : a < 21) : Float64.isInf (X a) = false := by
  have h : below 21 (fun a => Float64.isInf (X a) == false) = true := by kernel_rfl
  exact eq_of_beq (below_of h ha)
noncomputable def two : UInt64 := 0x4000000000000000
theorem f_spread {a b : Nat} (ha : a < 11) (hb : b ≤ a) : Float64.mul (Float64.ofInt 128) (Float64.sub (X a) (Float64.div (X (a + b)) two)) = Float64.ofInt ((a - b : Nat) : Int) := by
  have h : below 11 (fun a => below (a + 1) fun b => Float64.mul (Float64.ofInt 128) (Float64.sub (X a) (Float64.div (X (a + b)) two)) == Float64.ofInt ((a - b : Nat) : Int)) = true := by kernel_rfl
  exact eq_of_beq (below_of (below_of h ha) (Nat.lt_succ_of_le hb))
noncomputable def num3 (a b c : Nat) (i : Nat) : Nat := [a, b, c].getD i 0
theorem num3_lt {a b c : Nat} (ha : a < 11) (hb : b < 11) (hc : c < 11) (i : Nat) : num3 a b c i < 11 := by
  match i with
  | 0 => exact ha
  | 1 => exact hb
  | 2 => exact hc
  | i + 3 => exact Nat.zero_lt_succ _
theorem items3 {a b c : Nat} {t u x : Tok} {i : Nat} {v : Value} (h : (#[.float (X a) t, .float (X b) u, .float (X c) x] : Array Value)[i]? = some v) : ∃ t, v = .float (X (num3 a b c i)) t := by
  match i, h with
  | 0, h => exact ⟨t, (Option.some.inj h).symm⟩
  | 1, h => exact ⟨u, (Option.some.inj h).symm⟩
  | 2, h => exact ⟨x, (Option.some.inj h).symm⟩
  | i + 3, h => simp at h
section
variable {prog : Program} {w : World} {A : Around} {E : Value → Shared → Prop} {s : Shared} {a b c : Nat} {t u x : Tok} {Q : Value → Shared → Prop}
theorem cmp_gt3 (ha : a < 11) (hb : b < 11) (hc : c < 11) : CmpOf prog w A .Gt (fun i v => (#[.float (X a) t, .float (X b) u, .float (X c) x] : Array Value)[i]? = some v) (fun i j => decide (num3 a b c i > num3 a b c j)) := fun i j vi vj s Q E hi hj h => by
  obtain ⟨t, rfl⟩ := items3 hi
  obtain ⟨u, rfl⟩ := items3 hj
  refine richCompare_gives (op := .Gt) (typeIs_float s _ t) (typeIs_float s _ u) F.slot_float_gt F.entry_float_gt (F.args_float_gt_2 _ _) (AutoFloatG4.float___gt___float_float_0 _ t _ u) (fun x => nomatch x) ?_
  show Q (.bool (Float64.cmp (X (num3 a b c i)) (X (num3 a b c j)) == some Ordering.gt)) s
  rw [f_cmp (num3_lt ha hb hc _) (num3_lt ha hb hc _)]
  have : (some (compare (num3 a b c i) (num3 a b c j)) == some Ordering.gt) = decide (num3 a b c i > num3 a b c j) := by
    by_cases hh : num3 a b c i > num3 a b c j
    · rw [decide_eq_true hh, Nat.compare_eq_gt.mpr hh]; rfl
    · rw [decide_eq_false hh]
      have := mt Nat.compare_eq_gt.mp hh
      simpa using this
  rw [this]; exact h
theorem cmp_lt3 (ha : a < 11) (hb : b < 11) (hc : c < 11) : CmpOf prog w A .Lt (fun i v => (#[.float (X a) t, .float (X b) u, .float (X c) x] : Array Value)[i]? = some v) (fun i j => decide (num3 a b c i < num3 a b c j)) := fun i j vi vj s Q E hi hj h => by
  obtain ⟨t, rfl⟩ := items3 hi
  obtain ⟨u, rfl⟩ := items3 hj
  refine richCompare_gives (op := .Lt) (typeIs_float s _ t) (typeIs_float s _ u) F.slot_float_lt F.entry_float_lt (F.args_float_lt_2 _ _) (AutoFloatG5.float___lt___float_float_0 _ t _ u) (fun x => nomatch x) ?_
  show Q (.bool (Float64.cmp (X (num3 a b c i)) (X (num3 a b c j)) == some Ordering.lt)) s
  rw [f_cmp (num3_lt ha hb hc _) (num3_lt ha hb hc _)]
  have : (some (compare (num3 a b c i) (num3 a b c j)) == some Ordering.lt) = decide (num3 a b c i < num3 a b c j) := by
    by_cases hh : num3 a b c i < num3 a b c j
    · rw [decide_eq_true hh, Nat.compare_eq_lt.mpr hh]; rfl
    · rw [decide_eq_false hh]
      have := mt Nat.compare_eq_lt.mp hh
      simpa using this
  rw [this]; exact h
theorem best_gt (a b c : Nat) : num3 a b c (argBest (fun i j => decide (num3 a b c i > num3 a b c j)) 2) = max a (max b c) := by
  simp only [argBest, num3, List.getD, List.getElem?_cons_zero, List.getElem?_cons_succ, Option.getD_some]
  by_cases h1 : b > a <;> by_cases h2 : c > b <;> by_cases h3 : c > a <;> simp [h1, h2, h3] <;> omega
theorem best_lt (a b c : Nat) : num3 a b c (argBest (fun i j => decide (num3 a b c i < num3 a b c j)) 2) = min a (min b c) := by
  simp only [argBest, num3, List.getD, List.getElem?_cons_zero, List.getElem?_cons_succ, Option.getD_some]
  by_cases h1 : b < a <;> by_cases h2 : c < b <;> by_cases h3 : c < a <;> simp [h1, h2, h3] <;> omega
theorem max3 (hh : A.handled = none) (ha : a < 11) (hb : b < 11) (hc : c < 11)
    (h : ∀ h' tk t', (∀ d o, s.heap.get? d = some o → h'.get? d = some o) → Q (.float (X (max a (max b c))) t') { s with heap := h', toks := tk }) :
    wpAny (model prog w) A (call (.builtin "max") [.float (X a) t, .float (X b) u, .float (X c) x]) Q E s := by
  have hT : (s.heap.push { cls := .type "tuple", data := .seq #[.float (X a) t, .float (X b) u, .float (X c) x] }).IsTuple s.heap.objs.size #[.float (X a) t, .float (X b) u, .float (X c) x] := ⟨_, Heap.get?_push_size _ rfl, rfl, 0, rfl⟩
  refine call_max_three (wpAny_pyIter_tuple hT ?_)
  have hsz : (s.heap.push { cls := .type "tuple", data := .seq #[.float (X a) t, .float (X b) u, .float (X c) x] }).objs.size = s.heap.objs.size + 1 := Heap.size_push ..
  refine ⟨_, [_, s.heap.objs.size], [_], _, _, _, _, rfl, Walks.tuple (A := A.in1) hh _ s.heap.objs.size (by rw [hsz]; exact Nat.ne_of_lt (Nat.lt_succ_self _)) _,
    ⟨⟨_, Heap.get?_push_size _ rfl, rfl, rfl⟩, hT.push _⟩, fun d hd => ?_, by simp, cmp_gt3 ha hb hc, fun v h' tk hP hk => ?_⟩
  · show d < ((s.heap.push _).push _).objs.size
    rw [Heap.size_push, hsz]
    rcases List.mem_cons.mp hd with rfl | hd
    · rw [hsz]; exact Nat.lt_succ_self _
    · rcases List.mem_cons.mp hd with rfl | hd
      · exact Nat.lt_succ_of_lt (Nat.lt_succ_self _)
      · cases hd
  · obtain ⟨t', rfl⟩ := items3 hP
    rw [show (#[Value.float (X a) t, Value.float (X b) u, Value.float (X c) x] : Array Value).size - 1 = 2 from rfl, best_gt]
    refine h h' tk t' fun d o e => hk d o (fun hm => ?_) (Heap.get?_push_of_some _ (Heap.get?_push_of_some _ e))
    rcases List.mem_cons.mp hm with e1 | hm
    · have := Heap.lt_size e; rw [e1, hsz] at this; exact Nat.lt_irrefl _ (Nat.lt_of_succ_lt this)
    · cases hm
theorem min3 (hh : A.handled = none) (ha : a < 11) (hb : b < 11) (hc : c < 11)
    (h : ∀ h' tk t', (∀ d o, s.heap.get? d = some o → h'.get? d = some o) → Q (.float (X (min a (min b c))) t') { s with heap := h', toks := tk }) :
    wpAny (model prog w) A (call (.builtin "min") [.float (X a) t, .float (X b) u, .float (X c) x]) Q E s := by
  have hT : (s.heap.push { cls := .type "tuple", data := .seq #[.float (X a) t, .float (X b) u, .float (X c) x] }).IsTuple s.heap.objs.size #[.float (X a) t, .float (X b) u, .float (X c) x] := ⟨_, Heap.get?_push_size _ rfl, rfl, 0, rfl⟩
  refine call_min_three (wpAny_pyIter_tuple hT ?_)
  have hsz : (s.heap.push { cls := .type "tuple", data := .seq #[.float (X a) t, .float (X b) u, .float (X c) x] }).objs.size = s.heap.objs.size + 1 := Heap.size_push ..
  refine ⟨_, [_, s.heap.objs.size], [_], _, _, _, _, rfl, Walks.tuple (A := A.in1) hh _ s.heap.objs.size (by rw [hsz]; exact Nat.ne_of_lt (Nat.lt_succ_self _)) _,
    ⟨⟨_, Heap.get?_push_size _ rfl, rfl, rfl⟩, hT.push _⟩, fun d hd => ?_, by simp, cmp_lt3 ha hb hc, fun v h' tk hP hk => ?_⟩
  · show d < ((s.heap.push _).push _).objs.size
    rw [Heap.size_push, hsz]
    rcases List.mem_cons.mp hd with rfl | hd
    · rw [hsz]; exact Nat.lt_succ_self _
    · rcases List.mem_cons.mp hd with rfl | hd
      · exact Nat.lt_succ_of_lt (Nat.lt_succ_self _)
      · cases hd
  · obtain ⟨t', rfl⟩ := items3 hP
    rw [show (#[Value.float (X a) t, Value.float (X b) u, Value.float (X c) x] : Array Value).size - 1 = 2 from rfl, best_lt]
    refine h h' tk t' fun d o e => hk d o (fun hm => ?_) (Heap.get?_push_of_some _ (Heap.get?_push_of_some _ e))
    rcases List.mem_cons.mp hm with e1 | hm
    · have := Heap.lt_size e; rw [e1, hsz] at this; exact Nat.lt_irrefl _ (Nat.lt_of_succ_lt this)
    · cases hm
end
end Mine
end
-- text W9
section
open PySem PySem.W PySem.Calls PyProof.Rows
set_option maxRecDepth 100000
set_option maxHeartbeats 8000000
namespace Mine
section
variable {prog : Program} {w : World} {A : Around} {E : Value → Shared → Prop} {s : Shared} {a b : Nat} {t u : Tok} {Q : Value → Shared → Prop}
theorem sub_X (ha : a < 11) (hb : b ≤ a) (h : ∀ t k, Q (.float (X (a - b)) t) { s with toks := k }) : wpAny (model prog w) A (binaryOp .Sub (.float (X a) t) (.float (X b) u)) Q E s :=
  AutoFloatOps.sub_0 (by show Q (.float (Float64.sub (X a) (X b)) s.toks) { s with toks := s.toks + 1 }; rw [f_sub ha hb]; exact h _ _)
theorem add_X (ha : a < 11) (hb : b < 11) (h : ∀ t k, Q (.float (X (a + b)) t) { s with toks := k }) : wpAny (model prog w) A (binaryOp .Add (.float (X a) t) (.float (X b) u)) Q E s :=
  AutoFloatOps.add_0 (by show Q (.float (Float64.add (X a) (X b)) s.toks) { s with toks := s.toks + 1 }; rw [f_add ha hb]; exact h _ _)
theorem div_X {x : UInt64} (hb : b < 21) (hb0 : b ≠ 0) (h : ∀ t k, Q (.float (Float64.div x (X b)) t) { s with toks := k }) : wpAny (model prog w) A (binaryOp .Div (.float x t) (.float (X b) u)) Q E s :=
  AutoFloatOps.truediv_1 (by rw [f_zero hb]; simpa using hb0) (h _ _)
theorem eq_X (ha : a < 11) (hb : b < 11) (h : Q (.bool (decide (a = b))) s) : wpAny (model prog w) A (compareOp .Eq (.float (X a) t) (.float (X b) u)) Q E s :=
  AutoFloatOps.eq_0 (by
    rw [f_cmp ha hb]
    have : (some (compare a b) == some Ordering.eq) = decide (a = b) := by
      by_cases hh : a = b
      · rw [decide_eq_true hh, Nat.compare_eq_eq.mpr hh]; rfl
      · rw [decide_eq_false hh]
        have := mt Nat.compare_eq_eq.mp hh
        simpa using this
    rw [this]; exact h)
end
noncomputable def hueOf (x y z : Nat) : UInt64 :=
  let M := max x (max y z)
  let m := min x (min y z)
  if m = M then 0 else
    (Float64.divmod (Float64.div (if x = M then Float64.sub (Float64.div (X (M - z)) (X (M - m))) (Float64.div (X (M - y)) (X (M - m)))
      else if y = M then Float64.sub (Float64.add 4611686018427387904 (Float64.div (X (M - x)) (X (M - m)))) (Float64.div (X (M - z)) (X (M - m)))
      else Float64.sub (Float64.add 4616189618054758400 (Float64.div (X (M - y)) (X (M - m)))) (Float64.div (X (M - x)) (X (M - m)))) 4618441417868443648) 4607182418800017408).snd
theorem hue_grey {x y z : Nat} (h : min x (min y z) = max x (max y z)) : hueOf x y z = 0 := if_pos h
theorem hue_r {x y z : Nat} (h : ¬ min x (min y z) = max x (max y z)) (h1 : x = max x (max y z)) : hueOf x y z = (Float64.divmod (Float64.div (Float64.sub (Float64.div (X (max x (max y z) - z)) (X (max x (max y z) - min x (min y z)))) (Float64.div (X (max x (max y z) - y)) (X (max x (max y z) - min x (min y z))))) 4618441417868443648) 4607182418800017408).snd := by
  unfold hueOf; rw [if_neg h, if_pos h1]
theorem hue_g {x y z : Nat} (h : ¬ min x (min y z) = max x (max y z)) (h1 : ¬ x = max x (max y z)) (h2 : y = max x (max y z)) : hueOf x y z = (Float64.divmod (Float64.div (Float64.sub (Float64.add 4611686018427387904 (Float64.div (X (max x (max y z) - x)) (X (max x (max y z) - min x (min y z))))) (Float64.div (X (max x (max y z) - z)) (X (max x (max y z) - min x (min y z))))) 4618441417868443648) 4607182418800017408).snd := by
  unfold hueOf; rw [if_neg h, if_neg h1, if_pos h2]
theorem hue_b {x y z : Nat} (h : ¬ min x (min y z) = max x (max y z)) (h1 : ¬ x = max x (max y z)) (h2 : ¬ y = max x (max y z)) : hueOf x y z = (Float64.divmod (Float64.div (Float64.sub (Float64.add 4616189618054758400 (Float64.div (X (max x (max y z) - y)) (X (max x (max y z) - min x (min y z))))) (Float64.div (X (max x (max y z) - x)) (X (max x (max y z) - min x (min y z))))) 4618441417868443648) 4607182418800017408).snd := by
  unfold hueOf; rw [if_neg h, if_neg h1, if_neg h2]
noncomputable abbrev trio (a b c : UInt64) (t u x : Tok) : Obj := { cls := .type "tuple", data := .seq #[.float a t, .float b u, .float c x] }
theorem hsv_call : ∀ (w : World) (x y z : Nat) (t1 t2 t3 : Tok), x < 11 → y < 11 → z < 11 → Meets1 w 2 28 [.float (X x) t1, .float (X y) t2, .float (X z) t3] (fun v tl => ∃ p sh u1 u2 u3, v = .ref p ∧ tl = [(p, trio (hueOf x y z) sh (X (max x (max y z))) u1 u2 u3)]) := by
  unfold Meets1
  k_fill
  intro w x y z t1 t2 t3 hx hy hz mean mg mb dp un gd cn cs a ccd cl outer A₀ base h₀ L m news s Q E B F X0 N T hk hdp hun ret
  have hM : max x (max y z) < 11 := by omega
  have hm : min x (min y z) < 11 := by omega
  refine wpAny_call ?_
  k_dflt ktr_enter
  (k_with "call builtin:max" => ((rename Fr _ _ _ _ => F8); (rename News _ _ _ _ => N8); (refine max3 rfl hx hy hz ?_); intro h9 tk9 t9 hk9; (have F9 := F8.grownK hk9); (have N9 := N8.grown hk9); clear F8 N8))
  (k_with "call builtin:min" => ((rename Fr _ _ _ _ => F8); (rename News _ _ _ _ => N8); (refine min3 rfl hx hy hz ?_); intro h9 tk9 t9 hk9; (have F9 := F8.grownK hk9); (have N9 := N8.grown hk9); clear F8 N8))
  (k_with "binaryOp Sub float float" => ((refine sub_X (by omega) (by omega) ?_); intro _ _))
  (k_with "binaryOp Div float float" => ((refine div_X (by omega) (by omega) ?_); intro _ _))
  (k_with "compareOp Eq float float" => (refine eq_X (by omega) (by omega) ?_))
  k_steps
  · rename _ = max x (max y z) => e1
    rename Fr _ _ _ _ => F1
    rename News _ _ _ _ => N1
    exact ret _ [_] _ _ F1 N1 ⟨_, _, _, _, _, rfl, by rw [hue_grey e1]⟩
  · rename ¬ _ = max x (max y z) => e1
    rename _ = max x (max y z) => e2
    rename Fr _ _ _ _ => F1
    rename News _ _ _ _ => N1
    exact ret _ [_] _ _ F1 N1 ⟨_, _, _, _, _, rfl, by rw [hue_r e1 e2]⟩
  · rename ¬ x = max x (max y z) => e2
    rename ¬ min x _ = max x (max y z) => e1
    rename y = max x (max y z) => e3
    rename Fr _ _ _ _ => F1
    rename News _ _ _ _ => N1
    exact ret _ [_] _ _ F1 N1 ⟨_, _, _, _, _, rfl, by rw [hue_g e1 e2 e3]⟩
  · rename ¬ x = max x (max y z) => e2
    rename ¬ min x _ = max x (max y z) => e1
    rename ¬ y = max x (max y z) => e3
    rename Fr _ _ _ _ => F1
    rename News _ _ _ _ => N1
    exact ret _ [_] _ _ F1 N1 ⟨_, _, _, _, _, rfl, by rw [hue_b e1 e2 e3]⟩
end Mine
end
-- text W10
section
open PySem PySem.W PySem.Calls PyProof.Rows
set_option maxRecDepth 100000
set_option maxHeartbeats 8000000
namespace Mine
theorem f_le_half {a : Nat} (ha : a < 21) : (Float64.cmp (Float64.div (X a) 4611686018427387904) 4602678819172646912 == some .lt || Float64.cmp (Float64.div (X a) 4611686018427387904) 4602678819172646912 == some .eq) = true := by
  have h : below 21 (fun a => (Float64.cmp (Float64.div (X a) 4611686018427387904) 4602678819172646912 == some .lt || Float64.cmp (Float64.div (X a) 4611686018427387904) 4602678819172646912 == some .eq)) = true := by kernel_rfl
  exact below_of h ha
theorem hls_call : ∀ (w : World) (x y z : Nat) (t1 t2 t3 : Tok), x < 11 → y < 11 → z < 11 → Meets1 w 2 21 [.float (X x) t1, .float (X y) t2, .float (X z) t3] (fun v tl => ∃ p sh u1 u2 u3, v = .ref p ∧ tl = [(p, trio (hueOf x y z) (Float64.div (X (max x (max y z) + min x (min y z))) 4611686018427387904) sh u1 u2 u3)]) := by
  unfold Meets1
  k_fill
  intro w x y z t1 t2 t3 hx hy hz mean mg mb dp un gd cn cs a ccd cl outer A₀ base h₀ L m news s Q E B F X0 N T hk hdp hun ret
  have hM : max x (max y z) < 11 := by omega
  have hm : min x (min y z) < 11 := by omega
  refine wpAny_call ?_
  k_dflt ktr_enter
  (k_with "call builtin:max" => ((rename Fr _ _ _ _ => F8); (rename News _ _ _ _ => N8); (refine max3 rfl hx hy hz ?_); intro h9 tk9 t9 hk9; (have F9 := F8.grownK hk9); (have N9 := N8.grown hk9); clear F8 N8))
  (k_with "call builtin:min" => ((rename Fr _ _ _ _ => F8); (rename News _ _ _ _ => N8); (refine min3 rfl hx hy hz ?_); intro h9 tk9 t9 hk9; (have F9 := F8.grownK hk9); (have N9 := N8.grown hk9); clear F8 N8))
  (k_with "binaryOp Sub float float" => ((refine sub_X (by omega) (by omega) ?_); intro _ _))
  (k_with "binaryOp Div float float" => ((refine div_X (by omega) (by omega) ?_); intro _ _))
  (k_with "compareOp Eq float float" => (refine eq_X (by omega) (by omega) ?_))
  (k_with "binaryOp Add float float" => ((refine add_X (by omega) (by omega) ?_); intro _ _))
  (k_with "compareOp LtE float float" => (refine AutoFloatOps.le_0 ?_; rw [f_le_half (by omega)]))
  k_steps
  · rename _ = max x (max y z) => e1
    rename Fr _ _ _ _ => F1
    rename News _ _ _ _ => N1
    exact ret _ [_] _ _ F1 N1 ⟨_, _, _, _, _, rfl, by rw [hue_grey e1]⟩
  · rename ¬ _ = max x (max y z) => e1
    rename _ = max x (max y z) => e2
    rename Fr _ _ _ _ => F1
    rename News _ _ _ _ => N1
    exact ret _ [_] _ _ F1 N1 ⟨_, _, _, _, _, rfl, by rw [hue_r e1 e2]⟩
  · rename ¬ x = max x (max y z) => e2
    rename ¬ min x _ = max x (max y z) => e1
    rename y = max x (max y z) => e3
    rename Fr _ _ _ _ => F1
    rename News _ _ _ _ => N1
    exact ret _ [_] _ _ F1 N1 ⟨_, _, _, _, _, rfl, by rw [hue_g e1 e2 e3]⟩
  · rename ¬ x = max x (max y z) => e2
    rename ¬ min x _ = max x (max y z) => e1
    rename ¬ y = max x (max y z) => e3
    rename Fr _ _ _ _ => F1
    rename News _ _ _ _ => N1
    exact ret _ [_] _ _ F1 N1 ⟨_, _, _, _, _, rfl, by rw [hue_b e1 e2 e3]⟩
end Mine
end
-- text W11
section
open PySem PySem.W PySem.Calls PyProof.Rows
set_option maxRecDepth 100000
set_option maxHeartbeats 8000000
namespace Mine
noncomputable abbrev Meets2 (w : World) (lv : Nat) (f : Addr) (args : List Value) (D : Addr) (o : Obj) (Ret : Value → List (Addr × Obj) → Prop) : Prop :=
  ∀ (mean : ExcName → Option Value) (mg mb : Str → Option Value) (dp un : Nat) (gd : Option (List Code)) (cn : Str) (cs : Scope) (a : Addr) (ccd : Value) (cl : List (Str × Addr)) (outer : List Env) (A₀ : Around) (base h₀ : Heap) (L : Addr) (m : Str → Option Value) (news : List (Addr × Obj)) (s : Shared) (Q E : Value → Shared → Prop),
    Below A₀ base outer h₀ → Fr h₀ L s.heap m → (kf w.params).In h₀ → News h₀ L s.heap ((D, o) :: news) → Top qv (looseW qv lz) mean mg mb h₀ → cs.kind = .function → dp + lv < recursionLimit → un + 10 * lv < cLine →
    (∀ v tl h' tk', Fr h₀ L h' m → News h₀ L h' (tl ++ (D, o) :: news) → Ret v tl → Q v { s with heap := h', toks := tk' }) →
    wpAny (model PySem.Challenge.rw_tp0031_01.prog w) (ktrTop dp un gd cn cs L a ccd cl outer) (call (.ref f) args) Q E s
noncomputable def selfEq (v : UInt64) : Bool := Float64.cmp v v == some Ordering.eq
noncomputable def hR (d p q : Nat) : UInt64 := (Float64.divmod (Float64.div (Float64.sub (Float64.div (X q) (X d)) (Float64.div (X p) (X d))) 4618441417868443648) 4607182418800017408).snd
noncomputable def hG (c : UInt64) (d p q : Nat) : UInt64 := (Float64.divmod (Float64.div (Float64.sub (Float64.add c (Float64.div (X q) (X d))) (Float64.div (X p) (X d))) 4618441417868443648) 4607182418800017408).snd
theorem self_R {d p q : Nat} (hd : d < 11) (h0 : d ≠ 0) (hp : p ≤ d) (hq : q ≤ d) (ho : p = d ∨ q = d) : selfEq (hR d p q) = true := by
  have h : below 11 (fun d => d == 0 || below (d + 1) fun p => selfEq (hR d d p) && selfEq (hR d p d)) = true := by kernel_rfl
  have h1 := below_of h hd
  rw [beq_eq_false_iff_ne.mpr h0, Bool.false_or] at h1
  rcases ho with rfl | rfl
  · exact (Bool.and_eq_true_iff.mp (below_of h1 (Nat.lt_succ_of_le hq))).1
  · exact (Bool.and_eq_true_iff.mp (below_of h1 (Nat.lt_succ_of_le hp))).2
theorem self_G {d p q : Nat} (hd : d < 11) (h0 : d ≠ 0) (hp : p ≤ d) (hq : q ≤ d) (ho : p = d ∨ q = d) : selfEq (hG 4611686018427387904 d p q) = true := by
  have h : below 11 (fun d => d == 0 || below (d + 1) fun p => selfEq (hG 4611686018427387904 d d p) && selfEq (hG 4611686018427387904 d p d)) = true := by kernel_rfl
  have h1 := below_of h hd
  rw [beq_eq_false_iff_ne.mpr h0, Bool.false_or] at h1
  rcases ho with rfl | rfl
  · exact (Bool.and_eq_true_iff.mp (below_of h1 (Nat.lt_succ_of_le hq))).1
  · exact (Bool.and_eq_true_iff.mp (below_of h1 (Nat.lt_succ_of_le hp))).2
theorem self_B {d p q : Nat} (hd : d < 11) (h0 : d ≠ 0) (hp : p ≤ d) (hq : q ≤ d) (ho : p = d ∨ q = d) : selfEq (hG 4616189618054758400 d p q) = true := by
  have h : below 11 (fun d => d == 0 || below (d + 1) fun p => selfEq (hG 4616189618054758400 d d p) && selfEq (hG 4616189618054758400 d p d)) = true := by kernel_rfl
  have h1 := below_of h hd
  rw [beq_eq_false_iff_ne.mpr h0, Bool.false_or] at h1
  rcases ho with rfl | rfl
  · exact (Bool.and_eq_true_iff.mp (below_of h1 (Nat.lt_succ_of_le hq))).1
  · exact (Bool.and_eq_true_iff.mp (below_of h1 (Nat.lt_succ_of_le hp))).2
theorem min3_is (x y z : Nat) : min x (min y z) = x ∨ min x (min y z) = y ∨ min x (min y z) = z := by
  rcases Nat.le_total x (min y z) with h | h
  · exact .inl (Nat.min_eq_left h)
  · rw [Nat.min_eq_right h]
    rcases Nat.le_total y z with h' | h'
    · exact .inr (.inl (Nat.min_eq_left h'))
    · exact .inr (.inr (Nat.min_eq_right h'))
theorem max3_is (x y z : Nat) : max x (max y z) = x ∨ max x (max y z) = y ∨ max x (max y z) = z := by
  rcases Nat.le_total x (max y z) with h | h
  · rw [Nat.max_eq_right h]
    rcases Nat.le_total y z with h' | h'
    · exact .inr (.inr (Nat.max_eq_right h'))
    · exact .inr (.inl (Nat.max_eq_left h'))
  · exact .inl (Nat.max_eq_left h)
theorem tri_ho {a b c m M : Nat} (hm : m = a ∨ m = b ∨ m = c) (ha : a = M) (h : ¬ m = M) : M - b = M - m ∨ M - c = M - m := by
  rcases hm with h' | h' | h'
  · exact absurd (h'.trans ha) h
  · exact .inl (by rw [h'])
  · exact .inr (by rw [h'])
theorem hue_self {x y z : Nat} (hx : x < 11) (hy : y < 11) (hz : z < 11) : Float64.cmp (hueOf x y z) (hueOf x y z) = some .eq := by
  refine eq_of_beq (?_ : selfEq (hueOf x y z) = true)
  by_cases h : min x (min y z) = max x (max y z)
  · rw [hue_grey h]; kernel_rfl
  have hM : max x (max y z) < 11 := Nat.max_lt.mpr ⟨hx, Nat.max_lt.mpr ⟨hy, hz⟩⟩
  have hd : max x (max y z) - min x (min y z) < 11 := Nat.lt_of_le_of_lt (Nat.sub_le ..) hM
  have mx : min x (min y z) ≤ x := Nat.min_le_left ..
  have my : min x (min y z) ≤ y := Nat.le_trans (Nat.min_le_right ..) (Nat.min_le_left ..)
  have mz : min x (min y z) ≤ z := Nat.le_trans (Nat.min_le_right ..) (Nat.min_le_right ..)
  have h0 : max x (max y z) - min x (min y z) ≠ 0 := Nat.sub_ne_zero_of_lt (Nat.lt_of_le_of_ne (Nat.le_trans mx (Nat.le_max_left ..)) h)
  have hm := min3_is x y z
  have hK := max3_is x y z
  by_cases h1 : x = max x (max y z)
  · rw [hue_r h h1]
    exact self_R hd h0 (Nat.sub_le_sub_left my _) (Nat.sub_le_sub_left mz _) (tri_ho hm h1 h)
  by_cases h2 : y = max x (max y z)
  · rw [hue_g h h1 h2]
    exact self_G hd h0 (Nat.sub_le_sub_left mz _) (Nat.sub_le_sub_left mx _) (tri_ho (hm.elim (fun e => .inr (.inr e)) fun e => e.elim .inl fun e => .inr (.inl e)) h2 h)
  · rw [hue_b h h1 h2]
    exact self_B hd h0 (Nat.sub_le_sub_left mx _) (Nat.sub_le_sub_left my _) (tri_ho (hm.elim (fun e => .inr (.inl e)) fun e => e.elim (fun e => .inr (.inr e)) .inl) (hK.elim (fun e => absurd e.symm h1) fun e => e.elim (fun e => absurd e.symm h2) Eq.symm) h)
theorem f_frac {a : Nat} (ha : a < 11) : (Float64.ofFrac (decide ((a : Int) < 0) != decide ((64 : Int) < 0)) (a : Int).natAbs (64 : Int).natAbs) = X a ∧ ¬ Float64.isInf (Float64.ofFrac (decide ((a : Int) < 0) != decide ((64 : Int) < 0)) (a : Int).natAbs (64 : Int).natAbs) = true := by
  have e : (Float64.ofFrac (decide ((a : Int) < 0) != decide ((64 : Int) < 0)) (a : Int).natAbs (64 : Int).natAbs) = X a := by
    have : decide ((a : Int) < 0) = false := decide_eq_false (by omega)
    rw [this]; rfl
  refine ⟨e, ?_⟩
  rw [e, f_inf (by omega)]; exact Bool.false_ne_true
theorem div_int {prog : Program} {w : World} {A : Around} {E : Value → Shared → Prop} {s : Shared} {a : Nat} {t u : Tok} {Q : Value → Shared → Prop} (ha : a < 11) (h : ∀ t k, Q (.float (X a) t) { s with toks := k }) : wpAny (model prog w) A (binaryOp .Div (.int (a : Int) t) (.int 64 u)) Q E s :=
  AutoIntOps.truediv_2 (by decide) (f_frac ha).2 (by rw [(f_frac ha).1]; exact h _ _)
theorem div_intI {prog : Program} {w : World} {A : Around} {E : Value → Shared → Prop} {s : Shared} {a : Nat} {i : Int} {t u : Tok} {Q : Value → Shared → Prop} (ha : a < 11) (hi : i = (a : Int)) (h : ∀ t k, Q (.float (X a) t) { s with toks := k }) : wpAny (model prog w) A (binaryOp .Div (.int i t) (.int 64 u)) Q E s := by
  subst hi; exact div_int ha h
theorem news_cut {g h : Heap} {L : Addr} {x c : Addr × Obj} {a b rest : List (Addr × Obj)} (N : News g L h (x :: (a ++ (b ++ c :: rest)))) : News g L h ([x] ++ rest) := fun q hq => by
  rcases List.mem_cons.mp hq with rfl | hq
  · exact N _ (List.mem_cons_self ..)
  · exact N _ (List.mem_cons_of_mem _ (List.mem_append_right _ (List.mem_append_right _ (List.mem_cons_of_mem _ hq))))
noncomputable abbrev pairOf (a b : UInt64) (t u : Tok) : Obj := { cls := .type "tuple", data := .seq #[.float a t, .float b u] }
theorem tint_call : ∀ (w : World) (x y z n : Nat) (D : Addr) (e : Nat) (t1 t2 t3 t4 : Tok), x < 11 → y < 11 → z < 11 → Meets2 w 4 125 [.ref D] D (listOf #[.int (x : Int) t1, .int (y : Int) t2, .int (z : Int) t3, .int (n : Int) t4] e) (fun v tl => ∃ p u1 u2, v = .ref p ∧ tl = [(p, pairOf (hueOf x y z) (Float64.ofInt ((max x (max y z) - min x (min y z) : Nat) : Int)) u1 u2)]) := by
  unfold Meets2
  k_fill
  intro w x y z n D e t1 t2 t3 t4 hx hy hz mean mg mb dp un gd cn cs a ccd cl outer A₀ base h₀ L m news s Q E B F X0 N T hk hdp hun ret
  refine wpAny_call ?_
  k_dflt ktr_enter
  (k_with "binaryOp Div int int" => (first | ((refine div_intI hx (by with_unfolding_all rfl) ?_); intro _ _) | ((refine div_intI hy (by with_unfolding_all rfl) ?_); intro _ _) | ((refine div_intI hz (by with_unfolding_all rfl) ?_); intro _ _)))
  (k_with "compareOp NotEq float float" => (refine AutoFloatOps.ne_0 ?_; rw [hue_self hx hy hz]))
  k_steps
  k_dflt (refine' meets_use (hsv_call w x y z _ _ _ hx hy hz) ?k1 ?k2 ?k3 ?k4 ?k5 ?k6 ?k7 ?k8 ?_)
  (case k1 => k_asm)
  (case k2 => k_asm)
  (case k3 => k_asm)
  (case k4 => k_asm)
  (case k5 => k_asm)
  (case k6 => rfl)
  (case k7 => ktr_room)
  (case k8 => ktr_units)
  rintro v tl h9 tk9 F9 N9 ⟨p, sh, u1, u2, u3, rfl, rfl⟩
  k_steps
  k_dflt (refine' meets_use (hls_call w x y z _ _ _ hx hy hz) ?k1 ?k2 ?k3 ?k4 ?k5 ?k6 ?k7 ?k8 ?_)
  (case k1 => k_asm)
  (case k2 => k_asm)
  (case k3 => k_asm)
  (case k4 => k_asm)
  (case k5 => k_asm)
  (case k6 => rfl)
  (case k7 => ktr_room)
  (case k8 => ktr_units)
  rintro v tl h9' tk9' F9' N9' ⟨p', sh', u1', u2', u3', rfl, rfl⟩
  k_steps
  rename Fr _ _ _ _ => F1
  rename News _ _ _ _ => N1
  have f := f_spread (a := max x (max y z)) (b := min x (min y z)) (by omega) (by omega)
  rw [show two = 4611686018427387904 from rfl] at f
  exact ret _ [_] _ _ F1 (news_cut N1) ⟨_, _, _, rfl, by rw [← f]⟩
end Mine
end
-- text W6
section
open PySem PySem.W PySem.Calls PyProof.Rows
set_option maxRecDepth 100000
set_option maxHeartbeats 8000000
namespace Mine
noncomputable def restV (r : Nat) (l : List UInt8) : Nat := l.foldl (fun r o => 16 * r + (o.toNat - 65)) r
noncomputable def restW (n r : Nat) (l : List UInt8) : Nat := l.foldl (fun r o => (16 * r + (o.toNat - 65)) % n) r
theorem restV_ap : ∀ (k : Nat) (acc : List UInt8), restV 0 (apGo k acc) = restV k acc := by
  intro k
  induction k using Nat.strongRecOn with
  | ind k ih =>
    intro acc
    rw [apGo]
    split
    · rename_i h; rw [h]
    · rename_i h
      rw [ih (k / 16) (by omega)]
      show restV (16 * (k / 16) + ((65 + k % 16).toUInt8.toNat - 65)) acc = _
      congr 1
      have : (65 + k % 16).toUInt8.toNat = 65 + k % 16 := by
        show (65 + k % 16) % 256 = _
        omega
      rw [this]; omega
theorem restW_eq (n : Nat) : ∀ (l : List UInt8) (r : Nat), restW n (r % n) l % n = restV r l % n
  | [], r => by show r % n % n = r % n; rw [Nat.mod_mod]
  | o :: l, r => by
    show restW n ((16 * (r % n) + (o.toNat - 65)) % n) l % n = restV (16 * r + (o.toNat - 65)) l % n
    rw [← restW_eq n l, Nat.add_mod (16 * (r % n)), Nat.mul_mod_mod, ← Nat.add_mod]
theorem apGo_big : ∀ (k : Nat) (acc : List UInt8), (∀ o ∈ acc, 65 ≤ o.toNat ∧ o.toNat ≤ 80) → ∀ o ∈ apGo k acc, 65 ≤ o.toNat ∧ o.toNat ≤ 80 := by
  intro k
  induction k using Nat.strongRecOn with
  | ind k ih =>
    intro acc ha
    rw [apGo]
    split
    · exact ha
    · refine ih (k / 16) (by omega) _ fun o ho => ?_
      rcases List.mem_cons.mp ho with rfl | ho
      · have : (65 + k % 16).toUInt8.toNat = 65 + k % 16 := by
          show (65 + k % 16) % 256 = _
          omega
        omega
      · exact ha o ho
theorem restW_lt (n : Nat) (hn : 0 < n) : ∀ (l : List UInt8) (r : Nat), r < n → restW n r l < n
  | [], _, h => h
  | o :: l, r, _ => restW_lt n hn l _ (Nat.mod_lt _ hn)
theorem restW_take {n r : Nat} {l : List UInt8} {i : Nat} {c : UInt8} (h : l[i]? = some c) : restW n r (l.take (i + 1)) = (16 * restW n r (l.take i) + (c.toNat - 65)) % n := by
  have : l.take (i + 1) = l.take i ++ [c] := by rw [List.take_add_one, h]; rfl
  rw [this]
  unfold restW
  rw [List.foldl_append]
  rfl
theorem rest_call : ∀ (w : World) (k n : Nat) (t1 t2 : Tok), k < 2 ^ 20 → 0 < n → n < 100 → Meets1 w 4 118 [.int (k : Int) t1, .int (n : Int) t2] (fun v tl => tl = [] ∧ ∃ t, v = .int ((k % n : Nat) : Int) t) := by
  unfold Meets1
  k_fill
  intro w k n t1 t2 hk0 hn0 hn1 mean mg mb dp un gd cn cs a ccd cl outer A₀ base h₀ L m news s Q E B F X N T hk hdp hun ret
  refine wpAny_call ?_
  k_dflt ktr_enter
  (k_with "exec For Name Call cons nil" => (refine wpAny_For ?_ (by intro _; with_unfolding_all rfl)))
  k_steps
  k_dflt (refine' meets_use (ap_call w k _ hk0) ?k1 ?k2 ?k3 ?k4 ?k5 ?k6 ?k7 ?k8 ?_)
  (case k1 => k_asm)
  (case k2 => k_asm)
  (case k3 => k_asm)
  (case k4 => k_asm)
  (case k5 => k_asm)
  (case k6 => rfl)
  (case k7 => ktr_room)
  (case k8 => ktr_units)
  rintro v tl h9 tk9 F9 N9 ⟨rfl, t9, rfl⟩
  k_steps
  refine KBw.pyIter_bytes ?_
  obtain ⟨hn1, hn2, hn3⟩ := new_addr F9 N9
  obtain ⟨rest0, F0⟩ := fr2 (Str.ofString "rest") (Str.ofString "size") F9 rfl rfl
  refine for_by (KBw.walks rfl _ _ _) (fun i s' => ∃ (h' : Heap) (tk : Nat) (u t3 : Tok) (rest : Str → Option Value), s' = { s with heap := h', toks := tk } ∧
      Fr _ _ h' (fun y => if y = Str.ofString "rest" then some (.int ((restW n 0 ((apGo k []).take i) : Nat) : Int) u) else if y = Str.ofString "size" then some (.int (n : Int) t3) else rest y) ∧ News _ _ h' news)
    ⟨_, _, _, _, rest0, rfl, F0.push _, fun p hp => ⟨Heap.get?_push_of_some _ (N9 p hp).1, (N9 p hp).2⟩⟩ ⟨_, Heap.get?_push_size _ rfl, rfl, rfl⟩ ?_ ?_
  · rintro i v s2 h2 tk2 hlt ⟨h1, tk1, u1, t31, rest1, rfl, F1, N1⟩ ⟨c, u3, hc, rfl⟩ ⟨o, ho, hoc, hod⟩ hkp
    have F2 := fr_but F1 hn1 hn2 hkp
    have N2 : News _ _ h2 ((_, o) :: news) := List.forall_mem_cons.mpr ⟨⟨ho, Ne.symm hn2, hn1⟩, news_but N1 hn3 hkp⟩
    have hc1 : 65 ≤ c.toNat ∧ c.toNat ≤ 80 := apGo_big k [] (fun _ h => nomatch h) c (List.mem_of_getElem? (by simpa using hc))
    have hr : restW n 0 ((apGo k []).take i) < n := restW_lt n hn0 _ 0 hn0
    k_steps
    rename News _ _ _ _ => N7
    rename Fr _ _ _ _ => F7
    obtain ⟨rest7, F8⟩ := fr2 (Str.ofString "rest") (Str.ofString "size") F7 rfl rfl
    have e2 : (16 * ((restW n 0 ((apGo k []).take i) : Nat) : Int) + (c.toNat : Int) - 65).fmod (n : Int) = ((restW n 0 ((apGo k []).take (i + 1)) : Nat) : Int) := by
      rw [restW_take (l := apGo k []) (by simpa using hc), Int.fmod_eq_emod_of_nonneg _ (by omega)]
      have : (16 * ((restW n 0 ((apGo k []).take i) : Nat) : Int) + (c.toNat : Int) - 65) = ((16 * restW n 0 ((apGo k []).take i) + (c.toNat - 65) : Nat) : Int) := by omega
      rw [this]; rfl
    rw [e2] at F8
    exact ⟨⟨_, _, _, _, rest7, rfl, F8, fun p hp => N7 p (List.mem_cons_of_mem _ hp)⟩, o, (N7 _ (List.mem_cons_self ..)).1, hoc, hod⟩
  · rintro s2 h2 tk2 ⟨h1, tk1, u1, t31, rest1, rfl, F1, N1⟩ hkp
    have F2 := fr_but F1 hn1 hn2 hkp
    have N2 := news_but N1 hn3 hkp
    k_steps
    have e3 : restW n 0 ((apGo k []).take (⟨apGo k []⟩ : Array UInt8).size) = k % n := by
      rw [show (apGo k []).take (⟨apGo k []⟩ : Array UInt8).size = apGo k [] from List.take_length]
      have h1 := restW_eq n (apGo k []) 0
      rw [Nat.zero_mod, restV_ap, Nat.mod_eq_of_lt (restW_lt n hn0 _ 0 hn0)] at h1
      exact h1
    exact ret _ [] _ _ (by k_asm) (by k_asm) ⟨rfl, _, by rw [e3]⟩
end Mine
end
-- text H1
section
open PySem PySem.W PySem.Calls PyProof.Rows
set_option maxRecDepth 100000
set_option maxHeartbeats 8000000
namespace Mine
theorem hue_white (x y z w : Nat) : hueOf (x + w) (y + w) (z + w) = hueOf x y z := by
  have e1 : max (x + w) (max (y + w) (z + w)) = max x (max y z) + w := by rw [Nat.add_max_add_right, Nat.add_max_add_right]
  have e2 : min (x + w) (min (y + w) (z + w)) = min x (min y z) + w := by rw [Nat.add_min_add_right, Nat.add_min_add_right]
  unfold hueOf
  dsimp only
  rw [e1, e2]
  simp only [Nat.add_sub_add_right, Nat.add_right_cancel_iff]
noncomputable def hueT : List (Nat × Nat × Nat × Nat) := [(0, 1, 0, 0), (0, 2, 0, 0), (0, 2, 1, 4590669220166325589), (0, 3, 0, 0), (0, 3, 1, 4588167220373341981), (0, 3, 2, 4592670820000712477), (0, 4, 0, 0), (0, 4, 1, 4586165620538955093), (0, 4, 2, 4590669220166325589), (0, 4, 3, 4593671619917905920), (0, 5, 0, 0), (0, 5, 1, 4584964660638322960), (0, 5, 2, 4589468260265693457), (0, 5, 3, 4591870180066957721), (0, 5, 4, 4593971859893063953), (0, 6, 0, 0), (0, 6, 1, 4583663620745971483), (0, 6, 2, 4588167220373341981), (0, 6, 3, 4590669220166325589), (0, 6, 4, 4592670820000712477), (0, 6, 5, 4594172019876502642), (0, 7, 0, 0), (0, 7, 1, 4582519849412036123), (0, 7, 2, 4587023449039406616), (0, 7, 3, 4589811391665874067), (0, 7, 4, 4591527048666777112), (0, 7, 5, 4593242705667680159), (0, 7, 6, 4594314991293244563), (0, 8, 0, 0), (0, 8, 1, 4581662020911584597), (0, 8, 2, 4586165620538955093), (0, 8, 3, 4589168020290535424), (0, 8, 4, 4590669220166325589), (0, 8, 5, 4592170420042115755), (0, 8, 6, 4593671619917905920), (0, 8, 7, 4594422219855801003), (1, 1, 0, 4595172819793696085), (1, 2, 0, 4595172819793696085), (1, 2, 1, 4598175219545276416), (1, 3, 0, 4595172819793696085), (1, 3, 1, 4597174419628082973), (1, 3, 2, 4598675619503873137), (1, 4, 0, 4595172819793696085), (1, 4, 1, 4596674019669486251), (1, 4, 2, 4598175219545276416), (1, 4, 3, 4598925819483171499), (1, 5, 0, 4595172819793696085), (1, 5, 1, 4596373779694328219), (1, 5, 2, 4597574739594960349), (1, 5, 3, 4598475459520434449), (1, 5, 4, 4599075939470750515), (1, 6, 0, 4595172819793696085), (1, 6, 1, 4596173619710889528), (1, 6, 2, 4597174419628082973), (1, 6, 3, 4598175219545276416), (1, 6, 4, 4598675619503873137), (1, 6, 5, 4599176019462469860), (1, 7, 0, 4595172819793696085), (1, 7, 1, 4596030648294147608), (1, 7, 2, 4596888476794599131), (1, 7, 3, 4597746305295050653), (1, 7, 4, 4598389676670389296), (1, 7, 5, 4598818590920615059), (1, 7, 6, 4599247505170840820), (1, 8, 0, 4595172819793696085), (1, 8, 1, 4595923419731591168), (1, 8, 2, 4596674019669486251), (1, 8, 3, 4597424619607381333), (1, 8, 4, 4598175219545276416), (1, 8, 5, 4598550519514223957), (1, 8, 6, 4598925819483171499), (1, 8, 7, 4599301119452119040), (2, 1, 0, 4599676419421066581), (2, 2, 0, 4599676419421066581), (2, 2, 1, 4601177619296856747), (2, 3, 0, 4599676419421066581), (2, 3, 1, 4600677219338260025), (2, 3, 2, 4601678019255453468), (2, 4, 0, 4599676419421066581), (2, 4, 1, 4600427019358961664), (2, 4, 2, 4601177619296856747), (2, 4, 3, 4601928219234751829), (2, 5, 0, 4599676419421066581), (2, 5, 1, 4600276899371382648), (2, 5, 2, 4600877379321698713), (2, 5, 3, 4601477859272014780), (2, 5, 4, 4602078339222330845), (2, 6, 0, 4599676419421066581), (2, 6, 1, 4600176819379663303), (2, 6, 2, 4600677219338260025), (2, 6, 3, 4601177619296856747), (2, 6, 4, 4601678019255453468), (2, 6, 5, 4602178419214050191), (2, 7, 0, 4599676419421066581), (2, 7, 1, 4600105333671292343), (2, 7, 2, 4600534247921518104), (2, 7, 3, 4600963162171743867), (2, 7, 4, 4601392076421969628), (2, 7, 5, 4601820990672195389), (2, 7, 6, 4602249904922421151), (2, 8, 0, 4599676419421066581), (2, 8, 1, 4600051719390014123), (2, 8, 2, 4600427019358961664), (2, 8, 3, 4600802319327909205), (2, 8, 4, 4601177619296856747), (2, 8, 5, 4601552919265804288), (2, 8, 6, 4601928219234751829), (2, 8, 7, 4602303519203699371), (3, 1, 0, 4602678819172646912), (3, 2, 0, 4602678819172646912), (3, 2, 1, 4603429419110541995), (3, 3, 0, 4602678819172646912), (3, 3, 1, 4603179219131243633), (3, 3, 2, 4603679619089840356), (3, 4, 0, 4602678819172646912), (3, 4, 1, 4603054119141594453), (3, 4, 2, 4603429419110541995), (3, 4, 3, 4603804719079489536), (3, 5, 0, 4602678819172646912), (3, 5, 1, 4602979059147804945), (3, 5, 2, 4603279299122962979), (3, 5, 3, 4603579539098121011), (3, 5, 4, 4603879779073279044), (3, 6, 0, 4602678819172646912), (3, 6, 1, 4602929019151945273), (3, 6, 2, 4603179219131243633), (3, 6, 3, 4603429419110541995), (3, 6, 4, 4603679619089840356), (3, 6, 5, 4603929819069138716), (3, 7, 0, 4602678819172646912), (3, 7, 1, 4602893276297759793), (3, 7, 2, 4603107733422872673), (3, 7, 3, 4603322190547985555), (3, 7, 4, 4603536647673098435), (3, 7, 5, 4603751104798211316), (3, 7, 6, 4603965561923324196), (3, 8, 0, 4602678819172646912), (3, 8, 1, 4602866469157120683), (3, 8, 2, 4603054119141594453), (3, 8, 3, 4603241769126068224), (3, 8, 4, 4603429419110541995), (3, 8, 5, 4603617069095015765), (3, 8, 6, 4603804719079489536), (3, 8, 7, 4603992369063963307), (4, 1, 0, 4604180019048437077), (4, 2, 0, 4604180019048437077), (4, 2, 1, 4604930618986332160), (4, 3, 0, 4604180019048437077), (4, 3, 1, 4604680419007033799), (4, 3, 2, 4605180818965630521), (4, 4, 0, 4604180019048437077), (4, 4, 1, 4604555319017384619), (4, 4, 2, 4604930618986332160), (4, 4, 3, 4605305918955279701), (4, 5, 0, 4604180019048437077), (4, 5, 1, 4604480259023595111), (4, 5, 2, 4604780498998753144), (4, 5, 3, 4605080738973911176), (4, 5, 4, 4605380978949069209), (4, 6, 0, 4604180019048437077), (4, 6, 1, 4604430219027735439), (4, 6, 2, 4604680419007033799), (4, 6, 3, 4604930618986332160), (4, 6, 4, 4605180818965630521), (4, 6, 5, 4605431018944928881), (4, 7, 0, 4604180019048437077), (4, 7, 1, 4604394476173549959), (4, 7, 2, 4604608933298662839), (4, 7, 3, 4604823390423775720), (4, 7, 4, 4605037847548888600), (4, 7, 5, 4605252304674001481), (4, 7, 6, 4605466761799114361), (4, 8, 0, 4604180019048437077), (4, 8, 1, 4604367669032910848), (4, 8, 2, 4604555319017384619), (4, 8, 3, 4604742969001858389), (4, 8, 4, 4604930618986332160), (4, 8, 5, 4605118268970805931), (4, 8, 6, 4605305918955279701), (4, 8, 7, 4605493568939753472), (5, 1, 0, 4605681218924227243), (5, 2, 0, 4605681218924227243), (5, 2, 1, 4606431818862122325), (5, 3, 0, 4605681218924227243), (5, 3, 1, 4606181618882823964), (5, 3, 2, 4606682018841420686), (5, 4, 0, 4605681218924227243), (5, 4, 1, 4606056518893174784), (5, 4, 2, 4606431818862122325), (5, 4, 3, 4606807118831069867), (5, 5, 0, 4605681218924227243), (5, 5, 1, 4605981458899385276), (5, 5, 2, 4606281698874543309), (5, 5, 3, 4606581938849701342), (5, 5, 4, 4606882178824859375), (5, 6, 0, 4605681218924227243), (5, 6, 1, 4605931418903525604), (5, 6, 2, 4606181618882823964), (5, 6, 3, 4606431818862122325), (5, 6, 4, 4606682018841420686), (5, 6, 5, 4606932218820719047), (5, 7, 0, 4605681218924227243), (5, 7, 1, 4605895676049340123), (5, 7, 2, 4606110133174453004), (5, 7, 3, 4606324590299565885), (5, 7, 4, 4606539047424678766), (5, 7, 5, 4606753504549791646), (5, 7, 6, 4606967961674904527), (5, 8, 0, 4605681218924227243), (5, 8, 1, 4605868868908701013), (5, 8, 2, 4606056518893174784), (5, 8, 3, 4606244168877648555), (5, 8, 4, 4606431818862122325), (5, 8, 5, 4606619468846596096), (5, 8, 6, 4606807118831069867), (5, 8, 7, 4606994768815543637)]
noncomputable def hb (s r f : Nat) : UInt64 := hueOf (pt (r, s, f)).1 (pt (r, s, f)).2.1 (pt (r, s, f)).2.2
noncomputable def beqB (a b : Bool) : Bool := match a with | true => b | false => !b
noncomputable def eq4 (p q : Nat × Nat × Nat × Nat) : Bool := Nat.beq p.1 q.1 && Nat.beq p.2.1 q.2.1 && Nat.beq p.2.2.1 q.2.2.1 && Nat.beq p.2.2.2 q.2.2.2
theorem eq4_eq {p q : Nat × Nat × Nat × Nat} (h : eq4 p q = true) : p = q := by
  unfold eq4 at h
  simp only [Bool.and_eq_true, Nat.beq_eq] at h
  obtain ⟨⟨⟨h1, h2⟩, h3⟩, h4⟩ := h
  exact Prod.ext h1 (Prod.ext h2 (Prod.ext h3 h4))
noncomputable def hueR (s : Nat) : Bool := below 9 fun r => below r fun f => hueT.any fun q => eq4 (s, r, f, (hb s r f).toNat) q
theorem hueOk0 : hueR 0 = true := by kernel_rfl
theorem hueOk1 : hueR 1 = true := by kernel_rfl
theorem hueOk2 : hueR 2 = true := by kernel_rfl
theorem hueOk3 : hueR 3 = true := by kernel_rfl
theorem hueOk4 : hueR 4 = true := by kernel_rfl
theorem hueOk5 : hueR 5 = true := by kernel_rfl
theorem hueAll : ∀ s, s < 6 → hueR s = true
  | 0, _ => hueOk0
  | 1, _ => hueOk1
  | 2, _ => hueOk2
  | 3, _ => hueOk3
  | 4, _ => hueOk4
  | 5, _ => hueOk5
  | s + 6, h => absurd h (Nat.not_lt.mpr (Nat.le_add_left 6 s))
theorem hue_in {s r f : Nat} (hs : s < 6) (hr : r < 9) (hf : f < r) : (s, r, f, (hb s r f).toNat) ∈ hueT := by
  have h := hueAll s hs
  unfold hueR at h
  obtain ⟨q, hq, e⟩ := List.any_eq_true.mp (below_of (below_of h hr) hf)
  rw [eq4_eq e]; exact hq
theorem hue_pairs : (hueT.all fun p => hueT.all fun q => beqB (Nat.beq p.2.2.2 q.2.2.2) (Nat.beq p.1 q.1 && Nat.beq (p.2.2.1 * q.2.1) (q.2.2.1 * p.2.1))) = true := by kernel_rfl
end Mine
end
-- text H2
section
open PySem PySem.W PySem.Calls PyProof.Rows
set_option maxRecDepth 100000
set_option maxHeartbeats 8000000
namespace Mine
noncomputable def ordB (x : Nat) : Bool := Nat.beq x 0 || (Nat.beq (x / 2 ^ 63) 0 && Nat.ble 1 (x / 2 ^ 52 % 2048) && Nat.ble (x / 2 ^ 52 % 2048) 2046)
theorem dec_of {x : UInt64} (h : ordB x.toNat = true) : ∃ m e, Float64.decode x = .fin false m e ∧ ((m = 0 ∧ x.toNat = 0 ∧ e = -1074) ∨ (2 ^ 52 ≤ m ∧ m < 2 ^ 53 ∧ (x.toNat : Int) = (e + 1075) * 2 ^ 52 + (m - 2 ^ 52 : Int) ∧ -1074 ≤ e)) := by
  unfold ordB at h
  simp only [Bool.or_eq_true, Bool.and_eq_true, Nat.beq_eq, Nat.ble_eq] at h
  unfold Float64.decode
  rcases h with h | ⟨⟨h1, h2⟩, h3⟩
  · rw [h]
    exact ⟨0, -1074, rfl, .inl ⟨rfl, rfl, rfl⟩⟩
  · refine ⟨2 ^ 52 + x.toNat % 2 ^ 52, ((x.toNat / 2 ^ 52 % 2048 : Nat) : Int) - 1075, ?_, .inr ⟨by omega, by omega, by omega, by omega⟩⟩
    dsimp only
    rw [h1, if_neg (by simp; omega), if_neg (by simp; omega)]
    rfl
theorem cmp_eq {x y : UInt64} (hx : ordB x.toNat = true) (hy : ordB y.toNat = true) (h : Float64.cmp x y = some Ordering.eq) : x.toNat = y.toNat := by
  obtain ⟨m, e, dx, cx⟩ := dec_of hx
  obtain ⟨k, f, dy, cy⟩ := dec_of hy
  unfold Float64.cmp at h
  rw [dx, dy] at h
  dsimp only at h
  unfold Float64.align Float64.sgn at h
  simp only [Bool.false_eq_true, if_false, Option.some.injEq] at h
  have h' : ((m * 2 ^ (e - min e f).toNat : Nat) : Int) = ((k * 2 ^ (f - min e f).toNat : Nat) : Int) := by
    exact Std.LawfulEqCmp.eq_of_compare h
  have h2 : m * 2 ^ (e - min e f).toNat = k * 2 ^ (f - min e f).toNat := Int.ofNat.inj h'
  clear h h' dx dy hx hy
  rcases Int.lt_trichotomy e f with hl | hl | hl
  · rw [show min e f = e by omega, show (e - e).toNat = 0 by omega, Nat.pow_zero, Nat.mul_one] at h2
    obtain ⟨d, hd⟩ : ∃ d, (f - e).toNat = d + 1 := ⟨(f - e).toNat - 1, by omega⟩
    rw [hd, Nat.pow_succ] at h2
    have hp : 1 ≤ 2 ^ d := Nat.one_le_two_pow
    have hq : k * 2 ≤ m := by
      rw [h2]
      calc k * 2 = k * (1 * 2) := by omega
        _ ≤ k * (2 ^ d * 2) := Nat.mul_le_mul (Nat.le_refl _) (Nat.mul_le_mul hp (Nat.le_refl _))
    rcases cx with cx | cx <;> rcases cy with cy | cy <;> omega
  · subst hl
    rw [show min e e = e by omega, show (e - e).toNat = 0 by omega, Nat.pow_zero, Nat.mul_one, Nat.mul_one] at h2
    rcases cx with cx | cx <;> rcases cy with cy | cy <;> omega
  · rw [show min e f = f by omega, show (f - f).toNat = 0 by omega, Nat.pow_zero, Nat.mul_one] at h2
    obtain ⟨d, hd⟩ : ∃ d, (e - f).toNat = d + 1 := ⟨(e - f).toNat - 1, by omega⟩
    rw [hd, Nat.pow_succ] at h2
    have hp : 1 ≤ 2 ^ d := Nat.one_le_two_pow
    have hq : m * 2 ≤ k := by
      rw [← h2]
      calc m * 2 = m * (1 * 2) := by omega
        _ ≤ m * (2 ^ d * 2) := Nat.mul_le_mul (Nat.le_refl _) (Nat.mul_le_mul hp (Nat.le_refl _))
    rcases cx with cx | cx <;> rcases cy with cy | cy <;> omega
theorem hue_ord : (hueT.all fun p => ordB p.2.2.2) = true := by decide +kernel
theorem pt_lt {s r f : Nat} (hr : r < 9) (hf : f < r) : (pt (r, s, f)).1 < 11 ∧ (pt (r, s, f)).2.1 < 11 ∧ (pt (r, s, f)).2.2 < 11 := by
  have key : ∀ a b : Nat, a ≤ 1 → b ≤ 1 → (r - f) * a + f * b < 11 := by
    intro a b ha hb
    have h1 : (r - f) * a ≤ (r - f) * 1 := Nat.mul_le_mul (Nat.le_refl _) ha
    have h2 : f * b ≤ f * 1 := Nat.mul_le_mul (Nat.le_refl _) hb
    omega
  have st : ∀ i, (stp i).1 ≤ 1 ∧ (stp i).2.1 ≤ 1 ∧ (stp i).2.2 ≤ 1 := by
    intro i; unfold stp; split <;> decide
  exact ⟨key _ _ (st _).1 (st _).1, key _ _ (st _).2.1 (st _).2.1, key _ _ (st _).2.2 (st _).2.2⟩
theorem hue_ne {s r f s' r' f' : Nat} (hs : s < 6) (hr : r < 9) (hf : f < r) (hs' : s' < 6) (hr' : r' < 9) (hf' : f' < r') :
    (Float64.cmp (hb s r f) (hb s' r' f') != some Ordering.eq) = dirNe (r, s, f) (r', s', f') := by
  have i1 := hue_in hs hr hf
  have i2 := hue_in hs' hr' hf'
  have o1 := List.all_eq_true.mp hue_ord _ i1
  have o2 := List.all_eq_true.mp hue_ord _ i2
  have pr := List.all_eq_true.mp (List.all_eq_true.mp hue_pairs _ i1) _ i2
  dsimp only at o1 o2 pr
  have db : dirNe (r, s, f) (r', s', f') = !(Nat.beq s s' && Nat.beq (f * r') (f' * r)) := rfl
  rw [db]
  cases hd : (Nat.beq s s' && Nat.beq (f * r') (f' * r)) with
  | true =>
    rw [hd] at pr
    have e : Nat.beq (hb s r f).toNat (hb s' r' f').toNat = true := by
      cases h : Nat.beq (hb s r f).toNat (hb s' r' f').toNat with
      | true => rfl
      | false => rw [h] at pr; cases pr
    have e2 : hb s r f = hb s' r' f' := UInt64.toNat_inj.mp (Nat.eq_of_beq_eq_true e)
    rw [← e2]
    have l := pt_lt (s := s) hr hf
    have := hue_self l.1 l.2.1 l.2.2
    show (Float64.cmp (hueOf _ _ _) (hueOf _ _ _) != _) = _
    rw [this]; rfl
  | false =>
    rw [hd] at pr
    have e : Nat.beq (hb s r f).toNat (hb s' r' f').toNat = false := by
      cases h : Nat.beq (hb s r f).toNat (hb s' r' f').toNat with
      | false => rfl
      | true => rw [h] at pr; cases pr
    have ne : Float64.cmp (hb s r f) (hb s' r' f') ≠ some Ordering.eq := fun h => by
      have := cmp_eq o1 o2 h
      rw [this] at e
      rw [Nat.beq_refl] at e; cases e
    simpa using ne
end Mine
end
-- text Z2
section
open PySem PySem.W PySem.Calls PyProof.Rows PyProof.Rows.LCg PySem.Spec
set_option maxRecDepth 100000
set_option maxHeartbeats 8000000
namespace Mine
section
variable {prog : Program} {w : World} {A : Around} {E : Value → Shared → Prop} {s : Shared} {env : Env} {h₀ : Heap} {L : Addr} {m : Str → Option Value} {news : List (Addr × Obj)}
noncomputable def cellObj (v : Option Value) : Obj := { cls := .type "cell", data := .cell v }
theorem newEnv_cell {scope : Scope} {cl : List (Str × Addr)} {x : Str} {globals : Addr} {qual : Str} {Q : Env → Shared → Prop}
    (hcf : ∀ n, cellsFrom n scope.names cl = (x, n) :: cl) (hpc : ∀ h, pushCells h scope.names = h.push (cellObj none))
    (hQ : Q (newEnv scope s.heap.objs.size globals ((x, s.heap.objs.size + 1) :: cl) qual none .none (some env) builtinsNs) { s with heap := (s.heap.push { cls := .type "dict", data := .dict #[] }).push (cellObj none) }) :
    wpAny (model prog w) A (newFunctionEnv scope globals cl [] qual none .none (some env)) Q E s := by
  simp only [newFunctionEnv, Option.isSome_some, if_true]
  refine wpAny_bind (wpAny_alloc ?_)
  refine wpAny_bind (wpAny_layCells _ (fun name kind cells => by cases hkc : kind == NameKind.cell <;> simp [hkc]) _ _ _ _ ?_)
  rw [hcf, hpc]
  refine wpAny_bind (wpAny_pure (wpAny_pure ?_))
  rw [show ({ s with heap := s.heap.push { cls := .type "dict", data := .dict #[] } } : Shared).heap.objs.size = s.heap.objs.size + 1 from Heap.size_push ..]
  exact hQ
end
end Mine
end
-- text Z3
section
open PySem PySem.W PySem.Calls PyProof.Rows PyProof.Rows.LCg PySem.Spec
set_option maxRecDepth 100000
set_option maxHeartbeats 8000000
namespace Mine
section
variable {prog : Program} {w : World} {A : Around} {E : Value → Shared → Prop} {s : Shared} {env : Env} {h₀ : Heap} {L : Addr} {m : Str → Option Value} {news : List (Addr × Obj)}
theorem news_cons' {g h : Heap} {L D : Addr} {o : Obj} {news : List (Addr × Obj)} (hg : h.get? D = some o) (hL : D ≠ L) (hD : g.get? D = none) (N : News g L h news) : News g L h ((D, o) :: news) := List.forall_mem_cons.mpr ⟨⟨hg, hL, hD⟩, N⟩
theorem news_same {g h h' : Heap} {L a : Addr} {l : List (Addr × Obj)} (N : News g L h l) (hs : ∀ b o, b ≠ a → h.get? b = some o → h'.get? b = some o) (hn : ∀ p ∈ l, p.1 ≠ a) : News g L h' l := fun p hp => ⟨hs _ _ (hn p hp) (N p hp).1, (N p hp).2⟩
theorem cell_assign {elt iter : PySem.Expr} {x y : Str} {px py : Pos} {scope : Scope} {cl : List (Str × Addr)} {pos spos : Pos} {Q : Flow → Shared → Prop} (f : Nat → Int) (n : Nat)
    (hLe : env.locals = L) (hb : env.builtins = builtinsNs)
    (hsw : swapsWith (.ListComp elt [⟨.Name x px, iter, [], 0⟩] scope pos) (some (.Name y py)) spos.line env = pure true)
    (hclos : closureFor scope env = pure cl) (hcf : ∀ n, cellsFrom n scope.names cl = (x, n) :: cl) (hpc : ∀ h, pushCells h scope.names = h.push (cellObj none)) (hkind : scope.kind = .function)
    (hnames : ∀ z ∈ scope.names, z.2 = .local → scope.names.lookup z.1 = some .local) (hkx : ∀ C K, (compEnvC scope ((x, K) :: cl) C env).kindOf x = some .cell)
    (hy : env.kindOf y = some .local) (hp : (env.scope.kind == .class || (env.scope.kind == .module && env.locals != env.globals)) = false) (hh : A.handled = none) (hsz : n ≤ sizeLine)
    (h : wpAny (model prog w) A (eval iter env) (fun xv s₁ => ∃ r t u v, xv = .ref r ∧ IsRange s₁.heap r 0 (n : Int) 1 t u v ∧ Builtin.Range.small 0 (n : Int) 1 = true ∧ Builtin.Range.rangeSize 0 (n : Int) 1 = (n : Int) ∧ Fr h₀ L s₁.heap m ∧ News h₀ L s₁.heap news ∧
      (∀ (i : Nat) (t : Tok) (I : Addr) (oI : Obj) (D : Addr) (vs : List Value) (C : Addr) (oC : Obj) (K : Addr) (oK : Obj) (h : Heap) (tk : Nat) (E' : Value → Shared → Prop), i < n → oK.data = .cell (some (.int (i : Int) t)) → Fr h₀ L h m → News h₀ L h ((K, oK) :: (I, oI) :: (D, lst vs) :: (C, oC) :: news) →
        wpAny (model prog w) A (eval elt (compEnvC scope ((x, K) :: cl) C env)) (fun y s' => ∃ h' tk' t', y = .int (f i) t' ∧ s' = { s₁ with heap := h', toks := tk' } ∧ Fr h₀ L h' m ∧ News h₀ L h' ((K, oK) :: (I, oI) :: (D, lst vs) :: (C, oC) :: news)) E' { s₁ with heap := h, toks := tk }) ∧
      (∀ D h' tk vs, Fr h₀ L h' (fun z => if z = y then some (.ref D) else m z) → News h₀ L h' ((D, lst vs) :: news) → (∀ p ∈ news, @LT.lt Nat _ p.1 D) → IntsAre vs ((List.range n).map f) → Q .next { s₁ with heap := h', toks := tk })) E s)
    (hs : ∀ x, foldedSetIterable iter env x = pure x := by intro _; rfl) :
    wpAny (model prog w) A (exec (.Assign [.Name y py] (.ListComp elt [⟨.Name x px, iter, [], 0⟩] scope pos) spos) env) Q E s := by
  subst hLe
  rw [exec_Assign_Name_used _ _ _ _ hsw]
  refine wpAny_bind (wpAny_standAt (wpAny_bind ?_))
  show wpAny _ A (do let _ ← comprehension (.ListComp elt [⟨.Name x px, iter, [], 0⟩] scope pos) scope env _ (newList []) false (eval iter env) (some (assign (.Name y py) env))) _ _ s
  refine wpAny_bind (wpAny_mono (wpAny_comprehension_free (use := some (assign (.Name y py) env)) (Q := fun _ s' => Q .next s') rfl hs hclos hkind hnames
    (wpAny_mono h (fun xv s₁ h₁ => ?_) fun _ _ e => e)) (fun _ s' hq => wpAny_pure (wpAny_pure hq)) fun _ _ e => e)
  obtain ⟨r, t0, u0, v0, rfl, hr, hsm, hn, F, N, helt, hQ⟩ := h₁
  refine wpAny_pyIter_range hr hsm ?_
  refine wpAny_newObj_type (newEnv_cell hcf hpc ?_)
  have z1 : (s₁.heap.push { cls := .type "range_iterator", data := .fields #[rawInt 0, rawInt (Builtin.Range.rangeSize 0 (n : Int) 1), rawInt 1] }).objs.size = s₁.heap.objs.size + 1 := Heap.size_push ..
  have new0 := new_addr F N
  have nlt : ∀ p ∈ news, @LT.lt Nat _ p.1 s₁.heap.objs.size := fun p hp => Heap.lt_size (N p hp).1
  have Llt : @LT.lt Nat _ env.locals s₁.heap.objs.size := F.ns.lt
  have fresh₀ : ∀ a : Nat, s₁.heap.objs.size ≤ a → h₀.get? a = none := fun a ha => by
    cases e : h₀.get? a with
    | none => rfl
    | some o' => exact absurd (Heap.lt_size (F.keep a o' e)) (Nat.not_lt.mpr ha)
  have z0 : @Eq Nat s₁.heap.objs.size s₁.heap.objs.size := rfl
  generalize hH1 : s₁.heap.push { cls := .type "range_iterator", data := .fields #[rawInt 0, rawInt (Builtin.Range.rangeSize 0 (n : Int) 1), rawInt 1] } = H1 at z1
  have gI : H1.get? s₁.heap.objs.size = some { cls := .type "range_iterator", data := .fields #[rawInt 0, rawInt (Builtin.Range.rangeSize 0 (n : Int) 1), rawInt 1] } := hH1 ▸ Heap.get?_push_size _ rfl
  have old1 : ∀ b o, s₁.heap.get? b = some o → H1.get? b = some o := fun b o e => hH1 ▸ Heap.get?_push_of_some _ e
  generalize s₁.heap.objs.size = I at *
  obtain ⟨n1, n2, n3⟩ := new0
  have z2 : (H1.push { cls := .type "list", dict := none, data := .seq ([] : List Value).toArray }).objs.size = I + 2 := by rw [Heap.size_push, z1]
  have z3 : ((H1.push { cls := .type "list", dict := none, data := .seq ([] : List Value).toArray }).push { cls := .type "dict", data := .dict #[] }).objs.size = I + 3 := by rw [Heap.size_push, z2]
  generalize hH4 : ((H1.push { cls := .type "list", dict := none, data := .seq ([] : List Value).toArray }).push { cls := .type "dict", data := .dict #[] }).push (cellObj none) = H4
  have gD : H4.get? (I + 1) = some (lst []) := by
    rw [← hH4]; exact Heap.get?_push_of_some _ (Heap.get?_push_of_some _ (by rw [← z1]; exact Heap.get?_push_size _ rfl))
  have gC : H4.get? (I + 2) = some { cls := .type "dict", data := .dict #[] } := by
    rw [← hH4]; exact Heap.get?_push_of_some _ (by rw [← z2]; exact Heap.get?_push_size _ rfl)
  have gK : H4.get? (I + 3) = some (cellObj none) := by
    rw [← hH4, ← z3]; exact Heap.get?_push_size _ rfl
  have old4 : ∀ b o, H1.get? b = some o → H4.get? b = some o := fun b o e => by
    rw [← hH4]; exact Heap.get?_push_of_some _ (Heap.get?_push_of_some _ (Heap.get?_push_of_some _ e))
  have nsC : H4.Ns (I + 2) fun _ => none := ⟨_, _, _, gC, rfl, (fun _ h => nomatch h), fun _ => rfl⟩
  dsimp only
  rw [z1, z2]
  have W := LCg.range_walks (prog := prog) (w := w) (I := I) hh 0 n
  have loop : ∀ s₃ : Shared, (∃ tk, s₃ = { s₁ with heap := H4, toks := tk }) →
      codeAny (model prog w) A (.compLoop (.ListComp elt [⟨.Name x px, iter, [], 0⟩] scope pos) 0 (.ref I) (.ref (I + 1)) (compEnvC scope ((x, I + 3) :: cl) (I + 2) env))
        (compPost (model prog w) A E (some (assign (.Name y py) env)) (fun _ s' => Q .next s') (.ref (I + 1)) (I + 2)) s₃ := by
    rintro s₃ ⟨tk3, rfl⟩
    have F4 : Fr h₀ env.locals H4 m := F.keeps fun b o e => old4 b o (old1 b o e)
    have N4 : News h₀ env.locals H4 news := N.grown fun b o e => old4 b o (old1 b o e)
    have hIL : env.locals ≠ I := n2
    have LD : I + 1 ≠ env.locals := by show (@Ne Nat (I + 1) env.locals); omega
    have LC : I + 2 ≠ env.locals := by show (@Ne Nat (I + 2) env.locals); omega
    have LK : I + 3 ≠ env.locals := by show (@Ne Nat (I + 3) env.locals); omega
    have hD0 : h₀.get? (I + 1) = none := fresh₀ _ (by omega)
    have hC0 : h₀.get? (I + 2) = none := fresh₀ _ (by omega)
    have hK0 : h₀.get? (I + 3) = none := fresh₀ _ (by omega)
    have offn : ∀ a : Nat, I ≤ a → ∀ p ∈ news, p.1 ≠ a := fun a ha p hp => by
      have := nlt p hp
      show (@Ne Nat p.1 a)
      omega
    refine codeAny_compLoop_tests
      (fun k s' => ∃ h' tk i vs oC oK m', s' = { s₁ with heap := h', toks := tk } ∧ i ≤ n ∧ k = n + 1 - i ∧ vs.length = i ∧ IntsAre vs ((List.range i).map f) ∧ IsRangeIter h' I (0 + (i : Nat) * 1) ((n : Int) - (i : Nat)) 1 ∧ Fr h₀ env.locals h' m ∧
        News h₀ env.locals h' ((I + 3, oK) :: (I + 1, lst vs) :: (I + 2, oC) :: news) ∧ (∃ c, oK.data = .cell c) ∧ NsObj oC m') ?_ (n + 1)
      ⟨H4, _, 0, [], { cls := .type "dict", data := .dict #[] }, cellObj none, fun _ => none, rfl, Nat.zero_le _, rfl, rfl, .nil, ?_, F4, ?_, ⟨none, rfl⟩, ⟨_, _, rfl, (fun _ h => nomatch h), fun _ => rfl⟩⟩
    · rintro k s' ⟨h', tk, i, vs, oC, oK, m', rfl, hi, rfl, hvl, hvi, hst, F', N', ⟨cK, hcK⟩, hoC⟩
      by_cases hlt : i < n
      · refine W.item i _ _ _ hlt hst fun v h₂ tk₂ hPv hst₂ hk₂ => ?_
        obtain ⟨t, rfl⟩ := hPv
        have keep2 : ∀ b o, b ≠ I → h'.get? b = some o → h₂.get? b = some o := fun b o hb e => hk₂ b o (by simpa using hb) e
        have N2 : News h₀ env.locals h₂ ((I + 3, oK) :: (I + 1, lst vs) :: (I + 2, oC) :: news) := news_same N' keep2 fun p hp => by
          rcases List.mem_cons.mp hp with rfl | hp
          · show (@Ne Nat (I + 3) I); omega
          rcases List.mem_cons.mp hp with rfl | hp
          · show (@Ne Nat (I + 1) I); omega
          rcases List.mem_cons.mp hp with rfl | hp
          · show (@Ne Nat (I + 2) I); omega
          · exact offn I (Nat.le_refl _) p hp
        have F2 : Fr h₀ env.locals h₂ m := Mine.fr_but F' n1 hIL (fun b o hb e => keep2 b o (by simpa using hb) e)
        refine wpAny_assign_Name (wpAny_storeName_cell (c := I + 3) (v₀ := cK) (by simp [compEnvC, relabel, hkind]) (hkx _ _) (by simp [compEnvC]) ⟨oK, (N2 _ (.head _)).1, hcK⟩ fun h₃ hc₃ hs₃ => ?_)
        obtain ⟨oK', gK', hK'⟩ := hc₃
        rw [Int.zero_add] at hK'
        refine wpAny_tests_nil ?_
        simp only [if_true]
        have F3 : Fr h₀ env.locals h₃ m := F2.change hs₃ LK hK0
        have hst₃ : IsRangeIter h₃ I (0 + ((i + 1 : Nat) : Int) * 1) ((n : Int) - ((i + 1 : Nat) : Int)) 1 := hs₃.extBut _ _ (by show (@Ne Nat I (I + 3)); omega) hst₂
        have N3t : News h₀ env.locals h₃ ((I + 1, lst vs) :: (I + 2, oC) :: news) := news_same (news_tail N2) (fun b o hb e => hs₃.extBut b o hb e) fun p hp => by
          rcases List.mem_cons.mp hp with rfl | hp
          · show (@Ne Nat (I + 1) (I + 3)); omega
          rcases List.mem_cons.mp hp with rfl | hp
          · show (@Ne Nat (I + 2) (I + 3)); omega
          · exact offn (I + 3) (by omega) p hp
        have N3 := news_cons' (o := oK') gK' LK hK0 (news_cons' hst₃ (Ne.symm hIL) n1 N3t)
        refine wpAny_mono (helt i t I _ (I + 1) vs (I + 2) oC (I + 3) oK' h₃ _ _ hlt hK' F3 N3) (fun yv s₄ h₄ => ?_) fun _ _ e => e
        obtain ⟨h₄, tk₄, t', rfl, rfl, F5, N5⟩ := h₄
        have zD := (N5 (I + 1, lst vs) (.tail _ (.tail _ (.head _)))).1
        refine append_at (hsz := by show vs.toArray.size ≤ sizeLine; rw [List.size_toArray, hvl]; exact Nat.le_trans hi hsz) zD fun h₆ hs₆ hD₆ => ?_
        have hst₆ : IsRangeIter h₆ I (0 + ((i + 1 : Nat) : Int) * 1) ((n : Int) - ((i + 1 : Nat) : Int)) 1 := hs₆.extBut _ _ (by show (@Ne Nat I (I + 1)); omega) (N5 (I, _) (.tail _ (.head _))).1
        have N6t : News h₀ env.locals h₆ ((I + 2, oC) :: news) := news_same (news_tail (news_tail (news_tail N5))) (fun b o hb e => hs₆.extBut b o hb e) fun p hp => by
          rcases List.mem_cons.mp hp with rfl | hp
          · show (@Ne Nat (I + 2) (I + 1)); omega
          · exact offn (I + 1) (by omega) p hp
        have gK6 := hs₆.extBut _ _ (by show (@Ne Nat (I + 3) (I + 1)); omega) (N5 (I + 3, oK') (.head _)).1
        refine ⟨n + 1 - (i + 1), by omega, h₆, tk₄, i + 1, vs ++ [.int (f i) t'], oC, oK', m', rfl, hlt, rfl, by rw [List.length_append, List.length_singleton, hvl], ?_, hst₆, F5.change hs₆ LD hD0,
          news_cons' gK6 LK hK0 (news_cons' (hD₆.trans (congrArg some (lst_snoc vs _))) LD hD0 N6t), ⟨_, hK'⟩, hoC⟩
        rw [List.range_succ, List.map_append]
        exact hvi.append (.cons _ _ .nil)
      · obtain rfl : i = n := Nat.le_antisymm hi (Nat.not_lt.mp hlt)
        refine W.done _ _ _ hst fun h₂ tk₂ hk₂ => ?_
        have keep2 : ∀ b o, b ≠ I → h'.get? b = some o → h₂.get? b = some o := fun b o hb e => hk₂ b o (by simpa using hb) e
        have N2 : News h₀ env.locals h₂ ((I + 1, lst vs) :: (I + 2, oC) :: news) := news_same (news_tail N') keep2 fun p hp => by
          rcases List.mem_cons.mp hp with rfl | hp
          · show (@Ne Nat (I + 1) I); omega
          rcases List.mem_cons.mp hp with rfl | hp
          · show (@Ne Nat (I + 2) I); omega
          · exact offn I (Nat.le_refl _) p hp
        have F2 : Fr h₀ env.locals h₂ m := Mine.fr_but F' n1 hIL (fun b o hb e => keep2 b o (by simpa using hb) e)
        show wpAny _ A (assign (.Name y py) env (.ref (I + 1))) _ _ _
        refine wpAny_assign_Name (wpAny_storeName_local hy F2.ns (fun h₃ hn₃ hs₃ => ?_) hp)
        have hL₀ : h₀.get? env.locals = none := Heap.get?_none_of_le F2.above
        have F3 : Fr h₀ env.locals h₃ (fun z => if z = y then some (.ref (I + 1)) else m z) := ⟨hn₃, fun b o e => hs₃.extBut b o (fun q => by rw [q, hL₀] at e; cases e) (F2.keep b o e), F2.above⟩
        have N3 : News h₀ env.locals h₃ ((I + 1, lst vs) :: (I + 2, oC) :: news) := fun p hp => ⟨hs₃.extBut _ _ (N2 p hp).2.1 (N2 p hp).1, (N2 p hp).2⟩
        refine ⟨m', hoC.ns (N3 _ (.tail _ (.head _))).1, fun h'' hs'' => ?_⟩
        refine hQ (I + 1) h'' _ vs (F3.change hs'' LC hC0) ?_ (fun p hp => Nat.lt_succ_of_lt (nlt p hp)) hvi
        refine news_cons' (hs''.extBut _ _ (by show (@Ne Nat (I + 1) (I + 2)); omega) (N3 _ (.head _)).1) LD hD0 ?_
        exact news_same (news_tail (news_tail N3)) (fun b o hb e => hs''.extBut b o hb e) (offn (I + 2) (by omega))
    · show H4.get? I = some _
      rw [old4 _ _ gI, hn]; simp
    · exact news_cons' gK LK hK0 (news_cons' gD LD hD0 (news_cons' gC LC hC0 N4))
  exact codeAny_compStart_list (loop _ ⟨_, rfl⟩) (W.self 0 _ _ _ (by show H4.get? I = some _; rw [old4 _ _ gI, hn]; simp) (loop _ ⟨_, rfl⟩))
end
end Mine
end
section
open PySem PySem.W PySem.Calls PyProof.Rows
set_option maxRecDepth 100000
set_option maxHeartbeats 8000000
namespace Mine
local macro_rules | `(tactic| k_mem) => `(tactic| first | exact List.Mem.head _ | ((iterate 16 (try refine' List.Mem.tail _ ?_)); assumption))
local macro_rules | `(tactic| k_all) => `(tactic| with_reducible assumption)
section
local macro_rules | `(tactic| is_list) => `(tactic| exact News.isList (by k_asm) (by k_mem))
local macro_rules | `(tactic| k_ne) => `(tactic| first | with_reducible assumption | exact Mine.neL (by with_reducible assumption) | exact Mine.neN (by with_reducible assumption))
-- text K2
section
open PySem PySem.W PySem.Calls PyProof.Rows
set_option maxRecDepth 100000
set_option maxHeartbeats 8000000
local macro_rules | `(tactic| walk_at "call builtin:len") => `(tactic| refine Mine.stop ?_)
local macro_rules | `(tactic| walk_at "subscriptTail Name Slice ref ref") => `(tactic| refine Mine.stop ?_)
local macro_rules | `(tactic| walk_at "binaryOp Add ref ref") => `(tactic| refine Mine.stop ?_)
local macro_rules | `(tactic| walk_at "eval ListComp") => `(tactic| refine Mine.stop ?_)
theorem seg_draw (w : World) : Seg w 0 2 P0 T1' := by
  unfold Seg
  k_fill
  intro _ mean mg mb h₀ L s E X T B hP
  obtain ⟨D, vs, ns, r, F, hL0, hI, hlen, U⟩ := hP
  have hL : s.heap.IsList D vs.toArray := F.lst hL0
  obtain ⟨o, r', led, NN, dn, e1, sub, ⟨qt, top⟩, back, _⟩ := U.take (Nat.add_lt_add_left (by decide : 1 < 13) L)
  clear U sub
  refine genQ fun QQ hQQ => ?_
  unfold lawEnv lawBody lawLit mkLit
  dsimp only [List.drop, List.take]
  k_steps
  refine ⟨?_⟩
  rename Fr _ _ _ _ => F8
  k_dflt (refine' comp_of F8 .int (fun _ => true) (fun i => .int (i.fmod 1000000)) ?hh ?hclos ?hcell ?hkind ?hnames ?hx ?hs ?_)
  (case hh => with_unfolding_all rfl)
  (case hclos => with_unfolding_all rfl)
  (case hcell => decide)
  (case hkind => with_unfolding_all rfl)
  (case hnames => decide)
  (case hx => with_unfolding_all rfl)
  (case hs => intro _; with_unfolding_all rfl)
  refine wpAny_compPack ?_
  k_steps
  refine ⟨?_⟩
  rename News _ _ _ _ => N8
  have hz := hI.length
  refine slice_list (by k_asm) N8 hL .none (.int _ _) ?_ (hsz := by rw [List.size_toArray, sizeLine_eq]; omega)
  intro h7 F7 N7
  have hI7 := slice_ints_uptoW hI (y := 10) (by decide)
  obtain ⟨ws, hws⟩ : ∃ ws : List Value, slicePick vs.toArray none (some 10) none = ws.toArray := ⟨_, Array.toArray_toList.symm⟩
  rw [hws] at N7 hI7
  simp only [Int.reduceToNat] at hI7
  have hL7 := N7.isList (List.mem_cons_self ..)
  have hz7 := hI7.length
  k_steps
  refine ⟨?_⟩
  intro D2 e2 ys h2 tk2 F2 N2 hne hC
  have n2 : @Ne Nat D2 (L + 1) := Ne.symm (hne (L + 1, _) (.tail _ (.head _)))
  clear hne
  replace N2 := news_cut_b N2
  have hyl : ys.length ≤ 10 := by
    have := hC.length_eq
    rw [this, List.length_map]
    exact Nat.le_trans (List.length_filter_le _ _) (List.length_take_le _ _)
  k_steps
  refine ⟨?_⟩
  rename Fr _ _ _ _ => F5
  rename News _ _ _ _ => N5
  refine call_len_list (N5.isList (List.mem_cons_of_mem _ (List.mem_cons_self ..))) (by rw [List.size_toArray]; omega) ?_
  k_steps
  refine ⟨?_⟩
  refine slice_list F5 N5 (N5.isList (List.mem_cons_self ..)) (.int _ _) .none ?_ (hsz := by rw [sizeLine_eq]; exact Nat.le_of_ble_eq_true rfl)
  intro h6 F6 N6
  have hI6 := slice_ints_fromW (vs := [.int 5 tk2, .int 0 (tk2 + 1), .int 2 (tk2 + 1 + 1), .int 7 (tk2 + 1 + 1 + 1), .int 209 (tk2 + 1 + 1 + 1 + 1), .int 7 (tk2 + 1 + 1 + 1 + 1 + 1), .int 37 (tk2 + 1 + 1 + 1 + 1 + 1 + 1), .int 12 (tk2 + 1 + 1 + 1 + 1 + 1 + 1 + 1), .int 40 (tk2 + 1 + 1 + 1 + 1 + 1 + 1 + 1 + 1), .int 26 (tk2 + 1 + 1 + 1 + 1 + 1 + 1 + 1 + 1 + 1)]) (ns := [5, 0, 2, 7, 209, 7, 37, 12, 40, 26]) (by repeat constructor) (Int.natCast_nonneg ys.toArray.size)
  obtain ⟨ws3, hws3⟩ : ∃ ws : List Value, slicePick #[.int 5 tk2, .int 0 (tk2 + 1), .int 2 (tk2 + 1 + 1), .int 7 (tk2 + 1 + 1 + 1), .int 209 (tk2 + 1 + 1 + 1 + 1), .int 7 (tk2 + 1 + 1 + 1 + 1 + 1), .int 37 (tk2 + 1 + 1 + 1 + 1 + 1 + 1), .int 12 (tk2 + 1 + 1 + 1 + 1 + 1 + 1 + 1), .int 40 (tk2 + 1 + 1 + 1 + 1 + 1 + 1 + 1 + 1), .int 26 (tk2 + 1 + 1 + 1 + 1 + 1 + 1 + 1 + 1 + 1)] (some (ys.toArray.size : Int)) none none = ws.toArray := ⟨_, Array.toArray_toList.symm⟩
  rw [hws3] at N6 hI6
  replace hI6 : IntsAre ws3 (List.drop (((List.take 10 ns).length : Nat) : Int).toNat [5, 0, 2, 7, 209, 7, 37, 12, 40, 26]) := by
    have : ys.toArray.size = (List.take 10 ns).length := by
      have := hC.length_eq
      rw [List.filter_eq_self.mpr (fun _ _ => rfl), List.length_map] at this
      simpa using this
    rw [this] at hI6
    exact hI6
  obtain ⟨d, t, hd, hdt⟩ := draw10 hC hI6
  have hw3 := hI6.length
  rw [List.length_drop, List.length_cons, List.length_cons, List.length_cons, List.length_cons, List.length_cons, List.length_cons, List.length_cons, List.length_cons, List.length_cons, List.length_cons, List.length_nil] at hw3
  k_steps
  refine ⟨?_⟩
  refine add_lists F6 N6 (N6.isList (List.mem_cons_of_mem _ (List.mem_cons_of_mem _ (List.mem_cons_self ..)))) (N6.isList (List.mem_cons_self ..)) ?_ (by rw [sizeLine_eq]; omega)
  intro h4 F4 N4
  rw [hdt] at N4
  have hz := new_addr F6 N6
  have n3 : @Ne Nat h6.objs.size (L + 1) := Ne.symm (hz.2.2 (L + 1, _) (.tail _ (.tail _ (.tail _ (.head _)))))
  have l3 := Heap.lt_size (N6 _ (List.mem_cons_of_mem _ (List.mem_cons_of_mem _ (List.mem_cons_of_mem _ (List.mem_cons_of_mem _ top))))).1
  replace N4 := news_cut_b (news_cut_b (news_cut_b N4))
  clear hC hI6 hz F5 N5 F6 N6
  k_steps
  rename Fr _ _ _ _ => F1
  rename News _ _ _ _ => N1
  rename _ = Data.cell (some (Value.ref h6.objs.size)) => dn1
  have U := back _ [_, _] N1 (List.forall_mem_cons.mpr ⟨.inr l3, List.forall_mem_cons.mpr ⟨.inl (Nat.lt_succ_self _), fun _ h => nomatch h⟩⟩)
  exact hQQ _ _ ⟨rfl, _, _, rfl, ⟨⟨frFun F1, d, t, h6.objs.size, _, 0, 0, 0, 0, 0, 0, 0, 0, 0, 0, 0, 0, 0, 0, 0, 0, 0, 0, 0, 0, 0, 0, 0, 0, 0, 0, 0, 0, 0, 0, 0, 0, 0, 0, 0, 0, 0, 0, 0, 0, 0, 0, 0, 0, 0, 0, 0, 0, 0, 0, 0, 0, 0, 0, 0, 0, 0, 0, 0, 0, 0, 0, 0, 0, 0, 0, 0, 0, 0, 0, 0, 0, 0, 0, 0, 0, 0, 0, 0, 0, 0, 0, 0, 0⟩, _, _, o, o, o, o, o, o, o, o⟩, r', ⟨F1, U, .head _, .tail _ (.head _), dn1, hd⟩⟩
end
-- text K3
section
open PySem PySem.W PySem.Calls PyProof.Rows
set_option maxRecDepth 100000
set_option maxHeartbeats 8000000
theorem fmod_cast (x n : Nat) : ((x : Nat) : Int).fmod (n : Int) = ((x % n : Nat) : Int) := by
  rw [Int.fmod_eq_emod_of_nonneg _ (Int.natCast_nonneg n)]; rfl
theorem size_eq (x : Nat) : (8 + ((x : Nat) : Int).fmod 9 : Int) = ((8 + x % 9 : Nat) : Int) := by
  rw [show (9 : Int) = ((9 : Nat) : Int) from rfl, fmod_cast]; rfl
theorem one_eq {x n : Nat} (h : 8 ≤ n) : (1 + ((x : Nat) : Int).fmod ((n : Int) - 1) : Int) = ((1 + x % (n - 1) : Nat) : Int) := by
  rw [show (n : Int) - 1 = ((n - 1 : Nat) : Int) by omega, fmod_cast]; rfl
theorem two_eq {x n : Nat} (h : 8 ≤ n) : (1 + ((x : Nat) : Int).fmod ((n : Int) - 2) : Int) = ((1 + x % (n - 2) : Nat) : Int) := by
  rw [show (n : Int) - 2 = ((n - 2 : Nat) : Int) by omega, fmod_cast]; rfl
theorem pred_ne {n : Nat} (h : 8 ≤ n) : (n : Int) - 1 ≠ 0 := by omega
theorem pred2_ne {n : Nat} (h : 8 ≤ n) : (n : Int) - 2 ≠ 0 := by omega
theorem one_lt {x n : Nat} (h : 8 ≤ n) : 1 + x % (n - 1) < n := by
  have := Nat.mod_lt x (show n - 1 > 0 by omega)
  omega
theorem two_eq' {x n : Nat} (h : 8 ≤ n) : (1 + ((x : Nat) : Int).fmod ((n : Int) - 2) + 1 : Int) = ((1 + x % (n - 2) + 1 : Nat) : Int) := by
  rw [two_eq h]; rfl
theorem num_y {n a x : Nat} (h8 : 8 ≤ n) (h16 : n ≤ 16) (a1 : 1 ≤ a) (aN : a < n) (h : (n : Int) - (a : Int) ≤ ((1 + x % (n - 2) : Nat) : Int)) : Num n a (1 + x % (n - 2) + 1) := by
  have := Nat.mod_lt x (show n - 2 > 0 by omega)
  exact ⟨h8, h16, a1, aN, Nat.le_add_left .., by omega, by omega⟩
theorem num_n {n a x : Nat} (h8 : 8 ≤ n) (h16 : n ≤ 16) (a1 : 1 ≤ a) (aN : a < n) (h : ¬ (n : Int) - (a : Int) ≤ ((1 + x % (n - 2) : Nat) : Int)) : Num n a (1 + x % (n - 2)) := by
  have := Nat.mod_lt x (show n - 2 > 0 by omega)
  exact ⟨h8, h16, a1, aN, Nat.le_add_right .., by omega, by omega⟩
local macro_rules | `(tactic| walk_at "loadName") => `(tactic| ((refine' wpAny_loadName_cell ?a ?b ?c ?d ?_); (case a => rfl); (case b => rfl); (case c => rfl); (case d => exact ⟨_, News.get (by k_asm) (by k_mem), by k_asm⟩)))
local macro_rules | `(tactic| walk_at "binaryOp Mod int int") => `(tactic| first | ((with_reducible refine mod_int' ?hb ?_); (case hb => first | decide | (dsimp only [ne_eq]; omega))) | refine Mine.stop ?_)
local macro_rules | `(tactic| walk_at "subscriptTail Name Constant ref int") => `(tactic| refine Mine.stop ?_)
theorem seg_n (w : World) : Seg w 2 1 T1' T2' := by
  unfold Seg
  k_fill
  intro _ mean mg mb h₀ L s E X T B hP
  obtain ⟨v, r, hP⟩ := hP
  refine genQ fun QQ hQQ => ?_
  obtain ⟨o, r', led, NN, dn, e1, sub, ⟨qt, top⟩, back, out⟩ := hP.U.take (Nat.add_lt_add_left (by decide : 2 < 13) L)
  have mA := sub _ hP.mA
  have m1 := sub _ hP.m1
  have q1 := hP.q1
  have F := hP.F
  unfold lawEnv lawBody lawLit mkLit
  dsimp only [List.drop, List.take]
  k_steps
  refine ⟨?_⟩
  refine tail_at (i := 0) (v := .int ((v.d 0 : Nat) : Int) (v.t 0)) (NN.isList (by k_mem)) rfl rfl (by decide) ?_
  dsimp only
  k_steps
  rename Fr _ _ _ _ => F1
  rename News _ _ _ _ => N1
  rename _ = Data.cell (some (Value.int _ _)) => dn2
  rw [size_eq] at dn2
  exact hQQ _ _ ⟨rfl, _, _, rfl, ⟨⟨frFun F1, v.d, v.t, v.A, v.e, 8 + v.d 0 % 9, v.a, v.b, v.W1, v.e1, v.D1, v.f1, v.D2, v.f2, v.k, v.mm, v.bb, v.D3, v.f3, v.S0, v.S1, v.S2, v.S3, v.S4, v.S5, v.g0, v.g1, v.g2, v.g3, v.g4, v.g5, v.D4, v.f4, v.tr, v.wh, v.ve, v.Se, v.Fo, v.fo, v.wid, v.sho, _, v.ta, v.tb, v.u1, v.u2, v.u3, v.u4, v.y1, v.y2, v.y3, v.z2, v.z4, v.z6, v.tw, v.tv, v.tt, v.twi, v.tsh, v.x00, v.x01, v.x02, v.x03, v.x10, v.x11, v.x12, v.x13, v.x20, v.x21, v.x22, v.x23, v.x30, v.x31, v.x32, v.x33, v.x40, v.x41, v.x42, v.x43, v.x50, v.x51, v.x52, v.x53, v.w0, v.w1, v.w2, v.w3, v.w4, v.w5⟩, _ :: v.led, v.c1, _, v.c3, v.c4, v.c5, v.c6, v.c7, v.c8, v.c9⟩, r', ⟨F1, back _ [_] N1 (List.forall_mem_cons.mpr ⟨.inl (Nat.lt_succ_self _), fun _ h => nomatch h⟩), .tail _ (hP.mA), .tail _ (hP.m1), .head _, hP.q1, dn2, hP.hd, Nat.le_add_right .., Nat.add_le_add_left (Nat.le_of_lt_succ (Nat.mod_lt _ (by decide))) 8⟩⟩
theorem seg_o (w : World) : Seg w 3 1 T2' T3' := by
  unfold Seg
  k_fill
  intro _ mean mg mb h₀ L s E X T B hP
  obtain ⟨v, r, hP⟩ := hP
  refine genQ fun QQ hQQ => ?_
  obtain ⟨o, r', led, NN, dn, e1, sub, ⟨qt, top⟩, back, out⟩ := hP.U.take (Nat.add_lt_add_left (by decide : 3 < 13) L)
  have mA := sub _ hP.mA
  have m1 := sub _ hP.m1
  have q1 := hP.q1
  have m2 := sub _ hP.m2
  have q2 := hP.q2
  have n8 := hP.n8
  have F := hP.F
  unfold lawEnv lawBody lawLit mkLit
  dsimp only [List.drop, List.take]
  have z := pred_ne n8
  k_steps
  refine ⟨?_⟩
  refine tail_at (i := 1) (v := .int ((v.d 1 : Nat) : Int) (v.t 1)) (NN.isList (by k_mem)) rfl rfl (by decide) ?_
  dsimp only
  k_steps
  rename Fr _ _ _ _ => F1
  rename News _ _ _ _ => N1
  rename _ = Data.cell (some (Value.int (_ + _) _)) => dn3
  rw [one_eq n8] at dn3
  exact hQQ _ _ ⟨rfl, _, _, rfl, ⟨⟨frFun F1, v.d, v.t, v.A, v.e, v.N, 1 + v.d 1 % (v.N - 1), v.b, v.W1, v.e1, v.D1, v.f1, v.D2, v.f2, v.k, v.mm, v.bb, v.D3, v.f3, v.S0, v.S1, v.S2, v.S3, v.S4, v.S5, v.g0, v.g1, v.g2, v.g3, v.g4, v.g5, v.D4, v.f4, v.tr, v.wh, v.ve, v.Se, v.Fo, v.fo, v.wid, v.sho, v.tN, _, v.tb, v.u1, v.u2, v.u3, v.u4, v.y1, v.y2, v.y3, v.z2, v.z4, v.z6, v.tw, v.tv, v.tt, v.twi, v.tsh, v.x00, v.x01, v.x02, v.x03, v.x10, v.x11, v.x12, v.x13, v.x20, v.x21, v.x22, v.x23, v.x30, v.x31, v.x32, v.x33, v.x40, v.x41, v.x42, v.x43, v.x50, v.x51, v.x52, v.x53, v.w0, v.w1, v.w2, v.w3, v.w4, v.w5⟩, _ :: v.led, v.c1, v.c2, _, v.c4, v.c5, v.c6, v.c7, v.c8, v.c9⟩, r', ⟨F1, back _ [_] N1 (List.forall_mem_cons.mpr ⟨.inl (Nat.lt_succ_self _), fun _ h => nomatch h⟩), .tail _ (hP.mA), .tail _ (hP.m1), .tail _ (hP.m2), .head _, hP.q1, hP.q2, dn3, hP.hd, hP.n8, hP.n16, Nat.le_add_right .., one_lt n8⟩⟩
theorem seg_t (w : World) : Seg w 4 2 T3' T4' := by
  unfold Seg
  k_fill
  intro _ mean mg mb h₀ L s E X T B hP
  obtain ⟨v, r, hP⟩ := hP
  refine genQ fun QQ hQQ => ?_
  obtain ⟨o, r', led, NN, dn, e1, sub, ⟨qt, top⟩, back, out⟩ := hP.U.take (Nat.add_lt_add_left (by decide : 4 < 13) L)
  have mA := sub _ hP.mA
  have m1 := sub _ hP.m1
  have q1 := hP.q1
  have m2 := sub _ hP.m2
  have q2 := hP.q2
  have m3 := sub _ hP.m3
  have q3 := hP.q3
  have n8 := hP.n8
  have F := hP.F
  unfold lawEnv lawBody lawLit mkLit
  dsimp only [List.drop, List.take]
  have z := pred2_ne n8
  k_steps
  refine ⟨?_⟩
  refine tail_at (i := 2) (v := .int ((v.d 2 : Nat) : Int) (v.t 2)) (NN.isList (by k_mem)) rfl rfl (by decide) ?_
  dsimp only
  k_steps
  · rename Fr _ _ _ _ => F1
    rename News _ _ _ _ => N1
    rename _ ≤ _ => hge
    rename _ = Data.cell (some (Value.int (_ + _ + _) _)) => dn4
    rw [two_eq n8] at hge
    rw [two_eq' n8] at dn4
    exact hQQ _ _ ⟨rfl, _, _, rfl, ⟨⟨frFun F1, v.d, v.t, v.A, v.e, v.N, v.a, 1 + v.d 2 % (v.N - 2) + 1, v.W1, v.e1, v.D1, v.f1, v.D2, v.f2, v.k, v.mm, v.bb, v.D3, v.f3, v.S0, v.S1, v.S2, v.S3, v.S4, v.S5, v.g0, v.g1, v.g2, v.g3, v.g4, v.g5, v.D4, v.f4, v.tr, v.wh, v.ve, v.Se, v.Fo, v.fo, v.wid, v.sho, v.tN, v.ta, _, v.u1, v.u2, v.u3, v.u4, v.y1, v.y2, v.y3, v.z2, v.z4, v.z6, v.tw, v.tv, v.tt, v.twi, v.tsh, v.x00, v.x01, v.x02, v.x03, v.x10, v.x11, v.x12, v.x13, v.x20, v.x21, v.x22, v.x23, v.x30, v.x31, v.x32, v.x33, v.x40, v.x41, v.x42, v.x43, v.x50, v.x51, v.x52, v.x53, v.w0, v.w1, v.w2, v.w3, v.w4, v.w5⟩, _ :: v.led, v.c1, v.c2, v.c3, _, v.c5, v.c6, v.c7, v.c8, v.c9⟩, r', ⟨F1, back _ [_] N1 (List.forall_mem_cons.mpr ⟨.inl (Nat.lt_succ_self _), fun _ h => nomatch h⟩), .tail _ (hP.mA), .tail _ (hP.m1), .tail _ (hP.m2), .tail _ (hP.m3), .head _, hP.q1, hP.q2, hP.q3, dn4, hP.hd, num_y hP.n8 hP.n16 hP.a1 hP.aN hge⟩⟩
  · rename Fr _ _ _ _ => F1
    rename News _ _ _ _ => N1
    rename ¬ _ => hge
    rename _ = Data.cell (some (Value.int (_ + _) _)) => dn4
    rw [two_eq n8] at hge
    rw [two_eq n8] at dn4
    exact hQQ _ _ ⟨rfl, _, _, rfl, ⟨⟨frFun F1, v.d, v.t, v.A, v.e, v.N, v.a, 1 + v.d 2 % (v.N - 2), v.W1, v.e1, v.D1, v.f1, v.D2, v.f2, v.k, v.mm, v.bb, v.D3, v.f3, v.S0, v.S1, v.S2, v.S3, v.S4, v.S5, v.g0, v.g1, v.g2, v.g3, v.g4, v.g5, v.D4, v.f4, v.tr, v.wh, v.ve, v.Se, v.Fo, v.fo, v.wid, v.sho, v.tN, v.ta, _, v.u1, v.u2, v.u3, v.u4, v.y1, v.y2, v.y3, v.z2, v.z4, v.z6, v.tw, v.tv, v.tt, v.twi, v.tsh, v.x00, v.x01, v.x02, v.x03, v.x10, v.x11, v.x12, v.x13, v.x20, v.x21, v.x22, v.x23, v.x30, v.x31, v.x32, v.x33, v.x40, v.x41, v.x42, v.x43, v.x50, v.x51, v.x52, v.x53, v.w0, v.w1, v.w2, v.w3, v.w4, v.w5⟩, _ :: v.led, v.c1, v.c2, v.c3, _, v.c5, v.c6, v.c7, v.c8, v.c9⟩, r', ⟨F1, back _ [_] N1 (List.forall_mem_cons.mpr ⟨.inl (Nat.lt_succ_self _), fun _ h => nomatch h⟩), .tail _ (hP.mA), .tail _ (hP.m1), .tail _ (hP.m2), .tail _ (hP.m3), .head _, hP.q1, hP.q2, hP.q3, dn4, hP.hd, num_n hP.n8 hP.n16 hP.a1 hP.aN hge⟩⟩
end
-- text K4
section
open PySem PySem.W PySem.Calls PyProof.Rows
set_option maxRecDepth 100000
set_option maxHeartbeats 8000000
theorem nz_of {n : Nat} (h : 8 ≤ n) : (n : Int) ≠ 0 := by omega
theorem third_eq {n a b : Nat} (H : Num n a b) : (-((a : Int) + (b : Int))).fmod (n : Int) = ((third n a b : Nat) : Int) := by
  have h : ((List.range 17).all fun n => (List.range 17).all fun a => (List.range 17).all fun b => (-((a : Int) + (b : Int))).fmod (n : Int) == ((third n a b : Nat) : Int) || n == 0) = true := by decide +kernel
  have h1 := List.all_eq_true.mp h n (List.mem_range.mpr (by have := H.n16; omega))
  have h2 := List.all_eq_true.mp h1 a (List.mem_range.mpr (by have := H.n16; have := H.aN; omega))
  have h3 := List.all_eq_true.mp h2 b (List.mem_range.mpr (by have := H.n16; have := H.bN; omega))
  rcases Bool.or_eq_true_iff.mp h3 with h4 | h4
  · exact eq_of_beq h4
  · have := eq_of_beq h4; have := H.n8; omega
theorem max_gcd {n a b : Nat} (H : Num n a b) {M : Int} (h1 : M ∈ (rangeInts 1 1 ((n : Int) - 1).toNat).filter fun t => decide ((a : Int).fmod t = 0) && decide ((b : Int).fmod t = 0) && decide ((n : Int).fmod t = 0))
    (h2 : ∀ x, x ∈ ((rangeInts 1 1 ((n : Int) - 1).toNat).filter fun t => decide ((a : Int).fmod t = 0) && decide ((b : Int).fmod t = 0) && decide ((n : Int).fmod t = 0)) → x ≤ M) : M = ((gcd3 n a b : Nat) : Int) := by
  have h8 := H.n8
  have ha := H.a1
  have haN := H.aN
  have hb := H.b1
  have dv : ∀ {x t : Nat}, 0 < t → ((x : Int).fmod (t : Int) = 0 ↔ t ∣ x) := fun {x t} ht => by
    rw [Int.fmod_eq_emod_of_nonneg _ (by omega)]
    constructor
    · intro h; exact Nat.dvd_of_mod_eq_zero (by omega)
    · intro h; have := Nat.mod_eq_zero_of_dvd h; omega
  have mem : ∀ t : Nat, 0 < t → t < n → t ∣ a → t ∣ b → t ∣ n → ((t : Nat) : Int) ∈ (rangeInts 1 1 ((n : Int) - 1).toNat).filter fun t => decide ((a : Int).fmod t = 0) && decide ((b : Int).fmod t = 0) && decide ((n : Int).fmod t = 0) := by
    intro t ht htn h1 h2 h3
    refine List.mem_filter.mpr ⟨?_, ?_⟩
    · unfold rangeInts
      exact List.mem_map.mpr ⟨t - 1, List.mem_range.mpr (by omega), by omega⟩
    · rw [decide_eq_true ((dv ht).mpr h1), decide_eq_true ((dv ht).mpr h2), decide_eq_true ((dv ht).mpr h3)]; rfl
  obtain ⟨h3, h4⟩ := List.mem_filter.mp h1
  unfold rangeInts at h3
  obtain ⟨i, hi, rfl⟩ := List.mem_map.mp h3
  have hi' := List.mem_range.mp hi
  rw [Bool.and_eq_true, Bool.and_eq_true, decide_eq_true_eq, decide_eq_true_eq, decide_eq_true_eq] at h4
  obtain ⟨⟨h5, h6⟩, h7⟩ := h4
  rw [show (1 + (i : Int) * 1) = ((1 + i : Nat) : Int) by omega] at h5 h6 h7 h2 ⊢
  have d1 := (dv (by omega)).mp h5
  have d2 := (dv (by omega)).mp h6
  have d3 := (dv (by omega)).mp h7
  have g0 : 0 < gcd3 n a b := Nat.gcd_pos_of_pos_left _ (Nat.gcd_pos_of_pos_left _ (by omega))
  have ga : gcd3 n a b ∣ a := Nat.dvd_trans (Nat.gcd_dvd_left _ _) (Nat.gcd_dvd_left _ _)
  have gb : gcd3 n a b ∣ b := Nat.dvd_trans (Nat.gcd_dvd_left _ _) (Nat.gcd_dvd_right _ _)
  have gn : gcd3 n a b ∣ n := Nat.gcd_dvd_right _ _
  have le1 := h2 _ (mem _ g0 (Nat.lt_of_le_of_lt (Nat.le_of_dvd (by omega) ga) haN) ga gb gn)
  have le2 := Nat.le_of_dvd g0 (Nat.dvd_gcd (Nat.dvd_gcd d1 d2) d3)
  have : 1 + i ≤ gcd3 n a b := le2
  omega
local macro_rules | `(tactic| walk_at "loadName") => `(tactic| ((refine' wpAny_loadName_cell ?a ?b ?c ?d ?_); (case a => rfl); (case b => rfl); (case c => rfl); (case d => exact ⟨_, News.get (by k_asm) (by k_mem), by k_asm⟩)))
local macro_rules | `(tactic| walk_at "binaryOp Mod int int") => `(tactic| first | ((with_reducible refine mod_int' ?hb ?_); (case hb => first | decide | (dsimp only [ne_eq]; omega))) | refine Mine.stop ?_)
theorem seg_w (w : World) : Seg w 6 1 T4' T5' := by
  unfold Seg
  k_fill
  intro _ mean mg mb h₀ L s E X T B hP
  obtain ⟨v, r, hP⟩ := hP
  refine genQ fun QQ hQQ => ?_
  obtain ⟨o, r', led, NN, dn, e1, sub, ⟨qt, top⟩, back, out⟩ := hP.U.take (Nat.add_lt_add_left (by decide : 5 < 13) L)
  have m2 := sub _ hP.m2
  have q2 := hP.q2
  have m3 := sub _ hP.m3
  have q3 := hP.q3
  have m4 := sub _ hP.m4
  have q4 := hP.q4
  have H := hP.H
  have F := hP.F
  unfold lawEnv lawBody lawLit mkLit
  dsimp only [List.drop, List.take]
  have h8 := H.n8
  have n0 : (v.N : Int) ≠ 0 := nz_of h8
  k_steps
  rename Fr _ _ _ _ => F1
  rename News _ _ _ _ => N1
  rename _ = Data.cell (some (Value.ref _)) => dn5
  rename _ ∧ AllLt _ _ => l1
  have l2 := lt_of_allLt l1.2 _ top
  rw [third_eq H] at N1
  exact hQQ _ _ ⟨rfl, _, _, rfl, ⟨⟨frFun F1, v.d, v.t, v.A, v.e, v.N, v.a, v.b, nwA N1, _, v.D1, v.f1, v.D2, v.f2, v.k, v.mm, v.bb, v.D3, v.f3, v.S0, v.S1, v.S2, v.S3, v.S4, v.S5, v.g0, v.g1, v.g2, v.g3, v.g4, v.g5, v.D4, v.f4, v.tr, v.wh, v.ve, v.Se, v.Fo, v.fo, v.wid, v.sho, v.tN, v.ta, v.tb, _, _, _, v.u4, v.y1, v.y2, v.y3, v.z2, v.z4, v.z6, v.tw, v.tv, v.tt, v.twi, v.tsh, v.x00, v.x01, v.x02, v.x03, v.x10, v.x11, v.x12, v.x13, v.x20, v.x21, v.x22, v.x23, v.x30, v.x31, v.x32, v.x33, v.x40, v.x41, v.x42, v.x43, v.x50, v.x51, v.x52, v.x53, v.w0, v.w1, v.w2, v.w3, v.w4, v.w5⟩, _ :: _ :: v.led, v.c1, v.c2, v.c3, v.c4, _, v.c6, v.c7, v.c8, v.c9⟩, r', ⟨F1, back _ [_, _] N1 (List.forall_mem_cons.mpr ⟨.inr l2, List.forall_mem_cons.mpr ⟨.inl (Nat.lt_succ_self _), fun _ h => nomatch h⟩⟩), .tail _ (.tail _ (hP.mA)), .head _, .tail _ (.tail _ (hP.m1)), .tail _ (.tail _ (hP.m2)), .tail _ (.tail _ (hP.m3)), .tail _ (.tail _ (hP.m4)), .tail _ (.head _), hP.q1, hP.q2, hP.q3, hP.q4, dn5, hP.hd, hP.H⟩⟩
local macro_rules | `(tactic| walk_at "eval ListComp") => `(tactic| refine Mine.stop ?_)
theorem seg_c (w : World) : Seg w 7 1 T5' TC' := by
  unfold Seg
  k_fill
  intro _ mean mg mb h₀ L s E X T B hP
  obtain ⟨v, r, hP⟩ := hP
  refine genQ fun QQ hQQ => ?_
  obtain ⟨led, NN, sub, ⟨qt, top⟩, back, out⟩ := hP.U.keep (Nat.add_lt_add_left (by decide : 6 < 14) L)
  have m2 := sub _ hP.m2
  have q2 := hP.q2
  have m3 := sub _ hP.m3
  have q3 := hP.q3
  have m4 := sub _ hP.m4
  have q4 := hP.q4
  have H := hP.H
  have F := hP.F
  unfold lawEnv lawBody lawLit mkLit
  dsimp only [List.drop, List.take]
  have h8 := H.n8
  have h16 := H.n16
  k_steps
  refine ⟨?_⟩
  k_dflt (refine' ListComp_DCr (pz := fun t => decide ((v.a : Int).fmod t = 0) && decide ((v.b : Int).fmod t = 0) && decide ((v.N : Int).fmod t = 0)) (d := fun i => .int i) (h₀ := h₀) (L := L) (m := v.m) ?hh ?hclos ?hcell ?hkind ?hnames ?hx ?_ ?hs)
  (case hh => with_unfolding_all rfl)
  (case hclos => with_unfolding_all rfl)
  (case hcell => decide)
  (case hkind => with_unfolding_all rfl)
  (case hnames => decide)
  (case hx => with_unfolding_all rfl)
  (case hs => intro _; with_unfolding_all rfl)
  refine wpAny_rangePack ?_
  k_steps
  · rename_i h1 h2 h3
    exact SeqLeaf.intro ⟨by rw [decide_eq_true h1, decide_eq_true h2, decide_eq_true h3]; rfl, _, _, rfl, by k_asm⟩
  · rename_i h1 h2 h3
    exact SeqLeaf.intro ⟨by rw [decide_eq_true h1, decide_eq_true h2, decide_eq_false h3]; rfl, _, _, rfl, by k_asm⟩
  · rename_i h1 h2
    exact SeqLeaf.intro ⟨by rw [decide_eq_true h1, decide_eq_false h2]; rfl, _, _, rfl, by k_asm⟩
  · rename_i h1
    exact SeqLeaf.intro ⟨by rw [decide_eq_false h1]; rfl, _, _, rfl, by k_asm⟩
  · rename_i D2 ys h2 tk2 F2 N2 hD2 hL2 hP2 hC2
    have hI2 := intsAre_of hC2
    refine kso_max F2 N2 hL2 hI2 ?_ rfl ?_
    · refine List.length_pos_of_mem (a := 1) (List.mem_filter.mpr ⟨?_, ?_⟩)
      · unfold rangeInts
        exact List.mem_map.mpr ⟨0, List.mem_range.mpr (by omega), rfl⟩
      · rw [Int.fmod_one, Int.fmod_one, Int.fmod_one]; rfl
    · intro h3 M tM tk3 F3 N3 hM hmax
      have hMg := max_gcd H hM hmax
      subst hMg
      have g0 : 0 < gcd3 v.N v.a v.b := Nat.gcd_pos_of_pos_left _ (Nat.gcd_pos_of_pos_left _ H.a1)
      clear F2 N2 hP2 hI2 hC2 hL2 hM hmax
      k_steps
      · exfalso; omega
      rename Fr _ _ _ _ => F1
      rename News _ _ _ _ => N1
      rw [Int.fdiv_eq_ediv_of_nonneg _ (by omega), show (v.N : Int) / ((gcd3 v.N v.a v.b : Nat) : Int) = ((v.N / gcd3 v.N v.a v.b : Nat) : Int) from rfl] at F1
      exact hQQ _ _ ⟨rfl, _, _, rfl, ⟨⟨frFun F1, v.d, v.t, v.A, v.e, v.N, v.a, v.b, v.W1, v.e1, v.D1, v.f1, v.D2, v.f2, v.k, v.mm, v.bb, v.D3, v.f3, v.S0, v.S1, v.S2, v.S3, v.S4, v.S5, v.g0, v.g1, v.g2, v.g3, v.g4, v.g5, v.D4, v.f4, v.tr, v.wh, v.ve, v.Se, v.Fo, v.fo, v.wid, v.sho, v.tN, v.ta, v.tb, v.u1, v.u2, v.u3, _, v.y1, v.y2, v.y3, v.z2, v.z4, v.z6, v.tw, v.tv, v.tt, v.twi, v.tsh, v.x00, v.x01, v.x02, v.x03, v.x10, v.x11, v.x12, v.x13, v.x20, v.x21, v.x22, v.x23, v.x30, v.x31, v.x32, v.x33, v.x40, v.x41, v.x42, v.x43, v.x50, v.x51, v.x52, v.x53, v.w0, v.w1, v.w2, v.w3, v.w4, v.w5⟩, v.led, v.c1, v.c2, v.c3, v.c4, v.c5, v.c6, v.c7, v.c8, v.c9⟩, r, ⟨F1, back _ [] N1 (fun _ h => nomatch h), hP.mA, hP.mW1, hP.m1, hP.m2, hP.m3, hP.m4, hP.m5, hP.q1, hP.q2, hP.q3, hP.q4, hP.q5, hP.hd, hP.H, rfl⟩⟩
end
-- text K5
section
open PySem PySem.W PySem.Calls PyProof.Rows
set_option maxRecDepth 100000
set_option maxHeartbeats 8000000
theorem fdiv_nat (a b : Nat) : (a : Int).fdiv (b : Int) = ((a / b : Nat) : Int) := by
  rw [Int.fdiv_eq_ediv_of_nonneg _ (by omega)]; rfl
theorem ltr_of (f g h : Nat) : Ltr (signC 10 f) (signC 12 g) (signC 1 h) := by
  have e : ∀ l f, signC l f = signC l (f % 8) := fun l f => by unfold signC; rw [Nat.mod_mod]
  have t1 : ((List.range 8).all fun f => alpha.contains (signC 10 f) && tellL (signC 10 f) == [107]) = true := by decide +kernel
  have t2 : ((List.range 8).all fun f => alpha.contains (signC 12 f) && tellL (signC 12 f) == [109]) = true := by decide +kernel
  have t3 : ((List.range 8).all fun f => alpha.contains (signC 1 f) && tellL (signC 1 f) == [98]) = true := by decide +kernel
  have u1 := Bool.and_eq_true_iff.mp (List.all_eq_true.mp t1 (f % 8) (List.mem_range.mpr (Nat.mod_lt _ (by decide))))
  have u2 := Bool.and_eq_true_iff.mp (List.all_eq_true.mp t2 (g % 8) (List.mem_range.mpr (Nat.mod_lt _ (by decide))))
  have u3 := Bool.and_eq_true_iff.mp (List.all_eq_true.mp t3 (h % 8) (List.mem_range.mpr (Nat.mod_lt _ (by decide))))
  rw [e 10 f, e 12 g, e 1 h]
  exact ⟨List.contains_iff_mem.mp u1.1, eq_of_beq u1.2, List.contains_iff_mem.mp u2.1, eq_of_beq u2.2, List.contains_iff_mem.mp u3.1, eq_of_beq u3.2⟩
local macro_rules | `(tactic| walk_at "loadName") => `(tactic| ((refine' wpAny_loadName_cell ?a ?b ?c ?d ?_); (case a => rfl); (case b => rfl); (case c => rfl); (case d => exact ⟨_, News.get (by k_asm) (by k_mem), by k_asm⟩)))
local macro_rules | `(tactic| walk_at "call ref") => `(tactic| refine Mine.stop ?_)
theorem seg_l (w : World) : Seg w 8 2 TC' T6' := by
  unfold Seg
  k_fill
  intro _ mean mg mb h₀ L s E X T B hP
  obtain ⟨v, r, hP⟩ := hP
  refine genQ fun QQ hQQ => ?_
  obtain ⟨o, r', led, NN, dn, e1, sub, ⟨qt, top⟩, back, out⟩ := hP.U.take (Nat.add_lt_add_left (by decide : 6 < 13) L)
  have mA := sub _ hP.mA
  have m1 := sub _ hP.m1
  have q1 := hP.q1
  have H := hP.H
  have F := hP.F
  unfold lawEnv lawBody lawLit mkLit
  dsimp only [List.drop, List.take]
  k_steps
  refine ⟨?_⟩
  k_dflt (refine' meets_use (sign_call w 10 (v.d 4) _ _ _ _ (by decide) (by with_unfolding_all rfl) (by with_unfolding_all rfl)) ?k1 ?k2 ?k3 ?k4 ?k5 ?k6 ?k7 ?k8 ?_)
  (case k1 => k_asm)
  (case k2 => k_asm)
  (case k3 => k_asm)
  (case k4 => k_asm)
  (case k5 => k_asm)
  (case k6 => rfl)
  (case k7 => ktr_room)
  (case k8 => ktr_units)
  rintro vv tl h6 tk6 F6 N6 ⟨rfl, y1, rfl⟩
  rw [List.nil_append] at N6
  k_steps
  refine ⟨?_⟩
  k_dflt (refine' meets_use (sign_call w 12 (v.d 4 / 8) _ _ _ _ (by decide) (by with_unfolding_all rfl) (by with_unfolding_all exact fdiv_nat (v.d 4) 8)) ?k1 ?k2 ?k3 ?k4 ?k5 ?k6 ?k7 ?k8 ?_)
  (case k1 => k_asm)
  (case k2 => k_asm)
  (case k3 => k_asm)
  (case k4 => k_asm)
  (case k5 => k_asm)
  (case k6 => rfl)
  (case k7 => ktr_room)
  (case k8 => ktr_units)
  rintro vv tl h7 tk7 F7 N7 ⟨rfl, y2, rfl⟩
  rw [List.nil_append] at N7
  k_steps
  refine ⟨?_⟩
  k_dflt (refine' meets_use (sign_call w 1 (v.d 4 / 64) _ _ _ _ (by decide) (by with_unfolding_all rfl) (by with_unfolding_all exact fdiv_nat (v.d 4) 64)) ?k1 ?k2 ?k3 ?k4 ?k5 ?k6 ?k7 ?k8 ?_)
  (case k1 => k_asm)
  (case k2 => k_asm)
  (case k3 => k_asm)
  (case k4 => k_asm)
  (case k5 => k_asm)
  (case k6 => rfl)
  (case k7 => ktr_room)
  (case k8 => ktr_units)
  rintro vv tl h8 tk8 F8 N8 ⟨rfl, y3, rfl⟩
  rw [List.nil_append] at N8
  k_steps
  rename Fr _ _ _ _ => F1
  rename News _ _ _ _ => N1
  rename _ = Data.cell (some (Value.ref _)) => dn6
  rename _ ∧ _ ∧ AllLt _ _ => k2
  rename _ ∧ AllLt _ _ => k3
  have l2 := lt_of_allLt k2.2.2 _ top
  have l3 := lt_of_allLt k3.2 _ top
  exact hQQ _ _ ⟨rfl, _, _, rfl, ⟨⟨frFun F1, v.d, v.t, v.A, v.e, v.N, v.a, v.b, v.W1, v.e1, _, _, nwA N1, _, _, _, _, v.D3, v.f3, v.S0, v.S1, v.S2, v.S3, v.S4, v.S5, v.g0, v.g1, v.g2, v.g3, v.g4, v.g5, v.D4, v.f4, v.tr, v.wh, v.ve, v.Se, v.Fo, v.fo, v.wid, v.sho, v.tN, v.ta, v.tb, v.u1, v.u2, v.u3, v.u4, _, _, _, _, _, _, v.tw, v.tv, v.tt, v.twi, v.tsh, v.x00, v.x01, v.x02, v.x03, v.x10, v.x11, v.x12, v.x13, v.x20, v.x21, v.x22, v.x23, v.x30, v.x31, v.x32, v.x33, v.x40, v.x41, v.x42, v.x43, v.x50, v.x51, v.x52, v.x53, v.w0, v.w1, v.w2, v.w3, v.w4, v.w5⟩, _ :: _ :: _ :: v.led, v.c1, v.c2, v.c3, v.c4, v.c5, _, v.c7, v.c8, v.c9⟩, r', ⟨F1, back _ [_, _, _] N1 (List.forall_mem_cons.mpr ⟨.inr l2, List.forall_mem_cons.mpr ⟨.inr l3, List.forall_mem_cons.mpr ⟨.inl (Nat.lt_succ_self _), fun _ h => nomatch h⟩⟩⟩), .tail _ (.tail _ (.tail _ (hP.mA))), .tail _ (.tail _ (.tail _ (hP.mW1))), .tail _ (.head _), .head _, .tail _ (.tail _ (.tail _ (hP.m1))), .tail _ (.tail _ (.tail _ (hP.m2))), .tail _ (.tail _ (.tail _ (hP.m3))), .tail _ (.tail _ (.tail _ (hP.m4))), .tail _ (.tail _ (.tail _ (hP.m5))), .tail _ (.tail _ (.head _)), hP.q1, hP.q2, hP.q3, hP.q4, hP.q5, dn6, hP.hd, hP.H, ltr_of (v.d 4) (v.d 4 / 8) (v.d 4 / 64), l3, hP.z_count, rfl⟩⟩
end
-- text K6
section
open PySem PySem.W PySem.Calls PyProof.Rows
set_option maxRecDepth 100000
set_option maxHeartbeats 8000000
theorem off1_mem {D : Addr} : ∀ {l : List (Addr × Obj)}, LCg.Off1 D l → ∀ p ∈ l, p.1 ≠ D
  | [], _, _, h => nomatch h
  | _ :: _, x, p, h => by
    rcases List.mem_cons.mp h with rfl | h
    · exact x.1
    · exact off1_mem x.2 p h
theorem comp_cell {h₀ : Heap} {L I C D : Addr} {m : Str → Option Value} {s₁ : Shared} {oI oC oD : Obj} {S : List (Addr × Obj) → Prop} {rest : Value → List (Addr × Obj) → Prop} {y : Value} {h' : Heap} {tk : Nat} {q c : Addr × Obj} {led : List (Addr × Obj)}
    (F : Fr h₀ L h' m) (N : News h₀ L h' (q :: (I, oI) :: (C, oC) :: (D, oD) :: c :: led)) (lt : ∀ p ∈ (I, oI) :: (C, oC) :: (D, oD) :: c :: led, p.1 < q.1) (off : LCg.Off3 I C D (c :: led)) (ne : ∀ p ∈ led, p.1 ≠ c.1)
    (hS : S (c :: q :: led)) (r : ∀ led', led' = q :: led → q ∈ led' → (∀ p, p ∈ led → p ∈ led') → (∀ p ∈ led', p.1 ≠ c.1) → rest y (c :: led')) :
    LCg.CompEnd h₀ L m s₁ I oI C oC D oD S rest y { s₁ with heap := h', toks := tk } :=
  LCg.CompEnd.intro F N (c :: q :: led) (fun p hp => by
    rcases List.mem_cons.mp hp with rfl | hp
    · exact .tail _ (.head _)
    rcases List.mem_cons.mp hp with rfl | hp
    · exact .tail _ (.tail _ (.head _))
    rcases List.mem_cons.mp hp with rfl | hp
    · exact .tail _ (.tail _ (.tail _ (.head _)))
    rcases List.mem_cons.mp hp with rfl | hp
    · exact .tail _ (.tail _ (.tail _ (.tail _ (.head _))))
    rcases List.mem_cons.mp hp with rfl | hp
    · exact .head _
    · exact .tail _ (.tail _ (.tail _ (.tail _ (.tail _ hp))))) ⟨off.1, ⟨Nat.ne_of_gt (lt _ (.head _)), Nat.ne_of_gt (lt _ (.tail _ (.head _))), Nat.ne_of_gt (lt _ (.tail _ (.tail _ (.head _))))⟩, off.2⟩ hS
    (r _ rfl (.head _) (fun _ h => .tail _ h) (List.forall_mem_cons.mpr ⟨Nat.ne_of_gt (lt _ (.tail _ (.tail _ (.tail _ (.head _))))), ne⟩))
theorem told_one {c : Nat} (h : c ∈ alpha) : told [c] = tellL c := by
  unfold told
  rw [List.filter_cons, alpha_not_veil h]
  exact List.append_nil _
theorem parts_lit (w : World) (l : List Nat) (t1 : Tok) (hl : ∀ c ∈ l, known c) (hlen : l.length < 1000) (n0 n1 n2 n3 : Int) (e0 : (((told l).count 107 : Nat) : Int) = n0) (e1 : (((told l).count 109 : Nat) : Int) = n1) (e2 : (((told l).count 98 : Nat) : Int) = n2) (e3 : (((told l).length : Nat) : Int) = n3) :
    MeetsO w 4 111 [.str ⟨⟨l⟩⟩ t1] (fun v tl => ∃ D u1 u2 u3 u4 e, v = .ref D ∧ tl = [(D, listOf #[.int n0 u1, .int n1 u2, .int n2 u3, .int n3 u4] e)]) :=
  (parts_call w l t1 hl hlen).mono fun v tl ⟨D, u1, u2, u3, u4, e, h1, h2⟩ => ⟨D, u1, u2, u3, u4, e, h1, by rw [h2, e0, e1, e2, e3]⟩
theorem parts_sign (w : World) (c : Nat) (t1 : Tok) (hc : c ∈ alpha) (l : List Nat) (hl : tellL c = l) (n0 n1 n2 n3 : Int) (e0 : ((l.count 107 : Nat) : Int) = n0) (e1 : ((l.count 109 : Nat) : Int) = n1) (e2 : ((l.count 98 : Nat) : Int) = n2) (e3 : ((l.length : Nat) : Int) = n3) :
    MeetsO w 4 111 [.str ⟨#[c]⟩ t1] (fun v tl => ∃ D u1 u2 u3 u4 e, v = .ref D ∧ tl = [(D, listOf #[.int n0 u1, .int n1 u2, .int n2 u3, .int n3 u4] e)]) := by
  subst hl
  rw [← told_one hc] at e0 e1 e2 e3
  exact parts_lit w [c] t1 (fun x hx => by rw [List.mem_singleton.mp hx]; exact .inl hc) (by rw [List.length_singleton]; decide) n0 n1 n2 n3 e0 e1 e2 e3
local macro_rules | `(tactic| walk_at "call ref") => `(tactic| refine Mine.stop ?_)
theorem seg_p (w : World) : Seg w 10 1 T6' T7' := by
  unfold Seg
  k_fill
  intro _ mean mg mb h₀ L s E X T B hP
  obtain ⟨v, r, hP⟩ := hP
  refine genQ fun QQ hQQ => ?_
  obtain ⟨o, r', led, NN, dn, e1, sub, ⟨qt, top⟩, back, out⟩ := hP.U.take (Nat.add_lt_add_left (by decide : 7 < 13) L)
  have mD2 := sub _ hP.mD2
  have m6 := sub _ hP.m6
  have q6 := hP.q6
  have HL := hP.HL
  have F := hP.F
  unfold lawEnv lawBody lawLit mkLit
  dsimp only [List.drop, List.take]
  k_steps
  refine ⟨?_⟩
  k_dflt (refine' meetsO_use (parts_sign w v.k _ HL.k1 [107] HL.k2 1 0 0 1 rfl rfl rfl rfl) ?k1 ?k2 ?k3 ?k4 ?k5 ?k6 ?k7 ?k8 ?_)
  (case k1 => k_asm)
  (case k2 => k_asm)
  (case k3 => k_asm)
  (case k4 => k_asm)
  (case k5 => k_asm)
  (case k6 => rfl)
  (case k7 => ktr_room)
  (case k8 => ktr_units)
  rintro vv tl r0 rk0 F0 N0 l0 ⟨S0, x00, x01, x02, x03, g0, rfl, rfl⟩
  rw [List.singleton_append] at N0
  replace l0 := l0 _ (List.mem_singleton.mpr rfl)
  have lS0 := l0 (_, qt) (by k_mem)
  first | rename LCg.Off3 _ _ _ _ => off0 | rename (_ ≠ _ ∧ _ ≠ _ ∧ _ ≠ _) ∧ _ => off0
  refine comp_cell F0 N0 l0 off0 (by with_reducible assumption) (.inr ⟨_, by k_mem, rfl, _, rfl⟩) (fun led0 hl0 q0 s0 e0 => ?_)
  clear off0 l0
  replace top := s0 _ top
  replace mD2 := s0 _ mD2
  clear s0
  k_steps
  refine ⟨?_⟩
  k_dflt (refine' meetsO_use (parts_sign w 13262 _ (by decide) [107, 109] rfl 1 1 0 2 rfl rfl rfl rfl) ?k1 ?k2 ?k3 ?k4 ?k5 ?k6 ?k7 ?k8 ?_)
  (case k1 => k_asm)
  (case k2 => k_asm)
  (case k3 => k_asm)
  (case k4 => k_asm)
  (case k5 => k_asm)
  (case k6 => rfl)
  (case k7 => ktr_room)
  (case k8 => ktr_units)
  rintro vv tl r1 rk1 F1 N1 l1 ⟨S1, x10, x11, x12, x13, g1, rfl, rfl⟩
  rw [List.singleton_append] at N1
  replace l1 := l1 _ (List.mem_singleton.mpr rfl)
  have lS1 := l1 (_, qt) (by k_mem)
  first | rename LCg.Off3 _ _ _ _ => off1 | rename (_ ≠ _ ∧ _ ≠ _ ∧ _ ≠ _) ∧ _ => off1
  refine comp_cell F1 N1 l1 off1 (by with_reducible assumption) (.inr ⟨_, by k_mem, rfl, _, rfl⟩) (fun led1 hl1 q1 s1 e1 => ?_)
  clear off1 l1
  replace top := s1 _ top
  replace mD2 := s1 _ mD2
  clear s1
  k_steps
  refine ⟨?_⟩
  k_dflt (refine' meetsO_use (parts_sign w v.mm _ HL.m1 [109] HL.m2 0 1 0 1 rfl rfl rfl rfl) ?k1 ?k2 ?k3 ?k4 ?k5 ?k6 ?k7 ?k8 ?_)
  (case k1 => k_asm)
  (case k2 => k_asm)
  (case k3 => k_asm)
  (case k4 => k_asm)
  (case k5 => k_asm)
  (case k6 => rfl)
  (case k7 => ktr_room)
  (case k8 => ktr_units)
  rintro vv tl r2 rk2 F2 N2 l2 ⟨S2, x20, x21, x22, x23, g2, rfl, rfl⟩
  rw [List.singleton_append] at N2
  replace l2 := l2 _ (List.mem_singleton.mpr rfl)
  have lS2 := l2 (_, qt) (by k_mem)
  first | rename LCg.Off3 _ _ _ _ => off2 | rename (_ ≠ _ ∧ _ ≠ _ ∧ _ ≠ _) ∧ _ => off2
  refine comp_cell F2 N2 l2 off2 (by with_reducible assumption) (.inr ⟨_, by k_mem, rfl, _, rfl⟩) (fun led2 hl2 q2 s2 e2 => ?_)
  clear off2 l2
  replace top := s2 _ top
  replace mD2 := s2 _ mD2
  clear s2
  k_steps
  refine ⟨?_⟩
  k_dflt (refine' meetsO_use (parts_sign w 13190 _ (by decide) [109, 98] rfl 0 1 1 2 rfl rfl rfl rfl) ?k1 ?k2 ?k3 ?k4 ?k5 ?k6 ?k7 ?k8 ?_)
  (case k1 => k_asm)
  (case k2 => k_asm)
  (case k3 => k_asm)
  (case k4 => k_asm)
  (case k5 => k_asm)
  (case k6 => rfl)
  (case k7 => ktr_room)
  (case k8 => ktr_units)
  rintro vv tl r3 rk3 F3 N3 l3 ⟨S3, x30, x31, x32, x33, g3, rfl, rfl⟩
  rw [List.singleton_append] at N3
  replace l3 := l3 _ (List.mem_singleton.mpr rfl)
  have lS3 := l3 (_, qt) (by k_mem)
  first | rename LCg.Off3 _ _ _ _ => off3 | rename (_ ≠ _ ∧ _ ≠ _ ∧ _ ≠ _) ∧ _ => off3
  refine comp_cell F3 N3 l3 off3 (by with_reducible assumption) (.inr ⟨_, by k_mem, rfl, _, rfl⟩) (fun led3 hl3 q3 s3 e3 => ?_)
  clear off3 l3
  replace top := s3 _ top
  replace mD2 := s3 _ mD2
  clear s3
  k_steps
  refine ⟨?_⟩
  k_dflt (refine' meetsO_use (parts_sign w v.bb _ HL.b1 [98] HL.b2 0 0 1 1 rfl rfl rfl rfl) ?k1 ?k2 ?k3 ?k4 ?k5 ?k6 ?k7 ?k8 ?_)
  (case k1 => k_asm)
  (case k2 => k_asm)
  (case k3 => k_asm)
  (case k4 => k_asm)
  (case k5 => k_asm)
  (case k6 => rfl)
  (case k7 => ktr_room)
  (case k8 => ktr_units)
  rintro vv tl r4 rk4 F4 N4 l4 ⟨S4, x40, x41, x42, x43, g4, rfl, rfl⟩
  rw [List.singleton_append] at N4
  replace l4 := l4 _ (List.mem_singleton.mpr rfl)
  have lS4 := l4 (_, qt) (by k_mem)
  first | rename LCg.Off3 _ _ _ _ => off4 | rename (_ ≠ _ ∧ _ ≠ _ ∧ _ ≠ _) ∧ _ => off4
  refine comp_cell F4 N4 l4 off4 (by with_reducible assumption) (.inr ⟨_, by k_mem, rfl, _, rfl⟩) (fun led4 hl4 q4 s4 e4 => ?_)
  clear off4 l4
  replace top := s4 _ top
  replace mD2 := s4 _ mD2
  clear s4
  k_steps
  refine ⟨?_⟩
  k_dflt (refine' meetsO_use (parts_sign w 13189 _ (by decide) [107, 98] rfl 1 0 1 2 rfl rfl rfl rfl) ?k1 ?k2 ?k3 ?k4 ?k5 ?k6 ?k7 ?k8 ?_)
  (case k1 => k_asm)
  (case k2 => k_asm)
  (case k3 => k_asm)
  (case k4 => k_asm)
  (case k5 => k_asm)
  (case k6 => rfl)
  (case k7 => ktr_room)
  (case k8 => ktr_units)
  rintro vv tl r5 rk5 F5 N5 l5 ⟨S5, x50, x51, x52, x53, g5, rfl, rfl⟩
  rw [List.singleton_append] at N5
  replace l5 := l5 _ (List.mem_singleton.mpr rfl)
  have lS5 := l5 (_, qt) (by k_mem)
  first | rename LCg.Off3 _ _ _ _ => off5 | rename (_ ≠ _ ∧ _ ≠ _ ∧ _ ≠ _) ∧ _ => off5
  refine comp_cell F5 N5 l5 off5 (by with_reducible assumption) (.inr ⟨_, by k_mem, rfl, _, rfl⟩) (fun led5 hl5 q5 s5 e5 => ?_)
  clear off5 l5
  replace top := s5 _ top
  replace mD2 := s5 _ mD2
  clear s5
  k_steps
  rename Fr _ _ _ _ => F9
  rename News _ _ _ _ => N9
  rename _ = Data.cell (some (Value.ref _)) => dn7
  rename _ ∧ LCg.Off1 _ _ => of
  subst hl5 hl4 hl3 hl2 hl1 hl0
  exact hQQ _ _ ⟨rfl, _, _, rfl, ⟨⟨frFun F9, v.d, v.t, v.A, v.e, v.N, v.a, v.b, v.W1, v.e1, v.D1, v.f1, v.D2, v.f2, v.k, v.mm, v.bb, nwA N9, _, S0, S1, S2, S3, S4, S5, g0, g1, g2, g3, g4, g5, v.D4, v.f4, v.tr, v.wh, v.ve, v.Se, v.Fo, v.fo, v.wid, v.sho, v.tN, v.ta, v.tb, v.u1, v.u2, v.u3, v.u4, v.y1, v.y2, v.y3, v.z2, v.z4, v.z6, v.tw, v.tv, v.tt, v.twi, v.tsh, x00, x01, x02, x03, x10, x11, x12, x13, x20, x21, x22, x23, x30, x31, x32, x33, x40, x41, x42, x43, x50, x51, x52, x53, v.w0, v.w1, v.w2, v.w3, v.w4, v.w5⟩, _ :: _ :: _ :: _ :: _ :: _ :: _ :: _ :: v.led, v.c1, v.c2, v.c3, v.c4, v.c5, v.c6, _, v.c8, v.c9⟩, r', ⟨F9, back _ [_, _, _, _, _, _, _, _] N9 (List.forall_mem_cons.mpr ⟨(out _ fun p hp => off1_mem of.2 p (.tail _ (.tail _ (.tail _ (.tail _ (.tail _ (.tail _ hp))))))), List.forall_mem_cons.mpr ⟨.inl (Nat.lt_succ_self _), List.forall_mem_cons.mpr ⟨.inr lS5, List.forall_mem_cons.mpr ⟨.inr lS4, List.forall_mem_cons.mpr ⟨.inr lS3, List.forall_mem_cons.mpr ⟨.inr lS2, List.forall_mem_cons.mpr ⟨.inr lS1, List.forall_mem_cons.mpr ⟨.inr lS0, fun _ h => nomatch h⟩⟩⟩⟩⟩⟩⟩⟩), .tail _ (.tail _ (.tail _ (.tail _ (.tail _ (.tail _ (.tail _ (.tail _ (hP.mA)))))))), .tail _ (.tail _ (.tail _ (.tail _ (.tail _ (.tail _ (.tail _ (.tail _ (hP.mW1)))))))), .tail _ (.tail _ (.tail _ (.tail _ (.tail _ (.tail _ (.tail _ (.tail _ (hP.mD1)))))))), .tail _ (.tail _ (.tail _ (.tail _ (.tail _ (.tail _ (.tail _ (.tail _ (hP.mD2)))))))), .tail _ (.tail _ (.tail _ (.tail _ (.tail _ (.tail _ (.tail _ (.head _))))))), .tail _ (.tail _ (.tail _ (.tail _ (.tail _ (.tail _ (.head _)))))), .tail _ (.tail _ (.tail _ (.tail _ (.tail _ (.head _))))), .tail _ (.tail _ (.tail _ (.tail _ (.head _)))), .tail _ (.tail _ (.tail _ (.head _))), .tail _ (.tail _ (.head _)), .head _, .tail _ (.tail _ (.tail _ (.tail _ (.tail _ (.tail _ (.tail _ (.tail _ (hP.m1)))))))), .tail _ (.tail _ (.tail _ (.tail _ (.tail _ (.tail _ (.tail _ (.tail _ (hP.m2)))))))), .tail _ (.tail _ (.tail _ (.tail _ (.tail _ (.tail _ (.tail _ (.tail _ (hP.m3)))))))), .tail _ (.tail _ (.tail _ (.tail _ (.tail _ (.tail _ (.tail _ (.tail _ (hP.m4)))))))), .tail _ (.tail _ (.tail _ (.tail _ (.tail _ (.tail _ (.tail _ (.tail _ (hP.m5)))))))), .tail _ (.tail _ (.tail _ (.tail _ (.tail _ (.tail _ (.tail _ (.tail _ (hP.m6)))))))), .tail _ (.head _), hP.q1, hP.q2, hP.q3, hP.q4, hP.q5, hP.q6, dn7, hP.hd, hP.H, hP.HL, hP.lD1, hP.z_count, hP.z_letters⟩⟩
end
-- text K7
section
open PySem PySem.W PySem.Calls PyProof.Rows
set_option maxRecDepth 100000
set_option maxHeartbeats 8000000
theorem wt_eq0 (a b c : Nat) : (a : Int) * 1 + (b : Int) * 0 + (c : Int) * 0 = ((wt a b c 0 : Nat) : Int) := by
  show _ = ((a : Nat) : Int); omega
theorem wt_eq1 (a b c : Nat) : (a : Int) * 1 + (b : Int) * 1 + (c : Int) * 0 = ((wt a b c 1 : Nat) : Int) := by
  show _ = ((a + b : Nat) : Int); omega
theorem wt_eq2 (a b c : Nat) : (a : Int) * 0 + (b : Int) * 1 + (c : Int) * 0 = ((wt a b c 2 : Nat) : Int) := by
  show _ = ((b : Nat) : Int); omega
theorem wt_eq3 (a b c : Nat) : (a : Int) * 0 + (b : Int) * 1 + (c : Int) * 1 = ((wt a b c 3 : Nat) : Int) := by
  show _ = ((b + c : Nat) : Int); omega
theorem wt_eq4 (a b c : Nat) : (a : Int) * 0 + (b : Int) * 0 + (c : Int) * 1 = ((wt a b c 4 : Nat) : Int) := by
  show _ = ((c : Nat) : Int); omega
theorem wt_eq5 (a b c : Nat) : (a : Int) * 1 + (b : Int) * 0 + (c : Int) * 1 = ((wt a b c 5 : Nat) : Int) := by
  show _ = ((a + c : Nat) : Int); omega
theorem comp_same {h₀ : Heap} {L I C D : Addr} {m : Str → Option Value} {s₁ : Shared} {oI oC oD : Obj} {S : List (Addr × Obj) → Prop} {rest : Value → List (Addr × Obj) → Prop} {y : Value} {h' : Heap} {tk : Nat} {news : List (Addr × Obj)}
    (F : Fr h₀ L h' m) (N : News h₀ L h' ((I, oI) :: (C, oC) :: (D, oD) :: news)) (off : LCg.Off3 I C D news) (hS : S news) (r : rest y news) :
    LCg.CompEnd h₀ L m s₁ I oI C oC D oD S rest y { s₁ with heap := h', toks := tk } := LCg.CompEnd.intro F N news (fun _ hp => hp) off hS r
theorem num32 {N a b : Nat} (H : Num N a b) : a < 32 ∧ b < 32 ∧ third N a b < 32 := by
  have h1 := H.aN
  have h2 := H.bN
  have h3 := H.n16
  have h4 := H.n8
  have h5 := Nat.mod_lt (N - (a + b) % N) (show N > 0 by omega)
  exact ⟨by omega, by omega, by unfold third; omega⟩
local macro_rules | `(tactic| walk_at "call ref") => `(tactic| refine Mine.stop ?_)
theorem seg_q (w : World) : Seg w 11 1 T7' T7' := by
  unfold Seg
  k_fill
  intro _ mean mg mb h₀ L s E X T B hP
  obtain ⟨v, r, hP⟩ := hP
  refine genQ fun QQ hQQ => ?_
  obtain ⟨led, NN, sub, ⟨qt, top⟩, back, out⟩ := hP.U.keep (Nat.add_lt_add_left (by decide : 8 < 14) L)
  have mD3 := sub _ hP.mD3
  have mS0 := sub _ hP.mS0
  have mS1 := sub _ hP.mS1
  have mS2 := sub _ hP.mS2
  have mS3 := sub _ hP.mS3
  have mS4 := sub _ hP.mS4
  have mS5 := sub _ hP.mS5
  have m7 := sub _ hP.m7
  have q7 := hP.q7
  have F := hP.F
  unfold lawEnv lawBody lawLit mkLit
  dsimp only [List.drop, List.take]
  k_steps
  rename Fr _ _ _ _ => F1
  rename News _ _ _ _ => N1
  exact hQQ _ _ ⟨rfl, _, _, rfl, ⟨⟨frFun F1, v.d, v.t, v.A, v.e, v.N, v.a, v.b, v.W1, v.e1, v.D1, v.f1, v.D2, v.f2, v.k, v.mm, v.bb, v.D3, v.f3, v.S0, v.S1, v.S2, v.S3, v.S4, v.S5, v.g0, v.g1, v.g2, v.g3, v.g4, v.g5, v.D4, v.f4, v.tr, v.wh, v.ve, v.Se, v.Fo, v.fo, v.wid, v.sho, v.tN, v.ta, v.tb, v.u1, v.u2, v.u3, v.u4, v.y1, v.y2, v.y3, v.z2, v.z4, v.z6, v.tw, v.tv, v.tt, v.twi, v.tsh, v.x00, v.x01, v.x02, v.x03, v.x10, v.x11, v.x12, v.x13, v.x20, v.x21, v.x22, v.x23, v.x30, v.x31, v.x32, v.x33, v.x40, v.x41, v.x42, v.x43, v.x50, v.x51, v.x52, v.x53, v.w0, v.w1, v.w2, v.w3, v.w4, v.w5⟩, v.led, v.c1, v.c2, v.c3, v.c4, v.c5, v.c6, v.c7, v.c8, v.c9⟩, r, ⟨F1, back _ [] (news_tail (news_tail (news_tail (news_tail (news_tail (news_tail (news_tail N1))))))) (fun _ h => nomatch h), hP.mA, hP.mW1, hP.mD1, hP.mD2, hP.mS0, hP.mS1, hP.mS2, hP.mS3, hP.mS4, hP.mS5, hP.mD3, hP.m1, hP.m2, hP.m3, hP.m4, hP.m5, hP.m6, hP.m7, hP.q1, hP.q2, hP.q3, hP.q4, hP.q5, hP.q6, hP.q7, hP.hd, hP.H, hP.HL, hP.lD1, hP.z_count, hP.z_letters⟩⟩
local macro_rules | `(tactic| walk_at "eval ListComp") => `(tactic| refine Mine.stop ?_)
local macro_rules | `(tactic| walk_at "call builtin:sum") => `(tactic| refine Mine.stop ?_)
local macro_rules | `(tactic| walk_at "call type:zip") => `(tactic| refine Mine.stop ?_)
noncomputable def asgVal : Stmt → PySem.Expr
  | .Assign _ e _ => e
  | _ => default
noncomputable def lcElt : PySem.Expr → PySem.Expr
  | .ListComp e _ _ _ => e
  | e => e
noncomputable def lcScope : PySem.Expr → Scope
  | .ListComp _ _ s _ => s
  | _ => default
noncomputable def stmtOf (l : List Stmt) (i : Nat) : Stmt := l.getD i (.Pass default)
theorem row_sum (w : World) : PySem.Challenge.rw_tp0031_01.prog = PySem.Challenge.rw_tp0031_01.prog → ∀ (mean : ExcName → Option Value) (mg mb : Str → Option Value) (h₀ : Heap) (L : Addr) (s : Shared) (Q E : Value → Shared → Prop),
    (kf w.params).In h₀ → Top qv (looseW qv lz) mean mg mb h₀ → Below callerA h₀ [] h₀ → ∀ (m m2 : Str → Option Value) (I C D S W1 : Addr) (oI oC oD oc : Obj) (led : List (Addr × Obj)) (AW AS : Array Value) (e1 g : Nat) (fx fy : Nat → Int) (z : Int),
    LCg.NsObj oC m2 → Fr h₀ L s.heap m → News h₀ L s.heap ((I, oI) :: (C, oC) :: (D, oD) :: led) → m2 (Str.ofString "step") = some (.ref S) → (W1, listOf AW e1) ∈ led → (S, listOf AS g) ∈ led → (L + 1 + 1 + 1 + 1 + 1, oc) ∈ led → oc.data = .cell (some (.ref W1)) →
    min AW.size AS.size = 3 → (∀ i v, AW[i]? = some v → i < 3 → ∃ t, v = .int (fx i) t) → (∀ i v, AS[i]? = some v → i < 3 → ∃ t, v = .int (fy i) t) → (∀ i, i < 3 → IntMulOk (fx i) (fy i)) → ((List.range 3).map fun i => fx i * fy i).sum = z →
    (∀ h' tk t, Fr h₀ L h' m → News h₀ L h' ((I, oI) :: (C, oC) :: (D, oD) :: led) → Q (.int z t) { s with heap := h', toks := tk }) →
    wpAny (model PySem.Challenge.rw_tp0031_01.prog w) (callerA.deeper (lawEnv w L)) (eval (lcElt (asgVal (stmtOf (lawBody w) 12))) (compEnvC (lcScope (asgVal (stmtOf (lawBody w) 12))) [(Str.ofString "weights", L + 1 + 1 + 1 + 1 + 1)] C (lawEnv w L))) Q E s := by
  k_fill
  intro _ mean mg mb h₀ L s Q E X T B m m2 I C D S W1 oI oC oD oc led AW AS e1 g fx fy z hC F N hx mW1 mS m5 q5 hn hX hY hM hz hQ
  unfold lawEnv lawBody lawLit mkLit
  dsimp only [stmtOf, List.getD, List.getElem?_cons_succ, List.getElem?_cons_zero, Option.getD_some, asgVal, lcElt, lcScope]
  repeat (first | (k_unfold; (try dsimp only)) | walk1 | (dsimp only; walk1))
  refine ⟨?_⟩
  rename Fr _ _ _ _ => Fz
  rename News _ _ _ _ => Nz
  k_dflt (refine' zip_prod (xs := AW) (ys := AS) Fz Nz fx fy 3 ?hclos ?hcell ?hkind ?hnames ?hx ?hy ?hxx ?hh ?hd1 ?hd2 ?hn ?hsz hX hY hM ?_ ?hs)
  (case hclos => with_unfolding_all rfl)
  (case hcell => decide)
  (case hkind => with_unfolding_all rfl)
  (case hnames => decide)
  (case hx => with_unfolding_all rfl)
  (case hy => with_unfolding_all rfl)
  (case hxx => decide)
  (case hh => with_unfolding_all rfl)
  (case hd1 => decide)
  (case hd2 => decide)
  (case hn => exact hn)
  (case hsz => rw [sizeLine_eq]; decide)
  (case hs => intro _; with_unfolding_all rfl)
  repeat (first | (k_unfold; (try dsimp only)) | walk1 | (dsimp only; walk1))
  refine ⟨?_⟩
  refine zip_rows Fz (Nz.isList (by k_mem)) (Nz.isList (by k_mem)) ?_
  intro zh z TI TO zi1 zi2 zap zst _ zk zn1 zn2 zn3 zn4 _
  refine ⟨z, TI, TO, zi1, zi2, _, _, rfl, zap, zst, zn1, zn2, zn3, zn4, zk, ⟨?_⟩⟩
  intro Dz zh2 ztk zvs Fz2 Nz2 zl zi
  clear zap zst zk zn1 zn2 zn3 zn4 Fz Nz
  repeat (first | (k_unfold; (try dsimp only)) | walk1 | (dsimp only; walk1))
  refine ⟨?_⟩
  refine LSm.sum_ints Fz2 Nz2 rfl zl zi ?_
  intro zh3 ztk3 t Fz3 Nz3
  rw [hz]
  exact hQ _ _ _ Fz3 Nz3
local macro_rules | `(tactic| walk_at "eval Call") => `(tactic| refine Mine.stop ?_)
theorem seg_r (w : World) : Seg w 12 1 T7' TW' := by
  unfold Seg
  k_fill
  intro _ mean mg mb h₀ L s E X T B hP
  obtain ⟨v, r, hP⟩ := hP
  refine genQ fun QQ hQQ => ?_
  obtain ⟨led, NN, sub, ⟨qt, top⟩, back, out⟩ := hP.U.keep (Nat.add_lt_add_left (by decide : 8 < 14) L)
  have mW1 := sub _ hP.mW1
  have mD3 := sub _ hP.mD3
  have mS0 := sub _ hP.mS0
  have mS1 := sub _ hP.mS1
  have mS2 := sub _ hP.mS2
  have mS3 := sub _ hP.mS3
  have mS4 := sub _ hP.mS4
  have mS5 := sub _ hP.mS5
  have m5 := sub _ hP.m5
  have q5 := hP.q5
  have m7 := sub _ hP.m7
  have q7 := hP.q7
  have H := hP.H
  have F := hP.F
  unfold lawEnv lawBody lawLit mkLit
  dsimp only [List.drop, List.take]
  obtain ⟨ha32, hb32, hc32⟩ := num32 H
  repeat (first | (k_unfold; (try dsimp only)) | walk1 | (dsimp only; walk1))
  refine ⟨?_⟩
  rename Fr _ _ _ _ => Fz
  rename News _ _ _ _ => Nz
  rename LCg.Off3 _ _ _ _ => off0
  rename LCg.NsObj _ _ => hC
  rename _ = some (Value.ref v.S0) => hx
  refine' @row_sum w rfl mean mg mb h₀ L _ _ _ X T B _ _ _ _ _ _ _ _ _ _ _ _ _ _ _ _ (sel3 (v.a : Int) (v.b : Int) ((third v.N v.a v.b : Nat) : Int)) (sel3 1 0 0) _ hC ?hF ?hN hx mW1 mS0 m5 q5 rfl (arr3 rfl) (arr4 rfl) (mulOk3 ha32 hb32 hc32) ((sum3 ..).trans (wt_eq0 ..)) ?_
  (case hF => exact Fz)
  (case hN => exact Nz)
  intro zh0 zk0 w0 Fz3 Nz3
  refine comp_same Fz3 Nz3 off0 (.inr ⟨_, by k_mem, rfl, _, rfl⟩) ?_
  clear off0 Fz3 Nz3 Fz Nz hC hx
  repeat (first | (k_unfold; (try dsimp only)) | walk1 | (dsimp only; walk1))
  refine ⟨?_⟩
  rename Fr _ _ _ _ => Fz
  rename News _ _ _ _ => Nz
  rename LCg.Off3 _ _ _ _ => off1
  rename LCg.NsObj _ _ => hC
  rename _ = some (Value.ref v.S1) => hx
  refine' @row_sum w rfl mean mg mb h₀ L _ _ _ X T B _ _ _ _ _ _ _ _ _ _ _ _ _ _ _ _ (sel3 (v.a : Int) (v.b : Int) ((third v.N v.a v.b : Nat) : Int)) (sel3 1 1 0) _ hC ?hF ?hN hx mW1 mS1 m5 q5 rfl (arr3 rfl) (arr4 rfl) (mulOk3 ha32 hb32 hc32) ((sum3 ..).trans (wt_eq1 ..)) ?_
  (case hF => exact Fz)
  (case hN => exact Nz)
  intro zh1 zk1 w1 Fz3 Nz3
  refine comp_same Fz3 Nz3 off1 (.inr ⟨_, by k_mem, rfl, _, rfl⟩) ?_
  clear off1 Fz3 Nz3 Fz Nz hC hx
  repeat (first | (k_unfold; (try dsimp only)) | walk1 | (dsimp only; walk1))
  refine ⟨?_⟩
  rename Fr _ _ _ _ => Fz
  rename News _ _ _ _ => Nz
  rename LCg.Off3 _ _ _ _ => off2
  rename LCg.NsObj _ _ => hC
  rename _ = some (Value.ref v.S2) => hx
  refine' @row_sum w rfl mean mg mb h₀ L _ _ _ X T B _ _ _ _ _ _ _ _ _ _ _ _ _ _ _ _ (sel3 (v.a : Int) (v.b : Int) ((third v.N v.a v.b : Nat) : Int)) (sel3 0 1 0) _ hC ?hF ?hN hx mW1 mS2 m5 q5 rfl (arr3 rfl) (arr4 rfl) (mulOk3 ha32 hb32 hc32) ((sum3 ..).trans (wt_eq2 ..)) ?_
  (case hF => exact Fz)
  (case hN => exact Nz)
  intro zh2 zk2 w2 Fz3 Nz3
  refine comp_same Fz3 Nz3 off2 (.inr ⟨_, by k_mem, rfl, _, rfl⟩) ?_
  clear off2 Fz3 Nz3 Fz Nz hC hx
  repeat (first | (k_unfold; (try dsimp only)) | walk1 | (dsimp only; walk1))
  refine ⟨?_⟩
  rename Fr _ _ _ _ => Fz
  rename News _ _ _ _ => Nz
  rename LCg.Off3 _ _ _ _ => off3
  rename LCg.NsObj _ _ => hC
  rename _ = some (Value.ref v.S3) => hx
  refine' @row_sum w rfl mean mg mb h₀ L _ _ _ X T B _ _ _ _ _ _ _ _ _ _ _ _ _ _ _ _ (sel3 (v.a : Int) (v.b : Int) ((third v.N v.a v.b : Nat) : Int)) (sel3 0 1 1) _ hC ?hF ?hN hx mW1 mS3 m5 q5 rfl (arr3 rfl) (arr4 rfl) (mulOk3 ha32 hb32 hc32) ((sum3 ..).trans (wt_eq3 ..)) ?_
  (case hF => exact Fz)
  (case hN => exact Nz)
  intro zh3 zk3 w3 Fz3 Nz3
  refine comp_same Fz3 Nz3 off3 (.inr ⟨_, by k_mem, rfl, _, rfl⟩) ?_
  clear off3 Fz3 Nz3 Fz Nz hC hx
  repeat (first | (k_unfold; (try dsimp only)) | walk1 | (dsimp only; walk1))
  refine ⟨?_⟩
  rename Fr _ _ _ _ => Fz
  rename News _ _ _ _ => Nz
  rename LCg.Off3 _ _ _ _ => off4
  rename LCg.NsObj _ _ => hC
  rename _ = some (Value.ref v.S4) => hx
  refine' @row_sum w rfl mean mg mb h₀ L _ _ _ X T B _ _ _ _ _ _ _ _ _ _ _ _ _ _ _ _ (sel3 (v.a : Int) (v.b : Int) ((third v.N v.a v.b : Nat) : Int)) (sel3 0 0 1) _ hC ?hF ?hN hx mW1 mS4 m5 q5 rfl (arr3 rfl) (arr4 rfl) (mulOk3 ha32 hb32 hc32) ((sum3 ..).trans (wt_eq4 ..)) ?_
  (case hF => exact Fz)
  (case hN => exact Nz)
  intro zh4 zk4 w4 Fz3 Nz3
  refine comp_same Fz3 Nz3 off4 (.inr ⟨_, by k_mem, rfl, _, rfl⟩) ?_
  clear off4 Fz3 Nz3 Fz Nz hC hx
  repeat (first | (k_unfold; (try dsimp only)) | walk1 | (dsimp only; walk1))
  refine ⟨?_⟩
  rename Fr _ _ _ _ => Fz
  rename News _ _ _ _ => Nz
  rename LCg.Off3 _ _ _ _ => off5
  rename LCg.NsObj _ _ => hC
  rename _ = some (Value.ref v.S5) => hx
  refine' @row_sum w rfl mean mg mb h₀ L _ _ _ X T B _ _ _ _ _ _ _ _ _ _ _ _ _ _ _ _ (sel3 (v.a : Int) (v.b : Int) ((third v.N v.a v.b : Nat) : Int)) (sel3 1 0 1) _ hC ?hF ?hN hx mW1 mS5 m5 q5 rfl (arr3 rfl) (arr4 rfl) (mulOk3 ha32 hb32 hc32) ((sum3 ..).trans (wt_eq5 ..)) ?_
  (case hF => exact Fz)
  (case hN => exact Nz)
  intro zh5 zk5 w5 Fz3 Nz3
  refine comp_same Fz3 Nz3 off5 (.inr ⟨_, by k_mem, rfl, _, rfl⟩) ?_
  clear off5 Fz3 Nz3 Fz Nz hC hx
  repeat (first | (k_unfold; (try dsimp only)) | walk1 | (dsimp only; walk1))
  rename Fr _ _ _ _ => F1
  rename News _ _ _ _ => N1
  rename LCg.Off1 _ _ => of
  exact hQQ _ _ ⟨rfl, _, _, rfl, ⟨⟨frFun F1, v.d, v.t, v.A, v.e, v.N, v.a, v.b, v.W1, v.e1, v.D1, v.f1, v.D2, v.f2, v.k, v.mm, v.bb, v.D3, v.f3, v.S0, v.S1, v.S2, v.S3, v.S4, v.S5, v.g0, v.g1, v.g2, v.g3, v.g4, v.g5, nwA N1, _, v.tr, v.wh, v.ve, v.Se, v.Fo, v.fo, v.wid, v.sho, v.tN, v.ta, v.tb, v.u1, v.u2, v.u3, v.u4, v.y1, v.y2, v.y3, v.z2, v.z4, v.z6, v.tw, v.tv, v.tt, v.twi, v.tsh, v.x00, v.x01, v.x02, v.x03, v.x10, v.x11, v.x12, v.x13, v.x20, v.x21, v.x22, v.x23, v.x30, v.x31, v.x32, v.x33, v.x40, v.x41, v.x42, v.x43, v.x50, v.x51, v.x52, v.x53, w0, w1, w2, w3, w4, w5⟩, _ :: v.led, v.c1, v.c2, v.c3, v.c4, v.c5, v.c6, v.c7, v.c8, v.c9⟩, r, ⟨F1, back _ [_] N1 (List.forall_mem_cons.mpr ⟨(out _ (off1_mem of)), fun _ h => nomatch h⟩), .tail _ (hP.mA), .tail _ (hP.mW1), .tail _ (hP.mD1), .tail _ (hP.mD2), .tail _ (hP.mS0), .tail _ (hP.mS1), .tail _ (hP.mS2), .tail _ (hP.mS3), .tail _ (hP.mS4), .tail _ (hP.mS5), .tail _ (hP.mD3), .head _, .tail _ (hP.m1), .tail _ (hP.m2), .tail _ (hP.m3), .tail _ (hP.m4), .tail _ (hP.m5), .tail _ (hP.m6), .tail _ (hP.m7), hP.q1, hP.q2, hP.q3, hP.q4, hP.q5, hP.q6, hP.q7, hP.hd, hP.H, hP.HL, hP.lD1, hP.z_count, hP.z_letters, rfl⟩⟩
end
-- text K8
section
open PySem PySem.W PySem.Calls PyProof.Rows
set_option maxRecDepth 100000
set_option maxHeartbeats 8000000
theorem veil_ok (x : Nat) : veilB ((65024 + ((x % 16 : Nat) : Int)).toNat) = true := by
  unfold veilB
  rw [Bool.and_eq_true, Nat.ble_eq, Nat.ble_eq]
  have := Nat.mod_lt x (show 16 > 0 by decide)
  omega
theorem g6_eq (x : Nat) : ((x : Nat) : Int).fmod 6 = ((x % 6 : Nat) : Int) := fmod_cast x 6
theorem g3_eq (x : Nat) : (((x : Nat) : Int).fdiv 6).fmod 3 = ((x / 6 % 3 : Nat) : Int) := by rw [show ((x : Nat) : Int).fdiv 6 = ((x / 6 : Nat) : Int) from fdiv_nat x 6]; exact fmod_cast (x / 6) 3
theorem g16_eq (x : Nat) : (((x : Nat) : Int).fdiv 18).fmod 16 = ((x / 18 % 16 : Nat) : Int) := by rw [show ((x : Nat) : Int).fdiv 18 = ((x / 18 : Nat) : Int) from fdiv_nat x 18]; exact fmod_cast (x / 18) 16
local macro_rules | `(tactic| walk_at "binaryOp Mod int int") => `(tactic| first | ((with_reducible refine mod_int' ?hb ?_); (case hb => first | decide | (dsimp only [ne_eq]; omega))) | refine Mine.stop ?_)
local macro_rules | `(tactic| walk_at "call ref") => `(tactic| refine Mine.stop ?_)
local macro_rules | `(tactic| walk_at "subscriptTail Name Constant ref int") => `(tactic| refine Mine.stop ?_)
theorem seg_tu (w : World) : Seg w 13 3 TW' T9' := by
  unfold Seg
  k_fill
  intro _ mean mg mb h₀ L s E X T B hP
  obtain ⟨v, r, hP⟩ := hP
  refine genQ fun QQ hQQ => ?_
  obtain ⟨o, o', r', led, NN, dn, dn', e1, e2, nn, sub, ⟨qt, top⟩, back⟩ := hP.U.take2 (Nat.add_lt_add_left (by decide : 9 < 13) L)
  have nn' := Ne.symm nn
  have mA := sub _ hP.mA
  have m1 := sub _ hP.m1
  have q1 := hP.q1
  have F := hP.F
  unfold lawEnv lawBody lawLit mkLit
  dsimp only [List.drop, List.take]
  k_steps
  refine ⟨?_⟩
  refine tail_at (i := 3) (v := .int ((v.d 3 : Nat) : Int) (v.t 3)) (NN.isList (by k_mem)) rfl rfl (by decide) ?_
  dsimp only
  k_steps
  refine ⟨?_⟩
  rename News _ _ _ _ => N2
  refine tail_at (i := 3) (v := .int ((v.d 3 : Nat) : Int) (v.t 3)) (N2.isList (by k_mem)) rfl rfl (by decide) ?_
  dsimp only
  k_steps
  refine ⟨?_⟩
  rename News _ _ _ _ => N3
  refine tail_at (i := 3) (v := .int ((v.d 3 : Nat) : Int) (v.t 3)) (N3.isList (by k_mem)) rfl rfl (by decide) ?_
  dsimp only
  k_steps
  rename Fr _ _ _ _ => F1
  rename News _ _ _ _ => N1
  rename _ = Data.cell (some (Value.str _ _)) => dn9
  rename _ = Data.cell (some (Value.int (Int.fmod _ 3) _)) => dn8
  rw [g6_eq] at F1
  rw [g3_eq] at dn8
  rw [g16_eq] at dn9
  exact hQQ _ _ ⟨rfl, _, _, rfl, ⟨⟨frFun F1, v.d, v.t, v.A, v.e, v.N, v.a, v.b, v.W1, v.e1, v.D1, v.f1, v.D2, v.f2, v.k, v.mm, v.bb, v.D3, v.f3, v.S0, v.S1, v.S2, v.S3, v.S4, v.S5, v.g0, v.g1, v.g2, v.g3, v.g4, v.g5, v.D4, v.f4, v.d 3 % 6, v.d 3 / 6 % 3, _, v.Se, v.Fo, v.fo, v.wid, v.sho, v.tN, v.ta, v.tb, v.u1, v.u2, v.u3, v.u4, v.y1, v.y2, v.y3, v.z2, v.z4, v.z6, _, _, _, v.twi, v.tsh, v.x00, v.x01, v.x02, v.x03, v.x10, v.x11, v.x12, v.x13, v.x20, v.x21, v.x22, v.x23, v.x30, v.x31, v.x32, v.x33, v.x40, v.x41, v.x42, v.x43, v.x50, v.x51, v.x52, v.x53, v.w0, v.w1, v.w2, v.w3, v.w4, v.w5⟩, _ :: _ :: v.led, v.c1, v.c2, v.c3, v.c4, v.c5, v.c6, v.c7, _, _⟩, r', ⟨F1, back _ [_, _] N1 (List.forall_mem_cons.mpr ⟨.inl (Nat.lt_succ_of_lt (Nat.lt_succ_self _)), List.forall_mem_cons.mpr ⟨.inl (Nat.lt_succ_self _), fun _ h => nomatch h⟩⟩), .tail _ (.tail _ (hP.mA)), .tail _ (.tail _ (hP.mW1)), .tail _ (.tail _ (hP.mD1)), .tail _ (.tail _ (hP.mD2)), .tail _ (.tail _ (hP.mS0)), .tail _ (.tail _ (hP.mS1)), .tail _ (.tail _ (hP.mS2)), .tail _ (.tail _ (hP.mS3)), .tail _ (.tail _ (hP.mS4)), .tail _ (.tail _ (hP.mS5)), .tail _ (.tail _ (hP.mD3)), .tail _ (.tail _ (hP.mD4)), .tail _ (.tail _ (hP.m1)), .tail _ (.tail _ (hP.m2)), .tail _ (.tail _ (hP.m3)), .tail _ (.tail _ (hP.m4)), .tail _ (.tail _ (hP.m5)), .tail _ (.tail _ (hP.m6)), .tail _ (.tail _ (hP.m7)), .head _, .tail _ (.head _), hP.q1, hP.q2, hP.q3, hP.q4, hP.q5, hP.q6, hP.q7, dn8, dn9, hP.hd, hP.H, hP.HL, hP.lD1, Nat.mod_lt _ (by decide), Nat.mod_lt _ (by decide), veil_ok (v.d 3 / 18), hP.z_count, hP.z_letters, hP.z_worths, rfl⟩⟩
end
end
section
local macro_rules | `(tactic| k_ne) => `(tactic| with_reducible assumption)
section
local macro_rules | `(tactic| is_list) => `(tactic| exact News.isList (by k_asm) (by k_mem))
-- text G9 (idle)
section
local macro_rules | `(tactic| walk_at "idle") => `(tactic| skip)
open PySem PySem.W PySem.Calls PyProof.Rows
set_option maxRecDepth 100000
set_option maxHeartbeats 8000000
theorem get6 (f : Nat → Int) {w0 w1 w2 w3 w4 w5 : Tok} : ∀ i, i < 6 → ∃ t, (#[.int (f 0) w0, .int (f 1) w1, .int (f 2) w2, .int (f 3) w3, .int (f 4) w4, .int (f 5) w5] : Array Value)[i]? = some (.int (f i) t)
  | 0, _ => ⟨_, rfl⟩
  | 1, _ => ⟨_, rfl⟩
  | 2, _ => ⟨_, rfl⟩
  | 3, _ => ⟨_, rfl⟩
  | 4, _ => ⟨_, rfl⟩
  | 5, _ => ⟨_, rfl⟩
  | i + 6, h => by omega
theorem wt_le {N a b : Nat} (H : Num N a b) (i : Nat) : wt a b (third N a b) i ≤ 32 := by
  have h1 := H.n16
  have h2 := H.aN
  have h3 := H.bN
  have h4 : third N a b < 16 := by have := Nat.mod_lt (N - (a + b) % N) (show N > 0 by have := H.n8; omega); unfold third; omega
  unfold wt
  split <;> omega
theorem rest_int (w : World) (i : Int) (k n : Nat) (t1 t2 : Tok) (hi : i = (k : Int)) (hk : k < 2 ^ 20) (h0 : 0 < n) (h1 : n < 100) : Meets1 w 4 118 [.int i t1, .int (n : Int) t2] (fun v tl => tl = [] ∧ ∃ t, v = .int ((k % n : Nat) : Int) t) := by
  subst hi
  exact rest_call w k n t1 t2 hk h0 h1
noncomputable def hasI (mask : Nat) (k : Int) : Bool := decide (0 ≤ k) && hasB mask k.toNat
theorem hasB_bit (mask k : Nat) : hasB mask k = mask.testBit k := by
  show ((mask >>> k) &&& 1).beq 1 = (1 &&& (mask >>> k) != 0)
  rw [Nat.and_comm]
  have : 1 &&& (mask >>> k) = (mask >>> k) % 2 := by rw [Nat.and_comm]; exact Nat.and_one_is_mod _
  rw [this]
  rcases Nat.mod_two_eq_zero_or_one (mask >>> k) with h | h <;> rw [h] <;> rfl
theorem hasB_add (mask r j : Nat) : hasB (addB mask r) j = (hasB mask j || decide (j = r)) := by
  rw [hasB_bit, hasB_bit]
  show (mask ||| (1 <<< r)).testBit j = _
  rw [Nat.testBit_or, Nat.one_shiftLeft, Nat.testBit_two_pow]
  congr 1
  exact decide_eq_decide.mpr eq_comm
theorem hasI_nat (mask r : Nat) : hasI mask (r : Int) = hasB mask r := by
  unfold hasI
  rw [decide_eq_true (by omega), Bool.true_and, Int.toNat_natCast]
theorem fr_canon {g h : Heap} {L : Addr} {M : Str → Option Value} (l : List (Str × Value)) (F : Fr g L h M) (hl : ∀ p ∈ l, M p.1 = some p.2) : Fr g L h (l.foldr (fun p f y => if y = p.1 then some p.2 else f y) M) := by
  have : l.foldr (fun p f y => if y = p.1 then some p.2 else f y) M = M := by
    induction l with
    | nil => rfl
    | cons p l ih =>
      rw [List.foldr_cons, ih fun q hq => hl q (List.mem_cons_of_mem _ hq)]
      funext y
      by_cases e : y = p.1
      · rw [if_pos e, e, hl p (List.mem_cons_self ..)]
      · rw [if_neg e]
  rw [this]; exact F
theorem hasI_add (mask r : Nat) : (fun k' : Int => hasI mask k' || decide (k' = (r : Int))) = hasI (addB mask r) := by
  funext k'
  unfold hasI
  rw [hasB_add]
  by_cases h0 : 0 ≤ k'
  · rw [decide_eq_true h0, Bool.true_and, Bool.true_and]
    congr 1
    by_cases h : k' = (r : Int)
    · rw [decide_eq_true h, decide_eq_true (by omega : k'.toNat = r)]
    · rw [decide_eq_false h, decide_eq_false (by omega : ¬ k'.toNat = r)]
  · rw [decide_eq_false h0, Bool.false_and, Bool.false_and, Bool.false_or]
    exact decide_eq_false (by omega)
noncomputable def TupOk (p : Txt3) (Q : Obj) : Prop := (p.1 < 9 ∧ p.2.2 < p.1 ∧ p.2.1 < 6) ∧ ∃ t1 t2 t3 t4, Q = { cls := .type "tuple", data := .seq #[.int ((p.1 : Nat) : Int) t1, .float (hueOf (pt p).1 (pt p).2.1 (pt p).2.2) t2, .int (ptx p) t3, .int (pty p) t4] }
noncomputable def FoundOk (l : List Txt3) (fit : Array Value) (P1 P2 : Nat) (Q1 Q2 : Obj) : Prop := match l with
  | [] => fit = #[]
  | [p] => fit = #[.ref P1] ∧ TupOk p Q1
  | [p, q] => fit = #[.ref P1, .ref P2] ∧ TupOk p Q1 ∧ TupOk q Q2
  | _ => False
noncomputable def forBody : Stmt → List Stmt
  | .For _ _ b _ _ => b
  | _ => []
noncomputable def ifBody : Stmt → List Stmt
  | .If _ b _ _ => b
  | _ => []
noncomputable def nthS (l : List Stmt) (i : Nat) : Stmt := l.getD i (.Pass default)
noncomputable def ringBody (w : World) : List Stmt := forBody (nthS (lawBody w) 20)
noncomputable def sideBody (w : World) : List Stmt := forBody (nthS (ringBody w) 0)
noncomputable def farBody (w : World) : List Stmt := forBody (nthS (sideBody w) 1)
noncomputable def hitBody (w : World) : List Stmt := ifBody (nthS (farBody w) 2)
noncomputable def SegB (w : World) (body : List Stmt) (Pre Post : Heap → Addr → Heap → Prop) : Prop :=
  PySem.Challenge.rw_tp0031_01.prog = PySem.Challenge.rw_tp0031_01.prog → ∀ (mean : ExcName → Option Value) (mg mb : Str → Option Value) (h₀ : Heap) (L : Addr) (s : Shared) (E : Value → Shared → Prop),
    (kf w.params).In h₀ → Top qv (looseW qv lz) mean mg mb h₀ → Below callerA h₀ [] h₀ → Pre h₀ L s.heap →
    wpAny (model PySem.Challenge.rw_tp0031_01.prog w) (callerA.deeper (lawEnv w L)) (execs body (lawEnv w L)) (SegEnd s (Post h₀ L)) E s
theorem SegB.comp {w : World} {a b : List Stmt} {P Q R : Heap → Addr → Heap → Prop} (h1 : SegB w a P Q) (h2 : SegB w b Q R) : SegB w (a ++ b) P R := by
  intro hr mean mg mb h₀ L s E X T B hP
  refine execs_append _ (wpAny_mono (h1 hr mean mg mb h₀ L s E X T B hP) (fun f s' hs => ?_) fun _ _ e => e)
  obtain ⟨rfl, h', tk', rfl, hQ⟩ := hs
  refine wpAny_mono (h2 hr mean mg mb h₀ L _ E X T B hQ) (fun f s' hs => ?_) fun _ _ e => e
  obtain ⟨rfl, h'', tk'', rfl, hR⟩ := hs
  exact ⟨rfl, h'', tk'', rfl, hR⟩
set_option genInjectivity false
set_option genSizeOf false
structure LK where
  (X1 X2 X3 : Nat)
  (Y1 Y2 Y3 : Obj)
structure LF where
  (ring sd far fst snd : Nat)
  (t10 t11 t12 t13 : Tok)
structure O4 where
  (o10 o11 o12 o13 : Obj)
structure LX where
  mx : Str → Option Value
  so : Obj
  Q1 : Obj
  Q2 : Obj
  P1 : Nat
  P2 : Nat
  ft : Nat
  fit : Array Value
  xwi : Tok
  xsh : Tok
  xr : Tok
  xt : Tok
  Pa : Nat
  pg : Nat
  p0 : Tok
  p1 : Tok
  p2 : Tok
  p3 : Tok
  Du : Nat
  ug : Nat
  v0 : Tok
  v1 : Tok
  v2 : Tok
  th : Tok
  ts : Tok
structure Ct (v : LZ) (L : Addr) : Prop where
  mD4 : (v.D4, listOf #[.int ((wt v.a v.b (third v.N v.a v.b) 0 : Nat) : Int) v.w0, .int ((wt v.a v.b (third v.N v.a v.b) 1 : Nat) : Int) v.w1, .int ((wt v.a v.b (third v.N v.a v.b) 2 : Nat) : Int) v.w2, .int ((wt v.a v.b (third v.N v.a v.b) 3 : Nat) : Int) v.w3, .int ((wt v.a v.b (third v.N v.a v.b) 4 : Nat) : Int) v.w4, .int ((wt v.a v.b (third v.N v.a v.b) 5 : Nat) : Int) v.w5] v.f4) ∈ v.led
  mD3 : (v.D3, listOf #[.ref v.S0, .ref v.S1, .ref v.S2, .ref v.S3, .ref v.S4, .ref v.S5] v.f3) ∈ v.led
  mS0 : (v.S0, listOf #[.int 1 v.x00, .int 0 v.x01, .int 0 v.x02, .int 1 v.x03] v.g0) ∈ v.led
  mS1 : (v.S1, listOf #[.int 1 v.x10, .int 1 v.x11, .int 0 v.x12, .int 2 v.x13] v.g1) ∈ v.led
  mS2 : (v.S2, listOf #[.int 0 v.x20, .int 1 v.x21, .int 0 v.x22, .int 1 v.x23] v.g2) ∈ v.led
  mS3 : (v.S3, listOf #[.int 0 v.x30, .int 1 v.x31, .int 1 v.x32, .int 2 v.x33] v.g3) ∈ v.led
  mS4 : (v.S4, listOf #[.int 0 v.x40, .int 0 v.x41, .int 1 v.x42, .int 1 v.x43] v.g4) ∈ v.led
  mS5 : (v.S5, listOf #[.int 1 v.x50, .int 0 v.x51, .int 1 v.x52, .int 2 v.x53] v.g5) ∈ v.led
  mD2 : (v.D2, listOf #[.str ⟨#[v.k]⟩ v.y1, .str ⟨#[13262]⟩ v.z2, .str ⟨#[v.mm]⟩ v.y2, .str ⟨#[13190]⟩ v.z4, .str ⟨#[v.bb]⟩ v.y3, .str ⟨#[13189]⟩ v.z6] v.f2) ∈ v.led
  mD1 : (v.D1, listOf #[.str ⟨#[v.k]⟩ v.y1, .str ⟨#[v.mm]⟩ v.y2, .str ⟨#[v.bb]⟩ v.y3] v.f1) ∈ v.led
  mW1 : (v.W1, listOf #[.int ((v.a : Nat) : Int) v.u1, .int ((v.b : Nat) : Int) v.u2, .int ((third v.N v.a v.b : Nat) : Int) v.u3] v.e1) ∈ v.led
  mA : (v.A, listOf #[.int ((v.d 0 : Nat) : Int) (v.t 0), .int ((v.d 1 : Nat) : Int) (v.t 1), .int ((v.d 2 : Nat) : Int) (v.t 2), .int ((v.d 3 : Nat) : Int) (v.t 3), .int ((v.d 4 : Nat) : Int) (v.t 4), .int ((v.d 5 : Nat) : Int) (v.t 5), .int ((v.d 6 : Nat) : Int) (v.t 6), .int ((v.d 7 : Nat) : Int) (v.t 7), .int ((v.d 8 : Nat) : Int) (v.t 8), .int ((v.d 9 : Nat) : Int) (v.t 9)] v.e) ∈ v.led
  m1 : (L + 1, v.c1) ∈ v.led
  m2 : (L + 1 + 1, v.c2) ∈ v.led
  m3 : (L + 1 + 1 + 1, v.c3) ∈ v.led
  m4 : (L + 1 + 1 + 1 + 1, v.c4) ∈ v.led
  m5 : (L + 1 + 1 + 1 + 1 + 1, v.c5) ∈ v.led
  m6 : (L + 1 + 1 + 1 + 1 + 1 + 1, v.c6) ∈ v.led
  m7 : (L + 1 + 1 + 1 + 1 + 1 + 1 + 1, v.c7) ∈ v.led
  m8 : (L + 1 + 1 + 1 + 1 + 1 + 1 + 1 + 1, v.c8) ∈ v.led
  m9 : (L + 1 + 1 + 1 + 1 + 1 + 1 + 1 + 1 + 1, v.c9) ∈ v.led
  q1 : v.c1.data = .cell (some (.ref v.A))
  q2 : v.c2.data = .cell (some (.int ((v.N : Nat) : Int) v.tN))
  q3 : v.c3.data = .cell (some (.int ((v.a : Nat) : Int) v.ta))
  q4 : v.c4.data = .cell (some (.int ((v.b : Nat) : Int) v.tb))
  q5 : v.c5.data = .cell (some (.ref v.W1))
  q6 : v.c6.data = .cell (some (.ref v.D2))
  q7 : v.c7.data = .cell (some (.ref v.D3))
  q8 : v.c8.data = .cell (some (.int ((v.wh : Nat) : Int) v.tw))
  q9 : v.c9.data = .cell (some (.str ⟨#[v.ve]⟩ v.tv))
  e10 : ∀ p ∈ v.led, p.1 ≠ L + 1 + 1 + 1 + 1 + 1 + 1 + 1 + 1 + 1 + 1
  e11 : ∀ p ∈ v.led, p.1 ≠ L + 1 + 1 + 1 + 1 + 1 + 1 + 1 + 1 + 1 + 1 + 1
  e12 : ∀ p ∈ v.led, p.1 ≠ L + 1 + 1 + 1 + 1 + 1 + 1 + 1 + 1 + 1 + 1 + 1 + 1
  e13 : ∀ p ∈ v.led, p.1 ≠ L + 1 + 1 + 1 + 1 + 1 + 1 + 1 + 1 + 1 + 1 + 1 + 1 + 1
  lD1 : @LT.lt Nat _ (@HAdd.hAdd Nat Nat Nat _ L 13) v.D1
  hd : ∀ i, v.d i < 1000000
  H : Num v.N v.a v.b
  HL : Ltr v.k v.mm v.bb
  htr : v.tr < 6
  hwh : v.wh < 3
  hve : veilB v.ve = true
structure Ce (v : LZ) (L : Addr) : Prop extends Ct v L where
  hs : ∀ p ∈ v.led, @LT.lt Nat _ p.1 v.Se
  lSe : @LT.lt Nat _ (@HAdd.hAdd Nat Nat Nat _ L 13) v.Se
  sFo : @LT.lt Nat _ v.Se v.Fo
theorem Ce.eS {v : LZ} {L : Addr} (C : Ce v L) : ∀ p ∈ v.led, p.1 ≠ v.Se := fun p hp => Nat.ne_of_lt (C.hs p hp)
theorem Ce.eF {v : LZ} {L : Addr} (C : Ce v L) : ∀ p ∈ v.led, p.1 ≠ v.Fo := fun p hp => Nat.ne_of_lt (Nat.lt_trans (C.hs p hp) C.sFo)
theorem Ce.fs {v : LZ} {L : Addr} (C : Ce v L) : @Ne Nat v.Fo v.Se := Nat.ne_of_gt C.sFo
theorem Ce.sf {v : LZ} {L : Addr} (C : Ce v L) : @Ne Nat v.Se v.Fo := Nat.ne_of_lt C.sFo
theorem Ce.cs10 {v : LZ} {L : Addr} (C : Ce v L) : @Ne Nat (L + 1 + 1 + 1 + 1 + 1 + 1 + 1 + 1 + 1 + 1) v.Se := Nat.ne_of_lt (Nat.lt_of_le_of_lt (Nat.add_le_add_left (by decide : 10 ≤ 13) L) C.lSe)
theorem Ce.cf10 {v : LZ} {L : Addr} (C : Ce v L) : @Ne Nat (L + 1 + 1 + 1 + 1 + 1 + 1 + 1 + 1 + 1 + 1) v.Fo := Nat.ne_of_lt (Nat.lt_trans (Nat.lt_of_le_of_lt (Nat.add_le_add_left (by decide : 10 ≤ 13) L) C.lSe) C.sFo)
theorem Ce.cs11 {v : LZ} {L : Addr} (C : Ce v L) : @Ne Nat (L + 1 + 1 + 1 + 1 + 1 + 1 + 1 + 1 + 1 + 1 + 1) v.Se := Nat.ne_of_lt (Nat.lt_of_le_of_lt (Nat.add_le_add_left (by decide : 11 ≤ 13) L) C.lSe)
theorem Ce.cf11 {v : LZ} {L : Addr} (C : Ce v L) : @Ne Nat (L + 1 + 1 + 1 + 1 + 1 + 1 + 1 + 1 + 1 + 1 + 1) v.Fo := Nat.ne_of_lt (Nat.lt_trans (Nat.lt_of_le_of_lt (Nat.add_le_add_left (by decide : 11 ≤ 13) L) C.lSe) C.sFo)
theorem Ce.cs12 {v : LZ} {L : Addr} (C : Ce v L) : @Ne Nat (L + 1 + 1 + 1 + 1 + 1 + 1 + 1 + 1 + 1 + 1 + 1 + 1) v.Se := Nat.ne_of_lt (Nat.lt_of_le_of_lt (Nat.add_le_add_left (by decide : 12 ≤ 13) L) C.lSe)
theorem Ce.cf12 {v : LZ} {L : Addr} (C : Ce v L) : @Ne Nat (L + 1 + 1 + 1 + 1 + 1 + 1 + 1 + 1 + 1 + 1 + 1 + 1) v.Fo := Nat.ne_of_lt (Nat.lt_trans (Nat.lt_of_le_of_lt (Nat.add_le_add_left (by decide : 12 ≤ 13) L) C.lSe) C.sFo)
theorem Ce.cs13 {v : LZ} {L : Addr} (C : Ce v L) : @Ne Nat (L + 1 + 1 + 1 + 1 + 1 + 1 + 1 + 1 + 1 + 1 + 1 + 1 + 1) v.Se := Nat.ne_of_lt (Nat.lt_of_le_of_lt (Nat.add_le_add_left (by decide : 13 ≤ 13) L) C.lSe)
theorem Ce.cf13 {v : LZ} {L : Addr} (C : Ce v L) : @Ne Nat (L + 1 + 1 + 1 + 1 + 1 + 1 + 1 + 1 + 1 + 1 + 1 + 1 + 1) v.Fo := Nat.ne_of_lt (Nat.lt_trans (Nat.lt_of_le_of_lt (Nat.add_le_add_left (by decide : 13 ≤ 13) L) C.lSe) C.sFo)
structure Lo (v : LZ) (st : St) (xsh xwi : Tok) (m : Str → Option Value) : Prop where
  found : m (Str.ofString "found") = some (.ref v.Fo)
  short : m (Str.ofString "short") = some (.int ((st.short : Nat) : Int) xsh)
  wide : m (Str.ofString "wide") = some (.int ((st.wide : Nat) : Int) xwi)
  seen : m (Str.ofString "seen") = some (.ref v.Se)
  turn : m (Str.ofString "turn") = some (.int ((v.tr : Nat) : Int) v.tt)
  worths : m (Str.ofString "worths") = some (.ref v.D4)
  letters : m (Str.ofString "letters") = some (.ref v.D1)
  count : m (Str.ofString "count") = some (.int ((v.N / gcd3 v.N v.a v.b : Nat) : Int) v.u4)
structure Pk (w : World) (v : LZ) (st : St) (P1 P2 : Nat) (Q1 Q2 : Obj) (fit : Array Value) (so : Obj) (L : Addr) : Prop where
  l1 : @LT.lt Nat _ (@HAdd.hAdd Nat Nat Nat _ L 13) P1
  s1 : @Ne Nat P1 v.Se
  f1 : @Ne Nat P1 v.Fo
  l2 : @LT.lt Nat _ (@HAdd.hAdd Nat Nat Nat _ L 13) P2
  s2 : @Ne Nat P2 v.Se
  f2 : @Ne Nat P2 v.Fo
  hset : so.SetObjOf (PySem.intKind PySem.Challenge.rw_tp0031_01.prog w) (hasI st.mask) st.cnt
  hfo : FoundOk st.found fit P1 P2 Q1 Q2
structure It (v : LZ) (P1 P2 X : Nat) : Prop where
  g : @LT.lt Nat _ v.Fo X
  n1 : @Ne Nat P1 X
  n2 : @Ne Nat P2 X
theorem It.s {v : LZ} {P1 P2 X : Nat} {L : Addr} (i : It v P1 P2 X) (C : Ce v L) : @Ne Nat X v.Se := Nat.ne_of_gt (Nat.lt_trans C.sFo i.g)
theorem It.f {v : LZ} {P1 P2 X : Nat} (i : It v P1 P2 X) : @Ne Nat X v.Fo := Nat.ne_of_gt i.g
structure Bf (w : World) (v : LZ) (k : LK) (f : LF) (o : O4) (st : St) (P1 P2 : Nat) (Q1 Q2 : Obj) (fit : Array Value) (so : Obj) (L : Addr) : Prop where
  C : Ce v L
  pk : Pk w v st P1 P2 Q1 Q2 fit so L
  i1 : It v P1 P2 k.X1
  i2 : It v P1 P2 k.X2
  i3 : It v P1 P2 k.X3
  ox1 : @LT.lt Nat _ k.X1 k.X2
  ox2 : @LT.lt Nat _ k.X2 k.X3
  fr : f.ring < 20
  frf : f.far < f.ring
  ff1 : f.fst = f.sd
  ff2 : f.snd = (f.sd + 1) % 6
  fs6 : f.sd < 6
  q10 : o.o10.data = .cell (some (.int ((f.ring : Nat) : Int) f.t10))
  q11 : o.o11.data = .cell (some (.int ((f.fst : Nat) : Int) f.t11))
  q12 : o.o12.data = .cell (some (.int ((f.snd : Nat) : Int) f.t12))
  q13 : o.o13.data = .cell (some (.int ((f.far : Nat) : Int) f.t13))
structure Lf (w : World) (v : LZ) (k : LK) (f : LF) (o : O4) (st : St) (x : LX) (h₀ : Heap) (L : Addr) (h : Heap) : Prop where
  F : Fr h₀ L h x.mx
  lo : Lo v st x.xsh x.xwi x.mx
  b : Bf w v k f o st x.P1 x.P2 x.Q1 x.Q2 x.fit x.so L
  NN : News h₀ L h ((k.X1, k.Y1) :: (k.X2, k.Y2) :: (k.X3, k.Y3) :: (v.Fo, listOf x.fit x.ft) :: (v.Se, x.so) :: (x.P1, x.Q1) :: (x.P2, x.Q2) :: (L + 1 + 1 + 1 + 1 + 1 + 1 + 1 + 1 + 1 + 1 + 1 + 1 + 1, o.o13) :: (L + 1 + 1 + 1 + 1 + 1 + 1 + 1 + 1 + 1 + 1 + 1 + 1, o.o12) :: (L + 1 + 1 + 1 + 1 + 1 + 1 + 1 + 1 + 1 + 1 + 1, o.o11) :: (L + 1 + 1 + 1 + 1 + 1 + 1 + 1 + 1 + 1 + 1, o.o10) :: v.led)
structure Lr (w : World) (v : LZ) (k : LK) (f : LF) (o : O4) (st : St) (R : Nat) (x : LX) (h₀ : Heap) (L : Addr) (h : Heap) : Prop where
  F : Fr h₀ L h x.mx
  lo : Lo v st x.xsh x.xwi x.mx
  b : Bf w v k f o st x.P1 x.P2 x.Q1 x.Q2 x.fit x.so L
  hr : x.mx (Str.ofString "rest") = some (.int ((R : Nat) : Int) x.xr)
  NN : News h₀ L h ((k.X1, k.Y1) :: (k.X2, k.Y2) :: (k.X3, k.Y3) :: (v.Fo, listOf x.fit x.ft) :: (v.Se, x.so) :: (x.P1, x.Q1) :: (x.P2, x.Q2) :: (L + 1 + 1 + 1 + 1 + 1 + 1 + 1 + 1 + 1 + 1 + 1 + 1 + 1, o.o13) :: (L + 1 + 1 + 1 + 1 + 1 + 1 + 1 + 1 + 1 + 1 + 1 + 1, o.o12) :: (L + 1 + 1 + 1 + 1 + 1 + 1 + 1 + 1 + 1 + 1 + 1, o.o11) :: (L + 1 + 1 + 1 + 1 + 1 + 1 + 1 + 1 + 1 + 1, o.o10) :: v.led)
local macro_rules | `(tactic| walk_at "call ref") => `(tactic| refine Mine.stop ?_)
local macro_rules | `(tactic| walk_at "binaryOp Mult int int") => `(tactic| refine Mine.stop ?_)
local macro_rules | `(tactic| walk_at "subscriptTail Name Name ref int") => `(tactic| refine Mine.stop ?_)
theorem far_1 (w : World) : ∀ (v : LZ) (k : LK) (f : LF) (o : O4) (st : St),  SegB w ((farBody w).take 1) (fun h₀ L h => ∃ x, Lf w v k f o st x h₀ L h) (fun h₀ L h => ∃ x, Lr w v k f o st (restN v.N (wt v.a v.b (third v.N v.a v.b) f.fst) (wt v.a v.b (third v.N v.a v.b) f.snd) f.ring f.far) x h₀ L h) := by
  intro v k f o st 
  unfold SegB
  k_fill
  intro _ mean mg mb h₀ L s E X T B hP
  obtain ⟨x, hP⟩ := hP
  refine genQ fun QQ hQQ => ?_
  have NN := hP.NN
  have b := hP.b
  have C := b.C
  have H := C.H
  have m2 := C.m2
  have q2 := C.q2
  have mD4 := C.mD4
  have fr := b.fr
  have frf := b.frf
  have ff1 := b.ff1
  have ff2 := b.ff2
  have fs6 := b.fs6
  have q10 := b.q10
  have q11 := b.q11
  have q12 := b.q12
  have q13 := b.q13
  have F : Fr h₀ L s.heap (fun y => if y = Str.ofString "worths" then some (.ref v.D4) else x.mx y) := fr_canon [(Str.ofString "worths", _)] hP.F (List.forall_mem_cons.mpr ⟨hP.lo.worths, fun _ h => nomatch h⟩)
  unfold lawEnv lawLit mkLit
  unfold farBody sideBody ringBody lawBody lawLit mkLit
  dsimp only [List.take, List.drop, List.getD, nthS, forBody, ifBody, List.getElem?_cons_succ, List.getElem?_cons_zero, Option.getD_some]
  have e1 : (f.ring : Int) - (f.far : Int) = ((f.ring - f.far : Nat) : Int) := by clear F NN X T B; omega
  obtain ⟨tw1, hw1⟩ := get6 (w0 := v.w0) (w1 := v.w1) (w2 := v.w2) (w3 := v.w3) (w4 := v.w4) (w5 := v.w5) (fun i => ((wt v.a v.b (third v.N v.a v.b) i : Nat) : Int)) f.fst (by omega)
  obtain ⟨tw2, hw2⟩ := get6 (w0 := v.w0) (w1 := v.w1) (w2 := v.w2) (w3 := v.w3) (w4 := v.w4) (w5 := v.w5) (fun i => ((wt v.a v.b (third v.N v.a v.b) i : Nat) : Int)) f.snd (by omega)
  have hb1 := wt_le H f.fst
  have hb2 := wt_le H f.snd
  have hk1 : (f.ring - f.far) * wt v.a v.b (third v.N v.a v.b) f.fst ≤ 20 * 32 := Nat.mul_le_mul (by omega) hb1
  have hk2 : f.far * wt v.a v.b (third v.N v.a v.b) f.snd ≤ 20 * 32 := Nat.mul_le_mul (by omega) hb2
  k_steps
  refine ⟨?_⟩
  rw [e1]
  refine tail_at (NN.isList (by k_mem)) rfl hw1 (by omega) ?_
  k_steps
  refine ⟨?_⟩
  refine PyProof.Rows.mul_int ?_ (.of_left (bits32 (by omega)))
  k_steps
  refine ⟨?_⟩
  refine tail_at (NN.isList (by k_mem)) rfl hw2 (by omega) ?_
  k_steps
  refine ⟨?_⟩
  refine PyProof.Rows.mul_int ?_ (.of_left (bits32 (by omega)))
  k_steps
  refine ⟨?_⟩
  k_dflt (refine' meets_use (rest_int w _ ((f.ring - f.far) * wt v.a v.b (third v.N v.a v.b) f.fst + f.far * wt v.a v.b (third v.N v.a v.b) f.snd) v.N _ _ (by rw [Int.natCast_add, Int.natCast_mul, Int.natCast_mul]) (by omega) (by have := H.n8; omega) (by have := H.n16; omega)) ?k1 ?k2 ?k3 ?k4 ?k5 ?k6 ?k7 ?k8 ?_)
  (case k1 => k_asm)
  (case k2 => k_asm)
  (case k3 => k_asm)
  (case k4 => k_asm)
  (case k5 => k_asm)
  (case k6 => rfl)
  (case k7 => ktr_room)
  (case k8 => ktr_units)
  rintro v' tl r1 rk1 F1 N1 ⟨rfl, tr1, rfl⟩
  rw [List.nil_append] at N1
  k_steps
  rename Fr _ _ _ _ => F1
  rename News _ _ _ _ => N1
  exact hQQ _ _ ⟨rfl, _, _, rfl, { x with xr := _, mx := frFun F1 }, ⟨F1, ⟨hP.lo.found, hP.lo.short, hP.lo.wide, hP.lo.seen, hP.lo.turn, rfl, hP.lo.letters, hP.lo.count⟩, b, rfl, N1⟩⟩
end
-- text G10
section
open PySem PySem.W PySem.Calls PyProof.Rows
set_option maxRecDepth 100000
set_option maxHeartbeats 8000000
local macro_rules | `(tactic| walk_at "call ref") => `(tactic| refine Mine.stop ?_)
theorem far_2 (w : World) : ∀ (v : LZ) (k : LK) (f : LF) (o : O4) (st : St), ∀ (R : Nat), R < v.N → st.cnt ≤ 3000 → SegB w (((farBody w).drop 1).take 1) (fun h₀ L h => ∃ x, Lr w v k f o st R x h₀ L h) (fun h₀ L h => ∃ x, Lr w v k f o (see v.N R f.ring st) R x h₀ L h) := by
  intro v k f o st R hR hc
  unfold SegB
  k_fill
  intro _ mean mg mb h₀ L s E X T B hP
  obtain ⟨x, hP⟩ := hP
  refine genQ fun QQ hQQ => ?_
  have NN := hP.NN
  have b := hP.b
  have C := b.C
  have H := C.H
  have m2 := C.m2
  have q2 := C.q2
  have q10 := b.q10
  have hset := b.pk.hset
  have eS := C.eS
  have xs1 := b.i1.s C
  have xs2 := b.i2.s C
  have xs3 := b.i3.s C
  have fs := C.fs
  have ps1 := b.pk.s1
  have ps2 := b.pk.s2
  have cs10 := C.cs10
  have cs11 := C.cs11
  have cs12 := C.cs12
  have cs13 := C.cs13
  have F : Fr h₀ L s.heap (fun y => if y = Str.ofString "rest" then some (.int ((R : Nat) : Int) x.xr) else if y = Str.ofString "seen" then some (.ref v.Se) else if y = Str.ofString "wide" then some (.int ((st.wide : Nat) : Int) x.xwi) else x.mx y) := fr_canon [(Str.ofString "rest", _), (Str.ofString "seen", _), (Str.ofString "wide", _)] hP.F (List.forall_mem_cons.mpr ⟨hP.hr, List.forall_mem_cons.mpr ⟨hP.lo.seen, List.forall_mem_cons.mpr ⟨hP.lo.wide, fun _ h => nomatch h⟩⟩⟩)
  unfold lawEnv lawLit mkLit
  unfold farBody sideBody ringBody lawBody lawLit mkLit
  dsimp only [List.take, List.drop, List.getD, nthS, forBody, ifBody, List.getElem?_cons_succ, List.getElem?_cons_zero, Option.getD_some]
  have h16 := H.n16
  k_steps
  · rename hasI _ _ = true => hb
    rw [hasI_nat] at hb
    have es : see v.N R f.ring st = st := by
      unfold see; rw [hb]
    rw [es] at hQQ
    rename Fr _ _ _ _ => F1
    rename News _ _ _ _ => N1
    exact hQQ _ _ ⟨rfl, _, _, rfl, { x with mx := frFun F1 }, ⟨F1, ⟨hP.lo.found, hP.lo.short, rfl, rfl, hP.lo.turn, hP.lo.worths, hP.lo.letters, hP.lo.count⟩, b, rfl, N1⟩⟩
  · rename hasI _ _ = false => hb
    rename Obj.SetObjOf _ _ _ _ => hset2
    rw [show (v.N : Int) - (R : Int) = ((v.N - R : Nat) : Int) by omega] at hset2
    have ef : (fun k' : Int => hasI st.mask k' || decide (k' = (R : Int)) || decide (k' = ((v.N - R : Nat) : Int))) = hasI (addB (addB st.mask R) (v.N - R)) := by
      rw [← hasI_add (addB st.mask R) (v.N - R), ← hasI_add st.mask R]
    have e2 : (hasI st.mask ((v.N - R : Nat) : Int) || decide (((v.N - R : Nat) : Int) = (R : Int))) = hasB (addB st.mask R) (v.N - R) := by
      rw [← hasI_nat, ← hasI_add st.mask R]
    simp only [hb, Bool.false_eq_true, if_false] at hset2
    rw [ef, e2] at hset2
    rw [hasI_nat] at hb
    have es : see v.N R f.ring st = ⟨addB (addB st.mask R) (v.N - R), if hasB (addB st.mask R) (v.N - R) = true then st.cnt + 1 else st.cnt + 1 + 1, f.ring, st.short, st.found⟩ := by
      unfold see; rw [hb]; dsimp only; cases hasB (addB st.mask R) (v.N - R) <;> rfl
    rw [es] at hQQ
    rename Fr _ _ _ _ => F1
    rename News _ _ _ _ => N1
    exact hQQ _ _ ⟨rfl, _, _, rfl, { x with so := _, xwi := _, mx := frFun F1 }, ⟨F1, ⟨hP.lo.found, hP.lo.short, rfl, rfl, hP.lo.turn, hP.lo.worths, hP.lo.letters, hP.lo.count⟩, { b with pk := { b.pk with hset := hset2 } }, rfl, N1⟩⟩
end
-- text S1
section
open PySem PySem.W PySem.Calls PyProof.Rows PyProof
set_option maxRecDepth 100000
set_option maxHeartbeats 8000000
theorem foldl_app : ∀ (L : List (Array Nat)) (acc : Array Nat), L.foldl (· ++ ·) acc = ⟨acc.toList ++ (L.map (·.toList)).flatten⟩
  | [], acc => by simp
  | a :: L, acc => by
    rw [List.foldl_cons, foldl_app L]
    simp
theorem mulL (l : List Nat) (n : Nat) : Txt.mul ⟨⟨l⟩⟩ (n : Int) = ⟨⟨(List.replicate n l).flatten⟩⟩ := by
  unfold Txt.mul
  split
  · have : n = 0 := by omega
    subst this; rfl
  · split
    · rename_i h
      rw [Bool.or_eq_true] at h
      rcases h with h | h
      · have : n = 1 := by have := eq_of_beq h; omega
        subst this
        simp
      · have h1 : l.length = 0 := eq_of_beq h
        have : l = [] := List.eq_nil_of_length_eq_zero h1
        subst this
        simp
    · rw [Int.toNat_natCast, foldl_app]
      simp
section
variable {prog : Program} {w : World} {A : Around} {E : Value → Shared → Prop} {s : Shared} {t u : Tok} {Q : Value → Shared → Prop}
theorem str_mul {l : List Nat} {i : Int} (n : Nat) (hi : i = (n : Int)) (hl : l.length ≤ 16) (hn : n ≤ 100) (h : ∀ t' k, Q (.str ⟨⟨(List.replicate n l).flatten⟩⟩ t') { s with toks := k }) : wpAny (model prog w) A (binaryOp .Mult (.str ⟨⟨l⟩⟩ t) (.int i u)) Q E s := by
  subst hi
  refine SB.mul (mulOk_of 16 100 (by show l.length ≤ 16; exact hl) (by omega) (by omega) (by decide) (by decide)) fun t' k => ?_
  rw [mulL]
  exact h t' k
theorem str_add {l1 l2 : List Nat} (hl : l1.length + l2.length ≤ 10000) (h : ∀ t' k, Q (.str ⟨⟨l1 ++ l2⟩⟩ t') { s with toks := k }) : wpAny (model prog w) A (binaryOp .Add (.str ⟨⟨l1⟩⟩ t) (.str ⟨⟨l2⟩⟩ u)) Q E s := by
  refine PyProof.Rows.add_str (fun t' k => ?_) (by show l1.length + l2.length ≤ sizeLine; rw [sizeLine_eq]; omega)
  have : (⟨⟨l1⟩⟩ : Str) ++ ⟨⟨l2⟩⟩ = ⟨⟨l1 ++ l2⟩⟩ := by
    show (⟨⟨l1⟩ ++ ⟨l2⟩⟩ : Str) = _
    simp
  rw [this]
  exact h t' k
end
theorem told_append (a b : List Nat) : told (a ++ b) = told a ++ told b := by
  unfold told
  rw [List.filter_append, List.map_append, List.flatten_append]
theorem told_rep (n : Nat) (l : List Nat) : told (List.replicate n l).flatten = (List.replicate n (told l)).flatten := by
  induction n with
  | zero => rfl
  | succ n ih => rw [List.replicate_succ, List.replicate_succ, List.flatten_cons, List.flatten_cons, told_append, ih]
theorem told_veil {c : Nat} (h : veilB c = true) : told [c] = [] := by
  unfold told
  rw [List.filter_cons, h]; rfl
theorem count_rep (n x : Nat) (l : List Nat) : ((List.replicate n l).flatten).count x = n * l.count x := by
  induction n with
  | zero => simp
  | succ n ih => rw [List.replicate_succ, List.flatten_cons, List.count_append, ih, Nat.succ_mul]; omega
theorem len_rep (n : Nat) (l : List Nat) : ((List.replicate n l).flatten).length = n * l.length := by
  induction n with
  | zero => simp
  | succ n ih => rw [List.replicate_succ, List.flatten_cons, List.length_append, ih, Nat.succ_mul]; omega
noncomputable def sg (k mm bb i : Nat) : Nat := match i with | 0 => k | 1 => 13262 | 2 => mm | 3 => 13190 | 4 => bb | _ => 13189
theorem sg_alpha {k mm bb : Nat} (HL : Ltr k mm bb) : ∀ i, sg k mm bb i ∈ alpha
  | 0 => HL.k1
  | 1 => (by decide : 13262 ∈ alpha)
  | 2 => HL.m1
  | 3 => (by decide : 13190 ∈ alpha)
  | 4 => HL.b1
  | _ + 5 => (by decide : 13189 ∈ alpha)
theorem sg_tell {k mm bb : Nat} (HL : Ltr k mm bb) : ∀ i, (tellL (sg k mm bb i)).count 107 = (stp i).1 ∧ (tellL (sg k mm bb i)).count 109 = (stp i).2.1 ∧ (tellL (sg k mm bb i)).count 98 = (stp i).2.2 ∧ (tellL (sg k mm bb i)).length = (stp i).1 + (stp i).2.1 + (stp i).2.2
  | 0 => by show (tellL k).count 107 = 1 ∧ (tellL k).count 109 = 0 ∧ (tellL k).count 98 = 0 ∧ (tellL k).length = 1; rw [HL.k2]; decide
  | 1 => by show (tellL 13262).count 107 = 1 ∧ (tellL 13262).count 109 = 1 ∧ (tellL 13262).count 98 = 0 ∧ (tellL 13262).length = 2; decide
  | 2 => by show (tellL mm).count 107 = 0 ∧ (tellL mm).count 109 = 1 ∧ (tellL mm).count 98 = 0 ∧ (tellL mm).length = 1; rw [HL.m2]; decide
  | 3 => by show (tellL 13190).count 107 = 0 ∧ (tellL 13190).count 109 = 1 ∧ (tellL 13190).count 98 = 1 ∧ (tellL 13190).length = 2; decide
  | 4 => by show (tellL bb).count 107 = 0 ∧ (tellL bb).count 109 = 0 ∧ (tellL bb).count 98 = 1 ∧ (tellL bb).length = 1; rw [HL.b2]; decide
  | _ + 5 => by show (tellL 13189).count 107 = 1 ∧ (tellL 13189).count 109 = 0 ∧ (tellL 13189).count 98 = 1 ∧ (tellL 13189).length = 2; decide
noncomputable def txt (k mm bb ve wh n i far j : Nat) : List Nat := (List.replicate n [sg k mm bb i]).flatten ++ [ve] ++ (List.replicate wh [k, mm, bb]).flatten ++ (List.replicate far [sg k mm bb j]).flatten ++ [ve]
theorem txt_len (k mm bb ve wh n i far j : Nat) : (txt k mm bb ve wh n i far j).length = n + wh * 3 + far + 2 := by
  unfold txt
  simp only [List.length_append, len_rep, List.length_cons, List.length_nil]
  omega
theorem txt_known {k mm bb ve : Nat} (HL : Ltr k mm bb) (hve : veilB ve = true) (wh n i far j : Nat) : ∀ c ∈ txt k mm bb ve wh n i far j, known c := by
  have h1 : ∀ (n i : Nat), ∀ c ∈ (List.replicate n [sg k mm bb i]).flatten, known c := by
    intro n i c hc
    obtain ⟨l, hl, hc⟩ := List.mem_flatten.mp hc
    rw [(List.mem_replicate.mp hl).2] at hc
    rw [List.mem_singleton.mp hc]
    exact .inl (sg_alpha HL i)
  have h2 : ∀ c ∈ (List.replicate wh [k, mm, bb]).flatten, known c := by
    intro c hc
    obtain ⟨l, hl, hc⟩ := List.mem_flatten.mp hc
    rw [(List.mem_replicate.mp hl).2] at hc
    simp only [List.mem_cons, List.not_mem_nil, or_false] at hc
    rcases hc with rfl | rfl | rfl
    · exact .inl HL.k1
    · exact .inl HL.m1
    · exact .inl HL.b1
  intro c hc
  unfold txt at hc
  simp only [List.mem_append, List.mem_singleton] at hc
  rcases hc with (((hc | rfl) | hc) | hc) | rfl
  · exact h1 _ _ c hc
  · exact .inr hve
  · exact h2 c hc
  · exact h1 _ _ c hc
  · exact .inr hve
theorem txt_told {k mm bb ve : Nat} (HL : Ltr k mm bb) (hve : veilB ve = true) (wh n i far j : Nat) :
    (told (txt k mm bb ve wh n i far j)).count 107 = n * (stp i).1 + far * (stp j).1 + wh ∧ (told (txt k mm bb ve wh n i far j)).count 109 = n * (stp i).2.1 + far * (stp j).2.1 + wh ∧
    (told (txt k mm bb ve wh n i far j)).count 98 = n * (stp i).2.2 + far * (stp j).2.2 + wh ∧
    (told (txt k mm bb ve wh n i far j)).length = (n * (stp i).1 + far * (stp j).1 + wh) + (n * (stp i).2.1 + far * (stp j).2.1 + wh) + (n * (stp i).2.2 + far * (stp j).2.2 + wh) := by
  have h3 : told [k, mm, bb] = [107, 109, 98] := by
    rw [show [k, mm, bb] = [k] ++ ([mm] ++ [bb]) from rfl, told_append, told_append, told_one HL.k1, told_one HL.m1, told_one HL.b1, HL.k2, HL.m2, HL.b2]; rfl
  have e : told (txt k mm bb ve wh n i far j) = (List.replicate n (tellL (sg k mm bb i))).flatten ++ (List.replicate wh [107, 109, 98]).flatten ++ (List.replicate far (tellL (sg k mm bb j))).flatten := by
    unfold txt
    rw [told_append, told_append, told_append, told_append, told_rep, told_rep, told_rep, told_veil hve, told_one (sg_alpha HL i), told_one (sg_alpha HL j), h3]
    simp
  have a := sg_tell HL i
  have b := sg_tell HL j
  rw [e]
  simp only [List.count_append, List.length_append, count_rep, len_rep]
  rw [a.1, a.2.1, a.2.2.1, a.2.2.2, b.1, b.2.1, b.2.2.1, b.2.2.2]
  refine ⟨?_, ?_, ?_, ?_⟩
  · rw [show [107, 109, 98].count 107 = 1 from rfl]; omega
  · rw [show [107, 109, 98].count 109 = 1 from rfl]; omega
  · rw [show [107, 109, 98].count 98 = 1 from rfl]; omega
  · rw [show [107, 109, 98].length = 3 from rfl, Nat.mul_add, Nat.mul_add, Nat.mul_add, Nat.mul_add]; omega
end
end
section
local macro_rules | `(tactic| walk_at "call ref") => `(tactic| refine Mine.stop ?_)
local macro_rules | `(tactic| walk_at "binaryOp Mult int int") => `(tactic| refine Mine.stop ?_)
local macro_rules | `(tactic| walk_at "binaryOp Mult str int") => `(tactic| refine Mine.stop ?_)
local macro_rules | `(tactic| walk_at "binaryOp Add str str") => `(tactic| refine Mine.stop ?_)
local macro_rules | `(tactic| walk_at "binaryOp Add ref ref") => `(tactic| refine Mine.stop ?_)
local macro_rules | `(tactic| walk_at "eval ListComp") => `(tactic| refine Mine.stop ?_)
local macro_rules | `(tactic| walk_at "call builtin:sum") => `(tactic| refine Mine.stop ?_)
local macro_rules | `(tactic| walk_at "call type:zip") => `(tactic| refine Mine.stop ?_)
local macro_rules | `(tactic| walk_at "last call builtin:str.join") => `(tactic| refine Mine.stop ?_)
local macro_rules | `(tactic| walk_at "call builtin:str.join") => `(tactic| refine Mine.stop ?_)
local macro_rules | `(tactic| walk_at "subscriptTail Name Name ref int") => `(tactic| refine Mine.stop ?_)
section
local macro_rules | `(tactic| is_list) => `(tactic| exact News.isList (by k_asm) (by k_mem))
-- text G11
section
open PySem PySem.W PySem.Calls PyProof.Rows
set_option maxRecDepth 100000
set_option maxHeartbeats 8000000
theorem getS {k mm bb : Nat} {a b c d e f : Tok} : ∀ i, i < 6 → ∃ t, (#[.str ⟨#[k]⟩ a, .str ⟨#[13262]⟩ b, .str ⟨#[mm]⟩ c, .str ⟨#[13190]⟩ d, .str ⟨#[bb]⟩ e, .str ⟨#[13189]⟩ f] : Array Value)[i]? = some (.str ⟨⟨[sg k mm bb i]⟩⟩ t)
  | 0, _ => ⟨_, rfl⟩
  | 1, _ => ⟨_, rfl⟩
  | 2, _ => ⟨_, rfl⟩
  | 3, _ => ⟨_, rfl⟩
  | 4, _ => ⟨_, rfl⟩
  | 5, _ => ⟨_, rfl⟩
  | i + 6, h => by omega
set_option genSizeOf false
structure Lt (w : World) (v : LZ) (k : LK) (f : LF) (o : O4) (st : St) (x : LX) (h₀ : Heap) (L : Addr) (h : Heap) : Prop where
  F : Fr h₀ L h x.mx
  lo : Lo v st x.xsh x.xwi x.mx
  b : Bf w v k f o st x.P1 x.P2 x.Q1 x.Q2 x.fit x.so L
  htx : x.mx (Str.ofString "text") = some (.str ⟨⟨(txt v.k v.mm v.bb v.ve v.wh (f.ring - f.far) f.fst f.far f.snd)⟩⟩ x.xt)
  NN : News h₀ L h ((k.X1, k.Y1) :: (k.X2, k.Y2) :: (k.X3, k.Y3) :: (v.Fo, listOf x.fit x.ft) :: (v.Se, x.so) :: (x.P1, x.Q1) :: (x.P2, x.Q2) :: (L + 1 + 1 + 1 + 1 + 1 + 1 + 1 + 1 + 1 + 1 + 1 + 1 + 1, o.o13) :: (L + 1 + 1 + 1 + 1 + 1 + 1 + 1 + 1 + 1 + 1 + 1 + 1, o.o12) :: (L + 1 + 1 + 1 + 1 + 1 + 1 + 1 + 1 + 1 + 1 + 1, o.o11) :: (L + 1 + 1 + 1 + 1 + 1 + 1 + 1 + 1 + 1 + 1, o.o10) :: v.led)
structure Lp (w : World) (v : LZ) (k : LK) (f : LF) (o : O4) (st : St) (dk dm db : Nat) (x : LX) (h₀ : Heap) (L : Addr) (h : Heap) : Prop where
  F : Fr h₀ L h x.mx
  lo : Lo v st x.xsh x.xwi x.mx
  b : Bf w v k f o st x.P1 x.P2 x.Q1 x.Q2 x.fit x.so L
  hpa : x.mx (Str.ofString "parts") = some (.ref x.Pa)
  lPa : @LT.lt Nat _ (@HAdd.hAdd Nat Nat Nat _ L 13) x.Pa
  fPa : @LT.lt Nat _ v.Fo x.Pa
  NN : News h₀ L h ((x.Pa, listOf #[.int ((dk : Nat) : Int) x.p0, .int ((dm : Nat) : Int) x.p1, .int ((db : Nat) : Int) x.p2, .int ((dk + dm + db : Nat) : Int) x.p3] x.pg) :: (k.X1, k.Y1) :: (k.X2, k.Y2) :: (k.X3, k.Y3) :: (v.Fo, listOf x.fit x.ft) :: (v.Se, x.so) :: (x.P1, x.Q1) :: (x.P2, x.Q2) :: (L + 1 + 1 + 1 + 1 + 1 + 1 + 1 + 1 + 1 + 1 + 1 + 1 + 1, o.o13) :: (L + 1 + 1 + 1 + 1 + 1 + 1 + 1 + 1 + 1 + 1 + 1 + 1, o.o12) :: (L + 1 + 1 + 1 + 1 + 1 + 1 + 1 + 1 + 1 + 1 + 1, o.o11) :: (L + 1 + 1 + 1 + 1 + 1 + 1 + 1 + 1 + 1 + 1, o.o10) :: v.led)
structure Ld (w : World) (v : LZ) (k : LK) (f : LF) (o : O4) (st : St) (dk dm db : Nat) (x : LX) (h₀ : Heap) (L : Addr) (h : Heap) : Prop where
  F : Fr h₀ L h x.mx
  lo : Lo v st x.xsh x.xwi x.mx
  b : Bf w v k f o st x.P1 x.P2 x.Q1 x.Q2 x.fit x.so L
  hpa : x.mx (Str.ofString "parts") = some (.ref x.Pa)
  lPa : @LT.lt Nat _ (@HAdd.hAdd Nat Nat Nat _ L 13) x.Pa
  fPa : @LT.lt Nat _ v.Fo x.Pa
  hdu : x.mx (Str.ofString "due") = some (.ref x.Du)
  nDu : x.Du ≠ x.Pa
  NN : News h₀ L h ((x.Du, listOf #[.int ((dk : Nat) : Int) x.v0, .int ((dm : Nat) : Int) x.v1, .int ((db : Nat) : Int) x.v2] x.ug) :: (x.Pa, listOf #[.int ((dk : Nat) : Int) x.p0, .int ((dm : Nat) : Int) x.p1, .int ((db : Nat) : Int) x.p2, .int ((dk + dm + db : Nat) : Int) x.p3] x.pg) :: (k.X1, k.Y1) :: (k.X2, k.Y2) :: (k.X3, k.Y3) :: (v.Fo, listOf x.fit x.ft) :: (v.Se, x.so) :: (x.P1, x.Q1) :: (x.P2, x.Q2) :: (L + 1 + 1 + 1 + 1 + 1 + 1 + 1 + 1 + 1 + 1 + 1 + 1 + 1, o.o13) :: (L + 1 + 1 + 1 + 1 + 1 + 1 + 1 + 1 + 1 + 1 + 1 + 1, o.o12) :: (L + 1 + 1 + 1 + 1 + 1 + 1 + 1 + 1 + 1 + 1 + 1, o.o11) :: (L + 1 + 1 + 1 + 1 + 1 + 1 + 1 + 1 + 1 + 1, o.o10) :: v.led)
structure Lh (w : World) (v : LZ) (k : LK) (f : LF) (o : O4) (st : St) (dk dm db : Nat) (x : LX) (h₀ : Heap) (L : Addr) (h : Heap) : Prop where
  F : Fr h₀ L h x.mx
  lo : Lo v st x.xsh x.xwi x.mx
  b : Bf w v k f o st x.P1 x.P2 x.Q1 x.Q2 x.fit x.so L
  hpa : x.mx (Str.ofString "parts") = some (.ref x.Pa)
  lPa : @LT.lt Nat _ (@HAdd.hAdd Nat Nat Nat _ L 13) x.Pa
  fPa : @LT.lt Nat _ v.Fo x.Pa
  hhu : x.mx (Str.ofString "hue") = some (.float (hueOf dk dm db) x.th)
  hsp : x.mx (Str.ofString "spread") = some (.float (Float64.ofInt ((f.ring : Nat) : Int)) x.ts)
  NN : News h₀ L h ((x.Pa, listOf #[.int ((dk : Nat) : Int) x.p0, .int ((dm : Nat) : Int) x.p1, .int ((db : Nat) : Int) x.p2, .int ((dk + dm + db : Nat) : Int) x.p3] x.pg) :: (k.X1, k.Y1) :: (k.X2, k.Y2) :: (k.X3, k.Y3) :: (v.Fo, listOf x.fit x.ft) :: (v.Se, x.so) :: (x.P1, x.Q1) :: (x.P2, x.Q2) :: (L + 1 + 1 + 1 + 1 + 1 + 1 + 1 + 1 + 1 + 1 + 1 + 1 + 1, o.o13) :: (L + 1 + 1 + 1 + 1 + 1 + 1 + 1 + 1 + 1 + 1 + 1 + 1, o.o12) :: (L + 1 + 1 + 1 + 1 + 1 + 1 + 1 + 1 + 1 + 1 + 1, o.o11) :: (L + 1 + 1 + 1 + 1 + 1 + 1 + 1 + 1 + 1 + 1, o.o10) :: v.led)
theorem hit_1 (w : World) : ∀ (v : LZ) (k : LK) (f : LF) (o : O4) (st : St),  SegB w ((hitBody w).take 1) (fun h₀ L h => ∃ x, Lr w v k f o st 0 x h₀ L h) (fun h₀ L h => ∃ x, Lt w v k f o st x h₀ L h) := by
  intro v k f o st 
  unfold SegB
  k_fill
  intro _ mean mg mb h₀ L s E X T B hP
  obtain ⟨x, hP⟩ := hP
  refine genQ fun QQ hQQ => ?_
  have NN := hP.NN
  have b := hP.b
  have C := b.C
  have mD2 := C.mD2
  have m6 := C.m6
  have q6 := C.q6
  have mD1 := C.mD1
  have m8 := C.m8
  have q8 := C.q8
  have m9 := C.m9
  have q9 := C.q9
  have hwh := C.hwh
  have fr := b.fr
  have frf := b.frf
  have ff1 := b.ff1
  have ff2 := b.ff2
  have fs6 := b.fs6
  have q10 := b.q10
  have q11 := b.q11
  have q12 := b.q12
  have q13 := b.q13
  have F : Fr h₀ L s.heap (fun y => if y = Str.ofString "letters" then some (.ref v.D1) else x.mx y) := fr_canon [(Str.ofString "letters", _)] hP.F (List.forall_mem_cons.mpr ⟨hP.lo.letters, fun _ h => nomatch h⟩)
  unfold lawEnv lawLit mkLit
  unfold hitBody farBody sideBody ringBody lawBody lawLit mkLit
  dsimp only [List.take, List.drop, List.getD, nthS, forBody, ifBody, List.getElem?_cons_succ, List.getElem?_cons_zero, Option.getD_some]
  have e1 : (f.ring : Int) - (f.far : Int) = ((f.ring - f.far : Nat) : Int) := by clear F NN X T B; omega
  obtain ⟨tg1, hg1⟩ := getS (k := v.k) (mm := v.mm) (bb := v.bb) (a := v.y1) (b := v.z2) (c := v.y2) (d := v.z4) (e := v.y3) (f := v.z6) f.fst (by omega)
  obtain ⟨tg2, hg2⟩ := getS (k := v.k) (mm := v.mm) (bb := v.bb) (a := v.y1) (b := v.z2) (c := v.y2) (d := v.z4) (e := v.y3) (f := v.z6) f.snd (by omega)
  k_steps
  refine ⟨?_⟩
  refine tail_at (NN.isList (by k_mem)) rfl hg1 (by omega) ?_
  k_steps
  refine ⟨?_⟩
  refine str_mul (f.ring - f.far) e1 (by rw [List.length_singleton]; decide) (by omega) ?_
  intro ta1 tb1
  k_steps
  refine ⟨?_⟩
  refine str_add (l2 := [v.ve]) (by simp only [List.length_append, len_rep, List.length_cons, List.length_nil]; omega) ?_
  intro ta2 tb2
  k_steps
  refine ⟨?_⟩
  refine join_list (NN.isList (by k_mem)) (ys := [⟨⟨[v.k]⟩⟩, ⟨⟨[v.mm]⟩⟩, ⟨⟨[v.bb]⟩⟩]) (.cons _ _ (.cons _ _ (.cons _ _ .nil))) (by show 3 + 3 * 0 ≤ _; decide) ?_
  rw [show Txt.join (Str.ofString "") [⟨⟨[v.k]⟩⟩, ⟨⟨[v.mm]⟩⟩, ⟨⟨[v.bb]⟩⟩] = ⟨⟨[v.k, v.mm, v.bb]⟩⟩ from rfl]
  intro ta3 tb3
  k_steps
  refine ⟨?_⟩
  refine str_mul v.wh rfl (by show 3 ≤ 16; decide) (by omega) ?_
  intro ta4 tb4
  k_steps
  refine ⟨?_⟩
  refine str_add (by simp only [List.length_append, len_rep, List.length_cons, List.length_nil]; omega) ?_
  intro ta5 tb5
  k_steps
  refine ⟨?_⟩
  refine tail_at (NN.isList (by k_mem)) rfl hg2 (by omega) ?_
  k_steps
  refine ⟨?_⟩
  refine str_mul f.far rfl (by rw [List.length_singleton]; decide) (by omega) ?_
  intro ta6 tb6
  k_steps
  refine ⟨?_⟩
  refine str_add (by simp only [List.length_append, len_rep, List.length_cons, List.length_nil]; omega) ?_
  intro ta7 tb7
  k_steps
  refine ⟨?_⟩
  refine str_add (l2 := [v.ve]) (by simp only [List.length_append, len_rep, List.length_cons, List.length_nil]; omega) ?_
  intro ta8 tb8
  k_steps
  rename Fr _ _ _ _ => F1
  rename News _ _ _ _ => N1
  exact hQQ _ _ ⟨rfl, _, _, rfl, { x with xt := _, mx := frFun F1 }, ⟨F1, ⟨hP.lo.found, hP.lo.short, hP.lo.wide, hP.lo.seen, hP.lo.turn, hP.lo.worths, rfl, hP.lo.count⟩, b, rfl, N1⟩⟩
end
end
-- text G12
section
open PySem PySem.W PySem.Calls PyProof.Rows
set_option maxRecDepth 100000
set_option maxHeartbeats 8000000
theorem news_cons {g h : Heap} {L D : Addr} {o : Obj} {news : List (Addr × Obj)} (hg : h.get? D = some o) (hL : D ≠ L) (hD : g.get? D = none) (N : News g L h news) : News g L h ((D, o) :: news) := List.forall_mem_cons.mpr ⟨⟨hg, hL, hD⟩, N⟩
noncomputable def stpj (i j : Nat) : Nat := match j with | 0 => (stp i).1 | 1 => (stp i).2.1 | _ => (stp i).2.2
theorem row_at {i : Nat} {a b c d : Tok} {n : Int} : ∀ j, j < 3 → ∃ t, (#[.int (((stp i).1 : Nat) : Int) a, .int (((stp i).2.1 : Nat) : Int) b, .int (((stp i).2.2 : Nat) : Int) c, .int n d] : Array Value)[j]? = some (.int ((stpj i j : Nat) : Int) t)
  | 0, _ => ⟨_, rfl⟩
  | 1, _ => ⟨_, rfl⟩
  | 2, _ => ⟨_, rfl⟩
  | j + 3, h => by omega
theorem steps_at {v : LZ} {L : Addr} (C : Ct v L) : ∀ i, i < 6 → ∃ (P : Nat) (a b c d : Tok) (g : Nat) (n : Int), (#[.ref v.S0, .ref v.S1, .ref v.S2, .ref v.S3, .ref v.S4, .ref v.S5] : Array Value)[i]? = some (.ref P) ∧
    (P, listOf #[.int (((stp i).1 : Nat) : Int) a, .int (((stp i).2.1 : Nat) : Int) b, .int (((stp i).2.2 : Nat) : Int) c, .int n d] g) ∈ v.led
  | 0, _ => ⟨_, _, _, _, _, _, _, rfl, C.mS0⟩
  | 1, _ => ⟨_, _, _, _, _, _, _, rfl, C.mS1⟩
  | 2, _ => ⟨_, _, _, _, _, _, _, rfl, C.mS2⟩
  | 3, _ => ⟨_, _, _, _, _, _, _, rfl, C.mS3⟩
  | 4, _ => ⟨_, _, _, _, _, _, _, rfl, C.mS4⟩
  | 5, _ => ⟨_, _, _, _, _, _, _, rfl, C.mS5⟩
  | i + 6, h => by omega
noncomputable def duej (n i far j wh q : Nat) : Nat := n * stpj i q + far * stpj j q + wh
local macro_rules | `(tactic| walk_at "exec Assign cons ListComp") => `(tactic| refine Mine.stop ?_)
local macro_rules | `(tactic| walk_at "subscriptTail Subscript Name ref int") => `(tactic| refine Mine.stop ?_)
theorem hit_2 (w : World) : ∀ (v : LZ) (k : LK) (f : LF) (o : O4) (st : St), ∀ (dk dm db : Nat), dk = (pt (f.ring, f.sd, f.far)).1 + v.wh → dm = (pt (f.ring, f.sd, f.far)).2.1 + v.wh → db = (pt (f.ring, f.sd, f.far)).2.2 + v.wh → SegB w (((hitBody w).drop 1).take 1) (fun h₀ L h => ∃ x, Lt w v k f o st x h₀ L h) (fun h₀ L h => ∃ x, Lp w v k f o st dk dm db x h₀ L h) := by
  intro v k f o st dk dm db hk hm hb
  unfold SegB
  k_fill
  intro _ mean mg mb h₀ L s E X T B hP
  obtain ⟨x, hP⟩ := hP
  refine genQ fun QQ hQQ => ?_
  have NN := hP.NN
  have b := hP.b
  have C := b.C
  have HL := C.HL
  have hve := C.hve
  have hwh := C.hwh
  have fr := b.fr
  have frf := b.frf
  have ff1 := b.ff1
  have ff2 := b.ff2
  have F : Fr h₀ L s.heap (fun y => if y = Str.ofString "text" then some (.str ⟨⟨(txt v.k v.mm v.bb v.ve v.wh (f.ring - f.far) f.fst f.far f.snd)⟩⟩ x.xt) else x.mx y) := fr_canon [(Str.ofString "text", _)] hP.F (List.forall_mem_cons.mpr ⟨hP.htx, fun _ h => nomatch h⟩)
  unfold lawEnv lawLit mkLit
  unfold hitBody farBody sideBody ringBody lawBody lawLit mkLit
  dsimp only [List.take, List.drop, List.getD, nthS, forBody, ifBody, List.getElem?_cons_succ, List.getElem?_cons_zero, Option.getD_some]
  have ht := txt_told HL hve v.wh (f.ring - f.far) f.fst f.far f.snd
  have htl : (txt v.k v.mm v.bb v.ve v.wh (f.ring - f.far) f.fst f.far f.snd).length < 1000 := by rw [txt_len]; omega
  have hkn := txt_known HL hve v.wh (f.ring - f.far) f.fst f.far f.snd
  k_steps
  refine ⟨?_⟩
  k_dflt (refine' meetsO_use (parts_lit w _ _ hkn htl (dk : Int) (dm : Int) (db : Int) ((dk + dm + db : Nat) : Int) (by rw [ht.1, hk, ff1, ff2]; rfl) (by rw [ht.2.1, hm, ff1, ff2]; rfl) (by rw [ht.2.2.1, hb, ff1, ff2]; rfl) (by rw [ht.2.2.2, hk, hm, hb, ff1, ff2]; rfl)) ?k1 ?k2 ?k3 ?k4 ?k5 ?k6 ?k7 ?k8 ?_)
  (case k1 => k_asm)
  (case k2 => k_asm)
  (case k3 => k_asm)
  (case k4 => k_asm)
  (case k5 => k_asm)
  (case k6 => rfl)
  (case k7 => ktr_room)
  (case k8 => ktr_units)
  rintro v' tl r1 rk1 F1 N1 l1 ⟨Pa, p0, p1, p2, p3, pg, rfl, rfl⟩
  rw [List.singleton_append] at N1
  replace l1 := l1 _ (List.mem_singleton.mpr rfl)
  have lPa : @LT.lt Nat _ (@HAdd.hAdd Nat Nat Nat _ L 13) Pa := l1 (L + 1 + 1 + 1 + 1 + 1 + 1 + 1 + 1 + 1 + 1 + 1 + 1 + 1, o.o13) (by k_mem)
  have fPa : @LT.lt Nat _ v.Fo Pa := l1 (v.Fo, listOf x.fit x.ft) (by k_mem)
  clear l1
  k_steps
  rename Fr _ _ _ _ => F1
  rename News _ _ _ _ => N1
  exact hQQ _ _ ⟨rfl, _, _, rfl, { x with Pa := Pa, p0 := p0, p1 := p1, p2 := p2, p3 := p3, pg := pg, mx := frFun F1 }, ⟨F1, ⟨hP.lo.found, hP.lo.short, hP.lo.wide, hP.lo.seen, hP.lo.turn, hP.lo.worths, hP.lo.letters, hP.lo.count⟩, b, rfl, lPa, fPa, N1⟩⟩
theorem hit_3 (w : World) : ∀ (v : LZ) (k : LK) (f : LF) (o : O4) (st : St), ∀ (dk dm db : Nat), dk = (pt (f.ring, f.sd, f.far)).1 + v.wh → dm = (pt (f.ring, f.sd, f.far)).2.1 + v.wh → db = (pt (f.ring, f.sd, f.far)).2.2 + v.wh → SegB w (((hitBody w).drop 2).take 1) (fun h₀ L h => ∃ x, Lp w v k f o st dk dm db x h₀ L h) (fun h₀ L h => ∃ x, Ld w v k f o st dk dm db x h₀ L h) := by
  intro v k f o st dk dm db hk hm hb
  unfold SegB
  k_fill
  intro _ mean mg mb h₀ L s E X T B hP
  obtain ⟨x, hP⟩ := hP
  refine genQ fun QQ hQQ => ?_
  have NN := hP.NN
  have b := hP.b
  have C := b.C
  have mD3 := C.mD3
  have m7 := C.m7
  have q7 := C.q7
  have m8 := C.m8
  have q8 := C.q8
  have hwh := C.hwh
  have fr := b.fr
  have frf := b.frf
  have ff1 := b.ff1
  have ff2 := b.ff2
  have fs6 := b.fs6
  have q10 := b.q10
  have q11 := b.q11
  have q12 := b.q12
  have q13 := b.q13
  have F : Fr h₀ L s.heap (fun y => x.mx y) := fr_canon [] hP.F (fun _ h => nomatch h)
  unfold lawEnv lawLit mkLit
  unfold hitBody farBody sideBody ringBody lawBody lawLit mkLit
  dsimp only [List.take, List.drop, List.getD, nthS, forBody, ifBody, List.getElem?_cons_succ, List.getElem?_cons_zero, Option.getD_some]
  obtain ⟨B1, b10, b11, b12, b13, bg1, bn1, hB1, mB1⟩ := steps_at C.toCt f.fst (by omega)
  obtain ⟨B2, b20, b21, b22, b23, bg2, bn2, hB2, mB2⟩ := steps_at C.toCt f.snd (by omega)
  k_steps
  refine ⟨?_⟩
  k_dflt (refine' Assign_ListComp_DCr (pz := fun _ => true) (d := fun i => .int ((duej (f.ring - f.far) f.fst f.far f.snd v.wh i.toNat : Nat) : Int)) (h₀ := h₀) (L := L) (m := x.mx) ?hsw ?hLL ?hh ?hclos ?hcell ?hkind ?hnames ?hx ?hy ?hp ?_ ?hs)
  (case hsw => with_unfolding_all rfl)
  (case hLL => with_unfolding_all rfl)
  (case hh => with_unfolding_all rfl)
  (case hclos => with_unfolding_all rfl)
  (case hcell => decide)
  (case hkind => with_unfolding_all rfl)
  (case hnames => decide)
  (case hx => with_unfolding_all rfl)
  (case hy => with_unfolding_all rfl)
  (case hp => with_unfolding_all rfl)
  (case hs => intro _; with_unfolding_all rfl)
  refine wpAny_rangePack ?_
  k_steps
  · rename (0 : Int) ≤ _ ∧ _ < _ => hjb
    rename Int => aj
    obtain ⟨hj0, hj1⟩ := hjb
    have hjn : aj.toNat < 3 := by omega
    have e1 : (f.ring : Int) - (f.far : Int) = ((f.ring - f.far : Nat) : Int) := by omega
    obtain ⟨tj1, hr1⟩ := row_at (i := f.fst) (a := b10) (b := b11) (c := b12) (d := b13) (n := bn1) aj.toNat hjn
    obtain ⟨tj2, hr2⟩ := row_at (i := f.snd) (a := b20) (b := b21) (c := b22) (d := b23) (n := bn2) aj.toNat hjn
    have ed : (((f.ring - f.far : Nat) : Int) * ((stpj f.fst aj.toNat : Nat) : Int) + (f.far : Int) * ((stpj f.snd aj.toNat : Nat) : Int) + (v.wh : Int)) = ((duej (f.ring - f.far) f.fst f.far f.snd v.wh aj.toNat : Nat) : Int) := by
      unfold duej; rw [Int.natCast_add, Int.natCast_add, Int.natCast_mul, Int.natCast_mul]
    rename News _ _ _ _ => Ne
    refine ⟨?_⟩
    rw [e1]
    refine tail_at (Ne.isList (by k_mem)) rfl hB1 (by omega) ?_
    k_steps
    refine ⟨?_⟩
    refine tail_at (Ne.isList (by (repeat (first | exact mB1 | refine List.Mem.tail _ ?_)))) (Int.toNat_of_nonneg hj0).symm hr1 (by omega) ?_
    k_steps
    refine ⟨?_⟩
    refine PyProof.Rows.mul_int ?_ (.of_left (bits32 (by omega)))
    k_steps
    refine ⟨?_⟩
    refine tail_at (Ne.isList (by k_mem)) rfl hB2 (by omega) ?_
    k_steps
    refine ⟨?_⟩
    refine tail_at (Ne.isList (by (repeat (first | exact mB2 | refine List.Mem.tail _ ?_)))) (Int.toNat_of_nonneg hj0).symm hr2 (by omega) ?_
    k_steps
    refine ⟨?_⟩
    refine PyProof.Rows.mul_int ?_ (.of_left (bits32 (by omega)))
    k_steps
  · rename CarriedAll _ _ => hCd
    rename NewPlain _ _ _ _ => hpl
    rename Fr _ _ _ _ => F1
    rename News _ _ _ _ => N1
    rename h₀.get? _ = none => hDn
    have hI := intsAre_of (ms := [((duej (f.ring - f.far) f.fst f.far f.snd v.wh 0 : Nat) : Int), ((duej (f.ring - f.far) f.fst f.far f.snd v.wh 1 : Nat) : Int), ((duej (f.ring - f.far) f.fst f.far f.snd v.wh 2 : Nat) : Int)]) hCd
    cases hI with | cons _ v0 hI => cases hI with | cons _ v1 hI => cases hI with | cons _ v2 hI => cases hI with | nil =>
    obtain ⟨⟨ug, hg⟩, hne⟩ := id hpl
    have N2 := news_cons hg (hpl.ne_locals F1) hDn N1
    have z0' : duej (f.ring - f.far) f.fst f.far f.snd v.wh 0 = dk := by rw [hk, ff1, ff2]; rfl
    have z1' : duej (f.ring - f.far) f.fst f.far f.snd v.wh 1 = dm := by rw [hm, ff1, ff2]; rfl
    have z2' : duej (f.ring - f.far) f.fst f.far f.snd v.wh 2 = db := by rw [hb, ff1, ff2]; rfl
    rw [z0', z1', z2'] at N2
    have hPD := hne _ (List.mem_cons_self ..)
    exact hQQ _ _ ⟨rfl, _, _, rfl, { x with Du := _, ug := _, v0 := _, v1 := _, v2 := _, mx := frFun F1 }, ⟨F1, ⟨hP.lo.found, hP.lo.short, hP.lo.wide, hP.lo.seen, hP.lo.turn, hP.lo.worths, hP.lo.letters, hP.lo.count⟩, b, hP.hpa, hP.lPa, hP.fPa, rfl, (Ne.symm hPD), N2⟩⟩
end
section
local macro_rules | `(tactic| is_list) => `(tactic| exact News.isList (by k_asm) (by k_mem))
-- text G13
section
open PySem PySem.W PySem.Calls PyProof.Rows
set_option maxRecDepth 100000
set_option maxHeartbeats 8000000
theorem stp_le (i : Nat) : (stp i).1 ≤ 1 ∧ (stp i).2.1 ≤ 1 ∧ (stp i).2.2 ≤ 1 := by
  unfold stp
  split <;> decide
theorem wt_stp (a b c i : Nat) : wt a b c i = a * (stp i).1 + b * (stp i).2.1 + c * (stp i).2.2 := by
  unfold wt stp
  split <;> (dsimp only; omega)
theorem third_sum {N a b : Nat} (H : Num N a b) : (a + b + third N a b) % N = 0 := by
  have h1 := H.n8
  have h2 := H.aN
  have h3 := H.bN
  have h4 := H.a1
  have h5 := H.ab
  unfold third
  by_cases h : a + b < N
  · rw [Nat.mod_eq_of_lt h, Nat.mod_eq_of_lt (by omega : N - (a + b) < N), show a + b + (N - (a + b)) = N by omega, Nat.mod_self]
  · rw [Nat.mod_eq_sub_mod (by omega : N ≤ a + b), Nat.mod_eq_of_lt (by omega : a + b - N < N), Nat.mod_eq_of_lt (by omega : N - (a + b - N) < N), show a + b + (N - (a + b - N)) = N * 2 by omega, Nat.mul_mod_right]
theorem sum_eq (a b c n far i j w dk dm db : Nat) (hk : dk = n * (stp i).1 + far * (stp j).1 + w) (hm : dm = n * (stp i).2.1 + far * (stp j).2.1 + w) (hb : db = n * (stp i).2.2 + far * (stp j).2.2 + w) :
    a * dk + b * dm + c * db = (n * wt a b c i + far * wt a b c j) + w * (a + b + c) := by
  rw [wt_stp, wt_stp, hk, hm, hb]
  simp only [Nat.mul_add, Nat.add_mul, Nat.mul_assoc, Nat.mul_left_comm, Nat.mul_comm]
  omega
theorem sum_mod0 {N a b : Nat} (H : Num N a b) (n far i j w dk dm db : Nat) (hk : dk = n * (stp i).1 + far * (stp j).1 + w) (hm : dm = n * (stp i).2.1 + far * (stp j).2.1 + w) (hb : db = n * (stp i).2.2 + far * (stp j).2.2 + w)
    (h0 : (n * wt a b (third N a b) i + far * wt a b (third N a b) j) % N = 0) : (a * dk + b * dm + third N a b * db) % N = 0 := by
  rw [sum_eq a b (third N a b) n far i j w dk dm db hk hm hb, Nat.add_mod, h0, Nat.mul_mod, third_sum H, Nat.mul_zero, Nat.zero_mod, Nat.zero_add, Nat.zero_mod]
theorem due_le {n far w p q d r : Nat} (hd : d = n * p + far * q + w) (hp : p ≤ 1) (hq : q ≤ 1) (hr : n + far ≤ r) (hw : w ≤ 2) : d ≤ r + 2 := by
  have h1 : n * p ≤ n * 1 := Nat.mul_le_mul (Nat.le_refl _) hp
  have h2 : far * q ≤ far * 1 := Nat.mul_le_mul (Nat.le_refl _) hq
  omega
theorem hit_4 (w : World) : ∀ (v : LZ) (k : LK) (f : LF) (o : O4) (st : St), ∀ (dk dm db : Nat), SegB w (((hitBody w).drop 3).take 1) (fun h₀ L h => ∃ x, Ld w v k f o st dk dm db x h₀ L h) (fun h₀ L h => ∃ x, Ld w v k f o st dk dm db x h₀ L h) := by
  intro v k f o st dk dm db
  unfold SegB
  k_fill
  intro _ mean mg mb h₀ L s E X T B hP
  obtain ⟨x, hP⟩ := hP
  refine genQ fun QQ hQQ => ?_
  have NN := hP.NN
  have b := hP.b
  have C := b.C
  have F : Fr h₀ L s.heap (fun y => if y = Str.ofString "parts" then some (.ref x.Pa) else if y = Str.ofString "due" then some (.ref x.Du) else x.mx y) := fr_canon [(Str.ofString "parts", _), (Str.ofString "due", _)] hP.F (List.forall_mem_cons.mpr ⟨hP.hpa, List.forall_mem_cons.mpr ⟨hP.hdu, fun _ h => nomatch h⟩⟩)
  unfold lawEnv lawLit mkLit
  unfold hitBody farBody sideBody ringBody lawBody lawLit mkLit
  dsimp only [List.take, List.drop, List.getD, nthS, forBody, ifBody, List.getElem?_cons_succ, List.getElem?_cons_zero, Option.getD_some]
  k_steps
  refine ⟨?_⟩
  rename Fr _ _ _ _ => Fz
  rename News _ _ _ _ => Nz
  refine LSm.sum_ints Fz Nz rfl (vs := [.int (dk : Int) x.v0, .int (dm : Int) x.v1, .int (db : Int) x.v2]) (ns := [(dk : Int), (dm : Int), (db : Int)]) (Nz.isList (by k_mem)) (.cons _ _ (.cons _ _ (.cons _ _ .nil))) ?_
  clear Fz Nz
  intro h1 tk1 t1 F1 N1
  rw [show [(dk : Int), (dm : Int), (db : Int)].sum = ((dk + dm + db : Nat) : Int) by simp only [List.sum_cons, List.sum_nil]; omega]
  k_steps
  refine ⟨?_⟩
  rename Fr _ _ _ _ => F2
  rename News _ _ _ _ => N2
  refine add_lists (vs := [.int (dk : Int) x.v0, .int (dm : Int) x.v1, .int (db : Int) x.v2]) (ws := [.int ((dk + dm + db : Nat) : Int) t1]) F2 N2 (N2.isList (by k_mem)) (N2.isList (by k_mem)) ?_ (by rw [sizeLine_eq]; show 3 + 1 ≤ 16777216; decide)
  intro h3 F3 N3
  dsimp only [List.cons_append, List.nil_append] at N3
  k_steps
  rename Fr _ _ _ _ => F1
  rename News _ _ _ _ => N1
  exact hQQ _ _ ⟨rfl, _, _, rfl, { x with mx := frFun F1 }, ⟨F1, ⟨hP.lo.found, hP.lo.short, hP.lo.wide, hP.lo.seen, hP.lo.turn, hP.lo.worths, hP.lo.letters, hP.lo.count⟩, b, rfl, hP.lPa, hP.fPa, rfl, hP.nDu, (news_tail (news_tail N1))⟩⟩
theorem hit_5 (w : World) : ∀ (v : LZ) (k : LK) (f : LF) (o : O4) (st : St), ∀ (dk dm db : Nat), dk = (pt (f.ring, f.sd, f.far)).1 + v.wh → dm = (pt (f.ring, f.sd, f.far)).2.1 + v.wh → db = (pt (f.ring, f.sd, f.far)).2.2 + v.wh → restN v.N (wt v.a v.b (third v.N v.a v.b) f.fst) (wt v.a v.b (third v.N v.a v.b) f.snd) f.ring f.far = 0 → SegB w (((hitBody w).drop 4).take 1) (fun h₀ L h => ∃ x, Ld w v k f o st dk dm db x h₀ L h) (fun h₀ L h => ∃ x, Lp w v k f o st dk dm db x h₀ L h) := by
  intro v k f o st dk dm db hk hm hb hR
  unfold SegB
  k_fill
  intro _ mean mg mb h₀ L s E X T B hP
  obtain ⟨x, hP⟩ := hP
  refine genQ fun QQ hQQ => ?_
  have NN := hP.NN
  have b := hP.b
  have C := b.C
  have H := C.H
  have m2 := C.m2
  have q2 := C.q2
  have m5 := C.m5
  have q5 := C.q5
  have mW1 := C.mW1
  have hwh := C.hwh
  have fr := b.fr
  have frf := b.frf
  have ff1 := b.ff1
  have ff2 := b.ff2
  have F : Fr h₀ L s.heap (fun y => if y = Str.ofString "due" then some (.ref x.Du) else x.mx y) := fr_canon [(Str.ofString "due", _)] hP.F (List.forall_mem_cons.mpr ⟨hP.hdu, fun _ h => nomatch h⟩)
  unfold lawEnv lawLit mkLit
  unfold hitBody farBody sideBody ringBody lawBody lawLit mkLit
  dsimp only [List.take, List.drop, List.getD, nthS, forBody, ifBody, List.getElem?_cons_succ, List.getElem?_cons_zero, Option.getD_some]
  have ha32 : v.a < 32 := by have := H.aN; have := H.n16; omega
  have hb32 : v.b < 32 := by have := H.bN; have := H.n16; omega
  have hc32 : third v.N v.a v.b < 32 := by have := Nat.mod_lt (v.N - (v.a + v.b) % v.N) (show v.N > 0 by have := H.n8; omega); have := H.n16; unfold third; omega
  have hK := sum_mod0 H (f.ring - f.far) f.far f.fst f.snd v.wh dk dm db (by rw [hk, ff1, ff2]; rfl) (by rw [hm, ff1, ff2]; rfl) (by rw [hb, ff1, ff2]; rfl) hR
  have u1' := due_le (n := f.ring - f.far) (far := f.far) (w := v.wh) (r := f.ring) hk (stp_le _).1 (stp_le _).1 (by omega) (by omega)
  have u2' := due_le (n := f.ring - f.far) (far := f.far) (w := v.wh) (r := f.ring) hm (stp_le _).2.1 (stp_le _).2.1 (by omega) (by omega)
  have u3' := due_le (n := f.ring - f.far) (far := f.far) (w := v.wh) (r := f.ring) hb (stp_le _).2.2 (stp_le _).2.2 (by omega) (by omega)
  have m1 : v.a * dk ≤ 32 * 40 := Nat.mul_le_mul (by omega) (by omega)
  have m2 : v.b * dm ≤ 32 * 40 := Nat.mul_le_mul (by omega) (by omega)
  have m3 : third v.N v.a v.b * db ≤ 32 * 40 := Nat.mul_le_mul (by omega) (by omega)
  k_steps
  refine ⟨?_⟩
  rename Fr _ _ _ _ => Fz
  rename News _ _ _ _ => Nz
  k_dflt (refine' zip_prod (xs := #[.int (v.a : Int) v.u1, .int (v.b : Int) v.u2, .int ((third v.N v.a v.b : Nat) : Int) v.u3]) (ys := #[.int (dk : Int) x.v0, .int (dm : Int) x.v1, .int (db : Int) x.v2]) Fz Nz (sel3 (v.a : Int) (v.b : Int) ((third v.N v.a v.b : Nat) : Int)) (sel3 (dk : Int) (dm : Int) (db : Int)) 3 ?hclos ?hcell ?hkind ?hnames ?hx ?hy ?hxx ?hh ?hd1 ?hd2 ?hn ?hsz (arr3 rfl) (arr3 rfl) (mulOk3 ha32 hb32 hc32) ?_ ?hs)
  (case hclos => with_unfolding_all rfl)
  (case hcell => decide)
  (case hkind => with_unfolding_all rfl)
  (case hnames => decide)
  (case hx => with_unfolding_all rfl)
  (case hy => with_unfolding_all rfl)
  (case hxx => decide)
  (case hh => with_unfolding_all rfl)
  (case hd1 => decide)
  (case hd2 => decide)
  (case hn => rfl)
  (case hsz => rw [sizeLine_eq]; decide)
  (case hs => intro _; with_unfolding_all rfl)
  k_steps
  refine ⟨?_⟩
  refine zip_rows Fz (Nz.isList (by k_mem)) (Nz.isList (by k_mem)) ?_
  intro zh z TI TO zi1 zi2 zap zst _ zk zn1 zn2 zn3 zn4 _
  refine ⟨z, TI, TO, zi1, zi2, _, _, rfl, zap, zst, zn1, zn2, zn3, zn4, zk, ⟨?_⟩⟩
  intro Dz zh2 ztk zvs Fz2 Nz2 zl zi
  clear zap zst zk zn1 zn2 zn3 zn4 Fz Nz
  k_steps
  refine ⟨?_⟩
  refine LSm.sum_ints Fz2 Nz2 rfl zl zi ?_
  clear Fz2 Nz2 zl zi
  intro zh3 ztk3 tz3 Fz3 Nz3
  rw [sum3]
  k_steps
  refine ⟨?_⟩
  k_dflt (refine' meets_use (rest_int w _ (v.a * dk + v.b * dm + third v.N v.a v.b * db) v.N _ _ (by rw [Int.natCast_add, Int.natCast_add, Int.natCast_mul, Int.natCast_mul, Int.natCast_mul]) (by omega) (by have := H.n8; omega) (by have := H.n16; omega)) ?k1 ?k2 ?k3 ?k4 ?k5 ?k6 ?k7 ?k8 ?_)
  (case k1 => k_asm)
  (case k2 => k_asm)
  (case k3 => k_asm)
  (case k4 => k_asm)
  (case k5 => k_asm)
  (case k6 => rfl)
  (case k7 => ktr_room)
  (case k8 => ktr_units)
  rintro v' tl r1 rk1 F1 N1 ⟨rfl, tr1, rfl⟩
  rw [List.nil_append] at N1
  rw [hK]
  k_steps
  rename Fr _ _ _ _ => F1
  rename News _ _ _ _ => N1
  exact hQQ _ _ ⟨rfl, _, _, rfl, { x with mx := frFun F1 }, ⟨F1, ⟨hP.lo.found, hP.lo.short, hP.lo.wide, hP.lo.seen, hP.lo.turn, hP.lo.worths, hP.lo.letters, hP.lo.count⟩, b, hP.hpa, hP.lPa, hP.fPa, (news_tail N1)⟩⟩
end
-- text G14
section
open PySem PySem.W PySem.Calls PyProof.Rows
set_option maxRecDepth 100000
set_option maxHeartbeats 8000000
theorem f_selfI {a : Nat} (ha : a < 11) : Float64.cmpInt (Float64.ofInt ((a : Nat) : Int)) ((a : Nat) : Int) = some Ordering.eq := by
  have h : below 11 (fun a => Float64.cmpInt (Float64.ofInt ((a : Nat) : Int)) ((a : Nat) : Int) == some Ordering.eq) = true := by kernel_rfl
  exact eq_of_beq (below_of h ha)
theorem span3 {a b c lo hi r : Nat} (h1 : a ≤ hi) (h2 : b ≤ hi) (h3 : c ≤ hi) (h4 : lo ≤ a) (h5 : lo ≤ b) (h6 : lo ≤ c) (hhi : a = hi ∨ b = hi ∨ c = hi) (hlo : a = lo ∨ b = lo ∨ c = lo) (hr : hi = lo + r) : max a (max b c) - min a (min b c) = r := by
  have e1 : max a (max b c) = hi := Nat.le_antisymm (Nat.max_le.mpr ⟨h1, Nat.max_le.mpr ⟨h2, h3⟩⟩) (by rcases hhi with rfl | rfl | rfl; exact Nat.le_max_left ..; exact Nat.le_trans (Nat.le_max_left ..) (Nat.le_max_right ..); exact Nat.le_trans (Nat.le_max_right ..) (Nat.le_max_right ..))
  have e2 : min a (min b c) = lo := Nat.le_antisymm (by rcases hlo with rfl | rfl | rfl; exact Nat.min_le_left ..; exact Nat.le_trans (Nat.min_le_right ..) (Nat.min_le_left ..); exact Nat.le_trans (Nat.min_le_right ..) (Nat.min_le_right ..)) (Nat.le_min.mpr ⟨h4, Nat.le_min.mpr ⟨h5, h6⟩⟩)
  rw [e1, e2, hr, Nat.add_sub_cancel_left]
theorem spread_eq {sd n far r w dk dm db : Nat} (hs : sd < 6) (hr : n + far = r) (hk : dk = n * (stp sd).1 + far * (stp ((sd + 1) % 6)).1 + w) (hm : dm = n * (stp sd).2.1 + far * (stp ((sd + 1) % 6)).2.1 + w) (hb : db = n * (stp sd).2.2 + far * (stp ((sd + 1) % 6)).2.2 + w) :
    max dk (max dm db) - min dk (min dm db) = r := by
  have hw : n + far + w = w + r := by rw [hr, Nat.add_comm]
  have h0 : w ≤ n + far + w := Nat.le_add_left ..
  have h1 : n + w ≤ n + far + w := Nat.add_le_add_right (Nat.le_add_right ..) _
  have h2 : far + w ≤ n + far + w := Nat.add_le_add_right (Nat.le_add_left ..) _
  have h3 : w ≤ n + w := Nat.le_add_left ..
  have h4 : w ≤ far + w := Nat.le_add_left ..
  have r0 := Nat.le_refl w
  have r1 := Nat.le_refl (n + far + w)
  match sd, hs with
  | 0, _ => rw [show dk = n + far + w by rw [hk]; show n * 1 + far * 1 + w = _; rw [Nat.mul_one, Nat.mul_one], show dm = far + w by rw [hm]; show n * 0 + far * 1 + w = _; rw [Nat.mul_zero, Nat.mul_one, Nat.zero_add], show db = w by rw [hb]; show n * 0 + far * 0 + w = _; rw [Nat.mul_zero, Nat.mul_zero, Nat.add_zero, Nat.zero_add]]; exact span3 r1 h2 h0 h0 h4 r0 (.inl rfl) (.inr (.inr rfl)) hw
  | 1, _ => rw [show dk = n + w by rw [hk]; show n * 1 + far * 0 + w = _; rw [Nat.mul_one, Nat.mul_zero, Nat.add_zero], show dm = n + far + w by rw [hm]; show n * 1 + far * 1 + w = _; rw [Nat.mul_one, Nat.mul_one], show db = w by rw [hb]; show n * 0 + far * 0 + w = _; rw [Nat.mul_zero, Nat.mul_zero, Nat.add_zero, Nat.zero_add]]; exact span3 h1 r1 h0 h3 h0 r0 (.inr (.inl rfl)) (.inr (.inr rfl)) hw
  | 2, _ => rw [show dk = w by rw [hk]; show n * 0 + far * 0 + w = _; rw [Nat.mul_zero, Nat.mul_zero, Nat.add_zero, Nat.zero_add], show dm = n + far + w by rw [hm]; show n * 1 + far * 1 + w = _; rw [Nat.mul_one, Nat.mul_one], show db = far + w by rw [hb]; show n * 0 + far * 1 + w = _; rw [Nat.mul_zero, Nat.mul_one, Nat.zero_add]]; exact span3 h0 r1 h2 r0 h0 h4 (.inr (.inl rfl)) (.inl rfl) hw
  | 3, _ => rw [show dk = w by rw [hk]; show n * 0 + far * 0 + w = _; rw [Nat.mul_zero, Nat.mul_zero, Nat.add_zero, Nat.zero_add], show dm = n + w by rw [hm]; show n * 1 + far * 0 + w = _; rw [Nat.mul_one, Nat.mul_zero, Nat.add_zero], show db = n + far + w by rw [hb]; show n * 1 + far * 1 + w = _; rw [Nat.mul_one, Nat.mul_one]]; exact span3 h0 h1 r1 r0 h3 h0 (.inr (.inr rfl)) (.inl rfl) hw
  | 4, _ => rw [show dk = far + w by rw [hk]; show n * 0 + far * 1 + w = _; rw [Nat.mul_zero, Nat.mul_one, Nat.zero_add], show dm = w by rw [hm]; show n * 0 + far * 0 + w = _; rw [Nat.mul_zero, Nat.mul_zero, Nat.add_zero, Nat.zero_add], show db = n + far + w by rw [hb]; show n * 1 + far * 1 + w = _; rw [Nat.mul_one, Nat.mul_one]]; exact span3 h2 h0 r1 h4 r0 h0 (.inr (.inr rfl)) (.inr (.inl rfl)) hw
  | 5, _ => rw [show dk = n + far + w by rw [hk]; show n * 1 + far * 1 + w = _; rw [Nat.mul_one, Nat.mul_one], show dm = w by rw [hm]; show n * 0 + far * 0 + w = _; rw [Nat.mul_zero, Nat.mul_zero, Nat.add_zero, Nat.zero_add], show db = n + w by rw [hb]; show n * 1 + far * 0 + w = _; rw [Nat.mul_one, Nat.mul_zero, Nat.add_zero]]; exact span3 r1 h0 h1 h0 r0 h3 (.inl rfl) (.inr (.inl rfl)) hw
  | sd + 6, h => exact absurd h (by omega)
local macro_rules | `(tactic| walk_at "compareOp NotEq float int") => `(tactic| refine Mine.stop ?_)
theorem hit_6 (w : World) : ∀ (v : LZ) (k : LK) (f : LF) (o : O4) (st : St), ∀ (dk dm db : Nat), dk = (pt (f.ring, f.sd, f.far)).1 + v.wh → dm = (pt (f.ring, f.sd, f.far)).2.1 + v.wh → db = (pt (f.ring, f.sd, f.far)).2.2 + v.wh → f.ring ≤ 8 → SegB w (((hitBody w).drop 5).take 1) (fun h₀ L h => ∃ x, Lp w v k f o st dk dm db x h₀ L h) (fun h₀ L h => ∃ x, Lh w v k f o st dk dm db x h₀ L h) := by
  intro v k f o st dk dm db hk hm hb hr8
  unfold SegB
  k_fill
  intro _ mean mg mb h₀ L s E X T B hP
  obtain ⟨x, hP⟩ := hP
  refine genQ fun QQ hQQ => ?_
  have NN := hP.NN
  have b := hP.b
  have C := b.C
  have hwh := C.hwh
  have fr := b.fr
  have frf := b.frf
  have ff1 := b.ff1
  have ff2 := b.ff2
  have fs6 := b.fs6
  have F : Fr h₀ L s.heap (fun y => if y = Str.ofString "parts" then some (.ref x.Pa) else x.mx y) := fr_canon [(Str.ofString "parts", _)] hP.F (List.forall_mem_cons.mpr ⟨hP.hpa, fun _ h => nomatch h⟩)
  unfold lawEnv lawLit mkLit
  unfold hitBody farBody sideBody ringBody lawBody lawLit mkLit
  dsimp only [List.take, List.drop, List.getD, nthS, forBody, ifBody, List.getElem?_cons_succ, List.getElem?_cons_zero, Option.getD_some]
  have u1' := due_le (n := f.ring - f.far) (far := f.far) (w := v.wh) (r := f.ring) hk (stp_le _).1 (stp_le _).1 (by omega) (by omega)
  have u2' := due_le (n := f.ring - f.far) (far := f.far) (w := v.wh) (r := f.ring) hm (stp_le _).2.1 (stp_le _).2.1 (by omega) (by omega)
  have u3' := due_le (n := f.ring - f.far) (far := f.far) (w := v.wh) (r := f.ring) hb (stp_le _).2.2 (stp_le _).2.2 (by omega) (by omega)
  k_steps
  refine ⟨?_⟩
  rename News _ _ _ _ => Nz
  have hC := tint_call w dk dm db (dk + dm + db) x.Pa x.pg x.p0 x.p1 x.p2 x.p3 (by omega) (by omega) (by omega)
  unfold Meets2 at hC
  k_dflt (refine' hC _ _ _ _ _ _ _ _ _ _ _ _ _ _ _ _ _ _ _ _ _ ?k1 ?k2 ?k3 ?k4 ?k5 ?k6 ?k7 ?k8 ?_)
  (case k1 => k_asm)
  (case k2 => k_asm)
  (case k3 => k_asm)
  (case k4 => k_asm)
  (case k5 => k_asm)
  (case k6 => rfl)
  (case k7 => ktr_room)
  (case k8 => ktr_units)
  rintro v' tl r1 rk1 F1 N1 ⟨p, th1, ts1, rfl, rfl⟩
  rw [List.singleton_append] at N1
  rw [spread_eq fs6 (by omega : (f.ring - f.far) + f.far = f.ring) hk hm hb] at N1
  k_steps
  rename Fr _ _ _ _ => F1
  rename News _ _ _ _ => N1
  exact hQQ _ _ ⟨rfl, _, _, rfl, { x with th := _, ts := _, mx := frFun F1 }, ⟨F1, ⟨hP.lo.found, hP.lo.short, hP.lo.wide, hP.lo.seen, hP.lo.turn, hP.lo.worths, hP.lo.letters, hP.lo.count⟩, b, rfl, hP.lPa, hP.fPa, rfl, rfl, (news_tail N1)⟩⟩
theorem hit_7 (w : World) : ∀ (v : LZ) (k : LK) (f : LF) (o : O4) (st : St), ∀ (dk dm db : Nat), f.ring ≤ 8 → SegB w (((hitBody w).drop 6).take 1) (fun h₀ L h => ∃ x, Lh w v k f o st dk dm db x h₀ L h) (fun h₀ L h => ∃ x, Lh w v k f o st dk dm db x h₀ L h) := by
  intro v k f o st dk dm db hr8
  unfold SegB
  k_fill
  intro _ mean mg mb h₀ L s E X T B hP
  obtain ⟨x, hP⟩ := hP
  refine genQ fun QQ hQQ => ?_
  have NN := hP.NN
  have b := hP.b
  have C := b.C
  have q10 := b.q10
  have F : Fr h₀ L s.heap (fun y => if y = Str.ofString "spread" then some (.float (Float64.ofInt ((f.ring : Nat) : Int)) x.ts) else x.mx y) := fr_canon [(Str.ofString "spread", _)] hP.F (List.forall_mem_cons.mpr ⟨hP.hsp, fun _ h => nomatch h⟩)
  unfold lawEnv lawLit mkLit
  unfold hitBody farBody sideBody ringBody lawBody lawLit mkLit
  dsimp only [List.take, List.drop, List.getD, nthS, forBody, ifBody, List.getElem?_cons_succ, List.getElem?_cons_zero, Option.getD_some]
  k_steps
  refine ⟨?_⟩
  refine ne_fi ?_
  rw [f_selfI (by omega : f.ring < 11)]
  k_steps
  rename Fr _ _ _ _ => F1
  rename News _ _ _ _ => N1
  exact hQQ _ _ ⟨rfl, _, _, rfl, { x with mx := frFun F1 }, ⟨F1, ⟨hP.lo.found, hP.lo.short, hP.lo.wide, hP.lo.seen, hP.lo.turn, hP.lo.worths, hP.lo.letters, hP.lo.count⟩, b, hP.hpa, hP.lPa, hP.fPa, hP.hhu, rfl, N1⟩⟩
end
-- text G15 (idle)
section
local macro_rules | `(tactic| walk_at "idle") => `(tactic| skip)
open PySem PySem.W PySem.Calls PyProof.Rows
set_option maxRecDepth 100000
set_option maxHeartbeats 8000000
set_option genInjectivity false
set_option genSizeOf false
structure B8 (v : LZ) (k : LK) (o : O4) (x : LX) (h₀ : Heap) (L : Addr) (pa : Addr × Obj) (led : List (Addr × Obj)) (h : Heap) : Prop where
  NN : News h₀ L h (pa :: (v.Fo, listOf x.fit x.ft) :: led)
  mp : (x.P1, x.Q1) ∈ led
  mc : (L + 1 + 1 + 1 + 1 + 1 + 1 + 1 + 1 + 1 + 1, o.o10) ∈ led
  ne : ∀ p ∈ led, p.1 ≠ v.Fo
  top : ∃ q, (@HAdd.hAdd Nat Nat Nat _ L 13, q) ∈ led
  k1 : (k.X1, k.Y1) ∈ led
  k2 : (k.X2, k.Y2) ∈ led
  k3 : (k.X3, k.Y3) ∈ led
  ks : (v.Se, x.so) ∈ led
  b0 : ∀ (h' : Heap) (fo : Addr × Obj), News h₀ L h' (fo :: led) → News h₀ L h' ((k.X1, k.Y1) :: (k.X2, k.Y2) :: (k.X3, k.Y3) :: fo :: (v.Se, x.so) :: (x.P1, x.Q1) :: (x.P2, x.Q2) :: (L + 1 + 1 + 1 + 1 + 1 + 1 + 1 + 1 + 1 + 1 + 1 + 1 + 1, o.o13) :: (L + 1 + 1 + 1 + 1 + 1 + 1 + 1 + 1 + 1 + 1 + 1 + 1, o.o12) :: (L + 1 + 1 + 1 + 1 + 1 + 1 + 1 + 1 + 1 + 1 + 1, o.o11) :: (L + 1 + 1 + 1 + 1 + 1 + 1 + 1 + 1 + 1 + 1, o.o10) :: v.led)
  b1 : ∀ (h' : Heap) (a b c fo : Addr × Obj), News h₀ L h' (a :: b :: c :: fo :: led) → News h₀ L h' ((k.X1, k.Y1) :: (k.X2, k.Y2) :: (k.X3, k.Y3) :: fo :: (v.Se, x.so) :: a :: (x.P2, x.Q2) :: (L + 1 + 1 + 1 + 1 + 1 + 1 + 1 + 1 + 1 + 1 + 1 + 1 + 1, o.o13) :: (L + 1 + 1 + 1 + 1 + 1 + 1 + 1 + 1 + 1 + 1 + 1 + 1, o.o12) :: (L + 1 + 1 + 1 + 1 + 1 + 1 + 1 + 1 + 1 + 1 + 1, o.o11) :: (L + 1 + 1 + 1 + 1 + 1 + 1 + 1 + 1 + 1 + 1, o.o10) :: v.led)
  b2 : ∀ (h' : Heap) (a b c fo : Addr × Obj), News h₀ L h' (a :: b :: c :: fo :: led) → News h₀ L h' ((k.X1, k.Y1) :: (k.X2, k.Y2) :: (k.X3, k.Y3) :: fo :: (v.Se, x.so) :: (x.P1, x.Q1) :: a :: (L + 1 + 1 + 1 + 1 + 1 + 1 + 1 + 1 + 1 + 1 + 1 + 1 + 1, o.o13) :: (L + 1 + 1 + 1 + 1 + 1 + 1 + 1 + 1 + 1 + 1 + 1 + 1, o.o12) :: (L + 1 + 1 + 1 + 1 + 1 + 1 + 1 + 1 + 1 + 1 + 1, o.o11) :: (L + 1 + 1 + 1 + 1 + 1 + 1 + 1 + 1 + 1 + 1, o.o10) :: v.led)
theorem box8 {w : World} {v : LZ} {k : LK} {f : LF} {o : O4} {st : St} {x : LX} {h₀ : Heap} {L : Addr} {h : Heap} {pa : Addr × Obj} (b : Bf w v k f o st x.P1 x.P2 x.Q1 x.Q2 x.fit x.so L) (N : News h₀ L h (pa :: (k.X1, k.Y1) :: (k.X2, k.Y2) :: (k.X3, k.Y3) :: (v.Fo, listOf x.fit x.ft) :: (v.Se, x.so) :: (x.P1, x.Q1) :: (x.P2, x.Q2) :: (L + 1 + 1 + 1 + 1 + 1 + 1 + 1 + 1 + 1 + 1 + 1 + 1 + 1, o.o13) :: (L + 1 + 1 + 1 + 1 + 1 + 1 + 1 + 1 + 1 + 1 + 1 + 1, o.o12) :: (L + 1 + 1 + 1 + 1 + 1 + 1 + 1 + 1 + 1 + 1 + 1, o.o11) :: (L + 1 + 1 + 1 + 1 + 1 + 1 + 1 + 1 + 1 + 1, o.o10) :: v.led)) : ∃ led, B8 v k o x h₀ L pa led h := by
  have C := b.C
  refine ⟨(k.X1, k.Y1) :: (k.X2, k.Y2) :: (k.X3, k.Y3) :: (v.Se, x.so) :: (x.P1, x.Q1) :: (x.P2, x.Q2) :: (L + 1 + 1 + 1 + 1 + 1 + 1 + 1 + 1 + 1 + 1 + 1 + 1 + 1, o.o13) :: (L + 1 + 1 + 1 + 1 + 1 + 1 + 1 + 1 + 1 + 1 + 1 + 1, o.o12) :: (L + 1 + 1 + 1 + 1 + 1 + 1 + 1 + 1 + 1 + 1 + 1, o.o11) :: (L + 1 + 1 + 1 + 1 + 1 + 1 + 1 + 1 + 1 + 1, o.o10) :: v.led, List.forall_mem_cons.mpr ⟨N _ (.head _), List.forall_mem_cons.mpr ⟨N _ (.tail _ (.tail _ (.tail _ (.tail _ (.head _))))), List.forall_mem_cons.mpr ⟨N _ (.tail _ (.head _)), List.forall_mem_cons.mpr ⟨N _ (.tail _ (.tail _ (.head _))), List.forall_mem_cons.mpr ⟨N _ (.tail _ (.tail _ (.tail _ (.head _)))), List.forall_mem_cons.mpr ⟨N _ (.tail _ (.tail _ (.tail _ (.tail _ (.tail _ (.head _)))))), List.forall_mem_cons.mpr ⟨N _ (.tail _ (.tail _ (.tail _ (.tail _ (.tail _ (.tail _ (.head _))))))), List.forall_mem_cons.mpr ⟨N _ (.tail _ (.tail _ (.tail _ (.tail _ (.tail _ (.tail _ (.tail _ (.head _)))))))), fun p hp => N p (.tail _ (.tail _ (.tail _ (.tail _ (.tail _ (.tail _ (.tail _ (.tail _ (hp)))))))))⟩⟩⟩⟩⟩⟩⟩⟩, .tail _ (.tail _ (.tail _ (.tail _ (.head _)))), .tail _ (.tail _ (.tail _ (.tail _ (.tail _ (.tail _ (.tail _ (.tail _ (.tail _ (.head _))))))))), ?_, ⟨_, .tail _ (.tail _ (.tail _ (.tail _ (.tail _ (.tail _ (.head _))))))⟩, .head _, .tail _ (.head _), .tail _ (.tail _ (.head _)), .tail _ (.tail _ (.tail _ (.head _))), fun h' fo N => List.forall_mem_cons.mpr ⟨N _ (.tail _ (.head _)), List.forall_mem_cons.mpr ⟨N _ (.tail _ (.tail _ (.head _))), List.forall_mem_cons.mpr ⟨N _ (.tail _ (.tail _ (.tail _ (.head _)))), List.forall_mem_cons.mpr ⟨N _ (.head _), List.forall_mem_cons.mpr ⟨N _ (.tail _ (.tail _ (.tail _ (.tail _ (.head _))))), List.forall_mem_cons.mpr ⟨N _ (.tail _ (.tail _ (.tail _ (.tail _ (.tail _ (.head _)))))), List.forall_mem_cons.mpr ⟨N _ (.tail _ (.tail _ (.tail _ (.tail _ (.tail _ (.tail _ (.head _))))))), fun p hp => N p (.tail _ (.tail _ (.tail _ (.tail _ (.tail _ (.tail _ (.tail _ (hp))))))))⟩⟩⟩⟩⟩⟩⟩, fun h' a b c fo N => List.forall_mem_cons.mpr ⟨N _ (.tail _ (.tail _ (.tail _ (.tail _ (.head _))))), List.forall_mem_cons.mpr ⟨N _ (.tail _ (.tail _ (.tail _ (.tail _ (.tail _ (.head _)))))), List.forall_mem_cons.mpr ⟨N _ (.tail _ (.tail _ (.tail _ (.tail _ (.tail _ (.tail _ (.head _))))))), List.forall_mem_cons.mpr ⟨N _ (.tail _ (.tail _ (.tail _ (.head _)))), List.forall_mem_cons.mpr ⟨N _ (.tail _ (.tail _ (.tail _ (.tail _ (.tail _ (.tail _ (.tail _ (.head _)))))))), List.forall_mem_cons.mpr ⟨N _ (.head _), List.forall_mem_cons.mpr ⟨N _ (.tail _ (.tail _ (.tail _ (.tail _ (.tail _ (.tail _ (.tail _ (.tail _ (.tail _ (.head _)))))))))), fun p hp => N p (.tail _ (.tail _ (.tail _ (.tail _ (.tail _ (.tail _ (.tail _ (.tail _ (.tail _ (.tail _ (hp)))))))))))⟩⟩⟩⟩⟩⟩⟩, fun h' a b c fo N => List.forall_mem_cons.mpr ⟨N _ (.tail _ (.tail _ (.tail _ (.tail _ (.head _))))), List.forall_mem_cons.mpr ⟨N _ (.tail _ (.tail _ (.tail _ (.tail _ (.tail _ (.head _)))))), List.forall_mem_cons.mpr ⟨N _ (.tail _ (.tail _ (.tail _ (.tail _ (.tail _ (.tail _ (.head _))))))), List.forall_mem_cons.mpr ⟨N _ (.tail _ (.tail _ (.tail _ (.head _)))), List.forall_mem_cons.mpr ⟨N _ (.tail _ (.tail _ (.tail _ (.tail _ (.tail _ (.tail _ (.tail _ (.head _)))))))), List.forall_mem_cons.mpr ⟨N _ (.tail _ (.tail _ (.tail _ (.tail _ (.tail _ (.tail _ (.tail _ (.tail _ (.head _))))))))), List.forall_mem_cons.mpr ⟨N _ (.head _), fun p hp => N p (.tail _ (.tail _ (.tail _ (.tail _ (.tail _ (.tail _ (.tail _ (.tail _ (.tail _ (.tail _ (hp)))))))))))⟩⟩⟩⟩⟩⟩⟩⟩
  exact List.forall_mem_cons.mpr ⟨b.i1.f, List.forall_mem_cons.mpr ⟨b.i2.f, List.forall_mem_cons.mpr ⟨b.i3.f, List.forall_mem_cons.mpr ⟨C.sf, List.forall_mem_cons.mpr ⟨b.pk.f1, List.forall_mem_cons.mpr ⟨b.pk.f2, List.forall_mem_cons.mpr ⟨C.cf13, List.forall_mem_cons.mpr ⟨C.cf12, List.forall_mem_cons.mpr ⟨C.cf11, List.forall_mem_cons.mpr ⟨C.cf10, C.eF⟩⟩⟩⟩⟩⟩⟩⟩⟩⟩
local macro_rules | `(tactic| walk_at "compareOp NotEq float float") => `(tactic| refine Mine.stop ?_)
theorem hit_8 (w : World) : ∀ (v : LZ) (k : LK) (f : LF) (o : O4) (st : St), ∀ (dk dm db : Nat), dk = (pt (f.ring, f.sd, f.far)).1 + v.wh → dm = (pt (f.ring, f.sd, f.far)).2.1 + v.wh → db = (pt (f.ring, f.sd, f.far)).2.2 + v.wh → f.ring ≤ 8 → SegB w (((hitBody w).drop 7).take 1) (fun h₀ L h => ∃ x, Lh w v k f o st dk dm db x h₀ L h) (fun h₀ L h => ∃ x, Lf w v k f o ⟨st.mask, st.cnt, st.wide, st.short, note (f.ring, f.sd, f.far) st.found⟩ x h₀ L h) := by
  intro v k f o st dk dm db hk hm hb hr8
  unfold SegB
  k_fill
  intro _ mean mg mb h₀ L s E X T B hP
  obtain ⟨x, hP⟩ := hP
  refine genQ fun QQ hQQ => ?_
  have b := hP.b
  have C := b.C
  have frf := b.frf
  have fs6 := b.fs6
  have q10 := b.q10
  have hfo := b.pk.hfo
  obtain ⟨led, B8⟩ := box8 b hP.NN
  have NN := B8.NN
  have mc := B8.mc
  have ne := B8.ne
  have F : Fr h₀ L s.heap (fun y => if y = Str.ofString "found" then some (.ref v.Fo) else if y = Str.ofString "hue" then some (.float (hueOf dk dm db) x.th) else if y = Str.ofString "parts" then some (.ref x.Pa) else x.mx y) := fr_canon [(Str.ofString "found", _), (Str.ofString "hue", _), (Str.ofString "parts", _)] hP.F (List.forall_mem_cons.mpr ⟨hP.lo.found, List.forall_mem_cons.mpr ⟨hP.hhu, List.forall_mem_cons.mpr ⟨hP.hpa, fun _ h => nomatch h⟩⟩⟩)
  unfold lawEnv lawLit mkLit
  unfold hitBody farBody sideBody ringBody lawBody lawLit mkLit
  dsimp only [List.take, List.drop, List.getD, nthS, forBody, ifBody, List.getElem?_cons_succ, List.getElem?_cons_zero, Option.getD_some]
  have nPF : @Ne Nat x.Pa v.Fo := Nat.ne_of_gt hP.fPa
  have eh : hueOf dk dm db = hueOf (pt (f.ring, f.sd, f.far)).1 (pt (f.ring, f.sd, f.far)).2.1 (pt (f.ring, f.sd, f.far)).2.2 := by rw [hk, hm, hb]; exact hue_white _ _ _ _
  have ex : ([(dk : Int), (dm : Int), (db : Int), ((dk + dm + db : Nat) : Int)].getD (Int.toNat 0) 0 - [(dk : Int), (dm : Int), (db : Int), ((dk + dm + db : Nat) : Int)].getD (Int.toNat 2) 0) = ptx (f.ring, f.sd, f.far) := by
    show (dk : Int) - (db : Int) = _; unfold ptx; rw [hk, hb]; omega
  have ey : ([(dk : Int), (dm : Int), (db : Int), ((dk + dm + db : Nat) : Int)].getD (Int.toNat 1) 0 - [(dk : Int), (dm : Int), (db : Int), ((dk + dm + db : Nat) : Int)].getD (Int.toNat 2) 0) = pty (f.ring, f.sd, f.far) := by
    show (dm : Int) - (db : Int) = _; unfold pty; rw [hm, hb]; omega
  clear hk hm hb
  generalize hfd : st.found = sfound at hfo hQQ
  generalize hft : x.fit = fit at hfo NN
  rcases sfound with _ | ⟨⟨pr, ps, pf⟩, _ | ⟨q, _ | ⟨r, l⟩⟩⟩
  · replace hfo : fit = #[] := hfo
    subst hfo
    k_steps
    rename Fr _ _ _ _ => F1
    rename News _ _ _ _ => N1
    rw [ex, ey, eh] at N1
    obtain ⟨qt, hqt⟩ := B8.top
    rename _ ∧ _ ∧ _ ∧ AllLt _ _ => ka
    have kl := lt_of_allLt ka.2.2.2
    exact hQQ _ _ ⟨rfl, _, _, rfl, { x with fit := _, ft := _, P1 := _, Q1 := _, mx := frFun F1 }, ⟨F1, ⟨rfl, hP.lo.short, hP.lo.wide, hP.lo.seen, hP.lo.turn, hP.lo.worths, hP.lo.letters, hP.lo.count⟩, ⟨C, ⟨kl _ hqt, Nat.ne_of_gt (kl _ B8.ks), Nat.ne_of_gt ka.2.2.1, b.pk.l2, b.pk.s2, b.pk.f2, b.pk.hset, ⟨rfl, ⟨⟨Nat.lt_succ_of_le hr8, frf, fs6⟩, _, _, _, _, rfl⟩⟩⟩, ⟨b.i1.g, Nat.ne_of_gt (kl _ B8.k1), b.i1.n2⟩, ⟨b.i2.g, Nat.ne_of_gt (kl _ B8.k2), b.i2.n2⟩, ⟨b.i3.g, Nat.ne_of_gt (kl _ B8.k3), b.i3.n2⟩, b.ox1, b.ox2, b.fr, b.frf, b.ff1, b.ff2, b.fs6, b.q10, b.q11, b.q12, b.q13⟩, B8.b1 _ _ _ _ _ N1⟩⟩
  · obtain ⟨rfl, hT1⟩ := hfo
    obtain ⟨⟨hp1, hp2, hp3⟩, z1', z2', z3', z4', hq⟩ := id hT1
    have mp := B8.mp
    rw [hq] at mp
    dsimp only at hp1 hp2 hp3
    have hh := hue_ne (s := f.sd) (r := f.ring) (f := f.far) (s' := ps) (r' := pr) (f' := pf) fs6 (Nat.lt_succ_of_le hr8) frf hp3 hp1 hp2
    unfold Mine.hb at hh
    k_steps
    rename News _ _ _ _ => Ne
    refine PySem.SeqAt.eq_list_lengthsAt (Ne.isList (by k_mem)) (Ne.isList (by k_mem)) (by rfl) (by ktr_units) ?_
    k_steps
    refine ⟨?_⟩
    refine AutoFloatOps.ne_0 ?_
    rw [eh, hh]
    cases hdn : dirNe (f.ring, f.sd, f.far) (pr, ps, pf) with
    | true =>
      have en : note (f.ring, f.sd, f.far) [(pr, ps, pf)] = [(pr, ps, pf), (f.ring, f.sd, f.far)] := by unfold note; dsimp only; rw [hdn]
      rw [en] at hQQ
      k_steps
      rename Fr _ _ _ _ => F1
      rename News _ _ _ _ => N1
      rw [ex, ey, eh] at N1
      obtain ⟨qt, hqt⟩ := B8.top
      rename _ ∧ _ ∧ _ ∧ AllLt _ _ => ka
      have kl := lt_of_allLt ka.2.2.2
      exact hQQ _ _ ⟨rfl, _, _, rfl, { x with fit := _, ft := _, P2 := _, Q2 := _, mx := frFun F1 }, ⟨F1, ⟨rfl, hP.lo.short, hP.lo.wide, hP.lo.seen, hP.lo.turn, hP.lo.worths, hP.lo.letters, hP.lo.count⟩, ⟨C, ⟨b.pk.l1, b.pk.s1, b.pk.f1, kl _ hqt, Nat.ne_of_gt (kl _ B8.ks), Nat.ne_of_gt ka.2.2.1, b.pk.hset, ⟨rfl, hT1, ⟨⟨Nat.lt_succ_of_le hr8, frf, fs6⟩, _, _, _, _, rfl⟩⟩⟩, ⟨b.i1.g, b.i1.n1, Nat.ne_of_gt (kl _ B8.k1)⟩, ⟨b.i2.g, b.i2.n1, Nat.ne_of_gt (kl _ B8.k2)⟩, ⟨b.i3.g, b.i3.n1, Nat.ne_of_gt (kl _ B8.k3)⟩, b.ox1, b.ox2, b.fr, b.frf, b.ff1, b.ff2, b.fs6, b.q10, b.q11, b.q12, b.q13⟩, B8.b2 _ _ _ _ _ N1⟩⟩
    | false =>
      have en : note (f.ring, f.sd, f.far) [(pr, ps, pf)] = [(pr, ps, pf)] := by unfold note; dsimp only; rw [hdn]
      rw [en] at hQQ
      k_steps
      rename Fr _ _ _ _ => F1
      rename News _ _ _ _ => N1
      exact hQQ _ _ ⟨rfl, _, _, rfl, { x with fit := _, mx := frFun F1 }, ⟨F1, ⟨rfl, hP.lo.short, hP.lo.wide, hP.lo.seen, hP.lo.turn, hP.lo.worths, hP.lo.letters, hP.lo.count⟩, ⟨C, ⟨b.pk.l1, b.pk.s1, b.pk.f1, b.pk.l2, b.pk.s2, b.pk.f2, b.pk.hset, ⟨rfl, hT1⟩⟩, b.i1, b.i2, b.i3, b.ox1, b.ox2, b.fr, b.frf, b.ff1, b.ff2, b.fs6, b.q10, b.q11, b.q12, b.q13⟩, B8.b0 _ _ (news_tail (news_tail N1))⟩⟩
  · obtain ⟨rfl, hT1, hT2⟩ := hfo
    k_steps
    rename News _ _ _ _ => Ne
    refine PySem.SeqAt.eq_list_lengthsAt (Ne.isList (by k_mem)) (Ne.isList (by k_mem)) (by rfl) (by ktr_units) ?_
    k_steps
    rename Fr _ _ _ _ => F1
    rename News _ _ _ _ => N1
    exact hQQ _ _ ⟨rfl, _, _, rfl, { x with fit := _, mx := frFun F1 }, ⟨F1, ⟨rfl, hP.lo.short, hP.lo.wide, hP.lo.seen, hP.lo.turn, hP.lo.worths, hP.lo.letters, hP.lo.count⟩, ⟨C, ⟨b.pk.l1, b.pk.s1, b.pk.f1, b.pk.l2, b.pk.s2, b.pk.f2, b.pk.hset, ⟨rfl, hT1, hT2⟩⟩, b.i1, b.i2, b.i3, b.ox1, b.ox2, b.fr, b.frf, b.ff1, b.ff2, b.fs6, b.q10, b.q11, b.q12, b.q13⟩, B8.b0 _ _ (news_tail (news_tail N1))⟩⟩
  · exact hfo.elim
end
-- text G16
section
open PySem PySem.W PySem.Calls PyProof.Rows
set_option maxRecDepth 100000
set_option maxHeartbeats 8000000
theorem hit_9 (w : World) : ∀ (v : LZ) (k : LK) (f : LF) (o : O4) (st : St),  st.found ≠ [] → SegB w (((hitBody w).drop 8).take 1) (fun h₀ L h => ∃ x, Lf w v k f o st x h₀ L h) (fun h₀ L h => ∃ x, Lf w v k f o ⟨st.mask, st.cnt, st.wide, match Nat.beq f.ring (far1 st.found) with | true => st.short + 1 | false => st.short, st.found⟩ x h₀ L h) := by
  intro v k f o st hne
  unfold SegB
  k_fill
  intro _ mean mg mb h₀ L s E X T B hP
  obtain ⟨x, hP⟩ := hP
  refine genQ fun QQ hQQ => ?_
  have NN := hP.NN
  have b := hP.b
  have C := b.C
  have fr := b.fr
  have q10 := b.q10
  have hfo := b.pk.hfo
  have F : Fr h₀ L s.heap (fun y => if y = Str.ofString "found" then some (.ref v.Fo) else if y = Str.ofString "short" then some (.int ((st.short : Nat) : Int) x.xsh) else x.mx y) := fr_canon [(Str.ofString "found", _), (Str.ofString "short", _)] hP.F (List.forall_mem_cons.mpr ⟨hP.lo.found, List.forall_mem_cons.mpr ⟨hP.lo.short, fun _ h => nomatch h⟩⟩)
  generalize hfd : st.found = sfound at hfo hQQ hne
  generalize hft : x.fit = fit at hfo NN
  unfold lawEnv lawLit mkLit
  unfold hitBody farBody sideBody ringBody lawBody lawLit mkLit
  dsimp only [List.take, List.drop, List.getD, nthS, forBody, ifBody, List.getElem?_cons_succ, List.getElem?_cons_zero, Option.getD_some]
  rcases sfound with _ | ⟨⟨pr, ps, pf⟩, _ | ⟨q, _ | ⟨r, l⟩⟩⟩
  · exact absurd rfl hne
  · obtain ⟨rfl, hT1⟩ := hfo
    obtain ⟨hp, z1', z2', z3', z4', hq⟩ := hT1
    rw [hq] at NN
    k_steps
    · rename _ = _ => hc
      rw [show Nat.beq f.ring (far1 [(pr, ps, pf)]) = true from (Nat.beq_eq ..).mpr (by show f.ring = pr; omega)] at hQQ
      rename Fr _ _ _ _ => F1
      rename News _ _ _ _ => N1
      exact hQQ _ _ ⟨rfl, _, _, rfl, { x with xsh := _, fit := _, Q1 := _, mx := frFun F1 }, ⟨F1, ⟨rfl, rfl, hP.lo.wide, hP.lo.seen, hP.lo.turn, hP.lo.worths, hP.lo.letters, hP.lo.count⟩, ⟨C, ⟨b.pk.l1, b.pk.s1, b.pk.f1, b.pk.l2, b.pk.s2, b.pk.f2, b.pk.hset, ⟨rfl, hp, _, _, _, _, rfl⟩⟩, b.i1, b.i2, b.i3, b.ox1, b.ox2, b.fr, b.frf, b.ff1, b.ff2, b.fs6, b.q10, b.q11, b.q12, b.q13⟩, N1⟩⟩
    · rename ¬ _ = _ => hc
      have hb : Nat.beq f.ring (far1 [(pr, ps, pf)]) = false := by
        cases h : Nat.beq f.ring (far1 [(pr, ps, pf)]) with
        | false => rfl
        | true => have h2 : f.ring = pr := Nat.eq_of_beq_eq_true h; omega
      rw [hb] at hQQ
      rename Fr _ _ _ _ => F1
      rename News _ _ _ _ => N1
      exact hQQ _ _ ⟨rfl, _, _, rfl, { x with xsh := _, fit := _, Q1 := _, mx := frFun F1 }, ⟨F1, ⟨rfl, rfl, hP.lo.wide, hP.lo.seen, hP.lo.turn, hP.lo.worths, hP.lo.letters, hP.lo.count⟩, ⟨C, ⟨b.pk.l1, b.pk.s1, b.pk.f1, b.pk.l2, b.pk.s2, b.pk.f2, b.pk.hset, ⟨rfl, hp, _, _, _, _, rfl⟩⟩, b.i1, b.i2, b.i3, b.ox1, b.ox2, b.fr, b.frf, b.ff1, b.ff2, b.fs6, b.q10, b.q11, b.q12, b.q13⟩, N1⟩⟩
  · obtain ⟨rfl, hT1, hT2⟩ := hfo
    obtain ⟨hp, z1', z2', z3', z4', hq⟩ := hT1
    rw [hq] at NN
    k_steps
    · rename _ = _ => hc
      rw [show Nat.beq f.ring (far1 [(pr, ps, pf), q]) = true from (Nat.beq_eq ..).mpr (by show f.ring = pr; omega)] at hQQ
      rename Fr _ _ _ _ => F1
      rename News _ _ _ _ => N1
      exact hQQ _ _ ⟨rfl, _, _, rfl, { x with xsh := _, fit := _, Q1 := _, mx := frFun F1 }, ⟨F1, ⟨rfl, rfl, hP.lo.wide, hP.lo.seen, hP.lo.turn, hP.lo.worths, hP.lo.letters, hP.lo.count⟩, ⟨C, ⟨b.pk.l1, b.pk.s1, b.pk.f1, b.pk.l2, b.pk.s2, b.pk.f2, b.pk.hset, ⟨rfl, ⟨hp, _, _, _, _, rfl⟩, hT2⟩⟩, b.i1, b.i2, b.i3, b.ox1, b.ox2, b.fr, b.frf, b.ff1, b.ff2, b.fs6, b.q10, b.q11, b.q12, b.q13⟩, N1⟩⟩
    · rename ¬ _ = _ => hc
      have hb : Nat.beq f.ring (far1 [(pr, ps, pf), q]) = false := by
        cases h : Nat.beq f.ring (far1 [(pr, ps, pf), q]) with
        | false => rfl
        | true => have h2 : f.ring = pr := Nat.eq_of_beq_eq_true h; omega
      rw [hb] at hQQ
      rename Fr _ _ _ _ => F1
      rename News _ _ _ _ => N1
      exact hQQ _ _ ⟨rfl, _, _, rfl, { x with xsh := _, fit := _, Q1 := _, mx := frFun F1 }, ⟨F1, ⟨rfl, rfl, hP.lo.wide, hP.lo.seen, hP.lo.turn, hP.lo.worths, hP.lo.letters, hP.lo.count⟩, ⟨C, ⟨b.pk.l1, b.pk.s1, b.pk.f1, b.pk.l2, b.pk.s2, b.pk.f2, b.pk.hset, ⟨rfl, ⟨hp, _, _, _, _, rfl⟩, hT2⟩⟩, b.i1, b.i2, b.i3, b.ox1, b.ox2, b.fr, b.frf, b.ff1, b.ff2, b.fs6, b.q10, b.q11, b.q12, b.q13⟩, N1⟩⟩
  · exact hfo.elim
end
-- text G17
section
open PySem PySem.W PySem.Calls PyProof.Rows
set_option maxRecDepth 100000
set_option maxHeartbeats 8000000
theorem split9 {α : Type} (l : List α) (h : l.length = 9) : l = l.take 1 ++ ((l.drop 1).take 1 ++ ((l.drop 2).take 1 ++ ((l.drop 3).take 1 ++ ((l.drop 4).take 1 ++ ((l.drop 5).take 1 ++ ((l.drop 6).take 1 ++ ((l.drop 7).take 1 ++ (l.drop 8).take 1))))))) := by
  match l, h with
  | [a, b, c, d, e, f, g, h, i], _ => rfl
theorem split3 {α : Type} (l : List α) (h : l.length = 3) : l = l.take 1 ++ ((l.drop 1).take 1 ++ l.drop 2) := by
  match l, h with
  | [a, b, c], _ => rfl
theorem hit_len (w : World) : (hitBody w).length = 9 := by
  unfold hitBody farBody sideBody ringBody lawBody lawLit mkLit; rfl
theorem far_len (w : World) : (farBody w).length = 3 := by
  unfold farBody sideBody ringBody lawBody lawLit mkLit; rfl
theorem note_ne (t : Txt3) (l : List Txt3) : note t l ≠ [] := by
  unfold note
  split
  · exact List.cons_ne_nil _ _
  · split <;> exact List.cons_ne_nil _ _
  · rename_i h1 _; exact fun h => h1 h
theorem hit_all (w : World) (v : LZ) (k : LK) (f : LF) (o : O4) (st : St) (hr8 : f.ring ≤ 8) (hR : restN v.N (wt v.a v.b (third v.N v.a v.b) f.fst) (wt v.a v.b (third v.N v.a v.b) f.snd) f.ring f.far = 0) :
    SegB w (hitBody w) (fun h₀ L h => ∃ x, Lr w v k f o st 0 x h₀ L h) (fun h₀ L h => ∃ x, Lf w v k f o (find 0 (f.ring, f.sd, f.far) st) x h₀ L h) := by
  rw [split9 (hitBody w) (hit_len w)]
  refine @SegB.comp _ _ _ _ _ _ (@hit_1 w v k f o st) ?_
  refine @SegB.comp _ _ _ _ _ _ (@hit_2 w v k f o st ((pt (f.ring, f.sd, f.far)).1 + v.wh) ((pt (f.ring, f.sd, f.far)).2.1 + v.wh) ((pt (f.ring, f.sd, f.far)).2.2 + v.wh) rfl rfl rfl) ?_
  refine @SegB.comp _ _ _ _ _ _ (@hit_3 w v k f o st ((pt (f.ring, f.sd, f.far)).1 + v.wh) ((pt (f.ring, f.sd, f.far)).2.1 + v.wh) ((pt (f.ring, f.sd, f.far)).2.2 + v.wh) rfl rfl rfl) ?_
  refine @SegB.comp _ _ _ _ _ _ (@hit_4 w v k f o st ((pt (f.ring, f.sd, f.far)).1 + v.wh) ((pt (f.ring, f.sd, f.far)).2.1 + v.wh) ((pt (f.ring, f.sd, f.far)).2.2 + v.wh)) ?_
  refine @SegB.comp _ _ _ _ _ _ (@hit_5 w v k f o st ((pt (f.ring, f.sd, f.far)).1 + v.wh) ((pt (f.ring, f.sd, f.far)).2.1 + v.wh) ((pt (f.ring, f.sd, f.far)).2.2 + v.wh) rfl rfl rfl hR) ?_
  refine @SegB.comp _ _ _ _ _ _ (@hit_6 w v k f o st ((pt (f.ring, f.sd, f.far)).1 + v.wh) ((pt (f.ring, f.sd, f.far)).2.1 + v.wh) ((pt (f.ring, f.sd, f.far)).2.2 + v.wh) rfl rfl rfl hr8) ?_
  refine @SegB.comp _ _ _ _ _ _ (@hit_7 w v k f o st ((pt (f.ring, f.sd, f.far)).1 + v.wh) ((pt (f.ring, f.sd, f.far)).2.1 + v.wh) ((pt (f.ring, f.sd, f.far)).2.2 + v.wh) hr8) ?_
  refine @SegB.comp _ _ _ _ _ _ (@hit_8 w v k f o st ((pt (f.ring, f.sd, f.far)).1 + v.wh) ((pt (f.ring, f.sd, f.far)).2.1 + v.wh) ((pt (f.ring, f.sd, f.far)).2.2 + v.wh) rfl rfl rfl hr8) ?_
  exact @hit_9 w v k f o _ (note_ne _ _)
theorem beq_nat0 (R : Nat) : ((R : Int) == 0) = decide (R = 0) := by
  by_cases h : R = 0
  · subst h; rfl
  · rw [decide_eq_false h]; exact beq_eq_false_iff_ne.mpr (by omega)
noncomputable def ifTest : Stmt → PySem.Expr
  | .If t _ _ _ => t
  | _ => .Name (Str.ofString "") default
noncomputable def ifPos : Stmt → Pos
  | .If _ _ _ p => p
  | _ => default
theorem far2_eq (w : World) : (farBody w).drop 2 = [.If (ifTest (nthS (farBody w) 2)) (hitBody w) [] (ifPos (nthS (farBody w) 2))] := by
  unfold hitBody farBody sideBody ringBody lawBody lawLit mkLit; rfl
structure Kept (P : Prop) : Prop where
  out : P
theorem kept {P : Prop} (h : Kept P) : P := h.out
theorem far_3 (w : World) : ∀ (v : LZ) (k : LK) (f : LF) (o : O4) (st : St), ∀ (R : Nat), f.ring ≤ 8 → R = restN v.N (wt v.a v.b (third v.N v.a v.b) f.fst) (wt v.a v.b (third v.N v.a v.b) f.snd) f.ring f.far → SegB w ((farBody w).drop 2) (fun h₀ L h => ∃ x, Lr w v k f o st R x h₀ L h) (fun h₀ L h => ∃ x, Lf w v k f o (find R (f.ring, f.sd, f.far) st) x h₀ L h) := by
  intro v k f o st R hr8 hR
  have hh := @hit_all w v k f o st hr8
  rw [far2_eq]
  unfold SegB at hh ⊢
  k_fill
  intro hrr mean mg mb h₀ L s E X T B hP
  refine wpAny_execs_cons (wpAny_If ?_)
  refine wpAny_mono (Q := fun b s' => Kept (b = decide (R = 0) ∧ ∃ tk, s' = { s with toks := tk })) ?_ (fun b s' hb => ?_) fun _ _ e => e
  · clear hh
    obtain ⟨x, hP⟩ := hP
    have F : Fr h₀ L s.heap (fun y => if y = Str.ofString "rest" then some (.int ((R : Nat) : Int) x.xr) else x.mx y) := fr_canon [(Str.ofString "rest", _)] hP.F (List.forall_mem_cons.mpr ⟨hP.hr, fun _ h => nomatch h⟩)
    clear hP hR
    unfold lawEnv farBody sideBody ringBody lawBody lawLit mkLit
    dsimp only [List.take, List.drop, List.getD, nthS, forBody, ifBody, ifTest, List.getElem?_cons_succ, List.getElem?_cons_zero, Option.getD_some]
    k_steps
    exact ⟨⟨beq_nat0 R, _, rfl⟩⟩
  · obtain ⟨⟨rfl, tk, rfl⟩⟩ := hb
    by_cases h0 : R = 0
    · subst h0
      rw [decide_eq_true rfl, if_pos rfl]
      refine wpAny_mono (@hh hR.symm hrr mean mg mb h₀ L _ _ X T B hP) (fun fl s'' hs => ?_) fun _ _ e => e
      obtain ⟨rfl, h', tk', rfl, hQ⟩ := hs
      exact wpAny_execs_nil ⟨rfl, _, _, rfl, hQ⟩
    · rw [decide_eq_false h0, if_neg (by decide)]
      refine wpAny_execs_nil (wpAny_execs_nil ⟨rfl, _, _, rfl, ?_⟩)
      have ef : find R (f.ring, f.sd, f.far) st = st := by
        unfold find
        cases h : Nat.beq R 0 with
        | false => rfl
        | true => exact absurd (Nat.eq_of_beq_eq_true h) h0
      dsimp only
      rw [ef]
      obtain ⟨x, hP⟩ := hP
      exact ⟨x, hP.F, hP.lo, hP.b, hP.NN⟩
end
end
end
section
local macro_rules | `(tactic| is_list) => `(tactic| exact News.isList (by k_asm) (by k_mem))
-- text G18
section
open PySem PySem.W PySem.Calls PyProof.Rows
set_option maxRecDepth 100000
set_option maxHeartbeats 8000000
set_option genSizeOf false
structure Bg (w : World) (v : LZ) (k : LK) (f : LF) (o : O4) (st : St) (c13 : Option Value) (P1 P2 : Nat) (Q1 Q2 : Obj) (fit : Array Value) (so : Obj) (L : Addr) : Prop where
  C : Ce v L
  pk : Pk w v st P1 P2 Q1 Q2 fit so L
  i1 : It v P1 P2 k.X1
  i2 : It v P1 P2 k.X2
  ox1 : @LT.lt Nat _ k.X1 k.X2
  fr : f.ring < 20
  ff1 : f.fst = f.sd
  ff2 : f.snd = (f.sd + 1) % 6
  fs6 : f.sd < 6
  q10 : o.o10.data = .cell (some (.int ((f.ring : Nat) : Int) f.t10))
  q11 : o.o11.data = .cell (some (.int ((f.fst : Nat) : Int) f.t11))
  q12 : o.o12.data = .cell (some (.int ((f.snd : Nat) : Int) f.t12))
  q13 : o.o13.data = .cell (c13)
structure Lg (w : World) (v : LZ) (k : LK) (f : LF) (o : O4) (st : St) (c13 : Option Value) (x : LX) (h₀ : Heap) (L : Addr) (h : Heap) : Prop where
  F : Fr h₀ L h x.mx
  lo : Lo v st x.xsh x.xwi x.mx
  b : Bg w v k f o st c13 x.P1 x.P2 x.Q1 x.Q2 x.fit x.so L
  NN : News h₀ L h ((k.X1, k.Y1) :: (k.X2, k.Y2) :: (v.Fo, listOf x.fit x.ft) :: (v.Se, x.so) :: (x.P1, x.Q1) :: (x.P2, x.Q2) :: (L + 1 + 1 + 1 + 1 + 1 + 1 + 1 + 1 + 1 + 1 + 1 + 1 + 1, o.o13) :: (L + 1 + 1 + 1 + 1 + 1 + 1 + 1 + 1 + 1 + 1 + 1 + 1, o.o12) :: (L + 1 + 1 + 1 + 1 + 1 + 1 + 1 + 1 + 1 + 1 + 1, o.o11) :: (L + 1 + 1 + 1 + 1 + 1 + 1 + 1 + 1 + 1 + 1, o.o10) :: v.led)
noncomputable def forTarget : Stmt → PySem.Expr
  | .For t _ _ _ _ => t
  | _ => .Name (Str.ofString "") default
noncomputable def forIter : Stmt → PySem.Expr
  | .For _ t _ _ _ => t
  | _ => .Name (Str.ofString "") default
noncomputable def forPos : Stmt → Pos
  | .For _ _ _ _ p => p
  | _ => default
theorem farFor_eq (w : World) : nthS (sideBody w) 1 = .For (forTarget (nthS (sideBody w) 1)) (forIter (nthS (sideBody w) 1)) (farBody w) [] (forPos (nthS (sideBody w) 1)) := by
  unfold farBody sideBody ringBody lawBody lawLit mkLit; rfl
theorem far_all (w : World) (v : LZ) (k : LK) (f : LF) (o : O4) (st : St) (H : Num v.N v.a v.b) (hr8 : f.ring ≤ 8) (hc : st.cnt ≤ 3000) :
    SegB w (farBody w) (fun h₀ L h => ∃ x, Lf w v k f o st x h₀ L h) (fun h₀ L h => ∃ x, Lf w v k f o (step v.N (wt v.a v.b (third v.N v.a v.b) f.fst) (wt v.a v.b (third v.N v.a v.b) f.snd) f.ring f.sd f.far st) x h₀ L h) := by
  have h1 := far_1 w v k f o st
  have h2 := far_2 w v k f o st (restN v.N (wt v.a v.b (third v.N v.a v.b) f.fst) (wt v.a v.b (third v.N v.a v.b) f.snd) f.ring f.far) (Nat.mod_lt _ (by have := H.n8; omega)) hc
  have h3 := far_3 w v k f o (see v.N (restN v.N (wt v.a v.b (third v.N v.a v.b) f.fst) (wt v.a v.b (third v.N v.a v.b) f.snd) f.ring f.far) f.ring st) _ hr8 rfl
  have g := SegB.comp h1 (SegB.comp h2 h3)
  rw [← split3 (farBody w) (far_len w)] at g
  exact g
theorem see_cnt (N r ring : Nat) (s : St) : (see N r ring s).cnt ≤ s.cnt + 2 := by
  unfold see
  split
  · omega
  · dsimp only; split <;> omega
theorem find_cnt (r : Nat) (t : Txt3) (s : St) : (find r t s).cnt = s.cnt := by
  unfold find
  split <;> rfl
theorem farRun_cnt (N W1 W2 ring sd : Nat) (s : St) : ∀ i, (farRun N W1 W2 ring sd i s).cnt ≤ s.cnt + 2 * i
  | 0 => Nat.le_refl _
  | i + 1 => by
    have ih := farRun_cnt N W1 W2 ring sd s i
    show (step N W1 W2 ring sd i (farRun N W1 W2 ring sd i s)).cnt ≤ _
    unfold step
    rw [find_cnt]
    have := see_cnt N (restN N W1 W2 ring i) ring (farRun N W1 W2 ring sd i s)
    omega
noncomputable def set13 (o : O4) (x : Obj) : O4 := ⟨o.o10, o.o11, o.o12, x⟩
theorem news_rot3 {g h : Heap} {L : Addr} {a b c : Addr × Obj} {r : List (Addr × Obj)} (N : News g L h (a :: b :: c :: r)) : News g L h (b :: c :: a :: r) := fun p hp => by
  rcases List.mem_cons.mp hp with rfl | hp
  · exact N _ (.tail _ (.head _))
  rcases List.mem_cons.mp hp with rfl | hp
  · exact N _ (.tail _ (.tail _ (.head _)))
  rcases List.mem_cons.mp hp with rfl | hp
  · exact N _ (.head _)
  · exact N _ (.tail _ (.tail _ (.tail _ hp)))
theorem news_rot3' {g h : Heap} {L : Addr} {a b c : Addr × Obj} {r : List (Addr × Obj)} (N : News g L h (b :: c :: a :: r)) : News g L h (a :: b :: c :: r) := fun p hp => by
  rcases List.mem_cons.mp hp with rfl | hp
  · exact N _ (.tail _ (.tail _ (.head _)))
  rcases List.mem_cons.mp hp with rfl | hp
  · exact N _ (.head _)
  rcases List.mem_cons.mp hp with rfl | hp
  · exact N _ (.tail _ (.head _))
  · exact N _ (.tail _ (.tail _ (.tail _ hp)))

theorem Ce.off {v : LZ} {L : Addr} (C : Ce v L) {I P1 P2 : Nat} {a b Q1 Q2 d1 d2 d3 d4 : Obj} (hF : @LT.lt Nat _ v.Fo I) (hp1 : @Ne Nat P1 I) (hp2 : @Ne Nat P2 I) : ∀ p ∈ (v.Fo, a) :: (v.Se, b) :: (P1, Q1) :: (P2, Q2) :: (L + 1 + 1 + 1 + 1 + 1 + 1 + 1 + 1 + 1 + 1 + 1 + 1 + 1, d1) :: (L + 1 + 1 + 1 + 1 + 1 + 1 + 1 + 1 + 1 + 1 + 1 + 1, d2) :: (L + 1 + 1 + 1 + 1 + 1 + 1 + 1 + 1 + 1 + 1 + 1, d3) :: (L + 1 + 1 + 1 + 1 + 1 + 1 + 1 + 1 + 1 + 1, d4) :: v.led, p.1 ≠ I :=
  have hy : @LT.lt Nat _ v.Se I := Nat.lt_trans C.sFo hF
  have hz : @LT.lt Nat _ (@HAdd.hAdd Nat Nat Nat _ L 13) I := Nat.lt_trans C.lSe hy
  List.forall_mem_cons.mpr ⟨Nat.ne_of_lt hF, List.forall_mem_cons.mpr ⟨Nat.ne_of_lt hy, List.forall_mem_cons.mpr ⟨hp1, List.forall_mem_cons.mpr ⟨hp2, List.forall_mem_cons.mpr ⟨Nat.ne_of_lt (Nat.lt_of_le_of_lt (Nat.add_le_add_left (by decide : 13 ≤ 13) L) hz), List.forall_mem_cons.mpr ⟨Nat.ne_of_lt (Nat.lt_of_le_of_lt (Nat.add_le_add_left (by decide : 12 ≤ 13) L) hz), List.forall_mem_cons.mpr ⟨Nat.ne_of_lt (Nat.lt_of_le_of_lt (Nat.add_le_add_left (by decide : 11 ≤ 13) L) hz), List.forall_mem_cons.mpr ⟨Nat.ne_of_lt (Nat.lt_of_le_of_lt (Nat.add_le_add_left (by decide : 10 ≤ 13) L) hz), fun p hp => Nat.ne_of_lt (Nat.lt_trans (C.hs p hp) hy)⟩⟩⟩⟩⟩⟩⟩⟩
local macro_rules | `(tactic| walk_at "exec For Name Call cons nil") => `(tactic| refine wpAny_For ?_ (by intro _; with_unfolding_all rfl))
local macro_rules | `(tactic| walk_at "pyIter ref") => `(tactic| refine Mine.stop ?_)
theorem lf_lg {w : World} {v : LZ} {kk : LK} {f : LF} {o : O4} {st : St} {x : LX} {h₀ : Heap} {L : Addr} {h : Heap} {X3 i : Nat} {Y3 : Obj} {t : Tok} (h' : Lf w v ⟨kk.X1, kk.X2, X3, kk.Y1, kk.Y2, Y3⟩ ⟨f.ring, f.sd, i, f.fst, f.snd, f.t10, f.t11, f.t12, t⟩ o st x h₀ L h) : Lg w v kk f o st (some (.int ((i : Nat) : Int) t)) x h₀ L h :=
  have b := h'.b
  ⟨h'.F, h'.lo, ⟨b.C, b.pk, b.i1, b.i2, b.ox1, b.fr, b.ff1, b.ff2, b.fs6, b.q10, b.q11, b.q12, b.q13⟩, (news_tail (news_rot3' h'.NN))⟩
theorem lf_x3 {w : World} {v : LZ} {kk : LK} {f : LF} {o : O4} {st : St} {x : LX} {h₀ : Heap} {L : Addr} {h : Heap} {X3 i : Nat} {Y3 : Obj} {t : Tok} (h' : Lf w v ⟨kk.X1, kk.X2, X3, kk.Y1, kk.Y2, Y3⟩ ⟨f.ring, f.sd, i, f.fst, f.snd, f.t10, f.t11, f.t12, t⟩ o st x h₀ L h) : h.get? X3 = some Y3 := (h'.NN (X3, Y3) (.tail _ (.tail _ (.head _)))).1
theorem far_assign (w : World) : ∀ (v : LZ) (kk : LK) (f : LF) (o : O4) (st : St) (c13 : Option Value) (X3 i : Nat) (Y3 : Obj) (t : Tok) (mean : ExcName → Option Value) (mg mb : Str → Option Value) (h₀ : Heap) (L : Addr) (s : Shared) (E : Value → Shared → Prop),
    PySem.Challenge.rw_tp0031_01.prog = PySem.Challenge.rw_tp0031_01.prog → (kf w.params).In h₀ → Top qv (looseW qv lz) mean mg mb h₀ → Below callerA h₀ [] h₀ → i < f.ring → @LT.lt Nat _ v.Fo X3 → @LT.lt Nat _ kk.X2 X3 → s.heap.get? X3 = some Y3 → X3 ≠ L → h₀.get? X3 = none → (∃ x, Lg w v kk f o st c13 x h₀ L s.heap ∧ @Ne Nat x.P1 X3 ∧ @Ne Nat x.P2 X3) →
    wpAny (model PySem.Challenge.rw_tp0031_01.prog w) (callerA.deeper (lawEnv w L)) (assign (forTarget (nthS (sideBody w) 1)) (lawEnv w L) (.int ((i : Nat) : Int) t)) (fun _ s' => Kept (∃ h' tk o13 x, s' = { s with heap := h', toks := tk } ∧ Lf w v ⟨kk.X1, kk.X2, X3, kk.Y1, kk.Y2, Y3⟩ ⟨f.ring, f.sd, i, f.fst, f.snd, f.t10, f.t11, f.t12, t⟩ (set13 o o13) st x h₀ L h')) E s := by
  k_fill
  intro v kk f o st c13 X3 i Y3 t mean mg mb h₀ L s E hrr X T B hi hX hX2 hg hXL hX0 hP
  obtain ⟨x, hP, hp1, hp2⟩ := hP
  refine genQ fun QQ hQQ => ?_
  have NN := hP.NN
  have b := hP.b
  have C := b.C
  have q13 := b.q13
  have e13 := C.e13
  have zc : ∀ a, @LT.lt Nat _ (@HAdd.hAdd Nat Nat Nat _ L 13) a → @Ne Nat a (L + 1 + 1 + 1 + 1 + 1 + 1 + 1 + 1 + 1 + 1 + 1 + 1 + 1) := fun a h => Nat.ne_of_gt h
  have x1 := zc _ (Nat.lt_trans (Nat.lt_trans C.lSe C.sFo) b.i1.g)
  have x2 := zc _ (Nat.lt_trans (Nat.lt_trans C.lSe C.sFo) b.i2.g)
  have x3 := zc _ (Nat.lt_trans (Nat.lt_trans C.lSe C.sFo) hX)
  have x4 := zc _ (Nat.lt_trans C.lSe C.sFo)
  have x5 := zc _ C.lSe
  have x6 := zc _ b.pk.l1
  have x7 := zc _ b.pk.l2
  have y10 : @Ne Nat (L + 1 + 1 + 1 + 1 + 1 + 1 + 1 + 1 + 1 + 1) (L + 1 + 1 + 1 + 1 + 1 + 1 + 1 + 1 + 1 + 1 + 1 + 1 + 1) := Nat.ne_of_lt (Nat.add_lt_add_left (by decide : 10 < 13) L)
  have y11 : @Ne Nat (L + 1 + 1 + 1 + 1 + 1 + 1 + 1 + 1 + 1 + 1 + 1) (L + 1 + 1 + 1 + 1 + 1 + 1 + 1 + 1 + 1 + 1 + 1 + 1 + 1) := Nat.ne_of_lt (Nat.add_lt_add_left (by decide : 11 < 13) L)
  have y12 : @Ne Nat (L + 1 + 1 + 1 + 1 + 1 + 1 + 1 + 1 + 1 + 1 + 1 + 1) (L + 1 + 1 + 1 + 1 + 1 + 1 + 1 + 1 + 1 + 1 + 1 + 1 + 1) := Nat.ne_of_lt (Nat.add_lt_add_left (by decide : 12 < 13) L)
  have F : Fr h₀ L s.heap (fun y => x.mx y) := fr_canon [] hP.F (fun _ h => nomatch h)
  unfold lawEnv lawLit mkLit
  unfold sideBody ringBody lawBody lawLit mkLit
  dsimp only [List.take, List.drop, List.getD, nthS, forBody, ifBody, forIter, forTarget, List.getElem?_cons_succ, List.getElem?_cons_zero, Option.getD_some]
  have N0 := news_cons hg hXL hX0 NN
  clear NN zc
  k_steps
  rename Fr _ _ _ _ => F1
  rename News _ _ _ _ => N1
  rename _ = Data.cell (some (Value.int _ _)) => dn13
  rename Obj => on13
  exact hQQ _ _ ⟨⟨_, _, on13, { x with mx := frFun F1 }, rfl, ⟨F1, ⟨hP.lo.found, hP.lo.short, hP.lo.wide, hP.lo.seen, hP.lo.turn, hP.lo.worths, hP.lo.letters, hP.lo.count⟩, ⟨b.C, b.pk, b.i1, b.i2, ⟨hX, hp1, hp2⟩, b.ox1, hX2, b.fr, hi, b.ff1, b.ff2, b.fs6, b.q10, b.q11, b.q12, dn13⟩, news_rot3 N1⟩⟩⟩
end
-- text G19
section
open PySem PySem.W PySem.Calls PyProof.Rows
set_option maxRecDepth 100000
set_option maxHeartbeats 8000000
theorem small20 {n : Nat} (h : n < 20) : Builtin.Range.small 0 (n : Int) 1 = true ∧ Builtin.Range.rangeSize 0 (n : Int) 1 = (n : Int) := by
  have h1 : ((List.range 20).all fun n => Builtin.Range.small 0 ((n : Nat) : Int) 1 && Builtin.Range.rangeSize 0 ((n : Nat) : Int) 1 == ((n : Nat) : Int)) = true := by decide +kernel
  have := Bool.and_eq_true_iff.mp (List.all_eq_true.mp h1 n (List.mem_range.mpr h))
  exact ⟨this.1, eq_of_beq this.2⟩
theorem far_range (w : World) : ∀ (v : LZ) (kk : LK) (f : LF) (o : O4) (st : St) (c13 : Option Value) (mean : ExcName → Option Value) (mg mb : Str → Option Value) (h₀ : Heap) (L : Addr) (s : Shared) (E : Value → Shared → Prop),
    PySem.Challenge.rw_tp0031_01.prog = PySem.Challenge.rw_tp0031_01.prog → (kf w.params).In h₀ → Top qv (looseW qv lz) mean mg mb h₀ → Below callerA h₀ [] h₀ → (∃ x, Lg w v kk f o st c13 x h₀ L s.heap) →
    wpAny (model PySem.Challenge.rw_tp0031_01.prog w) (callerA.deeper (lawEnv w L)) (eval (forIter (nthS (sideBody w) 1)) (lawEnv w L)) (fun xv s' => Kept (∃ r t0 t1 t2 h' tk, xv = .ref r ∧ s' = { s with heap := h', toks := tk } ∧ IsRange h' r 0 (f.ring : Int) 1 t0 t1 t2 ∧ ∃ x, Lg w v kk f o st c13 x h₀ L h')) E s := by
  k_fill
  intro v kk f o st c13 mean mg mb h₀ L s E hrr X T B hP
  obtain ⟨x, hP⟩ := hP
  refine genQ fun QQ hQQ => ?_
  have NN := hP.NN
  have b := hP.b
  have C := b.C
  have q10 := b.q10
  have fr := b.fr
  have F : Fr h₀ L s.heap (fun y => x.mx y) := fr_canon [] hP.F (fun _ h => nomatch h)
  unfold lawEnv lawLit mkLit
  unfold sideBody ringBody lawBody lawLit mkLit
  dsimp only [List.take, List.drop, List.getD, nthS, forBody, ifBody, forIter, forTarget, List.getElem?_cons_succ, List.getElem?_cons_zero, Option.getD_some]
  k_steps
  rename IsRange _ _ _ _ _ _ _ _ => hr
  rename Fr _ _ _ _ => F1
  rename News _ _ _ _ => N1
  exact hQQ _ _ ⟨⟨_, _, _, _, _, _, rfl, rfl, hr, { x with mx := frFun F1 }, ⟨F1, ⟨hP.lo.found, hP.lo.short, hP.lo.wide, hP.lo.seen, hP.lo.turn, hP.lo.worths, hP.lo.letters, hP.lo.count⟩, b, N1⟩⟩⟩
theorem lg_keep {w : World} {v : LZ} {kk : LK} {f : LF} {o : O4} {st : St} {c13 : Option Value} {x : LX} {h₀ : Heap} {L : Addr} {h h2 : Heap} (h' : Lg w v kk f o st c13 x h₀ L h) (hk : ∀ b o, h.get? b = some o → h2.get? b = some o) : Lg w v kk f o st c13 x h₀ L h2 :=
  ⟨h'.F.keeps hk, h'.lo, h'.b, h'.NN.grown hk⟩
theorem lg_new {w : World} {v : LZ} {kk : LK} {f : LF} {o : O4} {st : St} {c13 : Option Value} {x : LX} {h₀ : Heap} {L : Addr} {h : Heap} (h' : Lg w v kk f o st c13 x h₀ L h) : h₀.get? h.objs.size = none ∧ L ≠ h.objs.size ∧ @LT.lt Nat _ v.Fo h.objs.size ∧ @LT.lt Nat _ kk.X2 h.objs.size ∧ @Ne Nat x.P1 h.objs.size ∧ @Ne Nat x.P2 h.objs.size := by
  have z := new_addr h'.F h'.NN
  have N := h'.NN
  exact ⟨z.1, z.2.1, Heap.lt_size (N (_, _) (.tail _ (.tail _ (.head _)))).1, Heap.lt_size (N (_, _) (.tail _ (.head _))).1, z.2.2 (_, _) (.tail _ (.tail _ (.tail _ (.tail _ (.head _))))), z.2.2 (_, _) (.tail _ (.tail _ (.tail _ (.tail _ (.tail _ (.head _))))))⟩
theorem lg_but {w : World} {v : LZ} {kk : LK} {f : LF} {o : O4} {st : St} {c13 : Option Value} {x : LX} {h₀ : Heap} {L : Addr} {h h2 : Heap} {I : Addr} (h' : Lg w v kk f o st c13 x h₀ L h) (h1 : h₀.get? I = none) (hL : L ≠ I) (hF : @LT.lt Nat _ v.Fo I) (hX : @LT.lt Nat _ kk.X2 I) (hp1 : @Ne Nat x.P1 I) (hp2 : @Ne Nat x.P2 I)
    (hk : ∀ b o, b ∉ [I] → h.get? b = some o → h2.get? b = some o) : Lg w v kk f o st c13 x h₀ L h2 :=
  ⟨fr_but h'.F h1 hL hk, h'.lo, h'.b, news_but h'.NN (List.forall_mem_cons.mpr ⟨Nat.ne_of_lt (Nat.lt_trans h'.b.ox1 hX), List.forall_mem_cons.mpr ⟨Nat.ne_of_lt hX, h'.b.C.off hF hp1 hp2⟩⟩) hk⟩
set_option genInjectivity false
set_option genSizeOf false
structure RL where
  h : Heap
  tk : Tok
  o13 : Obj
  c : Option Value
  x : LX
structure IL (w : World) (v : LZ) (kk : LK) (f : LF) (o : O4) (st : St) (h₀ : Heap) (L : Addr) (s : Shared) (I : Nat) (R : RL) (s' : Shared) : Prop where
  e : s' = { s with heap := R.h, toks := R.tk }
  hx : Lg w v kk f (set13 o R.o13) st R.c R.x h₀ L R.h
  p1 : @Ne Nat R.x.P1 I
  p2 : @Ne Nat R.x.P2 I
theorem far_loop (w : World) : ∀ (v : LZ) (kk : LK) (f : LF) (o : O4) (st : St) (c13 : Option Value), f.ring ≤ 8 → st.cnt ≤ 2900 → SegB w [nthS (sideBody w) 1] (fun h₀ L h => ∃ x, Lg w v kk f o st c13 x h₀ L h)
    (fun h₀ L h => ∃ o13 c x, Lg w v kk f (set13 o o13) (farRun v.N (wt v.a v.b (third v.N v.a v.b) f.fst) (wt v.a v.b (third v.N v.a v.b) f.snd) f.ring f.sd f.ring st) c x h₀ L h) := by
  intro v kk f o st c13 hr8 hc hrr mean mg mb h₀ L s E X T B hP
  rw [farFor_eq]
  refine genQ fun QQ hQQ => ?_
  refine wpAny_execs_cons (wpAny_For (wpAny_mono (@far_range w v kk f o st c13 mean mg mb h₀ L s _ hrr X T B hP) (fun xv s' hb => ?_) fun _ _ e => e) (by unfold lawEnv sideBody ringBody lawBody lawLit mkLit; intro _; with_unfolding_all rfl))
  obtain ⟨⟨r, t0, t1, t2, h1, tk, rfl, rfl, hr, x, hx⟩⟩ := hb
  have hs := small20 (show f.ring < 20 by omega)
  refine wpAny_pyIter_range hr hs.1 ?_
  obtain ⟨n1, n2, n3, n4, n5, n6⟩ := lg_new hx
  refine for_by (LCg.range_walks rfl 0 f.ring) (fun i s' => ∃ R, IL w v kk f o (farRun v.N (wt v.a v.b (third v.N v.a v.b) f.fst) (wt v.a v.b (third v.N v.a v.b) f.snd) f.ring f.sd i st) h₀ L s h1.objs.size R s') ?_ ?_ ?_ ?_
    (by unfold sideBody ringBody lawBody lawLit mkLit; intro _; with_unfolding_all rfl)
  · exact ⟨⟨_, _, o.o13, c13, x⟩, rfl, lg_keep hx fun _ _ e => Heap.get?_push_of_some _ e, n5, n6⟩
  · show IsRangeIter _ _ _ _ _; rw [hs.2]; simpa using Heap.get?_push_size _ rfl
  · rintro i v' s2 h2 tk2 hlt ⟨⟨h3, tk3, o13, c, x3⟩, rfl, hx3, p1, p2⟩ ⟨t, rfl⟩ hst hkp
    have hx2 := lg_but hx3 n1 n2 n3 n4 p1 p2 hkp
    rw [Int.zero_add]
    refine wpAny_mono (@far_assign w v kk f (set13 o o13) _ c h1.objs.size i _ t mean mg mb h₀ L _ _ hrr X T B hlt n3 n4 hst (Ne.symm n2) n1 ⟨x3, hx2, p1, p2⟩) (fun _ s4 h4 => ?_) fun _ _ e => e
    obtain ⟨⟨h5, tk5, o13', x5, rfl, hx5⟩⟩ := h4
    have hcn := farRun_cnt v.N (wt v.a v.b (third v.N v.a v.b) f.fst) (wt v.a v.b (third v.N v.a v.b) f.snd) f.ring f.sd st i
    refine wpAny_mono (@far_all w v ⟨kk.X1, kk.X2, h1.objs.size, kk.Y1, kk.Y2, _⟩ ⟨f.ring, f.sd, i, f.fst, f.snd, f.t10, f.t11, f.t12, t⟩ _ _ hx5.b.C.H hr8 (Nat.le_trans hcn (by omega)) hrr mean mg mb h₀ L _ _ X T B ⟨x5, hx5⟩) (fun fl s6 h6 => ?_) fun _ _ e => e
    obtain ⟨rfl, h7, tk7, rfl, x7, hx7⟩ := h6
    exact ⟨⟨⟨h7, _, o13', _, x7⟩, rfl, lf_lg hx7, hx7.b.i3.n1, hx7.b.i3.n2⟩, lf_x3 hx7⟩
  · rintro s2 h2 tk2 ⟨⟨h3, tk3, o13, c, x3⟩, rfl, hx3, p1, p2⟩ hkp
    exact wpAny_execs_nil (hQQ _ _ ⟨rfl, _, _, rfl, o13, c, x3, lg_but hx3 n1 n2 n3 n4 p1 p2 hkp⟩)
end
-- text G20
section
open PySem PySem.W PySem.Calls PyProof.Rows
set_option maxRecDepth 100000
set_option maxHeartbeats 8000000
set_option genSizeOf false
structure Bq (w : World) (v : LZ) (k : LK) (f : LF) (o : O4) (st : St) (c11 c12 c13 : Option Value) (P1 P2 : Nat) (Q1 Q2 : Obj) (fit : Array Value) (so : Obj) (L : Addr) : Prop where
  C : Ce v L
  pk : Pk w v st P1 P2 Q1 Q2 fit so L
  i1 : It v P1 P2 k.X1
  fr : f.ring < 20
  q10 : o.o10.data = .cell (some (.int ((f.ring : Nat) : Int) f.t10))
  q11 : o.o11.data = .cell (c11)
  q12 : o.o12.data = .cell (c12)
  q13 : o.o13.data = .cell (c13)
structure Lq (w : World) (v : LZ) (k : LK) (f : LF) (o : O4) (st : St) (c11 c12 c13 : Option Value) (x : LX) (h₀ : Heap) (L : Addr) (h : Heap) : Prop where
  F : Fr h₀ L h x.mx
  lo : Lo v st x.xsh x.xwi x.mx
  b : Bq w v k f o st c11 c12 c13 x.P1 x.P2 x.Q1 x.Q2 x.fit x.so L
  NN : News h₀ L h ((k.X1, k.Y1) :: (v.Fo, listOf x.fit x.ft) :: (v.Se, x.so) :: (x.P1, x.Q1) :: (x.P2, x.Q2) :: (L + 1 + 1 + 1 + 1 + 1 + 1 + 1 + 1 + 1 + 1 + 1 + 1 + 1, o.o13) :: (L + 1 + 1 + 1 + 1 + 1 + 1 + 1 + 1 + 1 + 1 + 1 + 1, o.o12) :: (L + 1 + 1 + 1 + 1 + 1 + 1 + 1 + 1 + 1 + 1 + 1, o.o11) :: (L + 1 + 1 + 1 + 1 + 1 + 1 + 1 + 1 + 1 + 1, o.o10) :: v.led)
structure Bs (w : World) (v : LZ) (k : LK) (f : LF) (o : O4) (st : St) (c11 c12 c13 : Option Value) (P1 P2 : Nat) (Q1 Q2 : Obj) (fit : Array Value) (so : Obj) (L : Addr) : Prop where
  C : Ce v L
  pk : Pk w v st P1 P2 Q1 Q2 fit so L
  i1 : It v P1 P2 k.X1
  i2 : It v P1 P2 k.X2
  ox1 : @LT.lt Nat _ k.X1 k.X2
  fr : f.ring < 20
  q10 : o.o10.data = .cell (some (.int ((f.ring : Nat) : Int) f.t10))
  q11 : o.o11.data = .cell (c11)
  q12 : o.o12.data = .cell (c12)
  q13 : o.o13.data = .cell (c13)
structure Ls (w : World) (v : LZ) (k : LK) (f : LF) (o : O4) (st : St) (c11 c12 c13 : Option Value) (j : Nat) (tj : Tok) (x : LX) (h₀ : Heap) (L : Addr) (h : Heap) : Prop where
  F : Fr h₀ L h x.mx
  lo : Lo v st x.xsh x.xwi x.mx
  b : Bs w v k f o st c11 c12 c13 x.P1 x.P2 x.Q1 x.Q2 x.fit x.so L
  hsd : x.mx (Str.ofString "side") = some (.int ((j : Nat) : Int) tj)
  NN : News h₀ L h ((k.X1, k.Y1) :: (k.X2, k.Y2) :: (v.Fo, listOf x.fit x.ft) :: (v.Se, x.so) :: (x.P1, x.Q1) :: (x.P2, x.Q2) :: (L + 1 + 1 + 1 + 1 + 1 + 1 + 1 + 1 + 1 + 1 + 1 + 1 + 1, o.o13) :: (L + 1 + 1 + 1 + 1 + 1 + 1 + 1 + 1 + 1 + 1 + 1 + 1, o.o12) :: (L + 1 + 1 + 1 + 1 + 1 + 1 + 1 + 1 + 1 + 1 + 1, o.o11) :: (L + 1 + 1 + 1 + 1 + 1 + 1 + 1 + 1 + 1 + 1, o.o10) :: v.led)
noncomputable def set3 (o : O4) (a b c : Obj) : O4 := ⟨o.o10, a, b, c⟩
theorem sideFor_eq (w : World) : nthS (ringBody w) 0 = .For (forTarget (nthS (ringBody w) 0)) (forIter (nthS (ringBody w) 0)) (sideBody w) [] (forPos (nthS (ringBody w) 0)) := by
  unfold sideBody ringBody lawBody lawLit mkLit; rfl
theorem sideBody_eq (w : World) : sideBody w = [nthS (sideBody w) 0] ++ [nthS (sideBody w) 1] := by
  unfold sideBody ringBody lawBody lawLit mkLit; rfl
theorem small26 {n : Nat} (h : n < 6) : Builtin.Range.small (n : Int) ((n : Int) + 3) 1 = true ∧ Builtin.Range.rangeSize (n : Int) ((n : Int) + 3) 1 = ((3 : Nat) : Int) := by
  have h1 : ((List.range 6).all fun n => Builtin.Range.small ((n : Nat) : Int) (((n : Nat) : Int) + 3) 1 && Builtin.Range.rangeSize ((n : Nat) : Int) (((n : Nat) : Int) + 3) 1 == ((3 : Nat) : Int)) = true := by decide +kernel
  have := Bool.and_eq_true_iff.mp (List.all_eq_true.mp h1 n (List.mem_range.mpr h))
  exact ⟨this.1, eq_of_beq this.2⟩
local macro_rules | `(tactic| walk_at "binaryOp Mod int int") => `(tactic| first | ((with_reducible refine mod_int' ?hb ?_); (case hb => first | decide | (dsimp only [ne_eq]; omega))) | refine Mine.stop ?_)
theorem news_swap {g h : Heap} {L : Addr} {a b : Addr × Obj} {r : List (Addr × Obj)} (N : News g L h (a :: b :: r)) : News g L h (b :: a :: r) := fun p hp => by
  rcases List.mem_cons.mp hp with rfl | hp
  · exact N _ (.tail _ (.head _))
  rcases List.mem_cons.mp hp with rfl | hp
  · exact N _ (.head _)
  · exact N _ (.tail _ (.tail _ hp))

theorem mkLg {w : World} {v : LZ} {kk : LK} {f : LF} {o : O4} {st : St} {c13 : Option Value} {x : LX} {h₀ : Heap} {L : Addr} {h : Heap} (NN : News h₀ L h ((kk.X1, kk.Y1) :: (kk.X2, kk.Y2) :: (v.Fo, listOf x.fit x.ft) :: (v.Se, x.so) :: (x.P1, x.Q1) :: (x.P2, x.Q2) :: (L + 1 + 1 + 1 + 1 + 1 + 1 + 1 + 1 + 1 + 1 + 1 + 1 + 1, o.o13) :: (L + 1 + 1 + 1 + 1 + 1 + 1 + 1 + 1 + 1 + 1 + 1 + 1, o.o12) :: (L + 1 + 1 + 1 + 1 + 1 + 1 + 1 + 1 + 1 + 1 + 1, o.o11) :: (L + 1 + 1 + 1 + 1 + 1 + 1 + 1 + 1 + 1 + 1, o.o10) :: v.led)) (F : Fr h₀ L h x.mx) (lo : Lo v st x.xsh x.xwi x.mx) (C : Ce v L) (pk : Pk w v st x.P1 x.P2 x.Q1 x.Q2 x.fit x.so L) (i1 : It v x.P1 x.P2 kk.X1) (i2 : It v x.P1 x.P2 kk.X2) (ox1 : @LT.lt Nat _ kk.X1 kk.X2) (fr : f.ring < 20) (ff1 : f.fst = f.sd) (ff2 : f.snd = (f.sd + 1) % 6) (fs6 : f.sd < 6)
    (q10 : o.o10.data = .cell (some (.int ((f.ring : Nat) : Int) f.t10))) (q11 : o.o11.data = .cell (some (.int ((f.fst : Nat) : Int) f.t11))) (q12 : o.o12.data = .cell (some (.int ((f.snd : Nat) : Int) f.t12))) (q13 : o.o13.data = .cell c13) : Lg w v kk f o st c13 x h₀ L h :=
  ⟨F, lo, ⟨C, pk, i1, i2, ox1, fr, ff1, ff2, fs6, q10, q11, q12, q13⟩, NN⟩
theorem side_range (w : World) : ∀ (v : LZ) (kk : LK) (f : LF) (o : O4) (st : St) (c11 c12 c13 : Option Value) (mean : ExcName → Option Value) (mg mb : Str → Option Value) (h₀ : Heap) (L : Addr) (s : Shared) (E : Value → Shared → Prop),
    PySem.Challenge.rw_tp0031_01.prog = PySem.Challenge.rw_tp0031_01.prog → (kf w.params).In h₀ → Top qv (looseW qv lz) mean mg mb h₀ → Below callerA h₀ [] h₀ → (∃ x, Lq w v kk f o st c11 c12 c13 x h₀ L s.heap) →
    wpAny (model PySem.Challenge.rw_tp0031_01.prog w) (callerA.deeper (lawEnv w L)) (eval (forIter (nthS (ringBody w) 0)) (lawEnv w L)) (fun xv s' => Kept (∃ r t0 t1 t2 h' tk, xv = .ref r ∧ s' = { s with heap := h', toks := tk } ∧ IsRange h' r (v.tr : Int) ((v.tr : Int) + 3) 1 t0 t1 t2 ∧ ∃ x, Lq w v kk f o st c11 c12 c13 x h₀ L h')) E s := by
  k_fill
  intro v kk f o st c11 c12 c13 mean mg mb h₀ L s E hrr X T B hP
  obtain ⟨x, hP⟩ := hP
  refine genQ fun QQ hQQ => ?_
  have NN := hP.NN
  have b := hP.b
  have C := b.C
  have htr := C.htr
  have F : Fr h₀ L s.heap (fun y => if y = Str.ofString "turn" then some (.int ((v.tr : Nat) : Int) v.tt) else x.mx y) := fr_canon [(Str.ofString "turn", _)] hP.F (List.forall_mem_cons.mpr ⟨hP.lo.turn, fun _ h => nomatch h⟩)
  unfold lawEnv lawLit mkLit
  unfold ringBody lawBody lawLit mkLit
  dsimp only [List.take, List.drop, List.getD, nthS, forBody, ifBody, forIter, forTarget, List.getElem?_cons_succ, List.getElem?_cons_zero, Option.getD_some]
  k_steps
  rename IsRange _ _ _ _ _ _ _ _ => hr
  rename Fr _ _ _ _ => F1
  rename News _ _ _ _ => N1
  exact hQQ _ _ ⟨⟨_, _, _, _, _, _, rfl, rfl, hr, { x with mx := frFun F1 }, ⟨F1, ⟨hP.lo.found, hP.lo.short, hP.lo.wide, hP.lo.seen, rfl, hP.lo.worths, hP.lo.letters, hP.lo.count⟩, b, N1⟩⟩⟩
theorem lq_keep {w : World} {v : LZ} {kk : LK} {f : LF} {o : O4} {st : St} {c11 c12 c13 : Option Value} {x : LX} {h₀ : Heap} {L : Addr} {h h2 : Heap} (h' : Lq w v kk f o st c11 c12 c13 x h₀ L h) (hk : ∀ b o, h.get? b = some o → h2.get? b = some o) : Lq w v kk f o st c11 c12 c13 x h₀ L h2 :=
  ⟨h'.F.keeps hk, h'.lo, h'.b, h'.NN.grown hk⟩
theorem lq_new {w : World} {v : LZ} {kk : LK} {f : LF} {o : O4} {st : St} {c11 c12 c13 : Option Value} {x : LX} {h₀ : Heap} {L : Addr} {h : Heap} (h' : Lq w v kk f o st c11 c12 c13 x h₀ L h) : h₀.get? h.objs.size = none ∧ L ≠ h.objs.size ∧ @LT.lt Nat _ v.Fo h.objs.size ∧ @LT.lt Nat _ kk.X1 h.objs.size ∧ @Ne Nat x.P1 h.objs.size ∧ @Ne Nat x.P2 h.objs.size := by
  have z := new_addr h'.F h'.NN
  have N := h'.NN
  exact ⟨z.1, z.2.1, Heap.lt_size (N (_, _) (.tail _ (.head _))).1, Heap.lt_size (N (_, _) (.head _)).1, z.2.2 (_, _) (.tail _ (.tail _ (.tail _ (.head _)))), z.2.2 (_, _) (.tail _ (.tail _ (.tail _ (.tail _ (.head _)))))⟩
theorem lq_but {w : World} {v : LZ} {kk : LK} {f : LF} {o : O4} {st : St} {c11 c12 c13 : Option Value} {x : LX} {h₀ : Heap} {L : Addr} {h h2 : Heap} {I : Addr} (h' : Lq w v kk f o st c11 c12 c13 x h₀ L h) (h1 : h₀.get? I = none) (hL : L ≠ I) (hF : @LT.lt Nat _ v.Fo I) (hX : @LT.lt Nat _ kk.X1 I) (hp1 : @Ne Nat x.P1 I) (hp2 : @Ne Nat x.P2 I)
    (hk : ∀ b o, b ∉ [I] → h.get? b = some o → h2.get? b = some o) : Lq w v kk f o st c11 c12 c13 x h₀ L h2 :=
  ⟨fr_but h'.F h1 hL hk, h'.lo, h'.b, news_but h'.NN (List.forall_mem_cons.mpr ⟨Nat.ne_of_lt hX, h'.b.C.off hF hp1 hp2⟩) hk⟩
theorem side_assign (w : World) : ∀ (v : LZ) (kk : LK) (f : LF) (o : O4) (st : St) (c11 c12 c13 : Option Value) (X2 j : Nat) (Y2 : Obj) (t : Tok) (mean : ExcName → Option Value) (mg mb : Str → Option Value) (h₀ : Heap) (L : Addr) (s : Shared) (E : Value → Shared → Prop),
    PySem.Challenge.rw_tp0031_01.prog = PySem.Challenge.rw_tp0031_01.prog → (kf w.params).In h₀ → Top qv (looseW qv lz) mean mg mb h₀ → Below callerA h₀ [] h₀ → @LT.lt Nat _ v.Fo X2 → @LT.lt Nat _ kk.X1 X2 → s.heap.get? X2 = some Y2 → X2 ≠ L → h₀.get? X2 = none → (∃ x, Lq w v kk f o st c11 c12 c13 x h₀ L s.heap ∧ @Ne Nat x.P1 X2 ∧ @Ne Nat x.P2 X2) →
    wpAny (model PySem.Challenge.rw_tp0031_01.prog w) (callerA.deeper (lawEnv w L)) (assign (forTarget (nthS (ringBody w) 0)) (lawEnv w L) (.int ((j : Nat) : Int) t)) (fun _ s' => Kept (∃ h' tk x, s' = { s with heap := h', toks := tk } ∧ Ls w v ⟨kk.X1, X2, kk.X3, kk.Y1, Y2, kk.Y3⟩ f o st c11 c12 c13 j t x h₀ L h')) E s := by
  k_fill
  intro v kk f o st c11 c12 c13 X2 j Y2 t mean mg mb h₀ L s E hrr X T B hX hX2 hg hXL hX0 hP
  obtain ⟨x, hP, hp1, hp2⟩ := hP
  refine genQ fun QQ hQQ => ?_
  have NN := hP.NN
  have b := hP.b
  have C := b.C
  have F : Fr h₀ L s.heap (fun y => x.mx y) := fr_canon [] hP.F (fun _ h => nomatch h)
  unfold lawEnv lawLit mkLit
  unfold ringBody lawBody lawLit mkLit
  dsimp only [List.take, List.drop, List.getD, nthS, forBody, ifBody, forIter, forTarget, List.getElem?_cons_succ, List.getElem?_cons_zero, Option.getD_some]
  have N0 := news_cons hg hXL hX0 NN
  clear NN
  k_steps
  rename Fr _ _ _ _ => F1
  rename News _ _ _ _ => N1
  exact hQQ _ _ ⟨⟨_, _, { x with mx := frFun F1 }, rfl, ⟨F1, ⟨hP.lo.found, hP.lo.short, hP.lo.wide, hP.lo.seen, hP.lo.turn, hP.lo.worths, hP.lo.letters, hP.lo.count⟩, ⟨b.C, b.pk, b.i1, ⟨hX, hp1, hp2⟩, hX2, b.fr, b.q10, b.q11, b.q12, b.q13⟩, rfl, news_swap N1⟩⟩⟩
theorem side_1 (w : World) : ∀ (v : LZ) (kk : LK) (f : LF) (o : O4) (st : St) (c11 c12 c13 : Option Value) (j : Nat) (t : Tok), SegB w [nthS (sideBody w) 0] (fun h₀ L h => ∃ x, Ls w v kk f o st c11 c12 c13 j t x h₀ L h)
    (fun h₀ L h => ∃ o11 o12 t11 t12 x, Lg w v kk ⟨f.ring, j % 6, f.far, j % 6, (j % 6 + 1) % 6, f.t10, t11, t12, f.t13⟩ (set3 o o11 o12 o.o13) st c13 x h₀ L h) := by
  unfold SegB
  k_fill
  intro v kk f o st c11 c12 c13 j t hrr mean mg mb h₀ L s E X T B hP
  obtain ⟨x, hP⟩ := hP
  refine genQ fun QQ hQQ => ?_
  have NN := hP.NN
  have b := hP.b
  have C := b.C
  have e11 := C.e11
  have e12 := C.e12
  have q11 := b.q11
  have q12 := b.q12
  have zc : ∀ a, @LT.lt Nat _ (@HAdd.hAdd Nat Nat Nat _ L 13) a → @Ne Nat a (L + 1 + 1 + 1 + 1 + 1 + 1 + 1 + 1 + 1 + 1 + 1) ∧ @Ne Nat a (L + 1 + 1 + 1 + 1 + 1 + 1 + 1 + 1 + 1 + 1 + 1 + 1) := fun a h => ⟨Nat.ne_of_gt (Nat.lt_of_le_of_lt (Nat.add_le_add_left (by decide : 11 ≤ 13) L) h), Nat.ne_of_gt (Nat.lt_of_le_of_lt (Nat.add_le_add_left (by decide : 12 ≤ 13) L) h)⟩
  have lF := Nat.lt_trans C.lSe C.sFo
  obtain ⟨x11, x12⟩ := zc _ (Nat.lt_trans lF b.i1.g)
  obtain ⟨x21, x22⟩ := zc _ (Nat.lt_trans lF b.i2.g)
  obtain ⟨x31, x32⟩ := zc _ lF
  obtain ⟨x41, x42⟩ := zc _ C.lSe
  obtain ⟨x51, x52⟩ := zc _ b.pk.l1
  obtain ⟨x61, x62⟩ := zc _ b.pk.l2
  have y1 : @Ne Nat (L + 1 + 1 + 1 + 1 + 1 + 1 + 1 + 1 + 1 + 1 + 1 + 1 + 1) (L + 1 + 1 + 1 + 1 + 1 + 1 + 1 + 1 + 1 + 1 + 1) := Nat.ne_of_gt (Nat.add_lt_add_left (by decide : 11 < 13) L)
  have y2 : @Ne Nat (L + 1 + 1 + 1 + 1 + 1 + 1 + 1 + 1 + 1 + 1 + 1 + 1) (L + 1 + 1 + 1 + 1 + 1 + 1 + 1 + 1 + 1 + 1 + 1) := Nat.ne_of_gt (Nat.add_lt_add_left (by decide : 11 < 12) L)
  have y3 : @Ne Nat (L + 1 + 1 + 1 + 1 + 1 + 1 + 1 + 1 + 1 + 1) (L + 1 + 1 + 1 + 1 + 1 + 1 + 1 + 1 + 1 + 1 + 1) := Nat.ne_of_lt (Nat.add_lt_add_left (by decide : 10 < 11) L)
  have y4 : @Ne Nat (L + 1 + 1 + 1 + 1 + 1 + 1 + 1 + 1 + 1 + 1 + 1 + 1 + 1) (L + 1 + 1 + 1 + 1 + 1 + 1 + 1 + 1 + 1 + 1 + 1 + 1) := Nat.ne_of_gt (Nat.add_lt_add_left (by decide : 12 < 13) L)
  have y5 : @Ne Nat (L + 1 + 1 + 1 + 1 + 1 + 1 + 1 + 1 + 1 + 1 + 1) (L + 1 + 1 + 1 + 1 + 1 + 1 + 1 + 1 + 1 + 1 + 1 + 1) := Nat.ne_of_lt (Nat.add_lt_add_left (by decide : 11 < 12) L)
  have y6 : @Ne Nat (L + 1 + 1 + 1 + 1 + 1 + 1 + 1 + 1 + 1 + 1) (L + 1 + 1 + 1 + 1 + 1 + 1 + 1 + 1 + 1 + 1 + 1 + 1) := Nat.ne_of_lt (Nat.add_lt_add_left (by decide : 10 < 12) L)
  clear zc lF
  have F : Fr h₀ L s.heap (fun y => if y = Str.ofString "side" then some (.int ((j : Nat) : Int) t) else x.mx y) := fr_canon [(Str.ofString "side", _)] hP.F (List.forall_mem_cons.mpr ⟨hP.hsd, fun _ h => nomatch h⟩)
  unfold lawEnv lawLit mkLit
  unfold sideBody ringBody lawBody lawLit mkLit
  dsimp only [List.take, List.drop, List.getD, nthS, forBody, ifBody, forIter, forTarget, List.getElem?_cons_succ, List.getElem?_cons_zero, Option.getD_some]
  k_steps
  rename Fr _ _ _ _ => F1
  rename News _ _ _ _ => N1
  rename _ = Data.cell (some (Value.int (Int.fmod ((j : Nat) : Int) 6) _)) => dn11
  rename _ = Data.cell (some (Value.int (Int.fmod (((j : Nat) : Int) + 1) 6) _)) => dn12
  have g1 : ((j : Nat) : Int).fmod 6 = ((j % 6 : Nat) : Int) := fmod_nat j 6
  have g2 : (((j : Nat) : Int) + 1).fmod 6 = (((j % 6 + 1) % 6 : Nat) : Int) := by
    have := fmod_nat (j + 1) 6
    rw [show (j % 6 + 1) % 6 = (j + 1) % 6 from Nat.mod_add_mod j 6 1]
    exact this
  rw [g1] at dn11
  rw [g2] at dn12
  have Nf := news_tail N1
  rename_i n11 h9 n12
  exact hQQ _ _ ⟨rfl, _, _, rfl, n11, n12, _, _, { x with mx := frFun F1 }, mkLg Nf F1 ⟨hP.lo.found, hP.lo.short, hP.lo.wide, hP.lo.seen, hP.lo.turn, hP.lo.worths, hP.lo.letters, hP.lo.count⟩ C b.pk b.i1 b.i2 b.ox1 b.fr rfl rfl (Nat.mod_lt _ (by decide)) b.q10 dn11 dn12 b.q13⟩
end
-- text G21
section
open PySem PySem.W PySem.Calls PyProof.Rows
set_option maxRecDepth 100000
set_option maxHeartbeats 8000000
theorem SegB.ex {w : World} {α : Type} {b : List Stmt} {P : α → Heap → Addr → Heap → Prop} {Q : Heap → Addr → Heap → Prop} (h : ∀ a, SegB w b (P a) Q) : SegB w b (fun h₀ L h' => ∃ a, P a h₀ L h') Q :=
  fun hr mean mg mb h₀ L s E X T B ⟨a, hP⟩ => h a hr mean mg mb h₀ L s E X T B hP
theorem SegB.post {w : World} {b : List Stmt} {P Q R : Heap → Addr → Heap → Prop} (h : SegB w b P Q) (hq : ∀ h₀ L h', Q h₀ L h' → R h₀ L h') : SegB w b P R :=
  fun hr mean mg mb h₀ L s E X T B hP => wpAny_mono (h hr mean mg mb h₀ L s E X T B hP) (fun f s' hs => by
    obtain ⟨rfl, h', tk', rfl, hQ⟩ := hs
    exact ⟨rfl, h', tk', rfl, hq _ _ _ hQ⟩) fun _ _ e => e
theorem sideRun_cnt (N a b c turn ring : Nat) (s : St) : ∀ j, (sideRun N a b c turn ring j s).cnt ≤ s.cnt + 2 * ring * j
  | 0 => Nat.le_refl _
  | j + 1 => by
    have ih := sideRun_cnt N a b c turn ring s j
    have := farRun_cnt N (wt a b c ((turn + j) % 6)) (wt a b c (((turn + j) % 6 + 1) % 6)) ring ((turn + j) % 6) (sideRun N a b c turn ring j s) ring
    have e : (sideRun N a b c turn ring (j + 1) s) = farRun N (wt a b c ((turn + j) % 6)) (wt a b c (((turn + j) % 6 + 1) % 6)) ring ((turn + j) % 6) ring (sideRun N a b c turn ring j s) := rfl
    rw [e]
    rw [Nat.mul_succ]
    omega
theorem side_all (w : World) (v : LZ) (kk : LK) (f : LF) (o : O4) (st : St) (c11 c12 c13 : Option Value) (j : Nat) (t : Tok) (hr8 : f.ring ≤ 8) (hc : st.cnt ≤ 2900) :
    SegB w (sideBody w) (fun h₀ L h => ∃ x, Ls w v kk f o st c11 c12 c13 j t x h₀ L h)
      (fun h₀ L h => ∃ o11 o12 o13 t11 t12 c x, Lg w v kk ⟨f.ring, j % 6, f.far, j % 6, (j % 6 + 1) % 6, f.t10, t11, t12, f.t13⟩ (set3 o o11 o12 o13) (farRun v.N (wt v.a v.b (third v.N v.a v.b) (j % 6)) (wt v.a v.b (third v.N v.a v.b) ((j % 6 + 1) % 6)) f.ring (j % 6) f.ring st) c x h₀ L h) := by
  rw [sideBody_eq]
  refine @SegB.comp _ _ _ _ _ _ (@side_1 w v kk f o st c11 c12 c13 j t) (SegB.ex fun o11 => SegB.ex fun o12 => SegB.ex fun t11 => SegB.ex fun t12 => ?_)
  exact @SegB.post _ _ _ _ _ (@far_loop w v kk ⟨f.ring, j % 6, f.far, j % 6, (j % 6 + 1) % 6, f.t10, t11, t12, f.t13⟩ (set3 o o11 o12 o.o13) st c13 hr8 hc) fun h₀ L h' ⟨o13, c, x, hx⟩ => ⟨o11, o12, o13, t11, t12, c, x, hx⟩
theorem lg_lq {w : World} {v : LZ} {kk : LK} {f : LF} {o : O4} {st : St} {x : LX} {h₀ : Heap} {L : Addr} {h : Heap} {X2 j : Nat} {Y2 : Obj} {t11 t12 : Tok} {c13 : Option Value} (h' : Lg w v ⟨kk.X1, X2, kk.X3, kk.Y1, Y2, kk.Y3⟩ ⟨f.ring, j % 6, f.far, j % 6, (j % 6 + 1) % 6, f.t10, t11, t12, f.t13⟩ o st c13 x h₀ L h) : Lq w v kk f o st (some (.int ((j % 6 : Nat) : Int) t11)) (some (.int (((j % 6 + 1) % 6 : Nat) : Int) t12)) c13 x h₀ L h :=
  have b := h'.b
  ⟨h'.F, h'.lo, ⟨b.C, b.pk, b.i1, b.fr, b.q10, b.q11, b.q12, b.q13⟩, news_cut_b h'.NN⟩
theorem lg_x2 {w : World} {v : LZ} {kk : LK} {f : LF} {o : O4} {st : St} {x : LX} {h₀ : Heap} {L : Addr} {h : Heap} {X2 : Nat} {Y2 : Obj} {c13 : Option Value} (h' : Lg w v ⟨kk.X1, X2, kk.X3, kk.Y1, Y2, kk.Y3⟩ f o st c13 x h₀ L h) : h.get? X2 = some Y2 := (h'.NN (X2, Y2) (.tail _ (.head _))).1
set_option genInjectivity false
set_option genSizeOf false
structure RS where
  h : Heap
  tk : Tok
  (o11 o12 o13 : Obj)
  (c11 c12 c13 : Option Value)
  x : LX
structure IS (w : World) (v : LZ) (kk : LK) (f : LF) (o : O4) (st : St) (h₀ : Heap) (L : Addr) (s : Shared) (I : Nat) (R : RS) (s' : Shared) : Prop where
  e : s' = { s with heap := R.h, toks := R.tk }
  hx : Lq w v kk f (set3 o R.o11 R.o12 R.o13) st R.c11 R.c12 R.c13 R.x h₀ L R.h
  p1 : @Ne Nat R.x.P1 I
  p2 : @Ne Nat R.x.P2 I
theorem side_loop (w : World) : ∀ (v : LZ) (kk : LK) (f : LF) (o : O4) (st : St) (c11 c12 c13 : Option Value), f.ring ≤ 8 → st.cnt ≤ 2000 → SegB w [nthS (ringBody w) 0] (fun h₀ L h => ∃ x, Lq w v kk f o st c11 c12 c13 x h₀ L h)
    (fun h₀ L h => ∃ R : RS, Lq w v kk f (set3 o R.o11 R.o12 R.o13) (sideRun v.N v.a v.b (third v.N v.a v.b) v.tr f.ring 3 st) R.c11 R.c12 R.c13 R.x h₀ L h) := by
  intro v kk f o st c11 c12 c13 hr8 hc hrr mean mg mb h₀ L s E X T B hP
  rw [sideFor_eq]
  refine genQ fun QQ hQQ => ?_
  refine wpAny_execs_cons (wpAny_For (wpAny_mono (@side_range w v kk f o st c11 c12 c13 mean mg mb h₀ L s _ hrr X T B hP) (fun xv s' hb => ?_) fun _ _ e => e) (by unfold lawEnv ringBody lawBody lawLit mkLit; intro _; with_unfolding_all rfl))
  obtain ⟨⟨r, t0, t1, t2, h1, tk, rfl, rfl, hr, x, hx⟩⟩ := hb
  have hs := small26 hx.b.C.htr
  refine wpAny_pyIter_range hr hs.1 ?_
  obtain ⟨n1, n2, n3, n4, n5, n6⟩ := lq_new hx
  refine for_by (LCg.range_walks rfl (v.tr : Int) 3) (fun i s' => ∃ R, IS w v kk f o (sideRun v.N v.a v.b (third v.N v.a v.b) v.tr f.ring i st) h₀ L s h1.objs.size R s') ?_ ?_ ?_ ?_
    (by unfold ringBody lawBody lawLit mkLit; intro _; with_unfolding_all rfl)
  · exact ⟨⟨_, _, o.o11, o.o12, o.o13, c11, c12, c13, x⟩, rfl, lq_keep hx fun _ _ e => Heap.get?_push_of_some _ e, n5, n6⟩
  · show IsRangeIter _ _ _ _ _; rw [hs.2]; simpa using Heap.get?_push_size _ rfl
  · rintro i v' s2 h2 tk2 hlt ⟨⟨h3, tk3, o11, o12, o13, d11, d12, d13, x3⟩, rfl, hx3, p1, p2⟩ ⟨t, rfl⟩ hst hkp
    have hx2 := lq_but hx3 n1 n2 n3 n4 p1 p2 hkp
    rw [show (v.tr : Int) + (i : Int) = ((v.tr + i : Nat) : Int) from (Int.natCast_add _ _).symm]
    refine wpAny_mono (@side_assign w v kk f (set3 o o11 o12 o13) _ d11 d12 d13 h1.objs.size (v.tr + i) _ t mean mg mb h₀ L _ _ hrr X T B n3 n4 hst (Ne.symm n2) n1 ⟨x3, hx2, p1, p2⟩) (fun _ s4 h4 => ?_) fun _ _ e => e
    obtain ⟨⟨h5, tk5, x5, rfl, hx5⟩⟩ := h4
    have hcn := sideRun_cnt v.N v.a v.b (third v.N v.a v.b) v.tr f.ring st i
    have hcm : 2 * f.ring * i ≤ 16 * 3 := Nat.mul_le_mul (by omega) (by omega)
    refine wpAny_mono (@side_all w v ⟨kk.X1, h1.objs.size, kk.X3, kk.Y1, _, kk.Y3⟩ f (set3 o o11 o12 o13) (sideRun v.N v.a v.b (third v.N v.a v.b) v.tr f.ring i st) d11 d12 d13 (v.tr + i) t hr8 (Nat.le_trans hcn (by omega)) hrr mean mg mb h₀ L _ _ X T B ⟨x5, hx5⟩) (fun fl s6 h6 => ?_) fun _ _ e => e
    obtain ⟨rfl, h7, tk7, rfl, q11, q12, q13, t11, t12, cc, x7, hx7⟩ := h6
    exact ⟨⟨⟨h7, _, q11, q12, q13, _, _, _, x7⟩, rfl, lg_lq hx7, hx7.b.i2.n1, hx7.b.i2.n2⟩, lg_x2 hx7⟩
  · rintro s2 h2 tk2 ⟨⟨h3, tk3, o11, o12, o13, d11, d12, d13, x3⟩, rfl, hx3, p1, p2⟩ hkp
    exact wpAny_execs_nil (hQQ _ _ ⟨rfl, _, _, rfl, ⟨h3, tk3, o11, o12, o13, d11, d12, d13, x3⟩, lq_but hx3 n1 n2 n3 n4 p1 p2 hkp⟩)
end
-- text G22
section
open PySem PySem.W PySem.Calls PyProof.Rows
set_option maxRecDepth 100000
set_option maxHeartbeats 8000000
set_option genSizeOf false
structure Bw (w : World) (v : LZ) (k : LK) (f : LF) (o : O4) (st : St) (c10 c11 c12 c13 : Option Value) (P1 P2 : Nat) (Q1 Q2 : Obj) (fit : Array Value) (so : Obj) (L : Addr) : Prop where
  C : Ce v L
  pk : Pk w v st P1 P2 Q1 Q2 fit so L
  q10 : o.o10.data = .cell (c10)
  q11 : o.o11.data = .cell (c11)
  q12 : o.o12.data = .cell (c12)
  q13 : o.o13.data = .cell (c13)
structure Lw (w : World) (v : LZ) (k : LK) (f : LF) (o : O4) (st : St) (c10 c11 c12 c13 : Option Value) (x : LX) (h₀ : Heap) (L : Addr) (h : Heap) : Prop where
  F : Fr h₀ L h x.mx
  lo : Lo v st x.xsh x.xwi x.mx
  b : Bw w v k f o st c10 c11 c12 c13 x.P1 x.P2 x.Q1 x.Q2 x.fit x.so L
  NN : News h₀ L h ((v.Fo, listOf x.fit x.ft) :: (v.Se, x.so) :: (x.P1, x.Q1) :: (x.P2, x.Q2) :: (L + 1 + 1 + 1 + 1 + 1 + 1 + 1 + 1 + 1 + 1 + 1 + 1 + 1, o.o13) :: (L + 1 + 1 + 1 + 1 + 1 + 1 + 1 + 1 + 1 + 1 + 1 + 1, o.o12) :: (L + 1 + 1 + 1 + 1 + 1 + 1 + 1 + 1 + 1 + 1 + 1, o.o11) :: (L + 1 + 1 + 1 + 1 + 1 + 1 + 1 + 1 + 1 + 1, o.o10) :: v.led)
noncomputable def set4 (o : O4) (z a b c : Obj) : O4 := ⟨z, a, b, c⟩
theorem ringFor_eq (w : World) : nthS (lawBody w) 20 = .For (forTarget (nthS (lawBody w) 20)) (forIter (nthS (lawBody w) 20)) (ringBody w) [] (forPos (nthS (lawBody w) 20)) := by
  unfold ringBody lawBody lawLit mkLit; rfl
theorem ringBody_eq (w : World) : ringBody w = [nthS (ringBody w) 0] ++ [nthS (ringBody w) 1] := by
  unfold ringBody lawBody lawLit mkLit; rfl
theorem ring_range (w : World) : ∀ (v : LZ) (kk : LK) (f : LF) (o : O4) (st : St) (c10 c11 c12 c13 : Option Value) (mean : ExcName → Option Value) (mg mb : Str → Option Value) (h₀ : Heap) (L : Addr) (s : Shared) (E : Value → Shared → Prop),
    PySem.Challenge.rw_tp0031_01.prog = PySem.Challenge.rw_tp0031_01.prog → (kf w.params).In h₀ → Top qv (looseW qv lz) mean mg mb h₀ → Below callerA h₀ [] h₀ → (∃ x, Lw w v kk f o st c10 c11 c12 c13 x h₀ L s.heap) →
    wpAny (model PySem.Challenge.rw_tp0031_01.prog w) (callerA.deeper (lawEnv w L)) (eval (forIter (nthS (lawBody w) 20)) (lawEnv w L)) (fun xv s' => Kept (∃ r t0 t1 t2 h' tk, xv = .ref r ∧ s' = { s with heap := h', toks := tk } ∧ IsRange h' r 1 20 1 t0 t1 t2 ∧ ∃ x, Lw w v kk f o st c10 c11 c12 c13 x h₀ L h')) E s := by
  k_fill
  intro v kk f o st c10 c11 c12 c13 mean mg mb h₀ L s E hrr X T B hP
  obtain ⟨x, hP⟩ := hP
  refine genQ fun QQ hQQ => ?_
  have NN := hP.NN
  have b := hP.b
  have C := b.C
  have F : Fr h₀ L s.heap (fun y => x.mx y) := fr_canon [] hP.F (fun _ h => nomatch h)
  unfold lawEnv lawLit mkLit
  unfold lawBody lawLit mkLit
  dsimp only [List.take, List.drop, List.getD, nthS, forBody, ifBody, forIter, forTarget, List.getElem?_cons_succ, List.getElem?_cons_zero, Option.getD_some]
  k_steps
  rename IsRange _ _ _ _ _ _ _ _ => hr
  rename Fr _ _ _ _ => F1
  rename News _ _ _ _ => N1
  exact hQQ _ _ ⟨⟨_, _, _, _, _, _, rfl, rfl, hr, { x with mx := frFun F1 }, ⟨F1, ⟨hP.lo.found, hP.lo.short, hP.lo.wide, hP.lo.seen, hP.lo.turn, hP.lo.worths, hP.lo.letters, hP.lo.count⟩, b, N1⟩⟩⟩
theorem lw_keep {w : World} {v : LZ} {kk : LK} {f : LF} {o : O4} {st : St} {c10 c11 c12 c13 : Option Value} {x : LX} {h₀ : Heap} {L : Addr} {h h2 : Heap} (h' : Lw w v kk f o st c10 c11 c12 c13 x h₀ L h) (hk : ∀ b o, h.get? b = some o → h2.get? b = some o) : Lw w v kk f o st c10 c11 c12 c13 x h₀ L h2 :=
  ⟨h'.F.keeps hk, h'.lo, h'.b, h'.NN.grown hk⟩
theorem lw_new {w : World} {v : LZ} {kk : LK} {f : LF} {o : O4} {st : St} {c10 c11 c12 c13 : Option Value} {x : LX} {h₀ : Heap} {L : Addr} {h : Heap} (h' : Lw w v kk f o st c10 c11 c12 c13 x h₀ L h) : h₀.get? h.objs.size = none ∧ L ≠ h.objs.size ∧ @LT.lt Nat _ v.Fo h.objs.size ∧ @Ne Nat x.P1 h.objs.size ∧ @Ne Nat x.P2 h.objs.size := by
  have z := new_addr h'.F h'.NN
  have N := h'.NN
  exact ⟨z.1, z.2.1, Heap.lt_size (N (_, _) (.head _)).1, z.2.2 (_, _) (.tail _ (.tail _ (.head _))), z.2.2 (_, _) (.tail _ (.tail _ (.tail _ (.head _))))⟩
theorem lw_but {w : World} {v : LZ} {kk : LK} {f : LF} {o : O4} {st : St} {c10 c11 c12 c13 : Option Value} {x : LX} {h₀ : Heap} {L : Addr} {h h2 : Heap} {I : Addr} (h' : Lw w v kk f o st c10 c11 c12 c13 x h₀ L h) (h1 : h₀.get? I = none) (hL : L ≠ I) (hF : @LT.lt Nat _ v.Fo I) (hp1 : @Ne Nat x.P1 I) (hp2 : @Ne Nat x.P2 I)
    (hk : ∀ b o, b ∉ [I] → h.get? b = some o → h2.get? b = some o) : Lw w v kk f o st c10 c11 c12 c13 x h₀ L h2 :=
  ⟨fr_but h'.F h1 hL hk, h'.lo, h'.b, news_but h'.NN (h'.b.C.off hF hp1 hp2) hk⟩
theorem ring_assign (w : World) : ∀ (v : LZ) (kk : LK) (f : LF) (o : O4) (st : St) (c10 c11 c12 c13 : Option Value) (X1 ring : Nat) (Y1 : Obj) (t : Tok) (mean : ExcName → Option Value) (mg mb : Str → Option Value) (h₀ : Heap) (L : Addr) (s : Shared) (E : Value → Shared → Prop),
    PySem.Challenge.rw_tp0031_01.prog = PySem.Challenge.rw_tp0031_01.prog → (kf w.params).In h₀ → Top qv (looseW qv lz) mean mg mb h₀ → Below callerA h₀ [] h₀ → ring < 20 → @LT.lt Nat _ v.Fo X1 → s.heap.get? X1 = some Y1 → X1 ≠ L → h₀.get? X1 = none → (∃ x, Lw w v kk f o st c10 c11 c12 c13 x h₀ L s.heap ∧ @Ne Nat x.P1 X1 ∧ @Ne Nat x.P2 X1) →
    wpAny (model PySem.Challenge.rw_tp0031_01.prog w) (callerA.deeper (lawEnv w L)) (assign (forTarget (nthS (lawBody w) 20)) (lawEnv w L) (.int ((ring : Nat) : Int) t)) (fun _ s' => Kept (∃ h' tk o10 x, s' = { s with heap := h', toks := tk } ∧ Lq w v ⟨X1, kk.X2, kk.X3, Y1, kk.Y2, kk.Y3⟩ ⟨ring, f.sd, f.far, f.fst, f.snd, t, f.t11, f.t12, f.t13⟩ (set4 o o10 o.o11 o.o12 o.o13) st c11 c12 c13 x h₀ L h')) E s := by
  k_fill
  intro v kk f o st c10 c11 c12 c13 X1 ring Y1 t mean mg mb h₀ L s E hrr X T B hr hX hg hXL hX0 hP
  obtain ⟨x, hP, hp1, hp2⟩ := hP
  refine genQ fun QQ hQQ => ?_
  have NN := hP.NN
  have b := hP.b
  have C := b.C
  have e10 := C.e10
  have q10 := b.q10
  have zc : ∀ a, @LT.lt Nat _ (@HAdd.hAdd Nat Nat Nat _ L 13) a → @Ne Nat a (L + 1 + 1 + 1 + 1 + 1 + 1 + 1 + 1 + 1 + 1) := fun a h => Nat.ne_of_gt (Nat.lt_of_le_of_lt (Nat.add_le_add_left (by decide : 10 ≤ 13) L) h)
  have x1 := zc _ (Nat.lt_trans (Nat.lt_trans C.lSe C.sFo) hX)
  have x4 := zc _ (Nat.lt_trans C.lSe C.sFo)
  have x5 := zc _ C.lSe
  have x6 := zc _ b.pk.l1
  have x7 := zc _ b.pk.l2
  have y13 : @Ne Nat (L + 1 + 1 + 1 + 1 + 1 + 1 + 1 + 1 + 1 + 1 + 1 + 1 + 1) (L + 1 + 1 + 1 + 1 + 1 + 1 + 1 + 1 + 1 + 1) := Nat.ne_of_gt (Nat.add_lt_add_left (by decide : 10 < 13) L)
  have y11 : @Ne Nat (L + 1 + 1 + 1 + 1 + 1 + 1 + 1 + 1 + 1 + 1 + 1) (L + 1 + 1 + 1 + 1 + 1 + 1 + 1 + 1 + 1 + 1) := Nat.ne_of_gt (Nat.add_lt_add_left (by decide : 10 < 11) L)
  have y12 : @Ne Nat (L + 1 + 1 + 1 + 1 + 1 + 1 + 1 + 1 + 1 + 1 + 1 + 1) (L + 1 + 1 + 1 + 1 + 1 + 1 + 1 + 1 + 1 + 1) := Nat.ne_of_gt (Nat.add_lt_add_left (by decide : 10 < 12) L)
  clear zc
  have F : Fr h₀ L s.heap (fun y => x.mx y) := fr_canon [] hP.F (fun _ h => nomatch h)
  unfold lawEnv lawLit mkLit
  unfold lawBody lawLit mkLit
  dsimp only [List.take, List.drop, List.getD, nthS, forBody, ifBody, forIter, forTarget, List.getElem?_cons_succ, List.getElem?_cons_zero, Option.getD_some]
  have N0 := news_cons hg hXL hX0 NN
  clear NN
  k_steps
  rename Fr _ _ _ _ => F1
  rename News _ _ _ _ => N1
  rename _ = Data.cell (some (Value.int _ _)) => dn10
  rename Obj => n10
  exact hQQ _ _ ⟨⟨_, _, n10, { x with mx := frFun F1 }, rfl, ⟨F1, ⟨hP.lo.found, hP.lo.short, hP.lo.wide, hP.lo.seen, hP.lo.turn, hP.lo.worths, hP.lo.letters, hP.lo.count⟩, ⟨b.C, b.pk, ⟨hX, hp1, hp2⟩, hr, dn10, b.q11, b.q12, b.q13⟩, N1⟩⟩⟩
theorem ring_2 (w : World) : ∀ (v : LZ) (kk : LK) (f : LF) (o : O4) (st : St) (c11 c12 c13 : Option Value) (mean : ExcName → Option Value) (mg mb : Str → Option Value) (h₀ : Heap) (L : Addr) (s : Shared) (E : Value → Shared → Prop),
    PySem.Challenge.rw_tp0031_01.prog = PySem.Challenge.rw_tp0031_01.prog → (kf w.params).In h₀ → Top qv (looseW qv lz) mean mg mb h₀ → Below callerA h₀ [] h₀ → (∃ x, Lq w v kk f o st c11 c12 c13 x h₀ L s.heap) →
    wpAny (model PySem.Challenge.rw_tp0031_01.prog w) (callerA.deeper (lawEnv w L)) (execs [nthS (ringBody w) 1] (lawEnv w L)) (fun fl s' => Kept (fl = (if two? st.found = true then Flow.brk else Flow.next) ∧ ∃ h' tk, s' = { s with heap := h', toks := tk } ∧ ∃ x, Lq w v kk f o st c11 c12 c13 x h₀ L h')) E s := by
  k_fill
  intro v kk f o st c11 c12 c13 mean mg mb h₀ L s E hrr X T B hP
  obtain ⟨x, hP⟩ := hP
  refine genQ fun QQ hQQ => ?_
  have NN := hP.NN
  have b := hP.b
  have C := b.C
  have hfo := b.pk.hfo
  have F : Fr h₀ L s.heap (fun y => if y = Str.ofString "found" then some (.ref v.Fo) else x.mx y) := fr_canon [(Str.ofString "found", _)] hP.F (List.forall_mem_cons.mpr ⟨hP.lo.found, fun _ h => nomatch h⟩)
  generalize hfd : st.found = sfound at hfo hQQ
  have hft : ∀ fl s', ((fl = (if two? sfound = true then Flow.brk else Flow.next)) ∧ ∃ h' tk, s' = { s with heap := h', toks := tk } ∧ ∃ x, Lq w v kk f o st c11 c12 c13 x h₀ L h') → QQ fl s' := fun fl s' h => hQQ fl s' ⟨h⟩
  generalize hfx : x.fit = fit at hfo NN
  unfold lawEnv lawLit mkLit
  unfold ringBody lawBody lawLit mkLit
  dsimp only [List.take, List.drop, List.getD, nthS, forBody, ifBody, forIter, forTarget, List.getElem?_cons_succ, List.getElem?_cons_zero, Option.getD_some]
  rcases sfound with _ | ⟨p, _ | ⟨q, _ | ⟨r, l⟩⟩⟩
  · replace hfo : fit = #[] := hfo
    rw [hfo] at hfx NN
    k_steps
    rename Fr _ _ _ _ => F1
    rename News _ _ _ _ => N1
    rw [← hfx] at N1
    exact hft _ _ ⟨rfl, _, _, rfl, { x with mx := frFun F1 }, ⟨F1, ⟨rfl, hP.lo.short, hP.lo.wide, hP.lo.seen, hP.lo.turn, hP.lo.worths, hP.lo.letters, hP.lo.count⟩, b, N1⟩⟩
  · have hfo := hfo.1
    rw [hfo] at hfx NN
    k_steps
    rename Fr _ _ _ _ => F1
    rename News _ _ _ _ => N1
    rw [← hfx] at N1
    exact hft _ _ ⟨rfl, _, _, rfl, { x with mx := frFun F1 }, ⟨F1, ⟨rfl, hP.lo.short, hP.lo.wide, hP.lo.seen, hP.lo.turn, hP.lo.worths, hP.lo.letters, hP.lo.count⟩, b, N1⟩⟩
  · have hfo := hfo.1
    rw [hfo] at hfx NN
    k_steps
    rename Fr _ _ _ _ => F1
    rename News _ _ _ _ => N1
    rw [← hfx] at N1
    exact hft _ _ ⟨rfl, _, _, rfl, { x with mx := frFun F1 }, ⟨F1, ⟨rfl, hP.lo.short, hP.lo.wide, hP.lo.seen, hP.lo.turn, hP.lo.worths, hP.lo.letters, hP.lo.count⟩, b, N1⟩⟩
  · exact hfo.elim
end
-- text G23
section
open PySem PySem.W PySem.Calls PyProof.Rows
set_option maxRecDepth 100000
set_option maxHeartbeats 8000000
theorem lq_lw {w : World} {v : LZ} {kk : LK} {f : LF} {o : O4} {st : St} {x : LX} {h₀ : Heap} {L : Addr} {h : Heap} {X1 ring : Nat} {Y1 : Obj} {t : Tok} {c11 c12 c13 : Option Value} (h' : Lq w v ⟨X1, kk.X2, kk.X3, Y1, kk.Y2, kk.Y3⟩ ⟨ring, f.sd, f.far, f.fst, f.snd, t, f.t11, f.t12, f.t13⟩ o st c11 c12 c13 x h₀ L h) : Lw w v kk f o st (some (.int ((ring : Nat) : Int) t)) c11 c12 c13 x h₀ L h :=
  have b := h'.b
  ⟨h'.F, h'.lo, ⟨b.C, b.pk, b.q10, b.q11, b.q12, b.q13⟩, news_tail h'.NN⟩
theorem lq_x1 {w : World} {v : LZ} {kk : LK} {f : LF} {o : O4} {st : St} {x : LX} {h₀ : Heap} {L : Addr} {h : Heap} {X1 : Nat} {Y1 : Obj} {c11 c12 c13 : Option Value} (h' : Lq w v ⟨X1, kk.X2, kk.X3, Y1, kk.Y2, kk.Y3⟩ f o st c11 c12 c13 x h₀ L h) : h.get? X1 = some Y1 := (h'.NN (X1, Y1) (.head _)).1
theorem go_step {N a b c turn k ring : Nat} {s : St} (h : go N a b c turn k ring s = true) : ∃ k', k = k' + 1 ∧ ((two? (sideRun N a b c turn ring 3 s).found = true ∧ check N a b (sideRun N a b c turn ring 3 s) = true) ∨ (two? (sideRun N a b c turn ring 3 s).found = false ∧ go N a b c turn k' (ring + 1) (sideRun N a b c turn ring 3 s) = true)) := by
  cases k with
  | zero => cases h
  | succ k' =>
    refine ⟨k', rfl, ?_⟩
    unfold go at h
    cases ht : two? (sideRun N a b c turn ring 3 s).found with
    | true => rw [ht] at h; exact .inl ⟨rfl, h⟩
    | false => rw [ht] at h; exact .inr ⟨rfl, h⟩
set_option genInjectivity false
set_option genSizeOf false
structure RR where
  h : Heap
  tk : Tok
  st : St
  o : O4
  (c10 c11 c12 c13 : Option Value)
  x : LX
structure IR (w : World) (v : LZ) (kk : LK) (f : LF) (i : Nat) (h₀ : Heap) (L : Addr) (s : Shared) (I : Nat) (R : RR) (s' : Shared) : Prop where
  e : s' = { s with heap := R.h, toks := R.tk }
  hx : Lw w v kk f R.o R.st R.c10 R.c11 R.c12 R.c13 R.x h₀ L R.h
  hg : go v.N v.a v.b (third v.N v.a v.b) v.tr (8 - i) (i + 1) R.st = true
  hcn : R.st.cnt ≤ 1 + 48 * i
  p1 : @Ne Nat R.x.P1 I
  p2 : @Ne Nat R.x.P2 I
theorem ring_loop (w : World) : ∀ (v : LZ) (kk : LK) (f : LF) (o : O4) (st : St) (c10 c11 c12 c13 : Option Value), go v.N v.a v.b (third v.N v.a v.b) v.tr 8 1 st = true → st.cnt ≤ 1 → SegB w [nthS (lawBody w) 20] (fun h₀ L h => ∃ x, Lw w v kk f o st c10 c11 c12 c13 x h₀ L h)
    (fun h₀ L h => ∃ R : RR, check v.N v.a v.b R.st = true ∧ Lw w v kk f R.o R.st R.c10 R.c11 R.c12 R.c13 R.x h₀ L h) := by
  intro v kk f o st c10 c11 c12 c13 hgo hc hrr mean mg mb h₀ L s E X T B hP
  rw [ringFor_eq]
  refine genQ fun QQ hQQ => ?_
  refine wpAny_execs_cons (wpAny_For (wpAny_mono (@ring_range w v kk f o st c10 c11 c12 c13 mean mg mb h₀ L s _ hrr X T B hP) (fun xv s' hb => ?_) fun _ _ e => e) (by unfold lawEnv lawBody lawLit mkLit; intro _; with_unfolding_all rfl))
  obtain ⟨⟨r, t0, t1, t2, h1, tk, rfl, rfl, hr, x, hx⟩⟩ := hb
  refine wpAny_pyIter_range hr (by decide +kernel) ?_
  obtain ⟨n1, n2, n3, n5, n6⟩ := lw_new hx
  refine for_by (LCg.range_walks rfl 1 19) (fun i s' => ∃ R, IR w v kk f i h₀ L s h1.objs.size R s') ?_ ?_ ?_ ?_
    (by unfold lawBody lawLit mkLit; intro _; with_unfolding_all rfl)
  · exact ⟨⟨_, _, st, o, c10, c11, c12, c13, x⟩, rfl, lw_keep hx fun _ _ e => Heap.get?_push_of_some _ e, hgo, hc, n5, n6⟩
  · show IsRangeIter _ _ _ _ _
    have e19 : Builtin.Range.rangeSize 1 20 1 = ((19 : Nat) : Int) := by decide +kernel
    rw [e19]; simpa using Heap.get?_push_size _ rfl
  · rintro i v' s2 h2 tk2 hlt ⟨⟨h3, tk3, st', o', d10, d11, d12, d13, x3⟩, rfl, hx3, hg, hcn, p1, p2⟩ ⟨t, rfl⟩ hst hkp
    have hx2 := lw_but hx3 n1 n2 n3 p1 p2 hkp
    replace hcn : st'.cnt ≤ 1 + 48 * i := hcn
    obtain ⟨k', hk', hgs⟩ := go_step hg
    rw [show (1 : Int) + (i : Int) = ((i + 1 : Nat) : Int) by omega]
    refine wpAny_mono (@ring_assign w v kk f o' st' d10 d11 d12 d13 h1.objs.size (i + 1) _ t mean mg mb h₀ L _ _ hrr X T B (by omega) n3 hst (Ne.symm n2) n1 ⟨x3, hx2, p1, p2⟩) (fun _ s4 h4 => ?_) fun _ _ e => e
    obtain ⟨⟨h5, tk5, q10, x5, rfl, hx5⟩⟩ := h4
    have hcs := sideRun_cnt v.N v.a v.b (third v.N v.a v.b) v.tr (i + 1) st' 3
    rw [ringBody_eq]
    refine execs_append _ (wpAny_mono (@side_loop w v ⟨h1.objs.size, kk.X2, kk.X3, _, kk.Y2, kk.Y3⟩ ⟨i + 1, f.sd, f.far, f.fst, f.snd, t, f.t11, f.t12, f.t13⟩ _ st' d11 d12 d13 (show i + 1 ≤ 8 by omega) (by omega) hrr mean mg mb h₀ L _ _ X T B ⟨x5, hx5⟩) (fun fl s6 h6 => ?_) fun _ _ e => e)
    obtain ⟨rfl, h7, tk7, rfl, ⟨_, _, r11, r12, r13, e11, e12, e13, x7⟩, hx7⟩ := h6
    refine wpAny_mono (@ring_2 w v _ _ _ _ e11 e12 e13 mean mg mb h₀ L _ _ hrr X T B ⟨x7, hx7⟩) (fun fl s8 h8 => ?_) fun _ _ e => e
    obtain ⟨⟨hfl, h9, tk9, rfl, x9, hx9⟩⟩ := h8
    rcases hgs with ⟨ht, hch⟩ | ⟨ht, hgo'⟩
    · rw [if_pos ht] at hfl
      subst hfl
      exact wpAny_execs_nil (hQQ _ _ ⟨rfl, _, _, rfl, ⟨h9, tk9, _, _, _, _, _, _, x9⟩, hch, lq_lw hx9⟩)
    · rw [if_neg (by rw [ht]; decide)] at hfl
      subst hfl
      refine ⟨⟨⟨_, _, _, _, _, _, _, _, x9⟩, rfl, lq_lw hx9, ?_, ?_, hx9.b.i1.n1, hx9.b.i1.n2⟩, lq_x1 hx9⟩
      · rw [show 8 - (i + 1) = k' by omega]; exact hgo'
      · exact Nat.le_trans hcs (by omega)
  · rintro s2 h2 tk2 ⟨⟨h3, tk3, st', o', d10, d11, d12, d13, x3⟩, rfl, hx3, hg, hcn, p1, p2⟩ hkp
    obtain ⟨k', hk', _⟩ := go_step hg
    omega
end
-- text G24
section
open PySem PySem.W PySem.Calls PyProof.Rows
set_option maxRecDepth 100000
set_option maxHeartbeats 8000000
theorem hasI_zero : (fun k' : Int => false || decide (k' = 0)) = hasI 1 := by
  have h := hasI_add 0 0
  rw [show addB 0 0 = 1 from rfl] at h
  rw [← h]
  funext k'
  have : hasI 0 k' = false := by
    unfold hasI hasB
    rw [show Nat.shiftRight 0 k'.toNat = 0 from Nat.zero_shiftRight _]
    simp
    intro _; rfl
  rw [this]; rfl
theorem news_ins {g h : Heap} {L : Addr} {a b q : Addr × Obj} {r : List (Addr × Obj)} (N : News g L h (a :: b :: r)) (hq : q ∈ r) : News g L h (a :: b :: q :: q :: r) := fun p hp => by
  rcases List.mem_cons.mp hp with rfl | hp
  · exact N _ (.head _)
  rcases List.mem_cons.mp hp with rfl | hp
  · exact N _ (.tail _ (.head _))
  rcases List.mem_cons.mp hp with rfl | hp
  · exact N _ (.tail _ (.tail _ hq))
  rcases List.mem_cons.mp hp with rfl | hp
  · exact N _ (.tail _ (.tail _ hq))
  · exact N _ (.tail _ (.tail _ hp))
theorem news_ups4 {h₀ h : Heap} {L : Addr} {C : Nat} {a b c d : Obj} {led : List (Addr × Obj)} (N : News h₀ L h (ups C [a, b, c, d] ++ led)) : News h₀ L h ((C + 1 + 1 + 1, d) :: (C + 1 + 1, c) :: (C + 1, b) :: (C, a) :: led) :=
  List.forall_mem_cons.mpr ⟨N _ (.tail _ (.tail _ (.tail _ (.head _)))), List.forall_mem_cons.mpr ⟨N _ (.tail _ (.tail _ (.head _))), List.forall_mem_cons.mpr ⟨N _ (.tail _ (.head _)), List.forall_mem_cons.mpr ⟨N _ (.head _), fun p hp => N p (.tail _ (.tail _ (.tail _ (.tail _ hp))))⟩⟩⟩⟩
theorem list4 {α : Type} : ∀ {r : List α}, r.length = 4 → ∃ a b c d, r = [a, b, c, d]
  | [a, b, c, d], _ => ⟨a, b, c, d, rfl⟩
theorem t9_z {v : LZ} {r : List Obj} {h₀ : Heap} {L : Addr} {h : Heap} (hP : T9 v r h₀ L h) : ∃ o : O4, Ct v L ∧ News h₀ L h ((L + 1 + 1 + 1 + 1 + 1 + 1 + 1 + 1 + 1 + 1 + 1 + 1 + 1, o.o13) :: (L + 1 + 1 + 1 + 1 + 1 + 1 + 1 + 1 + 1 + 1 + 1 + 1, o.o12) :: (L + 1 + 1 + 1 + 1 + 1 + 1 + 1 + 1 + 1 + 1 + 1, o.o11) :: (L + 1 + 1 + 1 + 1 + 1 + 1 + 1 + 1 + 1 + 1, o.o10) :: v.led) ∧ o.o10.data = .cell none ∧ o.o11.data = .cell none ∧ o.o12.data = .cell none ∧ o.o13.data = .cell none := by
  have U := hP.U
  have hr : r.length = 4 := Nat.add_left_cancel (n := L + 10) U.len
  have C : Ct v L := ⟨hP.mD4, hP.mD3, hP.mS0, hP.mS1, hP.mS2, hP.mS3, hP.mS4, hP.mS5, hP.mD2, hP.mD1, hP.mW1, hP.mA, hP.m1, hP.m2, hP.m3, hP.m4, hP.m5, hP.m6, hP.m7, hP.m8, hP.m9, hP.q1, hP.q2, hP.q3, hP.q4, hP.q5, hP.q6, hP.q7, hP.q8, hP.q9, fun p hp => (U.far p hp).elim (fun e => Nat.ne_of_lt (Nat.lt_of_lt_of_le e (Nat.add_le_add_left (by decide : 10 ≤ 10) L))) fun e => Nat.ne_of_gt (Nat.lt_of_le_of_lt (Nat.add_le_add_left (by decide : 10 ≤ 13) L) e), fun p hp => (U.far p hp).elim (fun e => Nat.ne_of_lt (Nat.lt_of_lt_of_le e (Nat.add_le_add_left (by decide : 10 ≤ 11) L))) fun e => Nat.ne_of_gt (Nat.lt_of_le_of_lt (Nat.add_le_add_left (by decide : 11 ≤ 13) L) e), fun p hp => (U.far p hp).elim (fun e => Nat.ne_of_lt (Nat.lt_of_lt_of_le e (Nat.add_le_add_left (by decide : 10 ≤ 12) L))) fun e => Nat.ne_of_gt (Nat.lt_of_le_of_lt (Nat.add_le_add_left (by decide : 12 ≤ 13) L) e), fun p hp => (U.far p hp).elim (fun e => Nat.ne_of_lt (Nat.lt_of_lt_of_le e (Nat.add_le_add_left (by decide : 10 ≤ 13) L))) fun e => Nat.ne_of_gt (Nat.lt_of_le_of_lt (Nat.add_le_add_left (by decide : 13 ≤ 13) L) e), hP.lD1, hP.hd, hP.H, hP.HL, hP.htr, hP.hwh, hP.hve⟩
  clear hP
  obtain ⟨a, b, c, d, rfl⟩ := list4 hr
  exact ⟨⟨a, b, c, d⟩, C, news_ups4 U.NN, U.un a (.head _), U.un b (.tail _ (.head _)), U.un c (.tail _ (.tail _ (.head _))), U.un d (.tail _ (.tail _ (.tail _ (.head _))))⟩
noncomputable def PL (w : World) (h₀ : Heap) (L : Addr) (h : Heap) : Prop := ∃ v kk f o x, Lw w v kk f o st0 none none none none x h₀ L h
theorem Ct.at {v v' : LZ} {L : Addr} (C : Ct v L) (S F : Nat) (e : v' = { v with Se := S, Fo := F }) : Ct v' L := by
  subst e
  exact ⟨C.mD4, C.mD3, C.mS0, C.mS1, C.mS2, C.mS3, C.mS4, C.mS5, C.mD2, C.mD1, C.mW1, C.mA, C.m1, C.m2, C.m3, C.m4, C.m5, C.m6, C.m7, C.m8, C.m9, C.q1, C.q2, C.q3, C.q4, C.q5, C.q6, C.q7, C.q8, C.q9, C.e10, C.e11, C.e12, C.e13, C.lD1, C.hd, C.H, C.HL, C.htr, C.hwh, C.hve⟩
theorem seg_s (w : World) : Seg w 16 4 T9' (PL w) := by
  unfold Seg
  k_fill
  intro _ mean mg mb h₀ L s E X T B hP
  obtain ⟨z, r, hP⟩ := hP
  obtain ⟨o, C, NN, q10, q11, q12, q13⟩ := t9_z hP
  refine genQ fun QQ hQQ => ?_
  obtain ⟨mm, F, m1, m2, m3, m4⟩ : ∃ mm, Fr h₀ L s.heap mm ∧ mm (Str.ofString "turn") = some (.int ((z.tr : Nat) : Int) z.tt) ∧ mm (Str.ofString "worths") = some (.ref z.D4) ∧ mm (Str.ofString "letters") = some (.ref z.D1) ∧ mm (Str.ofString "count") = some (.int ((z.N / gcd3 z.N z.a z.b : Nat) : Int) z.u4) := ⟨_, hP.F, hP.z_turn, hP.z_worths, hP.z_letters, hP.z_count⟩
  clear hP
  unfold lawEnv lawBody lawLit mkLit
  dsimp only [List.drop, List.take]
  k_steps
  rename Fr _ _ _ _ => F1
  rename News _ _ _ _ => N1
  rename Obj.SetObjOf _ _ _ (0 + 1) => hset1
  rw [hasI_zero] at hset1
  rename_i Se h6 led hs hz l1 h5 so h4 tk4 h3 h2 Fo h1 l2 h9
  have C' : Ce { z with Se := Se, Fo := Fo } L := ⟨C.at Se Fo rfl, lt_of_allLt l1.2.2.2.2, l1.1, l2.1⟩
  have hD1 := C'.hs _ C'.mD1
  have hq := (N1 (z.D1, _) (.tail _ (.tail _ (.tail _ (.tail _ (.tail _ (.tail _ C.mD1)))))))
  exact hQQ _ _ ⟨rfl, _, _, rfl, { z with Se := Se, Fo := Fo }, ⟨0, 0, 0, so, so, so⟩, ⟨0, 0, 0, 0, 0, 0, 0, 0, 0⟩, ⟨o.o10, o.o11, o.o12, o.o13⟩,
    ⟨frFun F1, so, _, _, z.D1, z.D1, 0, #[], _, _, 0, 0, 0, 0, 0, 0, 0, 0, 0, 0, 0, 0, 0, 0, 0⟩, ⟨F1, ⟨rfl, rfl, rfl, rfl, m1, m2, m3, m4⟩,
    ⟨C', ⟨C.lD1, Nat.ne_of_lt hD1, Nat.ne_of_lt (Nat.lt_trans hD1 C'.sFo), C.lD1, Nat.ne_of_lt hD1, Nat.ne_of_lt (Nat.lt_trans hD1 C'.sFo), hset1, rfl⟩, q10, q11, q12, q13⟩, news_ins N1 (.tail _ (.tail _ (.tail _ (.tail _ C.mD1))))⟩⟩
end
-- text G25
section
open PySem PySem.W PySem.Calls PyProof.Rows
set_option maxRecDepth 100000
set_option maxHeartbeats 8000000
set_option genSizeOf false
structure Chk (N a b : Nat) (st : St) (mN nN : Nat) (X Y U V : Int) : Prop where
  c1 : N / gcd3 N a b ≤ mN * nN
  c2 : 3 * mN * nN ≤ 4 * (N / gcd3 N a b)
  c3 : (X * V - Y * U).natAbs = N / gcd3 N a b
  c4 : nN ≤ 2 * st.wide + 1
  c5 : 2 * st.wide ≤ mN + nN
  c6 : st.short ≤ 3
  c7 : ((a : Int) * X + (b : Int) * Y) % (N : Int) = 0
  c8 : ((a : Int) * U + (b : Int) * V) % (N : Int) = 0
  m9 : mN < 9
  n9 : nN < 9
  bX : -11 < X ∧ X < 11
  bY : -11 < Y ∧ Y < 11
  bU : -11 < U ∧ U < 11
  bV : -11 < V ∧ V < 11
theorem ptxy_lt {p : Txt3} (h : p.1 < 9 ∧ p.2.2 < p.1 ∧ p.2.1 < 6) : (-11 < ptx p ∧ ptx p < 11) ∧ (-11 < pty p ∧ pty p < 11) := by
  obtain ⟨r, s, f⟩ := p
  have := pt_lt (s := s) (r := r) (f := f) h.1 h.2.1
  unfold ptx pty
  constructor <;> constructor <;> omega
theorem chk_of {N a b : Nat} {st : St} (h : check N a b st = true) : ∃ p q, st.found = [p, q] ∧ st.cnt = N / gcd3 N a b ∧ ((p.1 < 9 ∧ p.2.2 < p.1 ∧ p.2.1 < 6) → (q.1 < 9 ∧ q.2.2 < q.1 ∧ q.2.1 < 6) → Chk N a b st p.1 q.1 (ptx p) (pty p) (ptx q) (pty q)) := by
  unfold check at h
  split at h
  · rename_i p q hf
    simp only [Bool.and_eq_true, Nat.beq_eq, Nat.ble_eq] at h
    obtain ⟨⟨⟨⟨⟨⟨⟨⟨h1, h2⟩, h3⟩, h4⟩, h5⟩, h6⟩, h7⟩, h8⟩, h9⟩ := h
    refine ⟨p, q, hf, h1, fun hp hq => ⟨h2, h3, h4, h5, h6, h7, by omega, by omega, hp.1, hq.1, (ptxy_lt hp).1, (ptxy_lt hp).2, (ptxy_lt hq).1, (ptxy_lt hq).2⟩⟩
  · cases h
structure Le (v : LZ) (st : St) (mN nN : Nat) (X Y U V : Int) (x : LX) (h₀ : Heap) (L : Addr) (h : Heap) : Prop where
  F : Fr h₀ L h x.mx
  C : Ct v L
  z_m : x.mx (Str.ofString "m") = some (.int ((mN : Nat) : Int) x.xr)
  z_n : x.mx (Str.ofString "n") = some (.int ((nN : Nat) : Int) x.xt)
  z_x : x.mx (Str.ofString "x") = some (.int X x.v0)
  z_y : x.mx (Str.ofString "y") = some (.int Y x.v1)
  z_u : x.mx (Str.ofString "u") = some (.int U x.v2)
  z_v : x.mx (Str.ofString "v") = some (.int V x.th)
  z_wide : x.mx (Str.ofString "wide") = some (.int ((st.wide : Nat) : Int) x.xwi)
  z_short : x.mx (Str.ofString "short") = some (.int ((st.short : Nat) : Int) x.xsh)
  z_count : x.mx (Str.ofString "count") = some (.int ((v.N / gcd3 v.N v.a v.b : Nat) : Int) v.u4)
  NN : News h₀ L h (v.led)
local macro_rules | `(tactic| walk_at "call builtin:len") => `(tactic| refine Mine.stop ?_)
theorem seg_21 (w : World) : ∀ (v : LZ) (kk : LK) (f : LF) (o : O4) (st : St) (c10 c11 c12 c13 : Option Value), check v.N v.a v.b st = true → Seg w 21 1 (fun h₀ L h => ∃ x, Lw w v kk f o st c10 c11 c12 c13 x h₀ L h) (fun h₀ L h => ∃ x, Lw w v kk f o st c10 c11 c12 c13 x h₀ L h) := by
  unfold Seg
  k_fill
  intro v kk f o st c10 c11 c12 c13 hck hrr mean mg mb h₀ L s E X T B hP
  obtain ⟨p, q, hf, hcn, _⟩ := chk_of hck
  clear hck
  obtain ⟨x, hP⟩ := hP
  refine genQ fun QQ hQQ => ?_
  have NN := hP.NN
  have b := hP.b
  have C := b.C
  have hset := b.pk.hset
  have hfo := b.pk.hfo
  have H := C.H
  have eS := C.eS
  have fs := C.fs
  have ps1 := b.pk.s1
  have ps2 := b.pk.s2
  have cs10 := C.cs10
  have cs11 := C.cs11
  have cs12 := C.cs12
  have cs13 := C.cs13
  have F : Fr h₀ L s.heap (fun y => if y = Str.ofString "found" then some (.ref v.Fo) else if y = Str.ofString "count" then some (.int ((v.N / gcd3 v.N v.a v.b : Nat) : Int) v.u4) else if y = Str.ofString "seen" then some (.ref v.Se) else x.mx y) := fr_canon [(Str.ofString "found", _), (Str.ofString "count", _), (Str.ofString "seen", _)] hP.F (List.forall_mem_cons.mpr ⟨hP.lo.found, List.forall_mem_cons.mpr ⟨hP.lo.count, List.forall_mem_cons.mpr ⟨hP.lo.seen, fun _ h => nomatch h⟩⟩⟩)
  unfold lawEnv lawLit mkLit
  unfold lawBody lawLit mkLit
  dsimp only [List.take, List.drop]
  rw [hf] at hfo
  obtain ⟨hfit, hT1, hT2⟩ := hfo
  generalize hfx : x.fit = fit at hfit NN
  subst hfit
  have hcn' : v.N / gcd3 v.N v.a v.b ≤ 16 := Nat.le_trans (Nat.div_le_self _ _) H.n16
  rw [hcn] at hset
  k_steps
  refine ⟨?_⟩
  refine call_len_list (NN.isList (by k_mem)) (by show ((2 : Nat) : Int) < 2 ^ 63; decide) ?_
  rw [show (((#[Value.ref x.P1, Value.ref x.P2] : Array Value).size : Nat) : Int) = (2 : Int) from rfl]
  k_steps
  refine ⟨?_⟩
  k_dflt (refine' kse_len (knd := PySem.intKind _ _) ?N ?U ?d ?z ?_; (case N => k_asm); (case U => k_updF); (case d => k_asm); (case z => omega))
  k_steps
  · rename (_ : Int) ≠ _ => hx
    exact absurd rfl hx
  rename Fr _ _ _ _ => F1
  rename News _ _ _ _ => N1
  rw [← hfx] at N1
  exact hQQ _ _ ⟨rfl, _, _, rfl, { x with mx := frFun F1 }, ⟨F1, ⟨rfl, hP.lo.short, hP.lo.wide, rfl, hP.lo.turn, hP.lo.worths, hP.lo.letters, rfl⟩, b, N1⟩⟩
theorem seg_22 (w : World) : ∀ (v : LZ) (kk : LK) (f : LF) (o : O4) (st : St) (c10 c11 c12 c13 : Option Value), check v.N v.a v.b st = true → Seg w 22 2 (fun h₀ L h => ∃ x, Lw w v kk f o st c10 c11 c12 c13 x h₀ L h) (fun h₀ L h => ∃ mN nN X Y U V x, Chk v.N v.a v.b st mN nN X Y U V ∧ Le v st mN nN X Y U V x h₀ L h) := by
  unfold Seg
  k_fill
  intro v kk f o st c10 c11 c12 c13 hck hrr mean mg mb h₀ L s E X T B hP
  obtain ⟨p, q, hf, hcn, hchk⟩ := chk_of hck
  clear hck hcn
  obtain ⟨x, hP⟩ := hP
  refine genQ fun QQ hQQ => ?_
  have NN := hP.NN
  have b := hP.b
  have C := b.C
  have hfo := b.pk.hfo
  have F : Fr h₀ L s.heap (fun y => if y = Str.ofString "found" then some (.ref v.Fo) else x.mx y) := fr_canon [(Str.ofString "found", _)] hP.F (List.forall_mem_cons.mpr ⟨hP.lo.found, fun _ h => nomatch h⟩)
  rw [hf] at hfo
  obtain ⟨hfit, ⟨hv1, z1', z2', z3', z4', hq1⟩, ⟨hv2, z5', z6', z7', z8', hq2⟩⟩ := hfo
  rw [hfit, hq1, hq2] at NN
  replace hchk := hchk hv1 hv2
  have NT : News h₀ L s.heap ((v.Fo, listOf #[.ref x.P1, .ref x.P2] x.ft) :: (x.P1, _) :: (x.P2, _) :: v.led) := List.forall_mem_cons.mpr ⟨NN _ (.head _), List.forall_mem_cons.mpr ⟨NN _ (.tail _ (.tail _ (.head _))), List.forall_mem_cons.mpr ⟨NN _ (.tail _ (.tail _ (.tail _ (.head _)))), fun p hp => NN p (.tail _ (.tail _ (.tail _ (.tail _ (.tail _ (.tail _ (.tail _ (.tail _ hp))))))))⟩⟩⟩
  clear NN hfit hq1 hq2 hv1 hv2 hf
  unfold lawEnv lawLit mkLit
  unfold lawBody lawLit mkLit
  dsimp only [List.take, List.drop]
  k_steps
  rename Fr _ _ _ _ => F1
  rename News _ _ _ _ => N1
  exact hQQ _ _ ⟨rfl, _, _, rfl, _, _, _, _, _, _, { x with mx := frFun F1, xr := _, xt := _, v0 := _, v1 := _, v2 := _, th := _ }, hchk, ⟨F1, C.toCt, rfl, rfl, rfl, rfl, rfl, rfl, hP.lo.wide, hP.lo.short, hP.lo.count, news_tail (news_tail (news_tail N1))⟩⟩
end
-- text G26
section
open PySem PySem.W PySem.Calls PyProof.Rows
set_option maxRecDepth 100000
set_option maxHeartbeats 8000000
theorem bitsZ {x : Int} (h : -33 < x ∧ x < 33) : Builtin.Int.intBits x ≤ 64 := by
  have : ((List.range 66).all fun a => decide (Builtin.Int.intBits ((a : Int) - 33) ≤ 64)) = true := by decide +kernel
  have := of_decide_eq_true (List.all_eq_true.mp this (x + 33).toNat (List.mem_range.mpr (by omega)))
  rwa [show (((x + 33).toNat : Nat) : Int) - 33 = x by omega] at this
theorem abs_nat (z : Int) : (if z < 0 then -z else z) = (z.natAbs : Int) := by split <;> omega
local macro_rules | `(tactic| walk_at "binaryOp Mult int int") => `(tactic| refine Mine.stop ?_)
local macro_rules | `(tactic| walk_at "compareOp LtE int int") => `(tactic| refine Mine.stop ?_)
local macro_rules | `(tactic| walk_at "compareOp Eq int int") => `(tactic| refine Mine.stop ?_)
theorem seg_24 (w : World) : ∀ (v : LZ) (st : St) (mN nN : Nat) (X Y U V : Int), Chk v.N v.a v.b st mN nN X Y U V → Seg w 24 1 (fun h₀ L h => ∃ x, Le v st mN nN X Y U V x h₀ L h) (fun h₀ L h => ∃ x, Le v st mN nN X Y U V x h₀ L h) := by
  unfold Seg
  k_fill
  intro v st mN nN X Y U V hck hrr mean mg mb h₀ L s E X0 T B hP
  obtain ⟨x, hP⟩ := hP
  refine genQ fun QQ hQQ => ?_
  have NN := hP.NN
  have C := hP.C
  have F : Fr h₀ L s.heap (fun y => if y = Str.ofString "count" then some (.int ((v.N / gcd3 v.N v.a v.b : Nat) : Int) v.u4) else if y = Str.ofString "m" then some (.int ((mN : Nat) : Int) x.xr) else if y = Str.ofString "n" then some (.int ((nN : Nat) : Int) x.xt) else if y = Str.ofString "x" then some (.int X x.v0) else if y = Str.ofString "y" then some (.int Y x.v1) else if y = Str.ofString "u" then some (.int U x.v2) else if y = Str.ofString "v" then some (.int V x.th) else x.mx y) := fr_canon [(Str.ofString "count", _), (Str.ofString "m", _), (Str.ofString "n", _), (Str.ofString "x", _), (Str.ofString "y", _), (Str.ofString "u", _), (Str.ofString "v", _)] hP.F (List.forall_mem_cons.mpr ⟨hP.z_count, List.forall_mem_cons.mpr ⟨hP.z_m, List.forall_mem_cons.mpr ⟨hP.z_n, List.forall_mem_cons.mpr ⟨hP.z_x, List.forall_mem_cons.mpr ⟨hP.z_y, List.forall_mem_cons.mpr ⟨hP.z_u, List.forall_mem_cons.mpr ⟨hP.z_v, fun _ h => nomatch h⟩⟩⟩⟩⟩⟩⟩)
  unfold lawEnv lawLit mkLit
  unfold lawBody lawLit mkLit
  dsimp only [List.take, List.drop]
  obtain ⟨c1, c2, c3, c4, c5, c6, c7, c8, m9, n9, bX, bY, bU, bV⟩ := hck
  have e1 : (((v.N / gcd3 v.N v.a v.b : Nat) : Int) ≤ (mN : Int) * (nN : Int)) := by rw [← Int.natCast_mul]; omega
  have e2 : ((3 : Int) * (mN : Int) * (nN : Int) ≤ 4 * ((v.N / gcd3 v.N v.a v.b : Nat) : Int)) := by
    have := Int.ofNat_le.mpr c2
    rw [Int.natCast_mul, Int.natCast_mul, Int.natCast_mul] at this
    exact this
  k_steps
  refine ⟨?_⟩
  refine PyProof.Rows.mul_int ?_ (.of_left (bits32 (by omega)))
  k_steps
  refine ⟨?_⟩
  refine PyProof.Rows.le_int ?_
  rw [decide_eq_true e1]
  k_steps
  refine ⟨?_⟩
  refine PyProof.Rows.mul_int ?_ (.of_right (bits32 (by omega)))
  k_steps
  refine ⟨?_⟩
  refine PyProof.Rows.mul_int ?_ (.of_right (bits32 (by omega)))
  k_steps
  refine ⟨?_⟩
  refine PyProof.Rows.mul_int ?_ (.of_left (by decide))
  k_steps
  refine ⟨?_⟩
  refine PyProof.Rows.le_int ?_
  rw [decide_eq_true e2]
  k_steps
  refine ⟨?_⟩
  refine PyProof.Rows.mul_int ?_ (.of_left (bitsZ (by omega)))
  k_steps
  refine ⟨?_⟩
  refine PyProof.Rows.mul_int ?_ (.of_left (bitsZ (by omega)))
  k_steps
  refine ⟨?_⟩
  rw [abs_nat, c3]
  refine PyProof.Rows.eq_int ?_
  rw [beq_self_eq_true]
  k_steps
  rename Fr _ _ _ _ => F1
  rename News _ _ _ _ => N1
  exact hQQ _ _ ⟨rfl, _, _, rfl, { x with mx := frFun F1 }, ⟨F1, C, rfl, rfl, rfl, rfl, rfl, rfl, hP.z_wide, hP.z_short, rfl, N1⟩⟩
theorem seg_25 (w : World) : ∀ (v : LZ) (st : St) (mN nN : Nat) (X Y U V : Int), Chk v.N v.a v.b st mN nN X Y U V → Seg w 25 1 (fun h₀ L h => ∃ x, Le v st mN nN X Y U V x h₀ L h) (fun h₀ L h => ∃ x, Le v st mN nN X Y U V x h₀ L h) := by
  unfold Seg
  k_fill
  intro v st mN nN X Y U V hck hrr mean mg mb h₀ L s E X0 T B hP
  obtain ⟨x, hP⟩ := hP
  refine genQ fun QQ hQQ => ?_
  have NN := hP.NN
  have C := hP.C
  have F : Fr h₀ L s.heap (fun y => if y = Str.ofString "m" then some (.int ((mN : Nat) : Int) x.xr) else if y = Str.ofString "n" then some (.int ((nN : Nat) : Int) x.xt) else if y = Str.ofString "wide" then some (.int ((st.wide : Nat) : Int) x.xwi) else if y = Str.ofString "short" then some (.int ((st.short : Nat) : Int) x.xsh) else x.mx y) := fr_canon [(Str.ofString "m", _), (Str.ofString "n", _), (Str.ofString "wide", _), (Str.ofString "short", _)] hP.F (List.forall_mem_cons.mpr ⟨hP.z_m, List.forall_mem_cons.mpr ⟨hP.z_n, List.forall_mem_cons.mpr ⟨hP.z_wide, List.forall_mem_cons.mpr ⟨hP.z_short, fun _ h => nomatch h⟩⟩⟩⟩)
  unfold lawEnv lawLit mkLit
  unfold lawBody lawLit mkLit
  dsimp only [List.take, List.drop]
  obtain ⟨c1, c2, c3, c4, c5, c6, c7, c8, m9, n9, bX, bY, bU, bV⟩ := hck
  k_steps
  refine ⟨?_⟩
  refine PyProof.Rows.mul_int ?_ (.of_left (by decide))
  k_steps
  refine ⟨?_⟩
  refine PyProof.Rows.le_int ?_
  rw [decide_eq_true (by omega : (nN : Int) - 1 ≤ 2 * (st.wide : Int))]
  k_steps
  refine ⟨?_⟩
  refine PyProof.Rows.le_int ?_
  rw [decide_eq_true (by omega : 2 * (st.wide : Int) ≤ (mN : Int) + (nN : Int))]
  k_steps
  refine ⟨?_⟩
  refine PyProof.Rows.le_int ?_
  rw [decide_eq_true (by omega : (st.short : Int) ≤ 3)]
  k_steps
  rename Fr _ _ _ _ => F1
  rename News _ _ _ _ => N1
  exact hQQ _ _ ⟨rfl, _, _, rfl, { x with mx := frFun F1 }, ⟨F1, C, rfl, rfl, hP.z_x, hP.z_y, hP.z_u, hP.z_v, rfl, rfl, hP.z_count, N1⟩⟩
end
-- text G27
section
open PySem PySem.W PySem.Calls PyProof.Rows
set_option maxRecDepth 100000
set_option maxHeartbeats 8000000
noncomputable def ztxt (k mm bb ve z : Nat) : List Nat := [sg k mm bb (z % 6)] ++ (List.replicate (z / 36 % 2) [ve]).flatten ++ [sg k mm bb (z / 6 % 6)]
theorem ztxt_len (k mm bb ve z : Nat) : (ztxt k mm bb ve z).length ≤ 3 := by
  unfold ztxt
  simp only [List.length_append, len_rep, List.length_cons, List.length_nil]
  omega
theorem join_all (ls : List (List Nat)) : Txt.join (Str.ofString "") (ls.map fun l => (⟨⟨l⟩⟩ : Str)) = ⟨⟨ls.flatten⟩⟩ := by
  show Builtin.Str.glued _ _ = _
  rw [StrLaws.glued_eq_join]
  exact join_flat ls
noncomputable def zsOf (d : Nat → Nat) : List Nat := [d 5, d 6, d 7, d 8, d 9]
set_option genSizeOf false
structure Lt1 (v : LZ) (st : St) (X Y U V : Int) (x : LX) (h₀ : Heap) (L : Addr) (h : Heap) : Prop where
  F : Fr h₀ L h x.mx
  C : Ct v L
  z_text : x.mx (Str.ofString "text") = some (.str ⟨⟨(List.map (ztxt v.k v.mm v.bb v.ve) (zsOf v.d)).flatten⟩⟩ x.xt)
  z_x : x.mx (Str.ofString "x") = some (.int X x.v0)
  z_y : x.mx (Str.ofString "y") = some (.int Y x.v1)
  z_u : x.mx (Str.ofString "u") = some (.int U x.v2)
  z_v : x.mx (Str.ofString "v") = some (.int V x.th)
  z_count : x.mx (Str.ofString "count") = some (.int ((v.N / gcd3 v.N v.a v.b : Nat) : Int) v.u4)
  NN : News h₀ L h (v.led)
local macro_rules | `(tactic| walk_at "eval ListComp") => `(tactic| refine Mine.stop ?_)
local macro_rules | `(tactic| walk_at "subscriptTail Name Slice ref ref") => `(tactic| refine Mine.stop ?_)
local macro_rules | `(tactic| walk_at "subscriptTail Name BinOp ref int") => `(tactic| refine Mine.stop ?_)
local macro_rules | `(tactic| walk_at "binaryOp Mult str int") => `(tactic| refine Mine.stop ?_)
local macro_rules | `(tactic| walk_at "binaryOp Add str str") => `(tactic| refine Mine.stop ?_)
local macro_rules | `(tactic| walk_at "call builtin:str.join") => `(tactic| refine Mine.stop ?_)
local macro_rules | `(tactic| walk_at "last call builtin:str.join") => `(tactic| refine Mine.stop ?_)
theorem seg_26 (w : World) : ∀ (v : LZ) (st : St) (mN nN : Nat) (X Y U V : Int),  Seg w 26 1 (fun h₀ L h => ∃ x, Le v st mN nN X Y U V x h₀ L h) (fun h₀ L h => ∃ x, Lt1 v st X Y U V x h₀ L h) := by
  unfold Seg
  k_fill
  intro v st mN nN X Y U V hrr mean mg mb h₀ L s E X0 T B hP
  obtain ⟨x, hP⟩ := hP
  refine genQ fun QQ hQQ => ?_
  have NN := hP.NN
  have C := hP.C
  have mD2 := C.mD2
  have m6 := C.m6
  have q6 := C.q6
  have m9 := C.m9
  have q9 := C.q9
  have mA := C.mA
  have m1 := C.m1
  have q1 := C.q1
  have F : Fr h₀ L s.heap (fun y => x.mx y) := fr_canon [] hP.F (fun _ h => nomatch h)
  unfold lawEnv lawLit mkLit
  unfold lawBody lawLit mkLit
  dsimp only [List.take, List.drop]
  k_steps
  refine ⟨?_⟩
  rename Fr _ _ _ _ => F8
  k_dflt (refine' comp_of ?F8 .int (fun _ => true) (fun i => .str ⟨⟨ztxt v.k v.mm v.bb v.ve i.toNat⟩⟩) ?hh ?hclos ?hcell ?hkind ?hnames ?hx ?hs ?_)
  (case F8 => exact F8)
  (case hh => with_unfolding_all rfl)
  (case hclos => with_unfolding_all rfl)
  (case hcell => decide)
  (case hkind => with_unfolding_all rfl)
  (case hnames => decide)
  (case hx => with_unfolding_all rfl)
  (case hs => intro _; with_unfolding_all rfl)
  refine wpAny_compPack ?_
  k_steps
  refine ⟨?_⟩
  rename Fr _ _ _ _ => F9
  rename News _ _ _ _ => N9
  refine slice_list F9 N9 (N9.isList (by k_mem)) (.int _ _) .none ?_ (hsz := by rw [sizeLine_eq]; exact Nat.le_of_ble_eq_true rfl)
  intro h7 F7 N7
  rw [show slicePick #[.int ((v.d 0 : Nat) : Int) (v.t 0), .int ((v.d 1 : Nat) : Int) (v.t 1), .int ((v.d 2 : Nat) : Int) (v.t 2), .int ((v.d 3 : Nat) : Int) (v.t 3), .int ((v.d 4 : Nat) : Int) (v.t 4), .int ((v.d 5 : Nat) : Int) (v.t 5), .int ((v.d 6 : Nat) : Int) (v.t 6), .int ((v.d 7 : Nat) : Int) (v.t 7), .int ((v.d 8 : Nat) : Int) (v.t 8), .int ((v.d 9 : Nat) : Int) (v.t 9)] (some 5) none none = [Value.int ((v.d 5 : Nat) : Int) (v.t 5), .int ((v.d 6 : Nat) : Int) (v.t 6), .int ((v.d 7 : Nat) : Int) (v.t 7), .int ((v.d 8 : Nat) : Int) (v.t 8), .int ((v.d 9 : Nat) : Int) (v.t 9)].toArray from (slicePick_from' #[.int ((v.d 0 : Nat) : Int) (v.t 0), .int ((v.d 1 : Nat) : Int) (v.t 1), .int ((v.d 2 : Nat) : Int) (v.t 2), .int ((v.d 3 : Nat) : Int) (v.t 3), .int ((v.d 4 : Nat) : Int) (v.t 4), .int ((v.d 5 : Nat) : Int) (v.t 5), .int ((v.d 6 : Nat) : Int) (v.t 6), .int ((v.d 7 : Nat) : Int) (v.t 7), .int ((v.d 8 : Nat) : Int) (v.t 8), .int ((v.d 9 : Nat) : Int) (v.t 9)] 5).trans (by rfl)] at N7
  have hL7 := N7.isList (List.mem_cons_self ..)
  refine CompPack.intro ⟨_, _, _, [((v.d 5 : Nat) : Int), ((v.d 6 : Nat) : Int), ((v.d 7 : Nat) : Int), ((v.d 8 : Nat) : Int), ((v.d 9 : Nat) : Int)], rfl, hL7, .cons ⟨_, rfl⟩ (.cons ⟨_, rfl⟩ (.cons ⟨_, rfl⟩ (.cons ⟨_, rfl⟩ (.cons ⟨_, rfl⟩ .nil)))), by rw [sizeLine_eq]; exact Nat.le_of_ble_eq_true rfl, F7, N7, ?tests, ?elt, ⟨?_⟩⟩
  case tests =>
    intro C a1 v1 s2 m2 E2 hC ha hv hn hm hkp
    exact wpAny_pure ⟨rfl, _, _, rfl, fun _ _ e => e⟩
  case elt =>
    intro C a1 v1 s2 m2 E2 hC ha hv hp hn hm hkp
    obtain ⟨tz, rfl⟩ := hv
    obtain ⟨z, rfl⟩ : ∃ z : Nat, a1 = (z : Int) := by
      simp only [List.mem_cons, List.not_mem_nil, or_false] at ha
      rcases ha with rfl | rfl | rfl | rfl | rfl <;> exact ⟨_, rfl⟩
    obtain ⟨tg1, hg1⟩ := getS (k := v.k) (mm := v.mm) (bb := v.bb) (a := v.y1) (b := v.z2) (c := v.y2) (d := v.z4) (e := v.y3) (f := v.z6) (z % 6) (Nat.mod_lt _ (by decide))
    obtain ⟨tg2, hg2⟩ := getS (k := v.k) (mm := v.mm) (bb := v.bb) (a := v.y1) (b := v.z2) (c := v.y2) (d := v.z4) (e := v.y3) (f := v.z6) (z / 6 % 6) (Nat.mod_lt _ (by decide))
    have Fe := F7.keeps hkp
    have Ne := N7.grown hkp
    have cE := InElt.start s2.heap
    clear F9 N9 F7 N7 hL7 hkp ha
    repeat (first | (k_unfold; (try dsimp only)) | walk1 | (dsimp only; walk1))
    refine ⟨?_⟩
    refine tail_at (Ne.isList (by k_mem)) (fmod_nat z 6) hg1 (by omega) ?_
    repeat (first | (k_unfold; (try dsimp only)) | walk1 | (dsimp only; walk1))
    refine ⟨?_⟩
    refine str_mul (l := [v.ve]) (z / 36 % 2) (by rw [show ((z : Nat) : Int).fdiv 36 = ((z / 36 : Nat) : Int) from fdiv_nat z 36]; exact fmod_nat (z / 36) 2) (by rw [List.length_singleton]; decide) (by omega) ?_
    intro ta2 tb2
    repeat (first | (k_unfold; (try dsimp only)) | walk1 | (dsimp only; walk1))
    refine ⟨?_⟩
    refine str_add (l1 := [sg v.k v.mm v.bb (z % 6)]) (by simp only [len_rep, List.length_cons, List.length_nil]; omega) ?_
    intro ta3 tb3
    repeat (first | (k_unfold; (try dsimp only)) | walk1 | (dsimp only; walk1))
    refine ⟨?_⟩
    refine tail_at (Ne.isList (by k_mem)) (show ((z : Int).fdiv 6).fmod 6 = ((z / 6 % 6 : Nat) : Int) by rw [show ((z : Nat) : Int).fdiv 6 = ((z / 6 : Nat) : Int) from fdiv_nat z 6]; exact fmod_nat (z / 6) 6) hg2 (by omega) ?_
    repeat (first | (k_unfold; (try dsimp only)) | walk1 | (dsimp only; walk1))
    refine ⟨?_⟩
    refine str_add (l2 := [sg v.k v.mm v.bb (z / 6 % 6)]) (by simp only [List.length_append, len_rep, List.length_cons, List.length_nil]; omega) ?_
    intro ta4 tb4
    repeat (first | (k_unfold; (try dsimp only)) | walk1 | (dsimp only; walk1))
    · exact .str _ _
    · exact ⟨_, _, rfl, fun _ _ e => e⟩
  · intro D2 e2 ys h2 tk2 F2 N2 hne hC
    replace N2 := news_cut_b N2
    clear hL7 N7 F7 F9 N9
    clear hne
    have hS : StrsAre ys [⟨⟨ztxt v.k v.mm v.bb v.ve (v.d 5)⟩⟩, ⟨⟨ztxt v.k v.mm v.bb v.ve (v.d 6)⟩⟩, ⟨⟨ztxt v.k v.mm v.bb v.ve (v.d 7)⟩⟩, ⟨⟨ztxt v.k v.mm v.bb v.ve (v.d 8)⟩⟩, ⟨⟨ztxt v.k v.mm v.bb v.ve (v.d 9)⟩⟩] := strsAre_of hC
    have hJ := join_all (List.map (ztxt v.k v.mm v.bb v.ve) (zsOf v.d))
    clear hC
    repeat (first | (k_unfold; (try dsimp only)) | walk1 | (dsimp only; walk1))
    refine ⟨?_⟩
    refine join_list (N2.isList (by k_mem)) hS ?hok ?_
    case hok =>
      have q1 := ztxt_len v.k v.mm v.bb v.ve (v.d 5)
      have q2 := ztxt_len v.k v.mm v.bb v.ve (v.d 6)
      have q3 := ztxt_len v.k v.mm v.bb v.ve (v.d 7)
      have q4 := ztxt_len v.k v.mm v.bb v.ve (v.d 8)
      have q5 := ztxt_len v.k v.mm v.bb v.ve (v.d 9)
      show (ztxt v.k v.mm v.bb v.ve (v.d 5)).length + ((ztxt v.k v.mm v.bb v.ve (v.d 6)).length + ((ztxt v.k v.mm v.bb v.ve (v.d 7)).length + ((ztxt v.k v.mm v.bb v.ve (v.d 8)).length + ((ztxt v.k v.mm v.bb v.ve (v.d 9)).length + 0)))) + 5 * 0 ≤ 16777216
      omega
    intro ta9 tb9
    replace hJ : Txt.join (Str.ofString "") [⟨⟨ztxt v.k v.mm v.bb v.ve (v.d 5)⟩⟩, ⟨⟨ztxt v.k v.mm v.bb v.ve (v.d 6)⟩⟩, ⟨⟨ztxt v.k v.mm v.bb v.ve (v.d 7)⟩⟩, ⟨⟨ztxt v.k v.mm v.bb v.ve (v.d 8)⟩⟩, ⟨⟨ztxt v.k v.mm v.bb v.ve (v.d 9)⟩⟩] = _ := hJ
    rw [hJ]
    repeat (first | (k_unfold; (try dsimp only)) | walk1 | (dsimp only; walk1))
    rename Fr _ _ _ _ => F1
    rename News _ _ _ _ => N1
    exact hQQ _ _ ⟨rfl, _, _, rfl, { x with xt := _, mx := frFun F1 }, ⟨F1, C, rfl, hP.z_x, hP.z_y, hP.z_u, hP.z_v, hP.z_count, (news_tail N1)⟩⟩
end
-- text G28
section
open PySem PySem.W PySem.Calls PyProof.Rows
set_option maxRecDepth 100000
set_option maxHeartbeats 8000000
noncomputable def dz (q : Nat) (zs : List Nat) : Nat := (zs.map fun z => stpj (z % 6) q + stpj (z / 6 % 6) q).sum
theorem told_z {k mm bb ve : Nat} (HL : Ltr k mm bb) (hve : veilB ve = true) (z : Nat) : (told (ztxt k mm bb ve z)).count 107 = stpj (z % 6) 0 + stpj (z / 6 % 6) 0 ∧ (told (ztxt k mm bb ve z)).count 109 = stpj (z % 6) 1 + stpj (z / 6 % 6) 1 ∧ (told (ztxt k mm bb ve z)).count 98 = stpj (z % 6) 2 + stpj (z / 6 % 6) 2 ∧
    (told (ztxt k mm bb ve z)).length = (stpj (z % 6) 0 + stpj (z / 6 % 6) 0) + (stpj (z % 6) 1 + stpj (z / 6 % 6) 1) + (stpj (z % 6) 2 + stpj (z / 6 % 6) 2) := by
  have a := sg_tell HL (z % 6)
  have b := sg_tell HL (z / 6 % 6)
  have e : told (ztxt k mm bb ve z) = tellL (sg k mm bb (z % 6)) ++ tellL (sg k mm bb (z / 6 % 6)) := by
    unfold ztxt
    rw [told_append, told_append, told_rep, told_veil hve, told_one (sg_alpha HL _), told_one (sg_alpha HL _)]
    simp
  rw [e]
  simp only [List.count_append, List.length_append, a.1, a.2.1, a.2.2.1, a.2.2.2, b.1, b.2.1, b.2.2.1, b.2.2.2]
  refine ⟨rfl, rfl, rfl, ?_⟩
  simp only [stpj]
  omega
theorem told_zs {k mm bb ve : Nat} (HL : Ltr k mm bb) (hve : veilB ve = true) : ∀ zs : List Nat, (told ((zs.map (ztxt k mm bb ve)).flatten)).count 107 = dz 0 zs ∧ (told ((zs.map (ztxt k mm bb ve)).flatten)).count 109 = dz 1 zs ∧ (told ((zs.map (ztxt k mm bb ve)).flatten)).count 98 = dz 2 zs ∧ (told ((zs.map (ztxt k mm bb ve)).flatten)).length = dz 0 zs + dz 1 zs + dz 2 zs
  | [] => ⟨rfl, rfl, rfl, rfl⟩
  | z :: zs => by
    have ih := told_zs HL hve zs
    have h := told_z HL hve z
    rw [List.map_cons, List.flatten_cons, told_append]
    simp only [List.count_append, List.length_append, ih.1, ih.2.1, ih.2.2.1, ih.2.2.2, h.1, h.2.1, h.2.2.1, h.2.2.2]
    refine ⟨rfl, rfl, rfl, ?_⟩
    simp only [dz, List.map_cons, List.sum_cons]
    omega
theorem known_zs {k mm bb ve : Nat} (HL : Ltr k mm bb) (hve : veilB ve = true) (zs : List Nat) : ∀ c ∈ (zs.map (ztxt k mm bb ve)).flatten, known c := by
  intro c hc
  obtain ⟨l, hl, hc⟩ := List.mem_flatten.mp hc
  obtain ⟨z, _, rfl⟩ := List.mem_map.mp hl
  unfold ztxt at hc
  simp only [List.mem_append, List.mem_singleton, List.mem_flatten, List.mem_replicate] at hc
  rcases hc with (rfl | ⟨l, ⟨_, rfl⟩, hc⟩) | rfl
  · exact .inl (sg_alpha HL _)
  · rw [List.mem_singleton.mp hc]; exact .inr hve
  · exact .inl (sg_alpha HL _)
theorem len_zs (k mm bb ve : Nat) : ∀ zs : List Nat, ((zs.map (ztxt k mm bb ve)).flatten).length ≤ 3 * zs.length
  | [] => Nat.le_refl _
  | z :: zs => by
    have ih := len_zs k mm bb ve zs
    have := ztxt_len k mm bb ve z
    rw [List.map_cons, List.flatten_cons, List.length_append, List.length_cons]
    omega
set_option genSizeOf false
structure Lp1 (v : LZ) (st : St) (X Y U V : Int) (dk dm db : Nat) (x : LX) (h₀ : Heap) (L : Addr) (h : Heap) : Prop where
  F : Fr h₀ L h x.mx
  C : Ct v L
  z_parts : x.mx (Str.ofString "parts") = some (.ref x.Pa)
  z_x : x.mx (Str.ofString "x") = some (.int X x.v0)
  z_y : x.mx (Str.ofString "y") = some (.int Y x.v1)
  z_u : x.mx (Str.ofString "u") = some (.int U x.v2)
  z_v : x.mx (Str.ofString "v") = some (.int V x.th)
  z_count : x.mx (Str.ofString "count") = some (.int ((v.N / gcd3 v.N v.a v.b : Nat) : Int) v.u4)
  lPa : @LT.lt Nat _ (@HAdd.hAdd Nat Nat Nat _ L 13) x.Pa
  NN : News h₀ L h ((x.Pa, listOf #[.int ((dk : Nat) : Int) x.p0, .int ((dm : Nat) : Int) x.p1, .int ((db : Nat) : Int) x.p2, .int ((dk + dm + db : Nat) : Int) x.p3] x.pg) :: v.led)
local macro_rules | `(tactic| walk_at "call ref") => `(tactic| refine Mine.stop ?_)
theorem seg_27 (w : World) : ∀ (v : LZ) (st : St) (X Y U V : Int),  Seg w 27 1 (fun h₀ L h => ∃ x, Lt1 v st X Y U V x h₀ L h) (fun h₀ L h => ∃ x, Lp1 v st X Y U V (dz 0 (zsOf v.d)) (dz 1 (zsOf v.d)) (dz 2 (zsOf v.d)) x h₀ L h) := by
  unfold Seg
  k_fill
  intro v st X Y U V hrr mean mg mb h₀ L s E X0 T B hP
  obtain ⟨x, hP⟩ := hP
  refine genQ fun QQ hQQ => ?_
  have NN := hP.NN
  have C := hP.C
  have HL := C.HL
  have hve := C.hve
  have mA := C.mA
  have lD1 := C.lD1
  have mD1 := C.mD1
  have F : Fr h₀ L s.heap (fun y => if y = Str.ofString "text" then some (.str ⟨⟨(List.map (ztxt v.k v.mm v.bb v.ve) (zsOf v.d)).flatten⟩⟩ x.xt) else x.mx y) := fr_canon [(Str.ofString "text", _)] hP.F (List.forall_mem_cons.mpr ⟨hP.z_text, fun _ h => nomatch h⟩)
  unfold lawEnv lawLit mkLit
  unfold lawBody lawLit mkLit
  dsimp only [List.take, List.drop]
  have ht := told_zs HL hve (zsOf v.d)
  k_steps
  refine ⟨?_⟩
  k_dflt (refine' meetsO_use (parts_lit w _ _ (known_zs HL hve (zsOf v.d)) (Nat.lt_of_le_of_lt (len_zs v.k v.mm v.bb v.ve (zsOf v.d)) (by show 3 * 5 < 1000; decide)) ((dz 0 (zsOf v.d) : Nat) : Int) ((dz 1 (zsOf v.d) : Nat) : Int) ((dz 2 (zsOf v.d) : Nat) : Int) ((dz 0 (zsOf v.d) + dz 1 (zsOf v.d) + dz 2 (zsOf v.d) : Nat) : Int) (by rw [ht.1]) (by rw [ht.2.1]) (by rw [ht.2.2.1]) (by rw [ht.2.2.2])) ?k1 ?k2 ?k3 ?k4 ?k5 ?k6 ?k7 ?k8 ?_)
  (case k1 => k_asm)
  (case k2 => k_asm)
  (case k3 => k_asm)
  (case k4 => k_asm)
  (case k5 => k_asm)
  (case k6 => rfl)
  (case k7 => ktr_room)
  (case k8 => ktr_units)
  rintro v' tl' r1 rk1 F1 N1 l1 ⟨Pa', p0', p1', p2', p3', pg', rfl, rfl⟩
  rw [List.singleton_append] at N1
  replace l1 := l1 _ (List.mem_singleton.mpr rfl)
  have lPa : @LT.lt Nat _ (@HAdd.hAdd Nat Nat Nat _ L 13) Pa' := Nat.lt_trans lD1 (l1 _ mD1)
  clear l1
  k_steps
  rename Fr _ _ _ _ => F1
  rename News _ _ _ _ => N1
  exact hQQ _ _ ⟨rfl, _, _, rfl, { x with Pa := _, pg := _, p0 := _, p1 := _, p2 := _, p3 := _, mx := frFun F1 }, ⟨F1, C, rfl, hP.z_x, hP.z_y, hP.z_u, hP.z_v, hP.z_count, lPa, N1⟩⟩
end
end
-- text G29
section
open PySem PySem.W PySem.Calls PyProof.Rows
set_option maxRecDepth 100000
set_option maxHeartbeats 8000000
theorem carr_add (a b : Nat) (t : Tok) : Carried (.int ((a : Int) + (b : Int)) t) (.int ((a + b : Nat) : Int)) := by
  rw [Int.natCast_add]; exact .int _ _
theorem three_ints {vs : List Value} {f : Nat → Int} (h : IntsAre vs ((List.range 3).map f)) : ∃ a b c, vs = [.int (f 0) a, .int (f 1) b, .int (f 2) c] := by
  have h : IntsAre vs [f 0, f 1, f 2] := h
  cases h with
  | cons a _ h => cases h with
    | cons b _ h => cases h with
      | cons c _ h => cases h with
        | nil => exact ⟨_, _, _, rfl⟩
theorem dz_sum (d : Nat → Nat) (i : Nat) : [((stpj (d 5 % 6) i + stpj (d 5 / 6 % 6) i : Nat) : Int), ((stpj (d 6 % 6) i + stpj (d 6 / 6 % 6) i : Nat) : Int), ((stpj (d 7 % 6) i + stpj (d 7 / 6 % 6) i : Nat) : Int), ((stpj (d 8 % 6) i + stpj (d 8 / 6 % 6) i : Nat) : Int), ((stpj (d 9 % 6) i + stpj (d 9 / 6 % 6) i : Nat) : Int)].sum = ((dz i (zsOf d) : Nat) : Int) := by
  simp only [dz, zsOf, List.map_cons, List.map_nil, List.sum_cons, List.sum_nil]
  omega
theorem news_flip {g h : Heap} {L : Addr} {a b : Addr × Obj} {l : List (Addr × Obj)} (N : News g L h (a :: b :: l)) : News g L h (b :: a :: l) :=
  List.forall_mem_cons.mpr ⟨N _ (.tail _ (.head _)), List.forall_mem_cons.mpr ⟨N _ (.head _), fun p hp => N p (.tail _ (.tail _ hp))⟩⟩
set_option genSizeOf false
structure Ld1 (v : LZ) (st : St) (X Y U V : Int) (dk dm db : Nat) (x : LX) (h₀ : Heap) (L : Addr) (h : Heap) : Prop where
  F : Fr h₀ L h x.mx
  C : Ct v L
  z_due : x.mx (Str.ofString "due") = some (.ref x.Du)
  z_parts : x.mx (Str.ofString "parts") = some (.ref x.Pa)
  z_x : x.mx (Str.ofString "x") = some (.int X x.v0)
  z_y : x.mx (Str.ofString "y") = some (.int Y x.v1)
  z_u : x.mx (Str.ofString "u") = some (.int U x.v2)
  z_v : x.mx (Str.ofString "v") = some (.int V x.th)
  z_count : x.mx (Str.ofString "count") = some (.int ((v.N / gcd3 v.N v.a v.b : Nat) : Int) v.u4)
  lPa : @LT.lt Nat _ (@HAdd.hAdd Nat Nat Nat _ L 13) x.Pa
  lDu : @LT.lt Nat _ (@HAdd.hAdd Nat Nat Nat _ L 13) x.Du
  NN : News h₀ L h ((x.Pa, listOf #[.int ((dk : Nat) : Int) x.p0, .int ((dm : Nat) : Int) x.p1, .int ((db : Nat) : Int) x.p2, .int ((dk + dm + db : Nat) : Int) x.p3] x.pg) :: (x.Du, listOf #[.int ((dk : Nat) : Int) x.xwi, .int ((dm : Nat) : Int) x.xsh, .int ((db : Nat) : Int) x.xr] x.ug) :: v.led)
local macro_rules | `(tactic| walk_at "call ref") => `(tactic| refine Mine.stop ?_)
local macro_rules | `(tactic| walk_at "exec Assign cons ListComp") => `(tactic| refine Mine.stop ?_)
local macro_rules | `(tactic| walk_at "eval ListComp") => `(tactic| refine Mine.stop ?_)
local macro_rules | `(tactic| walk_at "call builtin:sum") => `(tactic| refine Mine.stop ?_)
local macro_rules | `(tactic| walk_at "subscriptTail Name Slice ref ref") => `(tactic| refine Mine.stop ?_)
local macro_rules | `(tactic| walk_at "subscriptTail Name BinOp ref int") => `(tactic| refine Mine.stop ?_)
local macro_rules | `(tactic| walk_at "subscriptTail Subscript Name ref int") => `(tactic| refine Mine.stop ?_)
theorem seg_28 (w : World) : ∀ (v : LZ) (st : St) (X Y U V : Int) (dk dm db : Nat), dz 0 (zsOf v.d) = dk → dz 1 (zsOf v.d) = dm → dz 2 (zsOf v.d) = db → Seg w 28 1 (fun h₀ L h => ∃ x, Lp1 v st X Y U V dk dm db x h₀ L h) (fun h₀ L h => ∃ x, Ld1 v st X Y U V dk dm db x h₀ L h) := by
  unfold Seg
  k_fill
  intro v st X Y U V dk dm db hk hm hb hrr mean mg mb h₀ L s E X0 T B hP
  obtain ⟨x, hP⟩ := hP
  refine genQ fun QQ hQQ => ?_
  have NN := hP.NN
  have C := hP.C
  have mA := C.mA
  have m1 := C.m1
  have q1 := C.q1
  have mD3 := C.mD3
  have m7 := C.m7
  have q7 := C.q7
  have lD1 := C.lD1
  have mD1 := C.mD1
  have F : Fr h₀ L s.heap (fun y => x.mx y) := fr_canon [] hP.F (fun _ h => nomatch h)
  unfold lawEnv lawLit mkLit
  unfold lawBody lawLit mkLit
  dsimp only [List.take, List.drop]
  k_steps
  refine ⟨?_⟩
  k_dflt (refine' cell_assign (h₀ := h₀) (L := L) (m := x.mx) (news := ((x.Pa, listOf #[.int ((dk : Nat) : Int) x.p0, .int ((dm : Nat) : Int) x.p1, .int ((db : Nat) : Int) x.p2, .int ((dk + dm + db : Nat) : Int) x.p3] x.pg) :: v.led)) (fun q => ((dz q (zsOf v.d) : Nat) : Int)) 3 ?hLe ?hb ?hsw ?hclos ?hcf ?hpc ?hkind ?hnames ?hkx ?hy ?hp ?hh ?hsz ?_ ?hs)
  (case hLe => with_unfolding_all rfl)
  (case hb => with_unfolding_all rfl)
  (case hsw => with_unfolding_all rfl)
  (case hclos => with_unfolding_all rfl)
  (case hcf => intro _; with_unfolding_all rfl)
  (case hpc => intro _; with_unfolding_all rfl)
  (case hkind => with_unfolding_all rfl)
  (case hnames => decide)
  (case hkx => intro _ _; with_unfolding_all rfl)
  (case hy => with_unfolding_all rfl)
  (case hp => with_unfolding_all rfl)
  (case hh => with_unfolding_all rfl)
  (case hsz => rw [sizeLine_eq]; decide)
  (case hs => intro _; with_unfolding_all rfl)
  refine wpAny_mono (Q := fun xv s₁ => Kept (∃ rr ta0 ua0 va0 h' tk, xv = .ref rr ∧ s₁ = { s with heap := h', toks := tk } ∧ IsRange h' rr 0 3 1 ta0 ua0 va0 ∧ Fr h₀ L h' x.mx ∧ News h₀ L h' ((x.Pa, listOf #[.int ((dk : Nat) : Int) x.p0, .int ((dm : Nat) : Int) x.p1, .int ((db : Nat) : Int) x.p2, .int ((dk + dm + db : Nat) : Int) x.p3] x.pg) :: v.led))) ?_ (fun xv s₁ hb => ?_) fun _ _ e => e
  · k_steps
    rename IsRange _ _ _ _ _ _ _ _ => hr
    rename Fr _ _ _ _ => F1
    rename News _ _ _ _ => N1
    exact ⟨⟨_, _, _, _, _, _, rfl, rfl, hr, F1, N1⟩⟩
  · obtain ⟨⟨rr, ta0, ua0, va0, h1, tk1, rfl, rfl, hr, F1, N1⟩⟩ := hb
    refine ⟨rr, ta0, ua0, va0, rfl, hr, by decide +kernel, by decide +kernel, F1, N1, ?_, ?_⟩
    · intro i tj I oI DD vs C9 oC K oK h2 tk2 E' hi hK F2 N2
      clear F NN F1 N1 hr
      repeat (first | (k_unfold; (try dsimp only)) | walk1 | (dsimp only; walk1))
      refine ⟨?_⟩
      k_dflt (refine' comp_of ?F8 .int (fun _ => true) (fun z => .int ((stpj (z.toNat % 6) i + stpj (z.toNat / 6 % 6) i : Nat) : Int)) ?hh ?hclos ?hcell ?hkind ?hnames ?hx ?hs ?_)
      (case F8 => exact F2)
      (case hh => with_unfolding_all rfl)
      (case hclos => with_unfolding_all rfl)
      (case hcell => decide)
      (case hkind => with_unfolding_all rfl)
      (case hnames => decide)
      (case hx => with_unfolding_all rfl)
      (case hs => intro _; with_unfolding_all rfl)
      refine wpAny_compPack ?_
      repeat (first | (k_unfold; (try dsimp only)) | walk1 | (dsimp only; walk1))
      refine ⟨?_⟩
      refine slice_list F2 N2 (N2.isList (by k_mem)) (.int _ _) .none ?_ (hsz := by rw [sizeLine_eq]; exact Nat.le_of_ble_eq_true rfl)
      intro h7 F7 N7
      rw [show slicePick #[.int ((v.d 0 : Nat) : Int) (v.t 0), .int ((v.d 1 : Nat) : Int) (v.t 1), .int ((v.d 2 : Nat) : Int) (v.t 2), .int ((v.d 3 : Nat) : Int) (v.t 3), .int ((v.d 4 : Nat) : Int) (v.t 4), .int ((v.d 5 : Nat) : Int) (v.t 5), .int ((v.d 6 : Nat) : Int) (v.t 6), .int ((v.d 7 : Nat) : Int) (v.t 7), .int ((v.d 8 : Nat) : Int) (v.t 8), .int ((v.d 9 : Nat) : Int) (v.t 9)] (some 5) none none = [Value.int ((v.d 5 : Nat) : Int) (v.t 5), .int ((v.d 6 : Nat) : Int) (v.t 6), .int ((v.d 7 : Nat) : Int) (v.t 7), .int ((v.d 8 : Nat) : Int) (v.t 8), .int ((v.d 9 : Nat) : Int) (v.t 9)].toArray from (slicePick_from' #[.int ((v.d 0 : Nat) : Int) (v.t 0), .int ((v.d 1 : Nat) : Int) (v.t 1), .int ((v.d 2 : Nat) : Int) (v.t 2), .int ((v.d 3 : Nat) : Int) (v.t 3), .int ((v.d 4 : Nat) : Int) (v.t 4), .int ((v.d 5 : Nat) : Int) (v.t 5), .int ((v.d 6 : Nat) : Int) (v.t 6), .int ((v.d 7 : Nat) : Int) (v.t 7), .int ((v.d 8 : Nat) : Int) (v.t 8), .int ((v.d 9 : Nat) : Int) (v.t 9)] 5).trans (by rfl)] at N7
      have hL7 := N7.isList (List.mem_cons_self ..)
      refine CompPack.intro ⟨_, _, _, [((v.d 5 : Nat) : Int), ((v.d 6 : Nat) : Int), ((v.d 7 : Nat) : Int), ((v.d 8 : Nat) : Int), ((v.d 9 : Nat) : Int)], rfl, hL7, .cons ⟨_, rfl⟩ (.cons ⟨_, rfl⟩ (.cons ⟨_, rfl⟩ (.cons ⟨_, rfl⟩ (.cons ⟨_, rfl⟩ .nil)))), by rw [sizeLine_eq]; exact Nat.le_of_ble_eq_true rfl, F7, N7, ?tests, ?elt, ⟨?_⟩⟩
      case tests =>
        intro C1 a1 v1 s2 m2 E2 hC ha hv hn hm hkp
        exact wpAny_pure ⟨rfl, _, _, rfl, fun _ _ e => e⟩
      case elt =>
        intro C1 a1 v1 s2 m2 E2 hC ha hv hp hn hm hkp
        obtain ⟨tz, rfl⟩ := hv
        obtain ⟨z, rfl⟩ : ∃ z : Nat, a1 = (z : Int) := by
          simp only [List.mem_cons, List.not_mem_nil, or_false] at ha
          rcases ha with rfl | rfl | rfl | rfl | rfl <;> exact ⟨_, rfl⟩
        obtain ⟨B1, b10, b11, b12, b13, bg1, bn1, hB1, mB1⟩ := steps_at C (z % 6) (Nat.mod_lt _ (by decide))
        obtain ⟨B2, b20, b21, b22, b23, bg2, bn2, hB2, mB2⟩ := steps_at C (z / 6 % 6) (Nat.mod_lt _ (by decide))
        obtain ⟨tj1, hr1⟩ := row_at (i := z % 6) (a := b10) (b := b11) (c := b12) (d := b13) (n := bn1) i hi
        obtain ⟨tj2, hr2⟩ := row_at (i := z / 6 % 6) (a := b20) (b := b21) (c := b22) (d := b23) (n := bn2) i hi
        have Fe := F7.keeps hkp
        have Ne := N7.grown hkp
        have cE := InElt.start s2.heap
        clear F7 N7 hL7 hkp ha F2 N2
        repeat (first | (k_unfold; (try dsimp only)) | walk1 | (dsimp only; walk1))
        refine ⟨?_⟩
        refine tail_at (Ne.isList (by k_mem)) (fmod_nat z 6) hB1 (by omega) ?_
        repeat (first | (k_unfold; (try dsimp only)) | walk1 | (dsimp only; walk1))
        (try refine ⟨?_⟩)
        refine tail_at (Ne.isList (by (repeat (first | exact mB1 | refine List.Mem.tail _ ?_)))) rfl hr1 (by omega) ?_
        repeat (first | (k_unfold; (try dsimp only)) | walk1 | (dsimp only; walk1))
        (try refine ⟨?_⟩)
        refine tail_at (Ne.isList (by k_mem)) (show ((z : Int).fdiv 6).fmod 6 = ((z / 6 % 6 : Nat) : Int) by rw [show ((z : Nat) : Int).fdiv 6 = ((z / 6 : Nat) : Int) from fdiv_nat z 6]; exact fmod_nat (z / 6) 6) hB2 (by omega) ?_
        repeat (first | (k_unfold; (try dsimp only)) | walk1 | (dsimp only; walk1))
        (try refine ⟨?_⟩)
        refine tail_at (Ne.isList (by (repeat (first | exact mB2 | refine List.Mem.tail _ ?_)))) rfl hr2 (by omega) ?_
        repeat (first | (k_unfold; (try dsimp only)) | walk1 | (dsimp only; walk1))
        · exact carr_add _ _ _
        · exact ⟨_, _, rfl, fun _ _ e => e⟩
      · intro D2 e2 ys h8 tk8 F8 N8 hne hC
        replace N8 := news_cut_b N8
        have hI := intsAre_of (ms := [((stpj (v.d 5 % 6) i + stpj (v.d 5 / 6 % 6) i : Nat) : Int), ((stpj (v.d 6 % 6) i + stpj (v.d 6 / 6 % 6) i : Nat) : Int), ((stpj (v.d 7 % 6) i + stpj (v.d 7 / 6 % 6) i : Nat) : Int), ((stpj (v.d 8 % 6) i + stpj (v.d 8 / 6 % 6) i : Nat) : Int), ((stpj (v.d 9 % 6) i + stpj (v.d 9 / 6 % 6) i : Nat) : Int)]) hC
        clear hC hne hL7 F7 N7 F2 N2
        repeat (first | (k_unfold; (try dsimp only)) | walk1 | (dsimp only; walk1))
        refine ⟨?_⟩
        refine LSm.sum_ints F8 N8 rfl (N8.isList (List.mem_cons_self ..)) hI ?_
        intro h9 tk9 t9 F9 N9
        rw [dz_sum]
        exact ⟨_, _, _, rfl, rfl, F9, news_tail N9⟩
    · intro D h9 tk9 vs F9 N9 l9 hI9
      have lDu : @LT.lt Nat _ (@HAdd.hAdd Nat Nat Nat _ L 13) D := Nat.lt_trans lD1 (l9 _ (.tail _ mD1))
      clear l9
      obtain ⟨t1, t2, t3, rfl⟩ := three_ints hI9
      replace N9 : News h₀ L h9 ((D, listOf #[.int ((dz 0 (zsOf v.d) : Nat) : Int) t1, .int ((dz 1 (zsOf v.d) : Nat) : Int) t2, .int ((dz 2 (zsOf v.d) : Nat) : Int) t3] _) :: ((x.Pa, listOf #[.int ((dk : Nat) : Int) x.p0, .int ((dm : Nat) : Int) x.p1, .int ((db : Nat) : Int) x.p2, .int ((dk + dm + db : Nat) : Int) x.p3] x.pg) :: v.led)) := N9
      rw [hk, hm, hb] at N9
      k_steps
      rename Fr _ _ _ _ => F1
      rename News _ _ _ _ => N1
      exact hQQ _ _ ⟨rfl, _, _, rfl, { x with xwi := _, xsh := _, xr := _, Du := _, ug := _, mx := frFun F1 }, ⟨F1, C, rfl, hP.z_parts, hP.z_x, hP.z_y, hP.z_u, hP.z_v, hP.z_count, hP.lPa, lDu, (news_flip N1)⟩⟩
end
section
local macro_rules | `(tactic| walk_at "call ref") => `(tactic| refine Mine.stop ?_)
local macro_rules | `(tactic| walk_at "eval ListComp") => `(tactic| refine Mine.stop ?_)
local macro_rules | `(tactic| walk_at "call builtin:sum") => `(tactic| refine Mine.stop ?_)
local macro_rules | `(tactic| walk_at "call type:zip") => `(tactic| refine Mine.stop ?_)
local macro_rules | `(tactic| walk_at "binaryOp Add ref ref") => `(tactic| refine Mine.stop ?_)
local macro_rules | `(tactic| walk_at "binaryOp Mult int int") => `(tactic| refine Mine.stop ?_)
local macro_rules | `(tactic| walk_at "compareOp LtE int float") => `(tactic| refine Mine.stop ?_)
local macro_rules | `(tactic| walk_at "compareOp LtE float int") => `(tactic| refine Mine.stop ?_)
local macro_rules | `(tactic| is_list) => `(tactic| exact News.isList (by k_asm) (by k_mem))
-- text G30
section
open PySem PySem.W PySem.Calls PyProof.Rows
set_option maxRecDepth 100000
set_option maxHeartbeats 8000000
theorem f_leI {a : Nat} (ha : a < 11) : (Float64.cmpInt (Float64.ofInt ((a : Nat) : Int)) 0 == some Ordering.gt || Float64.cmpInt (Float64.ofInt ((a : Nat) : Int)) 0 == some Ordering.eq) = true ∧ (Float64.cmpInt (Float64.ofInt ((a : Nat) : Int)) 10 == some Ordering.lt || Float64.cmpInt (Float64.ofInt ((a : Nat) : Int)) 10 == some Ordering.eq) = true := by
  have h : below 11 (fun a => (Float64.cmpInt (Float64.ofInt ((a : Nat) : Int)) 0 == some Ordering.gt || Float64.cmpInt (Float64.ofInt ((a : Nat) : Int)) 0 == some Ordering.eq) && (Float64.cmpInt (Float64.ofInt ((a : Nat) : Int)) 10 == some Ordering.lt || Float64.cmpInt (Float64.ofInt ((a : Nat) : Int)) 10 == some Ordering.eq)) = true := by kernel_rfl
  have := below_of h ha
  rwa [Bool.and_eq_true] at this
set_option genSizeOf false
structure Ls1 (v : LZ) (st : St) (X Y U V : Int) (dk dm db : Nat) (x : LX) (h₀ : Heap) (L : Addr) (h : Heap) : Prop where
  F : Fr h₀ L h x.mx
  C : Ct v L
  z_spread : x.mx (Str.ofString "spread") = some (.float (Float64.ofInt ((max dk (max dm db) - min dk (min dm db) : Nat) : Int)) x.ts)
  z_due : x.mx (Str.ofString "due") = some (.ref x.Du)
  z_parts : x.mx (Str.ofString "parts") = some (.ref x.Pa)
  z_x : x.mx (Str.ofString "x") = some (.int X x.v0)
  z_y : x.mx (Str.ofString "y") = some (.int Y x.v1)
  z_u : x.mx (Str.ofString "u") = some (.int U x.v2)
  z_v : x.mx (Str.ofString "v") = some (.int V x.th)
  z_count : x.mx (Str.ofString "count") = some (.int ((v.N / gcd3 v.N v.a v.b : Nat) : Int) v.u4)
  NN : News h₀ L h ((x.Pa, listOf #[.int ((dk : Nat) : Int) x.p0, .int ((dm : Nat) : Int) x.p1, .int ((db : Nat) : Int) x.p2, .int ((dk + dm + db : Nat) : Int) x.p3] x.pg) :: (x.Du, listOf #[.int ((dk : Nat) : Int) x.xwi, .int ((dm : Nat) : Int) x.xsh, .int ((db : Nat) : Int) x.xr] x.ug) :: v.led)
structure Lq1 (v : LZ) (st : St) (X Y U V : Int) (dk dm db : Nat) (x : LX) (h₀ : Heap) (L : Addr) (h : Heap) : Prop where
  F : Fr h₀ L h x.mx
  C : Ct v L
  z_p : x.mx (Str.ofString "p") = some (.int ((dk : Int) - (db : Int)) x.xt)
  z_q : x.mx (Str.ofString "q") = some (.int ((dm : Int) - (db : Int)) x.ts)
  z_due : x.mx (Str.ofString "due") = some (.ref x.Du)
  z_x : x.mx (Str.ofString "x") = some (.int X x.v0)
  z_y : x.mx (Str.ofString "y") = some (.int Y x.v1)
  z_u : x.mx (Str.ofString "u") = some (.int U x.v2)
  z_v : x.mx (Str.ofString "v") = some (.int V x.th)
  z_count : x.mx (Str.ofString "count") = some (.int ((v.N / gcd3 v.N v.a v.b : Nat) : Int) v.u4)
  NN : News h₀ L h ((x.Du, listOf #[.int ((dk : Nat) : Int) x.xwi, .int ((dm : Nat) : Int) x.xsh, .int ((db : Nat) : Int) x.xr] x.ug) :: v.led)
theorem seg_29 (w : World) : ∀ (v : LZ) (st : St) (X Y U V : Int) (dk dm db : Nat), dk < 11 → dm < 11 → db < 11 → Seg w 29 1 (fun h₀ L h => ∃ x, Ld1 v st X Y U V dk dm db x h₀ L h) (fun h₀ L h => ∃ x, Ls1 v st X Y U V dk dm db x h₀ L h) := by
  unfold Seg
  k_fill
  intro v st X Y U V dk dm db hk hm hb hrr mean mg mb h₀ L s E X0 T B hP
  obtain ⟨x, hP⟩ := hP
  refine genQ fun QQ hQQ => ?_
  have NN := hP.NN
  have C := hP.C
  have F : Fr h₀ L s.heap (fun y => if y = Str.ofString "parts" then some (.ref x.Pa) else x.mx y) := fr_canon [(Str.ofString "parts", _)] hP.F (List.forall_mem_cons.mpr ⟨hP.z_parts, fun _ h => nomatch h⟩)
  unfold lawEnv lawLit mkLit
  unfold lawBody lawLit mkLit
  dsimp only [List.take, List.drop]
  k_steps
  refine ⟨?_⟩
  have hC := tint_call w dk dm db (dk + dm + db) x.Pa x.pg x.p0 x.p1 x.p2 x.p3 hk hm hb
  unfold Meets2 at hC
  k_dflt (refine' hC _ _ _ _ _ _ _ _ _ _ _ _ _ _ _ _ _ _ _ _ _ ?k1 ?k2 ?k3 ?k4 ?k5 ?k6 ?k7 ?k8 ?_)
  (case k1 => k_asm)
  (case k2 => k_asm)
  (case k3 => k_asm)
  (case k4 => k_asm)
  (case k5 => k_asm)
  (case k6 => rfl)
  (case k7 => ktr_room)
  (case k8 => ktr_units)
  clear hC
  rintro v' tl r1 rk1 F1 N1 ⟨p, th1, ts1, rfl, rfl⟩
  rw [List.singleton_append] at N1
  k_steps
  rename Fr _ _ _ _ => F1
  rename News _ _ _ _ => N1
  exact hQQ _ _ ⟨rfl, _, _, rfl, { x with ts := _, mx := frFun F1 }, ⟨F1, C, rfl, hP.z_due, rfl, hP.z_x, hP.z_y, hP.z_u, hP.z_v, hP.z_count, (news_tail N1)⟩⟩
theorem sum3n {a b c : Nat} : [(a : Int), (b : Int), (c : Int)].sum = ((a + b + c : Nat) : Int) := by simp only [List.sum_cons, List.sum_nil]; omega
theorem seg_30 (w : World) : ∀ (v : LZ) (st : St) (X Y U V : Int) (dk dm db : Nat), dk < 11 → dm < 11 → db < 11 → Seg w 30 1 (fun h₀ L h => ∃ x, Ls1 v st X Y U V dk dm db x h₀ L h) (fun h₀ L h => ∃ x, Ls1 v st X Y U V dk dm db x h₀ L h) := by
  unfold Seg
  k_fill
  intro v st X Y U V dk dm db hk hm hb hrr mean mg mb h₀ L s E X0 T B hP
  obtain ⟨x, hP⟩ := hP
  refine genQ fun QQ hQQ => ?_
  have NN := hP.NN
  have C := hP.C
  have F : Fr h₀ L s.heap (fun y => if y = Str.ofString "due" then some (.ref x.Du) else if y = Str.ofString "parts" then some (.ref x.Pa) else if y = Str.ofString "spread" then some (.float (Float64.ofInt ((max dk (max dm db) - min dk (min dm db) : Nat) : Int)) x.ts) else x.mx y) := fr_canon [(Str.ofString "due", _), (Str.ofString "parts", _), (Str.ofString "spread", _)] hP.F (List.forall_mem_cons.mpr ⟨hP.z_due, List.forall_mem_cons.mpr ⟨hP.z_parts, List.forall_mem_cons.mpr ⟨hP.z_spread, fun _ h => nomatch h⟩⟩⟩)
  unfold lawEnv lawLit mkLit
  unfold lawBody lawLit mkLit
  dsimp only [List.take, List.drop]
  have hf := f_leI (a := max dk (max dm db) - min dk (min dm db)) (Nat.lt_of_le_of_lt (Nat.sub_le ..) (Nat.max_lt.mpr ⟨hk, Nat.max_lt.mpr ⟨hm, hb⟩⟩))
  k_steps
  refine ⟨?_⟩
  rename Fr _ _ _ _ => Fz
  rename News _ _ _ _ => Nz
  refine LSm.sum_ints Fz Nz rfl (vs := [.int (dk : Int) x.xwi, .int (dm : Int) x.xsh, .int (db : Int) x.xr]) (ns := [(dk : Int), (dm : Int), (db : Int)]) (Nz.isList (by k_mem)) (.cons _ _ (.cons _ _ (.cons _ _ .nil))) ?_
  clear Fz Nz
  intro h1 tk1 t1 F1 N1
  rw [sum3n]
  k_steps
  refine ⟨?_⟩
  rename Fr _ _ _ _ => F2
  rename News _ _ _ _ => N2
  refine add_lists (vs := [.int (dk : Int) x.xwi, .int (dm : Int) x.xsh, .int (db : Int) x.xr]) (ws := [.int ((dk + dm + db : Nat) : Int) t1]) F2 N2 (N2.isList (by k_mem)) (N2.isList (by k_mem)) ?_ (by rw [sizeLine_eq]; show 3 + 1 ≤ 16777216; decide)
  intro h3 F3 N3
  dsimp only [List.cons_append, List.nil_append] at N3
  k_steps
  refine ⟨?_⟩
  refine le_if ?_
  rw [hf.1]
  k_steps
  refine ⟨?_⟩
  refine le_fi ?_
  rw [hf.2]
  k_steps
  rename Fr _ _ _ _ => F1
  rename News _ _ _ _ => N1
  exact hQQ _ _ ⟨rfl, _, _, rfl, { x with mx := frFun F1 }, ⟨F1, C, rfl, rfl, rfl, hP.z_x, hP.z_y, hP.z_u, hP.z_v, hP.z_count, (news_tail (news_tail N1))⟩⟩
theorem seg_31 (w : World) : ∀ (v : LZ) (st : St) (X Y U V : Int) (dk dm db : Nat),  Seg w 31 1 (fun h₀ L h => ∃ x, Ls1 v st X Y U V dk dm db x h₀ L h) (fun h₀ L h => ∃ x, Lq1 v st X Y U V dk dm db x h₀ L h) := by
  unfold Seg
  k_fill
  intro v st X Y U V dk dm db hrr mean mg mb h₀ L s E X0 T B hP
  obtain ⟨x, hP⟩ := hP
  refine genQ fun QQ hQQ => ?_
  have NN := hP.NN
  have C := hP.C
  have F : Fr h₀ L s.heap (fun y => if y = Str.ofString "parts" then some (.ref x.Pa) else x.mx y) := fr_canon [(Str.ofString "parts", _)] hP.F (List.forall_mem_cons.mpr ⟨hP.z_parts, fun _ h => nomatch h⟩)
  unfold lawEnv lawLit mkLit
  unfold lawBody lawLit mkLit
  dsimp only [List.take, List.drop]
  k_steps
  rename Fr _ _ _ _ => F1
  rename News _ _ _ _ => N1
  exact hQQ _ _ ⟨rfl, _, _, rfl, { x with xt := _, ts := _, mx := frFun F1 }, ⟨F1, C, rfl, rfl, hP.z_due, hP.z_x, hP.z_y, hP.z_u, hP.z_v, hP.z_count, (news_tail (news_tail N1))⟩⟩
end
-- text G31
section
open PySem PySem.W PySem.Calls PyProof.Rows
set_option maxRecDepth 100000
set_option maxHeartbeats 8000000
set_option genSizeOf false
structure Lz1 (v : LZ) (st : St) (Z : Bool) (X Y U V : Int) (dk dm db : Nat) (x : LX) (h₀ : Heap) (L : Addr) (h : Heap) : Prop where
  F : Fr h₀ L h x.mx
  C : Ct v L
  z_whole : x.mx (Str.ofString "whole") = some (.bool Z)
  z_p : x.mx (Str.ofString "p") = some (.int ((dk : Int) - (db : Int)) x.xt)
  z_q : x.mx (Str.ofString "q") = some (.int ((dm : Int) - (db : Int)) x.ts)
  z_x : x.mx (Str.ofString "x") = some (.int X x.v0)
  z_y : x.mx (Str.ofString "y") = some (.int Y x.v1)
  z_u : x.mx (Str.ofString "u") = some (.int U x.v2)
  z_v : x.mx (Str.ofString "v") = some (.int V x.th)
  z_count : x.mx (Str.ofString "count") = some (.int ((v.N / gcd3 v.N v.a v.b : Nat) : Int) v.u4)
  NN : News h₀ L h (v.led)
local macro_rules | `(tactic| walk_at "compareOp Eq int int") => `(tactic| refine Mine.stop ?_)
local macro_rules | `(tactic| walk_at "compareOp Eq bool bool") => `(tactic| refine Mine.stop ?_)
local macro_rules | `(tactic| walk_at "binaryOp Mod int int") => `(tactic| refine Mine.stop ?_)
noncomputable def RetEnd (s : Shared) (h₀ : Heap) (f : Flow) (s' : Shared) : Prop := f = .ret (.bool true) ∧ ∃ h' tk', s' = { s with heap := h', toks := tk' } ∧ ∀ b o, h₀.get? b = some o → h'.get? b = some o
noncomputable def SegR (w : World) (i n : Nat) (Pre : Heap → Addr → Heap → Prop) : Prop :=
  PySem.Challenge.rw_tp0031_01.prog = PySem.Challenge.rw_tp0031_01.prog → ∀ (mean : ExcName → Option Value) (mg mb : Str → Option Value) (h₀ : Heap) (L : Addr) (s : Shared) (E : Value → Shared → Prop),
    (kf w.params).In h₀ → Top qv (looseW qv lz) mean mg mb h₀ → Below callerA h₀ [] h₀ → Pre h₀ L s.heap →
    wpAny (model PySem.Challenge.rw_tp0031_01.prog w) (callerA.deeper (lawEnv w L)) (execs (((lawBody w).drop i).take n) (lawEnv w L)) (RetEnd s h₀) E s
theorem w3_lt {a b c x y z : Nat} (ha : a < 32) (hb : b < 32) (hc : c < 32) (hx : x < 11) (hy : y < 11) (hz : z < 11) : a * x + b * y + c * z < 2 ^ 20 :=
  Nat.lt_of_le_of_lt (Nat.add_le_add (Nat.add_le_add (Nat.mul_le_mul (Nat.le_of_lt ha) (Nat.le_of_lt hx)) (Nat.mul_le_mul (Nat.le_of_lt hb) (Nat.le_of_lt hy))) (Nat.mul_le_mul (Nat.le_of_lt hc) (Nat.le_of_lt hz))) (by decide)
theorem beq_natZ (n : Nat) : (((n : Nat) : Int) == 0) = (n == 0) := by rw [Bool.eq_iff_iff, beq_iff_eq, beq_iff_eq]; omega
theorem seg_32 (w : World) : ∀ (v : LZ) (st : St) (X Y U V : Int) (dk dm db : Nat), dk < 11 → dm < 11 → db < 11 → Seg w 32 1 (fun h₀ L h => ∃ x, Lq1 v st X Y U V dk dm db x h₀ L h) (fun h₀ L h => ∃ x, Lz1 v st ((v.a * dk + v.b * dm + third v.N v.a v.b * db) % v.N == 0) X Y U V dk dm db x h₀ L h) := by
  unfold Seg
  k_fill
  intro v st X Y U V dk dm db hk hm hb hrr mean mg mb h₀ L s E X0 T B hP
  obtain ⟨x, hP⟩ := hP
  refine genQ fun QQ hQQ => ?_
  have NN := hP.NN
  have C := hP.C
  have H := C.H
  have m5 := C.m5
  have q5 := C.q5
  have mW1 := C.mW1
  have m2 := C.m2
  have q2 := C.q2
  have F : Fr h₀ L s.heap (fun y => if y = Str.ofString "due" then some (.ref x.Du) else x.mx y) := fr_canon [(Str.ofString "due", _)] hP.F (List.forall_mem_cons.mpr ⟨hP.z_due, fun _ h => nomatch h⟩)
  unfold lawEnv lawLit mkLit
  unfold lawBody lawLit mkLit
  dsimp only [List.take, List.drop]
  obtain ⟨ha32, hb32, hc32⟩ := num32 H
  k_steps
  refine ⟨?_⟩
  rename Fr _ _ _ _ => Fz
  rename News _ _ _ _ => Nz
  k_dflt (refine' zip_prod (xs := #[.int (v.a : Int) v.u1, .int (v.b : Int) v.u2, .int ((third v.N v.a v.b : Nat) : Int) v.u3]) (ys := #[.int (dk : Int) x.xwi, .int (dm : Int) x.xsh, .int (db : Int) x.xr]) Fz Nz (sel3 (v.a : Int) (v.b : Int) ((third v.N v.a v.b : Nat) : Int)) (sel3 (dk : Int) (dm : Int) (db : Int)) 3 ?hclos ?hcell ?hkind ?hnames ?hx ?hy ?hxx ?hh ?hd1 ?hd2 ?hn ?hsz (arr3 rfl) (arr3 rfl) (mulOk3 ha32 hb32 hc32) ?_ ?hs)
  (case hclos => with_unfolding_all rfl)
  (case hcell => decide)
  (case hkind => with_unfolding_all rfl)
  (case hnames => decide)
  (case hx => with_unfolding_all rfl)
  (case hy => with_unfolding_all rfl)
  (case hxx => decide)
  (case hh => with_unfolding_all rfl)
  (case hd1 => decide)
  (case hd2 => decide)
  (case hn => rfl)
  (case hsz => rw [sizeLine_eq]; decide)
  (case hs => intro _; with_unfolding_all rfl)
  k_steps
  refine ⟨?_⟩
  refine zip_rows Fz (Nz.isList (by k_mem)) (Nz.isList (by k_mem)) ?_
  intro zh z TI TO zi1 zi2 zap zst _ zk zn1 zn2 zn3 zn4 _
  refine ⟨z, TI, TO, zi1, zi2, _, _, rfl, zap, zst, zn1, zn2, zn3, zn4, zk, ⟨?_⟩⟩
  intro Dz zh2 ztk zvs Fz2 Nz2 zl zi
  clear zap zst zk zn1 zn2 zn3 zn4 Fz Nz
  k_steps
  refine ⟨?_⟩
  refine LSm.sum_ints Fz2 Nz2 rfl zl zi ?_
  clear Fz2 Nz2 zl zi
  intro zh3 ztk3 tz3 Fz3 Nz3
  rw [sum3]
  k_steps
  refine ⟨?_⟩
  k_dflt (refine' meets_use (rest_int w _ (v.a * dk + v.b * dm + third v.N v.a v.b * db) v.N _ _ (by rw [Int.natCast_add, Int.natCast_add, Int.natCast_mul, Int.natCast_mul, Int.natCast_mul]) (w3_lt ha32 hb32 hc32 hk hm hb) (Nat.lt_of_lt_of_le (by decide) H.n8) (Nat.lt_of_le_of_lt H.n16 (by decide))) ?k1 ?k2 ?k3 ?k4 ?k5 ?k6 ?k7 ?k8 ?_)
  (case k1 => k_asm)
  (case k2 => k_asm)
  (case k3 => k_asm)
  (case k4 => k_asm)
  (case k5 => k_asm)
  (case k6 => rfl)
  (case k7 => ktr_room)
  (case k8 => ktr_units)
  rintro vv tl r1 rk1 F1 N1 ⟨rfl, tr1, rfl⟩
  rw [List.nil_append] at N1
  k_steps
  refine ⟨?_⟩
  refine PyProof.Rows.eq_int ?_
  rw [beq_natZ]
  k_steps
  rename Fr _ _ _ _ => F1
  rename News _ _ _ _ => N1
  exact hQQ _ _ ⟨rfl, _, _, rfl, { x with mx := frFun F1 }, ⟨F1, C, rfl, hP.z_p, hP.z_q, hP.z_x, hP.z_y, hP.z_u, hP.z_v, hP.z_count, (news_tail N1)⟩⟩
theorem eq_bool_same {prog : Program} {w : World} {A : Around} {E : Value → Shared → Prop} {s : Shared} {Q : Value → Shared → Prop} {c : Bool} (h : Q (.bool true) s) : wpAny (model prog w) A (compareOp .Eq (.bool c) (.bool c)) Q E s :=
  PyProof.Rows.eq_bool (by rw [beq_self_eq_true]; exact h)
theorem eq_int_of {prog : Program} {w : World} {A : Around} {E : Value → Shared → Prop} {s : Shared} {Q : Value → Shared → Prop} {a b : Int} {t u : Tok} {z : Bool} (hz : z = (a == b)) (h : Q (.bool z) s) : wpAny (model prog w) A (compareOp .Eq (.int a t) (.int b u)) Q E s :=
  PyProof.Rows.eq_int (by rw [← hz]; exact h)
theorem seg_33 (w : World) : ∀ (v : LZ) (st : St) (Z : Bool) (X Y U V : Int) (dk dm db : Nat), dk < 11 → dm < 11 → db < 11 → (-11 < X ∧ X < 11) → (-11 < Y ∧ Y < 11) → 
    Z = (((((dk : Int) - (db : Int)) * V - ((dm : Int) - (db : Int)) * U).fmod ((v.N / gcd3 v.N v.a v.b : Nat) : Int) == 0) && ((X * ((dm : Int) - (db : Int)) - Y * ((dk : Int) - (db : Int))).fmod ((v.N / gcd3 v.N v.a v.b : Nat) : Int) == 0)) → 0 < v.N / gcd3 v.N v.a v.b →
    SegR w 33 1 (fun h₀ L h => ∃ x, Lz1 v st Z X Y U V dk dm db x h₀ L h) := by
  unfold SegR
  k_fill
  intro v st Z X Y U V dk dm db hk hm hb bX bY hZ hct hrr mean mg mb h₀ L s E X0 T B hP
  obtain ⟨x, hP⟩ := hP
  obtain ⟨mm, F, h1, h2, h3, h4, h5, h6, h7, h8⟩ : ∃ mm, Fr h₀ L s.heap mm ∧ mm (Str.ofString "whole") = some (.bool Z) ∧ mm (Str.ofString "p") = some (.int ((dk : Int) - (db : Int)) x.xt) ∧ mm (Str.ofString "q") = some (.int ((dm : Int) - (db : Int)) x.ts) ∧ mm (Str.ofString "x") = some (.int X x.v0) ∧ mm (Str.ofString "y") = some (.int Y x.v1) ∧ mm (Str.ofString "u") = some (.int U x.v2) ∧ mm (Str.ofString "v") = some (.int V x.th) ∧ mm (Str.ofString "count") = some (.int ((v.N / gcd3 v.N v.a v.b : Nat) : Int) v.u4) := ⟨_, hP.F, hP.z_whole, hP.z_p, hP.z_q, hP.z_x, hP.z_y, hP.z_u, hP.z_v, hP.z_count⟩
  have hct' : ((v.N / gcd3 v.N v.a v.b : Nat) : Int) ≠ 0 := Int.ofNat_ne_zero.mpr (Nat.ne_of_gt hct)
  have bp : -33 < (dk : Int) - (db : Int) ∧ (dk : Int) - (db : Int) < 33 := by clear hP h1 h2 h3 h4 h5 h6 h7 h8 hZ bX bY hct hct'; omega
  have bq : -33 < (dm : Int) - (db : Int) ∧ (dm : Int) - (db : Int) < 33 := by clear hP h1 h2 h3 h4 h5 h6 h7 h8 hZ bX bY hct hct' bp; omega
  have bX' : -33 < X ∧ X < 33 := by clear hP h1 h2 h3 h4 h5 h6 h7 h8 hZ bp bq hct hct' bY; omega
  have bY' : -33 < Y ∧ Y < 33 := by clear hP h1 h2 h3 h4 h5 h6 h7 h8 hZ bp bq hct hct' bX bX'; omega
  clear hP hct
  generalize (dk : Int) - (db : Int) = p at *
  generalize (dm : Int) - (db : Int) = q at *
  generalize ((v.N / gcd3 v.N v.a v.b : Nat) : Int) = ct at *
  replace F : Fr h₀ L s.heap (fun y => if y = Str.ofString "whole" then some (.bool Z) else if y = Str.ofString "p" then some (.int p x.xt) else if y = Str.ofString "q" then some (.int q x.ts) else if y = Str.ofString "x" then some (.int X x.v0) else if y = Str.ofString "y" then some (.int Y x.v1) else if y = Str.ofString "u" then some (.int U x.v2) else if y = Str.ofString "v" then some (.int V x.th) else if y = Str.ofString "count" then some (.int ct v.u4) else mm y) := fr_canon [(Str.ofString "whole", _), (Str.ofString "p", _), (Str.ofString "q", _), (Str.ofString "x", _), (Str.ofString "y", _), (Str.ofString "u", _), (Str.ofString "v", _), (Str.ofString "count", _)] F (List.forall_mem_cons.mpr ⟨h1, List.forall_mem_cons.mpr ⟨h2, List.forall_mem_cons.mpr ⟨h3, List.forall_mem_cons.mpr ⟨h4, List.forall_mem_cons.mpr ⟨h5, List.forall_mem_cons.mpr ⟨h6, List.forall_mem_cons.mpr ⟨h7, List.forall_mem_cons.mpr ⟨h8, fun _ h => nomatch h⟩⟩⟩⟩⟩⟩⟩⟩)
  clear h1 h2 h3 h4 h5 h6 h7 h8
  unfold lawEnv lawLit mkLit
  unfold lawBody lawLit mkLit
  dsimp only [List.take, List.drop]
  k_steps
  refine ⟨?_⟩
  refine PyProof.Rows.mul_int ?_ (.of_left (bitsZ bp))
  k_steps
  refine ⟨?_⟩
  refine PyProof.Rows.mul_int ?_ (.of_left (bitsZ bq))
  k_steps
  refine ⟨?_⟩
  refine PyProof.Rows.mod_int hct' ?_
  k_steps
  refine ⟨?_⟩
  refine PyProof.Rows.eq_int ?_
  cases h1 : ((p * V - q * U).fmod ct == 0)
  · rw [h1, Bool.false_and] at hZ
    subst hZ
    k_steps
    refine ⟨?_⟩
    refine eq_bool_same ?_
    k_steps
    rename Fr _ _ _ _ => F9
    exact ⟨rfl, _, _, rfl, F9.keep⟩
  · rw [h1, Bool.true_and] at hZ
    k_steps
    refine ⟨?_⟩
    refine PyProof.Rows.mul_int ?_ (.of_left (bitsZ bX'))
    k_steps
    refine ⟨?_⟩
    refine PyProof.Rows.mul_int ?_ (.of_left (bitsZ bY'))
    k_steps
    refine ⟨?_⟩
    refine PyProof.Rows.mod_int hct' ?_
    k_steps
    refine ⟨?_⟩
    refine eq_int_of hZ ?_
    k_steps
    refine ⟨?_⟩
    refine eq_bool_same ?_
    k_steps
    rename Fr _ _ _ _ => F9
    exact ⟨rfl, _, _, rfl, F9.keep⟩
end
end
end
end Mine
end
-- text F1
section
namespace Mine
theorem int_dvd_of_fmod {c z : Int} : (z.fmod c == 0) = decide (c ∣ z) := by
  rw [Bool.eq_iff_iff, beq_iff_eq, decide_eq_true_iff]
  exact ⟨Int.dvd_of_fmod_eq_zero, Int.fmod_eq_zero_of_dvd⟩
theorem g_dvd {N a b : Nat} (hN : 0 < N) {s : Int} (h1 : (N : Int) ∣ (a : Int) * s) (h2 : (N : Int) ∣ (b : Int) * s) : ((N / gcd3 N a b : Nat) : Int) ∣ s := by
  have g0 : 0 < gcd3 N a b := Nat.gcd_pos_of_pos_right _ hN
  have gN : gcd3 N a b ∣ N := Nat.gcd_dvd_right ..
  have k1 : N ∣ a * s.natAbs := by
    have := Int.natAbs_dvd_natAbs.mpr h1
    rwa [Int.natAbs_mul, Int.natAbs_natCast, Int.natAbs_natCast] at this
  have k2 : N ∣ b * s.natAbs := by
    have := Int.natAbs_dvd_natAbs.mpr h2
    rwa [Int.natAbs_mul, Int.natAbs_natCast, Int.natAbs_natCast] at this
  have k3 : N ∣ gcd3 N a b * s.natAbs := by
    unfold gcd3
    rw [← Nat.gcd_mul_right, ← Nat.gcd_mul_right]
    exact Nat.dvd_gcd (Nat.dvd_gcd k1 k2) (Nat.dvd_mul_right ..)
  have k4 : N / gcd3 N a b ∣ s.natAbs := by
    refine Nat.dvd_of_mul_dvd_mul_left g0 ?_
    rwa [Nat.mul_div_cancel' gN]
  exact Int.natAbs_dvd_natAbs.mp (by rwa [Int.natAbs_natCast])
theorem third_int {N a b : Nat} (H : Num N a b) (dk dm db : Nat) : ((a * dk + b * dm + third N a b * db) % N == 0) = decide ((N : Int) ∣ (a : Int) * ((dk : Int) - (db : Int)) + (b : Int) * ((dm : Int) - (db : Int))) := by
  have h8 := H.n8
  obtain ⟨t, ht⟩ : ∃ t, third N a b + (a + b) = N * t := by
    refine (Nat.dvd_of_mod_eq_zero ?_)
    have h2 := H.aN
    have h3 := H.bN
    have h4 := H.a1
    have h5 := H.ab
    unfold third
    by_cases h : a + b < N
    · rw [Nat.mod_eq_of_lt h, Nat.mod_eq_of_lt (by omega : N - (a + b) < N), show N - (a + b) + (a + b) = N by omega, Nat.mod_self]
    · rw [Nat.mod_eq_sub_mod (by omega : N ≤ a + b), Nat.mod_eq_of_lt (by omega : a + b - N < N), Nat.mod_eq_of_lt (by omega : N - (a + b - N) < N), show N - (a + b - N) + (a + b) = N * 2 by omega, Nat.mul_mod_right]
  have e : (a : Int) * ((dk : Int) - (db : Int)) + (b : Int) * ((dm : Int) - (db : Int)) = ((a * dk + b * dm + third N a b * db : Nat) : Int) - (N : Int) * ((t * db : Nat) : Int) := by
    have ht' : ((third N a b : Nat) : Int) = (N : Int) * (t : Int) - (a : Int) - (b : Int) := by omega
    simp only [Int.natCast_add, Int.natCast_mul, ht']
    grind
  rw [e, Bool.eq_iff_iff, beq_iff_eq, decide_eq_true_iff]
  generalize a * dk + b * dm + third N a b * db = n
  constructor
  · intro h
    exact Int.dvd_sub (Int.natCast_dvd_natCast.mpr (Nat.dvd_of_mod_eq_zero h)) (Int.dvd_mul_right ..)
  · intro h
    have := Int.dvd_add h (Int.dvd_mul_right (N : Int) ((t * db : Nat) : Int))
    rw [Int.sub_add_cancel] at this
    exact Nat.mod_eq_zero_of_dvd (Int.natCast_dvd_natCast.mp this)
theorem fin_eq {N a b : Nat} (H : Num N a b) {st : St} {mN nN : Nat} {X Y U V : Int} (hc : Chk N a b st mN nN X Y U V) (dk dm db : Nat) :
    ((a * dk + b * dm + third N a b * db) % N == 0) = (((((dk : Int) - (db : Int)) * V - ((dm : Int) - (db : Int)) * U).fmod ((N / gcd3 N a b : Nat) : Int) == 0) && ((X * ((dm : Int) - (db : Int)) - Y * ((dk : Int) - (db : Int))).fmod ((N / gcd3 N a b : Nat) : Int) == 0)) := by
  rw [third_int H, int_dvd_of_fmod, int_dvd_of_fmod, ← Bool.decide_and]
  generalize (dk : Int) - (db : Int) = p
  generalize (dm : Int) - (db : Int) = q
  have e1 : (N : Int) ∣ (a : Int) * X + (b : Int) * Y := Int.dvd_of_emod_eq_zero hc.c7
  have e2 : (N : Int) ∣ (a : Int) * U + (b : Int) * V := Int.dvd_of_emod_eq_zero hc.c8
  have hN : 0 < N := by have := H.n8; omega
  have hD := hc.c3
  refine decide_eq_decide.mpr ⟨fun h => ⟨g_dvd hN ?_ ?_, g_dvd hN ?_ ?_⟩, fun h => ?_⟩
  · obtain ⟨k, hk⟩ := h
    obtain ⟨k2, hk2⟩ := e2
    exact ⟨k * V - q * k2, by grind⟩
  · obtain ⟨k, hk⟩ := h
    obtain ⟨k2, hk2⟩ := e2
    exact ⟨p * k2 - k * U, by grind⟩
  · obtain ⟨k, hk⟩ := h
    obtain ⟨k1, hk1⟩ := e1
    exact ⟨q * k1 - Y * k, by grind⟩
  · obtain ⟨k, hk⟩ := h
    obtain ⟨k1, hk1⟩ := e1
    exact ⟨X * k - p * k1, by grind⟩
  · obtain ⟨⟨s, hs⟩, ⟨t, ht⟩⟩ := h
    have g0 : 0 < gcd3 N a b := Nat.gcd_pos_of_pos_right _ hN
    have gN : gcd3 N a b ∣ N := Nat.gcd_dvd_right ..
    have c0 : 0 < N / gcd3 N a b := Nat.div_pos (Nat.le_of_dvd hN gN) g0
    have c0' : ((N / gcd3 N a b : Nat) : Int) ≠ 0 := by omega
    obtain ⟨f, hf, hf1⟩ : ∃ f : Int, X * V - Y * U = f * ((N / gcd3 N a b : Nat) : Int) ∧ f * f = 1 := by
      rcases Int.natAbs_eq (X * V - Y * U) with h | h
      · exact ⟨1, by rw [Int.one_mul, h, hD], rfl⟩
      · exact ⟨-1, by rw [h, hD]; omega, rfl⟩
    generalize ((N / gcd3 N a b : Nat) : Int) = c at *
    have hp : p = f * (s * X + t * U) := by
      refine Int.eq_of_mul_eq_mul_left c0' ?_
      have : p * (X * V - Y * U) = c * (s * X + t * U) := by grind
      rw [hf] at this
      grind
    have hq : q = f * (s * Y + t * V) := by
      refine Int.eq_of_mul_eq_mul_left c0' ?_
      have : q * (X * V - Y * U) = c * (s * Y + t * V) := by grind
      rw [hf] at this
      grind
    obtain ⟨k1, hk1⟩ := e1
    obtain ⟨k2, hk2⟩ := e2
    exact ⟨f * (s * k1 + t * k2), by rw [hp, hq]; grind⟩
end Mine
end
-- text F2
section
set_option maxRecDepth 100000
namespace Mine
noncomputable def rotT (p : Txt3) : Txt3 := (p.1, (p.2.1 + 1) % 6, p.2.2)
noncomputable def rotS (s : St) : St := ⟨s.mask, s.cnt, s.wide, s.short, s.found.map rotT⟩
noncomputable def lowS (s : St) : Prop := ∀ p ∈ s.found, p.2.1 < 6
theorem beq_congr {a b c d : Nat} (h : a = b ↔ c = d) : Nat.beq a b = Nat.beq c d := by
  rw [Bool.eq_iff_iff, Nat.beq_eq, Nat.beq_eq]; exact h
theorem dir6 : ∀ p, p < 6 → ∀ q, q < 6 → ((p + 1) % 6 = (q + 1) % 6 ↔ p = q) := by decide
theorem rot_dir {p q : Txt3} (hp : p.2.1 < 6) (hq : q.2.1 < 6) : dirNe (rotT p) (rotT q) = dirNe p q := by
  unfold dirNe rotT
  dsimp only
  rw [beq_congr (dir6 _ hp _ hq)]
theorem rot_note {t : Txt3} {l : List Txt3} (ht : t.2.1 < 6) (hl : ∀ p ∈ l, p.2.1 < 6) : note (rotT t) (l.map rotT) = (note t l).map rotT := by
  match l, hl with
  | [], _ => rfl
  | [p], hl =>
    have := rot_dir ht (hl p (.head _))
    simp only [List.map_cons, List.map_nil, note, this]
    cases dirNe t p <;> rfl
  | p :: q :: r, _ => rfl
theorem low_note {t : Txt3} {l : List Txt3} (ht : t.2.1 < 6) (hl : ∀ p ∈ l, p.2.1 < 6) : ∀ p ∈ note t l, p.2.1 < 6 := by
  match l, hl with
  | [], _ => intro p hp; cases hp with | head => exact ht | tail _ h => cases h
  | [q], hl =>
    intro p hp
    unfold note at hp
    dsimp only at hp
    cases h : dirNe t q with
    | true =>
      rw [h] at hp
      rcases List.mem_cons.mp hp with rfl | hp
      · exact hl _ (.head _)
      · rcases List.mem_cons.mp hp with rfl | hp
        · exact ht
        · cases hp
    | false =>
      rw [h] at hp
      exact hl p hp
  | q :: r :: l, hl => exact hl
theorem rot_far1 (l : List Txt3) : far1 (l.map rotT) = far1 l := by cases l <;> rfl
theorem rot_see (N r ring : Nat) (s : St) : see N r ring (rotS s) = rotS (see N r ring s) := by
  unfold see
  show (match hasB s.mask r with | true => rotS s | false => _) = _
  cases hasB s.mask r <;> rfl
theorem low_see {N r ring : Nat} {s : St} (h : lowS s) : lowS (see N r ring s) := by
  unfold see
  cases hasB s.mask r <;> exact h
theorem rot_find {r : Nat} {t : Txt3} {s : St} (ht : t.2.1 < 6) (h : lowS s) : find r (rotT t) (rotS s) = rotS (find r t s) := by
  unfold find
  cases Nat.beq r 0 with
  | false => rfl
  | true =>
    show St.mk s.mask s.cnt s.wide (match Nat.beq t.1 (far1 (note (rotT t) (s.found.map rotT))) with | true => s.short + 1 | false => s.short) (note (rotT t) (s.found.map rotT)) = _
    rw [rot_note ht h, rot_far1]
    rfl
theorem low_find {r : Nat} {t : Txt3} {s : St} (ht : t.2.1 < 6) (h : lowS s) : lowS (find r t s) := by
  unfold find
  cases Nat.beq r 0 with
  | false => exact h
  | true => exact low_note ht h
theorem rest_congr {N W1 W2 V1 V2 : Nat} (h1 : W1 % N = V1 % N) (h2 : W2 % N = V2 % N) (ring far : Nat) : restN N W1 W2 ring far = restN N V1 V2 ring far := by
  unfold restN
  rw [Nat.add_mod, Nat.mul_mod, Nat.mul_mod far W2, h1, h2, ← Nat.mul_mod, ← Nat.mul_mod, ← Nat.add_mod]
theorem rot_far {N W1 W2 V1 V2 : Nat} (h1 : W1 % N = V1 % N) (h2 : W2 % N = V2 % N) (ring : Nat) {sd : Nat} (hs : sd < 6) : ∀ (i : Nat) {s : St}, lowS s →
    farRun N W1 W2 ring ((sd + 1) % 6) i (rotS s) = rotS (farRun N V1 V2 ring sd i s) ∧ lowS (farRun N V1 V2 ring sd i s)
  | 0, _, h => ⟨rfl, h⟩
  | i + 1, s, h => by
    obtain ⟨e, l⟩ := rot_far h1 h2 ring hs i h
    unfold farRun step
    rw [e, rest_congr h1 h2, rot_see]
    exact ⟨rot_find (t := (ring, sd, i)) hs (low_see l), low_find (t := (ring, sd, i)) hs (low_see l)⟩
structure Turned (N a b c a' b' c' : Nat) : Prop where
  w : ∀ i, i < 6 → wt a b c ((i + 1) % 6) % N = wt a' b' c' i % N
theorem rot_side {N a b c a' b' c' : Nat} (T : Turned N a b c a' b' c') (turn ring : Nat) : ∀ (j : Nat) {s : St}, lowS s →
    sideRun N a b c (turn + 1) ring j (rotS s) = rotS (sideRun N a' b' c' turn ring j s) ∧ lowS (sideRun N a' b' c' turn ring j s)
  | 0, _, h => ⟨rfl, h⟩
  | j + 1, s, h => by
    obtain ⟨e, l⟩ := rot_side T turn ring j h
    unfold sideRun
    rw [e, show (turn + 1 + j) % 6 = ((turn + j) % 6 + 1) % 6 by rw [Nat.mod_add_mod, Nat.add_right_comm]]
    exact rot_far (T.w _ (Nat.mod_lt _ (by decide))) (T.w _ (Nat.mod_lt _ (by decide))) ring (Nat.mod_lt _ (by decide)) ring l
theorem rot_two (l : List Txt3) : two? (l.map rotT) = two? l := by
  match l with
  | [] => rfl
  | [_] => rfl
  | [_, _] => rfl
  | _ :: _ :: _ :: _ => rfl
noncomputable def dx (i : Nat) : Int := ((stp i).1 : Int) - ((stp i).2.2 : Int)
noncomputable def dy (i : Nat) : Int := ((stp i).2.1 : Int) - ((stp i).2.2 : Int)
theorem lin4 (k f p q r s : Nat) : ((k * p + f * q : Nat) : Int) - ((k * r + f * s : Nat) : Int) = (k : Int) * ((p : Int) - r) + (f : Int) * ((q : Int) - s) := by
  rw [Int.natCast_add, Int.natCast_add, Int.natCast_mul, Int.natCast_mul, Int.natCast_mul, Int.natCast_mul, Int.mul_sub, Int.mul_sub]
  omega
theorem ptx_lin (r s f : Nat) : ptx (r, s, f) = ((r - f : Nat) : Int) * dx s + (f : Int) * dx ((s + 1) % 6) := lin4 ..
theorem pty_lin (r s f : Nat) : pty (r, s, f) = ((r - f : Nat) : Int) * dy s + (f : Int) * dy ((s + 1) % 6) := lin4 ..
theorem dxy6 : ∀ s, s < 6 → dx ((s + 1) % 6) = dx s - dy s ∧ dy ((s + 1) % 6) = dx s := by decide
theorem lin_sub (k f a b c d : Int) : k * (a - b) + f * (c - d) = k * a + f * c - (k * b + f * d) := by
  rw [Int.mul_sub, Int.mul_sub]
  omega
theorem rot_pt : ∀ {p : Txt3}, p.2.1 < 6 → ptx (rotT p) = ptx p - pty p ∧ pty (rotT p) = ptx p
  | (r, s, f), h => by
    have h1 := dxy6 s h
    have h2 := dxy6 ((s + 1) % 6) (Nat.mod_lt _ (by decide))
    refine ⟨(ptx_lin r ((s + 1) % 6) f).trans ?_, (pty_lin r ((s + 1) % 6) f).trans ?_⟩
    · rw [ptx_lin, pty_lin, h2.1, h1.1, lin_sub]
    · rw [ptx_lin, h2.2, h1.2]
noncomputable def turnA (N a b : Nat) : Nat := (a + b) % N
noncomputable def turnB : Bool := (List.range 17).all fun N => (List.range N).all fun a => (List.range N).all fun b =>
  (Nat.beq a 0 || Nat.beq b 0 || Nat.beq (a + b) N || (Nat.ble 1 (turnA N a b) && Nat.ble 1 (N - a) && !Nat.beq (turnA N a b + (N - a)) N)) &&
    (List.range 6).all fun i => Nat.beq (wt a b (third N a b) ((i + 1) % 6) % N) (wt (turnA N a b) (N - a) (third N (turnA N a b) (N - a)) i % N)
theorem turnB_ok : turnB = true := by decide +kernel
theorem turn_all {N a b : Nat} (H : Num N a b) : (Num N (turnA N a b) (N - a)) ∧ Turned N a b (third N a b) (turnA N a b) (N - a) (third N (turnA N a b) (N - a)) := by
  have h := turnB_ok
  unfold turnB at h
  have h := List.all_eq_true.mp (List.all_eq_true.mp (List.all_eq_true.mp h N (List.mem_range.mpr (Nat.lt_succ_of_le H.n16))) a (List.mem_range.mpr H.aN)) b (List.mem_range.mpr H.bN)
  rw [Bool.and_eq_true] at h
  obtain ⟨h1, h2⟩ := h
  rw [show Nat.beq a 0 = false from Bool.eq_false_iff.mpr fun e => Nat.ne_of_gt H.a1 (Nat.eq_of_beq_eq_true e), show Nat.beq b 0 = false from Bool.eq_false_iff.mpr fun e => Nat.ne_of_gt H.b1 (Nat.eq_of_beq_eq_true e), show Nat.beq (a + b) N = false from Bool.eq_false_iff.mpr fun e => H.ab (Nat.eq_of_beq_eq_true e), Bool.false_or, Bool.false_or, Bool.false_or, Bool.and_eq_true, Bool.and_eq_true, Bool.not_eq_true'] at h1
  refine ⟨⟨H.n8, H.n16, Nat.le_of_ble_eq_true h1.1.1, Nat.mod_lt _ (Nat.lt_of_lt_of_le (by decide) H.n8), Nat.le_of_ble_eq_true h1.1.2, Nat.sub_lt (Nat.lt_of_lt_of_le (by decide) H.n8) H.a1, fun e => ?_⟩, ⟨fun i hi => Nat.eq_of_beq_eq_true (List.all_eq_true.mp h2 i (List.mem_range.mpr hi))⟩⟩
  have h3 := h1.2
  rw [e] at h3
  rw [Nat.beq_refl] at h3
  cases h3
theorem turn_num {N a b : Nat} (H : Num N a b) : Num N (turnA N a b) (N - a) := (turn_all H).1
theorem turned {N a b : Nat} (H : Num N a b) : Turned N a b (third N a b) (turnA N a b) (N - a) (third N (turnA N a b) (N - a)) := (turn_all H).2
theorem gcd_turn {N a b : Nat} (H : Num N a b) : gcd3 N (turnA N a b) (N - a) = gcd3 N a b := by
  have h2 := H.aN
  unfold gcd3 turnA
  refine Nat.dvd_antisymm ?_ ?_
  · generalize hg : Nat.gcd (Nat.gcd ((a + b) % N) (N - a)) N = g
    have g1 : g ∣ N := hg ▸ Nat.gcd_dvd_right ..
    have g2 : g ∣ (a + b) % N := hg ▸ Nat.dvd_trans (Nat.gcd_dvd_left ..) (Nat.gcd_dvd_left ..)
    have g3 : g ∣ N - a := hg ▸ Nat.dvd_trans (Nat.gcd_dvd_left ..) (Nat.gcd_dvd_right ..)
    have g4 : g ∣ a := by
      have := Nat.dvd_sub g1 g3
      rwa [show N - (N - a) = a by omega] at this
    have g5 : g ∣ a + b := (Nat.dvd_mod_iff g1).mp g2
    exact Nat.dvd_gcd (Nat.dvd_gcd g4 ((Nat.dvd_add_iff_right g4).mpr g5)) g1
  · generalize hg : Nat.gcd (Nat.gcd a b) N = g
    have g1 : g ∣ N := hg ▸ Nat.gcd_dvd_right ..
    have g2 : g ∣ a := hg ▸ Nat.dvd_trans (Nat.gcd_dvd_left ..) (Nat.gcd_dvd_left ..)
    have g3 : g ∣ b := hg ▸ Nat.dvd_trans (Nat.gcd_dvd_left ..) (Nat.gcd_dvd_right ..)
    exact Nat.dvd_gcd (Nat.dvd_gcd ((Nat.dvd_mod_iff g1).mpr (Nat.dvd_add g2 g3)) (Nat.dvd_sub g1 g2)) g1
theorem turn_mod {N a b : Nat} (H : Num N a b) (x y : Int) : ((a : Int) * (x - y) + (b : Int) * x) % (N : Int) = (((turnA N a b : Nat) : Int) * x + ((N - a : Nat) : Int) * y) % (N : Int) := by
  have h2 := H.aN
  have e : ((turnA N a b : Nat) : Int) = (a : Int) + b - N * (((a + b) / N : Nat) : Int) := by
    have := Nat.mod_add_div (a + b) N
    unfold turnA
    have h : (((a + b) % N + N * ((a + b) / N) : Nat) : Int) = ((a + b : Nat) : Int) := by rw [this]
    rw [Int.natCast_add, Int.natCast_mul, Int.natCast_add] at h
    omega
  have e' : (a : Int) * (x - y) + (b : Int) * x = (((turnA N a b : Nat) : Int) * x + ((N - a : Nat) : Int) * y) + (N : Int) * ((((a + b) / N : Nat) : Int) * x - y) := by
    rw [e, Int.ofNat_sub (Nat.le_of_lt h2)]
    grind
  rw [e', Int.add_mul_emod_self_left]
theorem rot_check {N a b : Nat} (H : Num N a b) {s : St} (h : lowS s) : check N a b (rotS s) = check N (turnA N a b) (N - a) s := by
  obtain ⟨mask, cnt, wide, short, found⟩ := s
  match found, h with
  | [], _ => rfl
  | [_], _ => rfl
  | _ :: _ :: _ :: _, _ => rfl
  | [p, q], h =>
    obtain ⟨p1, p2⟩ := rot_pt (h p (.head _))
    obtain ⟨q1, q2⟩ := rot_pt (h q (.tail _ (.head _)))
    have d : (ptx p - pty p) * ptx q - ptx p * (ptx q - pty q) = ptx p * pty q - pty p * ptx q := by grind
    show check N a b ⟨mask, cnt, wide, short, [rotT p, rotT q]⟩ = _
    unfold check
    dsimp only
    rw [p1, p2, q1, q2, gcd_turn H, turn_mod H, turn_mod H, d]
    rfl
theorem rot_go {N a b : Nat} (H : Num N a b) (turn : Nat) : ∀ (f ring : Nat) {s : St}, lowS s →
    go N a b (third N a b) (turn + 1) f ring (rotS s) = go N (turnA N a b) (N - a) (third N (turnA N a b) (N - a)) turn f ring s
  | 0, _, _, _ => rfl
  | f + 1, ring, s, h => by
    obtain ⟨e, l⟩ := rot_side (turned H) turn ring 3 h
    unfold go
    rw [e]
    show (match two? (List.map rotT _) with | true => _ | false => _) = _
    rw [rot_two]
    cases two? (sideRun N (turnA N a b) (N - a) (third N (turnA N a b) (N - a)) turn ring 3 s).found with
    | true => exact rot_check H l
    | false => exact rot_go H turn f (ring + 1) l
theorem good_turn {N a b : Nat} (H : Num N a b) (turn : Nat) : good1 N a b (turn + 1) = good1 N (turnA N a b) (N - a) turn :=
  rot_go H turn 8 1 (s := st0) (fun _ h => nomatch h)
noncomputable def goodN (N : Nat) : Bool := (List.range N).all fun a => (List.range N).all fun b => Nat.beq a 0 || Nat.beq b 0 || Nat.beq ((a + b) % N) 0 || good1 N a b 0
theorem good8 : goodN 8 = true := by decide +kernel
theorem good9 : goodN 9 = true := by decide +kernel
theorem good10 : goodN 10 = true := by decide +kernel
theorem good11 : goodN 11 = true := by decide +kernel
theorem good12 : goodN 12 = true := by decide +kernel
theorem good13 : goodN 13 = true := by decide +kernel
theorem good14 : goodN 14 = true := by decide +kernel
theorem good15 : goodN 15 = true := by decide +kernel
theorem good16 : goodN 16 = true := by decide +kernel
theorem good_N {N : Nat} (h8 : 8 ≤ N) (h16 : N ≤ 16) : goodN N = true := by
  obtain ⟨k, rfl⟩ := Nat.exists_eq_add_of_le h8
  have h : k ≤ 8 := Nat.le_of_add_le_add_left (a := 8) h16
  exact match k, h with
    | 0, _ => good8
    | 1, _ => good9
    | 2, _ => good10
    | 3, _ => good11
    | 4, _ => good12
    | 5, _ => good13
    | 6, _ => good14
    | 7, _ => good15
    | 8, _ => good16
    | k + 9, h => absurd h (Nat.not_le_of_gt (Nat.le_add_left 9 k))
theorem mod_ne0 {N a b : Nat} (ha : 0 < a) (h1 : a < N) (h2 : b < N) (h : a + b ≠ N) : (a + b) % N ≠ 0 := by
  intro e
  obtain ⟨k, hk⟩ := Nat.dvd_of_mod_eq_zero e
  match k, hk with
  | 0, hk => omega
  | 1, hk => omega
  | k + 2, hk =>
    rw [Nat.mul_add] at hk
    omega
theorem good_none {N a b : Nat} (H : Num N a b) : good1 N a b 0 = true := by
  have h := good_N H.n8 H.n16
  unfold goodN at h
  have h := List.all_eq_true.mp (List.all_eq_true.mp h a (List.mem_range.mpr H.aN)) b (List.mem_range.mpr H.bN)
  simp only [Bool.or_eq_true, Nat.beq_eq] at h
  rcases h with ((h | h) | h) | h
  · exact absurd h (Nat.ne_of_gt H.a1)
  · exact absurd h (Nat.ne_of_gt H.b1)
  · exact absurd h (mod_ne0 H.a1 H.aN H.bN H.ab)
  · exact h
theorem good_every {N : Nat} : ∀ (tr : Nat) {a b : Nat}, Num N a b → good1 N a b tr = true
  | 0, _, _, H => good_none H
  | tr + 1, _, _, H => by rw [good_turn H tr]; exact good_every tr (turn_num H)
theorem good_all {N a b tr : Nat} (H : Num N a b) (_ : tr < 6) : good1 N a b tr = true := good_every tr H
end Mine
end
-- text J1
section
open PySem PySem.W PySem.Calls PyProof.Rows
set_option maxRecDepth 100000
set_option maxHeartbeats 8000000
namespace Mine
noncomputable def SegRB (w : World) (body : List Stmt) (Pre : Heap → Addr → Heap → Prop) : Prop :=
  PySem.Challenge.rw_tp0031_01.prog = PySem.Challenge.rw_tp0031_01.prog → ∀ (mean : ExcName → Option Value) (mg mb : Str → Option Value) (h₀ : Heap) (L : Addr) (s : Shared) (E : Value → Shared → Prop),
    (kf w.params).In h₀ → Top qv (looseW qv lz) mean mg mb h₀ → Below callerA h₀ [] h₀ → Pre h₀ L s.heap →
    wpAny (model PySem.Challenge.rw_tp0031_01.prog w) (callerA.deeper (lawEnv w L)) (execs body (lawEnv w L)) (RetEnd s h₀) E s
theorem tailB {w : World} {a b : List Stmt} {P Q : Heap → Addr → Heap → Prop} (h1 : SegB w a P Q) (h2 : SegRB w b Q) : SegRB w (a ++ b) P := by
  intro hr mean mg mb h₀ L s E X T B hP
  refine execs_append _ (wpAny_mono (h1 hr mean mg mb h₀ L s E X T B hP) (fun f s' hs => ?_) fun _ _ e => e)
  obtain ⟨rfl, h', tk', rfl, hQ⟩ := hs
  refine wpAny_mono (h2 hr mean mg mb h₀ L _ E X T B hQ) (fun f s' hs => ?_) fun _ _ e => e
  obtain ⟨rfl, h'', tk'', rfl, hR⟩ := hs
  exact ⟨rfl, h'', tk'', rfl, hR⟩
theorem tailR {w : World} {i n : Nat} {P Q : Heap → Addr → Heap → Prop} (h1 : Seg w i n P Q) (h2 : SegRB w ((lawBody w).drop (i + n)) Q) : SegRB w ((lawBody w).drop i) P := by
  have := tailB (a := ((lawBody w).drop i).take n) h1 h2
  rwa [← List.drop_drop, List.take_append_drop] at this
theorem SegRB.ex {w : World} {b : List Stmt} {α : Sort _} {P : α → Heap → Addr → Heap → Prop} (h : ∀ a, SegRB w b (P a)) : SegRB w b (fun h₀ L s => ∃ a, P a h₀ L s) := by
  intro hr mean mg mb h₀ L s E X T B ⟨a, hP⟩
  exact h a hr mean mg mb h₀ L s E X T B hP
theorem SegRB.fact {w : World} {b : List Stmt} {P : Heap → Addr → Heap → Prop} {F : Prop} (hf : ∀ h₀ L h, P h₀ L h → F) (h : F → SegRB w b P) : SegRB w b P := by
  intro hr mean mg mb h₀ L s E X T B hP
  exact h (hf _ _ _ hP) hr mean mg mb h₀ L s E X T B hP
theorem SegRB.pre {w : World} {b : List Stmt} {P P' : Heap → Addr → Heap → Prop} (hf : ∀ h₀ L h, P h₀ L h → P' h₀ L h) (h : SegRB w b P') : SegRB w b P := by
  intro hr mean mg mb h₀ L s E X T B hP
  exact h hr mean mg mb h₀ L s E X T B (hf _ _ _ hP)
theorem stpj_le (i j : Nat) : stpj i j ≤ 1 := by
  have h := stp_le i
  unfold stpj
  split
  · exact h.1
  · exact h.2.1
  · exact h.2.2
theorem dz_lt (q : Nat) (d : Nat → Nat) : dz q (zsOf d) < 11 := by
  have h := fun i => stpj_le i q
  simp only [dz, zsOf, List.map_cons, List.map_nil, List.sum_cons, List.sum_nil]
  have h1 := h (d 5 % 6)
  have h2 := h (d 5 / 6 % 6)
  have h3 := h (d 6 % 6)
  have h4 := h (d 6 / 6 % 6)
  have h5 := h (d 7 % 6)
  have h6 := h (d 7 / 6 % 6)
  have h7 := h (d 8 % 6)
  have h8 := h (d 8 / 6 % 6)
  have h9 := h (d 9 % 6)
  have h10 := h (d 9 / 6 % 6)
  omega
theorem body_33 (w : World) : (lawBody w).drop 33 = ((lawBody w).drop 33).take 1 := by
  unfold lawBody lawLit mkLit
  rfl
theorem body_20 (w : World) : ((lawBody w).drop 20).take 1 = [nthS (lawBody w) 20] := by
  unfold lawBody lawLit mkLit
  rfl
theorem tail_26 (w : World) : ∀ (v : LZ) (st : St) (mN nN : Nat) (X Y U V : Int), Chk v.N v.a v.b st mN nN X Y U V → Num v.N v.a v.b → SegRB w ((lawBody w).drop 26) (fun h₀ L h => ∃ x, Le v st mN nN X Y U V x h₀ L h) := by
  intro v st mN nN X Y U V hck H
  have hk := dz_lt 0 v.d
  have hm := dz_lt 1 v.d
  have hb := dz_lt 2 v.d
  have hN : 0 < v.N := Nat.lt_of_lt_of_le (by decide) H.n8
  have hct : 0 < v.N / gcd3 v.N v.a v.b := Nat.div_pos (Nat.le_of_dvd hN (Nat.gcd_dvd_right ..)) (Nat.gcd_pos_of_pos_right _ hN)
  refine @tailR _ _ _ _ _ (@seg_26 w v st mN nN X Y U V) ?_
  refine @tailR _ _ _ _ _ (@seg_27 w v st X Y U V) ?_
  refine @tailR _ _ _ _ _ (@seg_28 w v st X Y U V _ _ _ rfl rfl rfl) ?_
  refine @tailR _ _ _ _ _ (@seg_29 w v st X Y U V _ _ _ hk hm hb) ?_
  refine @tailR _ _ _ _ _ (@seg_30 w v st X Y U V _ _ _ hk hm hb) ?_
  refine @tailR _ _ _ _ _ (@seg_31 w v st X Y U V _ _ _) ?_
  refine @tailR _ _ _ _ _ (@seg_32 w v st X Y U V _ _ _ hk hm hb) ?_
  rw [body_33]
  exact @seg_33 w v st _ X Y U V _ _ _ hk hm hb hck.bX hck.bY (fin_eq H hck _ _ _) hct
theorem tail_21 (w : World) : ∀ (v : LZ) (kk : LK) (f : LF) (o : O4) (st : St) (c10 c11 c12 c13 : Option Value), check v.N v.a v.b st = true → SegRB w ((lawBody w).drop 21) (fun h₀ L h => ∃ x, Lw w v kk f o st c10 c11 c12 c13 x h₀ L h) := by
  intro v kk f o st c10 c11 c12 c13 hck
  refine @SegRB.fact _ _ _ (Num v.N v.a v.b) (fun _ _ _ ⟨_, h⟩ => h.b.C.H) fun H => ?_
  refine @tailR _ _ _ _ _ (@seg_21 w v kk f o st c10 c11 c12 c13 hck) ?_
  refine @tailR _ _ _ _ _ (@seg_22 w v kk f o st c10 c11 c12 c13 hck) ?_
  refine @SegRB.ex _ _ _ _ fun mN => @SegRB.ex _ _ _ _ fun nN => @SegRB.ex _ _ _ _ fun X => @SegRB.ex _ _ _ _ fun Y => @SegRB.ex _ _ _ _ fun U => @SegRB.ex _ _ _ _ fun V => ?_
  refine @SegRB.pre _ _ _ (fun h₀ L h => Chk v.N v.a v.b st mN nN X Y U V ∧ ∃ x, Le v st mN nN X Y U V x h₀ L h) (fun _ _ _ ⟨x, h1, h2⟩ => ⟨h1, x, h2⟩) ?_
  refine @SegRB.fact _ _ _ _ (fun _ _ _ h => h.1) fun hc => ?_
  refine @SegRB.pre _ _ _ _ (fun _ _ _ h => h.2) ?_
  refine @tailR _ _ _ _ _ (@seg_24 w v st mN nN X Y U V hc) ?_
  refine @tailR _ _ _ _ _ (@seg_25 w v st mN nN X Y U V hc) ?_
  exact @tail_26 w v st mN nN X Y U V hc H
theorem tail_20 (w : World) : SegRB w ((lawBody w).drop 20) (PL w) := by
  refine @SegRB.ex _ _ _ _ fun v => @SegRB.ex _ _ _ _ fun kk => @SegRB.ex _ _ _ _ fun f => @SegRB.ex _ _ _ _ fun o => ?_
  refine @SegRB.fact _ _ _ (Num v.N v.a v.b ∧ v.tr < 6) (fun _ _ _ ⟨_, h⟩ => ⟨h.b.C.H, h.b.C.htr⟩) fun ⟨H, ht⟩ => ?_
  have hl := @ring_loop w v kk f o st0 none none none none (good_all H ht) (Nat.le_refl _)
  rw [← body_20] at hl
  refine @tailR _ 20 1 _ _ hl ?_
  refine @SegRB.ex _ _ _ _ fun R => ?_
  refine @SegRB.pre _ _ _ (fun h₀ L h => check v.N v.a v.b R.st = true ∧ ∃ x, Lw w v kk f R.o R.st R.c10 R.c11 R.c12 R.c13 x h₀ L h) (fun _ _ _ ⟨h1, h2⟩ => ⟨h1, _, h2⟩) ?_
  refine @SegRB.fact _ _ _ _ (fun _ _ _ h => h.1) fun hc => ?_
  refine @SegRB.pre _ _ _ _ (fun _ _ _ h => h.2) ?_
  exact @tail_21 w v kk f _ R.st R.c10 R.c11 R.c12 R.c13 hc
theorem body_law (w : World) : SegRB w (lawBody w) P0 := by
  refine @tailR _ 0 _ _ _ (@seg_draw w) ?_
  refine @tailR _ _ _ _ _ (@seg_n w) ?_
  refine @tailR _ _ _ _ _ (@seg_o w) ?_
  refine @tailR _ _ _ _ _ (@seg_t w) ?_
  refine @tailR _ _ _ _ _ (@seg_w w) ?_
  refine @tailR _ _ _ _ _ (@seg_c w) ?_
  refine @tailR _ _ _ _ _ (@seg_l w) ?_
  refine @tailR _ _ _ _ _ (@seg_p w) ?_
  refine @tailR _ _ _ _ _ (@seg_q w) ?_
  refine @tailR _ _ _ _ _ (@seg_r w) ?_
  refine @tailR _ _ _ _ _ (@seg_tu w) ?_
  refine @tailR _ _ _ _ _ (@seg_s w) ?_
  exact @tail_20 w
end Mine
end
-- text J2
section
open PySem PySem.W PySem.Calls PyProof.Rows
set_option maxRecDepth 100000
set_option maxHeartbeats 8000000
namespace Mine
theorem law_in : ∀ (w : World) (mean : ExcName → Option Value) (mg mb : Str → Option Value) (s : Shared) (D : Addr) (vs : List Value) (ns : List Int) (Q E : Value → Shared → Prop),
    (kf w.params).In s.heap → Top qv (looseW qv lz) mean mg mb s.heap → s.heap.IsList D vs.toArray → IntsAre vs ns → ns.length ≤ 63 →
    (∀ h' tk', (∀ b o, s.heap.get? b = some o → h'.get? b = some o) → Q (.bool true) { s with heap := h', toks := tk' }) →
    wpAny (model PySem.Challenge.rw_tp0031_01.prog w) callerA (call (.ref 130) [.ref D]) Q E s := by
  k_fill
  intro w mean mg mb s D vs ns Q E X T hL hI hlen ret
  have X₀ := X
  have T₀ := T
  refine wpAny_call ?_
  k_dflt (refine' enter_law ?k1 ?k2 ?k3 ?k4 ?k5 ?k6 ?k7 (fun y => if y = Str.ofString "script" then some (.ref D) else none) ?k11 ?k12 ?_ ?k8 ?k9 ?k10)
  (case k1 => exact X)
  (case k2 => exact T)
  (case k3 => k_is)
  (case k4 => k_is)
  (case k5 => exact rfl)
  (case k6 => exact rfl)
  (case k7 => decide +kernel)
  (case k8 => exact rfl)
  (case k9 => exact rfl)
  (case k10 => exact rfl)
  (case k11 => intro L; kernel_rfl)
  (case k12 => intro L; kernel_rfl)
  k_whole
  intro L h₁ tk₁ cells F N0 Y0 K0
  obtain ⟨r, U⟩ := un_cells Y0 (by rfl) N0
  have hb := body_law w
  unfold lawBody lawLit mkLit at hb
  dsimp only at hb
  unfold SegRB at hb
  have hb := hb rfl mean mg mb s.heap L { s with heap := h₁, toks := tk₁ } (fun e s' => wpAny (model PySem.Challenge.rw_tp0031_01.prog w) (callerA.deeper (lawEnv w L)) (leaving (lawEnv w L) e) (fun _ s'' => E e s'') (fun e' s'' => E e' s'') s') X₀ T₀ K0 ⟨D, vs, ns, r, F, hL, hI, hlen, U⟩
  unfold lawEnv lawLit mkLit at hb
  dsimp only at hb
  refine wpAny_mono hb (fun f s' hs => ?_) (fun e s' he => he)
  obtain ⟨rfl, h', tk', rfl, hk⟩ := hs
  exact ret _ _ hk
end Mine
end
-- text HL4
section
open PySem PySem.W PySem.Calls PyProof.Rows
set_option maxRecDepth 100000
set_option maxHeartbeats 0
namespace Mine
theorem and_mk {a b : Bool} (x : a = true) (y : b = true) : (a && b) = true := by rw [x, y]; rfl
noncomputable abbrev Rw : OpenRow := OpenLaw.row PySem.Challenge.rw_tp0031_01
theorem lk_1 : sreFenced Rw.prog.main = true := by kernel_rfl
theorem lk_2 : ((moduleNames Rw.prog.main.body).isEmpty || lookedIntoSs (moduleNames Rw.prog.main.body) Rw.prog.main.body) = true := by kernel_rfl
theorem lk_3 : namesResolve Rw.prog = true := by kernel_rfl
theorem lk_4 : Rw.prog.boundNames.all (fun n => !worldNames.contains n) = true := by kernel_rfl
theorem lk_5 : readsOut Rw.prog Rw.prog.main.body "vars" = false := by kernel_rfl
theorem lk_6 : readsOut Rw.prog Rw.prog.main.body "dir" = false := by kernel_rfl
theorem lk_7 : readsOut Rw.prog Rw.prog.main.body "locals" = false := by kernel_rfl
theorem lk_8 : (!(importedModules Rw.prog.main.body).all cThrough.contains) = false := by kernel_rfl
theorem lk_9 : noRoadLSs { strict := false, foot := none, bare := [] } Rw.prog.main.body = true := by kernel_rfl
theorem lk_10 : namesMeet Rw.prog Rw.prog.main.body (fun _ n => attrL n) = true := by kernel_rfl
theorem lk_11 : (["vars", "dir", "locals"] : List Str).filter (readsOut Rw.prog Rw.prog.main.body) = [] :=
  (List.filter_cons_of_neg (by rw [lk_5]; exact Bool.false_ne_true)).trans ((List.filter_cons_of_neg (by rw [lk_6]; exact Bool.false_ne_true)).trans (List.filter_cons_of_neg (by rw [lk_7]; exact Bool.false_ne_true)))
theorem looks : looksOpen Rw.prog = true := by
  unfold looksOpen
  refine and_mk (and_mk (and_mk (and_mk (and_mk lk_1 lk_2) lk_3) lk_4) ?_) lk_10
  rw [lk_11, lk_8]
  exact lk_9
theorem part_said : OpenRow.partSaid Rw = true := by
  unfold OpenRow.partSaid
  rw [looks]
  kernel_rfl
theorem said_row : OpenRow.wellSaid Rw = true := by
  unfold OpenRow.wellSaid
  exact and_mk (and_mk part_said (by kernel_rfl)) (by kernel_rfl)
theorem said_ok : OpenLaw.wellSaid PySem.Challenge.rw_tp0031_01 = true := by
  unfold OpenLaw.wellSaid
  repeat' with_reducible refine and_mk ?_ ?_
  exact said_row
  all_goals kernel_rfl
theorem hd {d : DefRec} {kwd : List (Str × Expr)} (hdef : defOf qv "law" = some (d, kwd)) (hp : pw.theDef "law" = some (d.params, d.body, d.scope)) (hk : kwWritten? d.params.kwonlyargs d.params.kw_defaults = some kwd)
    (call : WalkO qv lz (XL qv []) (InK kf) (OpenRow.toRowW PySem.Challenge.rw_tp0031_01.row) d kwd fun f vs => PySem.call f vs) : PySem.Challenge.rw_tp0031_01.Holds := by
  refine holds_law said_ok fun said => ?_
  refine @PySem.W.holds_open PySem.Challenge.rw_tp0031_01.row qv lz xt (XL qv []) (List (Option Obj)) yf ya (InK kf) d kwd 30000
    left (InK.of kas_eq) InK.keeps (fun s e => xl_of s (Bool.and_eq_true_iff.mp e).1) XL.keeps hdef hp hk (fun s e => recFacts_of (Bool.and_eq_true_iff.mp e).2) (by rfl) (by first | assumption | decide +kernel) (by decide +kernel) ⟨rfl, rfl, rfl, rfl, rfl, by decide +kernel⟩ ?_ call
  w_witness2
end Mine
end
-- text J3
section
open PySem PySem.W PySem.Calls PyProof.Rows
set_option maxRecDepth 100000
set_option maxHeartbeats 8000000
namespace Mine
theorem law_some : (defOf qv "law").isSome = true := by kernel_rfl
noncomputable def lawD : DefRec := ((defOf qv "law").get law_some).1
noncomputable def lawKw : List (Str × Expr) := ((defOf qv "law").get law_some).2
theorem lawD_def : defOf qv "law" = some (lawD, lawKw) := (Option.some_get law_some).symm
theorem lawD_name : lawD.name = Str.ofString "law" := by kernel_rfl
theorem law_130 : ∀ (w : World), nsIn (kf w.params) mainGlobals (Str.ofString "law") = some (some (.ref 130)) := by
  intro w
  kernel_rfl
theorem law_holds : PySem.Challenge.rw_tp0031_01.Holds := by
  refine hd (d := lawD) (kwd := lawKw) lawD_def (by kernel_rfl) (by kernel_rfl) ?_
  intro w s₀ s₁ mg mb G Y fa o pm cd doc dV kV ho hd hcd hD hmg hg args vals as hpre hlay hrd hwl hlo
  rw [lawD_name] at hmg
  clear hd hcd hD
  refine Ground.open G ?_
  intro T B D TE TW
  have h130 := mg_of Y T.g (law_130 w)
  rw [hmg] at h130
  obtain rfl : fa = 130 := by injection h130 with h; injection h
  clear G
  wrow_args hpre hlay hrd hwl hlo
  rename Heap.IsList _ _ _ => hL
  rename IntsAre _ _ => hI
  rename ¬ _ < _ => hlen
  refine law_in w _ mg mb s₁ _ _ _ _ _ Y T hL hI (by omega) ?_
  intro h' tk' hk
  exact ⟨.inl ⟨_, .bool true, [], rfl, fun _ => rfl, .bool _, (by kernel_rfl), fun _ => ⟨.nil, fun _ h => nomatch h⟩⟩, .of_keep hk, rfl, .of_eq hg⟩
end Mine
end
theorem PySem.Challenge.cw_tp0031_01_holds : PySem.Challenge.rw_tp0031_01.Holds :=
  Mine.law_holds
