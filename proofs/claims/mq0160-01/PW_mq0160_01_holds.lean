import PyProof.Rows.All
import Wide.All
import OpenK.AllK
import Wide.FinOn
import OpenK.XGo
import KE.KSortTup
import PyProof.ZipIter
import PyProof.TupleOfGen
import PyProof.DictItemsLoops
import PyProof.Rows.TupMore
import KE.KDictIter
import KE.KItemsList
import PyProof.DictWalks
import PyProof.ListRange
import KE.KLam
import PySem.Challenge.RW_mq0160_01
set_option Elab.async false
section
open PySem PySem.W PySem.W.X PyProof.Rows
set_option Elab.async false
set_option maxRecDepth 100000
set_option maxHeartbeats 0
set_option linter.unusedVariables false
namespace Mine
/-! the defs of the text, by their place -/
def nameAt (i : Nat) : Str := match PySem.Challenge.pw_mq0160_01.main.body[i]? with
  | some (.FunctionDef n _ _ _ _ _ _ _ _ _) => n
  | _ => Str.empty
def parAt (i : Nat) : Arguments := match PySem.Challenge.pw_mq0160_01.main.body[i]? with
  | some (.FunctionDef _ a _ _ _ _ _ _ _ _) => a
  | _ => ⟨[], [], none, [], [], none, []⟩
def bodyAt (i : Nat) : List Stmt := match PySem.Challenge.pw_mq0160_01.main.body[i]? with
  | some (.FunctionDef _ _ b _ _ _ _ _ _ _) => b
  | _ => []
def scAt (i : Nat) : Scope := match PySem.Challenge.pw_mq0160_01.main.body[i]? with
  | some (.FunctionDef _ _ _ _ _ _ sc _ _ _) => sc
  | _ => default
def hPos (i : Nat) : Pos := match PySem.Challenge.pw_mq0160_01.main.body[i]? with
  | some (.FunctionDef _ _ _ _ _ _ _ _ _ p) => p
  | _ => default
def hCls (i : Nat) : List Stmt := match PySem.Challenge.pw_mq0160_01.main.body[i]? with
  | some (.ClassDef _ _ _ b _ _ _ _ _ _ _) => b
  | _ => []
def hPar (i j : Nat) : Arguments := match (hCls i)[j]? with
  | some (.FunctionDef _ a _ _ _ _ _ _ _ _) => a
  | _ => ⟨[], [], none, [], [], none, []⟩
def hBody (i j : Nat) : List Stmt := match (hCls i)[j]? with
  | some (.FunctionDef _ _ b _ _ _ _ _ _ _) => b
  | _ => []
def hSc (i j : Nat) : Scope := match (hCls i)[j]? with
  | some (.FunctionDef _ _ _ _ _ _ sc _ _ _) => sc
  | _ => default
def hS (l : List Nat) : Str := ⟨⟨l⟩⟩
noncomputable def hEn (P : Params) (s : Str) (t : Tok) (v : Value) : DictEntry := ⟨PyData.keyHash P s, .str s t, v⟩
def hFn (n q : Str) (a : Arguments) (b : List Stmt) (sc : Scope) (g : Addr) (dv md cd : Value) : Data := .func { name := n, qualname := q, params := a, body := .stmts b, scope := sc, globals := g, closure := [], defaults := dv, kwdefaults := .none, pyModule := md, code := cd }
/-! what the top leaves -/
noncomputable def ho3 (P : Params) : Obj := ⟨(.type "dict"), none, (.dict ⟨[hEn P (hS [95, 95, 110, 97, 109, 101, 95, 95]) 165 (.str (hS [108, 97, 119, 95, 109, 113, 48, 49, 54, 48, 95, 48, 49]) 284), hEn P (hS [95, 95, 100, 111, 99, 95, 95]) 166 .none, hEn P (hS [95, 95, 112, 97, 99, 107, 97, 103, 101, 95, 95]) 167 .none, hEn P (hS [95, 95, 108, 111, 97, 100, 101, 114, 95, 95]) 168 (.builtin "__main__.__loader__#opaque"), hEn P (hS [95, 95, 115, 112, 101, 99, 95, 95]) 169 .none, hEn P (hS [95, 95, 97, 110, 110, 111, 116, 97, 116, 105, 111, 110, 115, 95, 95]) 170 (.ref 6), hEn P (hS [95, 95, 98, 117, 105, 108, 116, 105, 110, 115, 95, 95]) 171 (.ref 4), hEn P (hS [95, 95, 102, 105, 108, 101, 95, 95]) 173 (.str (hS [47, 99, 108, 97, 105, 109, 47, 99, 117, 116, 46, 112, 121]) 172), hEn P (hS [95, 95, 99, 97, 99, 104, 101, 100, 95, 95]) 174 .none, hEn P (hS [84, 117, 112, 108, 101, 67, 111, 109, 112]) 230 (.ref 38), hEn P (hS [97, 100, 100, 95, 102, 117, 110, 99, 95, 115, 116, 97, 116, 115]) 248 (.ref 49), hEn P (hS [97, 100, 100, 95, 99, 97, 108, 108, 101, 114, 115]) 259 (.ref 56), hEn P (hS [99, 109, 112, 95, 116, 111, 95, 107, 101, 121]) 270 (.ref 63), hEn P (hS [95, 105, 110, 105, 116, 105, 97, 108, 95, 109, 105, 115, 115, 105, 110, 103]) 271 (.ref 64), hEn P (hS [114, 101, 100, 117, 99, 101]) 283 (.ref 72), hEn P (hS [95, 108, 97, 119, 95, 104, 101, 97, 112, 115]) 291 (.ref 77), hEn P (hS [95, 108, 97, 119, 95, 114, 111, 119, 115]) 304 (.ref 84), hEn P (hS [95, 108, 97, 119, 95, 107, 101, 121, 115]) 310 (.ref 89), hEn P (hS [95, 108, 97, 119, 95, 109, 101, 114, 103, 101, 114]) 319 (.ref 96), hEn P (hS [95, 108, 97, 119, 95, 115, 116, 97, 103, 101, 115]) 325 (.ref 101), hEn P (hS [95, 108, 97, 119, 95, 115, 117, 109, 115]) 331 (.ref 106), hEn P (hS [95, 108, 97, 119, 95, 100, 117, 101]) 337 (.ref 111), hEn P (hS [108, 97, 119]) 348 (.ref 118)]⟩ 23), ⟨[]⟩⟩
noncomputable def ho11 (P : Params) : Obj := ⟨(.type "tuple"), none, (.seq ⟨[]⟩ 0), ⟨[]⟩⟩
noncomputable def ho12 (P : Params) : Obj := ⟨.none, none, (.fields ⟨[(.int 2 0), (.int 0 0), (.ref 20), (.int 16 0), (.int 0 0), (.ref 48), (.int 20 0), (.int 0 0), (.ref 55), (.int 34 0), (.int 0 0), (.ref 62), (.int 60 0), (.int 0 0), (.ref 71), (.int 73 0), (.int 0 0), (.ref 76), (.int 75 0), (.int 0 0), (.ref 83), (.int 83 0), (.int 0 0), (.ref 88), (.int 90 0), (.int 0 0), (.ref 95), (.int 97 0), (.int 0 0), (.ref 100), (.int 104 0), (.int 0 0), (.ref 105), (.int 113 0), (.int 0 0), (.ref 110), (.int 126 0), (.int 0 0), (.ref 117)]⟩), ⟨[]⟩⟩
noncomputable def ho13 (P : Params) : Obj := ⟨(.type "code"), none, (.fields ⟨[(.str (hS [60, 109, 111, 100, 117, 108, 101, 62]) 182), (.str (hS [60, 109, 111, 100, 117, 108, 101, 62]) 183), (.str (hS [47, 99, 108, 97, 105, 109, 47, 99, 117, 116, 46, 112, 121]) 184), (.int 1 0), (.int 0 0), (.int 0 0), (.int 0 0), (.int 0 0), (.ref 11), (.bool false), (.int 181 0), (.ref 12), .none, .none, .none, .none, (.int 185 0), (.int 1 0), (.str (hS [47, 99, 108, 97, 105, 109, 47, 99, 117, 116, 46, 112, 121]) 186)]⟩), ⟨[]⟩⟩
noncomputable def ho14 (P : Params) : Obj := ⟨(.type "frame"), none, .plain, ⟨[(some (.ref 13)), (some (.ref 3)), (some (.ref 3)), none, (some (.str (hS [95, 95, 109, 97, 105, 110, 95, 95]) 164)), none, (some (.ref 0))]⟩⟩
noncomputable def ho15 (P : Params) : Obj := ⟨(.type "tuple"), none, (.seq ⟨[]⟩ 0), ⟨[]⟩⟩
noncomputable def ho16 (P : Params) : Obj := ⟨(.type "builtin_function_or_method"), none, (.fields ⟨[(.builtin "type.__prepare__"), (.type "type")]⟩), ⟨[]⟩⟩
noncomputable def ho17 (P : Params) : Obj := ⟨(.type "dict"), none, (.dict ⟨[hEn P (hS [95, 95, 109, 111, 100, 117, 108, 101, 95, 95]) 196 (.str (hS [99, 112, 121, 51, 49, 51, 46, 112, 115, 116, 97, 116, 115]) 187), hEn P (hS [95, 95, 113, 117, 97, 108, 110, 97, 109, 101, 95, 95]) 198 (.str (hS [84, 117, 112, 108, 101, 67, 111, 109, 112]) 197), hEn P (hS [95, 95, 102, 105, 114, 115, 116, 108, 105, 110, 101, 110, 111, 95, 95]) 200 (.int 2 199), hEn P (hS [95, 95, 105, 110, 105, 116, 95, 95]) 208 (.ref 28), hEn P (hS [99, 111, 109, 112, 97, 114, 101]) 221 (.ref 35), hEn P (hS [95, 95, 115, 116, 97, 116, 105, 99, 95, 97, 116, 116, 114, 105, 98, 117, 116, 101, 115, 95, 95]) 223 (.ref 36)]⟩ 6), ⟨[]⟩⟩
noncomputable def ho18 (P : Params) : Obj := ⟨(.type "tuple"), none, (.seq ⟨[]⟩ 0), ⟨[]⟩⟩
noncomputable def ho19 (P : Params) : Obj := ⟨.none, none, (.fields ⟨[(.int 4 0), (.int 4 0), (.ref 27), (.int 7 0), (.int 4 0), (.ref 34)]⟩), ⟨[]⟩⟩
noncomputable def ho20 (P : Params) : Obj := ⟨(.type "code"), none, (.fields ⟨[(.str (hS [84, 117, 112, 108, 101, 67, 111, 109, 112]) 191), (.str (hS [84, 117, 112, 108, 101, 67, 111, 109, 112]) 192), (.str (hS [47, 99, 108, 97, 105, 109, 47, 99, 117, 116, 46, 112, 121]) 193), (.int 2 0), (.int 0 0), (.int 0 0), (.int 0 0), (.int 0 0), (.ref 18), (.bool false), (.int 181 0), (.ref 19), .none, .none, .none, .none, (.int 194 0), (.int 2 0), (.str (hS [47, 99, 108, 97, 105, 109, 47, 99, 117, 116, 46, 112, 121]) 195)]⟩), ⟨[]⟩⟩
noncomputable def ho21 (P : Params) : Obj := ⟨(.type "frame"), none, .plain, ⟨[(some (.ref 20)), (some (.ref 3)), (some (.ref 17)), none, (some (.str (hS [99, 112, 121, 51, 49, 51, 46, 112, 115, 116, 97, 116, 115]) 187)), none, (some (.ref 0))]⟩⟩
noncomputable def ho22 (P : Params) : Obj := ⟨(.type "tuple"), none, (.seq ⟨[]⟩ 0), ⟨[]⟩⟩
noncomputable def ho23 (P : Params) : Obj := ⟨.none, none, (.fields ⟨[]⟩), ⟨[]⟩⟩
noncomputable def ho24 (P : Params) : Obj := ⟨(.type "tuple"), none, (.seq ⟨[(.str (hS [115, 101, 108, 102]) 204), (.str (hS [99, 111, 109, 112, 95, 115, 101, 108, 101, 99, 116, 95, 108, 105, 115, 116]) 205)]⟩ 0), ⟨[]⟩⟩
noncomputable def ho25 (P : Params) : Obj := ⟨(.type "tuple"), none, (.seq ⟨[]⟩ 0), ⟨[]⟩⟩
noncomputable def ho26 (P : Params) : Obj := ⟨.none, none, (hFn (hS [95, 95, 105, 110, 105, 116, 95, 95]) (hS [84, 117, 112, 108, 101, 67, 111, 109, 112, 46, 95, 95, 105, 110, 105, 116, 95, 95]) (hPar 1 0) (hBody 1 0) (hSc 1 0) 0 .none .none .none), ⟨[]⟩⟩
noncomputable def ho27 (P : Params) : Obj := ⟨(.type "code"), none, (.fields ⟨[(.str (hS [95, 95, 105, 110, 105, 116, 95, 95]) 201), (.str (hS [84, 117, 112, 108, 101, 67, 111, 109, 112, 46, 95, 95, 105, 110, 105, 116, 95, 95]) 202), (.str (hS [47, 99, 108, 97, 105, 109, 47, 99, 117, 116, 46, 112, 121]) 203), (.int 4 0), (.int 2 0), (.int 0 0), (.int 0 0), (.int 3 0), (.ref 22), (.bool true), (.int 181 0), (.ref 23), .none, (.ref 24), (.ref 25), (.ref 26), (.int 206 0), (.int 4 0), (.str (hS [47, 99, 108, 97, 105, 109, 47, 99, 117, 116, 46, 112, 121]) 207)]⟩), ⟨[]⟩⟩
noncomputable def ho28 (P : Params) : Obj := ⟨(.type "function"), none, (hFn (hS [95, 95, 105, 110, 105, 116, 95, 95]) (hS [84, 117, 112, 108, 101, 67, 111, 109, 112, 46, 95, 95, 105, 110, 105, 116, 95, 95]) (hPar 1 0) (hBody 1 0) (hSc 1 0) 3 .none (.str (hS [99, 112, 121, 51, 49, 51, 46, 112, 115, 116, 97, 116, 115]) 187) (.ref 27)), ⟨[]⟩⟩
noncomputable def ho29 (P : Params) : Obj := ⟨(.type "tuple"), none, (.seq ⟨[]⟩ 0), ⟨[]⟩⟩
noncomputable def ho30 (P : Params) : Obj := ⟨.none, none, (.fields ⟨[]⟩), ⟨[]⟩⟩
noncomputable def ho31 (P : Params) : Obj := ⟨(.type "tuple"), none, (.seq ⟨[(.str (hS [115, 101, 108, 102]) 212), (.str (hS [108, 101, 102, 116]) 213), (.str (hS [114, 105, 103, 104, 116]) 214), (.str (hS [105, 110, 100, 101, 120]) 215), (.str (hS [100, 105, 114, 101, 99, 116, 105, 111, 110]) 216), (.str (hS [108]) 217), (.str (hS [114]) 218)]⟩ 0), ⟨[]⟩⟩
noncomputable def ho32 (P : Params) : Obj := ⟨(.type "tuple"), none, (.seq ⟨[]⟩ 0), ⟨[]⟩⟩
noncomputable def ho33 (P : Params) : Obj := ⟨.none, none, (hFn (hS [99, 111, 109, 112, 97, 114, 101]) (hS [84, 117, 112, 108, 101, 67, 111, 109, 112, 46, 99, 111, 109, 112, 97, 114, 101]) (hPar 1 1) (hBody 1 1) (hSc 1 1) 0 .none .none .none), ⟨[]⟩⟩
noncomputable def ho34 (P : Params) : Obj := ⟨(.type "code"), none, (.fields ⟨[(.str (hS [99, 111, 109, 112, 97, 114, 101]) 209), (.str (hS [84, 117, 112, 108, 101, 67, 111, 109, 112, 46, 99, 111, 109, 112, 97, 114, 101]) 210), (.str (hS [47, 99, 108, 97, 105, 109, 47, 99, 117, 116, 46, 112, 121]) 211), (.int 7 0), (.int 3 0), (.int 0 0), (.int 0 0), (.int 3 0), (.ref 29), (.bool true), (.int 181 0), (.ref 30), .none, (.ref 31), (.ref 32), (.ref 33), (.int 219 0), (.int 7 0), (.str (hS [47, 99, 108, 97, 105, 109, 47, 99, 117, 116, 46, 112, 121]) 220)]⟩), ⟨[]⟩⟩
noncomputable def ho35 (P : Params) : Obj := ⟨(.type "function"), none, (hFn (hS [99, 111, 109, 112, 97, 114, 101]) (hS [84, 117, 112, 108, 101, 67, 111, 109, 112, 46, 99, 111, 109, 112, 97, 114, 101]) (hPar 1 1) (hBody 1 1) (hSc 1 1) 3 .none (.str (hS [99, 112, 121, 51, 49, 51, 46, 112, 115, 116, 97, 116, 115]) 187) (.ref 34)), ⟨[]⟩⟩
noncomputable def ho36 (P : Params) : Obj := ⟨(.type "tuple"), none, (.seq ⟨[(.str (hS [99, 111, 109, 112, 95, 115, 101, 108, 101, 99, 116, 95, 108, 105, 115, 116]) 222)]⟩ 0), ⟨[]⟩⟩
noncomputable def ho37 (P : Params) : Obj := ⟨(.type "dict"), none, (.dict ⟨[hEn P (hS [95, 95, 109, 111, 100, 117, 108, 101, 95, 95]) 196 (.str (hS [99, 112, 121, 51, 49, 51, 46, 112, 115, 116, 97, 116, 115]) 187), hEn P (hS [95, 95, 102, 105, 114, 115, 116, 108, 105, 110, 101, 110, 111, 95, 95]) 200 (.int 2 199), hEn P (hS [95, 95, 105, 110, 105, 116, 95, 95]) 208 (.ref 28), hEn P (hS [99, 111, 109, 112, 97, 114, 101]) 221 (.ref 35), hEn P (hS [95, 95, 115, 116, 97, 116, 105, 99, 95, 97, 116, 116, 114, 105, 98, 117, 116, 101, 115, 95, 95]) 223 (.ref 36), hEn P (hS [95, 95, 100, 105, 99, 116, 95, 95]) 225 (.ref 39), hEn P (hS [95, 95, 119, 101, 97, 107, 114, 101, 102, 95, 95]) 227 (.ref 40), hEn P (hS [95, 95, 100, 111, 99, 95, 95]) 228 .none]⟩ 4), ⟨[]⟩⟩
noncomputable def ho38 (P : Params) : Obj := ⟨(.type "type"), none, (.cls ⟨(hS [84, 117, 112, 108, 101, 67, 111, 109, 112]), [(.type "object")], [(.ref 38), (.type "object")], 37, (hS [84, 117, 112, 108, 101, 67, 111, 109, 112]), true, [], [], false, none, false⟩), ⟨[none, none, (some (.str (hS [84, 117, 112, 108, 101, 67, 111, 109, 112]) 189)), (some (.str (hS [84, 117, 112, 108, 101, 67, 111, 109, 112]) 197)), (some (.builtin "object.__new__")), (some (.bool true))]⟩⟩
noncomputable def ho39 (P : Params) : Obj := ⟨(.type "getset_descriptor"), none, (.fields ⟨[(.str (hS [95, 95, 100, 105, 99, 116, 95, 95]) 224), (.ref 38), (.builtin "function.__dict__"), (.builtin "function.__dict__#set")]⟩), ⟨[]⟩⟩
noncomputable def ho40 (P : Params) : Obj := ⟨(.type "getset_descriptor"), none, (.fields ⟨[(.str (hS [95, 95, 119, 101, 97, 107, 114, 101, 102, 95, 95]) 226), (.ref 38), (.builtin "ExceptionGroup.__weakref__"), .none]⟩), ⟨[]⟩⟩
noncomputable def ho41 (P : Params) : Obj := ⟨(.type "super"), none, (.fields ⟨[(.ref 38), (.ref 38), (.ref 38)]⟩), ⟨[]⟩⟩
noncomputable def ho42 (P : Params) : Obj := ⟨(.type "builtin_function_or_method"), none, (.fields ⟨[(.builtin "object.__init_subclass__"), (.ref 38)]⟩), ⟨[]⟩⟩
noncomputable def ho43 (P : Params) : Obj := ⟨(.type "tuple"), none, (.seq ⟨[]⟩ 0), ⟨[]⟩⟩
noncomputable def ho44 (P : Params) : Obj := ⟨.none, none, (.fields ⟨[]⟩), ⟨[]⟩⟩
noncomputable def ho45 (P : Params) : Obj := ⟨(.type "tuple"), none, (.seq ⟨[(.str (hS [116, 97, 114, 103, 101, 116]) 234), (.str (hS [115, 111, 117, 114, 99, 101]) 235), (.str (hS [99, 99]) 236), (.str (hS [110, 99]) 237), (.str (hS [116, 116]) 238), (.str (hS [99, 116]) 239), (.str (hS [99, 97, 108, 108, 101, 114, 115]) 240), (.str (hS [116, 95, 99, 99]) 241), (.str (hS [116, 95, 110, 99]) 242), (.str (hS [116, 95, 116, 116]) 243), (.str (hS [116, 95, 99, 116]) 244), (.str (hS [116, 95, 99, 97, 108, 108, 101, 114, 115]) 245)]⟩ 0), ⟨[]⟩⟩
noncomputable def ho46 (P : Params) : Obj := ⟨(.type "tuple"), none, (.seq ⟨[]⟩ 0), ⟨[]⟩⟩
noncomputable def ho47 (P : Params) : Obj := ⟨.none, none, (hFn (nameAt 2) (nameAt 2) (parAt 2) (bodyAt 2) (scAt 2) 0 .none .none .none), ⟨[]⟩⟩
noncomputable def ho48 (P : Params) : Obj := ⟨(.type "code"), none, (.fields ⟨[(.str (hS [97, 100, 100, 95, 102, 117, 110, 99, 95, 115, 116, 97, 116, 115]) 231), (.str (hS [97, 100, 100, 95, 102, 117, 110, 99, 95, 115, 116, 97, 116, 115]) 232), (.str (hS [47, 99, 108, 97, 105, 109, 47, 99, 117, 116, 46, 112, 121]) 233), (.int 16 0), (.int 2 0), (.int 0 0), (.int 0 0), (.int 3 0), (.ref 43), (.bool true), (.int 181 0), (.ref 44), .none, (.ref 45), (.ref 46), (.ref 47), (.int 246 0), (.int 16 0), (.str (hS [47, 99, 108, 97, 105, 109, 47, 99, 117, 116, 46, 112, 121]) 247)]⟩), ⟨[]⟩⟩
noncomputable def ho49 (P : Params) : Obj := ⟨(.type "function"), none, (hFn (nameAt 2) (nameAt 2) (parAt 2) (bodyAt 2) (scAt 2) 3 .none (.str (hS [99, 112, 121, 51, 49, 51, 46, 112, 115, 116, 97, 116, 115]) 187) (.ref 48)), ⟨[]⟩⟩
noncomputable def ho50 (P : Params) : Obj := ⟨(.type "tuple"), none, (.seq ⟨[]⟩ 0), ⟨[]⟩⟩
noncomputable def ho51 (P : Params) : Obj := ⟨.none, none, (.fields ⟨[]⟩), ⟨[]⟩⟩
noncomputable def ho52 (P : Params) : Obj := ⟨(.type "tuple"), none, (.seq ⟨[(.str (hS [116, 97, 114, 103, 101, 116]) 252), (.str (hS [115, 111, 117, 114, 99, 101]) 253), (.str (hS [110, 101, 119, 95, 99, 97, 108, 108, 101, 114, 115]) 254), (.str (hS [102, 117, 110, 99]) 255), (.str (hS [99, 97, 108, 108, 101, 114]) 256)]⟩ 0), ⟨[]⟩⟩
noncomputable def ho53 (P : Params) : Obj := ⟨(.type "tuple"), none, (.seq ⟨[]⟩ 0), ⟨[]⟩⟩
noncomputable def ho54 (P : Params) : Obj := ⟨.none, none, (hFn (nameAt 3) (nameAt 3) (parAt 3) (bodyAt 3) (scAt 3) 0 .none .none .none), ⟨[]⟩⟩
noncomputable def ho55 (P : Params) : Obj := ⟨(.type "code"), none, (.fields ⟨[(.str (hS [97, 100, 100, 95, 99, 97, 108, 108, 101, 114, 115]) 249), (.str (hS [97, 100, 100, 95, 99, 97, 108, 108, 101, 114, 115]) 250), (.str (hS [47, 99, 108, 97, 105, 109, 47, 99, 117, 116, 46, 112, 121]) 251), (.int 20 0), (.int 2 0), (.int 0 0), (.int 0 0), (.int 3 0), (.ref 50), (.bool true), (.int 181 0), (.ref 51), .none, (.ref 52), (.ref 53), (.ref 54), (.int 257 0), (.int 20 0), (.str (hS [47, 99, 108, 97, 105, 109, 47, 99, 117, 116, 46, 112, 121]) 258)]⟩), ⟨[]⟩⟩
noncomputable def ho56 (P : Params) : Obj := ⟨(.type "function"), none, (hFn (nameAt 3) (nameAt 3) (parAt 3) (bodyAt 3) (scAt 3) 3 .none (.str (hS [99, 112, 121, 51, 49, 51, 46, 112, 115, 116, 97, 116, 115]) 187) (.ref 55)), ⟨[]⟩⟩
noncomputable def ho57 (P : Params) : Obj := ⟨(.type "tuple"), none, (.seq ⟨[]⟩ 0), ⟨[]⟩⟩
noncomputable def ho58 (P : Params) : Obj := ⟨.none, none, (.fields ⟨[]⟩), ⟨[]⟩⟩
noncomputable def ho59 (P : Params) : Obj := ⟨(.type "tuple"), none, (.seq ⟨[(.str (hS [109, 121, 99, 109, 112]) 265), (.str (hS [75]) 266)]⟩ 0), ⟨[]⟩⟩
noncomputable def ho60 (P : Params) : Obj := ⟨(.type "tuple"), none, (.seq ⟨[(.str (hS [109, 121, 99, 109, 112]) 267)]⟩ 0), ⟨[]⟩⟩
noncomputable def ho61 (P : Params) : Obj := ⟨.none, none, (hFn (nameAt 5) (nameAt 5) (parAt 5) (bodyAt 5) (scAt 5) 0 .none .none .none), ⟨[]⟩⟩
noncomputable def ho62 (P : Params) : Obj := ⟨(.type "code"), none, (.fields ⟨[(.str (hS [99, 109, 112, 95, 116, 111, 95, 107, 101, 121]) 262), (.str (hS [99, 109, 112, 95, 116, 111, 95, 107, 101, 121]) 263), (.str (hS [47, 99, 108, 97, 105, 109, 47, 99, 117, 116, 46, 112, 121]) 264), (.int 34 0), (.int 1 0), (.int 0 0), (.int 0 0), (.int 3 0), (.ref 57), (.bool true), (.int 181 0), (.ref 58), .none, (.ref 59), (.ref 60), (.ref 61), (.int 268 0), (.int 34 0), (.str (hS [47, 99, 108, 97, 105, 109, 47, 99, 117, 116, 46, 112, 121]) 269)]⟩), ⟨[]⟩⟩
noncomputable def ho63 (P : Params) : Obj := ⟨(.type "function"), none, (hFn (nameAt 5) (nameAt 5) (parAt 5) (bodyAt 5) (scAt 5) 3 .none (.str (hS [99, 112, 121, 51, 49, 51, 46, 102, 117, 110, 99, 116, 111, 111, 108, 115]) 260) (.ref 62)), ⟨[]⟩⟩
noncomputable def ho64 (P : Params) : Obj := ⟨(.type "object"), none, .plain, ⟨[]⟩⟩
noncomputable def ho65 (P : Params) : Obj := ⟨(.type "tuple"), none, (.seq ⟨[(.ref 64)]⟩ 0), ⟨[]⟩⟩
noncomputable def ho66 (P : Params) : Obj := ⟨(.type "tuple"), none, (.seq ⟨[]⟩ 0), ⟨[]⟩⟩
noncomputable def ho67 (P : Params) : Obj := ⟨.none, none, (.fields ⟨[]⟩), ⟨[]⟩⟩
noncomputable def ho68 (P : Params) : Obj := ⟨(.type "tuple"), none, (.seq ⟨[(.str (hS [102, 117, 110, 99, 116, 105, 111, 110]) 275), (.str (hS [115, 101, 113, 117, 101, 110, 99, 101]) 276), (.str (hS [105, 110, 105, 116, 105, 97, 108]) 277), (.str (hS [105, 116]) 278), (.str (hS [118, 97, 108, 117, 101]) 279), (.str (hS [101, 108, 101, 109, 101, 110, 116]) 280)]⟩ 0), ⟨[]⟩⟩
noncomputable def ho69 (P : Params) : Obj := ⟨(.type "tuple"), none, (.seq ⟨[]⟩ 0), ⟨[]⟩⟩
noncomputable def ho70 (P : Params) : Obj := ⟨.none, none, (hFn (nameAt 7) (nameAt 7) (parAt 7) (bodyAt 7) (scAt 7) 0 .none .none .none), ⟨[]⟩⟩
noncomputable def ho71 (P : Params) : Obj := ⟨(.type "code"), none, (.fields ⟨[(.str (hS [114, 101, 100, 117, 99, 101]) 272), (.str (hS [114, 101, 100, 117, 99, 101]) 273), (.str (hS [47, 99, 108, 97, 105, 109, 47, 99, 117, 116, 46, 112, 121]) 274), (.int 60 0), (.int 3 0), (.int 0 0), (.int 0 0), (.int 3 0), (.ref 66), (.bool true), (.int 181 0), (.ref 67), .none, (.ref 68), (.ref 69), (.ref 70), (.int 281 0), (.int 60 0), (.str (hS [47, 99, 108, 97, 105, 109, 47, 99, 117, 116, 46, 112, 121]) 282)]⟩), ⟨[]⟩⟩
noncomputable def ho72 (P : Params) : Obj := ⟨(.type "function"), none, (hFn (nameAt 7) (nameAt 7) (parAt 7) (bodyAt 7) (scAt 7) 3 (.ref 65) (.str (hS [99, 112, 121, 51, 49, 51, 46, 102, 117, 110, 99, 116, 111, 111, 108, 115]) 260) (.ref 71)), ⟨[]⟩⟩
noncomputable def ho73 (P : Params) : Obj := ⟨(.type "tuple"), none, (.seq ⟨[]⟩ 0), ⟨[]⟩⟩
noncomputable def ho74 (P : Params) : Obj := ⟨.none, none, (.fields ⟨[]⟩), ⟨[]⟩⟩
noncomputable def ho75 (P : Params) : Obj := ⟨.none, none, (hFn (nameAt 9) (nameAt 9) (parAt 9) (bodyAt 9) (scAt 9) 0 .none .none .none), ⟨[]⟩⟩
noncomputable def ho76 (P : Params) : Obj := ⟨(.type "code"), none, (.fields ⟨[(.str (hS [95, 108, 97, 119, 95, 104, 101, 97, 112, 115]) 286), (.str (hS [95, 108, 97, 119, 95, 104, 101, 97, 112, 115]) 287), (.str (hS [47, 99, 108, 97, 105, 109, 47, 99, 117, 116, 46, 112, 121]) 288), (.int 73 0), (.int 2 0), (.int 0 0), (.int 0 0), (.int 3 0), (.ref 73), (.bool true), (.int 181 0), (.ref 74), .none, .none, .none, (.ref 75), (.int 289 0), (.int 73 0), (.str (hS [47, 99, 108, 97, 105, 109, 47, 99, 117, 116, 46, 112, 121]) 290)]⟩), ⟨[]⟩⟩
noncomputable def ho77 (P : Params) : Obj := ⟨(.type "function"), none, (hFn (nameAt 9) (nameAt 9) (parAt 9) (bodyAt 9) (scAt 9) 3 .none (.str (hS [108, 97, 119, 95, 109, 113, 48, 49, 54, 48, 95, 48, 49]) 284) (.ref 76)), ⟨[]⟩⟩
noncomputable def ho78 (P : Params) : Obj := ⟨(.type "tuple"), none, (.seq ⟨[]⟩ 0), ⟨[]⟩⟩
noncomputable def ho79 (P : Params) : Obj := ⟨.none, none, (.fields ⟨[]⟩), ⟨[]⟩⟩
noncomputable def ho80 (P : Params) : Obj := ⟨(.type "tuple"), none, (.seq ⟨[(.str (hS [115, 99, 114, 105, 112, 116]) 295), (.str (hS [114, 111, 119, 115]) 296), (.str (hS [112, 108, 97, 99, 101]) 297), (.str (hS [110, 117, 109, 98, 101, 114]) 298), (.str (hS [119, 111, 114, 100]) 299), (.str (hS [102, 111, 117, 114]) 300), (.str (hS [101, 110, 116, 114, 121]) 301)]⟩ 0), ⟨[]⟩⟩
noncomputable def ho81 (P : Params) : Obj := ⟨(.type "tuple"), none, (.seq ⟨[]⟩ 0), ⟨[]⟩⟩
noncomputable def ho82 (P : Params) : Obj := ⟨.none, none, (hFn (nameAt 10) (nameAt 10) (parAt 10) (bodyAt 10) (scAt 10) 0 .none .none .none), ⟨[]⟩⟩
noncomputable def ho83 (P : Params) : Obj := ⟨(.type "code"), none, (.fields ⟨[(.str (hS [95, 108, 97, 119, 95, 114, 111, 119, 115]) 292), (.str (hS [95, 108, 97, 119, 95, 114, 111, 119, 115]) 293), (.str (hS [47, 99, 108, 97, 105, 109, 47, 99, 117, 116, 46, 112, 121]) 294), (.int 75 0), (.int 1 0), (.int 0 0), (.int 0 0), (.int 3 0), (.ref 78), (.bool true), (.int 181 0), (.ref 79), .none, (.ref 80), (.ref 81), (.ref 82), (.int 302 0), (.int 75 0), (.str (hS [47, 99, 108, 97, 105, 109, 47, 99, 117, 116, 46, 112, 121]) 303)]⟩), ⟨[]⟩⟩
noncomputable def ho84 (P : Params) : Obj := ⟨(.type "function"), none, (hFn (nameAt 10) (nameAt 10) (parAt 10) (bodyAt 10) (scAt 10) 3 .none (.str (hS [108, 97, 119, 95, 109, 113, 48, 49, 54, 48, 95, 48, 49]) 284) (.ref 83)), ⟨[]⟩⟩
noncomputable def ho85 (P : Params) : Obj := ⟨(.type "tuple"), none, (.seq ⟨[]⟩ 0), ⟨[]⟩⟩
noncomputable def ho86 (P : Params) : Obj := ⟨.none, none, (.fields ⟨[]⟩), ⟨[]⟩⟩
noncomputable def ho87 (P : Params) : Obj := ⟨.none, none, (hFn (nameAt 11) (nameAt 11) (parAt 11) (bodyAt 11) (scAt 11) 0 .none .none .none), ⟨[]⟩⟩
noncomputable def ho88 (P : Params) : Obj := ⟨(.type "code"), none, (.fields ⟨[(.str (hS [95, 108, 97, 119, 95, 107, 101, 121, 115]) 305), (.str (hS [95, 108, 97, 119, 95, 107, 101, 121, 115]) 306), (.str (hS [47, 99, 108, 97, 105, 109, 47, 99, 117, 116, 46, 112, 121]) 307), (.int 83 0), (.int 1 0), (.int 0 0), (.int 0 0), (.int 3 0), (.ref 85), (.bool true), (.int 181 0), (.ref 86), .none, .none, .none, (.ref 87), (.int 308 0), (.int 83 0), (.str (hS [47, 99, 108, 97, 105, 109, 47, 99, 117, 116, 46, 112, 121]) 309)]⟩), ⟨[]⟩⟩
noncomputable def ho89 (P : Params) : Obj := ⟨(.type "function"), none, (hFn (nameAt 11) (nameAt 11) (parAt 11) (bodyAt 11) (scAt 11) 3 .none (.str (hS [108, 97, 119, 95, 109, 113, 48, 49, 54, 48, 95, 48, 49]) 284) (.ref 88)), ⟨[]⟩⟩
noncomputable def ho90 (P : Params) : Obj := ⟨(.type "tuple"), none, (.seq ⟨[]⟩ 0), ⟨[]⟩⟩
noncomputable def ho91 (P : Params) : Obj := ⟨.none, none, (.fields ⟨[]⟩), ⟨[]⟩⟩
noncomputable def ho92 (P : Params) : Obj := ⟨(.type "tuple"), none, (.seq ⟨[(.str (hS [99, 111, 109, 112]) 314), (.str (hS [95, 108, 97, 119, 95, 109, 101, 114, 103, 101]) 315)]⟩ 0), ⟨[]⟩⟩
noncomputable def ho93 (P : Params) : Obj := ⟨(.type "tuple"), none, (.seq ⟨[(.str (hS [99, 111, 109, 112]) 316)]⟩ 0), ⟨[]⟩⟩
noncomputable def ho94 (P : Params) : Obj := ⟨.none, none, (hFn (nameAt 12) (nameAt 12) (parAt 12) (bodyAt 12) (scAt 12) 0 .none .none .none), ⟨[]⟩⟩
noncomputable def ho95 (P : Params) : Obj := ⟨(.type "code"), none, (.fields ⟨[(.str (hS [95, 108, 97, 119, 95, 109, 101, 114, 103, 101, 114]) 311), (.str (hS [95, 108, 97, 119, 95, 109, 101, 114, 103, 101, 114]) 312), (.str (hS [47, 99, 108, 97, 105, 109, 47, 99, 117, 116, 46, 112, 121]) 313), (.int 90 0), (.int 1 0), (.int 0 0), (.int 0 0), (.int 3 0), (.ref 90), (.bool true), (.int 181 0), (.ref 91), .none, (.ref 92), (.ref 93), (.ref 94), (.int 317 0), (.int 90 0), (.str (hS [47, 99, 108, 97, 105, 109, 47, 99, 117, 116, 46, 112, 121]) 318)]⟩), ⟨[]⟩⟩
noncomputable def ho96 (P : Params) : Obj := ⟨(.type "function"), none, (hFn (nameAt 12) (nameAt 12) (parAt 12) (bodyAt 12) (scAt 12) 3 .none (.str (hS [108, 97, 119, 95, 109, 113, 48, 49, 54, 48, 95, 48, 49]) 284) (.ref 95)), ⟨[]⟩⟩
noncomputable def ho97 (P : Params) : Obj := ⟨(.type "tuple"), none, (.seq ⟨[]⟩ 0), ⟨[]⟩⟩
noncomputable def ho98 (P : Params) : Obj := ⟨.none, none, (.fields ⟨[]⟩), ⟨[]⟩⟩
noncomputable def ho99 (P : Params) : Obj := ⟨.none, none, (hFn (nameAt 13) (nameAt 13) (parAt 13) (bodyAt 13) (scAt 13) 0 .none .none .none), ⟨[]⟩⟩
noncomputable def ho100 (P : Params) : Obj := ⟨(.type "code"), none, (.fields ⟨[(.str (hS [95, 108, 97, 119, 95, 115, 116, 97, 103, 101, 115]) 320), (.str (hS [95, 108, 97, 119, 95, 115, 116, 97, 103, 101, 115]) 321), (.str (hS [47, 99, 108, 97, 105, 109, 47, 99, 117, 116, 46, 112, 121]) 322), (.int 97 0), (.int 2 0), (.int 0 0), (.int 0 0), (.int 3 0), (.ref 97), (.bool true), (.int 181 0), (.ref 98), .none, .none, .none, (.ref 99), (.int 323 0), (.int 97 0), (.str (hS [47, 99, 108, 97, 105, 109, 47, 99, 117, 116, 46, 112, 121]) 324)]⟩), ⟨[]⟩⟩
noncomputable def ho101 (P : Params) : Obj := ⟨(.type "function"), none, (hFn (nameAt 13) (nameAt 13) (parAt 13) (bodyAt 13) (scAt 13) 3 .none (.str (hS [108, 97, 119, 95, 109, 113, 48, 49, 54, 48, 95, 48, 49]) 284) (.ref 100)), ⟨[]⟩⟩
noncomputable def ho102 (P : Params) : Obj := ⟨(.type "tuple"), none, (.seq ⟨[]⟩ 0), ⟨[]⟩⟩
noncomputable def ho103 (P : Params) : Obj := ⟨.none, none, (.fields ⟨[]⟩), ⟨[]⟩⟩
noncomputable def ho104 (P : Params) : Obj := ⟨.none, none, (hFn (nameAt 14) (nameAt 14) (parAt 14) (bodyAt 14) (scAt 14) 0 .none .none .none), ⟨[]⟩⟩
noncomputable def ho105 (P : Params) : Obj := ⟨(.type "code"), none, (.fields ⟨[(.str (hS [95, 108, 97, 119, 95, 115, 117, 109, 115]) 326), (.str (hS [95, 108, 97, 119, 95, 115, 117, 109, 115]) 327), (.str (hS [47, 99, 108, 97, 105, 109, 47, 99, 117, 116, 46, 112, 121]) 328), (.int 104 0), (.int 1 0), (.int 0 0), (.int 0 0), (.int 3 0), (.ref 102), (.bool true), (.int 181 0), (.ref 103), .none, .none, .none, (.ref 104), (.int 329 0), (.int 104 0), (.str (hS [47, 99, 108, 97, 105, 109, 47, 99, 117, 116, 46, 112, 121]) 330)]⟩), ⟨[]⟩⟩
noncomputable def ho106 (P : Params) : Obj := ⟨(.type "function"), none, (hFn (nameAt 14) (nameAt 14) (parAt 14) (bodyAt 14) (scAt 14) 3 .none (.str (hS [108, 97, 119, 95, 109, 113, 48, 49, 54, 48, 95, 48, 49]) 284) (.ref 105)), ⟨[]⟩⟩
noncomputable def ho107 (P : Params) : Obj := ⟨(.type "tuple"), none, (.seq ⟨[]⟩ 0), ⟨[]⟩⟩
noncomputable def ho108 (P : Params) : Obj := ⟨.none, none, (.fields ⟨[]⟩), ⟨[]⟩⟩
noncomputable def ho109 (P : Params) : Obj := ⟨.none, none, (hFn (nameAt 15) (nameAt 15) (parAt 15) (bodyAt 15) (scAt 15) 0 .none .none .none), ⟨[]⟩⟩
noncomputable def ho110 (P : Params) : Obj := ⟨(.type "code"), none, (.fields ⟨[(.str (hS [95, 108, 97, 119, 95, 100, 117, 101]) 332), (.str (hS [95, 108, 97, 119, 95, 100, 117, 101]) 333), (.str (hS [47, 99, 108, 97, 105, 109, 47, 99, 117, 116, 46, 112, 121]) 334), (.int 113 0), (.int 2 0), (.int 0 0), (.int 0 0), (.int 3 0), (.ref 107), (.bool true), (.int 181 0), (.ref 108), .none, .none, .none, (.ref 109), (.int 335 0), (.int 113 0), (.str (hS [47, 99, 108, 97, 105, 109, 47, 99, 117, 116, 46, 112, 121]) 336)]⟩), ⟨[]⟩⟩
noncomputable def ho111 (P : Params) : Obj := ⟨(.type "function"), none, (hFn (nameAt 15) (nameAt 15) (parAt 15) (bodyAt 15) (scAt 15) 3 .none (.str (hS [108, 97, 119, 95, 109, 113, 48, 49, 54, 48, 95, 48, 49]) 284) (.ref 110)), ⟨[]⟩⟩
noncomputable def ho112 (P : Params) : Obj := ⟨(.type "tuple"), none, (.seq ⟨[]⟩ 0), ⟨[]⟩⟩
noncomputable def ho113 (P : Params) : Obj := ⟨.none, none, (.fields ⟨[]⟩), ⟨[]⟩⟩
noncomputable def ho114 (P : Params) : Obj := ⟨(.type "tuple"), none, (.seq ⟨[(.str (hS [115, 99, 114, 105, 112, 116]) 341), (.str (hS [114, 111, 119, 115]) 342), (.str (hS [107, 101, 121, 115]) 343), (.str (hS [116, 111, 108, 100]) 344), (.str (hS [102, 114, 101, 115, 104]) 345)]⟩ 0), ⟨[]⟩⟩
noncomputable def ho115 (P : Params) : Obj := ⟨(.type "tuple"), none, (.seq ⟨[]⟩ 0), ⟨[]⟩⟩
noncomputable def ho116 (P : Params) : Obj := ⟨.none, none, (hFn (nameAt 16) (nameAt 16) (parAt 16) (bodyAt 16) (scAt 16) 0 .none .none .none), ⟨[]⟩⟩
noncomputable def ho117 (P : Params) : Obj := ⟨(.type "code"), none, (.fields ⟨[(.str (hS [108, 97, 119]) 338), (.str (hS [108, 97, 119]) 339), (.str (hS [47, 99, 108, 97, 105, 109, 47, 99, 117, 116, 46, 112, 121]) 340), (.int 126 0), (.int 1 0), (.int 0 0), (.int 0 0), (.int 3 0), (.ref 112), (.bool true), (.int 181 0), (.ref 113), .none, (.ref 114), (.ref 115), (.ref 116), (.int 346 0), (.int 126 0), (.str (hS [47, 99, 108, 97, 105, 109, 47, 99, 117, 116, 46, 112, 121]) 347)]⟩), ⟨[]⟩⟩
noncomputable def ho118 (P : Params) : Obj := ⟨(.type "function"), none, (hFn (nameAt 16) (nameAt 16) (parAt 16) (bodyAt 16) (scAt 16) 3 .none (.str (hS [108, 97, 119, 95, 109, 113, 48, 49, 54, 48, 95, 48, 49]) 284) (.ref 117)), ⟨[]⟩⟩
noncomputable def K1 (P : Params) : PySem.W.Frag := [(0, boot_o_0 P), (1, boot_o_1 P), (2, boot_o_2 P), (3, ho3 P), (4, boot_o_4 P), (5, boot_o_5 P), (6, boot_o_6 P), (7, boot_o_7 P), (8, boot_o_8 P), (9, boot_o_9 P), (10, boot_o_10 P), (11, ho11 P), (12, ho12 P), (13, ho13 P), (14, ho14 P), (15, ho15 P), (22, ho22 P), (23, ho23 P), (24, ho24 P), (25, ho25 P), (26, ho26 P), (27, ho27 P), (28, ho28 P), (29, ho29 P), (30, ho30 P), (31, ho31 P), (32, ho32 P), (33, ho33 P), (34, ho34 P), (35, ho35 P), (36, ho36 P), (37, ho37 P), (38, ho38 P), (39, ho39 P), (40, ho40 P), (43, ho43 P), (44, ho44 P), (45, ho45 P), (46, ho46 P), (47, ho47 P), (48, ho48 P), (49, ho49 P), (50, ho50 P), (51, ho51 P), (52, ho52 P), (53, ho53 P), (54, ho54 P), (55, ho55 P), (56, ho56 P), (57, ho57 P), (58, ho58 P), (59, ho59 P), (60, ho60 P), (61, ho61 P), (62, ho62 P), (63, ho63 P), (64, ho64 P), (65, ho65 P), (66, ho66 P), (67, ho67 P), (68, ho68 P), (69, ho69 P), (70, ho70 P), (71, ho71 P), (72, ho72 P), (73, ho73 P), (74, ho74 P), (75, ho75 P), (76, ho76 P), (77, ho77 P), (78, ho78 P), (79, ho79 P), (80, ho80 P), (81, ho81 P), (82, ho82 P), (83, ho83 P), (84, ho84 P), (85, ho85 P), (86, ho86 P), (87, ho87 P), (88, ho88 P), (89, ho89 P), (90, ho90 P), (91, ho91 P), (92, ho92 P), (93, ho93 P), (94, ho94 P), (95, ho95 P), (96, ho96 P), (97, ho97 P), (98, ho98 P), (99, ho99 P), (100, ho100 P), (101, ho101 P), (102, ho102 P), (103, ho103 P), (104, ho104 P), (105, ho105 P), (106, ho106 P), (107, ho107 P), (108, ho108 P), (109, ho109 P), (110, ho110 P), (111, ho111 P), (112, ho112 P), (113, ho113 P), (114, ho114 P), (115, ho115 P), (116, ho116 P), (117, ho117 P), (118, ho118 P)]
noncomputable def topH (P : Params) : Heap := ⟨⟨[boot_o_0 P, boot_o_1 P, boot_o_2 P, ho3 P, boot_o_4 P, boot_o_5 P, boot_o_6 P, boot_o_7 P, boot_o_8 P, boot_o_9 P, boot_o_10 P, ho11 P, ho12 P, ho13 P, ho14 P, ho15 P, ho16 P, ho17 P, ho18 P, ho19 P, ho20 P, ho21 P, ho22 P, ho23 P, ho24 P, ho25 P, ho26 P, ho27 P, ho28 P, ho29 P, ho30 P, ho31 P, ho32 P, ho33 P, ho34 P, ho35 P, ho36 P, ho37 P, ho38 P, ho39 P, ho40 P, ho41 P, ho42 P, ho43 P, ho44 P, ho45 P, ho46 P, ho47 P, ho48 P, ho49 P, ho50 P, ho51 P, ho52 P, ho53 P, ho54 P, ho55 P, ho56 P, ho57 P, ho58 P, ho59 P, ho60 P, ho61 P, ho62 P, ho63 P, ho64 P, ho65 P, ho66 P, ho67 P, ho68 P, ho69 P, ho70 P, ho71 P, ho72 P, ho73 P, ho74 P, ho75 P, ho76 P, ho77 P, ho78 P, ho79 P, ho80 P, ho81 P, ho82 P, ho83 P, ho84 P, ho85 P, ho86 P, ho87 P, ho88 P, ho89 P, ho90 P, ho91 P, ho92 P, ho93 P, ho94 P, ho95 P, ho96 P, ho97 P, ho98 P, ho99 P, ho100 P, ho101 P, ho102 P, ho103 P, ho104 P, ho105 P, ho106 P, ho107 P, ho108 P, ho109 P, ho110 P, ho111 P, ho112 P, ho113 P, ho114 P, ho115 P, ho116 P, ho117 P, ho118 P]⟩, {}⟩
def topAs : List Addr := [0, 1, 2, 3, 4, 5, 6, 7, 8, 9, 10, 11, 12, 13, 14, 15, 22, 23, 24, 25, 26, 27, 28, 29, 30, 31, 32, 33, 34, 35, 36, 37, 38, 39, 40, 43, 44, 45, 46, 47, 48, 49, 50, 51, 52, 53, 54, 55, 56, 57, 58, 59, 60, 61, 62, 63, 64, 65, 66, 67, 68, 69, 70, 71, 72, 73, 74, 75, 76, 77, 78, 79, 80, 81, 82, 83, 84, 85, 86, 87, 88, 89, 90, 91, 92, 93, 94, 95, 96, 97, 98, 99, 100, 101, 102, 103, 104, 105, 106, 107, 108, 109, 110, 111, 112, 113, 114, 115, 116, 117, 118]

/-! the head -/
def hView : Program := { PySem.Challenge.pw_mq0160_01 with main := { PySem.Challenge.pw_mq0160_01.main with body := [1, 2, 3, 5, 8, 9, 10, 11, 12, 13, 14, 15, 16].filterMap fun i => PySem.Challenge.pw_mq0160_01.main.body[i]? } }
def hLoose : List Str := [Str.ofString "_initial_missing", Str.ofString "reduce"]
def hLaw : DefRec := { name := nameAt 16, params := parAt 16, body := bodyAt 16, scope := scAt 16, pos := hPos 16 }
abbrev hRow : OpenRow := PySem.Challenge.rw_mq0160_01.row
theorem top_run (w : World) (os : OsState) : topRun treeTable hRow.prog w 11 (some (.ref 6)) 1490 ⟨boot_heap w.params, #[], boot_drawn, boot_toks, os⟩ (topStub hRow.prog) = some ⟨topH w.params, #[], {}, 349, os⟩ := by kernel_rfl
theorem hLeft : LeftO hRow.prog hView hLoose (fun s => xlAt hView [] s && recOk (RowW.records hRow.toRowW) s) (obsZ topAs) (valZ K1 119 349) 1490 :=
  LeftO.of_pieces (H₀ := boot_heap) (H₁ := topH) (gs₀ := #[]) (gs₁ := #[]) (d₀ := boot_drawn) (d₁ := {}) (k₀ := boot_toks) (k₁ := 349) (m₀ := 11) (ann := some (.ref 6)) (M := 1490)
    (boot_open (by kernel_rfl) (by kernel_rfl) fun s => by kernel_rfl) (fun w => by kernel_rfl) top_run (by kernel_rfl) fun w => by kernel_rfl
theorem own_hd (call : WalkX hView hLoose (XL hView []) (obsZ topAs) (valZ K1 119 349) hRow.toRowW hLaw [] fun f vs => PySem.call f vs) : PySem.Challenge.rw_mq0160_01.Holds := by
  refine holds_law (by kernel_rfl) fun said => ?_
  refine holds_openX (q := hView) (loose := hLoose) (N := 1490) hLeft (fun s e => xl_of s (Bool.and_eq_true_iff.mp e).1) XL.keeps (d := hLaw) (kwd := []) (by kernel_rfl) (by kernel_rfl) (by kernel_rfl) (fun s e => recFacts_of (Bool.and_eq_true_iff.mp e).2) (by kernel_rfl) said (by decide +kernel) ⟨rfl, rfl, rfl, rfl, rfl, by decide +kernel⟩ ?_ call
  w_witness2
end Mine
end
section
open PySem PySem.W PyProof.Rows
set_option Elab.async false
set_option maxRecDepth 100000
namespace Mine

/-! what stands behind is put under a name: the terms stay small -/
theorem absQ {α : Type} {M : Model} {A : Around} {t : Sem α} {Q : α → Shared → Prop} {E : Value → Shared → Prop} {s : Shared} (h : ∀ K : α → Shared → Prop, (∀ v s', Q v s' → K v s') → wpAny M A t K E s) : wpAny M A t Q E s := h Q fun _ _ x => x
theorem absF {α : Type} {M : Model} {A : Around} {t : Sem α} {b : Sem Flow} {Q : Flow → Shared → Prop} {F E : Value → Shared → Prop} {s : Shared} (h : ∀ K : Flow → Shared → Prop, (∀ fl s', Q fl s' → K fl s') → wpAny M A t (fun _ s₂ => wpAny M A b K F s₂) E s) :
    wpAny M A t (fun _ s₂ => wpAny M A b Q F s₂) E s := h Q fun _ _ x => x
theorem absC {M : Model} {A : Around} {t : Sem Bool} {b : Sem Value} {Q : Value → Shared → Prop} {Q0 : Shared → Prop} {F E : Value → Shared → Prop} {s : Shared}
    (h : ∀ (K : Value → Shared → Prop) (K0 : Shared → Prop), (∀ v s', Q v s' → K v s') → (∀ s', Q0 s' → K0 s') → wpAny M A t (fun ok s₃ => if ok = true then wpAny M A b K F s₃ else K0 s₃) E s) :
    wpAny M A t (fun ok s₃ => if ok = true then wpAny M A b Q F s₃ else Q0 s₃) E s := h Q Q0 (fun _ _ x => x) fun _ x => x
theorem absA {α : Type} {M : Model} {A : Around} {t' : Sem α} {t : Sem Bool} {b : Sem Value} {Q : Value → Shared → Prop} {Q0 : Shared → Prop} {F E E' : Value → Shared → Prop} {s : Shared}
    (h : ∀ (K : Value → Shared → Prop) (K0 : Shared → Prop), (∀ v s', Q v s' → K v s') → (∀ s', Q0 s' → K0 s') → wpAny M A t' (fun _ s₂ => wpAny M A t (fun ok s₃ => if ok = true then wpAny M A b K F s₃ else K0 s₃) E s₂) E' s) :
    wpAny M A t' (fun _ s₂ => wpAny M A t (fun ok s₃ => if ok = true then wpAny M A b Q F s₃ else Q0 s₃) E s₂) E' s := h Q Q0 (fun _ _ x => x) fun _ x => x
theorem ifT {a b : Prop} (h : a) : if true = true then a else b := by rw [if_pos rfl]; exact h
theorem ifF {a b : Prop} (h : b) : if false = true then a else b := by rw [if_neg (by decide)]; exact h
theorem noTests {M : Model} {A : Around} {b : Sem Value} {Q : Value → Shared → Prop} {Q0 : Shared → Prop} {F E : Value → Shared → Prop} {s : Shared} (h : wpAny M A b Q F s) :
    wpAny M A (pure true) (fun ok s₃ => if ok = true then wpAny M A b Q F s₃ else Q0 s₃) E s := wpAny_pure (ifT h)
/-! frozen parts of the heap, objects that still turn, situations -/
abbrev FM := Addr → Option Obj
abbrev MU := List (Addr × (Obj → Prop))

def FM.le (B B' : FM) : Prop := ∀ a o, B a = some o → B' a = some o
def FM.inn (B : FM) (h : Heap) : Prop := ∀ a o, B a = some o → h.get? a = some o
def FM.put (B : FM) (a : Addr) (o : Obj) : FM := fun x => if x = a then some o else B x
theorem FM.le.refl (B : FM) : B.le B := fun _ _ e => e
theorem FM.le.trans {B B' B'' : FM} (x : B.le B') (y : B'.le B'') : B.le B'' := fun a o e => y a o (x a o e)
theorem FM.le_put {B : FM} {a : Addr} {o : Obj} (h : B a = none) : B.le (B.put a o) := fun x o' e => by
  unfold FM.put
  by_cases hx : x = a
  · subst hx; rw [h] at e; cases e
  · rw [if_neg hx]; exact e
theorem FM.put_self (B : FM) (a : Addr) (o : Obj) : B.put a o a = some o := by unfold FM.put; rw [if_pos rfl]
theorem FM.put_ne {B : FM} {a x : Addr} {o : Obj} (h : x ≠ a) : B.put a o x = B x := by unfold FM.put; rw [if_neg h]

/-- the tables of codes that a call may grow -/
def Tab (a : Nat) : Prop := a = 51 ∨ a = 58 ∨ a = 91 ∨ a = 108
theorem Tab.lt {a : Nat} (h : Tab a) : a < 120 := by unfold Tab at h; omega

/-- names: an association list told by an object -/
structure NsP (l : List (Str × Value)) (o : Obj) : Prop where
  h : ∃ es ep, o.data = .dict es ep ∧ StrKeys es ∧ ∀ n, nsFind es n = l.lookup n
structure CellP (v : Option Value) (o : Obj) : Prop where
  h : o.data = .cell v
structure EqP (o' : Obj) (o : Obj) : Prop where
  h : o = o'
abbrev lstO (vs : List Value) (n : Nat) : Obj := { cls := .type "list", data := .seq vs.toArray n }
abbrev tupO (vs : List Value) (n : Nat) : Obj := { cls := .type "tuple", data := .seq vs.toArray n }
structure LstP (vs : List Value) (o : Obj) : Prop where
  h : ∃ n, o = lstO vs n

/-- what the text's top has laid, as far as the call asks -/
def NsB (B : FM) (a : Addr) (m : Str → Option Value) : Prop := ∃ o es ep, B a = some o ∧ o.data = .dict es ep ∧ StrKeys es ∧ ∀ n, nsFind es n = m n
theorem NsB.le {B B' : FM} {a : Addr} {m : Str → Option Value} (x : NsB B a m) (h : B.le B') : NsB B' a m := let ⟨o, es, ep, e, r⟩ := x; ⟨o, es, ep, h _ _ e, r⟩
theorem NsB.ns {B : FM} {a : Addr} {m : Str → Option Value} {h : Heap} (x : NsB B a m) (k : B.inn h) : h.Ns a m := let ⟨o, es, ep, e, r⟩ := x; ⟨o, es, ep, k _ _ e, r⟩

/-- a def: the function's object and its code's -/
structure FnB (B : FM) (f : Addr) (fd : FuncData) : Prop where
  fn : ∃ o, B f = some o ∧ o.cls = .type "function" ∧ o.data = .func fd
  code : ∃ c o vs t, fd.code = .ref c ∧ B c = some o ∧ o.data = .fields vs ∧ vs[1]? = some (.str fd.qualname t)
theorem FnB.le {B B' : FM} {f : Addr} {fd : FuncData} (x : FnB B f fd) (h : B.le B') : FnB B' f fd :=
  ⟨let ⟨o, e, r⟩ := x.fn; ⟨o, h _ _ e, r⟩, let ⟨c, o, vs, t, e, e', r⟩ := x.code; ⟨c, o, vs, t, e, h _ _ e', r⟩⟩


def Stat (P : Params) (B : FM) : Prop := ∀ a o, (K1 P).lookup a = some o → ¬ Tab a → B a = some o
theorem Stat.le {P : Params} {B B' : FM} (x : Stat P B) (h : B.le B') : Stat P B' := fun a o e t => h _ _ (x a o e t)

/-- the code tables: empty as yet (f: all four; g: the last one), or grown by the one code that can be made there -/
structure TabOk (f g : Bool) (B : FM) (h : Heap) : Prop where
  t51 : ∃ ps, h.get? 51 = some (tabObj ps) ∧ (f = true → ps = #[]) ∧ (ps = #[] ∨ ∃ c, ps = #[rawInt 27, rawInt 42, .ref c])
  t58 : ∃ ps, h.get? 58 = some (tabObj ps) ∧ (f = true → ps = #[])
  t91 : ∃ ps, h.get? 91 = some (tabObj ps) ∧ (f = true → ps = #[]) ∧ (ps = #[] ∨ ∃ c o vs t, ps = #[rawInt 92, rawInt 4, .ref c] ∧ B c = some o ∧ o.data = .fields vs ∧ vs[1]? = some (.str "_law_merger.<locals>._law_merge" t))
  t108 : ∃ ps, h.get? 108 = some (tabObj ps) ∧ (f = true → ps = #[]) ∧ (g = true → ps = #[])
theorem TabOk.keep {f g : Bool} {B B' : FM} {h h' : Heap} (x : TabOk f g B h) (hB : B.le B') (k : ∀ a, Tab a → ∀ o, h.get? a = some o → h'.get? a = some o) : TabOk f g B' h' where
  t51 := let ⟨ps, e, r⟩ := x.t51; ⟨ps, k _ (.inl rfl) _ e, r⟩
  t58 := let ⟨ps, e, r⟩ := x.t58; ⟨ps, k _ (.inr (.inl rfl)) _ e, r⟩
  t91 := let ⟨ps, e, r, q⟩ := x.t91; ⟨ps, k _ (.inr (.inr (.inl rfl))) _ e, r, q.imp id fun ⟨c, o, vs, t, a, b, d⟩ => ⟨c, o, vs, t, a, hB _ _ b, d⟩⟩
  t108 := let ⟨ps, e, r⟩ := x.t108; ⟨ps, k _ (.inr (.inr (.inr rfl))) _ e, r⟩

structure Sit (P : Params) (f g : Bool) (B : FM) (h : Heap) (gs : Array GenState) : Prop where
  inB : B.inn h
  stat : Stat P B
  tabs : TabOk f g B h
  tabB : ∀ a, Tab a → B a = none
  bare : AllBare gs
theorem TabOk.there {f g : Bool} {B : FM} {h : Heap} (x : TabOk f g B h) {a : Nat} (t : Tab a) : ∃ o, h.get? a = some o := by
  unfold Tab at t
  rcases t with rfl | rfl | rfl | rfl
  · exact let ⟨_, e, _⟩ := x.t51; ⟨_, e⟩
  · exact let ⟨_, e, _⟩ := x.t58; ⟨_, e⟩
  · exact let ⟨_, e, _⟩ := x.t91; ⟨_, e⟩
  · exact let ⟨_, e, _⟩ := x.t108; ⟨_, e⟩

/-- what a call leaves: all old objects but the tables are kept, the frozen part grows by new objects alone -/
structure Mv (B B' : FM) (s s' : Shared) : Prop where
  ext : ∀ b o, ¬ Tab b → s.heap.get? b = some o → s'.heap.get? b = some o
  le : B.le B'
  new : ∀ a, B a = none → ∀ o, B' a = some o → s.heap.get? a = none
  os : s'.os = s.os
theorem Mv.refl (B : FM) (s : Shared) : Mv B B s s := ⟨fun _ _ _ e => e, FM.le.refl B, fun a h o e => (by rw [h] at e; cases e), rfl⟩

structure Cx (P : Params) (f g : Bool) (s₀ : Shared) (B₀ B : FM) (mu : MU) (h : Heap) (gs : Array GenState) (os : OsState) : Prop where
  sit : Sit P f g B h gs
  ext : ∀ b o, ¬ Tab b → s₀.heap.get? b = some o → h.get? b = some o
  le : B₀.le B
  new : ∀ a, B₀ a = none → ∀ o, B a = some o → s₀.heap.get? a = none
  os : os = s₀.os
  tab0 : ∀ a, Tab a → ∃ o, s₀.heap.get? a = some o
  mus : ∀ p ∈ mu, ∃ o, h.get? p.1 = some o ∧ p.2 o
  nd : (mu.map (·.1)).Nodup
  fresh : ∀ p ∈ mu, s₀.heap.get? p.1 = none ∧ B p.1 = none

theorem get_size (h : Heap) : h.get? h.objs.size = none := by
  cases q : h.get? h.objs.size with
  | none => rfl
  | some o => exact absurd (Heap.lt_size q) (Nat.lt_irrefl _)

section
variable {P : Params} {f g : Bool} {s₀ : Shared} {B₀ B : FM} {mu : MU} {h h' : Heap} {gs : Array GenState} {os : OsState}

theorem Cx.start {s : Shared} (S : Sit P f g B s.heap s.gens) : Cx P f g s B B [] s.heap s.gens s.os :=
  ⟨S, fun _ _ _ e => e, FM.le.refl B, fun a h o e => (by rw [h] at e; cases e), rfl, fun _ t => S.tabs.there t, fun _ hp => (nomatch hp), List.nodup_nil, fun _ hp => (nomatch hp)⟩

theorem Cx.notab (x : Cx P f g s₀ B₀ B mu h gs os) {p : Addr × (Obj → Prop)} (hp : p ∈ mu) : ¬ Tab p.1 := fun t => by
  obtain ⟨o, e⟩ := x.tab0 _ t
  rw [(x.fresh p hp).1] at e; cases e
theorem FM.inn.push {B : FM} {h : Heap} (x : B.inn h) (o : Obj) : B.inn (h.push o) := fun a o' e => Heap.get?_push_of_some _ (x a o' e)
theorem Sit.none_of (x : Sit P f g B h gs) {a : Addr} (e : h.get? a = none) : B a = none := by
  cases q : B a with
  | none => rfl
  | some o => rw [x.inB a o q] at e; cases e
theorem Cx.old_none (x : Cx P f g s₀ B₀ B mu h gs os) {a : Addr} (e : h.get? a = none) : s₀.heap.get? a = none := by
  cases q : s₀.heap.get? a with
  | none => rfl
  | some o =>
    by_cases t : Tab a
    · obtain ⟨o', e'⟩ := x.sit.tabs.there t
      rw [e'] at e; cases e
    · rw [x.ext a o t q] at e; cases e

/-- the heap has grown, all objects that count are as they were -/
theorem Cx.grow (x : Cx P f g s₀ B₀ B mu h gs os) (k : ∀ b o, h.get? b = some o → h'.get? b = some o) : Cx P f g s₀ B₀ B mu h' gs os :=
  ⟨⟨fun a o e => k _ _ (x.sit.inB a o e), x.sit.stat, x.sit.tabs.keep (FM.le.refl B) fun _ _ _ e => k _ _ e, x.sit.tabB, x.sit.bare⟩, fun b o' t e => k _ _ (x.ext b o' t e), x.le, x.new, x.os, x.tab0,
   fun p hp => let ⟨o', e, r⟩ := x.mus p hp; ⟨o', k _ _ e, r⟩, x.nd, x.fresh⟩
theorem Cx.push (x : Cx P f g s₀ B₀ B mu h gs os) (o : Obj) : Cx P f g s₀ B₀ B mu (h.push o) gs os := x.grow fun _ _ e => Heap.get?_push_of_some _ e

/-- a new object that will turn -/
theorem Cx.newMu (x : Cx P f g s₀ B₀ B mu h gs os) {a : Addr} {o : Obj} {p : Obj → Prop} (ha : h.get? a = none) (k : ∀ b o, h.get? b = some o → h'.get? b = some o) (e : h'.get? a = some o) (hp : p o) : Cx P f g s₀ B₀ B ((a, p) :: mu) h' gs os := by
  have y := x.grow k
  refine ⟨y.sit, y.ext, y.le, y.new, y.os, y.tab0, fun q hq => ?_, ?_, fun q hq => ?_⟩
  · rcases List.mem_cons.mp hq with rfl | hq
    · exact ⟨o, e, hp⟩
    · exact y.mus q hq
  · rw [List.map_cons]
    refine List.nodup_cons.mpr ⟨fun hm => ?_, x.nd⟩
    obtain ⟨q, hq, e⟩ := List.mem_map.mp hm
    obtain ⟨o', e', _⟩ := x.mus q hq
    rw [e, ha] at e'; cases e'
  · rcases List.mem_cons.mp hq with rfl | hq
    · exact ⟨x.old_none ha, x.sit.none_of ha⟩
    · exact x.fresh q hq
theorem Cx.pushMu (x : Cx P f g s₀ B₀ B mu h gs os) {o : Obj} {p : Obj → Prop} (hp : p o) (hf : o.isFreed = false := by rfl) : Cx P f g s₀ B₀ B ((h.objs.size, p) :: mu) (h.push o) gs os :=
  x.newMu (get_size h) (fun _ _ e => Heap.get?_push_of_some _ e) (Heap.get?_push_size _ hf) hp

theorem FM.inn.put {B : FM} {h : Heap} {a : Addr} {o : Obj} (x : B.inn h) (e : h.get? a = some o) : (B.put a o).inn h := fun b o' q => by
  unfold FM.put at q
  by_cases hb : b = a
  · rw [if_pos hb] at q; cases q; rw [hb]; exact e
  · rw [if_neg hb] at q; exact x b o' q

/-- one object that turns has turned; else the heap has grown at most -/
theorem Cx.updE (x : Cx P f g s₀ B₀ B mu h gs os) (i : Nat) {a : Addr} {p p' : Obj → Prop} {o' : Obj} (hi : mu[i]? = some (a, p)) (hs : Heap.ExtBut a h h') (ho : h'.get? a = some o') (hp : p' o') :
    Cx P f g s₀ B₀ B (mu.set i (a, p')) h' gs os := by
  have hm : (a, p) ∈ mu := List.mem_of_getElem? hi
  have hBa : B a = none := (x.fresh _ hm).2
  have hta : ¬ Tab a := x.notab hm
  have keep : ∀ b o, b ≠ a → h.get? b = some o → h'.get? b = some o := fun b o hb e => hs b o hb e
  obtain ⟨hl, he⟩ := List.getElem?_eq_some_iff.mp hi
  have em : (mu.set i (a, p')).map (·.1) = mu.map (·.1) := by
    rw [List.map_set]
    refine List.ext_getElem (by simp) fun j h1 h2 => ?_
    rw [List.getElem_set]
    split
    · rename_i hij; subst hij; simp [he]
    · rfl
  refine ⟨⟨fun b o e => keep b o (fun q => by rw [q, hBa] at e; cases e) (x.sit.inB b o e), x.sit.stat, x.sit.tabs.keep (FM.le.refl B) fun b t o e => keep b o (fun q => hta (q ▸ t)) e, x.sit.tabB, x.sit.bare⟩,
    fun b o t e => keep b o (fun q => ?_) (x.ext b o t e), x.le, x.new, x.os, x.tab0, fun q hq => ?_, by rw [em]; exact x.nd, fun q hq => ?_⟩
  · have h1 := (x.fresh _ hm).1
    rw [q] at e
    rw [h1] at e; cases e
  · by_cases hq1 : q.1 = a
    · have : q = (a, p') := by
        obtain ⟨j, hj, hjq⟩ := List.mem_iff_getElem.mp hq
        have hjl : j < mu.length := by simpa using hj
        have e1 : (mu.map (·.1))[j]'(by simpa using hjl) = a := by
          have : ((mu.set i (a, p')).map (·.1))[j]'(by simpa using hj) = a := by rw [List.getElem_map, hjq]; exact hq1
          simp only [em] at this; exact this
        have e2 : (mu.map (·.1))[i]'(by simpa using hl) = a := by rw [List.getElem_map, he]
        have hij : i = j := (List.getElem_inj x.nd).mp (e2.trans e1.symm)
        subst hij
        rw [← hjq, List.getElem_set_self]
      subst this
      exact ⟨o', ho, hp⟩
    · rcases List.mem_or_eq_of_mem_set hq with hq2 | rfl
      · obtain ⟨o, e, r⟩ := x.mus q hq2
        exact ⟨o, keep _ _ hq1 e, r⟩
      · exact absurd rfl hq1
  · rcases List.mem_or_eq_of_mem_set hq with hq2 | rfl
    · exact x.fresh q hq2
    · exact x.fresh (a, p) hm
theorem Cx.upd (x : Cx P f g s₀ B₀ B mu h gs os) (i : Nat) {a : Addr} {p p' : Obj → Prop} {o' : Obj} (hi : mu[i]? = some (a, p)) (hs : Heap.SameBut a h h') (ho : h'.get? a = some o') (hp : p' o') :
    Cx P f g s₀ B₀ B (mu.set i (a, p')) h' gs os := x.updE i hi hs.extBut ho hp

theorem Cx.get (x : Cx P f g s₀ B₀ B mu h gs os) {a : Addr} {p : Obj → Prop} (i : Nat) (hi : mu[i]? = some (a, p)) : ∃ o, h.get? a = some o ∧ p o := x.mus _ (List.mem_of_getElem? hi)

/-- objects are let go -/
theorem Cx.sub (x : Cx P f g s₀ B₀ B mu h gs os) {mu' : MU} (hs : mu'.Sublist mu) : Cx P f g s₀ B₀ B mu' h gs os :=
  ⟨x.sit, x.ext, x.le, x.new, x.os, x.tab0, fun p hp => x.mus p (hs.subset hp), (hs.map _).nodup x.nd, fun p hp => x.fresh p (hs.subset hp)⟩
theorem Cx.perm {mu' : MU} (x : Cx P f g s₀ B₀ B mu h gs os) (hp : mu.Perm mu') : Cx P f g s₀ B₀ B mu' h gs os :=
  ⟨x.sit, x.ext, x.le, x.new, x.os, x.tab0, fun p hq => x.mus p (hp.mem_iff.mpr hq), (hp.map _).nodup_iff.mp x.nd, fun p hq => x.fresh p (hp.mem_iff.mpr hq)⟩
theorem Cx.tail (x : Cx P f g s₀ B₀ B mu h gs os) {p : Addr × (Obj → Prop)} {mu' : MU} (e : mu = p :: mu') : Cx P f g s₀ B₀ B mu' h gs os := x.sub (e ▸ List.sublist_cons_self ..)

/-- the object at the head is let go, whatever became of it -/
theorem Cx.dropE {a : Addr} {p : Obj → Prop} (x : Cx P f g s₀ B₀ B ((a, p) :: mu) h gs os) (hs : Heap.ExtBut a h h') : Cx P f g s₀ B₀ B mu h' gs os := by
  have hm : (a, p) ∈ (a, p) :: mu := .head _
  have hBa : B a = none := (x.fresh _ hm).2
  have hta : ¬ Tab a := x.notab hm
  have nd := x.nd
  rw [List.map_cons] at nd
  refine ⟨⟨fun b o e => hs b o (fun q => by rw [q, hBa] at e; cases e) (x.sit.inB b o e), x.sit.stat, x.sit.tabs.keep (FM.le.refl B) fun b t o e => hs b o (fun q => hta (q ▸ t)) e, x.sit.tabB, x.sit.bare⟩,
    fun b o t e => hs b o (fun q => ?_) (x.ext b o t e), x.le, x.new, x.os, x.tab0, fun q hq => ?_, (List.nodup_cons.mp nd).2, fun q hq => x.fresh q (.tail _ hq)⟩
  · have h1 := (x.fresh _ hm).1
    rw [q] at e
    rw [h1] at e; cases e
  · obtain ⟨o, e, r⟩ := x.mus q (.tail _ hq)
    exact ⟨o, hs _ _ (fun e' : q.1 = a => (List.nodup_cons.mp nd).1 (show a ∈ mu.map (·.1) from e' ▸ List.mem_map_of_mem hq)) e, r⟩

/-- the object at the head turns no more -/
theorem Cx.freeze {a : Addr} {p : Obj → Prop} (x : Cx P f g s₀ B₀ B ((a, p) :: mu) h gs os) : ∃ o, p o ∧ h.get? a = some o ∧ B a = none ∧ Cx P f g s₀ B₀ (B.put a o) mu h gs os := by
  have hm : (a, p) ∈ (a, p) :: mu := .head _
  obtain ⟨o, e, r⟩ := x.mus _ hm
  have hBa := (x.fresh _ hm).2
  have hle : B.le (B.put a o) := FM.le_put hBa
  have nd := x.nd
  rw [List.map_cons] at nd
  refine ⟨o, r, e, hBa, ⟨⟨x.sit.inB.put e, x.sit.stat.le hle, x.sit.tabs.keep hle fun _ _ _ e => e, fun b t => ?_, x.sit.bare⟩, x.ext, x.le.trans hle, fun b hb o' q => ?_, x.os, x.tab0, fun q hq => x.mus q (.tail _ hq), (List.nodup_cons.mp nd).2, fun q hq => ⟨(x.fresh q (.tail _ hq)).1, ?_⟩⟩⟩
  · rw [FM.put_ne (fun q : b = a => x.notab hm (show Tab a from q ▸ t))]; exact x.sit.tabB b t
  · by_cases hba : b = a
    · rw [hba]; exact (x.fresh _ hm).1
    · rw [FM.put_ne hba] at q; exact x.new b hb o' q
  · rw [FM.put_ne (fun e' : q.1 = a => (List.nodup_cons.mp nd).1 (show a ∈ mu.map (·.1) from e' ▸ List.mem_map_of_mem hq))]; exact (x.fresh q (.tail _ hq)).2
/-- a new object that will not turn -/
theorem Cx.newB (x : Cx P f g s₀ B₀ B mu h gs os) {a : Addr} {o : Obj} (ha : h.get? a = none) (k : ∀ b o, h.get? b = some o → h'.get? b = some o) (e : h'.get? a = some o) : Cx P f g s₀ B₀ (B.put a o) mu h' gs os := by
  obtain ⟨o', ⟨rfl⟩, _, _, y⟩ := (x.newMu (p := EqP o) ha k e ⟨rfl⟩).freeze
  exact y
theorem Cx.pushB (x : Cx P f g s₀ B₀ B mu h gs os) (o : Obj) (hf : o.isFreed = false := by rfl) : Cx P f g s₀ B₀ (B.put h.objs.size o) mu (h.push o) gs os :=
  x.newB (get_size h) (fun _ _ e => Heap.get?_push_of_some _ e) (Heap.get?_push_size _ hf)
end

section
variable {P : Params} {f g f' g' : Bool} {s₀ s s' : Shared} {B₀ B B' : FM} {mu : MU}
theorem Cx.call (x : Cx P f g s₀ B₀ B mu s.heap s.gens s.os) (m : Mv B B' s s') (S : Sit P f' g' B' s'.heap s'.gens) : Cx P f' g' s₀ B₀ B' mu s'.heap s'.gens s'.os :=
  ⟨S, fun b o t e => m.ext b o t (x.ext b o t e), x.le.trans m.le, fun a ha o e => (by
      cases q : B a with
      | none => exact x.old_none (m.new a q o e)
      | some o' => exact x.new a ha o' q), m.os.trans x.os, x.tab0, fun p hp => let ⟨o, e, r⟩ := x.mus p hp; ⟨o, m.ext _ _ (x.notab hp) e, r⟩, x.nd, fun p hp => ⟨(x.fresh p hp).1, by
      cases q : B' p.1 with
      | none => rfl
      | some o =>
        obtain ⟨o', e, _⟩ := x.mus p hp
        rw [m.new p.1 (x.fresh p hp).2 o q] at e; cases e⟩⟩
theorem Cx.mv (x : Cx P f g s B B' mu s'.heap s'.gens s'.os) : Mv B B' s s' := ⟨x.ext, x.le, x.new, x.os⟩
end
end Mine
end
section
open PySem PySem.W PyProof.Rows
set_option Elab.async false
set_option maxRecDepth 100000
namespace Mine

def putA (x : Str) (v : Value) : List (Str × Value) → List (Str × Value)
  | [] => [(x, v)]
  | (y, u) :: r => if x == y then (y, v) :: r else (y, u) :: putA x v r
theorem putA_lookup (x y : Str) (v : Value) : ∀ l : List (Str × Value), (putA x v l).lookup y = if y = x then some v else l.lookup y
  | [] => by
    unfold putA
    rw [List.lookup_cons]
    by_cases h : y = x
    · subst h; simp
    · have : (y == x) = false := by simpa using h
      rw [this, if_neg h]
  | (z, u) :: r => by
    unfold putA
    by_cases hz : (x == z) = true
    · rw [if_pos hz]
      have hz' : x = z := by simpa using hz
      subst hz'
      rw [List.lookup_cons, List.lookup_cons]
      by_cases h : y = x
      · subst h; simp
      · have : (y == x) = false := by simpa using h
        simp only [this, if_neg h]
    · rw [if_neg hz, List.lookup_cons, List.lookup_cons, putA_lookup x y v r]
      have hz' : ¬ x = z := by simpa using hz
      by_cases h : y = z
      · subst h
        have h2 : ¬ y = x := fun e => hz' e.symm
        simp [h2]
      · have : (y == z) = false := by simpa using h
        simp only [this]

theorem lk_same (x : Str) (v : Value) (l : List (Str × Value)) : (putA x v l).lookup x = some v := by rw [putA_lookup, if_pos rfl]
theorem lk_other {x y : Str} {v : Value} {l : List (Str × Value)} {r : Option Value} (h : ¬ y = x) (e : l.lookup y = r) : (putA x v l).lookup y = r := by rw [putA_lookup, if_neg h]; exact e

theorem NsP.ns {l : List (Str × Value)} {o : Obj} {h : Heap} {a : Addr} (x : NsP l o) (e : h.get? a = some o) : h.Ns a (fun n => l.lookup n) := let ⟨es, ep, r⟩ := x.h; ⟨o, es, ep, e, r⟩
theorem nsP_of {l : List (Str × Value)} {h : Heap} {a : Addr} {m : Str → Option Value} (x : h.Ns a m) (hm : ∀ n, m n = l.lookup n) : ∃ o, h.get? a = some o ∧ NsP l o :=
  let ⟨o, es, ep, e, hd, hk, hf⟩ := x; ⟨o, e, ⟨es, ep, hd, hk, fun n => (hf n).trans (hm n)⟩⟩
theorem CellP.is {v : Option Value} {o : Obj} {h : Heap} {a : Addr} (x : CellP v o) (e : h.get? a = some o) : h.IsCell a v := ⟨o, e, x.h⟩
theorem LstP.is {vs : List Value} {o : Obj} {h : Heap} {a : Addr} (x : LstP vs o) (e : h.get? a = some o) : h.IsList a vs.toArray := let ⟨n, q⟩ := x.h; ⟨o, e, by rw [q], n, by rw [q]⟩

section
variable {P : Params} {f g : Bool} {s₀ : Shared} {B₀ B : FM} {mu : MU} {gs : Array GenState} {os : OsState} {h : Heap}
theorem Cx.nsAt (x : Cx P f g s₀ B₀ B mu h gs os) {a : Addr} {l : List (Str × Value)} (hm : (a, NsP l) ∈ mu) : h.Ns a (fun n => l.lookup n) := let ⟨_, e, r⟩ := x.mus _ hm; r.ns e
theorem Cx.cellAt (x : Cx P f g s₀ B₀ B mu h gs os) {a : Addr} {v : Option Value} (hm : (a, CellP v) ∈ mu) : h.IsCell a v := let ⟨_, e, r⟩ := x.mus _ hm; r.is e
theorem Cx.lstAt (x : Cx P f g s₀ B₀ B mu h gs os) {a : Addr} {vs : List Value} (hm : (a, LstP vs) ∈ mu) : h.IsList a vs.toArray := let ⟨_, e, r⟩ := x.mus _ hm; r.is e

theorem Cx.updHead {h' : Heap} {a : Addr} {p p' : Obj → Prop} (x : Cx P f g s₀ B₀ B ((a, p) :: mu) h gs os) (hs : Heap.SameBut a h h') (ho : ∃ o', h'.get? a = some o' ∧ p' o') : Cx P f g s₀ B₀ B ((a, p') :: mu) h' gs os :=
  let ⟨_, e, r⟩ := ho; x.upd 0 rfl hs e r
end

section
variable {P : Params} {f g : Bool} {s₀ s : Shared} {B₀ B : FM} {mu : MU} {M : Model} {A : Around} {E : Value → Shared → Prop} {env : Env}

theorem nsSet_cx {a : Addr} {l : List (Str × Value)} {x : Str} {v : Value} {Q : Unit → Shared → Prop} (cx : Cx P f g s₀ B₀ B ((a, NsP l) :: mu) s.heap s.gens s.os)
    (k : ∀ h' tk, Cx P f g s₀ B₀ B ((a, NsP (putA x v l)) :: mu) h' s.gens s.os → Q () { s with heap := h', toks := tk }) : wpAny M A (nsSet a x v) Q E s :=
  wpAny_nsSet (cx.nsAt (.head _)) fun h' hn hs => k h' _ (cx.updHead hs (nsP_of hn fun n => (putA_lookup x n v l).symm))

/-- a name is stored, a local one -/
theorem st_local {l : List (Str × Value)} {x : Str} {v : Value} {Q : Unit → Shared → Prop} (cx : Cx P f g s₀ B₀ B ((env.locals, NsP l) :: mu) s.heap s.gens s.os) (hl : env.kindOf x = some .local)
    (k : ∀ h' tk, Cx P f g s₀ B₀ B ((env.locals, NsP (putA x v l)) :: mu) h' s.gens s.os → Q () { s with heap := h', toks := tk })
    (hk : (env.scope.kind == .class || (env.scope.kind == .module && env.locals != env.globals)) = false := by rfl) : wpAny M A (storeName env x v) Q E s := by
  rw [storeName_local hl hk]; exact nsSet_cx cx k
/-- a name is stored, one that is kept in a cell -/
theorem st_cell {x : Str} {v : Value} {v₀ : Option Value} {c : Addr} {Q : Unit → Shared → Prop} (i : Nat) (cx : Cx P f g s₀ B₀ B mu s.heap s.gens s.os) (hl : env.kindOf x = some .cell) (hc : env.cells.lookup x = some c) (hi : mu[i]? = some (c, CellP v₀))
    (k : ∀ h', Cx P f g s₀ B₀ B (mu.set i (c, CellP (some v))) h' s.gens s.os → Q () { s with heap := h' }) (hk : env.scope.kind = .function := by rfl) : wpAny M A (storeName env x v) Q E s :=
  wpAny_storeName_cell hk hl hc (cx.cellAt (List.mem_of_getElem? hi)) fun h' hc' hs => k h' (let ⟨_, e, r⟩ := hc'; cx.upd i hi hs e ⟨r⟩)
theorem ld_local {l : List (Str × Value)} {x : Str} {pos : Pos} {v : Value} {Q : Value → Shared → Prop} (cx : Cx P f g s₀ B₀ B mu s.heap s.gens s.os) (hm : (env.locals, NsP l) ∈ mu) (hv : l.lookup x = some v) (h : Q v s)
    (hk : env.scope.kind = .function := by rfl) (hl : env.kindOf x = some .local := by rfl) (hd : (x == ("__debug__" : Str)) = false := by decide) : wpAny M A (eval (.Name x pos) env) Q E s :=
  wpAny_Name (wpAny_loadName_local hk hl (cx.nsAt hm) hv h) hd
theorem ld_cell {x : Str} {pos : Pos} {v : Value} {c : Addr} {Q : Value → Shared → Prop} (cx : Cx P f g s₀ B₀ B mu s.heap s.gens s.os) (hc : env.cells.lookup x = some c) (hm : (c, CellP (some v)) ∈ mu) (h : Q v s)
    (hk : env.scope.kind = .function := by rfl) (hl : env.kindOf x = some .cell := by rfl) (hd : (x == ("__debug__" : Str)) = false := by decide) : wpAny M A (eval (.Name x pos) env) Q E s :=
  wpAny_Name (wpAny_loadName_cell hk hl hc (cx.cellAt hm) h) hd
theorem ld_free {x : Str} {pos : Pos} {v : Value} {c : Addr} {Q : Value → Shared → Prop} (cx : Cx P f g s₀ B₀ B mu s.heap s.gens s.os) (hc : env.cells.lookup x = some c) (hm : (c, CellP (some v)) ∈ mu) (h : Q v s)
    (hk : env.scope.kind = .function := by rfl) (hl : env.kindOf x = some .free := by rfl) (hd : (x == ("__debug__" : Str)) = false := by decide) (hn : (x == ("__classdict__" : Str)) = false := by decide) : wpAny M A (eval (.Name x pos) env) Q E s :=
  wpAny_Name (wpAny_loadName_free hk hl hc (cx.cellAt hm) h hn) hd
theorem ld_freeB {x : Str} {pos : Pos} {v : Value} {c : Addr} {o : Obj} {Q : Value → Shared → Prop} (S : Sit P f g B s.heap s.gens) (hc : env.cells.lookup x = some c) (hB : B c = some o) (ho : o.data = .cell (some v)) (h : Q v s)
    (hk : env.scope.kind = .function := by rfl) (hl : env.kindOf x = some .free := by rfl) (hd : (x == ("__debug__" : Str)) = false := by decide) (hn : (x == ("__classdict__" : Str)) = false := by decide) : wpAny M A (eval (.Name x pos) env) Q E s :=
  wpAny_Name (wpAny_loadName_free hk hl hc ⟨o, S.inB _ _ hB, ho⟩ h hn) hd

/-- a new frame: the names' object and the cells -/
def cellMu (cs : List (Str × Addr)) : MU := cs.map fun c => (c.2, CellP none)
theorem layCells_cx (ff : Str × NameKind → List (Str × Addr) → Sem (ForInStep (List (Str × Addr))))
    (hf : ∀ name kind cells, ff (name, kind) cells = if kind == .cell then (do let a ← alloc { cls := .type "cell", data := .cell none }; pure (.yield ((name, a) :: cells))) else pure (.yield cells)) :
    ∀ (names : List (Str × NameKind)) (done clo : List (Str × Addr)) (s : Shared) (Q : List (Str × Addr) → Shared → Prop), Cx P f g s₀ B₀ B (cellMu done ++ mu) s.heap s.gens s.os →
      (∀ h', Cx P f g s₀ B₀ B (cellMu (cellsFrom s.heap.objs.size names done) ++ mu) h' s.gens s.os → Q (cellsFrom s.heap.objs.size names done ++ clo) { s with heap := h' }) → wpAny M A (forIn names (done ++ clo) ff) Q E s
  | [], done, clo, s, Q, cx, k => by rw [List.forIn_nil]; exact wpAny_pure (k s.heap cx)
  | (name, kind) :: r, done, clo, s, Q, cx, k => by
    rw [List.forIn_cons, hf]
    unfold cellsFrom at k
    split at k
    · rename_i hk
      rw [if_pos hk]
      refine wpAny_bind (wpAny_bind (wpAny_alloc (wpAny_pure ?_)))
      have cx' : Cx P f g s₀ B₀ B (cellMu ((name, s.heap.objs.size) :: done) ++ mu) (s.heap.push { cls := .type "cell", data := .cell none }) s.gens s.os := cx.pushMu (p := CellP none) ⟨rfl⟩
      refine layCells_cx ff hf r ((name, s.heap.objs.size) :: done) clo _ Q cx' fun h' c' => ?_
      rw [show ({ s with heap := s.heap.push { cls := .type "cell", data := .cell none } } : Shared).heap.objs.size = s.heap.objs.size + 1 from Heap.size_push ..] at c' ⊢
      exact k h' c'
    · rename_i hk
      rw [if_neg hk]
      exact wpAny_bind (wpAny_pure (layCells_cx ff hf r done clo s Q cx k))

/-- the parameters are bound: each to a local or into its cell -/
inductive Bound (env : Env) : List (Str × Value) → List (Str × Value) → MU → List (Str × Value) → MU → Prop
  | nil {l : List (Str × Value)} {mu : MU} : Bound env [] l mu l mu
  | loc {x : Str} {v : Value} {r l l' : List (Str × Value)} {mu mu' : MU} : env.kindOf x = some .local → Bound env r (putA x v l) mu l' mu' → Bound env ((x, v) :: r) l mu l' mu'
  | cell {x : Str} {v : Value} {c : Addr} {i : Nat} {v₀ : Option Value} {r l l' : List (Str × Value)} {mu mu' : MU} : env.kindOf x = some .cell → env.cells.lookup x = some c → mu[i]? = some (c, CellP v₀) → Bound env r l (mu.set i (c, CellP (some v))) l' mu' → Bound env ((x, v) :: r) l mu l' mu'
theorem bindAll_cx (ff : Str × Value → PUnit → Sem (ForInStep PUnit)) (hf : ∀ n v u, ff (n, v) u = (do storeName env n v; pure (.yield ⟨⟩))) (hk : env.scope.kind = .function)
    {binds l l' : List (Str × Value)} {mu mu' : MU} (b : Bound env binds l mu l' mu') : ∀ (s : Shared) (Q : PUnit → Shared → Prop), Cx P f g s₀ B₀ B ((env.locals, NsP l) :: mu) s.heap s.gens s.os →
      (∀ h' tk, Cx P f g s₀ B₀ B ((env.locals, NsP l') :: mu') h' s.gens s.os → Q ⟨⟩ { s with heap := h', toks := tk }) → wpAny M A (forIn binds ⟨⟩ ff) Q E s := by
  induction b with
  | nil => intro s Q cx k; rw [List.forIn_nil]; exact wpAny_pure (k s.heap s.toks cx)
  | loc hl _ ih =>
    intro s Q cx k
    rw [List.forIn_cons, hf]
    refine wpAny_bind (wpAny_bind (st_local cx hl (fun h' tk cx' => wpAny_pure (ih _ Q cx' fun h'' tk' c => k h'' tk' c)) (by rw [hk]; rfl)))
  | @cell x v c i v₀ r l l' mu mu' hl hc hi _ ih =>
    intro s Q cx k
    rw [List.forIn_cons, hf]
    refine wpAny_bind (wpAny_bind (st_cell (i + 1) cx hl hc (by simpa using hi) (fun h' cx' => wpAny_pure (ih _ Q (by simpa using cx') fun h'' tk' c => k h'' tk' c)) hk))

theorem newEnv_cx {scope : Scope} {globals : Addr} {closure : List (Str × Addr)} {binds l' : List (Str × Value)} {qual : Str} {func : Option Addr} {code : Value} {around : Option Env} {builtins : Addr} {Q : Env → Shared → Prop} {mu' : MU}
    (cx : Cx P f g s₀ B₀ B mu s.heap s.gens s.os) (hk : scope.kind = .function) (env : Env)
    (he : env = (match around with
      | some outer => { scope, locals := s.heap.objs.size, globals, cells := cellsFrom (s.heap.objs.size + 1) scope.names [] ++ closure, qual, func, code := outer.code, frame := outer.frame, builtins := outer.builtins }
      | none => { scope, locals := s.heap.objs.size, globals, cells := cellsFrom (s.heap.objs.size + 1) scope.names [] ++ closure, qual, func, code, frame := some s.heap.objs.size, builtins }))
    (hb : Bound env binds [] (cellMu (cellsFrom (s.heap.objs.size + 1) scope.names []) ++ mu) l' mu')
    (k : ∀ h' tk, Cx P f g s₀ B₀ B ((s.heap.objs.size, NsP l') :: mu') h' s.gens s.os → Q env { s with heap := h', toks := tk }) :
    wpAny M A (newFunctionEnv scope globals closure binds qual func code around builtins) Q E s := by
  unfold newFunctionEnv
  refine wpAny_bind (wpAny_alloc ?_)
  have c0 : Cx P f g s₀ B₀ B ((s.heap.objs.size, NsP []) :: mu) (s.heap.push { cls := .type (if around.isSome then "dict" else "frame"), data := .dict #[] }) s.gens s.os :=
    cx.pushMu (p := NsP []) ⟨#[], 0, rfl, fun _ he => by simp at he, fun _ => rfl⟩
  have hsz : (s.heap.push { cls := .type (if around.isSome then "dict" else "frame"), data := .dict #[] }).objs.size = s.heap.objs.size + 1 := Heap.size_push ..
  refine wpAny_bind (layCells_cx (mu := (s.heap.objs.size, NsP []) :: mu) _ (fun name kind cells => by cases hkc : kind == NameKind.cell <;> simp [hkc]) _ [] closure _ _ c0 fun h' c1 => ?_)
  have c2 : Cx P f g s₀ B₀ B ((s.heap.objs.size, NsP []) :: (cellMu (cellsFrom (s.heap.objs.size + 1) scope.names []) ++ mu)) h' s.gens s.os := by
    rw [show ({ s with heap := s.heap.push { cls := .type (if around.isSome then "dict" else "frame"), data := .dict #[] } } : Shared).heap.objs.size = s.heap.objs.size + 1 from hsz] at c1
    exact c1.perm List.perm_middle
  have e1 : env.locals = s.heap.objs.size := by rw [he]; cases around <;> rfl
  have e2 : env.scope = scope := by rw [he]; cases around <;> rfl
  have key : ∀ env' : Env, env' = env → wpAny M A (forIn binds PUnit.unit fun (x : Str × Value) (_ : PUnit) => (do storeName env' x.1 x.2; pure (ForInStep.yield PUnit.unit))) (fun _ s' => wpAny M A (pure env') Q E s') E { s with heap := h' } := by
    rintro env' rfl
    refine bindAll_cx (env := env') (P := P) (f := f) (g := g) (s₀ := s₀) (B₀ := B₀) (B := B) _ (fun _ _ _ => rfl) (by rw [e2]; exact hk) hb _ _ (by rw [e1]; exact c2) fun h'' tk c3 => wpAny_pure (k h'' tk ?_)
    rw [e1] at c3; exact c3
  refine wpAny_bind (key _ ?_)
  rw [he]
  rw [show ({ s with heap := s.heap.push { cls := .type (if around.isSome then "dict" else "frame"), data := .dict #[] } } : Shared).heap.objs.size = s.heap.objs.size + 1 from hsz]
  cases around <;> rfl
end
end Mine
end
section
open PySem PySem.W PyProof.Rows
set_option Elab.async false
set_option maxRecDepth 100000
namespace Mine
abbrev prg : Program := PySem.Challenge.rw_mq0160_01.row.prog

/-! what the top has laid -/
noncomputable def k1o (P : Params) (a : Addr) : Obj := ((K1 P).lookup a).getD default
noncomputable def fdOf (P : Params) (a : Addr) : FuncData := match (k1o P a).data with | .func fd => fd | _ => default
noncomputable def esOf (P : Params) (a : Addr) : Array DictEntry := match (k1o P a).data with | .dict es _ => es | _ => #[]
noncomputable def epOf (P : Params) (a : Addr) : Nat := match (k1o P a).data with | .dict _ n => n | _ => 0
def strKeysB (es : Array DictEntry) : Bool := es.toList.all fun e => match e.key with | .str .. => true | _ => false
theorem strKeys_of {es : Array DictEntry} (h : strKeysB es = true) : StrKeys es := fun e he => by
  have := List.all_eq_true.mp h e (by simpa using he)
  cases q : e.key <;> rw [q] at this <;> first | exact ⟨_, _, rfl⟩ | cases this
theorem k1_0 (P : Params) : (K1 P).lookup 0 = some ⟨.type "dict", none, .dict (esOf P 0) (epOf P 0), #[]⟩ := by kernel_rfl
theorem k1_2 (P : Params) : (K1 P).lookup 2 = some ⟨.none, none, .dict #[] 0, #[]⟩ := by kernel_rfl
theorem k1_3 (P : Params) : (K1 P).lookup 3 = some ⟨.type "dict", none, .dict (esOf P 3) (epOf P 3), #[]⟩ := by kernel_rfl
theorem sk0 (P : Params) : StrKeys (esOf P 0) := strKeys_of (by kernel_rfl)
theorem sk3 (P : Params) : StrKeys (esOf P 3) := strKeys_of (by kernel_rfl)

section
variable {P : Params} {f g : Bool} {B : FM} {h : Heap} {gs : Array GenState}
theorem Sit.at (S : Sit P f g B h gs) {a : Nat} {o : Obj} (e : (K1 P).lookup a = some o) (ht : ¬ Tab a) : h.get? a = some o := S.inB _ _ (S.stat a o e ht)
theorem notTab {a : Nat} (h : (a == 51 || a == 58 || a == 91 || a == 108) = false) : ¬ Tab a := by
  intro t
  unfold Tab at t
  rcases t with rfl | rfl | rfl | rfl <;> cases h
theorem Sit.glob (S : Sit P f g B h gs) : h.Ns mainGlobals (nsFind (esOf P 3)) := ⟨_, _, _, S.at (k1_3 P) (notTab rfl), rfl, sk3 P, fun _ => rfl⟩
theorem Sit.blt (S : Sit P f g B h gs) : h.Ns builtinsNs (nsFind (esOf P 0)) := ⟨_, _, _, S.at (k1_0 P) (notTab rfl), rfl, sk0 P, fun _ => rfl⟩
theorem Sit.nolimit (S : Sit P f g B h gs) : h.NoLimit := ⟨fun _ => none, ⟨_, _, _, S.at (k1_2 P) (notTab rfl), rfl, fun e he => by simp at he, fun n => rfl⟩, rfl⟩
end

/-- a name of the top is read -/
theorem ld_glob {P : Params} {f g : Bool} {B : FM} {M : Model} {A : Around} {E : Value → Shared → Prop} {s : Shared} {env : Env} {x : Str} {pos : Pos} {v : Value} {Q : Value → Shared → Prop} (S : Sit P f g B s.heap s.gens) (hv : nsFind (esOf P 3) x = some v) (h : Q v s)
    (hg : env.globals = mainGlobals := by rfl) (hk : env.scope.kind = .function := by rfl) (hx : env.kindOf x = some .globalImplicit := by rfl) (hd : (x == ("__debug__" : Str)) = false := by decide) : wpAny M A (eval (.Name x pos) env) Q E s :=
  Calls.Name_function_global hk hx (Calls.loadGlobal_global (hg ▸ S.glob) hv h) hd
theorem ld_blt {P : Params} {f g : Bool} {B : FM} {M : Model} {A : Around} {E : Value → Shared → Prop} {s : Shared} {env : Env} {x : Str} {pos : Pos} {v : Value} {Q : Value → Shared → Prop} (S : Sit P f g B s.heap s.gens) (hn : nsFind (esOf P 3) x = none) (hv : nsFind (esOf P 0) x = some v) (h : Q v s)
    (hg : env.globals = mainGlobals := by rfl) (hb : env.builtins = builtinsNs := by rfl) (hk : env.scope.kind = .function := by rfl) (hx : env.kindOf x = some .globalImplicit := by rfl) (hd : (x == ("__debug__" : Str)) = false := by decide) : wpAny M A (eval (.Name x pos) env) Q E s :=
  Calls.Name_function_global hk hx (Calls.loadGlobal_builtin (hg ▸ S.glob) hn (hb ▸ S.blt) hv h) hd

/-! the room around a call -/
structure AOk (n : Nat) (A : Around) : Prop where
  handled : A.handled = none
  depth : A.depth + n ≤ 900
  units : A.units + 20 * n ≤ 9000
theorem AOk.less {n m : Nat} {A : Around} (x : AOk n A) (h : m ≤ n) : AOk m A := ⟨x.handled, by have := x.depth; omega, by have := x.units; omega⟩
theorem AOk.deeper {n : Nat} {A : Around} {env : Env} (x : AOk (n + 1) A) : AOk n (A.deeper env) := ⟨x.handled, by have := x.depth; show A.depth + 1 + n ≤ 900; omega, by have := x.units; show A.units + 3 + 20 * n ≤ 9000; omega⟩
theorem AOk.in1 {n : Nat} {A : Around} (x : AOk (n + 1) A) : AOk n A.in1 := ⟨x.handled, by have := x.depth; show A.depth + n ≤ 900; omega, by have := x.units; show A.units + 1 + 20 * n ≤ 9000; omega⟩
theorem AOk.room {n : Nat} {A : Around} (x : AOk n A) : A.depth < recursionLimit := by have := x.depth; show A.depth < 1000; omega
theorem AOk.line {n : Nat} {A : Around} (x : AOk n A) : A.units < cLine := by have := x.units; show A.units < 9900; omega

def retv : Flow → Value
  | .ret v => v
  | _ => .none

/-- a def is called: none of our defs raises -/
theorem call_fn {w : World} {P : Params} {f g : Bool} {B : FM} {A : Around} {E : Value → Shared → Prop} {s : Shared} {Q : Value → Shared → Prop} {fa : Addr} {fd : FuncData} {body : List Stmt} {args : List Value} {kw : List (Str × Value)} {binds l' : List (Str × Value)} {mu' : MU} {n : Nat}
    (S : Sit P f g B s.heap s.gens) (hA : AOk n A) (F : FnB B fa fd) (hbody : fd.body = .stmts body) (hsk : (fd.scope.kind, fd.scope.isCoroutine, fd.scope.isGenerator) = (.function, false, false)) (env : Env)
    (he : env = { scope := fd.scope, locals := s.heap.objs.size, globals := fd.globals, cells := cellsFrom (s.heap.objs.size + 1) fd.scope.names [] ++ fd.closure, qual := fd.qualname ++ ".<locals>.", func := some fa, code := fd.code, frame := some s.heap.objs.size, builtins := fd.builtins })
    (hbind : ∀ (Q' : List (Str × Value) → Shared → Prop) (E' : Value → Shared → Prop), Q' binds s → wpAny (model prg w) A.in1 (bindArgs fd ⟨args, kw⟩) Q' E' s)
    (hb : Bound env binds [] (cellMu (cellsFrom (s.heap.objs.size + 1) fd.scope.names [])) l' mu')
    (k : ∀ h' tk, Cx P f g s B B ((s.heap.objs.size, NsP l') :: mu') h' s.gens s.os → wpAny (model prg w) (A.deeper env) (execs body env) (fun fl s' => Q (retv fl) s') (fun _ _ => False) { s with heap := h', toks := tk }) :
    wpAny (model prg w) A (call (.ref fa) args kw) Q E s := by
  obtain ⟨o, ho, _, hod⟩ := F.fn
  obtain ⟨c, oc, vs, t, hc, hoc, hdc, hq⟩ := F.code
  have h1 : fd.scope.kind = .function := congrArg (·.1) hsk
  have h2 : fd.scope.isCoroutine = false := congrArg (·.2.1) hsk
  have h3 : fd.scope.isGenerator = false := congrArg (·.2.2) hsk
  refine wpAny_call (codeAny_call_function hA.room (S.inB _ _ ho) hod h2 h3 hbody ⟨c, oc, vs, t, hc, S.inB _ _ hoc, hdc, hq⟩ ?_)
  refine hbind _ _ (newEnv_cx (Cx.start S) h1 env he (by rw [List.append_nil]; exact hb) fun h' tk cx => ⟨cx.sit.nolimit, codeAny_func (wpAny_mono (k h' tk cx) (fun fl s' q => ?_) fun _ _ x => x.elim)⟩)
  cases fl <;> exact q
end Mine
end
section
open PySem PySem.W PyProof.Rows
set_option Elab.async false
set_option maxRecDepth 100000
namespace Mine

theorem no_E {α : Type} {M : Model} {A : Around} {t : Sem α} {Q : α → Shared → Prop} {E : Value → Shared → Prop} {s : Shared} (h : wpAny M A t Q (fun _ _ => False) s) : wpAny M A t Q E s := wpAny_mono h (fun _ _ x => x) fun _ _ x => x.elim
theorem no_Ec {M : Model} {A : Around} {c : Code} {R R' : Result → Shared → Prop} {s : Shared} (h : codeAny M A c R s) (hR : ∀ r s', R r s' → R' r s') : codeAny M A c R' s := codeAny_mono h hR

/-- where an iteration draws from: the iterator I turns, all else that it reads is frozen -/
structure Src (w : World) (A : Around) (B : FM) (I : Addr) (n : Nat) (val : Nat → Value → Prop) (st : Nat → Obj → Prop) : Prop where
  item : ∀ (i : Nat) (s : Shared) (Q : Option Value → Shared → Prop) (E : Value → Shared → Prop), i < n → B.inn s.heap → (∃ o, s.heap.get? I = some o ∧ st i o) →
    (∀ v h' tk, val i v → Heap.ExtBut I s.heap h' → (∃ o, h'.get? I = some o ∧ st (i + 1) o) → Q (some v) { s with heap := h', toks := tk }) → wpAny (model prg w) A (pyNext (.ref I)) Q E s
  done : ∀ (s : Shared) (Q : Option Value → Shared → Prop) (E : Value → Shared → Prop), B.inn s.heap → (∃ o, s.heap.get? I = some o ∧ st n o) →
    (∀ h' tk, Heap.ExtBut I s.heap h' → Q none { s with heap := h', toks := tk }) → wpAny (model prg w) A (pyNext (.ref I)) Q E s
  self : ∀ (i : Nat) (s : Shared) (Q : Value → Shared → Prop) (E : Value → Shared → Prop), B.inn s.heap → (∃ o, s.heap.get? I = some o ∧ st i o) → Q (.ref I) s → wpAny (model prg w) A (pyIter (.ref I)) Q E s
  goes : ∀ (i : Nat) (s : Shared) (e : Expr) (v : Value) (Q : Unit → Shared → Prop) (E : Value → Shared → Prop), (∃ o, s.heap.get? I = some o ∧ st i o) → Q () s → wpAny (model prg w) A (letOwnedTupleGo e (.ref I) v) Q E s

theorem inn_mono {B B' : FM} {h : Heap} (x : B'.inn h) (l : B.le B') : B.inn h := fun a o e => x a o (l a o e)

section
variable {w : World} {P : Params} {f g : Bool} {s₀ : Shared} {B₀ B B₁ : FM} {mu : MU} {A : Around} {s : Shared} {env : Env} {I : Addr} {n : Nat} {val : Nat → Value → Prop} {st : Nat → Obj → Prop}

/-- a for: J tells the frozen part and what turns, turn by turn -/
theorem for_cx {R : Result → Shared → Prop} {target : Expr} {body : List Stmt} (W : Src w A B₁ I n val st) (J : Nat → FM → MU → Prop) (hB : B₁.le B)
    (cx : Cx P f g s₀ B₀ B ((I, st 0) :: mu) s.heap s.gens s.os) (h0 : J 0 B mu)
    (turn : ∀ i v B mu st' s, i < n → val i v → J i B mu → B₁.le B → Cx P f g s₀ B₀ B ((I, st') :: mu) s.heap s.gens s.os →
      wpAny (model prg w) A (assign target env v) (fun _ s₂ => wpAny (model prg w) A (execs body env) (fun fl s₃ => match fl with
        | .next | .cont => ∃ B' mu', J (i + 1) B' mu' ∧ B.le B' ∧ Cx P f g s₀ B₀ B' ((I, st') :: mu') s₃.heap s₃.gens s₃.os
        | .brk => R (.ok .next) s₃
        | .ret v => R (.ok (.ret v)) s₃) (fun _ _ => False) s₂) (fun _ _ => False) s)
    (done : ∀ B mu s, J n B mu → B₁.le B → Cx P f g s₀ B₀ B mu s.heap s.gens s.os → R (.ok .next) s) :
    codeAny (model prg w) A (.forLoop target (.ref I) body [] env) R s := by
  refine codeAny_forLoop_any (fun k s' => ∃ i B mu, i ≤ n ∧ k = n + 1 - i ∧ J i B mu ∧ B₁.le B ∧ Cx P f g s₀ B₀ B ((I, st i) :: mu) s'.heap s'.gens s'.os) ?_ (n + 1) ⟨0, B, mu, Nat.zero_le _, rfl, h0, hB, cx⟩
  rintro k s' ⟨i, B, mu, hi, rfl, hJ, hB, cx⟩
  have hI := cx.mus _ (List.Mem.head _)
  by_cases hlt : i < n
  · refine W.item i s' _ _ hlt (inn_mono cx.sit.inB hB) hI fun v h' tk hv hx ho => ?_
    have cx' : Cx P f g s₀ B₀ B ((I, st (i + 1)) :: mu) h' s'.gens s'.os := let ⟨_, e, r⟩ := ho; cx.updE 0 rfl hx e r
    refine W.goes (i + 1) _ _ _ _ _ ho ?_
    refine no_E (wpAny_mono (turn i v B mu (st (i + 1)) _ hlt hv hJ hB cx') (fun _ s₂ h₂ => no_E (wpAny_mono h₂ (fun fl s₃ h₃ => ?_) fun _ _ x => x)) fun _ _ x => x)
    cases fl with
    | next => obtain ⟨B', mu', hJ', hle, cx''⟩ := h₃; exact ⟨n + 1 - (i + 1), by omega, i + 1, B', mu', hlt, rfl, hJ', hB.trans hle, cx''⟩
    | cont => obtain ⟨B', mu', hJ', hle, cx''⟩ := h₃; exact ⟨n + 1 - (i + 1), by omega, i + 1, B', mu', hlt, rfl, hJ', hB.trans hle, cx''⟩
    | brk => exact h₃
    | ret v => exact h₃
  · have hin : i = n := by omega
    subst hin
    refine W.done s' _ _ (inn_mono cx.sit.inB hB) hI fun h' tk hx => ?_
    exact wpAny_execs_nil (done B mu _ hJ hB (cx.dropE hx))

/-- the tests of a comprehension -/
abbrev testsOf (ifs : List Expr) (env : Env) : Sem Bool := forIn ifs true fun c r => if r = true then do let ok ← isTrue c env (eval c env); pure (ForInStep.yield ok) else pure (ForInStep.yield r)

theorem lstP_plain {vs : List Value} {o : Obj} {h : Heap} {a : Addr} (x : LstP vs o) (e : h.get? a = some o) : h.PlainList a vs.toArray := let ⟨n, q⟩ := x.h; ⟨n, by rw [e, q]⟩
theorem append_cx {D : Addr} {ys : List Value} {y : Value} {Q : Value → Shared → Prop} {E : Value → Shared → Prop} (i : Nat) (cx : Cx P f g s₀ B₀ B mu s.heap s.gens s.os) (hi : mu[i]? = some (D, LstP ys)) (hsz : ys.length ≤ 1000)
    (k : ∀ h', Cx P f g s₀ B₀ B (mu.set i (D, LstP (ys ++ [y]))) h' s.gens s.os → Q .none { s with heap := h' }) : wpAny (model prg w) A (call (.builtin "list.append") [.ref D, y]) Q E s := by
  obtain ⟨o, e, r⟩ := cx.get i hi
  refine wpAny_list_append_plain (lstP_plain r e) (fun h' hl hs => k h' ?_) (by rw [sizeLine_eq, List.size_toArray]; omega)
  obtain ⟨n, hn⟩ := hl
  exact cx.upd i hi hs hn ⟨n, by simp [lstO]⟩

/-- a comprehension behind its iterator: the frame C and its cells cc, the list D, the iterator I -/
theorem comp_any {use : Option (Value → Sem Unit)} {Q : Value → Shared → Prop} {E : Value → Shared → Prop} {elt target iter : Expr} {ifs : List Expr} {scope : Scope} {pos : Pos} {cl : List (Str × Addr)} (W : Src w A B₁ I n val st) (hn : n ≤ 900)
    (J : Addr → Nat → FM → List Value → List (Str × Value) → MU → Prop) (hB : B₁.le B) (hk : scope.kind = .function)
    (cx : Cx P f g s₀ B₀ B ((I, st 0) :: mu) s.heap s.gens s.os)
    (h0 : ∀ C, J C 0 B [] [] (cellMu (cellsFrom (C + 1) scope.names [])))
    (turn : ∀ C D i v B ys l cc st' s, i < n → val i v → J C i B ys l cc → B₁.le B → Cx P f g s₀ B₀ B ((C, NsP l) :: (cc ++ (D, LstP ys) :: (I, st') :: mu)) s.heap s.gens s.os →
      wpAny (model prg w) A (assign target (compEnvC scope (cellsFrom (C + 1) scope.names [] ++ cl) C env) v) (fun _ s₂ => wpAny (model prg w) A (testsOf ifs (compEnvC scope (cellsFrom (C + 1) scope.names [] ++ cl) C env)) (fun ok s₃ =>
        if ok = true then wpAny (model prg w) A (eval elt (compEnvC scope (cellsFrom (C + 1) scope.names [] ++ cl) C env)) (fun y s₄ => ∃ B' l' cc', J C (i + 1) B' (ys ++ [y]) l' cc' ∧ B.le B' ∧
            Cx P f g s₀ B₀ B' ((C, NsP l') :: (cc' ++ (D, LstP ys) :: (I, st') :: mu)) s₄.heap s₄.gens s₄.os) (fun _ _ => False) s₃
        else ∃ B' l' cc', J C (i + 1) B' ys l' cc' ∧ B.le B' ∧ Cx P f g s₀ B₀ B' ((C, NsP l') :: (cc' ++ (D, LstP ys) :: (I, st') :: mu)) s₃.heap s₃.gens s₃.os) (fun _ _ => False) s₂) (fun _ _ => False) s)
    (fin : ∀ C D B ys l cc s, J C n B ys l cc → B₁.le B → Cx P f g s₀ B₀ B ((C, NsP l) :: (cc ++ (D, LstP ys) :: mu)) s.heap s.gens s.os → compPost (model prg w) A E use Q (.ref D) C (.ok .next) s) :
    wpAny (model prg w) A (newList []) (fun acc s₃ => wpAny (model prg w) A (newFunctionEnv scope env.globals cl [] env.qual none .none (some env)) (fun cenv s₄ =>
        codeAny (model prg w) A (.compStart (.ListComp elt [⟨target, iter, ifs, 0⟩] scope pos) 0 (.ref I) acc { cenv with scope := relabel scope env }) (compPost (model prg w) A E use Q acc cenv.locals) s₄) E s₃) E s := by
  refine wpAny_newObj_type ?_
  have c1 : Cx P f g s₀ B₀ B ((s.heap.objs.size, LstP []) :: (I, st 0) :: mu) (s.heap.push { cls := .type "list", data := .seq ([] : List Value).toArray }) s.gens s.os := cx.pushMu (p := LstP []) ⟨0, rfl⟩
  generalize s.heap.push { cls := .type "list", data := .seq ([] : List Value).toArray } = h1 at c1 ⊢
  generalize s.heap.objs.size = D at c1 ⊢
  refine newEnv_cx (s := { s with heap := h1 }) c1 hk _ rfl Bound.nil fun h2 tk c2 => ?_
  generalize ({ s with heap := h1 } : Shared).heap.objs.size = C at c2 ⊢
  -- the loop
  have loop : ∀ s' : Shared, Cx P f g s₀ B₀ B ((C, NsP []) :: (cellMu (cellsFrom (C + 1) scope.names []) ++ (D, LstP []) :: (I, st 0) :: mu)) s'.heap s'.gens s'.os →
      codeAny (model prg w) A (.compLoop (.ListComp elt [⟨target, iter, ifs, 0⟩] scope pos) 0 (.ref I) (.ref D) (compEnvC scope (cellsFrom (C + 1) scope.names [] ++ cl) C env)) (compPost (model prg w) A E use Q (.ref D) C) s' := by
    intro s' c3
    refine codeAny_loop rfl (fun k s' => ∃ i B ys l cc, i ≤ n ∧ k = n + 1 - i ∧ ys.length ≤ i ∧ J C i B ys l cc ∧ B₁.le B ∧ Cx P f g s₀ B₀ B ((C, NsP l) :: (cc ++ (D, LstP ys) :: (I, st i) :: mu)) s'.heap s'.gens s'.os) (fun k s' hk' => ?_) (n + 1)
      ⟨0, B, [], [], _, Nat.zero_le _, rfl, Nat.le_refl _, h0 C, hB, c3⟩
    obtain ⟨i, B, ys, l, cc, hi, rfl, hys, hJ, hB, cx⟩ := hk'
    show wpAny _ A ((compTurn (.ListComp elt [⟨target, iter, ifs, 0⟩] scope pos) 0 (.ref I) (.ref D) (compEnvC scope (cellsFrom (C + 1) scope.names [] ++ cl) C env)).onRaise (fun x => do noteFrame x _; theTreesLotGoes x)) _ _ s'
    refine wpAny_noted ?_
    rw [compTurn_list]
    refine wpAny_bind (wpAny_standAt (wpAny_bind ?_))
    have cxI : Cx P f g s₀ B₀ B ((I, st i) :: ((C, NsP l) :: (cc ++ (D, LstP ys) :: mu))) s'.heap s'.gens s'.os := cx.perm (by
      have h1 : ((C, NsP l) :: (cc ++ (D, LstP ys) :: (I, st i) :: mu)) = ((C, NsP l) :: cc ++ [(D, LstP ys)]) ++ (I, st i) :: mu := by simp
      have h2 : ((I, st i) :: (C, NsP l) :: (cc ++ (D, LstP ys) :: mu)) = (I, st i) :: (((C, NsP l) :: cc ++ [(D, LstP ys)]) ++ mu) := by simp
      rw [h1, h2]; exact List.perm_middle)
    have hI := cxI.mus _ (List.Mem.head _)
    by_cases hlt : i < n
    · refine W.item i s' _ _ hlt (inn_mono cx.sit.inB hB) hI fun v h' tk hv hx ho => ?_
      have cx1 : Cx P f g s₀ B₀ B ((I, st (i + 1)) :: ((C, NsP l) :: (cc ++ (D, LstP ys) :: mu))) h' s'.gens s'.os := let ⟨_, e, r⟩ := ho; cxI.updE 0 rfl hx e r
      have cx2 : Cx P f g s₀ B₀ B ((C, NsP l) :: (cc ++ (D, LstP ys) :: (I, st (i + 1)) :: mu)) h' s'.gens s'.os := cx1.perm (by
        have h1 : ((C, NsP l) :: (cc ++ (D, LstP ys) :: (I, st (i + 1)) :: mu)) = ((C, NsP l) :: cc ++ [(D, LstP ys)]) ++ (I, st (i + 1)) :: mu := by simp
        have h2 : ((I, st (i + 1)) :: (C, NsP l) :: (cc ++ (D, LstP ys) :: mu)) = (I, st (i + 1)) :: (((C, NsP l) :: cc ++ [(D, LstP ys)]) ++ mu) := by simp
        rw [h1, h2]; exact List.perm_middle.symm)
      refine wpAny_bind (W.goes (i + 1) _ _ _ _ _ ho ?_)
      refine wpAny_bind (no_E (wpAny_mono (turn C D i v B ys l cc (st (i + 1)) _ hlt hv hJ hB cx2) (fun _ s₂ h₂ => ?_) fun _ _ x => x))
      refine wpAny_bind (no_E (wpAny_mono h₂ (fun ok s₃ h₃ => ?_) fun _ _ x => x))
      cases ok with
      | false =>
        obtain ⟨B', l', cc', hJ', hle, c4⟩ := h₃
        exact wpAny_pure ⟨rfl, n + 1 - (i + 1), by omega, i + 1, B', ys, l', cc', hlt, rfl, by omega, hJ', hB.trans hle, c4⟩
      | true =>
        refine wpAny_bind (wpAny_bind (no_E (wpAny_mono h₃ (fun y s₄ h₄ => wpAny_bind ?_) fun _ _ x => x)))
        obtain ⟨B', l', cc', hJ', hle, c4⟩ := h₄
        have hidx : ((C, NsP l') :: (cc' ++ (D, LstP ys) :: (I, st (i + 1)) :: mu))[cc'.length + 1]? = some (D, LstP ys) := by simp
        refine append_cx (cc'.length + 1) c4 hidx (by omega) fun h5 c5 => wpAny_pure (wpAny_pure ⟨rfl, n + 1 - (i + 1), by omega, i + 1, B', ys ++ [y], l', cc', hlt, rfl, by simp; omega, hJ', hB.trans hle, ?_⟩)
        have es : ((C, NsP l') :: (cc' ++ (D, LstP ys) :: (I, st (i + 1)) :: mu)).set (cc'.length + 1) (D, LstP (ys ++ [y])) = (C, NsP l') :: (cc' ++ (D, LstP (ys ++ [y])) :: (I, st (i + 1)) :: mu) := by simp
        rw [es] at c5; exact c5
    · have hin : i = n := by omega
      subst hin
      refine W.done s' _ _ (inn_mono cx.sit.inB hB) hI fun h' tk hx => wpAny_pure ?_
      exact fin C D B ys l cc _ hJ hB (cxI.dropE hx)
  refine codeAny_compStart_list (loop _ c2) (W.self 0 _ _ _ (inn_mono c2.sit.inB hB) ?_ (loop _ c2))
  exact c2.mus (I, st 0) (by simp)

/-- a comprehension behind its iterator: the frame C and its cells cc, the list D, the iterator I -/
theorem comp_cx {Q : Value → Shared → Prop} {E : Value → Shared → Prop} {elt target iter : Expr} {ifs : List Expr} {scope : Scope} {pos : Pos} {cl : List (Str × Addr)} (W : Src w A B₁ I n val st) (hn : n ≤ 900)
    (J : Addr → Nat → FM → List Value → List (Str × Value) → MU → Prop) (hB : B₁.le B) (hk : scope.kind = .function)
    (cx : Cx P f g s₀ B₀ B ((I, st 0) :: mu) s.heap s.gens s.os)
    (h0 : ∀ C, J C 0 B [] [] (cellMu (cellsFrom (C + 1) scope.names [])))
    (turn : ∀ C D i v B ys l cc st' s, i < n → val i v → J C i B ys l cc → B₁.le B → Cx P f g s₀ B₀ B ((C, NsP l) :: (cc ++ (D, LstP ys) :: (I, st') :: mu)) s.heap s.gens s.os →
      wpAny (model prg w) A (assign target (compEnvC scope (cellsFrom (C + 1) scope.names [] ++ cl) C env) v) (fun _ s₂ => wpAny (model prg w) A (testsOf ifs (compEnvC scope (cellsFrom (C + 1) scope.names [] ++ cl) C env)) (fun ok s₃ =>
        if ok = true then wpAny (model prg w) A (eval elt (compEnvC scope (cellsFrom (C + 1) scope.names [] ++ cl) C env)) (fun y s₄ => ∃ B' l' cc', J C (i + 1) B' (ys ++ [y]) l' cc' ∧ B.le B' ∧
            Cx P f g s₀ B₀ B' ((C, NsP l') :: (cc' ++ (D, LstP ys) :: (I, st') :: mu)) s₄.heap s₄.gens s₄.os) (fun _ _ => False) s₃
        else ∃ B' l' cc', J C (i + 1) B' ys l' cc' ∧ B.le B' ∧ Cx P f g s₀ B₀ B' ((C, NsP l') :: (cc' ++ (D, LstP ys) :: (I, st') :: mu)) s₃.heap s₃.gens s₃.os) (fun _ _ => False) s₂) (fun _ _ => False) s)
    (done : ∀ C D B ys l cc m s, J C n B ys l cc → B₁.le B → B D = none → Cx P f g s₀ B₀ (B.put D (lstO ys m)) mu s.heap s.gens s.os → Q (.ref D) s) :
    wpAny (model prg w) A (newList []) (fun acc s₃ => wpAny (model prg w) A (newFunctionEnv scope env.globals cl [] env.qual none .none (some env)) (fun cenv s₄ =>
        codeAny (model prg w) A (.compStart (.ListComp elt [⟨target, iter, ifs, 0⟩] scope pos) 0 (.ref I) acc { cenv with scope := relabel scope env }) (compPost (model prg w) A E none Q acc cenv.locals) s₄) E s₃) E s := by
  refine comp_any W hn J hB hk cx h0 turn ?_
  intro C D B ys l cc s' hJ hB c4
  refine ⟨fun x => l.lookup x, c4.nsAt (List.Mem.head _), fun h'' hs => ?_⟩
  have c5 : Cx P f g s₀ B₀ B (cc ++ (D, LstP ys) :: mu) h'' s'.gens s'.os := c4.dropE hs.extBut
  have c6 : Cx P f g s₀ B₀ B ((D, LstP ys) :: mu) h'' s'.gens s'.os := c5.sub (List.sublist_append_right ..)
  obtain ⟨o, ⟨m, rfl⟩, _, hD, c7⟩ := c6.freeze
  exact done C D B ys l cc m _ hJ hB hD c7
end
end Mine
end
section
open PySem PySem.W PyProof.Rows
set_option Elab.async false
set_option maxRecDepth 100000
namespace Mine

def ownedNames : List String := ["enumerate", "zip", "dict_itemiterator", "dict_reverseitemiterator", "odict_iterator", "itertools.zip_longest", "itertools.pairwise"]
theorem goes_of {M : Model} {A : Around} {E : Value → Shared → Prop} {s : Shared} {I : Addr} {o : Obj} {n : String} (e : Expr) (v : Value) {Q : Unit → Shared → Prop} (ho : s.heap.get? I = some o) (hc : o.cls = .type n) (hn : ownedNames.contains n = false) (h : Q () s) :
    wpAny M A (letOwnedTupleGo e (.ref I) v) Q E s := by
  have key : wpAny M A (match (Value.ref I, v) with
      | (.ref r, .ref a) => (do
        let o ← load r
        match o.cls, o.data with
        | .type n, .fields vs =>
          if ["enumerate", "zip", "dict_itemiterator", "dict_reverseitemiterator", "odict_iterator", "itertools.zip_longest", "itertools.pairwise"].contains n && vs[0]? == some (rawInt a) then
            rule "for.unpacks-the-owned-tuple"
            updateField r 0 .none
        | _, _ => pure ())
      | _ => pure ()) Q E s := by
    cases v with
    | ref a =>
      dsimp only
      refine wpAny_bind (wpAny_load ho ?_)
      rw [hc]
      cases hd : o.data with
      | fields vs =>
        dsimp only
        have hn' : (["enumerate", "zip", "dict_itemiterator", "dict_reverseitemiterator", "odict_iterator", "itertools.zip_longest", "itertools.pairwise"].contains n && vs[0]? == some (rawInt a)) = false := by
          have := hn; unfold ownedNames at this; rw [this]; rfl
        rw [hn']
        exact wpAny_pure h
      | _ => exact wpAny_pure h
    | _ => exact wpAny_pure h
  unfold letOwnedTupleGo
  split
  · exact key
  · exact key
  · exact wpAny_pure h

theorem src_of_walks {w : World} {A : Around} {B : FM} {I : Addr} {fp : List Addr} {n : Nat} {val : Nat → Value → Prop} {St : Nat → Heap → Prop} (W : Walks prg w A I fp [I] n val St) (hI : B I = none) (hfp : ∀ b ∈ fp, b = I ∨ ∃ o, B b = some o)
    (hcls : ∀ i h, St i h → ∃ o c, h.get? I = some o ∧ o.cls = .type c ∧ ownedNames.contains c = false) :
    Src w A B I n val (fun i o => (∃ h, h.get? I = some o ∧ St i h) ∧ ∀ h, h.get? I = some o → B.inn h → St i h) where
  item := fun i s Q E hi hB ⟨o, ho, _, hs⟩ k => by
    refine W.item i s Q E hi (hs _ ho hB) fun v h' tk hv hst hk => ?_
    obtain ⟨o', c, ho', _⟩ := hcls _ _ hst
    have hx : Heap.ExtBut I s.heap h' := fun b ob hb e => hk b ob (by simpa using hb) e
    have hB' : B.inn h' := fun b ob e => hx b ob (fun q => by rw [q, hI] at e; cases e) (hB b ob e)
    refine k v h' tk hv hx ⟨o', ho', ⟨h', ho', hst⟩, fun h'' e hB'' => W.frame _ _ _ hst fun b hb ob eb => ?_⟩
    rcases hfp b hb with rfl | ⟨ob', eb'⟩
    · rw [ho'] at eb; cases eb; exact e
    · have h1 := hB' b ob' eb'
      rw [eb] at h1; cases h1
      exact hB'' b _ eb'
  done := fun s Q E hB ⟨o, ho, _, hs⟩ k => W.done s Q E (hs _ ho hB) fun h' tk hk => k h' tk fun b ob hb e => hk b ob (by simpa using hb) e
  self := fun i s Q E hB ⟨o, ho, _, hs⟩ k => W.self i s Q E (hs _ ho hB) k
  goes := fun i s e v Q E ⟨o, ho, ⟨h, hh, hst⟩, _⟩ k => by
    obtain ⟨o', c, ho', hc, hn⟩ := hcls i h hst
    rw [hh] at ho'; cases ho'
    exact goes_of e v ho hc hn k

abbrev Lst (h : Heap) (a : Addr) (vs : List Value) : Prop := h.IsList a vs.toArray
theorem isList_of {B : FM} {h : Heap} {a : Addr} {vs : List Value} {n : Nat} (k : B.inn h) (e : B a = some (lstO vs n)) : h.IsList a vs.toArray := ⟨_, k _ _ e, rfl, n, rfl⟩
theorem isTup_of {B : FM} {h : Heap} {a : Addr} {vs : List Value} {n : Nat} (k : B.inn h) (e : B a = some (tupO vs n)) : IsTup h a vs.toArray := ⟨_, k _ _ e, rfl, n, rfl⟩

section
variable {w : World} {P : Params} {f g : Bool} {s₀ : Shared} {B₀ B : FM} {mu : MU} {A : Around} {s : Shared} {E : Value → Shared → Prop}

/-- a frozen list is walked -/
theorem iter_list {a : Addr} {vs : List Value} {n : Nat} {Q : Value → Shared → Prop} (cx : Cx P f g s₀ B₀ B mu s.heap s.gens s.os) (hh : A.handled = none) (hB : B a = some (lstO vs n))
    (k : ∀ I st h', Src w A B I vs.length (fun i v => vs[i]? = some v) st → Cx P f g s₀ B₀ B ((I, st 0) :: mu) h' s.gens s.os → Q (.ref I) { s with heap := h' }) : wpAny (model prg w) A (pyIter (.ref a)) Q E s := by
  have hl := isList_of cx.sit.inB hB
  refine wpAny_pyIter_list hl ?_
  have hI : B s.heap.objs.size = none := cx.sit.none_of (get_size _)
  have hne : a ≠ s.heap.objs.size := fun q => by rw [q, hI] at hB; cases hB
  have W := src_of_walks (B := B) (Walks.list (prog := prg) (w := w) hh s.heap.objs.size a hne vs.toArray) hI (fun b hb => by
    rcases List.mem_cons.mp hb with h | h
    · exact .inl h
    · rw [List.mem_singleton.mp h]; exact .inr ⟨_, hB⟩) (fun i h ⟨⟨o, ho, hc, _⟩, _⟩ => ⟨o, _, ho, hc, by decide⟩)
  have e1 : vs.toArray.size = vs.length := by simp
  rw [e1] at W
  have W' : Src w A B s.heap.objs.size vs.length (fun i v => vs[i]? = some v) _ := ⟨fun i s' Q' E' a1 a2 a3 a4 => W.item i s' Q' E' a1 a2 a3 fun v h' tk hv => a4 v h' tk (by simpa using hv), W.done, W.self, W.goes⟩
  refine k _ _ _ W' (cx.pushMu ⟨⟨_, Heap.get?_push_size s.heap rfl, ⟨_, Heap.get?_push_size _ rfl, rfl, rfl⟩, hl.push _⟩, fun h e hb => ⟨⟨_, e, rfl, rfl⟩, isList_of hb hB⟩⟩)
end
end Mine
end
section
open PySem PySem.W PyProof.Rows
set_option Elab.async false
set_option maxRecDepth 100000
namespace Mine

/-! calls in an expression -/
def KeepOk (M : Model) (f : Value) (h : Heap) : Prop := ∃ k, (k = Keeper.frame ∨ k = Keeper.machine ∨ k = Keeper.boundFrame) ∧ Looks M h (keeperOf f) k
theorem keep_builtin {M : Model} {h : Heap} (i : String) : KeepOk M (.builtin i) h := ⟨.machine, .inr (.inl rfl), .now⟩
theorem keep_type {M : Model} {h : Heap} (i : String) : KeepOk M (.type i) h := ⟨.machine, .inr (.inl rfl), .now⟩
theorem keep_fn {M : Model} {h : Heap} {a : Addr} {o : Obj} {fd : FuncData} (e : h.get? a = some o) (hd : o.data = .func fd) : KeepOk M (.ref a) h := by
  refine ⟨.frame, .inl rfl, (Looks.ld (part := none) e).andThen ?_⟩
  rw [hd]; exact .now

section
variable {M : Model} {A : Around} {E : Value → Shared → Prop} {s : Shared} {env : Env} {pos : Pos} {Q : Value → Shared → Prop}

def notAttr : Expr → Bool
  | .Attribute .. => false
  | _ => true
theorem eval_call {func : Expr} {args : List Expr} {kws : List Keyword} (hf : notAttr func = true) : eval (.Call func args kws pos) env = (do callWith pos (← eval func env) [] (backTo pos (starEach args env)) (backToKw pos (keywordEach kws env))) := by
  cases func <;> first | rfl | cases hf

/-- trees evaluated from left to right -/
def evAll (A : Around) (M : Model) (env : Env) (E : Value → Shared → Prop) : List Expr → (List Value → Shared → Prop) → Shared → Prop
  | [], Q, s => Q [] s
  | e :: r, Q, s => wpAny M A (eval e env) (fun v s₁ => evAll A M env E r (fun vs s₂ => Q (v :: vs) s₂) s₁) E s
def noStar : List Expr → Bool
  | [] => true
  | .Starred .. :: _ => false
  | _ :: r => noStar r
theorem spliced_all : ∀ {es : List Expr} {s : Shared} {Q : List Value → Shared → Prop}, noStar es = true → evAll A M env E es Q s → wpAny M A (spliced (backTo pos (starEach es env))) Q E s
  | [], _, _, _, h => wpAny_pure h
  | e :: r, s, Q, hn, h => by
    have hs : starEach (e :: r) env = (false, eval e env) :: starEach r env := by cases e <;> first | rfl | cases hn
    have hn' : noStar r = true := by cases e <;> first | exact hn | cases hn
    rw [hs]
    show wpAny M A (spliced ((false, eval e env) :: backTo pos (starEach r env))) Q E s
    exact Calls.spliced_cons (wpAny_mono h (fun v s₁ h₁ => spliced_all hn' h₁) fun _ _ x => x)
theorem any_star : ∀ {es : List Expr}, noStar es = true → (backTo pos (starEach es env)).any (·.1) = false
  | [], _ => rfl
  | e :: r, hn => by
    have hs : starEach (e :: r) env = (false, eval e env) :: starEach r env := by cases e <;> first | rfl | cases hn
    have hn' : noStar r = true := by cases e <;> first | exact hn | cases hn
    rw [hs]
    show (false || (backTo pos (starEach r env)).any (·.1)) = false
    rw [any_star hn']; rfl

theorem ev_call {func e : Expr} {args : List Expr} (hf : notAttr func = true) (hn : noStar (e :: args) = true)
    (h : wpAny M A (eval func env) (fun fv s₁ => evAll A M env E (e :: args) (fun vs s₂ => KeepOk M fv s₂.heap ∧ wpAny M A (call fv vs) Q E s₂) s₁) E s) : wpAny M A (eval (.Call func (e :: args) [] pos) env) Q E s := by
  rw [eval_call hf]
  refine wpAny_bind (wpAny_mono h (fun fv s₁ h₁ => ?_) fun _ _ x => x)
  have hs : starEach (e :: args) env = (false, eval e env) :: starEach args env := by cases e <;> first | rfl | cases hn
  have hn' : noStar args = true := by cases e <;> first | exact hn | cases hn
  have h2 := spliced_all (pos := pos) hn h₁
  rw [hs] at h2 ⊢
  exact callWith_of (P := fun h => KeepOk M fv h) (by show ((false || (backTo pos (starEach args env)).any (·.1)) || false) = false; rw [any_star hn']; rfl) (fun _ x => x) (Calls.evalArgs_plain h2)

theorem ev_list {elts : List Expr} (hn : noStar elts = true) (h : evAll A M env E elts (fun vs s₁ => wpAny M A (newList vs) Q E s₁) s) : wpAny M A (eval (.List elts pos) env) Q E s := List_ (spliced_all hn h)
theorem ev_tuple {elts : List Expr} {k : Nat} (hn : noStar elts = true) (h : evAll A M env E elts (fun vs s₁ => wpAny M A (newTuple vs) Q E s₁) s) : wpAny M A (eval (.Tuple elts k pos) env) Q E s := Tuple_ (spliced_all hn h)
end

section
variable {P : Params} {f g : Bool} {s₀ s : Shared} {B₀ B : FM} {mu : MU} {M : Model} {A : Around} {E : Value → Shared → Prop} {env : Env} {Q : Value → Shared → Prop}
theorem newTup_cx {vs : List Value} (cx : Cx P f g s₀ B₀ B mu s.heap s.gens s.os) (hsz : vs.length ≤ 1000)
    (k : ∀ a h' B', B.le B' → B' a = some (tupO vs 0) → Cx P f g s₀ B₀ B' mu h' s.gens s.os → Q (.ref a) { s with heap := h' }) : wpAny M A (newTuple vs) Q E s :=
  wpAny_newObj_type (k _ _ _ (FM.le_put (cx.sit.none_of (get_size _))) (FM.put_self ..) (cx.pushB _)) (by show vs.toArray.size ≤ sizeLine; rw [List.size_toArray, sizeLine_eq]; omega)
theorem newLst_cx {vs : List Value} (cx : Cx P f g s₀ B₀ B mu s.heap s.gens s.os) (hsz : vs.length ≤ 1000)
    (k : ∀ a h' B', B.le B' → B' a = some (lstO vs 0) → Cx P f g s₀ B₀ B' mu h' s.gens s.os → Q (.ref a) { s with heap := h' }) : wpAny M A (newList vs) Q E s :=
  wpAny_newObj_type (k _ _ _ (FM.le_put (cx.sit.none_of (get_size _))) (FM.put_self ..) (cx.pushB _)) (by show vs.toArray.size ≤ sizeLine; rw [List.size_toArray, sizeLine_eq]; omega)
/-- a list that will turn -/
theorem newLstMu_cx {vs : List Value} (cx : Cx P f g s₀ B₀ B mu s.heap s.gens s.os) (hsz : vs.length ≤ 1000)
    (k : ∀ a h', Cx P f g s₀ B₀ B ((a, LstP vs) :: mu) h' s.gens s.os → Q (.ref a) { s with heap := h' }) : wpAny M A (newList vs) Q E s :=
  wpAny_newObj_type (k _ _ (cx.pushMu ⟨0, rfl⟩)) (by show vs.toArray.size ≤ sizeLine; rw [List.size_toArray, sizeLine_eq]; omega)
end
end Mine
end
section
open PySem PySem.W PyProof.Rows
set_option Elab.async false
set_option maxRecDepth 100000
namespace Mine

/-! the text's defs -/
noncomputable def flOf (P : Params) (a : Addr) : Array Value := match (k1o P a).data with | .fields vs => vs | _ => #[]
noncomputable def tkOf (P : Params) (a : Addr) : Tok := match ((flOf P a)[1]? : Option Value) with | some (Value.str _ t) => t | _ => 0

structure DefB (B : FM) (fa c : Addr) (name : Str) (pars : Arguments) (body : List Stmt) (scope : Scope) (clo : List (Str × Addr)) (dv : Value) : Prop where
  h : ∃ fd, FnB B fa fd ∧ fd.qualname = name ∧ fd.params = pars ∧ fd.body = .stmts body ∧ fd.scope = scope ∧ fd.globals = mainGlobals ∧ fd.closure = clo ∧ fd.defaults = dv ∧ fd.kwdefaults = .none ∧ fd.code = .ref c ∧ fd.builtins = builtinsNs
theorem DefB.le {B B' : FM} {fa c : Addr} {name : Str} {pars : Arguments} {body : List Stmt} {scope : Scope} {clo : List (Str × Addr)} {dv : Value} (x : DefB B fa c name pars body scope clo dv) (h : B.le B') : DefB B' fa c name pars body scope clo dv :=
  let ⟨fd, a, r⟩ := x.h; ⟨fd, a.le h, r⟩

theorem Stat.def {P : Params} {B : FM} (S : Stat P B) (f c i : Nat) (dv : Value)
    (e1 : (K1 P).lookup f = some (k1o P f)) (e2 : (k1o P f).cls = .type "function") (e3 : (k1o P f).data = .func (fdOf P f)) (e5 : (K1 P).lookup c = some (k1o P c)) (e6 : (k1o P c).data = .fields (flOf P c)) (e7 : (flOf P c)[1]? = some (.str (fdOf P f).qualname (tkOf P c)))
    (g1 : (fdOf P f).qualname = nameAt i) (g2 : (fdOf P f).params = parAt i) (g3 : (fdOf P f).body = .stmts (bodyAt i)) (g4 : (fdOf P f).scope = scAt i) (g5 : (fdOf P f).globals = mainGlobals) (g6 : (fdOf P f).closure = []) (g7 : (fdOf P f).defaults = dv) (g8 : (fdOf P f).kwdefaults = .none)
    (g9 : (fdOf P f).code = .ref c) (g10 : (fdOf P f).builtins = builtinsNs) (t1 : (f == 51 || f == 58 || f == 91 || f == 108) = false) (t2 : (c == 51 || c == 58 || c == 91 || c == 108) = false) :
    DefB B f c (nameAt i) (parAt i) (bodyAt i) (scAt i) [] dv :=
  ⟨fdOf P f, ⟨⟨_, S f _ e1 (notTab t1), e2, e3⟩, ⟨c, _, _, _, g9, S c _ e5 (notTab t2), e6, e7⟩⟩, g1, g2, g3, g4, g5, g6, g7, g8, g9, g10⟩

abbrev envD (name : Str) (scope : Scope) (clo : List (Str × Addr)) (fa c L : Addr) : Env :=
  { scope := scope, locals := L, globals := mainGlobals, cells := cellsFrom (L + 1) scope.names [] ++ clo, qual := name ++ ".<locals>.", func := some fa, code := .ref c, frame := some L, builtins := builtinsNs }

/-- binding depends on the signature alone -/
def sigD (name : Str) (pars : Arguments) (dv : Value) : FuncData := { name := name, qualname := name, params := pars, body := .stmts [], scope := default, globals := 0, closure := [], defaults := dv, kwdefaults := .none }
theorem bind_sig {fd : FuncData} {name : Str} {pars : Arguments} {dv : Value} (h1 : fd.qualname = name) (h2 : fd.params = pars) (h3 : fd.defaults = dv) (h4 : fd.kwdefaults = .none) (a : Args) : bindArgs fd a = bindArgs (sigD name pars dv) a := by
  unfold bindArgs
  rw [h1, h2, h3, h4]
  rfl

/-- a def is called: none of ours raises -/
theorem call_def {w : World} {P : Params} {f g : Bool} {B : FM} {A : Around} {E : Value → Shared → Prop} {s : Shared} {Q : Value → Shared → Prop} {fa c : Addr} {name : Str} {pars : Arguments} {body : List Stmt} {scope : Scope} {clo : List (Str × Addr)} {dv : Value} {args : List Value} {kw : List (Str × Value)} {binds l' : List (Str × Value)} {mu' : MU} {n : Nat}
    (S : Sit P f g B s.heap s.gens) (hA : AOk n A) (F : DefB B fa c name pars body scope clo dv)
    (hbind : ∀ (Q' : List (Str × Value) → Shared → Prop) (E' : Value → Shared → Prop), Q' binds s → wpAny (model prg w) A.in1 (bindArgs (sigD name pars dv) ⟨args, kw⟩) Q' E' s)
    (hb : Bound (envD name scope clo fa c s.heap.objs.size) binds [] (cellMu (cellsFrom (s.heap.objs.size + 1) scope.names [])) l' mu')
    (k : ∀ h' tk, Cx P f g s B B ((s.heap.objs.size, NsP l') :: mu') h' s.gens s.os → wpAny (model prg w) (A.deeper (envD name scope clo fa c s.heap.objs.size)) (execs body (envD name scope clo fa c s.heap.objs.size)) (fun fl s' => Q (retv fl) s') (fun _ _ => False) { s with heap := h', toks := tk })
    (hsk : (scope.kind, scope.isCoroutine, scope.isGenerator) = (.function, false, false) := by rfl) :
    wpAny (model prg w) A (call (.ref fa) args kw) Q E s := by
  obtain ⟨fd, FB, q1, q2, q3, q4, q5, q6, q7, q8, q9, q10⟩ := F.h
  refine call_fn S hA FB q3 (by rw [q4]; exact hsk) (envD name scope clo fa c s.heap.objs.size) (by rw [q1, q4, q5, q6, q9, q10]) (fun Q' E' h => by rw [bind_sig q1 q2 q7 q8]; exact hbind Q' E' h) (by rw [q4]; exact hb) k

theorem bind_pure {w : World} {A : Around} {s : Shared} {fd : FuncData} {a : Args} {binds : List (Str × Value)} (h : bindArgs fd a = pure binds) (Q' : List (Str × Value) → Shared → Prop) (E' : Value → Shared → Prop) (q : Q' binds s) : wpAny (model prg w) A (bindArgs fd a) Q' E' s := by
  rw [h]; exact wpAny_pure q

theorem def_heaps {P : Params} {B : FM} (S : Stat P B) : DefB B 77 76 (nameAt 9) (parAt 9) (bodyAt 9) (scAt 9) [] .none :=
  S.def 77 76 9 .none (by kernel_rfl) (by kernel_rfl) (by kernel_rfl) (by kernel_rfl) (by kernel_rfl) (by kernel_rfl) (by kernel_rfl) (by kernel_rfl) (by kernel_rfl) (by kernel_rfl) (by kernel_rfl) (by kernel_rfl) (by kernel_rfl) (by kernel_rfl) (by kernel_rfl) (by kernel_rfl) rfl rfl
theorem def_rows {P : Params} {B : FM} (S : Stat P B) : DefB B 84 83 (nameAt 10) (parAt 10) (bodyAt 10) (scAt 10) [] .none :=
  S.def 84 83 10 .none (by kernel_rfl) (by kernel_rfl) (by kernel_rfl) (by kernel_rfl) (by kernel_rfl) (by kernel_rfl) (by kernel_rfl) (by kernel_rfl) (by kernel_rfl) (by kernel_rfl) (by kernel_rfl) (by kernel_rfl) (by kernel_rfl) (by kernel_rfl) (by kernel_rfl) (by kernel_rfl) rfl rfl
theorem def_keys {P : Params} {B : FM} (S : Stat P B) : DefB B 89 88 (nameAt 11) (parAt 11) (bodyAt 11) (scAt 11) [] .none :=
  S.def 89 88 11 .none (by kernel_rfl) (by kernel_rfl) (by kernel_rfl) (by kernel_rfl) (by kernel_rfl) (by kernel_rfl) (by kernel_rfl) (by kernel_rfl) (by kernel_rfl) (by kernel_rfl) (by kernel_rfl) (by kernel_rfl) (by kernel_rfl) (by kernel_rfl) (by kernel_rfl) (by kernel_rfl) rfl rfl
theorem def_merger {P : Params} {B : FM} (S : Stat P B) : DefB B 96 95 (nameAt 12) (parAt 12) (bodyAt 12) (scAt 12) [] .none :=
  S.def 96 95 12 .none (by kernel_rfl) (by kernel_rfl) (by kernel_rfl) (by kernel_rfl) (by kernel_rfl) (by kernel_rfl) (by kernel_rfl) (by kernel_rfl) (by kernel_rfl) (by kernel_rfl) (by kernel_rfl) (by kernel_rfl) (by kernel_rfl) (by kernel_rfl) (by kernel_rfl) (by kernel_rfl) rfl rfl
theorem def_stages {P : Params} {B : FM} (S : Stat P B) : DefB B 101 100 (nameAt 13) (parAt 13) (bodyAt 13) (scAt 13) [] .none :=
  S.def 101 100 13 .none (by kernel_rfl) (by kernel_rfl) (by kernel_rfl) (by kernel_rfl) (by kernel_rfl) (by kernel_rfl) (by kernel_rfl) (by kernel_rfl) (by kernel_rfl) (by kernel_rfl) (by kernel_rfl) (by kernel_rfl) (by kernel_rfl) (by kernel_rfl) (by kernel_rfl) (by kernel_rfl) rfl rfl
theorem def_sums {P : Params} {B : FM} (S : Stat P B) : DefB B 106 105 (nameAt 14) (parAt 14) (bodyAt 14) (scAt 14) [] .none :=
  S.def 106 105 14 .none (by kernel_rfl) (by kernel_rfl) (by kernel_rfl) (by kernel_rfl) (by kernel_rfl) (by kernel_rfl) (by kernel_rfl) (by kernel_rfl) (by kernel_rfl) (by kernel_rfl) (by kernel_rfl) (by kernel_rfl) (by kernel_rfl) (by kernel_rfl) (by kernel_rfl) (by kernel_rfl) rfl rfl
theorem def_due {P : Params} {B : FM} (S : Stat P B) : DefB B 111 110 (nameAt 15) (parAt 15) (bodyAt 15) (scAt 15) [] .none :=
  S.def 111 110 15 .none (by kernel_rfl) (by kernel_rfl) (by kernel_rfl) (by kernel_rfl) (by kernel_rfl) (by kernel_rfl) (by kernel_rfl) (by kernel_rfl) (by kernel_rfl) (by kernel_rfl) (by kernel_rfl) (by kernel_rfl) (by kernel_rfl) (by kernel_rfl) (by kernel_rfl) (by kernel_rfl) rfl rfl
theorem def_law {P : Params} {B : FM} (S : Stat P B) : DefB B 118 117 (nameAt 16) (parAt 16) (bodyAt 16) (scAt 16) [] .none :=
  S.def 118 117 16 .none (by kernel_rfl) (by kernel_rfl) (by kernel_rfl) (by kernel_rfl) (by kernel_rfl) (by kernel_rfl) (by kernel_rfl) (by kernel_rfl) (by kernel_rfl) (by kernel_rfl) (by kernel_rfl) (by kernel_rfl) (by kernel_rfl) (by kernel_rfl) (by kernel_rfl) (by kernel_rfl) rfl rfl
theorem def_afs {P : Params} {B : FM} (S : Stat P B) : DefB B 49 48 (nameAt 2) (parAt 2) (bodyAt 2) (scAt 2) [] .none :=
  S.def 49 48 2 .none (by kernel_rfl) (by kernel_rfl) (by kernel_rfl) (by kernel_rfl) (by kernel_rfl) (by kernel_rfl) (by kernel_rfl) (by kernel_rfl) (by kernel_rfl) (by kernel_rfl) (by kernel_rfl) (by kernel_rfl) (by kernel_rfl) (by kernel_rfl) (by kernel_rfl) (by kernel_rfl) rfl rfl
theorem def_acs {P : Params} {B : FM} (S : Stat P B) : DefB B 56 55 (nameAt 3) (parAt 3) (bodyAt 3) (scAt 3) [] .none :=
  S.def 56 55 3 .none (by kernel_rfl) (by kernel_rfl) (by kernel_rfl) (by kernel_rfl) (by kernel_rfl) (by kernel_rfl) (by kernel_rfl) (by kernel_rfl) (by kernel_rfl) (by kernel_rfl) (by kernel_rfl) (by kernel_rfl) (by kernel_rfl) (by kernel_rfl) (by kernel_rfl) (by kernel_rfl) rfl rfl
theorem def_ctk {P : Params} {B : FM} (S : Stat P B) : DefB B 63 62 (nameAt 5) (parAt 5) (bodyAt 5) (scAt 5) [] .none :=
  S.def 63 62 5 .none (by kernel_rfl) (by kernel_rfl) (by kernel_rfl) (by kernel_rfl) (by kernel_rfl) (by kernel_rfl) (by kernel_rfl) (by kernel_rfl) (by kernel_rfl) (by kernel_rfl) (by kernel_rfl) (by kernel_rfl) (by kernel_rfl) (by kernel_rfl) (by kernel_rfl) (by kernel_rfl) rfl rfl
theorem def_reduce {P : Params} {B : FM} (S : Stat P B) : DefB B 72 71 (nameAt 7) (parAt 7) (bodyAt 7) (scAt 7) [] (.ref 65) :=
  S.def 72 71 7 (.ref 65) (by kernel_rfl) (by kernel_rfl) (by kernel_rfl) (by kernel_rfl) (by kernel_rfl) (by kernel_rfl) (by kernel_rfl) (by kernel_rfl) (by kernel_rfl) (by kernel_rfl) (by kernel_rfl) (by kernel_rfl) (by kernel_rfl) (by kernel_rfl) (by kernel_rfl) (by kernel_rfl) rfl rfl

structure BltIs (P : Params) (x : Str) (v : Value) : Prop where
  h1 : nsFind (esOf P 3) x = none
  h2 : nsFind (esOf P 0) x = some v
structure GlobIs (P : Params) (x : Str) (v : Value) : Prop where
  h : nsFind (esOf P 3) x = some v
theorem blt_len (P : Params) : BltIs P "len" (.builtin "len") := ⟨by kernel_rfl, by kernel_rfl⟩
theorem blt_sum (P : Params) : BltIs P "sum" (.builtin "sum") := ⟨by kernel_rfl, by kernel_rfl⟩
theorem blt_sorted (P : Params) : BltIs P "sorted" (.builtin "sorted") := ⟨by kernel_rfl, by kernel_rfl⟩
theorem blt_isinstance (P : Params) : BltIs P "isinstance" (.builtin "isinstance") := ⟨by kernel_rfl, by kernel_rfl⟩
theorem blt_iter (P : Params) : BltIs P "iter" (.builtin "iter") := ⟨by kernel_rfl, by kernel_rfl⟩
theorem blt_range (P : Params) : BltIs P "range" (.type "range") := ⟨by kernel_rfl, by kernel_rfl⟩
theorem blt_list (P : Params) : BltIs P "list" (.type "list") := ⟨by kernel_rfl, by kernel_rfl⟩
theorem blt_tuple (P : Params) : BltIs P "tuple" (.type "tuple") := ⟨by kernel_rfl, by kernel_rfl⟩
theorem blt_enumerate (P : Params) : BltIs P "enumerate" (.type "enumerate") := ⟨by kernel_rfl, by kernel_rfl⟩
theorem blt_zip (P : Params) : BltIs P "zip" (.type "zip") := ⟨by kernel_rfl, by kernel_rfl⟩
theorem glob_heaps (P : Params) : GlobIs P "_law_heaps" (.ref 77) := ⟨by kernel_rfl⟩
theorem glob_rows (P : Params) : GlobIs P "_law_rows" (.ref 84) := ⟨by kernel_rfl⟩
theorem glob_keys (P : Params) : GlobIs P "_law_keys" (.ref 89) := ⟨by kernel_rfl⟩
theorem glob_merger (P : Params) : GlobIs P "_law_merger" (.ref 96) := ⟨by kernel_rfl⟩
theorem glob_stages (P : Params) : GlobIs P "_law_stages" (.ref 101) := ⟨by kernel_rfl⟩
theorem glob_sums (P : Params) : GlobIs P "_law_sums" (.ref 106) := ⟨by kernel_rfl⟩
theorem glob_due (P : Params) : GlobIs P "_law_due" (.ref 111) := ⟨by kernel_rfl⟩
theorem glob_afs (P : Params) : GlobIs P "add_func_stats" (.ref 49) := ⟨by kernel_rfl⟩
theorem glob_acs (P : Params) : GlobIs P "add_callers" (.ref 56) := ⟨by kernel_rfl⟩
theorem glob_ctk (P : Params) : GlobIs P "cmp_to_key" (.ref 63) := ⟨by kernel_rfl⟩
theorem glob_reduce (P : Params) : GlobIs P "reduce" (.ref 72) := ⟨by kernel_rfl⟩
theorem glob_tc (P : Params) : GlobIs P "TupleComp" (.ref 38) := ⟨by kernel_rfl⟩
theorem glob_im (P : Params) : GlobIs P "_initial_missing" (.ref 64) := ⟨by kernel_rfl⟩

/-- a name of the top or a built-in one is read -/
theorem ldB {P : Params} {f g : Bool} {B : FM} {M : Model} {A : Around} {E : Value → Shared → Prop} {s : Shared} {env : Env} {x : Str} {pos : Pos} {v : Value} {Q : Value → Shared → Prop} (S : Sit P f g B s.heap s.gens) (b : BltIs P x v) (h : Q v s)
    (hg : env.globals = mainGlobals := by rfl) (hb : env.builtins = builtinsNs := by rfl) (hk : env.scope.kind = .function := by rfl) (hx : env.kindOf x = some .globalImplicit := by rfl) (hd : (x == ("__debug__" : Str)) = false := by decide) : wpAny M A (eval (.Name x pos) env) Q E s :=
  ld_blt S b.h1 b.h2 h hg hb hk hx hd
theorem ldG {P : Params} {f g : Bool} {B : FM} {M : Model} {A : Around} {E : Value → Shared → Prop} {s : Shared} {env : Env} {x : Str} {pos : Pos} {v : Value} {Q : Value → Shared → Prop} (S : Sit P f g B s.heap s.gens) (b : GlobIs P x v) (h : Q v s)
    (hg : env.globals = mainGlobals := by rfl) (hk : env.scope.kind = .function := by rfl) (hx : env.kindOf x = some .globalImplicit := by rfl) (hd : (x == ("__debug__" : Str)) = false := by decide) : wpAny M A (eval (.Name x pos) env) Q E s :=
  ld_glob S b.h h hg hk hx hd
end Mine
end
section
open PySem PySem.W PyProof.Rows
set_option Elab.async false
set_option maxRecDepth 100000
set_option linter.unusedVariables false
namespace Mine

section
variable {w : World} {P : Params} {f g : Bool} {s₀ s : Shared} {B₀ B : FM} {mu : MU} {A : Around} {E : Value → Shared → Prop} {env : Env} {Q : Value → Shared → Prop}

theorem ev_int {i : Int} {k : Nat} {pos : Pos} (h : ∀ t tk, Q (.int i t) { s with toks := tk }) : wpAny (model prg w) A (eval (.Constant (.int i) k pos) env) Q E s := wpAny_Constant_int (h _ _)
theorem ev_str {x : Str} {k : Nat} {pos : Pos} (h : ∀ t tk, Q (.str x t) { s with toks := tk }) : wpAny (model prg w) A (eval (.Constant (.str x) k pos) env) Q E s := Calls.Constant_str (h _ _)

/-- a subscript -/
theorem ev_sub {value slice : Expr} {pos : Pos} {T id : String} (h : wpAny (model prg w) A (eval value env) (fun o s₁ => wpAny (model prg w) A (eval slice env) (fun i s₂ => ∃ ops, s₂.TypeIs o T ∧ subscripted slice false o i = operate ops (getItem o i) ∧ wpAny (model prg w) A (getItem o i) Q E s₂) E s₁) E s)
    (hl : typeLookup (.type T) "__getitem__" = pure (some (.builtin id))) : wpAny (model prg w) A (eval (.Subscript value slice pos) env) Q E s :=
  Subscript_ (wpAny_mono h (fun o s₁ h₁ => wpAny_mono h₁ (fun i s₂ hz => by obtain ⟨ops, h2, h3, h4⟩ := hz; exact tail_any h2 hl h4 h3) fun _ _ x => x) fun _ _ x => x)

def isSlice : Expr → Bool
  | .Slice .. => true
  | _ => false
theorem sub_plain {slice : Expr} {o i : Value} (h : isSlice slice = false) : subscripted slice false o i = operate [o, i] (getItem o i) := by
  cases slice <;> first | rfl | cases h
theorem sub_slice {l u st : Option Expr} {p : Pos} {o i : Value} : ∃ ops, subscripted (.Slice l u st p) false o i = operate ops (getItem o i) := by
  cases st <;> exact ⟨_, rfl⟩

/-- what list[k] asks -/
inductive LstQ (Q : Value → Shared → Prop) (o i : Value) (s : Shared) : Prop
  | mk (a : Addr) (vs : List Value) (k : Int) (t : Tok) (x : Value) (e1 : o = .ref a) (e2 : i = .int k t) (h1 : s.heap.IsList a (List.toArray vs)) (h2 : 0 ≤ k) (h3 : k < 2 ^ 63) (h4 : vs[k.toNat]? = some x) (q : Q x s) : LstQ Q o i s
/-- list[k] -/
theorem subL {value slice : Expr} {pos : Pos} (hs : isSlice slice = false) (h : wpAny (model prg w) A (eval value env) (fun o s₁ => wpAny (model prg w) A (eval slice env) (fun i s₂ => LstQ Q o i s₂) E s₁) E s) :
    wpAny (model prg w) A (eval (.Subscript value slice pos) env) Q E s :=
  ev_sub (wpAny_mono h (fun o s₁ h₁ => wpAny_mono h₁ (fun i s₂ hz => by
    obtain ⟨a, vs, k, t, x, e1, e2, h1, h2, h3, h4, h5⟩ := hz
    subst e1 e2
    exact ⟨_, h1.typeIs, sub_plain hs, wpAny_getItem_list h1 h2 h3 (by simpa using h4) h5⟩) fun _ _ x => x) fun _ _ x => x) slot_list_getitem.lookup

/-- what tuple[k] asks -/
inductive TupQ (Q : Value → Shared → Prop) (o i : Value) (s : Shared) : Prop
  | mk (a : Addr) (vs : List Value) (k : Int) (t : Tok) (x : Value) (e1 : o = .ref a) (e2 : i = .int k t) (h1 : IsTup s.heap a (List.toArray vs)) (h2 : 0 ≤ k) (h3 : k < 1000) (h4 : vs[k.toNat]? = some x) (q : Q x s) : TupQ Q o i s
/-- tuple[k] -/
theorem subT {value slice : Expr} {pos : Pos} (hs : isSlice slice = false) (h : wpAny (model prg w) A (eval value env) (fun o s₁ => wpAny (model prg w) A (eval slice env) (fun i s₂ => TupQ Q o i s₂) E s₁) E s) :
    wpAny (model prg w) A (eval (.Subscript value slice pos) env) Q E s :=
  ev_sub (wpAny_mono h (fun o s₁ h₁ => wpAny_mono h₁ (fun i s₂ hz => by
    obtain ⟨a, vs, k, t, x, e1, e2, h1, h2, h3, h4, h5⟩ := hz
    subst e1 e2
    have hlt : k.toNat < vs.length := (List.getElem?_eq_some_iff.mp h4).1
    have hj : seqIndex? k (List.toArray vs).size = some k.toNat := by
      unfold seqIndex?
      rw [List.size_toArray]
      simp only [if_neg (Int.not_lt.mpr h2)]
      simp; omega
    exact ⟨_, h1.typeIs, sub_plain hs, getItem_tuple h1 (by omega) (by omega) hj (by simpa using h4) h5⟩) fun _ _ x => x) fun _ _ x => x) slot_tuple_getitem.lookup

/-- what list[l:u:st] asks -/
inductive SlcQ (Q : Value → Shared → Prop) (o lv uv sv : Value) : Shared → Prop
  | mk {P : Params} {f g : Bool} {s₀ : Shared} {B₀ B : FM} {mu : MU} {h : Heap} {gs : Array GenState} {dr : Drawn} {tk : Tok} {os : OsState} (a : Addr) (vs : List Value) (lo hi sp : Option Int) (e : o = .ref a) (cx : Cx P f g s₀ B₀ B mu h gs os) (hl : h.IsList a (List.toArray vs)) (hz : vs.length ≤ 1000)
      (p1 : IsPart lv lo) (p2 : IsPart uv hi) (p3 : IsPart sv sp) (h0 : sp ≠ some 0)
      (q : ∀ D h' B', B.le B' → B' D = some (lstO (slicePick (List.toArray vs) lo hi sp).toList 0) → Cx P f g s₀ B₀ B' mu h' gs os → Q (.ref D) ⟨h', gs, dr, tk, os⟩) : SlcQ Q o lv uv sv ⟨h, gs, dr, tk, os⟩
/-- list[l:u:st] -/
theorem subS {value : Expr} {l u st : Option Expr} {p pos : Pos} (h : wpAny (model prg w) A (eval value env) (fun o s₀' => wpAny (model prg w) A (evalPart l env) (fun lv s₁ => wpAny (model prg w) A (evalPart u env) (fun uv s₂ => wpAny (model prg w) A (evalPart st env) (fun sv s₃ => SlcQ Q o lv uv sv s₃) E s₂) E s₁) E s₀') E s) :
    wpAny (model prg w) A (eval (.Subscript value (.Slice l u st p) pos) env) Q E s := by
  refine ev_sub (wpAny_mono h (fun o s₀' h₀ => wpAny_Slice (wpAny_mono h₀ (fun lv s₁ h₁ => wpAny_mono h₁ (fun uv s₂ h₂ => wpAny_mono h₂ (fun sv s₃ h₃ => ?_) fun _ _ x => x) fun _ _ x => x) fun _ _ x => x)) fun _ _ x => x) slot_list_getitem.lookup
  obtain @⟨P, f, g, s₀, B₀, B, mu, h, gs, dr, tk, os, a, vs, lo, hi, sp, rfl, cx, hl, hz, pl, pu, pk, h0, k⟩ := h₃
  obtain ⟨ops, hops⟩ := sub_slice (l := l) (u := u) (st := st) (p := p) (o := .ref a) (i := .ref h.objs.size)
  have hl' : (h.push { cls := .type "slice", data := .fields #[lv, uv, sv] }).IsList a (List.toArray vs) := hl.push _
  have c1 := cx.push { cls := .type "slice", data := .fields #[lv, uv, sv] }
  refine ⟨ops, Heap.IsList.typeIs (s := ⟨h.push { cls := .type "slice", data := .fields #[lv, uv, sv] }, gs, dr, tk, os⟩) hl', hops, wpAny_getItem_list_slice hl' (Heap.IsSliceOf.new ..) pl pu pk h0 ?_ (by rw [List.size_toArray, sizeLine_eq]; omega)⟩
  refine k _ _ _ (FM.le_put (c1.sit.none_of (get_size _))) ?_ (c1.pushB _)
  rw [FM.put_self]

theorem call_len_lst {a : Addr} {vs : List Value} (hl : s.heap.IsList a vs.toArray) (hz : vs.length ≤ 1000) (h : ∀ t tk, Q (.int vs.length t) { s with toks := tk }) : wpAny (model prg w) A (call (.builtin "len") [.ref a]) Q E s :=
  Calls.call_len_list hl (by rw [List.size_toArray]; omega) (by rw [List.size_toArray]; exact h _ _)

theorem ints_items : ∀ {vs : List Value} {ns : List Int}, IntsAre vs ns → ∃ xs : Array (Int × Tok), vs.toArray = intItems xs ∧ xs.toList.map (·.1) = ns
  | _, _, .nil => ⟨#[], by simp [intItems], rfl⟩
  | _, _, .cons n t r => by
    obtain ⟨xs, h1, h2⟩ := ints_items r
    refine ⟨((n, t) :: xs.toList).toArray, ?_, by simp [h2]⟩
    have h3 : ∀ l : List Value, l.toArray = intItems xs → l = xs.toList.map fun p => .int p.1 p.2 := fun l e => by
      have := congrArg Array.toList e
      simpa [intItems] using this
    simp [intItems, h3 _ h1]
theorem call_sum_lst {a : Addr} {vs : List Value} {ns : List Int} (cx : Cx P f g s₀ B₀ B mu s.heap s.gens s.os) (hh : A.handled = none) (hl : s.heap.IsList a vs.toArray) (hi : IntsAre vs ns)
    (k : ∀ t h' tk, Cx P f g s₀ B₀ B mu h' s.gens s.os → Q (.int ns.sum t) { s with heap := h', toks := tk }) : wpAny (model prg w) A (call (.builtin "sum") [.ref a]) Q E s := by
  obtain ⟨xs, h1, h2⟩ := ints_items hi
  rw [h1] at hl
  refine sum_intListG hh hl fun h' tk t' hk => ?_
  rw [preSum_eq, List.take_of_length_le (by simp), h2]
  exact k t' h' tk (cx.grow hk)

/-- range(n) is made and walked -/
theorem iter_range {n : Nat} {t : Tok} (cx : Cx P f g s₀ B₀ B mu s.heap s.gens s.os) (hh : A.handled = none) (hn : n ≤ 1000)
    (k : ∀ I st h' tk, Src w A B I n (fun i v => ∃ t, v = .int i t) st → Cx P f g s₀ B₀ B ((I, st 0) :: mu) h' s.gens s.os → Q (.ref I) { s with heap := h', toks := tk }) :
    wpAny (model prg w) A (call (.type "range") [.int n t]) (fun r s₁ => wpAny (model prg w) A (pyIter r) Q E s₁) E s := by
  refine call_range_1 ?_
  have c1 := cx.push { cls := .type "range", data := .fields #[.int 0 s.toks, .int n t, .int 1 (s.toks + 1)] }
  have hsz : Builtin.Range.rangeSize 0 (n : Int) 1 = (n : Int) := by
    unfold Builtin.Range.rangeSize
    rw [if_pos (by decide)]
    split
    · rw [Int.ediv_one]; omega
    · omega
  refine wpAny_pyIter_range (IsRange.new ..) (by
    unfold Builtin.Range.small Builtin.Range.rangeFitsLong
    rw [hsz]
    simp; omega) ?_
  rw [hsz]
  dsimp only
  generalize s.heap.push { cls := .type "range", data := .fields #[.int 0 s.toks, .int n t, .int 1 (s.toks + 1)] } = h1 at c1 ⊢
  have W := src_of_walks (B := B) (Walks.range (prog := prg) (w := w) (A := A) hh h1.objs.size 0 1 n) (c1.sit.none_of (get_size _)) (fun b hb => .inl (List.mem_singleton.mp hb)) (fun i h st => ⟨_, _, st, rfl, by decide⟩)
  have W' : Src w A B h1.objs.size n (fun i v => ∃ t, v = .int i t) _ := ⟨fun i s' Q' E' a1 a2 a3 a4 => W.item i s' Q' E' a1 a2 a3 fun v h' tk hv => a4 v h' tk (by
    obtain ⟨t, rfl⟩ := hv
    exact ⟨t, by rw [Int.zero_add, Int.mul_one]⟩), W.done, W.self, W.goes⟩
  refine k _ _ _ _ W' (c1.pushMu ⟨⟨_, Heap.get?_push_size h1 rfl, ?_⟩, fun h e hb => ?_⟩)
  · have : IsRangeIter (h1.push { cls := .type "range_iterator", data := .fields #[rawInt 0, rawInt n, rawInt 1] }) h1.objs.size 0 n 1 := Heap.get?_push_size h1 rfl
    simpa using this
  · have : IsRangeIter h h1.objs.size 0 n 1 := e
    simpa using this
end
end Mine
end
section
open PySem PySem.W PyProof.Rows
set_option Elab.async false
set_option maxRecDepth 100000
set_option linter.unusedVariables false
namespace Mine
section
variable {w : World} {P : Params} {f g : Bool} {s₀ : Shared} {B₀ B B₁ : FM} {mu : MU} {A : Around} {s : Shared} {env : Env} {I : Addr} {n : Nat} {val : Nat → Value → Prop} {st : Nat → Obj → Prop}

/-- a comprehension over one local name, its list used at once -/
theorem comp_name_any {use : Option (Value → Sem Unit)} {Q : Value → Shared → Prop} {E : Value → Shared → Prop} {elt iter : Expr} {x : Str} {px : Pos} {ifs : List Expr} {scope : Scope} {pos : Pos} {cl : List (Str × Addr)} (W : Src w A B₁ I n val st) (hn : n ≤ 900)
    (J : Nat → FM → List Value → Prop) (hB : B₁.le B) (cx : Cx P f g s₀ B₀ B ((I, st 0) :: mu) s.heap s.gens s.os) (h0 : J 0 B [])
    (turn : ∀ C D i v B ys st' s, i < n → val i v → J i B ys → B₁.le B → Cx P f g s₀ B₀ B ((C, NsP [(x, v)]) :: (D, LstP ys) :: (I, st') :: mu) s.heap s.gens s.os →
      wpAny (model prg w) A (testsOf ifs (compEnvC scope cl C env)) (fun ok s₃ =>
        if ok = true then wpAny (model prg w) A (eval elt (compEnvC scope cl C env)) (fun y s₄ => ∃ B', J (i + 1) B' (ys ++ [y]) ∧ B.le B' ∧
            Cx P f g s₀ B₀ B' ((C, NsP [(x, v)]) :: (D, LstP ys) :: (I, st') :: mu) s₄.heap s₄.gens s₄.os) (fun _ _ => False) s₃
        else ∃ B', J (i + 1) B' ys ∧ B.le B' ∧ Cx P f g s₀ B₀ B' ((C, NsP [(x, v)]) :: (D, LstP ys) :: (I, st') :: mu) s₃.heap s₃.gens s₃.os) (fun _ _ => False) s)
    (fin : ∀ C D B ys l s, J n B ys → B₁.le B → Cx P f g s₀ B₀ B ((C, NsP l) :: (D, LstP ys) :: mu) s.heap s.gens s.os → compPost (model prg w) A E use Q (.ref D) C (.ok .next) s)
    (hk : scope.kind = .function := by rfl) (hcs : ∀ n, cellsFrom n scope.names [] = [] := by intro _; rfl) (hx : (relabel scope env).names.lookup x = some .local := by rfl) :
    wpAny (model prg w) A (newList []) (fun acc s₃ => wpAny (model prg w) A (newFunctionEnv scope env.globals cl [] env.qual none .none (some env)) (fun cenv s₄ =>
        codeAny (model prg w) A (.compStart (.ListComp elt [⟨.Name x px, iter, ifs, 0⟩] scope pos) 0 (.ref I) acc { cenv with scope := relabel scope env }) (compPost (model prg w) A E use Q acc cenv.locals) s₄) E s₃) E s := by
  refine comp_any W hn (fun C i B ys l cc => J i B ys ∧ cc = [] ∧ ∀ u, putA x u l = [(x, u)]) hB hk cx (fun C => ⟨h0, by rw [hcs]; rfl, fun _ => rfl⟩) ?_ ?_
  · rintro C D i v B ys l cc st' s hi hv ⟨hJ, rfl, hput⟩ hB cx
    rw [hcs]
    refine wpAny_assign_Name (st_local cx hx (fun h4 tk4 cx4 => ?_) (by show (scope.kind == .class || (scope.kind == .module && _)) = false; rw [hk]; rfl))
    rw [hput] at cx4
    refine wpAny_mono (turn C D i v B ys st' _ hi hv hJ hB cx4) (fun ok s₃ h₃ => ?_) fun _ _ x => x
    have hput' : ∀ u, putA x u [(x, v)] = [(x, u)] := fun u => by unfold putA; rw [if_pos (by simp)]
    cases ok with
    | false =>
      obtain ⟨B', hJ', hle, cx'⟩ := h₃
      exact ⟨B', _, [], ⟨hJ', rfl, hput'⟩, hle, cx'⟩
    | true =>
      refine wpAny_mono h₃ (fun y s₄ h₄ => ?_) fun _ _ x => x
      obtain ⟨B', hJ', hle, cx'⟩ := h₄
      exact ⟨B', _, [], ⟨hJ', rfl, hput'⟩, hle, cx'⟩
  · rintro C D B ys l cc s ⟨hJ, rfl, _⟩ hB cx
    exact fin C D B ys l s hJ hB cx

/-- the list goes to a local name -/
theorem use_local {C D : Addr} {ys : List Value} {l le : List (Str × Value)} {y : Str} {py : Pos} {Q : Value → Shared → Prop} {E : Value → Shared → Prop} {fl : Flow} (cx : Cx P f g s₀ B₀ B ((C, NsP l) :: (D, LstP ys) :: (env.locals, NsP le) :: mu) s.heap s.gens s.os) (hy : env.kindOf y = some .local)
    (k : ∀ m h' tk, B D = none → Cx P f g s₀ B₀ (B.put D (lstO ys m)) ((env.locals, NsP (putA y (.ref D) le)) :: mu) h' s.gens s.os → Q .none { s with heap := h', toks := tk }) (hk : (env.scope.kind == .class || (env.scope.kind == .module && env.locals != env.globals)) = false := by rfl) :
    compPost (model prg w) A E (some (assign (.Name y py) env)) Q (.ref D) C (.ok fl) s := by
  show wpAny _ A (assign (.Name y py) env (.ref D)) _ _ _
  have c1 : Cx P f g s₀ B₀ B ((env.locals, NsP le) :: (C, NsP l) :: (D, LstP ys) :: mu) s.heap s.gens s.os := cx.perm (((List.Perm.swap ..).cons _).trans (List.Perm.swap ..))
  refine wpAny_assign_Name (st_local c1 hy (fun h4 tk4 c4 => ?_) hk)
  have c5 : Cx P f g s₀ B₀ B ((C, NsP l) :: (D, LstP ys) :: (env.locals, NsP (putA y (.ref D) le)) :: mu) h4 s.gens s.os := c4.perm ((List.Perm.swap ..).trans ((List.Perm.swap ..).cons _))
  refine ⟨fun x => l.lookup x, c5.nsAt (List.Mem.head _), fun h'' hs => ?_⟩
  obtain ⟨o, ⟨m, rfl⟩, _, hD, c7⟩ := (c5.dropE hs.extBut).freeze
  exact k m h'' tk4 hD c7
/-- the list goes to a name that is kept in a cell -/
theorem use_cell {C D : Addr} {ys : List Value} {l : List (Str × Value)} {y : Str} {py : Pos} {c : Addr} {v₀ : Option Value} {Q : Value → Shared → Prop} {E : Value → Shared → Prop} {fl : Flow} (i : Nat) (cx : Cx P f g s₀ B₀ B ((C, NsP l) :: (D, LstP ys) :: mu) s.heap s.gens s.os) (hy : env.kindOf y = some .cell)
    (hc : env.cells.lookup y = some c) (hi : mu[i]? = some (c, CellP v₀))
    (k : ∀ m h', B D = none → Cx P f g s₀ B₀ (B.put D (lstO ys m)) (mu.set i (c, CellP (some (.ref D)))) h' s.gens s.os → Q .none { s with heap := h' }) (hk : env.scope.kind = .function := by rfl) :
    compPost (model prg w) A E (some (assign (.Name y py) env)) Q (.ref D) C (.ok fl) s := by
  show wpAny _ A (assign (.Name y py) env (.ref D)) _ _ _
  refine wpAny_assign_Name (st_cell (i + 2) cx hy hc (by simpa using hi) (fun h4 c4 => ?_) hk)
  have c5 : Cx P f g s₀ B₀ B ((C, NsP l) :: (D, LstP ys) :: mu.set i (c, CellP (some (.ref D)))) h4 s.gens s.os := by simpa using c4
  refine ⟨fun x => l.lookup x, c5.nsAt (List.Mem.head _), fun h'' hs => ?_⟩
  obtain ⟨o, ⟨m, rfl⟩, _, hD, c7⟩ := (c5.dropE hs.extBut).freeze
  exact k m h'' hD c7

/-- y = [ .. for .. ] -/
theorem assign_comp {elt target iter : Expr} {ifs : List Expr} {scope : Scope} {pos spos py : Pos} {y : Str} {cl : List (Str × Addr)} {Q : Flow → Shared → Prop} {E : Value → Shared → Prop}
    (hsw : swapsWith (.ListComp elt [⟨target, iter, ifs, 0⟩] scope pos) (some (.Name y py)) spos.line env = pure true) (hs : ∀ x, foldedSetIterable iter env x = pure x) (hclos : closureFor scope env = pure cl)
    (hkind : scope.kind = .function) (hnames : ∀ x ∈ scope.names, x.2 = .local → scope.names.lookup x.1 = some .local)
    (h : wpAny (model prg w) A (eval iter env) (fun x s₁ => wpAny (model prg w) A (pyIter x) (fun it s₂ => wpAny (model prg w) A (newList []) (fun acc s₃ =>
      wpAny (model prg w) A (newFunctionEnv scope env.globals cl [] env.qual none .none (some env)) (fun cenv s₄ =>
        codeAny (model prg w) A (.compStart (.ListComp elt [⟨target, iter, ifs, 0⟩] scope pos) 0 it acc { cenv with scope := relabel scope env }) (compPost (model prg w) A E (some (assign (.Name y py) env)) (fun _ s' => Q .next s') acc cenv.locals) s₄) E s₃) E s₂) E s₁) E s) :
    wpAny (model prg w) A (exec (.Assign [.Name y py] (.ListComp elt [⟨target, iter, ifs, 0⟩] scope pos) spos) env) Q E s := by
  rw [exec_Assign_Name_used _ _ _ _ hsw]
  refine wpAny_bind (wpAny_standAt (wpAny_bind ?_))
  show wpAny _ A (do let _ ← comprehension (.ListComp elt [⟨target, iter, ifs, 0⟩] scope pos) scope env _ (newList []) false (eval iter env) (some (assign (.Name y py) env))) _ _ s
  exact wpAny_bind (wpAny_mono (wpAny_comprehension_free (use := some (assign (.Name y py) env)) (Q := fun _ s' => Q .next s') rfl hs hclos hkind hnames h) (fun _ s' hq => wpAny_pure (wpAny_pure hq)) fun _ _ e => e)

/-- a comprehension over one local name -/
theorem comp_name {Q : Value → Shared → Prop} {E : Value → Shared → Prop} {elt iter : Expr} {x : Str} {px : Pos} {ifs : List Expr} {scope : Scope} {pos : Pos} {cl : List (Str × Addr)} (W : Src w A B₁ I n val st) (hn : n ≤ 900)
    (J : Nat → FM → List Value → Prop) (hB : B₁.le B) (cx : Cx P f g s₀ B₀ B ((I, st 0) :: mu) s.heap s.gens s.os) (h0 : J 0 B [])
    (turn : ∀ C D i v B ys st' s, i < n → val i v → J i B ys → B₁.le B → Cx P f g s₀ B₀ B ((C, NsP [(x, v)]) :: (D, LstP ys) :: (I, st') :: mu) s.heap s.gens s.os →
      wpAny (model prg w) A (testsOf ifs (compEnvC scope cl C env)) (fun ok s₃ =>
        if ok = true then wpAny (model prg w) A (eval elt (compEnvC scope cl C env)) (fun y s₄ => ∃ B', J (i + 1) B' (ys ++ [y]) ∧ B.le B' ∧
            Cx P f g s₀ B₀ B' ((C, NsP [(x, v)]) :: (D, LstP ys) :: (I, st') :: mu) s₄.heap s₄.gens s₄.os) (fun _ _ => False) s₃
        else ∃ B', J (i + 1) B' ys ∧ B.le B' ∧ Cx P f g s₀ B₀ B' ((C, NsP [(x, v)]) :: (D, LstP ys) :: (I, st') :: mu) s₃.heap s₃.gens s₃.os) (fun _ _ => False) s)
    (done : ∀ D B ys m s, J n B ys → B₁.le B → B D = none → Cx P f g s₀ B₀ (B.put D (lstO ys m)) mu s.heap s.gens s.os → Q (.ref D) s)
    (hk : scope.kind = .function := by rfl) (hcs : ∀ n, cellsFrom n scope.names [] = [] := by intro _; rfl) (hx : (relabel scope env).names.lookup x = some .local := by rfl) :
    wpAny (model prg w) A (newList []) (fun acc s₃ => wpAny (model prg w) A (newFunctionEnv scope env.globals cl [] env.qual none .none (some env)) (fun cenv s₄ =>
        codeAny (model prg w) A (.compStart (.ListComp elt [⟨.Name x px, iter, ifs, 0⟩] scope pos) 0 (.ref I) acc { cenv with scope := relabel scope env }) (compPost (model prg w) A E none Q acc cenv.locals) s₄) E s₃) E s := by
  refine comp_cx W hn (fun C i B ys l cc => J i B ys ∧ cc = [] ∧ ∀ u, putA x u l = [(x, u)]) hB hk cx (fun C => ⟨h0, by rw [hcs]; rfl, fun _ => rfl⟩) ?_ ?_
  · rintro C D i v B ys l cc st' s hi hv ⟨hJ, rfl, hput⟩ hB cx
    rw [hcs]
    refine wpAny_assign_Name (st_local cx hx (fun h4 tk4 cx4 => ?_) (by show (scope.kind == .class || (scope.kind == .module && _)) = false; rw [hk]; rfl))
    rw [hput] at cx4
    refine wpAny_mono (turn C D i v B ys st' _ hi hv hJ hB cx4) (fun ok s₃ h₃ => ?_) fun _ _ x => x
    have hput' : ∀ u, putA x u [(x, v)] = [(x, u)] := fun u => by unfold putA; rw [if_pos (by simp)]
    cases ok with
    | false =>
      obtain ⟨B', hJ', hle, cx'⟩ := h₃
      exact ⟨B', _, [], ⟨hJ', rfl, hput'⟩, hle, cx'⟩
    | true =>
      refine wpAny_mono h₃ (fun y s₄ h₄ => ?_) fun _ _ x => x
      obtain ⟨B', hJ', hle, cx'⟩ := h₄
      exact ⟨B', _, [], ⟨hJ', rfl, hput'⟩, hle, cx'⟩
  · rintro C D B ys l cc m s ⟨hJ, _, _⟩ hB hD cx
    exact done D B ys m s hJ hB hD cx

/-- a comprehension over one name that it keeps in a cell -/
theorem comp_cell {Q : Value → Shared → Prop} {E : Value → Shared → Prop} {elt iter : Expr} {x : Str} {px : Pos} {ifs : List Expr} {scope : Scope} {pos : Pos} {cl : List (Str × Addr)} (W : Src w A B₁ I n val st) (hn : n ≤ 900)
    (J : Nat → FM → List Value → Prop) (hB : B₁.le B) (cx : Cx P f g s₀ B₀ B ((I, st 0) :: mu) s.heap s.gens s.os) (h0 : J 0 B [])
    (turn : ∀ C D i v B ys st' s, i < n → val i v → J i B ys → B₁.le B → Cx P f g s₀ B₀ B ((C, NsP []) :: (C + 1, CellP (some v)) :: (D, LstP ys) :: (I, st') :: mu) s.heap s.gens s.os →
      wpAny (model prg w) A (testsOf ifs (compEnvC scope ((x, C + 1) :: cl) C env)) (fun ok s₃ =>
        if ok = true then wpAny (model prg w) A (eval elt (compEnvC scope ((x, C + 1) :: cl) C env)) (fun y s₄ => ∃ B', J (i + 1) B' (ys ++ [y]) ∧ B.le B' ∧
            Cx P f g s₀ B₀ B' ((C, NsP []) :: (C + 1, CellP (some v)) :: (D, LstP ys) :: (I, st') :: mu) s₄.heap s₄.gens s₄.os) (fun _ _ => False) s₃
        else ∃ B', J (i + 1) B' ys ∧ B.le B' ∧ Cx P f g s₀ B₀ B' ((C, NsP []) :: (C + 1, CellP (some v)) :: (D, LstP ys) :: (I, st') :: mu) s₃.heap s₃.gens s₃.os) (fun _ _ => False) s)
    (done : ∀ D B ys m s, J n B ys → B₁.le B → B D = none → Cx P f g s₀ B₀ (B.put D (lstO ys m)) mu s.heap s.gens s.os → Q (.ref D) s)
    (hk : scope.kind = .function := by rfl) (hcs : ∀ n, cellsFrom n scope.names [] = [(x, n)] := by intro _; rfl) (hx : (relabel scope env).names.lookup x = some .cell := by rfl) :
    wpAny (model prg w) A (newList []) (fun acc s₃ => wpAny (model prg w) A (newFunctionEnv scope env.globals cl [] env.qual none .none (some env)) (fun cenv s₄ =>
        codeAny (model prg w) A (.compStart (.ListComp elt [⟨.Name x px, iter, ifs, 0⟩] scope pos) 0 (.ref I) acc { cenv with scope := relabel scope env }) (compPost (model prg w) A E none Q acc cenv.locals) s₄) E s₃) E s := by
  refine comp_cx W hn (fun C i B ys l cc => J i B ys ∧ (∃ u, cc = [(C + 1, CellP u)]) ∧ l = []) hB hk cx (fun C => ⟨h0, ⟨none, by rw [hcs]; rfl⟩, rfl⟩) ?_ ?_
  · rintro C D i v B ys l cc st' s hi hv ⟨hJ, ⟨u, rfl⟩, rfl⟩ hB cx
    rw [hcs]
    refine wpAny_assign_Name (st_cell (c := C + 1) 1 cx hx (by show List.lookup x ((x, C + 1) :: cl) = _; simp) rfl (fun h4 cx4 => ?_) hk)
    refine wpAny_mono (turn C D i v B ys st' _ hi hv hJ hB cx4) (fun ok s₃ h₃ => ?_) fun _ _ x => x
    cases ok with
    | false =>
      obtain ⟨B', hJ', hle, cx'⟩ := h₃
      exact ⟨B', [], [(C + 1, CellP (some v))], ⟨hJ', ⟨_, rfl⟩, rfl⟩, hle, cx'⟩
    | true =>
      refine wpAny_mono h₃ (fun y s₄ h₄ => ?_) fun _ _ x => x
      obtain ⟨B', hJ', hle, cx'⟩ := h₄
      exact ⟨B', [], [(C + 1, CellP (some v))], ⟨hJ', ⟨_, rfl⟩, rfl⟩, hle, cx'⟩
  · rintro C D B ys l cc m s ⟨hJ, _, _⟩ hB hD cx
    exact done D B ys m s hJ hB hD cx
end
end Mine
end
section
open PySem PySem.W PyProof.Rows
set_option Elab.async false
set_option maxRecDepth 100000
set_option linter.unusedVariables false
namespace Mine

def eqs (os : List (Addr × Obj)) : MU := os.map fun p => (p.1, EqP p.2)
section
variable {P : Params} {f g : Bool} {s₀ : Shared} {B₀ B : FM} {mu : MU} {h h' : Heap} {gs : Array GenState} {os : OsState}

/-- the objects at wr have turned, whatever they became; they are there -/
theorem Cx.reset {we : MU} (x : Cx P f g s₀ B₀ B (we ++ mu) h gs os) (hs : ∀ b o, b ∉ we.map (·.1) → h.get? b = some o → h'.get? b = some o) (hx : ∀ b ∈ we.map (·.1), ∃ o, h'.get? b = some o) :
    ∃ ws : List (Addr × Obj), ws.map (·.1) = we.map (·.1) ∧ (∀ p ∈ ws, h'.get? p.1 = some p.2) ∧ Cx P f g s₀ B₀ B (eqs ws ++ mu) h' gs os := by
  have mk : ∀ we : MU, (∀ b ∈ we.map (·.1), ∃ o, h'.get? b = some o) → ∃ ws : List (Addr × Obj), ws.map (·.1) = we.map (·.1) ∧ ∀ p ∈ ws, h'.get? p.1 = some p.2 := by
    intro we
    induction we with
    | nil => intro _; exact ⟨[], rfl, fun _ hp => (nomatch hp)⟩
    | cons q r ih =>
      intro hx
      obtain ⟨ws, h1, h2⟩ := ih fun b hb => hx b (List.mem_cons_of_mem _ hb)
      obtain ⟨o, ho⟩ := hx q.1 (List.mem_cons_self ..)
      refine ⟨(q.1, o) :: ws, by simp [h1], fun p hp => ?_⟩
      rcases List.mem_cons.mp hp with rfl | hp
      · exact ho
      · exact h2 p hp
  obtain ⟨ws, e1, e2⟩ := mk we hx
  have eqm : (eqs ws).map (·.1) = we.map (·.1) := by rw [← e1]; simp [eqs, List.map_map, Function.comp_def]
  have inwe : ∀ b, b ∈ we.map (·.1) → ∃ p ∈ we ++ mu, p.1 = b := fun b hb => by
    obtain ⟨p, hp, e⟩ := List.mem_map.mp hb
    exact ⟨p, List.mem_append_left _ hp, e⟩
  have nB : ∀ b o, B b = some o → b ∉ we.map (·.1) := fun b o e hb => by
    obtain ⟨p, hp, rfl⟩ := inwe b hb
    rw [(x.fresh p hp).2] at e; cases e
  have nT : ∀ b, Tab b → b ∉ we.map (·.1) := fun b t hb => by
    obtain ⟨p, hp, rfl⟩ := inwe b hb
    exact x.notab hp t
  have n0 : ∀ b o, s₀.heap.get? b = some o → b ∉ we.map (·.1) := fun b o e hb => by
    obtain ⟨p, hp, rfl⟩ := inwe b hb
    rw [(x.fresh p hp).1] at e; cases e
  have nd := x.nd
  rw [List.map_append] at nd
  refine ⟨ws, e1, e2, ⟨⟨fun b o e => hs b o (nB b o e) (x.sit.inB b o e), x.sit.stat, x.sit.tabs.keep (FM.le.refl B) fun b t o e => hs b o (nT b t) e, x.sit.tabB, x.sit.bare⟩,
    fun b o t e => hs b o (n0 b o e) (x.ext b o t e), x.le, x.new, x.os, x.tab0, fun p hp => ?_, ?_, fun p hp => ?_⟩⟩
  · rcases List.mem_append.mp hp with hp | hp
    · obtain ⟨q, hq, rfl⟩ := List.mem_map.mp hp
      exact ⟨q.2, e2 q hq, ⟨rfl⟩⟩
    · obtain ⟨o, e, r⟩ := x.mus p (List.mem_append_right _ hp)
      refine ⟨o, hs _ _ (fun hb => ?_) e, r⟩
      exact (List.nodup_append.mp nd).2.2 _ hb _ (List.mem_map_of_mem hp) rfl
  · rw [List.map_append, eqm]; exact nd
  · rcases List.mem_append.mp hp with hp | hp
    · have hb : p.1 ∈ we.map (·.1) := by rw [← eqm]; exact List.mem_map_of_mem hp
      obtain ⟨q, hq, e⟩ := inwe p.1 hb
      rw [← e]; exact x.fresh q hq
    · exact x.fresh p (List.mem_append_right _ hp)
theorem Cx.dropMany {we : MU} (x : Cx P f g s₀ B₀ B (we ++ mu) h gs os) (hs : ∀ b o, b ∉ we.map (·.1) → h.get? b = some o → h'.get? b = some o) : Cx P f g s₀ B₀ B mu h' gs os := by
  have inwe : ∀ b, b ∈ we.map (·.1) → ∃ p ∈ we ++ mu, p.1 = b := fun b hb => by
    obtain ⟨p, hp, e⟩ := List.mem_map.mp hb
    exact ⟨p, List.mem_append_left _ hp, e⟩
  have nB : ∀ b o, B b = some o → b ∉ we.map (·.1) := fun b o e hb => by
    obtain ⟨p, hp, rfl⟩ := inwe b hb
    rw [(x.fresh p hp).2] at e; cases e
  have nT : ∀ b, Tab b → b ∉ we.map (·.1) := fun b t hb => by
    obtain ⟨p, hp, rfl⟩ := inwe b hb
    exact x.notab hp t
  have n0 : ∀ b o, s₀.heap.get? b = some o → b ∉ we.map (·.1) := fun b o e hb => by
    obtain ⟨p, hp, rfl⟩ := inwe b hb
    rw [(x.fresh p hp).1] at e; cases e
  have nd := x.nd
  rw [List.map_append] at nd
  refine ⟨⟨fun b o e => hs b o (nB b o e) (x.sit.inB b o e), x.sit.stat, x.sit.tabs.keep (FM.le.refl B) fun b t o e => hs b o (nT b t) e, x.sit.tabB, x.sit.bare⟩,
    fun b o t e => hs b o (n0 b o e) (x.ext b o t e), x.le, x.new, x.os, x.tab0, fun p hp => ?_, (List.nodup_append.mp nd).2.1, fun p hp => x.fresh p (List.mem_append_right _ hp)⟩
  obtain ⟨o, e, r⟩ := x.mus p (List.mem_append_right _ hp)
  exact ⟨o, hs _ _ (fun hb => (List.nodup_append.mp nd).2.2 _ hb _ (List.mem_map_of_mem hp) rfl) e, r⟩
end

section
variable {w : World} {P : Params} {f g : Bool} {s₀ : Shared} {B₀ B B₁ : FM} {mu : MU} {A : Around} {s : Shared} {env : Env} {I : Addr} {fp wr : List Addr} {n : Nat} {Pt : Nat → Array Value → Prop} {St : Nat → Heap → Prop} {Mid : Nat → Addr → Heap → Prop}

/-- two names are bound to a pair's items -/
theorem assign_pair {x y : Str} {px py pos : Pos} {k : Nat} {T : Addr} {a b : Value} {m : Nat} {l : List (Str × Value)} {Q : Unit → Shared → Prop} {E : Value → Shared → Prop} (cx : Cx P f g s₀ B₀ B ((env.locals, NsP l) :: mu) s.heap s.gens s.os) (hh : A.handled = none) {oT : Obj} (hT : B T = some oT) (hTc : oT.cls = .type "tuple") (hTd : oT.data = .seq #[a, b] m)
    (hx : env.kindOf x = some .local) (hy : env.kindOf y = some .local) (hk : env.scope.kind = .function)
    (h : ∀ h' tk, Cx P f g s₀ B₀ B ((env.locals, NsP (putA y b (putA x a l))) :: mu) h' s.gens s.os → Q () { s with heap := h', toks := tk }) :
    wpAny (model prg w) A (assign (.Tuple [.Name x px, .Name y py] k pos) env (.ref T)) Q E s := by
  have hk' : (env.scope.kind == .class || (env.scope.kind == .module && env.locals != env.globals)) = false := by rw [hk]; rfl
  refine wpAny_assign_Tuple hh (items := #[a, b]) ⟨_, cx.sit.inB _ _ hT, hTc, m, hTd⟩ rfl rfl fun h1 hx1 => ?_
  have c1 : Cx P f g s₀ B₀ B ((env.locals, NsP l) :: mu) h1 s.gens s.os := cx.grow fun b o e => hx1 b o (Nat.ne_of_lt (Heap.lt_size e)) e
  show wpAny _ _ (assignInOrder [assign (.Name x px) env, assign (.Name y py) env] [a, b]) _ _ _
  refine wpAny_bind (wpAny_holding (wpAny_assign_Name (st_local (s := { s with heap := h1 }) c1 hx (fun h2 tk2 c2 => ?_) hk')))
  refine wpAny_bind (wpAny_holding (wpAny_assign_Name (st_local (s := { s with heap := h2, toks := tk2 }) c2 hy (fun h3 tk3 c3 => ?_) hk')))
  exact wpAny_pure (h h3 tk3 c3)

/-- a for over pairs that the iterator makes anew each turn -/
theorem for_pair {R : Result → Shared → Prop} {elts : List Expr} {tk : Nat} {tp : Pos} {body : List Stmt} (W : WalksT prg w A I fp wr n Pt St Mid) (hfp : ∀ b ∈ fp, b ∈ wr ∨ ∃ o, B₁ b = some o) (hex : ∀ i h, St i h → ∀ b ∈ wr, ∃ o, h.get? b = some o)
    (J : Nat → FM → MU → Prop) (hJm : ∀ i B B' mu, J i B mu → B.le B' → J i B' mu) (hB : B₁.le B) (we : MU) (hwe : we.map (·.1) = wr)
    (cx : Cx P f g s₀ B₀ B (we ++ mu) s.heap s.gens s.os) (hst : St 0 s.heap) (h0 : J 0 B mu)
    (turn : ∀ i T vals m oT B mu ws s, i < n → Pt i vals → J i B mu → B₁.le B → B T = some oT → oT.cls = .type "tuple" → oT.data = .seq vals m → Cx P f g s₀ B₀ B (eqs ws ++ mu) s.heap s.gens s.os →
      wpAny (model prg w) A (assign (.Tuple elts tk tp) env (.ref T)) (fun _ s₂ => wpAny (model prg w) A (execs body env) (fun fl s₃ => match fl with
        | .next | .cont => ∃ B' mu', J (i + 1) B' mu' ∧ B.le B' ∧ Cx P f g s₀ B₀ B' (eqs ws ++ mu') s₃.heap s₃.gens s₃.os
        | .brk => R (.ok .next) s₃
        | .ret v => R (.ok (.ret v)) s₃) (fun _ _ => False) s₂) (fun _ _ => False) s)
    (done : ∀ B mu s, J n B mu → B₁.le B → Cx P f g s₀ B₀ B mu s.heap s.gens s.os → R (.ok .next) s) :
    codeAny (model prg w) A (.forLoop (.Tuple elts tk tp) (.ref I) body [] env) R s := by
  refine codeAny_forLoop_any (fun k s' => ∃ i B mu we, i ≤ n ∧ k = n + 1 - i ∧ J i B mu ∧ B₁.le B ∧ we.map (·.1) = wr ∧ St i s'.heap ∧ Cx P f g s₀ B₀ B (we ++ mu) s'.heap s'.gens s'.os) ?_ (n + 1) ⟨0, B, mu, we, Nat.zero_le _, rfl, h0, hB, hwe, hst, cx⟩
  rintro k s' ⟨i, B, mu, we, hi, rfl, hJ, hB, hwe, hst, cx⟩
  by_cases hlt : i < n
  · refine W.item i s' _ _ hlt hst fun T vals h' tk' hPt hT hIsT hMid hk => ?_
    have hTn : s'.heap.get? T = none := by
      cases q : s'.heap.get? T with
      | none => rfl
      | some o => exact absurd (Nat.lt_of_lt_of_le (Heap.lt_size q) hT) (Nat.lt_irrefl _)
    refine W.go elts _ tp i T _ _ _ hMid fun h'' hst'' hk'' => ?_
    have hTw : T ∉ wr := W.apart i T h' hMid
    obtain ⟨oT, hTo, hTc, m, hTd⟩ := hIsT
    have hTo'' : h''.get? T = some oT := hk'' _ _ hTw hTo
    obtain ⟨ws, e1, e2, c2⟩ := cx.reset (h' := h'') (fun b o hb e => hk'' b o (hwe ▸ hb) (hk b o (hwe ▸ hb) e)) (fun b hb => hex _ _ hst'' b (hwe ▸ hb))
    have hTB : B T = none := cx.sit.none_of hTn
    -- the pair is new and frozen
    have c3 : Cx P f g s₀ B₀ (B.put T oT) (eqs ws ++ mu) h'' s'.gens s'.os := by
      have h1 : Cx P f g s₀ B₀ B ((T, EqP oT) :: (eqs ws ++ mu)) h'' s'.gens s'.os := by
        refine ⟨c2.sit, c2.ext, c2.le, c2.new, c2.os, c2.tab0, fun q hq => ?_, ?_, fun q hq => ?_⟩
        · rcases List.mem_cons.mp hq with rfl | hq
          · exact ⟨_, hTo'', ⟨rfl⟩⟩
          · exact c2.mus q hq
        · rw [List.map_cons]
          refine List.nodup_cons.mpr ⟨fun hm => ?_, c2.nd⟩
          rw [List.map_append] at hm
          rcases List.mem_append.mp hm with hm | hm
          · have : T ∈ wr := by
              rw [← hwe, ← e1]
              simpa [eqs, List.map_map, Function.comp_def] using hm
            exact hTw this
          · obtain ⟨q, hq, e⟩ := List.mem_map.mp hm
            obtain ⟨o, e', _⟩ := cx.mus q (List.mem_append_right _ hq)
            rw [e, hTn] at e'; cases e'
        · rcases List.mem_cons.mp hq with rfl | hq
          · exact ⟨cx.old_none hTn, hTB⟩
          · exact c2.fresh q hq
      obtain ⟨o', ⟨rfl⟩, _, _, y⟩ := h1.freeze
      exact y
    have hle : B.le (B.put T oT) := FM.le_put hTB
    refine no_E (wpAny_mono (turn i T vals m oT _ mu ws _ hlt hPt ?_ (hB.trans hle) (FM.put_self ..) hTc hTd c3) (fun _ s₂ h₂ => no_E (wpAny_mono h₂ (fun fl s₃ h₃ => ?_) fun _ _ x => x)) fun _ _ x => x)
    · exact hJm _ _ _ _ hJ hle
    · have fin : (∃ B' mu', J (i + 1) B' mu' ∧ (B.put T oT).le B' ∧ Cx P f g s₀ B₀ B' (eqs ws ++ mu') s₃.heap s₃.gens s₃.os) →
          ∃ m, m < n + 1 - i ∧ ∃ i B mu we, i ≤ n ∧ m = n + 1 - i ∧ J i B mu ∧ B₁.le B ∧ we.map (·.1) = wr ∧ St i s₃.heap ∧ Cx P f g s₀ B₀ B (we ++ mu) s₃.heap s₃.gens s₃.os := by
        rintro ⟨B', mu', hJ', hle', c4⟩
        refine ⟨n + 1 - (i + 1), by omega, i + 1, B', mu', eqs ws, hlt, rfl, hJ', hB.trans (hle.trans hle'), ?_, ?_, c4⟩
        · rw [← hwe, ← e1]; simp [eqs, List.map_map, Function.comp_def]
        · refine W.frame _ _ _ hst'' fun b hb o e => ?_
          rcases hfp b hb with hbw | ⟨o', ho'⟩
          · rw [← hwe, ← e1] at hbw
            obtain ⟨q, hq, rfl⟩ := List.mem_map.mp hbw
            have := e2 q hq
            rw [e] at this; cases this
            obtain ⟨o2, e3, ⟨r⟩⟩ := c4.mus (q.1, EqP q.2) (List.mem_append_left _ (List.mem_map_of_mem (f := fun p : Addr × Obj => (p.1, EqP p.2)) hq))
            rw [r] at e3; exact e3
          · have h1 := c3.sit.inB b o' (hle _ _ (hB _ _ ho'))
            rw [e] at h1; cases h1
            exact c4.sit.inB b _ (hle' _ _ (hle _ _ (hB _ _ ho')))
      cases fl with
      | next => exact fin h₃
      | cont => exact fin h₃
      | brk => exact h₃
      | ret v => exact h₃
  · have hin : i = n := by omega
    subst hin
    refine W.done s' _ _ hst fun h' tk' hk => ?_
    exact wpAny_execs_nil (done B mu _ hJ hB (cx.dropMany fun b o hb e => hk b o (hwe ▸ hb) e))
end
end Mine
end
section
open PySem PySem.W PyProof.Rows
set_option Elab.async false
set_option maxRecDepth 100000
set_option linter.unusedVariables false
namespace Mine

/-! data -/
inductive D where
  | int (i : Int)
  | str (x : Str)
  | tup (l : List D)
  | lst (l : List D)
  | dct (l : List (Int × D))

structure IsDct (o : Obj) (kvs : List (Int × Value)) : Prop where
  nd : (kvs.map (·.1)).Nodup
  h : ∀ (p : Program) (w : World), o.IsDictOf (intKind p w) kvs
theorem pairs_conv {p p' : Program} {w w' : World} {es : List DictEntry} {kvs : List (Int × Value)} (h : Pairs (intKind p w) es kvs) : Pairs (intKind p' w') es kvs := by
  induction h with
  | nil => exact .nil
  | cons h1 h2 _ ih => exact .cons h1 h2 ih
theorem IsDct.of {p : Program} {w : World} {o : Obj} {kvs : List (Int × Value)} (x : o.IsDictOf (intKind p w) kvs) : IsDct o kvs := by
  obtain ⟨es, ep, h1, h2, h3, h4, h5⟩ := x
  exact ⟨h5, fun p' w' => ⟨es, ep, h1, h2, h3, pairs_conv h4, h5⟩⟩

mutual
inductive Rep (B : FM) : Value → D → Prop
  | int (i t) : Rep B (.int i t) (.int i)
  | str (x t) : Rep B (.str x t) (.str x)
  | tup {a vs n ds} : B a = some (tupO vs n) → Reps B vs ds → Rep B (.ref a) (.tup ds)
  | lst {a vs n ds} : B a = some (lstO vs n) → Reps B vs ds → Rep B (.ref a) (.lst ds)
  | dct {a o kvs kds} : B a = some o → IsDct o kvs → RepK B kvs kds → (a == sysModules) = false → Rep B (.ref a) (.dct kds)
inductive Reps (B : FM) : List Value → List D → Prop
  | nil : Reps B [] []
  | cons {v vs d ds} : Rep B v d → Reps B vs ds → Reps B (v :: vs) (d :: ds)
inductive RepK (B : FM) : List (Int × Value) → List (Int × D) → Prop
  | nil : RepK B [] []
  | cons {k v kvs d kds} : Rep B v d → RepK B kvs kds → RepK B ((k, v) :: kvs) ((k, d) :: kds)
end

section
variable {B B' : FM}
theorem Reps.ind {P : List Value → List D → Prop} (nil : P [] []) (cons : ∀ v vs d ds, Rep B v d → Reps B vs ds → P vs ds → P (v :: vs) (d :: ds)) {vs : List Value} {ds : List D} (x : Reps B vs ds) : P vs ds :=
  Reps.rec (motive_1 := fun _ _ _ => True) (motive_2 := fun vs ds _ => P vs ds) (motive_3 := fun _ _ _ => True) (fun _ _ => trivial) (fun _ _ => trivial) (fun _ _ _ => trivial) (fun _ _ _ => trivial) (fun _ _ _ _ _ => trivial) nil (fun a b _ ih => cons _ _ _ _ a b ih) trivial (fun _ _ _ _ => trivial) x
theorem RepK.ind {P : List (Int × Value) → List (Int × D) → Prop} (nil : P [] []) (cons : ∀ k v kvs d kds, Rep B v d → RepK B kvs kds → P kvs kds → P ((k, v) :: kvs) ((k, d) :: kds)) {vs : List (Int × Value)} {ds : List (Int × D)} (x : RepK B vs ds) : P vs ds :=
  RepK.rec (motive_1 := fun _ _ _ => True) (motive_2 := fun _ _ _ => True) (motive_3 := fun vs ds _ => P vs ds) (fun _ _ => trivial) (fun _ _ => trivial) (fun _ _ _ => trivial) (fun _ _ _ => trivial) (fun _ _ _ _ _ => trivial) trivial (fun _ _ _ _ => trivial) nil (fun a b _ ih => cons _ _ _ _ _ a b ih) x
/-! what data of a kind is borne by -/
theorem Rep.int_inv {v : Value} {i : Int} (x : Rep B v (.int i)) : ∃ t, v = .int i t := by cases x with | int _ t => exact ⟨t, rfl⟩
theorem Rep.str_inv {v : Value} {i : Str} (x : Rep B v (.str i)) : ∃ t, v = .str i t := by cases x with | str _ t => exact ⟨t, rfl⟩
theorem Rep.tup_inv {v : Value} {ds : List D} (x : Rep B v (.tup ds)) : ∃ a vs n, v = .ref a ∧ B a = some (tupO vs n) ∧ Reps B vs ds := by cases x with | tup e r => exact ⟨_, _, _, rfl, e, r⟩
theorem Rep.lst_inv {v : Value} {ds : List D} (x : Rep B v (.lst ds)) : ∃ a vs n, v = .ref a ∧ B a = some (lstO vs n) ∧ Reps B vs ds := by cases x with | lst e r => exact ⟨_, _, _, rfl, e, r⟩
theorem Rep.dct_inv {v : Value} {ds : List (Int × D)} (x : Rep B v (.dct ds)) : ∃ a o kvs, v = .ref a ∧ B a = some o ∧ IsDct o kvs ∧ RepK B kvs ds ∧ (a == sysModules) = false := by cases x with | dct e k r n => exact ⟨_, _, _, rfl, e, k, r, n⟩
theorem Reps.nil_inv {vs : List Value} (x : Reps B vs []) : vs = [] := by cases x; rfl
theorem Reps.cons_inv {vs : List Value} {d : D} {ds : List D} (x : Reps B vs (d :: ds)) : ∃ v r, vs = v :: r ∧ Rep B v d ∧ Reps B r ds := by cases x with | cons a b => exact ⟨_, _, rfl, a, b⟩
theorem RepK.nil_inv {vs : List (Int × Value)} (x : RepK B vs []) : vs = [] := by cases x; rfl
theorem RepK.cons_inv {vs : List (Int × Value)} {d : Int × D} {ds : List (Int × D)} (x : RepK B vs (d :: ds)) : ∃ v r, vs = (d.1, v) :: r ∧ Rep B v d.2 ∧ RepK B r ds := by cases x with | cons a b => exact ⟨_, _, rfl, a, b⟩
theorem Rep.le (h : B.le B') {v : Value} {d : D} (x : Rep B v d) : Rep B' v d :=
  Rep.rec (motive_1 := fun v d _ => Rep B' v d) (motive_2 := fun v d _ => Reps B' v d) (motive_3 := fun v d _ => RepK B' v d) (fun i t => .int i t) (fun i t => .str i t) (fun e _ ih => .tup (h _ _ e) ih) (fun e _ ih => .lst (h _ _ e) ih) (fun e k _ n ih => .dct (h _ _ e) k ih n) .nil (fun _ _ i1 i2 => .cons i1 i2) .nil (fun _ _ i1 i2 => .cons i1 i2) x
theorem Reps.le (h : B.le B') {v : List Value} {d : List D} (x : Reps B v d) : Reps B' v d := x.ind .nil fun _ _ _ _ a _ ih => .cons (a.le h) ih
theorem RepK.le (h : B.le B') {v : List (Int × Value)} {d : List (Int × D)} (x : RepK B v d) : RepK B' v d := x.ind .nil fun _ _ _ _ _ a _ ih => .cons (a.le h) ih

theorem Reps.length {vs : List Value} {ds : List D} (x : Reps B vs ds) : vs.length = ds.length := x.ind (P := fun vs ds => vs.length = ds.length) rfl fun _ _ _ _ _ _ ih => congrArg (· + 1) ih
theorem Reps.get {vs : List Value} {ds : List D} (x : Reps B vs ds) {i : Nat} {d : D} (h : ds[i]? = some d) : ∃ v, vs[i]? = some v ∧ Rep B v d := by
  revert i
  refine x.ind (P := fun vs ds => ∀ {i : Nat}, ds[i]? = some d → ∃ v, vs[i]? = some v ∧ Rep B v d) ?_ ?_
  · intro i h; cases h
  · intro v vs d' ds a _ ih i h
    cases i with
    | zero => exact ⟨v, rfl, Option.some.inj h ▸ a⟩
    | succ i => exact ih h
theorem Reps.app {vs us : List Value} {ds es : List D} (x : Reps B vs ds) (y : Reps B us es) : Reps B (vs ++ us) (ds ++ es) := x.ind (P := fun vs ds => Reps B (vs ++ us) (ds ++ es)) y fun _ _ _ _ a _ ih => .cons a ih
theorem Reps.snoc {vs : List Value} {ds : List D} {v : Value} {d : D} (x : Reps B vs ds) (y : Rep B v d) : Reps B (vs ++ [v]) (ds ++ [d]) := x.app (.cons y .nil)
theorem Reps.take {vs : List Value} {ds : List D} (n : Nat) (x : Reps B vs ds) : Reps B (vs.take n) (ds.take n) := by
  revert n
  refine x.ind (P := fun vs ds => ∀ n, Reps B (vs.take n) (ds.take n)) ?_ ?_
  · intro n; rw [List.take_nil, List.take_nil]; exact .nil
  · intro v vs d ds a _ ih n
    cases n with
    | zero => exact .nil
    | succ n => exact .cons a (ih n)
theorem Reps.item {vs : List Value} {ds : List D} (x : Reps B vs ds) {i : Nat} {v : Value} (h : vs[i]? = some v) : ∃ d, ds[i]? = some d ∧ Rep B v d := by
  revert i
  refine x.ind (P := fun vs ds => ∀ {i : Nat}, vs[i]? = some v → ∃ d, ds[i]? = some d ∧ Rep B v d) ?_ ?_
  · intro i h; cases h
  · intro v' vs d' ds a _ ih i h
    cases i with
    | zero => exact ⟨d', rfl, Option.some.inj h ▸ a⟩
    | succ i => exact ih h
theorem reps_ints {vs : List Value} {ns : List Int} (h : IntsAre vs ns) : Reps B vs (ns.map D.int) := by
  induction h with
  | nil => exact .nil
  | cons n t _ ih => exact .cons (.int n t) ih
theorem ints_reps {ns : List Int} : ∀ {vs : List Value}, Reps B vs (ns.map D.int) → IntsAre vs ns := by
  induction ns with
  | nil => intro vs x; rw [x.nil_inv]; exact .nil
  | cons n ns ih =>
    intro vs x
    obtain ⟨v, r, rfl, a, b⟩ := x.cons_inv
    obtain ⟨t, rfl⟩ := a.int_inv
    exact .cons n t (ih b)
theorem RepK.keys {kvs : List (Int × Value)} {kds : List (Int × D)} (x : RepK B kvs kds) : kvs.map (·.1) = kds.map (·.1) := x.ind (P := fun kvs kds => kvs.map (·.1) = kds.map (·.1)) rfl fun k _ _ _ _ _ _ ih => congrArg (k :: ·) ih
end
theorem RepK.length {B : FM} {kvs : List (Int × Value)} {kds : List (Int × D)} (x : RepK B kvs kds) : kvs.length = kds.length := by
  have := congrArg List.length x.keys; simpa using this
def atD (k : Int) (kds : List (Int × D)) : Option D := (kds.find? fun kv => kv.1 = k).map (·.2)
theorem RepK.at {B : FM} {kvs : List (Int × Value)} {kds : List (Int × D)} (x : RepK B kvs kds) (k : Int) : (atD k kds = none ∧ valueAt kvs k = none) ∨ ∃ d v, atD k kds = some d ∧ valueAt kvs k = some v ∧ Rep B v d := by
  refine x.ind (P := fun kvs kds => (atD k kds = none ∧ valueAt kvs k = none) ∨ ∃ d v, atD k kds = some d ∧ valueAt kvs k = some v ∧ Rep B v d) (.inl ⟨rfl, rfl⟩) ?_
  intro k' v kvs d kds a _ ih
  unfold atD valueAt at ih ⊢
  by_cases h : k' = k
  · exact .inr ⟨d, v, by simp [h], by simp [h], a⟩
  · rw [List.find?_cons_of_neg (by simpa using h), List.find?_cons_of_neg (by simpa using h)]; exact ih
def putD (k : Int) (d : D) (kds : List (Int × D)) : List (Int × D) :=
  if kds.any (fun kv => kv.1 = k) then kds.map (fun kv => if kv.1 = k then (kv.1, d) else kv) else kds ++ [(k, d)]
theorem RepK.any {B : FM} {kvs : List (Int × Value)} {kds : List (Int × D)} (x : RepK B kvs kds) (k : Int) : kvs.any (fun kv => kv.1 = k) = kds.any (fun kv => kv.1 = k) :=
  x.ind (P := fun kvs kds => kvs.any (fun kv => kv.1 = k) = kds.any (fun kv => kv.1 = k)) rfl fun k' _ _ _ _ _ _ ih => congrArg (decide (k' = k) || ·) ih
theorem RepK.map {B : FM} {k : Int} {v : Value} {d : D} (y : Rep B v d) {kvs : List (Int × Value)} {kds : List (Int × D)} (x : RepK B kvs kds) : RepK B (kvs.map (fun kv => if kv.1 = k then (kv.1, v) else kv)) (kds.map (fun kv => if kv.1 = k then (kv.1, d) else kv)) := by
  refine x.ind (P := fun kvs kds => RepK B (kvs.map (fun kv => if kv.1 = k then (kv.1, v) else kv)) (kds.map (fun kv => if kv.1 = k then (kv.1, d) else kv))) .nil ?_
  intro k' v' kvs d' kds a _ ih
  rw [List.map_cons, List.map_cons]
  by_cases h : k' = k
  · rw [if_pos h, if_pos h]; exact .cons y ih
  · rw [if_neg h, if_neg h]; exact .cons a ih
theorem RepK.app {B : FM} {vs us : List (Int × Value)} {ds es : List (Int × D)} (x : RepK B vs ds) (y : RepK B us es) : RepK B (vs ++ us) (ds ++ es) := x.ind (P := fun vs ds => RepK B (vs ++ us) (ds ++ es)) y fun _ _ _ _ _ a _ ih => .cons a ih
theorem RepK.put {B : FM} {k : Int} {v : Value} {d : D} {kvs : List (Int × Value)} {kds : List (Int × D)} (x : RepK B kvs kds) (y : Rep B v d) : RepK B (stored kvs k v) (putD k d kds) := by
  unfold stored putD
  rw [x.any k]
  split
  · exact x.map y
  · exact x.app (.cons y .nil)

/-! equal data compare equal -/
def D.dep : D → Nat
  | .int _ => 0
  | .str _ => 0
  | .tup l => 1 + depL l
  | .lst l => 1 + depL l
  | .dct l => 1 + depK l
where
  depL : List D → Nat
    | [] => 0
    | d :: r => max d.dep (depL r)
  depK : List (Int × D) → Nat
    | [] => 0
    | d :: r => max d.2.dep (depK r)

theorem units_in1 (A : Around) : A.in1.units = A.units + 1 := rfl

theorem rc_dict {A : Around} {s : Shared} {a b : Addr} {oa ob : Obj} {ka kb : List (Int × Value)} (ha : s.heap.get? a = some oa) (hb : s.heap.get? b = some ob) (da : IsDct oa ka) (db : IsDct ob kb) (la : (a == sysModules) = false) (lb : (b == sysModules) = false) (hl : ka.length = kb.length) (hu : A.units < cLine)
    (hits : KeqHits A.in1 s kb ka true) : SeqAt.RcAt A s (.ref a) (.ref b) true := fun prog w E Q h => by
  refine keq_eq (knd := intKind prog w) la lb (Heap.dictOf_iff.mpr ⟨oa, ha, da.h prog w⟩) (Heap.dictOf_iff.mpr ⟨ob, hb, db.h prog w⟩) hu (fun _ => hits) ?_
  rw [hl, beq_self_eq_true, Bool.true_and]; exact h

theorem eqAt_refs {A : Around} {s : Shared} {a b : Addr} (h : SeqAt.RcAt A s (.ref a) (.ref b) true) : SeqAt.EqAt A s (.ref a) (.ref b) true := by
  by_cases e : a = b
  · subst e; exact .same _
  · exact .of_refs e h
theorem all_true (n : Nat) : (List.range n).all (fun _ => true) = true := by simp

def EqR (B : FM) (s : Shared) (u : Value) (d : D) : Prop := ∀ (v : Value) (A : Around), Rep B v d → A.units + d.dep < cLine → SeqAt.EqAt A s u v true
def EqS (B : FM) (s : Shared) (us : List Value) (ds : List D) : Prop := ∀ (vs : List Value) (A : Around), Reps B vs ds → A.units + D.dep.depL ds < cLine → ∀ j (h1 : j < us.toArray.size) (h2 : j < vs.toArray.size), SeqAt.EqAt A s us.toArray[j] vs.toArray[j] true
def EqK (B : FM) (s : Shared) (us : List (Int × Value)) (ds : List (Int × D)) : Prop := ∀ (vs : List (Int × Value)) (A : Around), RepK B vs ds → A.units + D.dep.depK ds < cLine → ∀ (pre kb : List (Int × Value)), kb = pre ++ vs → (kb.map (·.1)).Nodup → KeqHits A s kb us true
section
variable {B : FM} {s : Shared}
theorem eq_int (i : Int) (t : Tok) : EqR B s (.int i t) (.int i) := fun v A y _ => by
  obtain ⟨t', rfl⟩ := y.int_inv
  exact fun prog w E Q h => wpAny_eqBool_int (by simpa using h)
theorem eq_str (i : Str) (t : Tok) : EqR B s (.str i t) (.str i) := fun v A y _ => by
  obtain ⟨t', rfl⟩ := y.str_inv
  exact fun prog w E Q h => wpAny_eqBool_str (by simpa using h)
theorem eq_tup (hB : B.inn s.heap) {a : Addr} {vs : List Value} {n : Nat} {ds : List D} (e : B a = some (tupO vs n)) (r : Reps B vs ds) (ih : EqS B s vs ds) : EqR B s (.ref a) (.tup ds) := fun v A y hu => by
  obtain ⟨a', vs', n', rfl, e', r'⟩ := y.tup_inv
  refine eqAt_refs ?_
  unfold D.dep at hu
  have := SeqAt.RcAt.tuples (A := A) (e := fun _ => true) (isTup_of hB e) (isTup_of hB e') (by omega) (ih vs' A.in1 r' (by rw [units_in1]; omega))
  simpa [r.length, r'.length, -List.all_eq_true, all_true] using this
theorem eq_lst' (hB : B.inn s.heap) {a : Addr} {vs : List Value} {n : Nat} {ds : List D} (e : B a = some (lstO vs n)) (r : Reps B vs ds) (ih : EqS B s vs ds) : EqR B s (.ref a) (.lst ds) := fun v A y hu => by
  obtain ⟨a', vs', n', rfl, e', r'⟩ := y.lst_inv
  refine eqAt_refs ?_
  unfold D.dep at hu
  have := SeqAt.RcAt.lists (A := A) (e := fun _ => true) (isList_of hB e) (isList_of hB e') (by simp [r.length, r'.length]) (by omega) (ih vs' A.in1 r' (by rw [units_in1]; omega))
  simpa [r.length, r'.length, -List.all_eq_true, all_true] using this
theorem eq_dct (hB : B.inn s.heap) {a : Addr} {o : Obj} {kvs : List (Int × Value)} {ds : List (Int × D)} (e : B a = some o) (k : IsDct o kvs) (r : RepK B kvs ds) (n : (a == sysModules) = false) (ih : EqK B s kvs ds) : EqR B s (.ref a) (.dct ds) := fun v A y hu => by
  obtain ⟨a', o', kvs', rfl, e', k', r', n'⟩ := y.dct_inv
  unfold D.dep at hu
  exact eqAt_refs (rc_dict (hB _ _ e) (hB _ _ e') k k' n n' (by rw [r.length, r'.length]) (by omega) (ih kvs' A.in1 r' (by rw [units_in1]; omega) [] _ rfl k'.nd))
theorem eq_nil : EqS B s [] [] := fun vs A y _ j h1 _ => absurd h1 (Nat.not_lt_zero j)
theorem eq_cons {v : Value} {vs : List Value} {d : D} {ds : List D} (i1 : EqR B s v d) (i2 : EqS B s vs ds) : EqS B s (v :: vs) (d :: ds) := fun us A y hu j h1 h2 => by
  obtain ⟨u, r, rfl, a, b⟩ := y.cons_inv
  unfold D.dep.depL at hu
  cases j with
  | zero => exact i1 u A a (by omega)
  | succ j => exact i2 r A b (by omega) j (by simpa using h1) (by simpa using h2)
theorem eq_knil : EqK B s [] [] := fun vs A y _ pre kb _ _ => .nil
theorem eq_kcons {k : Int} {v : Value} {kvs : List (Int × Value)} {d : D} {kds : List (Int × D)} (i1 : EqR B s v d) (i2 : EqK B s kvs kds) : EqK B s ((k, v) :: kvs) ((k, d) :: kds) := fun us A y hu pre kb e nd => by
  obtain ⟨u, r, rfl, a, b⟩ := y.cons_inv
  unfold D.dep.depK at hu
  have hv : valueAt kb k = some u := valueAt_of_get nd (i := pre.length) (by rw [e]; simp)
  exact KeqHits.hit hv (i1 u A a (by dsimp only at hu; omega)) (i2 r A b (by omega) (pre ++ [(k, u)]) kb (by rw [e]; simp) nd)
theorem eq_rep (hB : B.inn s.heap) {u v : Value} {d : D} {A : Around} (x : Rep B u d) (y : Rep B v d) (hu : A.units + d.dep < cLine) : SeqAt.EqAt A s u v true :=
  Rep.rec (motive_1 := fun u d _ => EqR B s u d) (motive_2 := fun u d _ => EqS B s u d) (motive_3 := fun u d _ => EqK B s u d) eq_int eq_str (eq_tup hB) (eq_lst' hB) (fun e k r n ih => eq_dct hB e k r n ih) eq_nil (fun _ _ i1 i2 => eq_cons i1 i2) eq_knil (fun _ _ i1 i2 => eq_kcons i1 i2) x v A y hu
theorem eqs_rep (hB : B.inn s.heap) {us vs : List Value} {ds : List D} {A : Around} (x : Reps B us ds) (y : Reps B vs ds) (hu : A.units + D.dep.depL ds < cLine) : ∀ j (h1 : j < us.toArray.size) (h2 : j < vs.toArray.size), SeqAt.EqAt A s us.toArray[j] vs.toArray[j] true :=
  x.ind (P := fun us ds => EqS B s us ds) eq_nil (fun _ _ _ _ a _ ih => eq_cons (fun v A y hu => eq_rep hB a y hu) ih) vs A y hu
end
end Mine
end
section
open PySem PySem.W PyProof.Rows
set_option Elab.async false
set_option maxRecDepth 100000
set_option linter.unusedVariables false
namespace Mine
section
variable {w : World} {P : Params} {f g : Bool} {s₀ s : Shared} {B₀ B : FM} {mu : MU} {A : Around} {E : Value → Shared → Prop} {env : Env} {Q : Value → Shared → Prop}

/-- a method of a built-in type is called -/
theorem ev_meth {o : Expr} {name : Str} {apos pos : Pos} {args : List Expr} (T id : String)
    (h : wpAny (model prg w) A (eval o env) (fun ov s₁ => (∃ a ob, ov = .ref a ∧ s₁.heap.get? a = some ob ∧ ob.cls = .type T ∧ ob.dict = none) ∧ evAll A (model prg w) env E args (fun vs s₂ => wpAny (model prg w) A (call (.builtin id) (ov :: vs)) Q E s₂) s₁) E s)
    (pa : PlainAttrs T) (slot : Slot T name id) (ht : typeOf (.builtin id) = pure (.type "method_descriptor")) (hn : noStar args = true)
    (hbase : attributeBase o name env (eval o env) = eval o env := by rfl)
    (hfew : ((backTo pos (starEach args env)).all (fun x => !x.1) && (backToKw pos (keywordEach [] env)).all (fun x => x.1.isSome)
      && decide (args.length + ([] : List Keyword).length + (if ([] : List Keyword).isEmpty then 0 else 1) < 30)) = true := by rfl)
    (hline : (apos.endLine == pos.line) = true := by rfl) : wpAny (model prg w) A (eval (.Call (.Attribute o name apos) args [] pos) env) Q E s := by
  refine wpAny_Call_method_late hbase hfew hline rfl (wpAny_mono h (fun ov s₁ ⟨⟨a, ob, h1, h2, h3, h4⟩, h5⟩ => ?_) fun _ _ x => x)
  subst h1
  refine ⟨T, id, pa, slot, ht, ⟨ob, h2, h3⟩, fun a' e => ⟨ob, by cases e; exact h2, h4⟩, ?_⟩
  refine callWith_of (P := fun h => KeepOk (model prg w) (.builtin id) h) (by rw [any_star hn]; rfl) (fun _ x => x) ?_
  cases args with
  | nil => exact evalArgs_empty ⟨keep_builtin _, h5⟩
  | cons e r =>
    have hs : starEach (e :: r) env = (false, eval e env) :: starEach r env := by cases e <;> first | rfl | cases hn
    have h2 := spliced_all (pos := pos) hn h5
    rw [hs] at h2 ⊢
    exact Calls.evalArgs_plain (wpAny_mono h2 (fun vs s₃ h₃ => ⟨keep_builtin _, h₃⟩) fun _ _ x => x)

/-- list.append as a method -/
theorem meth_append {x : Str} {px apos pos : Pos} {e : Expr} (i : Nat) {D : Addr} {ys : List Value}
    (h : wpAny (model prg w) A (eval (.Name x px) env) (fun ov s₁ => ov = .ref D ∧ (∃ ob, s₁.heap.get? D = some ob ∧ LstP ys ob) ∧ wpAny (model prg w) A (eval e env) (fun v s₂ =>
      ∃ P f g s₀ B₀ B mu, Cx P f g s₀ B₀ B mu s₂.heap s₂.gens s₂.os ∧ mu[i]? = some (D, LstP ys) ∧ ys.length ≤ 1000 ∧ ∀ h', Cx P f g s₀ B₀ B (mu.set i (D, LstP (ys ++ [v]))) h' s₂.gens s₂.os → Q .none { s₂ with heap := h' }) E s₁) E s)
    (hn : noStar [e] = true := by rfl) 
    (hfew : ((backTo pos (starEach [e] env)).all (fun x => !x.1) && (backToKw pos (keywordEach [] env)).all (fun x => x.1.isSome)
      && decide ([e].length + ([] : List Keyword).length + (if ([] : List Keyword).isEmpty then 0 else 1) < 30)) = true := by rfl)
    (hline : (apos.endLine == pos.line) = true := by rfl) : wpAny (model prg w) A (eval (.Call (.Attribute (.Name x px) "append" apos) [e] [] pos) env) Q E s := by
  refine ev_meth "list" "list.append" (wpAny_mono h (fun ov s₁ ⟨h1, ⟨ob, h2, h3⟩, h4⟩ => ⟨⟨D, ob, h1, h2, by obtain ⟨n, rfl⟩ := h3.h; rfl, by obtain ⟨n, rfl⟩ := h3.h; rfl⟩, wpAny_mono h4 (fun v s₂ h₂ => ?_) fun _ _ x => x⟩) fun _ _ x => x) F.plainAttrs_list slot_list_append type_list_append hn rfl hfew hline
  obtain ⟨P, f, g, s₀, B₀, B, mu, cx, hi, hl, k⟩ := h₂
  subst h1
  exact append_cx i cx hi hl k

theorem add_tup {t b : Addr} {vs us : List Value} {n m : Nat} (cx : Cx P f g s₀ B₀ B mu s.heap s.gens s.os) (ht : B t = some (tupO vs n)) (hb : B b = some (tupO us m)) (hv : vs ≠ []) (hu : us ≠ []) (hsz : vs.length + us.length ≤ 1000)
    (k : ∀ c h' B', B.le B' → B' c = some (tupO (vs ++ us) 0) → Cx P f g s₀ B₀ B' mu h' s.gens s.os → Q (.ref c) { s with heap := h' }) : wpAny (model prg w) A (binaryOp .Add (.ref t) (.ref b)) Q E s := by
  have ho := cx.sit.inB _ _ ht
  have ho2 := cx.sit.inB _ _ hb
  refine concat_meets ⟨_, ho, rfl⟩ ⟨_, ho2, rfl⟩ noFill_tuple_add seq_tuple_add PySem.F.slot_tuple_add PySem.F.entry_tuple_add (PySem.F.args_tuple_add_2 _ _)
    (tuple_addW2 t b vs.toArray us.toArray n m none none #[] #[] (by simpa using hv) (by simpa using hu) (by rw [sizeLine_eq, List.size_toArray, List.size_toArray]; omega)) ⟨ho, ho2, ?_⟩
  have e : vs.toArray ++ us.toArray = (vs ++ us).toArray := by simp
  rw [e]
  exact k _ _ _ (FM.le_put (cx.sit.none_of (get_size _))) (FM.put_self ..) (cx.pushB _)
theorem add_lst {t b : Addr} {vs us : List Value} {n m : Nat} (cx : Cx P f g s₀ B₀ B mu s.heap s.gens s.os) (ht : B t = some (lstO vs n)) (hb : B b = some (lstO us m)) (hsz : vs.length + us.length ≤ 1000)
    (k : ∀ c h' B', B.le B' → B' c = some (lstO (vs ++ us) 0) → Cx P f g s₀ B₀ B' mu h' s.gens s.os → Q (.ref c) { s with heap := h' }) : wpAny (model prg w) A (binaryOp .Add (.ref t) (.ref b)) Q E s := by
  have ho := cx.sit.inB _ _ ht
  have ho2 := cx.sit.inB _ _ hb
  refine concat_meets ⟨_, ho, rfl⟩ ⟨_, ho2, rfl⟩ noFill_list_add seq_list_add PySem.F.slot_list_add PySem.F.entry_list_add (PySem.F.args_list_add_2 _ _)
    (list_addW t b vs.toArray us.toArray n m none none #[] #[] (by rw [sizeLine_eq, List.size_toArray, List.size_toArray]; omega)) ⟨ho, ho2, ?_⟩
  have e : vs.toArray ++ us.toArray = (vs ++ us).toArray := by simp
  rw [e]
  exact k _ _ _ (FM.le_put (cx.sit.none_of (get_size _))) (FM.put_self ..) (cx.pushB _)

theorem k1_1 (P : Params) : (K1 P).lookup 1 = some (k1o P 1) := by kernel_rfl
theorem Cx.not1 (cx : Cx P f g s₀ B₀ B mu s.heap s.gens s.os) {a : Addr} (h : B a = none) : (a == sysModules) = false := by
  have h1 := cx.sit.stat 1 _ (k1_1 P) (notTab rfl)
  cases q : a == sysModules with
  | false => rfl
  | true =>
    have : a = 1 := by simpa [sysModules] using q
    rw [this, h1] at h; cases h

structure DctP (kvs : List (Int × Value)) (o : Obj) : Prop where
  h : IsDct o kvs
/-- a dict of one int key is written down -/
theorem ev_dict1 {ke ve : Expr} {pos : Pos} (cx : Cx P f g s₀ B₀ B mu s.heap s.gens s.os)
    (h : ∀ a h', Cx P f g s₀ B₀ B ((a, DctP []) :: mu) h' s.gens s.os → wpAny (model prg w) A (eval ke env) (fun kv s₁ => wpAny (model prg w) A (eval ve env) (fun v s₂ => ∃ k t B', kv = .int k t ∧ B.le B' ∧ Cx P f g s₀ B₀ B' ((a, DctP []) :: mu) s₂.heap s₂.gens s₂.os ∧
      ∀ h' tk o B'', IsDct o [(k, v)] → B'.le B'' → B'' a = some o → (a == sysModules) = false → Cx P f g s₀ B₀ B'' mu h' s₂.gens s₂.os → Q (.ref a) { s₂ with heap := h', toks := tk }) E s₁) E { s with heap := h' })
     : wpAny (model prg w) A (eval (.Dict [some ke] [ve] pos) env) Q E s := by
  have hd0 : IsDct { cls := .type "dict", data := .dict #[] } [] := ⟨by simp, fun p w => ⟨#[], 0, ⟨rfl, rfl, rfl⟩, rfl, fun e he => by simp at he, .nil, by simp⟩⟩
  have c1 : Cx P f g s₀ B₀ B ((s.heap.objs.size, DctP []) :: mu) (s.heap.push { cls := .type "dict", data := .dict #[] }) s.gens s.os := cx.pushMu (p := DctP []) ⟨hd0⟩
  refine wpAny_Dict_pairs (knd := intKind prg w) (pairs := [(eval ke env, do let x ← eval ve env; standAt pos; pure x)]) rfl (by simp) (by simp) ?_
  have h1 := h _ _ c1
  have n1 : (s.heap.objs.size == sysModules) = false := cx.not1 (cx.sit.none_of (get_size _))
  generalize s.heap.objs.size = a at *
  refine evalPairs_cons (wpAny_mono h1 (fun kv s₁ h₁ => ?_) fun _ _ x => x)
  refine wpAny_bind (wpAny_mono h₁ (fun v s₂ h₂ => wpAny_bind (wpAny_standAt (wpAny_pure ?_))) fun _ _ x => x)
  obtain ⟨k, t, B', rfl, hle, c2, fin⟩ := h₂
  refine evalPairs_nil ⟨[(k, v)], ⟨intKind_is .., rfl, trivial⟩, ?_, fun h' hd hs => ?_⟩
  · obtain ⟨o, ho, ⟨hq⟩⟩ := c2.mus _ (List.Mem.head _)
    exact Heap.dictOf_iff.mpr ⟨o, ho, hq.h _ _⟩
  · obtain ⟨o, ho, hq⟩ := Heap.dictOf_iff.mp hd
    have c3 := c2.updHead (p' := EqP o) hs ⟨o, ho, ⟨rfl⟩⟩
    obtain ⟨o', ⟨rfl⟩, _, hB, c4⟩ := c3.freeze
    refine fin h' _ o' _ (IsDct.of (p := prg) (w := w) ?_) (FM.le_put hB) (FM.put_self ..) n1 c4
    simpa [merged, stored] using hq
end
end Mine
end
section
open PySem PySem.W PyProof.Rows
set_option Elab.async false
set_option maxRecDepth 100000
set_option linter.unusedVariables false
namespace Mine
/-! the rules once more, over a state in its parts: the terms stay small -/
section
variable {w : World} {P : Params} {f g : Bool} {s₀ : Shared} {B₀ B : FM} {mu : MU} {A : Around} {E : Value → Shared → Prop} {env : Env} {Q : Value → Shared → Prop} {h : Heap} {gs : Array GenState} {dr : Drawn} {t₀ : Tok} {os : OsState}
theorem eI {i : Int} {k : Nat} {pos : Pos} (q : ∀ t tk, Q (.int i t) ⟨h, gs, dr, tk, os⟩) : wpAny (model prg w) A (eval (.Constant (.int i) k pos) env) Q E ⟨h, gs, dr, t₀, os⟩ := ev_int q
theorem eS {x : Str} {k : Nat} {pos : Pos} (q : ∀ t tk, Q (.str x t) ⟨h, gs, dr, tk, os⟩) : wpAny (model prg w) A (eval (.Constant (.str x) k pos) env) Q E ⟨h, gs, dr, t₀, os⟩ := ev_str q
theorem addI {a b : Int} {t u : Tok} (q : ∀ t tk, Q (.int (a + b) t) ⟨h, gs, dr, tk, os⟩) : wpAny (model prg w) A (binaryOp .Add (.int a t) (.int b u)) Q E ⟨h, gs, dr, t₀, os⟩ := PySem.P.add_int (q _ _)
theorem subI {a b : Int} {t u : Tok} (q : ∀ t tk, Q (.int (a - b) t) ⟨h, gs, dr, tk, os⟩) : wpAny (model prg w) A (binaryOp .Sub (.int a t) (.int b u)) Q E ⟨h, gs, dr, t₀, os⟩ := PySem.P.sub_int (q _ _)
/-- an int constant with a minus -/
theorem eNeg {i : Int} {k : Nat} {p1 pos : Pos} (q : ∀ t tk, Q (.int (-i) t) ⟨h, gs, dr, tk, os⟩) : wpAny (model prg w) A (eval (.UnaryOp .USub (.Constant (.int i) k p1) pos) env) Q E ⟨h, gs, dr, t₀, os⟩ :=
  wpAny_UnaryOp (eI fun t tk => PySem.P.neg_int (q _ _))
theorem fmI {a b : Int} {t u : Tok} (hb : b ≠ 0) (q : ∀ t tk, Q (.int (a.fmod b) t) ⟨h, gs, dr, tk, os⟩) : wpAny (model prg w) A (binaryOp .Mod (.int a t) (.int b u)) Q E ⟨h, gs, dr, t₀, os⟩ := mod_int' hb (q _ _)
/-- e % b -/
theorem eFm {e : Expr} {b : Int} {k : Nat} {p1 p2 : Pos} {N : Int} (hx : ∀ Q' : Value → Shared → Prop, (∀ t tk, Q' (.int N t) ⟨h, gs, dr, tk, os⟩) → wpAny (model prg w) A (eval e env) Q' E ⟨h, gs, dr, t₀, os⟩) (hb : b ≠ 0)
    (q : ∀ t tk, Q (.int (N.fmod b) t) ⟨h, gs, dr, tk, os⟩) : wpAny (model prg w) A (eval (.BinOp e .Mod (.Constant (.int b) k p1) p2) env) Q E ⟨h, gs, dr, t₀, os⟩ :=
  wpAny_BinOp (hx _ fun t tk => eI fun t1 tk1 => fmI hb q)
/-- e // a -/
theorem eFd {e : Expr} {b : Int} {k : Nat} {p1 p2 : Pos} {N : Int} (hx : ∀ Q' : Value → Shared → Prop, (∀ t tk, Q' (.int N t) ⟨h, gs, dr, tk, os⟩) → wpAny (model prg w) A (eval e env) Q' E ⟨h, gs, dr, t₀, os⟩) (hb : b ≠ 0) (hs : b.natAbs.log2 < 9000)
    (q : ∀ t tk, Q (.int (N.fdiv b) t) ⟨h, gs, dr, tk, os⟩) : wpAny (model prg w) A (eval (.BinOp e .FloorDiv (.Constant (.int b) k p1) p2) env) Q E ⟨h, gs, dr, t₀, os⟩ :=
  wpAny_BinOp (hx _ fun t tk => eI fun t1 tk1 => floordiv_int hb (q _ _) (.inl (PyProof.noPylong_of_log2 hs)))
/-- e // a % b -/
theorem eFdm {e : Expr} {a b : Int} {k1 k2 : Nat} {p1 p2 p3 p4 : Pos} {N : Int} (hx : ∀ Q' : Value → Shared → Prop, (∀ t tk, Q' (.int N t) ⟨h, gs, dr, tk, os⟩) → wpAny (model prg w) A (eval e env) Q' E ⟨h, gs, dr, t₀, os⟩) (ha : a ≠ 0) (hs : a.natAbs.log2 < 9000) (hb : b ≠ 0)
    (q : ∀ t tk, Q (.int ((N.fdiv a).fmod b) t) ⟨h, gs, dr, tk, os⟩) : wpAny (model prg w) A (eval (.BinOp (.BinOp e .FloorDiv (.Constant (.int a) k1 p1) p2) .Mod (.Constant (.int b) k2 p3) p4) env) Q E ⟨h, gs, dr, t₀, os⟩ :=
  eFm (fun Q' q' => eFd hx ha hs q') hb q
/-- an int is read from a local name -/
theorem lI {l : List (Str × Value)} {x : Str} {pos : Pos} {N : Int} {tn : Tok} (cx : Cx P f g s₀ B₀ B mu h gs os) (hm : (env.locals, NsP l) ∈ mu) (hv : l.lookup x = some (.int N tn))
    (hk : env.scope.kind = .function := by rfl) (hl : env.kindOf x = some .local := by rfl) (hd : (x == ("__debug__" : Str)) = false := by decide) (Q' : Value → Shared → Prop) (q : ∀ t tk, Q' (.int N t) ⟨h, gs, dr, tk, os⟩) :
    wpAny (model prg w) A (eval (.Name x pos) env) Q' E ⟨h, gs, dr, t₀, os⟩ := ld_local (s := ⟨h, gs, dr, t₀, os⟩) cx hm hv (q _ _) hk hl hd
theorem stL {l : List (Str × Value)} {x : Str} {v : Value} {Q : Unit → Shared → Prop} (cx : Cx P f g s₀ B₀ B ((env.locals, NsP l) :: mu) h gs os) (hl : env.kindOf x = some .local)
    (k : ∀ h' tk, Cx P f g s₀ B₀ B ((env.locals, NsP (putA x v l)) :: mu) h' gs os → Q () ⟨h', gs, dr, tk, os⟩)
    (hk : (env.scope.kind == .class || (env.scope.kind == .module && env.locals != env.globals)) = false := by rfl) : wpAny (model prg w) A (storeName env x v) Q E ⟨h, gs, dr, t₀, os⟩ := st_local (s := ⟨h, gs, dr, t₀, os⟩) cx hl k hk
theorem stC {x : Str} {v : Value} {v₀ : Option Value} {c : Addr} {Q : Unit → Shared → Prop} (i : Nat) (cx : Cx P f g s₀ B₀ B mu h gs os) (hl : env.kindOf x = some .cell) (hc : env.cells.lookup x = some c) (hi : mu[i]? = some (c, CellP v₀))
    (k : ∀ h', Cx P f g s₀ B₀ B (mu.set i (c, CellP (some v))) h' gs os → Q () ⟨h', gs, dr, t₀, os⟩) (hk : env.scope.kind = .function := by rfl) : wpAny (model prg w) A (storeName env x v) Q E ⟨h, gs, dr, t₀, os⟩ := st_cell (s := ⟨h, gs, dr, t₀, os⟩) i cx hl hc hi k hk
theorem nTup {vs : List Value} (cx : Cx P f g s₀ B₀ B mu h gs os) (hsz : vs.length ≤ 1000)
    (k : ∀ a h' B', B.le B' → B' a = some (tupO vs 0) → Cx P f g s₀ B₀ B' mu h' gs os → Q (.ref a) ⟨h', gs, dr, t₀, os⟩) : wpAny (model prg w) A (newTuple vs) Q E ⟨h, gs, dr, t₀, os⟩ := newTup_cx (s := ⟨h, gs, dr, t₀, os⟩) cx hsz k
theorem nLst {vs : List Value} (cx : Cx P f g s₀ B₀ B mu h gs os) (hsz : vs.length ≤ 1000)
    (k : ∀ a h' B', B.le B' → B' a = some (lstO vs 0) → Cx P f g s₀ B₀ B' mu h' gs os → Q (.ref a) ⟨h', gs, dr, t₀, os⟩) : wpAny (model prg w) A (newList vs) Q E ⟨h, gs, dr, t₀, os⟩ := newLst_cx (s := ⟨h, gs, dr, t₀, os⟩) cx hsz k
theorem nMu {vs : List Value} (cx : Cx P f g s₀ B₀ B mu h gs os) (hsz : vs.length ≤ 1000)
    (k : ∀ a h', Cx P f g s₀ B₀ B ((a, LstP vs) :: mu) h' gs os → Q (.ref a) ⟨h', gs, dr, t₀, os⟩) : wpAny (model prg w) A (newList vs) Q E ⟨h, gs, dr, t₀, os⟩ := newLstMu_cx (s := ⟨h, gs, dr, t₀, os⟩) cx hsz k
theorem addT {t b : Addr} {vs us : List Value} {n m : Nat} (cx : Cx P f g s₀ B₀ B mu h gs os) (ht : B t = some (tupO vs n)) (hb : B b = some (tupO us m)) (hv : vs ≠ []) (hu : us ≠ []) (hsz : vs.length + us.length ≤ 1000)
    (k : ∀ c h' B', B.le B' → B' c = some (tupO (vs ++ us) 0) → Cx P f g s₀ B₀ B' mu h' gs os → Q (.ref c) ⟨h', gs, dr, t₀, os⟩) : wpAny (model prg w) A (binaryOp .Add (.ref t) (.ref b)) Q E ⟨h, gs, dr, t₀, os⟩ := add_tup (s := ⟨h, gs, dr, t₀, os⟩) cx ht hb hv hu hsz k
/-- x.append(e), the list in a local name's or a cell's place i -/
inductive AppQ (i : Nat) (D : Addr) (ys : List Value) (Q : Value → Shared → Prop) (v : Value) : Shared → Prop
  | mk {P : Params} {f g : Bool} {s₀ : Shared} {B₀ B : FM} {mu : MU} {h : Heap} {gs : Array GenState} {dr : Drawn} {tk : Tok} {os : OsState} (cx : Cx P f g s₀ B₀ B mu h gs os) (hi : mu[i]? = some (D, LstP ys)) (hl : ys.length ≤ 1000)
      (k : ∀ h', Cx P f g s₀ B₀ B (mu.set i (D, LstP (ys ++ [v]))) h' gs os → Q .none ⟨h', gs, dr, tk, os⟩) : AppQ i D ys Q v ⟨h, gs, dr, tk, os⟩
theorem mApp {x : Str} {px apos pos : Pos} {e : Expr} (i : Nat) {D : Addr} {ys : List Value} {s : Shared} (hx : ∀ Q' : Value → Shared → Prop, Q' (.ref D) s → wpAny (model prg w) A (eval (.Name x px) env) Q' E s) (hD : ∃ ob, s.heap.get? D = some ob ∧ LstP ys ob)
    (q : wpAny (model prg w) A (eval e env) (AppQ i D ys Q) E s)
    (hn : noStar [e] = true := by rfl)
    (hfew : ((backTo pos (starEach [e] env)).all (fun x => !x.1) && (backToKw pos (keywordEach [] env)).all (fun x => x.1.isSome)
      && decide ([e].length + ([] : List Keyword).length + (if ([] : List Keyword).isEmpty then 0 else 1) < 30)) = true := by rfl)
    (hline : (apos.endLine == pos.line) = true := by rfl) : wpAny (model prg w) A (eval (.Call (.Attribute (.Name x px) "append" apos) [e] [] pos) env) Q E s :=
  meth_append i (D := D) (ys := ys) (hx _ ⟨rfl, hD, wpAny_mono q (fun v s₂ h₂ => by
    cases h₂ with
    | mk cx hi hl k => exact ⟨_, _, _, _, _, _, _, cx, hi, hl, k⟩) fun _ _ x => x⟩) hn hfew hline
/-- a dict of one int key is written down -/
inductive DctQ (P : Params) (f g : Bool) (s₀ : Shared) (B₀ B : FM) (mu : MU) (a : Addr) (Q : Value → Shared → Prop) (kv v : Value) : Shared → Prop
  | mk {B' : FM} {h : Heap} {gs : Array GenState} {dr : Drawn} {tk : Tok} {os : OsState} (k : Int) (t : Tok) (e : kv = .int k t) (hle : B.le B') (cx : Cx P f g s₀ B₀ B' ((a, DctP []) :: mu) h gs os)
      (q : ∀ h' tk o B'', IsDct o [(k, v)] → B'.le B'' → B'' a = some o → (a == sysModules) = false → Cx P f g s₀ B₀ B'' mu h' gs os → Q (.ref a) ⟨h', gs, dr, tk, os⟩) : DctQ P f g s₀ B₀ B mu a Q kv v ⟨h, gs, dr, tk, os⟩
theorem dct1 {ke ve : Expr} {pos : Pos} (cx : Cx P f g s₀ B₀ B mu h gs os)
    (q : ∀ a h', Cx P f g s₀ B₀ B ((a, DctP []) :: mu) h' gs os → wpAny (model prg w) A (eval ke env) (fun kv s₁ => wpAny (model prg w) A (eval ve env) (DctQ P f g s₀ B₀ B mu a Q kv) E s₁) E ⟨h', gs, dr, t₀, os⟩) :
    wpAny (model prg w) A (eval (.Dict [some ke] [ve] pos) env) Q E ⟨h, gs, dr, t₀, os⟩ :=
  ev_dict1 (s := ⟨h, gs, dr, t₀, os⟩) cx fun a h' cx' => wpAny_mono (q a h' cx') (fun kv s₁ h₁ => wpAny_mono h₁ (fun v s₂ h₂ => by
    cases h₂ with
    | mk k t e hle cx q => exact ⟨k, t, _, e, hle, cx, q⟩) fun _ _ x => x) fun _ _ x => x
theorem lenL {a : Addr} {vs : List Value} (hl : h.IsList a vs.toArray) (hz : vs.length ≤ 1000) (q : ∀ t tk, Q (.int vs.length t) ⟨h, gs, dr, tk, os⟩) : wpAny (model prg w) A (call (.builtin "len") [.ref a]) Q E ⟨h, gs, dr, t₀, os⟩ := call_len_lst (s := ⟨h, gs, dr, t₀, os⟩) hl hz q
theorem sumL {a : Addr} {vs : List Value} {ns : List Int} (cx : Cx P f g s₀ B₀ B mu h gs os) (hh : A.handled = none) (hl : h.IsList a vs.toArray) (hi : IntsAre vs ns)
    (k : ∀ t h' tk, Cx P f g s₀ B₀ B mu h' gs os → Q (.int ns.sum t) ⟨h', gs, dr, tk, os⟩) : wpAny (model prg w) A (call (.builtin "sum") [.ref a]) Q E ⟨h, gs, dr, t₀, os⟩ := call_sum_lst (s := ⟨h, gs, dr, t₀, os⟩) cx hh hl hi k
theorem itL {a : Addr} {vs : List Value} {n : Nat} (cx : Cx P f g s₀ B₀ B mu h gs os) (hh : A.handled = none) (hB : B a = some (lstO vs n))
    (k : ∀ I st h', Src w A B I vs.length (fun i v => vs[i]? = some v) st → Cx P f g s₀ B₀ B ((I, st 0) :: mu) h' gs os → Q (.ref I) ⟨h', gs, dr, t₀, os⟩) : wpAny (model prg w) A (pyIter (.ref a)) Q E ⟨h, gs, dr, t₀, os⟩ := iter_list (s := ⟨h, gs, dr, t₀, os⟩) cx hh hB k
theorem itR {n : Nat} {t : Tok} (cx : Cx P f g s₀ B₀ B mu h gs os) (hh : A.handled = none) (hn : n ≤ 1000)
    (k : ∀ I st h' tk, Src w A B I n (fun i v => ∃ t, v = .int i t) st → Cx P f g s₀ B₀ B ((I, st 0) :: mu) h' gs os → Q (.ref I) ⟨h', gs, dr, tk, os⟩) :
    wpAny (model prg w) A (call (.type "range") [.int n t]) (fun r s₁ => wpAny (model prg w) A (pyIter r) Q E s₁) E ⟨h, gs, dr, t₀, os⟩ := iter_range (s := ⟨h, gs, dr, t₀, os⟩) cx hh hn k
theorem addL {t b : Addr} {vs us : List Value} {n m : Nat} (cx : Cx P f g s₀ B₀ B mu h gs os) (ht : B t = some (lstO vs n)) (hb : B b = some (lstO us m)) (hsz : vs.length + us.length ≤ 1000)
    (k : ∀ c h' B', B.le B' → B' c = some (lstO (vs ++ us) 0) → Cx P f g s₀ B₀ B' mu h' gs os → Q (.ref c) ⟨h', gs, dr, t₀, os⟩) : wpAny (model prg w) A (binaryOp .Add (.ref t) (.ref b)) Q E ⟨h, gs, dr, t₀, os⟩ := add_lst (s := ⟨h, gs, dr, t₀, os⟩) cx ht hb hsz k
end
end Mine
end
section
open PySem PySem.W PyProof.Rows
set_option Elab.async false
set_option maxRecDepth 100000
set_option linter.unusedVariables false
namespace Mine
def heapsZ (ns ms : List Int) : List Int := (List.range ms.length).map fun (p : Nat) => ms.getD p 0 + (pickNums ns (some p) none (some ms.length)).sum

theorem ints_snoc {n : Int} {t : Tok} : ∀ {vs : List Value} {ns : List Int}, IntsAre vs ns → IntsAre (vs ++ [.int n t]) (ns ++ [n])
  | _, _, .nil => .cons n t .nil
  | _, _, .cons m u r => .cons m u (ints_snoc r)
set_option maxHeartbeats 1000000 in
theorem heaps_spec {w : World} {P : Params} {f g : Bool} {B : FM} {A : Around} {E : Value → Shared → Prop} {s : Shared} {Q : Value → Shared → Prop} {a b : Addr} {vs us : List Value} {n m : Nat} {ns ms : List Int}
    (S : Sit P f g B s.heap s.gens) (hA : AOk 3 A) (ha : B a = some (lstO vs n)) (hi : IntsAre vs ns) (hb : B b = some (lstO us m)) (hj : IntsAre us ms) (hn : ns.length ≤ 63) (hm0 : 0 < ms.length) (hm : ms.length ≤ 63)
    (k : ∀ c ys j s' B', Mv B B' s s' → Sit P f g B' s'.heap s'.gens → B' c = some (lstO ys j) → IntsAre ys (heapsZ ns ms) → Q (.ref c) s') : wpAny (model prg w) A (call (.ref 77) [.ref a, .ref b]) Q E s := by
  refine call_def S hA (def_heaps S.stat) (bind_pure (binds := [("script", .ref a), ("ahead", .ref b)]) (by rfl)) (.cell (i := 1) rfl rfl rfl (.cell (i := 0) rfl rfl rfl .nil)) fun h' tk cx => ?_
  generalize s.heap.objs.size = L at cx ⊢
  have hA1 : AOk 2 (A.deeper (envD (nameAt 9) (scAt 9) [] 77 76 L)) := hA.deeper
  have cx1 : Cx P f g s B B [(L, NsP []), (L + 1 + 1, CellP (some (.ref b))), (L + 1, CellP (some (.ref a)))] h' s.gens s.os := cx
  clear cx
  refine wpAny_execs_cons (wpAny_Return_some ?_)
  refine absQ fun KQ hKQ => ?_
  refine wpAny_comprehension_free (cl := [("script", L + 1), ("ahead", L + 1 + 1)]) rfl (fun _ => rfl) rfl rfl (by decide) ?_
  have eus : us.length = ms.length := hj.length
  show wpAny _ _ (eval _ _) _ _ _
  refine ev_call rfl rfl (ldB cx1.sit (blt_range P) ?_)
  refine ev_call rfl rfl (ldB cx1.sit (blt_len P) ?_)
  refine ld_cell cx1 rfl (by k_mem) ?_
  refine ⟨keep_builtin _, ?_⟩
  refine lenL (isList_of cx1.sit.inB hb) (by omega) fun t tk' => ?_
  refine ⟨keep_type _, ?_⟩
  refine itR cx1 hA1.handled (by omega) fun I st h2 tk2 W cx2 => ?_
  refine comp_name (s := { s with heap := h2, toks := tk2 }) W (by omega) (fun i B' ys => B.le B' ∧ IntsAre ys ((heapsZ ns ms).take i)) (FM.le.refl _) cx2 ⟨FM.le.refl _, by simpa using IntsAre.nil⟩ ?_ ?_
  · intro C D i v B1 ys st' s1 hi1 hv1 hy1 hB1 cx3
    refine absC fun K K0 hK hK0 => ?_
    obtain ⟨t1, rfl⟩ := hv1
    obtain ⟨hle, hys⟩ := hy1
    refine noTests ?_
    have hb1 := hle _ _ hb
    have ha1 := hle _ _ ha
    have hms : i < ms.length := by omega
    obtain ⟨tv, hv⟩ := hj.get i (ms[i]) (List.getElem?_eq_getElem hms)
    refine wpAny_BinOp ?_
    refine subL rfl (ld_cell cx3 rfl (by k_mem) (ld_local cx3 (.head _) rfl ⟨b, us, i, t1, _, rfl, rfl, isList_of cx3.sit.inB hb1, by omega, by omega, by simpa using hv, ?_⟩))
    refine ev_call rfl rfl (ldB cx3.sit (blt_sum P) ?_)
    refine subS (ld_cell cx3 rfl (by k_mem) ?_)
    refine ld_local cx3 (.head _) rfl ?_
    refine wpAny_pure ?_
    refine ev_call rfl rfl (ldB cx3.sit (blt_len P) ?_)
    refine ld_cell cx3 rfl (by k_mem) ?_
    refine ⟨keep_builtin _, lenL (isList_of cx3.sit.inB hb1) (by omega) fun t4 tk4 => ?_⟩
    have evs : vs.length = ns.length := hi.length
    refine ⟨a, vs, _, _, _, rfl, cx3, isList_of cx3.sit.inB ha1, by omega, .int _ _, .none, .int _ _, by intro e; have := Option.some.inj e; omega, fun D2 h5 B2 hle2 hD2 cx5 => ?_⟩
    refine ⟨keep_builtin _, sumL cx5 hA1.handled (isList_of cx5.sit.inB hD2) (hi.pick _ _ _) fun t6 h6 tk6 cx6 => ?_⟩
    refine PySem.P.add_int (hK _ _ ⟨_, ⟨hle.trans hle2, ?_⟩, hle2, cx6⟩)
    have e1 : (heapsZ ns ms).take (i + 1) = (heapsZ ns ms).take i ++ [ms[i] + (pickNums ns (some i) none (some us.length)).sum] := by
      have hl : i < (heapsZ ns ms).length := by unfold heapsZ; simp; omega
      rw [List.take_add_one, List.getElem?_eq_getElem hl]
      unfold heapsZ
      simp [eus, hms]
    rw [e1]
    exact ints_snoc hys
  · rintro D B1 ys m1 s1 ⟨hle, hys⟩ hB1 hD cx3
    have e1 : (heapsZ ns ms).take us.length = heapsZ ns ms := List.take_of_length_le (by unfold heapsZ; simp; omega)
    rw [e1] at hys
    exact hKQ _ _ (k D ys m1 s1 _ cx3.mv cx3.sit (FM.put_self ..) hys)
end Mine
end
section
open PySem PySem.W PyProof.Rows
set_option Elab.async false
set_option maxRecDepth 100000
set_option linter.unusedVariables false
namespace Mine

structure Ent where
  four : List Int
  cs : List (Int × List Int)
structure Row where
  c0 : Int
  c1 : Str
  c2 : List Int
  e : Ent
def fourD (q : List Int) : D := .tup (q.map D.int)
def Ent.d (e : Ent) : D := .tup (e.four.map D.int ++ [.dct (e.cs.map fun p => (p.1, fourD p.2))])
def Row.d (r : Row) : D := .tup [.int r.c0, .str r.c1, .tup (r.c2.map D.int), r.e.d]
def wordZ (i : Int) : Str := if i = 0 then "a" else if i = 1 then "b" else "ab"
def fourZ (p n : Int) : List Int := [1, 1 + n.fmod 5, n, p - n]
def rowZ (p n : Int) : Row := ⟨n.fmod 2, wordZ ((n.fdiv 2).fmod 3), [(n.fdiv 6).fmod 2, (n.fdiv 12).fmod 2], ⟨fourZ p n, [((n + p).fmod 3, fourZ p n)]⟩⟩
def rowsOf (ns : List Int) : List Row := (List.range ns.length).map fun (p : Nat) => rowZ p (ns.getD p 0)
def rowsZ (ns : List Int) : List Row := rowsOf (heapsZ ns [0, 3, 8, 3, 13, 6, 8, 1])

abbrev has (l : List (Str × Value)) (x : Str) (v : Value) : Prop := l.lookup x = some v
local macro_rules | `(tactic| walk_at "mqlk") => `(tactic| first | assumption | exact lk_same _ _ _ | (refine lk_other (by decide) ?_; walk_at "mqlk") | rfl)

section
variable {w : World} {P : Params} {f g : Bool} {s₀ s : Shared} {B₀ B : FM} {mu : MU} {A : Around} {E : Value → Shared → Prop} {env : Env} {Q : Value → Shared → Prop}
/-- enumerate(list) is made and walked -/
theorem iter_enum {a : Addr} {vs : List Value} {n : Nat} (cx : Cx P f g s₀ B₀ B mu s.heap s.gens s.os) (hh : A.handled = none) (hB : B a = some (lstO vs n))
    (k : ∀ I it St Mid we h', WalksT prg w A I [I, it, a] [I, it] vs.length (fun i vals => ∃ t x, vs[i]? = some x ∧ vals = #[.int i t, x]) St Mid → (∀ i h, St i h → ∀ b ∈ [I, it], ∃ o, h.get? b = some o) → we.map (·.1) = [I, it] → St 0 h' → Cx P f g s₀ B₀ B (we ++ mu) h' s.gens s.os → Q (.ref I) { s with heap := h' }) :
    wpAny (model prg w) A (call (.type "enumerate") [.ref a]) (fun r s₁ => wpAny (model prg w) A (pyIter r) Q E s₁) E s := by
  have hl := isList_of cx.sit.inB hB
  refine call_enumerate_list hl fun h' he hit hsz hk => ?_
  refine wpAny_pyIter_enum he ?_
  have hI : B (s.heap.objs.size + 1) = none := cx.sit.none_of (by
    cases q : s.heap.get? (s.heap.objs.size + 1) with
    | none => rfl
    | some o => exact absurd (Heap.lt_size q) (Nat.not_lt.mpr (Nat.le_succ _)))
  have hI2 : B s.heap.objs.size = none := cx.sit.none_of (get_size _)
  have W := WalksT.enumerate (prog := prg) (w := w) (A := A) hh (s.heap.objs.size + 1) s.heap.objs.size a (Nat.succ_ne_self _) (fun e => by rw [e, hI] at hB; cases hB) (fun e => by rw [e, hI2] at hB; cases hB) vs.toArray
  have e1 : vs.toArray.size = vs.length := by simp
  rw [e1] at W
  simp only [List.getElem?_toArray] at W
  obtain ⟨o2, ho2, _⟩ := id hit
  have c1 : Cx P f g s₀ B₀ B ((s.heap.objs.size, EqP o2) :: mu) h' s.gens s.os := cx.newMu (get_size _) hk ho2 ⟨rfl⟩
  have c2 : Cx P f g s₀ B₀ B ((s.heap.objs.size + 1, fun _ => True) :: (s.heap.objs.size, EqP o2) :: mu) h' s.gens s.os := by
    have hn : s.heap.get? (s.heap.objs.size + 1) = none := by
      cases q : s.heap.get? (s.heap.objs.size + 1) with
      | none => rfl
      | some o => exact absurd (Heap.lt_size q) (Nat.not_lt.mpr (Nat.le_succ _))
    refine ⟨c1.sit, c1.ext, c1.le, c1.new, c1.os, c1.tab0, fun q hq => ?_, ?_, fun q hq => ?_⟩
    · rcases List.mem_cons.mp hq with rfl | hq
      · exact ⟨_, he, trivial⟩
      · exact c1.mus q hq
    · rw [List.map_cons]
      refine List.nodup_cons.mpr ⟨fun hm => ?_, c1.nd⟩
      rw [List.map_cons] at hm
      rcases List.mem_cons.mp hm with e | hm
      · exact absurd e (Nat.succ_ne_self _)
      · obtain ⟨q, hq, e⟩ := List.mem_map.mp hm
        obtain ⟨o, e', _⟩ := cx.mus q hq
        have e : q.1 = s.heap.objs.size + 1 := e
        rw [e, hn] at e'; cases e'
    · rcases List.mem_cons.mp hq with rfl | hq
      · exact ⟨cx.old_none hn, hI⟩
      · exact c1.fresh q hq
  refine k _ _ _ _ [(s.heap.objs.size + 1, fun _ => True), (s.heap.objs.size, EqP o2)] h' W (fun i h hst b hb => ?_) rfl ⟨⟨_, he⟩, hit, isList_of c1.sit.inB hB⟩ c2
  obtain ⟨⟨old, h1⟩, ⟨o3, h2, _⟩, _⟩ := hst
  rcases List.mem_cons.mp hb with rfl | hb
  · exact ⟨_, h1⟩
  · rw [List.mem_singleton.mp hb]; exact ⟨_, h2⟩
theorem fdiv_lit {a b : Int} {t u : Tok} (hb : b ≠ 0) (hs : b.natAbs.log2 < 9000) (h : ∀ t tk, Q (.int (a.fdiv b) t) { s with toks := tk }) : wpAny (model prg w) A (binaryOp .FloorDiv (.int a t) (.int b u)) Q E s :=
  floordiv_int hb (h _ _) (.inl (PyProof.noPylong_of_log2 hs))
theorem fmod_lit {a b : Int} {t u : Tok} (hb : b ≠ 0) (h : ∀ t tk, Q (.int (a.fmod b) t) { s with toks := tk }) : wpAny (model prg w) A (binaryOp .Mod (.int a t) (.int b u)) Q E s := mod_int' hb (h _ _)
end

set_option maxHeartbeats 2000000 in
theorem rows_spec {w : World} {P : Params} {f g : Bool} {B : FM} {A : Around} {E : Value → Shared → Prop} {s : Shared} {Q : Value → Shared → Prop} {a : Addr} {vs : List Value} {n : Nat} {ns : List Int}
    (S : Sit P f g B s.heap s.gens) (hA : AOk 5 A) (ha : B a = some (lstO vs n)) (hi : IntsAre vs ns) (hn : ns.length ≤ 63)
    (k : ∀ c ys j s' B', Mv B B' s s' → Sit P f g B' s'.heap s'.gens → B' c = some (lstO ys j) → Reps B' ys ((rowsZ ns).map Row.d) → Q (.ref c) s') : wpAny (model prg w) A (call (.ref 84) [.ref a]) Q E s := by
  refine call_def S hA (def_rows S.stat) (bind_pure (binds := [("script", .ref a)]) (by rfl)) (.loc rfl .nil) fun h' tk cx => ?_
  generalize s.heap.objs.size = L at cx ⊢
  have hA1 : AOk 4 (A.deeper (envD (nameAt 10) (scAt 10) [] 84 83 L)) := hA.deeper
  have cx1 : Cx P f g s B B [(L, NsP [("script", .ref a)])] h' s.gens s.os := cx
  clear cx
  refine wpAny_execs_cons (wpAny_Assign_Name ?_)
  refine ev_list rfl (nMu cx1 (by simp) fun D h1 cx2 => ?_)
  refine stL (cx2.perm (List.Perm.swap ..)) rfl fun h2 tk2 cx3 => ?_
  refine wpAny_execs_cons (wpAny_For ?_)
  refine ev_call rfl rfl (ldB cx3.sit (blt_enumerate P) ?_)
  refine ev_call rfl rfl (ldG cx3.sit (glob_heaps P) ?_)
  refine ld_local cx3 (.head _) rfl ?_
  refine ev_list rfl ?_
  iterate 8 refine eI fun t tk => ?_
  refine nLst cx3 (by simp) fun b h3 B1 hle1 hb cx4 => ?_
  refine ⟨keep_fn (cx4.sit.at (a := 77) (o := k1o P 77) (by kernel_rfl) (notTab rfl)) (fd := fdOf P 77) (by kernel_rfl), ?_⟩
  refine heaps_spec cx4.sit (hA1.less (by omega)) (hle1 _ _ ha) hi hb (.cons 0 _ (.cons 3 _ (.cons 8 _ (.cons 3 _ (.cons 13 _ (.cons 6 _ (.cons 8 _ (.cons 1 _ .nil)))))))) hn (by simp) (by simp) fun c ys j s5 B5 mv5 sit5 hc hys => ?_
  have cx5 := cx4.call mv5 sit5
  refine ⟨keep_type _, ?_⟩
  refine iter_enum cx5 hA1.handled hc fun I it St Mid we h6 W hex hwe hst cx6 => ?_
  have hlen : ys.length = 8 := by rw [hys.length]; rfl
  refine for_pair (s := { s5 with heap := h6 }) W (B₁ := B5) (fun b' hb' => ?_) hex (fun i B' mu => B5.le B' ∧ ∃ l zs, mu = [(L, NsP l), (D, LstP zs)] ∧ has l "rows" (.ref D) ∧ Reps B' zs (((rowsZ ns).take i).map Row.d))
    (fun i B' B'' mu ⟨h1, l, zs, h2, h3, h4⟩ hle => ⟨h1.trans hle, l, zs, h2, h3, h4.le hle⟩) (FM.le.refl _) we hwe cx6 hst ⟨FM.le.refl _, _, _, rfl, by rfl, by simpa using Reps.nil⟩ ?_ ?_
  · rcases List.mem_cons.mp hb' with rfl | hb'
    · exact .inl (.head _)
    · rcases List.mem_cons.mp hb' with rfl | hb'
      · exact .inl (.tail _ (.head _))
      · rw [List.mem_singleton.mp hb']; exact .inr ⟨_, hc⟩
  · intro i T vals m oT B7 mu ws s7 hi7 hv1 hy1 hB7 hT hTc hTd cx7
    refine absF fun K hK => ?_
    obtain ⟨t, x, hx, rfl⟩ := hv1
    obtain ⟨hle7, l, zs, rfl, hl, hzs⟩ := hy1
    obtain ⟨N, hN⟩ : ∃ N, (heapsZ ns [0, 3, 8, 3, 13, 6, 8, 1])[i]? = some N := ⟨_, List.getElem?_eq_getElem (by rw [← hys.length]; exact hi7)⟩
    obtain ⟨tn, hnum⟩ := hys.get i N hN
    rw [hx] at hnum
    cases hnum
    have cx8 : Cx P f g s B B7 ((L, NsP l) :: (D, LstP zs) :: eqs ws) s7.heap s7.gens s7.os := cx7.perm List.perm_append_comm
    refine assign_pair cx8 hA1.handled hT hTc hTd rfl rfl rfl fun h9 tk9 cx9 => ?_
    refine wpAny_execs_cons (wpAny_Assign_Name (absQ fun KQ1 hQ1 => ?_))
    refine subL rfl (ev_list rfl (eS fun t1 k1 => eS fun t2 k2 => eS fun t3 k3 => nLst cx9 (by simp) fun W10 h10 B10 hle10 hW10 cx10 => ?_))
    refine eFdm (lI cx10 (.head _) (by walk_at "mqlk")) (by decide) (by decide) (by decide) fun t7 k7 => ?_
    have hk3 : 0 ≤ (N.fdiv 2).fmod 3 ∧ (N.fdiv 2).fmod 3 < 3 := ⟨Int.fmod_nonneg_of_pos _ (by decide), Int.fmod_lt_of_pos _ (by decide)⟩
    obtain ⟨x, hx1, hx2⟩ : ∃ x t, [Value.str "a" t1, Value.str "b" t2, Value.str "ab" t3][((N.fdiv 2).fmod 3).toNat]? = some x ∧ x = .str (wordZ ((N.fdiv 2).fmod 3)) t := by
      generalize (N.fdiv 2).fmod 3 = z at hk3
      obtain rfl | rfl | rfl : z = 0 ∨ z = 1 ∨ z = 2 := by omega
      · exact ⟨_, _, rfl, rfl⟩
      · exact ⟨_, _, rfl, rfl⟩
      · exact ⟨_, _, rfl, rfl⟩
    refine ⟨W10, _, _, t7, x, rfl, rfl, isList_of cx10.sit.inB hW10, hk3.1, by omega, hx2.1, hQ1 _ _ ?_⟩
    refine stL cx10 rfl fun h11 tk11 cx11 => ?_
    -- four
    refine wpAny_execs_cons (wpAny_Assign_Name (absQ fun KQ2 hQ2 => ?_))
    refine ev_tuple rfl (eI fun t1 k1 => wpAny_BinOp (eI fun t2 k2 => eFm (lI cx11 (.head _) (by walk_at "mqlk")) (by decide) fun t4 k4 => addI fun t5 k5 => ?_))
    refine ld_local cx11 (.head _) (by walk_at "mqlk") (wpAny_BinOp (ld_local cx11 (.head _) (by walk_at "mqlk") (ld_local cx11 (.head _) (by walk_at "mqlk") (subI fun t6 k6 => ?_))))
    refine nTup cx11 (by simp) fun F12 h12 B12 hle12 hF12 cx12 => hQ2 _ _ ?_
    refine stL cx12 rfl fun h13 tk13 cx13 => ?_
    have hfour : Rep B12 (.ref F12) (fourD (fourZ i N)) := .tup hF12 (.cons (.int ..) (.cons (.int ..) (.cons (.int ..) (.cons (.int ..) .nil))))
    -- entry
    refine wpAny_execs_cons (wpAny_Assign_Name (absQ fun KQ3 hQ3 => wpAny_BinOp ?_))
    refine ld_local cx13 (.head _) (by walk_at "mqlk") ?_
    refine ev_tuple rfl (dct1 cx13 fun d14 h14 cx14 => ?_)
    refine eFm (fun Q' q => wpAny_BinOp (ld_local cx14 (.tail _ (.head _)) (by walk_at "mqlk") (ld_local cx14 (.tail _ (.head _)) (by walk_at "mqlk") (addI q)))) (by decide) fun t6 k6 => ?_
    refine ld_local cx14 (.tail _ (.head _)) (by walk_at "mqlk") ?_
    refine ⟨_, _, rfl, FM.le.refl _, cx14, fun h15 tk15 o15 B15 ho15 hle15 hB15 hn15 cx15 => ?_⟩
    refine nTup cx15 (by simp) fun T16 h16 B16 hle16 hT16 cx16 => ?_
    refine addT cx16 (hle16 _ _ (hle15 _ _ hF12)) hT16 (by simp) (by simp) (by simp) fun e17 h17 B17 hle17 he17 cx17 => hQ3 _ _ ?_
    have hdct : Rep B17 (.ref d14) (.dct [((N + i).fmod 3, fourD (fourZ i N))]) := .dct (hle17 _ _ (hle16 _ _ hB15)) ho15 (.cons (hfour.le (hle15.trans (hle16.trans hle17))) .nil) hn15
    have hent : Rep B17 (.ref e17) (rowZ i N).e.d := .tup he17 (.cons (.int ..) (.cons (.int ..) (.cons (.int ..) (.cons (.int ..) (.cons hdct .nil)))))
    refine stL cx17 rfl fun h18 tk18 cx18 => ?_
    -- append
    refine wpAny_execs_cons (wpAny_Expr_any (absQ fun KQ4 hQ4 => ?_))
    refine mApp 1 (D := D) (ys := zs) (fun Q' q => ld_local cx18 (.head _) (by walk_at "mqlk") q) (cx18.mus (D, LstP zs) (by simp)) ?_
    refine ev_tuple rfl (eFm (lI cx18 (.head _) (by walk_at "mqlk")) (by decide) fun t2 k2 => ?_)
    refine ld_local cx18 (.head _) (by walk_at "mqlk") ?_
    refine ev_tuple rfl ?_
    refine eFdm (lI cx18 (.head _) (by walk_at "mqlk")) (by decide) (by decide) (by decide) fun t6 k6 => ?_
    refine eFdm (lI cx18 (.head _) (by walk_at "mqlk")) (by decide) (by decide) (by decide) fun t10 k10 => ?_
    refine nTup cx18 (by simp) fun p19 h19 B19 hle19 hp19 cx19 => ?_
    refine ld_local cx19 (.head _) (by walk_at "mqlk") ?_
    refine nTup cx19 (by simp) fun r20 h20 B20 hle20 hr20 cx20 => ?_
    have hlz : zs.length ≤ 1000 := by have := hzs.length; rw [List.length_map, List.length_take] at this; omega
    refine ⟨cx20, rfl, hlz, fun h21 cx21 => hQ4 _ _ ?_⟩
    refine wpAny_execs_nil (hK _ _ ?_)
    have hle : B7.le B20 := hle10.trans (hle12.trans (hle15.trans (hle16.trans (hle17.trans (hle19.trans hle20)))))
    refine ⟨B20, _, ⟨hle7.trans hle, _, _, rfl, ?hl, ?_⟩, hle, Cx.perm (mu := [_, _] ++ eqs ws) cx21 List.perm_append_comm⟩
    case hl => show List.lookup _ _ = _; walk_at "mqlk"
    have hrow : Rep B20 (.ref r20) (rowZ i N).d := .tup hr20 (.cons (.int ..) (.cons (hx2.2 ▸ .str ..) (.cons (.tup (hle20 _ _ hp19) (.cons (.int ..) (.cons (.int ..) .nil))) (.cons (hent.le (hle19.trans hle20)) .nil))))
    have e22 : (rowsZ ns).take (i + 1) = (rowsZ ns).take i ++ [rowZ i N] := by
      have hlt : i < (rowsZ ns).length := by unfold rowsZ rowsOf; simp [heapsZ]; omega
      rw [List.take_add_one, List.getElem?_eq_getElem hlt]
      unfold rowsZ rowsOf
      simp [List.getD, hN]
    rw [e22, List.map_append]
    exact (hzs.le hle).snoc hrow
  · rintro B7 mu s7 ⟨hle7, l, zs, rfl, hl, hzs⟩ hB7 cx7
    refine wpAny_execs_cons (wpAny_Return_some (ld_local cx7 (.head _) hl ?_))
    obtain ⟨o, ⟨m, rfl⟩, _, hD, c8⟩ := (cx7.tail rfl).freeze
    have e1 : (rowsZ ns).take ys.length = rowsZ ns := List.take_of_length_le (by unfold rowsZ rowsOf; simp [heapsZ]; omega)
    rw [e1] at hzs
    exact k D zs m s7 _ c8.mv c8.sit (FM.put_self ..) (hzs.le (FM.le_put hD))
end Mine
end
section
open PySem PySem.W PyProof.Rows
set_option Elab.async false
set_option maxRecDepth 100000
set_option linter.unusedVariables false
namespace Mine
local macro_rules | `(tactic| walk_at "mqlk") => `(tactic| first | assumption | exact lk_same _ _ _ | (refine lk_other (by decide) ?_; walk_at "mqlk") | rfl)
def wayZ (i : Int) : Int := if i = 0 then 1 else if i = 1 then -1 else if i = 2 then 2 else -3
def keysStep (st : List (Int × Int) × List Int) (n : Int) : List (Int × Int) × List Int :=
  (st.1 ++ [(st.2.getD (n.fmod st.2.length).toNat 0, wayZ ((n.fdiv 6).fmod 4))], st.2.filter (fun x => x != st.2.getD (n.fmod st.2.length).toNat 0))
def keysZ (ns : List Int) : List (Int × Int) := ((heapsZ ns [7, 2, 12]).foldl keysStep ([], [0, 1, 2])).1
def keyD (k : Int × Int) : D := .tup [.int k.1, .int k.2]

theorem ints_filter_snoc {y : Value} {n : Int} {t : Tok} {ys : List Value} {ns : List Int} (h : IntsAre ys ns) : IntsAre (ys ++ [.int n t]) (ns ++ [n]) := ints_snoc h
theorem take_fold {α β : Type} (F : β → α → β) (b : β) (l : List α) (i : Nat) (a : α) (h : l[i]? = some a) : (l.take (i + 1)).foldl F b = F ((l.take i).foldl F b) a := by
  rw [List.take_add_one, h]; simp
theorem take_filter_snoc {α : Type} (p : α → Bool) (l : List α) (i : Nat) (a : α) (h : l[i]? = some a) : (l.take (i + 1)).filter p = (l.take i).filter p ++ (if p a then [a] else []) := by
  rw [List.take_add_one, h, Option.toList_some, List.filter_append]
  simp [List.filter_cons]

theorem way_at' (t1 t2 t3 t4 : Tok) (z : Int) (h : 0 ≤ z ∧ z < 4) : [Value.int 1 t1, Value.int (-1) t2, Value.int 2 t3, Value.int (-3) t4][z.toNat]? = some (.int (wayZ z) (if z = 0 then t1 else if z = 1 then t2 else if z = 2 then t3 else t4)) := by
  obtain rfl | rfl | rfl | rfl : z = 0 ∨ z = 1 ∨ z = 2 ∨ z = 3 := by omega
  all_goals rfl
set_option maxHeartbeats 2000000 in
theorem keys_spec {w : World} {P : Params} {f g : Bool} {B : FM} {A : Around} {E : Value → Shared → Prop} {s : Shared} {Q : Value → Shared → Prop} {a : Addr} {vs : List Value} {n : Nat} {ns : List Int}
    (S : Sit P f g B s.heap s.gens) (hA : AOk 5 A) (ha : B a = some (lstO vs n)) (hi : IntsAre vs ns) (hn : ns.length ≤ 63)
    (k : ∀ c ys j s' B', Mv B B' s s' → Sit P f g B' s'.heap s'.gens → B' c = some (lstO ys j) → Reps B' ys ((keysZ ns).map keyD) → Q (.ref c) s') : wpAny (model prg w) A (call (.ref 89) [.ref a]) Q E s := by
  refine call_def S hA (def_keys S.stat) (bind_pure (binds := [("script", .ref a)]) (by rfl)) (.loc rfl .nil) fun h' tk cx => ?_
  generalize s.heap.objs.size = L at cx ⊢
  have hA1 : AOk 4 (A.deeper (envD (nameAt 11) (scAt 11) [] 89 88 L)) := hA.deeper
  have cx1 : Cx P f g s B B [(L, NsP [("script", .ref a)]), (L + 1, CellP none)] h' s.gens s.os := cx
  clear cx
  refine wpAny_execs_cons (Assign_Tuple_swapped (names := ["keys", "columns"]) (absQ fun KQ1 hQ1 => ?_))
  refine ev_tuple rfl (ev_list rfl (nMu cx1 (by simp) fun K h1 cx2 => ?_))
  refine ev_list rfl (eI fun t1 k1 => eI fun t2 k2 => eI fun t3 k3 => nLst cx2 (by simp) fun c0 h2 B2 hle2 hc0 cx3 => ?_)
  refine nTup cx3 (by simp) fun T h4 B4 hle4 hT cx4 => hQ1 _ _ ?_
  refine unpackItems_tuple (items := #[_, _]) hA1.handled (isTup_of cx4.sit.inB hT) fun h5 hx5 => ?_
  have cx5 := cx4.grow (h' := h5) fun b o e => hx5 b o (Nat.ne_of_lt (Heap.lt_size e)) e
  show wpAny _ _ (assignInOrder [bindName _ _, bindName _ _] [_, _]) _ _ _
  have cx6 : Cx P f g s B B4 [(L, NsP [("script", .ref a)]), (L + 1, CellP none), (K, LstP [])] h5 s.gens s.os := cx5.perm ((List.Perm.swap ..).trans ((List.Perm.swap ..).cons _))
  refine wpAny_bind (wpAny_holding (wpAny_bindName (stL cx6 rfl fun h7 tk7 cx7 => ?_)))
  refine wpAny_bind (wpAny_holding (wpAny_bindName (stL cx7 rfl fun h8 tk8 cx8 => ?_)))
  refine wpAny_pure ?_
  refine wpAny_execs_cons (wpAny_For ?_)
  refine ev_call rfl rfl (ldG cx8.sit (glob_heaps P) ?_)
  refine ld_local cx8 (.head _) rfl ?_
  refine ev_list rfl ?_
  iterate 3 refine eI fun t tk => ?_
  refine nLst cx8 (by simp) fun b h9 B9 hle9 hb cx9 => ?_
  refine ⟨keep_fn (cx9.sit.at (a := 77) (o := k1o P 77) (by kernel_rfl) (notTab rfl)) (fd := fdOf P 77) (by kernel_rfl), ?_⟩
  refine heaps_spec cx9.sit (hA1.less (by omega)) (hle9 _ _ (hle4 _ _ (hle2 _ _ ha))) hi hb (.cons 7 _ (.cons 2 _ (.cons 12 _ .nil))) hn (by simp) (by simp) fun c ys j s10 B10 mv10 sit10 hc hys => ?_
  have cx10 := cx9.call mv10 sit10
  refine itL cx10 hA1.handled hc fun I st h11 W cx11 => ?_
  have hlen : ys.length = 3 := by rw [hys.length]; rfl
  refine for_cx (s := { s10 with heap := h11 }) W (fun i B' mu => B10.le B' ∧ ∃ l ks u cc cvs m st, mu = [(L, NsP l), (L + 1, CellP u), (K, LstP ks)] ∧ has l "keys" (.ref K) ∧ has l "columns" (.ref cc) ∧ B' cc = some (lstO cvs m) ∧
      ((heapsZ ns [7, 2, 12]).take i).foldl keysStep ([], [0, 1, 2]) = st ∧ IntsAre cvs st.2 ∧ Reps B' ks (st.1.map keyD) ∧ st.1.length = i ∧ st.2.length = 3 - i ∧ st.2.Nodup) (FM.le.refl _) cx11 ?_ ?_ ?_
  · exact ⟨FM.le.refl _, _, _, _, _, _, _, _, rfl, rfl, rfl, mv10.le _ _ (hle9 _ _ (hle4 _ _ hc0)), rfl, .cons _ _ (.cons _ _ (.cons _ _ .nil)), .nil, rfl, rfl, (by rw [List.take_zero]; decide)⟩
  · intro i v B12 mu st' s12 hi12 hv hy1 hB12 cx12
    refine absF fun K1 hK1 => ?_
    obtain ⟨hle12, l, ks, u, cc, cvs, m, st, rfl, hlk, hlc, hcc, hst, hcvs, hks, hl1, hl2, hnd⟩ := hy1
    obtain ⟨N, hN⟩ : ∃ N, (heapsZ ns [7, 2, 12])[i]? = some N := ⟨_, List.getElem?_eq_getElem (by rw [← hys.length]; exact hi12)⟩
    obtain ⟨tn, hnum⟩ := hys.get i N hN
    rw [hv] at hnum
    cases hnum
    have cx13 : Cx P f g s B B12 [(L, NsP l), (L + 1, CellP u), (K, LstP ks), (I, st')] s12.heap s12.gens s12.os := cx12.perm (List.perm_append_comm (l₁ := [_]))
    refine wpAny_assign_Name (stL cx13 rfl fun h14 tk14 cx14 => ?_)
    -- column
    refine wpAny_execs_cons (wpAny_Assign_Name (absQ fun KQ2 hQ2 => ?_))
    have hcl : cvs.length = 3 - i := by rw [hcvs.length]; exact hl2
    have hlt : 0 < cvs.length := by omega
    refine subL rfl (ld_local cx14 (.head _) (by walk_at "mqlk") (wpAny_BinOp (ld_local cx14 (.head _) (by walk_at "mqlk") ?_)))
    refine ev_call rfl rfl (ldB cx14.sit (blt_len P) (ld_local cx14 (.head _) (by walk_at "mqlk") ⟨keep_builtin _, lenL (isList_of cx14.sit.inB hcc) (by omega) fun t1 k1 => ?_⟩))
    refine fmI (by omega) fun t2 k2 => ?_
    have hpos : (0 : Int) < cvs.length := by omega
    have hq1 : 0 ≤ N.fmod cvs.length := Int.fmod_nonneg_of_pos _ hpos
    have hq2 : N.fmod cvs.length < cvs.length := Int.fmod_lt_of_pos _ hpos
    obtain ⟨C, hC⟩ : ∃ C, st.2[(N.fmod cvs.length).toNat]? = some C := ⟨_, List.getElem?_eq_getElem (by rw [← hcvs.length]; omega)⟩
    obtain ⟨tC, hCv⟩ := hcvs.get _ C hC
    have hCd : st.2.getD (N.fmod st.2.length).toNat 0 = C := by rw [← hcvs.length, List.getD_eq_getElem?_getD, hC]; rfl
    have hstep : keysStep st N = (st.1 ++ [(C, wayZ ((N.fdiv 6).fmod 4))], st.2.filter (fun x => x != C)) := by unfold keysStep; rw [hCd]
    refine ⟨cc, cvs, _, t2, .int C tC, rfl, rfl, isList_of cx14.sit.inB hcc, hq1, by omega, hCv, hQ2 _ _ ?_⟩
    refine stC 1 cx14 rfl rfl rfl fun h15 cx15 => ?_
    -- keys.append
    refine wpAny_execs_cons (wpAny_Expr_any (absQ fun KQ3 hQ3 => ?_))
    refine mApp 2 (D := K) (ys := ks) (fun Q' q => ld_local cx15 (.head _) (by walk_at "mqlk") q) (cx15.mus (K, LstP ks) (by simp)) ?_
    refine ev_tuple rfl (ld_cell cx15 rfl (.tail _ (.head _)) ?_)
    refine subL rfl (ev_list rfl ?_)
    refine eI fun t3 k3 => eNeg fun t4 k4 => eI fun t5 k5 => eNeg fun t6 k6 => ?_
    refine nLst cx15 (by simp) fun W16 h16 B16 hle16 hW16 cx16 => ?_
    refine eFdm (lI cx16 (.head _) (by walk_at "mqlk")) (by decide) (by decide) (by decide) fun t10 k10 => ?_
    have hk4 : 0 ≤ (N.fdiv 6).fmod 4 ∧ (N.fdiv 6).fmod 4 < 4 := ⟨Int.fmod_nonneg_of_pos _ (by decide), Int.fmod_lt_of_pos _ (by decide)⟩
    refine ⟨W16, _, _, t10, ?x16, rfl, rfl, isList_of cx16.sit.inB hW16, hk4.1, by omega, ?h16, ?_⟩
    case h16 => exact way_at' _ _ _ _ _ hk4
    refine nTup cx16 (by simp) fun T17 h17 B17 hle17 hT17 cx17 => ?_
    have hlk' : ks.length = i := by have := hks.length; rw [List.length_map, hl1] at this; exact this
    refine ⟨cx17, rfl, by omega, fun h18 cx18 => hQ3 _ _ ?_⟩
    -- columns
    refine wpAny_execs_cons ?_
    refine assign_comp (cl := [("column", L + 1)]) rfl (fun _ => rfl) rfl rfl (by decide) ?_
    have hle17' := hle16.trans hle17
    refine ld_local cx18 (.head _) (by walk_at "mqlk") ?_
    refine itL cx18 hA1.handled (hle17' _ _ hcc) fun I2 st2 h19 W2 cx19 => ?_
    refine comp_name_any (s := { s12 with heap := h19, toks := _ }) W2 (by omega) (fun i B' ys => B17.le B' ∧ IntsAre ys ((st.2.take i).filter (fun x => x != C))) (FM.le.refl _) cx19 ⟨FM.le.refl _, .nil⟩ ?_ ?_
    · intro C2 D2 i2 v2 B20 ys2 st20 s20 hi20 hv20 hy20 hB20 cx20
      refine absC fun K K0 hK hK0 => ?_
      obtain ⟨hle20, hys20⟩ := hy20
      obtain ⟨O, hO⟩ : ∃ O, st.2[i2]? = some O := ⟨_, List.getElem?_eq_getElem (by rw [← hcvs.length]; exact hi20)⟩
      obtain ⟨tO, hOv⟩ := hcvs.get i2 O hO
      rw [hv20] at hOv
      cases hOv
      refine wpAny_tests_one (wpAny_isTrue_Compare1 (ld_local cx20 (.head _) rfl (ld_cell (c := L + 1) cx20 rfl (by k_mem) (PySem.P.ne_int ?_))))
      refine wpAny_truthy_bool ?_
      have e20 := take_filter_snoc (fun x => x != C) st.2 i2 O hO
      cases hne : (O != C) with
      | false =>
        first | refine ifF ?_ | refine wpAny_ite_false rfl ?_ | rw [if_neg (by decide)]
        refine hK0 _ ⟨B20, ⟨hle20, ?_⟩, FM.le.refl _, cx20⟩
        rw [e20, hne]; simpa using hys20
      | true =>
        first | refine ifT ?_ | refine wpAny_ite_true rfl ?_ | rw [if_pos rfl]
        refine ld_local cx20 (.head _) rfl (hK _ _ ⟨B20, ⟨hle20, ?_⟩, FM.le.refl _, cx20⟩)
        rw [e20, hne]; exact ints_snoc hys20
    · rintro C2 D2 B20 ys2 l2 s20 ⟨hle20, hys20⟩ hB20 cx20
      refine use_local cx20 rfl fun m2 h21 tk21 hD2 cx21 => ?_
      refine wpAny_execs_nil (hK1 _ _ ?_)
      have hle21 : B12.le (B20.put D2 (lstO ys2 m2)) := hle17'.trans (hle20.trans (FM.le_put hD2))
      refine ⟨_, _, ⟨hle12.trans hle21, _, _, _, D2, ys2, m2, keysStep st N, rfl, ?hk, ?hc, FM.put_self .., ?hst, ?hints, ?hreps, ?hl1, ?hl2, ?hnd⟩, hle21, Cx.perm (mu := [_, _, _] ++ [(I, st')]) cx21 List.perm_append_comm⟩
      case hk => show List.lookup _ _ = _; walk_at "mqlk"
      case hc => show List.lookup _ _ = _; walk_at "mqlk"
      case hst => rw [take_fold _ _ _ _ _ hN, hst]
      case hints => rw [show (keysStep st N).2 = st.2.filter (fun x => x != C) from congrArg Prod.snd hstep]; rw [show cvs.length = st.2.length from hcvs.length, List.take_length] at hys20; exact hys20
      case hreps =>
        rw [show (keysStep st N).1 = st.1 ++ [(C, wayZ ((N.fdiv 6).fmod 4))] from congrArg Prod.fst hstep, List.map_append]
        exact (hks.le hle21).snoc (.tup (FM.le_put hD2 _ _ (hle20 _ _ hT17)) (.cons (.int ..) (.cons (.int ..) .nil)))
      case hl1 => rw [show (keysStep st N).1 = st.1 ++ [(C, wayZ ((N.fdiv 6).fmod 4))] from congrArg Prod.fst hstep]; simp [hl1]
      case hl2 =>
        rw [show (keysStep st N).2 = st.2.filter (fun x => x != C) from congrArg Prod.snd hstep, ← List.Nodup.erase_eq_filter hnd, List.length_erase_of_mem (List.mem_of_getElem? hC)]
        omega
      case hnd => rw [show (keysStep st N).2 = st.2.filter (fun x => x != C) from congrArg Prod.snd hstep]; exact hnd.filter _
  · rintro B7 mu s7 ⟨hle7, l, ks, u, cc, cvs, m, st, rfl, hlk, hlc, hcc, hst, hcvs, hks, hl1, hl2, hnd⟩ hB7 cx7
    refine wpAny_execs_cons (wpAny_Return_some (ld_local cx7 (.head _) hlk ?_))
    obtain ⟨o, ⟨m, rfl⟩, _, hD, c8⟩ := ((cx7.tail rfl).tail rfl).freeze
    have e1 : (heapsZ ns [7, 2, 12]).take ys.length = heapsZ ns [7, 2, 12] := List.take_of_length_le (by rw [hys.length]; exact Nat.le_refl _)
    rw [e1] at hst
    subst hst
    exact k K ks m s7 _ c8.mv c8.sit (FM.put_self ..) (hks.le (FM.le_put hD))
end Mine
end
section
open PySem PySem.W PyProof.Rows PySem.Builtin PySem.Builtin.ObjectAttr
set_option Elab.async false
set_option maxRecDepth 100000
set_option linter.unusedVariables false
namespace Mine

/-! the class of the text -/
def tabB (a : Addr) : Bool := a == 51 || a == 58 || a == 91 || a == 108
noncomputable def kN (P : Params) : Frag := (K1 P).filter fun p => !tabB p.1
theorem lookup_filter {a : Addr} {o : Obj} : ∀ {l : Frag}, List.lookup a (l.filter fun p => !tabB p.1) = some o → tabB a = false ∧ l.lookup a = some o
  | [], h => by cases h
  | (b, ob) :: r, h => by
    rw [List.filter_cons] at h
    by_cases hb : tabB b = true
    · simp only [hb, Bool.not_true] at h
      obtain ⟨h1, h2⟩ := lookup_filter (l := r) (by simpa using h)
      refine ⟨h1, ?_⟩
      rw [List.lookup_cons]
      have : (a == b) = false := by
        cases q : a == b with
        | false => rfl
        | true => rw [eq_of_beq q, hb] at h1; cases h1
      rw [this]; exact h2
    · have hb' : tabB b = false := by simpa using hb
      simp only [hb', Bool.not_false, if_true] at h
      rw [List.lookup_cons] at h ⊢
      cases q : a == b with
      | true => rw [q] at h; rw [eq_of_beq q]; exact ⟨hb', h⟩
      | false => rw [q] at h; exact lookup_filter h
theorem Sit.kn {P : Params} {f g : Bool} {B : FM} {h : Heap} {gs : Array GenState} (S : Sit P f g B h gs) : (kN P).In h := fun a o e => by
  obtain ⟨h1, h2⟩ := lookup_filter e
  exact S.at h2 (notTab h1)

def memAt (j : Nat) : Option Stmt := match (PySem.Challenge.pw_mq0160_01.main.body[(1 : Nat)]? : Option Stmt) with
  | some (.ClassDef _ _ _ b _ _ _ _ _ _ _) => b[j]?
  | _ => none
def mnameAt (j : Nat) : Str := match memAt j with
  | some (.FunctionDef n _ _ _ _ _ _ _ _ _) => n
  | _ => Str.empty
def mparAt (j : Nat) : Arguments := match memAt j with
  | some (.FunctionDef _ a _ _ _ _ _ _ _ _) => a
  | _ => ⟨[], [], none, [], [], none, []⟩
def mbodyAt (j : Nat) : List Stmt := match memAt j with
  | some (.FunctionDef _ _ b _ _ _ _ _ _ _) => b
  | _ => []
def mscAt (j : Nat) : Scope := match memAt j with
  | some (.FunctionDef _ _ _ _ _ _ sc _ _ _) => sc
  | _ => default
theorem Stat.mem {P : Params} {B : FM} (S : Stat P B) (f c j : Nat) (qn : Str)
    (e1 : (K1 P).lookup f = some (k1o P f)) (e2 : (k1o P f).cls = .type "function") (e3 : (k1o P f).data = .func (fdOf P f)) (e5 : (K1 P).lookup c = some (k1o P c)) (e6 : (k1o P c).data = .fields (flOf P c)) (e7 : (flOf P c)[1]? = some (.str (fdOf P f).qualname (tkOf P c)))
    (g1 : (fdOf P f).qualname = qn) (g2 : (fdOf P f).params = mparAt j) (g3 : (fdOf P f).body = .stmts (mbodyAt j)) (g4 : (fdOf P f).scope = mscAt j) (g5 : (fdOf P f).globals = mainGlobals) (g6 : (fdOf P f).closure = []) (g7 : (fdOf P f).defaults = .none) (g8 : (fdOf P f).kwdefaults = .none)
    (g9 : (fdOf P f).code = .ref c) (g10 : (fdOf P f).builtins = builtinsNs) (t1 : (f == 51 || f == 58 || f == 91 || f == 108) = false) (t2 : (c == 51 || c == 58 || c == 91 || c == 108) = false) :
    DefB B f c qn (mparAt j) (mbodyAt j) (mscAt j) [] .none :=
  ⟨fdOf P f, ⟨⟨_, S f _ e1 (notTab t1), e2, e3⟩, ⟨c, _, _, _, g9, S c _ e5 (notTab t2), e6, e7⟩⟩, g1, g2, g3, g4, g5, g6, g7, g8, g9, g10⟩
theorem def_init {P : Params} {B : FM} (S : Stat P B) : DefB B 28 27 "TupleComp.__init__" (mparAt 0) (mbodyAt 0) (mscAt 0) [] .none :=
  S.mem 28 27 0 _ (by kernel_rfl) (by kernel_rfl) (by kernel_rfl) (by kernel_rfl) (by kernel_rfl) (by kernel_rfl) (by kernel_rfl) (by kernel_rfl) (by kernel_rfl) (by kernel_rfl) (by kernel_rfl) (by kernel_rfl) (by kernel_rfl) (by kernel_rfl) (by kernel_rfl) (by kernel_rfl) rfl rfl
theorem def_compare {P : Params} {B : FM} (S : Stat P B) : DefB B 35 34 "TupleComp.compare" (mparAt 1) (mbodyAt 1) (mscAt 1) [] .none :=
  S.mem 35 34 1 _ (by kernel_rfl) (by kernel_rfl) (by kernel_rfl) (by kernel_rfl) (by kernel_rfl) (by kernel_rfl) (by kernel_rfl) (by kernel_rfl) (by kernel_rfl) (by kernel_rfl) (by kernel_rfl) (by kernel_rfl) (by kernel_rfl) (by kernel_rfl) (by kernel_rfl) (by kernel_rfl) rfl rfl

theorem kn_makes (P : Params) : makesIn (kN P) 38 = true := by kernel_rfl
theorem kn_init (P : Params) : findIn (kN P) (.ref 38) "__init__" = some (some (.ref 28)) := by kernel_rfl
theorem kn_28 (P : Params) : typeIn (kN P) (.ref 28) = some (.type "function") := by kernel_rfl
theorem kn_35 (P : Params) : typeIn (kN P) (.ref 35) = some (.type "function") := by kernel_rfl
theorem kn_setattr (P : Params) : findIn (kN P) (.ref 38) "__setattr__" = some (some (.builtin "object.__setattr__")) := by kernel_rfl
theorem kn_over (P : Params) : plainOver (kN P) 38 = true := by kernel_rfl
theorem kn_taker (P : Params) : takerIn (kN P) 38 "comp_select_list" = some none := by kernel_rfl
theorem kn_dict (P : Params) : hasDictIn (kN P) 38 = true := by kernel_rfl
theorem kn_get (P : Params) : plainGet (kN P) 38 "compare" = true := by kernel_rfl
theorem kn_csl (P : Params) : findIn (kN P) (.ref 38) "comp_select_list" = some none := by kernel_rfl
theorem kn_cmp (P : Params) : findIn (kN P) (.ref 38) "compare" = some (some (.ref 35)) := by kernel_rfl
theorem kn_gf (P : Params) : specialIn (kN P) (.ref 35) "__get__" = some (some (.builtin "function.__get__")) := by kernel_rfl
theorem kn_tk (P : Params) : takesIn (kN P) (.ref 35) = some false := by kernel_rfl

theorem lookIn_ns {l : List (Str × Value)} {o : Obj} (x : NsP l o) (name : Str) : lookIn name o = some (l.lookup name) := by
  obtain ⟨es, ep, hd, hk, hf⟩ := x.h
  have := hf name
  unfold nsFind findBy at this
  unfold lookIn
  rw [hd]
  dsimp only
  rw [← Array.find?_toList] at this
  cases q : es.toList.find? (fun e => e.key.isStr name) with
  | some e => rw [q] at this; simp only [Option.map_some] at this; simp only [this]
  | none =>
    rw [q] at this
    simp only [Option.map_none] at this
    have hr : es.toList.any (·.refKey) = false := by
      rw [List.any_eq_false]
      intro e he
      obtain ⟨n, t, hkey⟩ := hk e (by simpa using he)
      unfold DictEntry.refKey
      rw [hkey]; simp
    simp only [hr, ← this]
    rfl

/-- an object of TupleComp that holds v -/
def TcB (B : FM) (x : Addr) (v : Value) : Prop := ∃ dx od, B x = some (instObj 38 dx) ∧ B dx = some od ∧ NsP [("comp_select_list", v)] od
theorem TcB.le {B B' : FM} {x : Addr} {v : Value} (h : TcB B x v) (k : B.le B') : TcB B' x v := let ⟨dx, od, a, b, c⟩ := h; ⟨dx, od, k _ _ a, k _ _ b, c⟩
theorem TcB.at {B : FM} {x : Addr} {v : Value} {h : Heap} (t : TcB B x v) (k : B.inn h) : ∃ dx od, InstAt h x (instObj 38 dx) 38 (some od) ∧ NsP [("comp_select_list", v)] od :=
  let ⟨dx, od, a, b, c⟩ := t; ⟨dx, od, ⟨k _ _ a, rfl, rfl, k _ _ b⟩, c⟩

section
variable {w : World} {P : Params} {f g : Bool} {s₀ s : Shared} {B₀ B : FM} {mu : MU} {A : Around} {E : Value → Shared → Prop} {env : Env} {Q : Value → Shared → Prop}

theorem code_def {R : Result → Shared → Prop} {fa c : Addr} {name : Str} {pars : Arguments} {body : List Stmt} {scope : Scope} {clo : List (Str × Addr)} {dv : Value} {args : List Value} {kw : List (Str × Value)} {binds l' : List (Str × Value)} {mu' : MU} {n : Nat}
    (S : Sit P f g B s.heap s.gens) (hA : AOk n A) (F : DefB B fa c name pars body scope clo dv)
    (hbind : ∀ (Q' : List (Str × Value) → Shared → Prop) (E' : Value → Shared → Prop), Q' binds s → wpAny (model prg w) A.in1 (bindArgs (sigD name pars dv) ⟨args, kw⟩) Q' E' s)
    (hb : Bound (envD name scope clo fa c s.heap.objs.size) binds [] (cellMu (cellsFrom (s.heap.objs.size + 1) scope.names [])) l' mu')
    (k : ∀ h' tk, Cx P f g s B B ((s.heap.objs.size, NsP l') :: mu') h' s.gens s.os → wpAny (model prg w) (A.deeper (envD name scope clo fa c s.heap.objs.size)) (execs body (envD name scope clo fa c s.heap.objs.size)) (fun fl s' => R (.ok (.ret (retv fl))) s') (fun _ _ => False) { s with heap := h', toks := tk })
    (hsk : (scope.kind, scope.isCoroutine, scope.isGenerator) = (.function, false, false) := by rfl) :
    codeAny (model prg w) A (.call (.ref fa) ⟨args, kw⟩) R s := by
  obtain ⟨fd, FB, q1, q2, q3, q4, q5, q6, q7, q8, q9, q10⟩ := F.h
  obtain ⟨o, ho, _, hod⟩ := FB.fn
  obtain ⟨c, oc, vs, t, hc, hoc, hdc, hq⟩ := FB.code
  have h1 : fd.scope.kind = .function := by rw [q4]; exact congrArg (·.1) hsk
  have h2 : fd.scope.isCoroutine = false := by rw [q4]; exact congrArg (·.2.1) hsk
  have h3 : fd.scope.isGenerator = false := by rw [q4]; exact congrArg (·.2.2) hsk
  refine codeAny_call_function hA.room (S.inB _ _ ho) hod h2 h3 q3 ⟨c, oc, vs, t, hc, S.inB _ _ hoc, hdc, hq⟩ ?_
  rw [bind_sig q1 q2 q7 q8]
  refine hbind _ _ (newEnv_cx (Cx.start S) h1 (envD name scope clo fa _ s.heap.objs.size) (by rw [q1, q4, q5, q6, q9, q10]) (by rw [List.append_nil, q4]; exact hb) fun h' tk cx => ⟨cx.sit.nolimit, codeAny_func (wpAny_mono (k h' tk cx) (fun fl s' q => ?_) fun _ _ x => x.elim)⟩)
  cases fl <;> exact q
end
end Mine
end
section
open PySem PySem.W PyProof.Rows
set_option Elab.async false
set_option maxRecDepth 100000
set_option linter.unusedVariables false
namespace Mine

/-! the order of int lists -/
def ltL : List Int → List Int → Bool
  | [], [] => false
  | [], _ :: _ => true
  | _ :: _, [] => false
  | a :: x, b :: y => if a = b then ltL x y else decide (a < b)

theorem rc_lt {p : Program} {w : World} {A : Around} {E : Value → Shared → Prop} {s : Shared} {Q : Value → Shared → Prop} {a b : Int} {t u : Tok} (h : Q (.bool (decide (a < b))) s) : wpAny (model p w) A (richCompare .Lt (.int a t) (.int b u)) Q E s := PySem.P.lt_int h
theorem rc_gt {p : Program} {w : World} {A : Around} {E : Value → Shared → Prop} {s : Shared} {Q : Value → Shared → Prop} {a b : Int} {t u : Tok} (h : Q (.bool (decide (b < a))) s) : wpAny (model p w) A (richCompare .Gt (.int a t) (.int b u)) Q E s := PySem.P.gt_int h
theorem eqb_int {p : Program} {w : World} {A : Around} {E : Value → Shared → Prop} {s : Shared} {Q : Bool → Shared → Prop} {a b : Int} {t u : Tok} (h : Q (decide (a = b)) s) : wpAny (model p w) A (eqBool (.int a t) (.int b u)) Q E s := wpAny_eqBool_int (by have e : (a == b) = decide (a = b) := rfl; rw [e]; exact h)

section
open PySem.AutoSeq1 (wpAny_loadPart')
open MeetsSeq MeetsSeq2 MeetsSeq3 SeqRoads2
set_option maxHeartbeats 1000000

theorem tuple_ltAt (l b : Addr) (us vs : List Value) (ms ks : List Int) (n n2 : Nat) (hu : IntsAre us ms) (hv : IntsAre vs ks) (hlen : us.length = vs.length) :
    Meets (Builtin.«tuple.__lt__» ⟨[.ref l, .ref b], []⟩) (fun A R s => s.heap.get? l = some (tupO us n) ∧ s.heap.get? b = some (tupO vs n2) ∧ R (.ok (.ret (.bool (ltL ms ks)))) s) :=
  .of_wp fun prog w A R s h => by
  obtain ⟨hp, g, d, tk, os⟩ := s
  obtain ⟨hl, hb, hR⟩ := h
  have f2 := AutoSeq1.sub_tuple_tuple
  wp_walk using wpAny_loadPart' hl, wpAny_loadPart' hb, wpAny_forIn_list _ (fun rest b s' => b.1 = none ∧ s' = ⟨hp, g, d, tk, os⟩ ∧ ∃ us' vs' ms ks, rest = us'.zip vs' ∧ us'.length = vs'.length ∧ IntsAre us' ms ∧ IntsAre vs' ks ∧
      R (.ok (.ret (.bool (ltL ms ks)))) ⟨hp, g, d, tk, os⟩) _
  case turn =>
    rintro ⟨x, y⟩ rest b s' ⟨hb', rfl, us', vs', ms', ks', hz, hlen', hu', hv', hR'⟩
    cases hu' with
    | nil => simp at hz
    | cons m t r =>
    cases hv' with
    | nil => simp at hz
    | cons k u r' =>
    rw [List.zip_cons_cons] at hz
    injection hz with h1 h2
    injection h1 with h3 h4
    subst h3 h4 h2
    show wpAny _ _ (do
          let __do_lift ← eqBool (.int m t) (.int k u)
          _) _ _ _
    refine wpAny_bind (eqb_int ?_)
    by_cases hmk : m = k
    · subst hmk
      simp only [decide_true, Bool.not_true, Bool.false_eq_true, if_false]
      refine wpAny_pure ⟨rfl, rfl, _, _, _, _, rfl, by simpa using hlen', r, r', ?_⟩
      simpa [ltL] using hR'
    · have hmk' : ¬ k = m := fun e => hmk e.symm
      simp only [hmk, decide_false, Bool.not_false, if_true]
      refine wpAny_bind (wpAny_rule (wpAny_bind (rc_lt ?_)))
      wp_walk
      simpa [ltL, hmk, hmk'] using hR'
  case fin =>
    rintro ⟨b1, b2⟩ s' ⟨hb', rfl, us', vs', ms', ks', hz, hlen', hu', hv', hR'⟩
    simp only at hb'
    subst hb'
    have e1 : us' = [] := by
      cases us' with
      | nil => rfl
      | cons _ _ => cases vs' with
        | nil => simp at hlen'
        | cons _ _ => simp at hz
    subst e1
    have e2 : vs' = [] := by simpa using hlen'.symm
    subst e2
    cases hu'
    cases hv'
    wp_walk
    simpa [Builtin.Tuple.tupleCompareSizes, hlen, ltL] using hR'
  case h => exact ⟨rfl, rfl, us, vs, ms, ks, by simp, hlen, hu, hv, hR⟩

theorem tuple_gtAt (l b : Addr) (us vs : List Value) (ms ks : List Int) (n n2 : Nat) (hu : IntsAre us ms) (hv : IntsAre vs ks) (hlen : us.length = vs.length) :
    Meets (Builtin.«tuple.__gt__» ⟨[.ref l, .ref b], []⟩) (fun A R s => s.heap.get? l = some (tupO us n) ∧ s.heap.get? b = some (tupO vs n2) ∧ R (.ok (.ret (.bool (ltL ks ms)))) s) :=
  .of_wp fun prog w A R s h => by
  obtain ⟨hp, g, d, tk, os⟩ := s
  obtain ⟨hl, hb, hR⟩ := h
  have f2 := AutoSeq1.sub_tuple_tuple
  wp_walk using wpAny_loadPart' hl, wpAny_loadPart' hb, wpAny_forIn_list _ (fun rest b s' => b.1 = none ∧ s' = ⟨hp, g, d, tk, os⟩ ∧ ∃ us' vs' ms ks, rest = us'.zip vs' ∧ us'.length = vs'.length ∧ IntsAre us' ms ∧ IntsAre vs' ks ∧
      R (.ok (.ret (.bool (ltL ks ms)))) ⟨hp, g, d, tk, os⟩) _
  case turn =>
    rintro ⟨x, y⟩ rest b s' ⟨hb', rfl, us', vs', ms', ks', hz, hlen', hu', hv', hR'⟩
    cases hu' with
    | nil => simp at hz
    | cons m t r =>
    cases hv' with
    | nil => simp at hz
    | cons k u r' =>
    rw [List.zip_cons_cons] at hz
    injection hz with h1 h2
    injection h1 with h3 h4
    subst h3 h4 h2
    show wpAny _ _ (do
          let __do_lift ← eqBool (.int m t) (.int k u)
          _) _ _ _
    refine wpAny_bind (eqb_int ?_)
    by_cases hmk : m = k
    · subst hmk
      simp only [decide_true, Bool.not_true, Bool.false_eq_true, if_false]
      refine wpAny_pure ⟨rfl, rfl, _, _, _, _, rfl, by simpa using hlen', r, r', ?_⟩
      simpa [ltL] using hR'
    · have hmk' : ¬ k = m := fun e => hmk e.symm
      simp only [hmk, decide_false, Bool.not_false, if_true]
      refine wpAny_bind (wpAny_rule (wpAny_bind (rc_gt ?_)))
      wp_walk
      simpa [ltL, hmk, hmk'] using hR'
  case fin =>
    rintro ⟨b1, b2⟩ s' ⟨hb', rfl, us', vs', ms', ks', hz, hlen', hu', hv', hR'⟩
    simp only at hb'
    subst hb'
    have e1 : us' = [] := by
      cases us' with
      | nil => rfl
      | cons _ _ => cases vs' with
        | nil => simp at hlen'
        | cons _ _ => simp at hz
    subst e1
    have e2 : vs' = [] := by simpa using hlen'.symm
    subst e2
    cases hu'
    cases hv'
    wp_walk
    simpa [Builtin.Tuple.tupleCompareSizes, hlen, ltL] using hR'
  case h => exact ⟨rfl, rfl, us, vs, ms, ks, by simp, hlen, hu, hv, hR⟩

theorem list_lt_loop (l b : Addr) (us vs : List Value) (ms ks : List Int) (n n2 : Nat) (hu : IntsAre us ms) (hv : IntsAre vs ks) (hlen : us.length = vs.length) (k : Nat) :
    ∀ i : Nat, us.length - i = k → Meets (Builtin.«list.__eq__.loop» ⟨[.ref l, .ref b, rawInt i, rawInt 0], []⟩)
      (fun A R s => s.heap.get? l = some (lstO us n) ∧ s.heap.get? b = some (lstO vs n2) ∧ R (.ok (.ret (.bool (ltL (ms.drop i) (ks.drop i))))) s) := by
  have lm := hu.length
  have lk := hv.length
  induction k with
  | zero =>
    intro i hk prog w A R s h
    obtain ⟨hp, g, d, tk, os⟩ := s
    obtain ⟨hl, hb, hR⟩ := h
    wp_walk using wpAny_loadPart' hl, wpAny_loadPart' hb
    have hi1 : us.toArray[((i : Nat) : Int).toNat]? = none := by simp; omega
    have hi2 : vs.toArray[((i : Nat) : Int).toNat]? = none := by simp; omega
    rw [hi1, hi2]
    wp_walk using wpAny_loadPart' hl, wpAny_loadPart' hb
    have d1 : ms.drop i = [] := by simp; omega
    have d2 : ks.drop i = [] := by simp; omega
    rw [d1, d2] at hR
    show R (.ok (.ret (.bool (decide (_ < _))))) _
    simpa [hlen, ltL] using hR
  | succ k ih =>
    intro i hk prog w A R s h
    obtain ⟨hp, g, d, tk, os⟩ := s
    obtain ⟨hl, hb, hR⟩ := h
    wp_walk using wpAny_loadPart' hl, wpAny_loadPart' hb
    have hlt : i < ms.length := by omega
    have hlt2 : i < ks.length := by omega
    obtain ⟨t1, e1⟩ := hu.get i ms[i] (List.getElem?_eq_getElem hlt)
    obtain ⟨t2, e2⟩ := hv.get i ks[i] (List.getElem?_eq_getElem hlt2)
    have hi1 : us.toArray[((i : Nat) : Int).toNat]? = some (.int ms[i] t1) := by simpa using e1
    have hi2 : vs.toArray[((i : Nat) : Int).toNat]? = some (.int ks[i] t2) := by simpa using e2
    have hc : ((i : Int) + 1) = ((i + 1 : Nat) : Int) := by push_cast; rfl
    rw [List.drop_eq_getElem_cons hlt, List.drop_eq_getElem_cons hlt2] at hR
    rw [hi1, hi2]
    refine wpAny_bind (eqb_int ?_)
    by_cases hmk : ms[i] = ks[i]
    · simp only [hmk, decide_true]
      wp_walk
      rw [hc]
      exact ⟨plainId_quiet plain_eq_loop _, codeAny_builtin entry_eq_loop (by
        rw [Around.under_plainId plain_eq_loop _]
        exact ih (i + 1) (by omega) prog w A R _ ⟨hl, hb, by simpa [ltL, hmk] using hR⟩)⟩
    · have hmk' : ¬ ks[i] = ms[i] := fun e => hmk e.symm
      simp only [hmk, decide_false]
      wp_walk using wpAny_loadPart' hl, wpAny_loadPart' hb
      rw [hi1, hi2]
      wp_walk using rc_lt
      simpa [ltL, hmk, hmk'] using hR
theorem list_ltAt (l b : Addr) (us vs : List Value) (ms ks : List Int) (n n2 : Nat) (hu : IntsAre us ms) (hv : IntsAre vs ks) (hlen : us.length = vs.length) :
    Meets (Builtin.«list.__lt__» ⟨[.ref l, .ref b], []⟩) (fun A R s => s.heap.get? l = some (lstO us n) ∧ s.heap.get? b = some (lstO vs n2) ∧ R (.ok (.ret (.bool (ltL ms ks)))) s) := by
  intro prog w A R s h
  obtain ⟨hp, g, d, tk, os⟩ := s
  obtain ⟨hl, hb, hR⟩ := h
  have f3 := AutoSeq1.sub_list_list
  wp_walk using wpAny_loadPart' hl, wpAny_loadPart' hb
  exact ⟨plainId_quiet plain_eq_loop _, codeAny_builtin entry_eq_loop (by
    rw [Around.under_plainId plain_eq_loop _]
    exact list_lt_loop l b us vs ms ks n n2 hu hv hlen _ 0 rfl prog w A R _ ⟨hl, hb, by simpa using hR⟩)⟩
end

section
variable {w : World} {B : FM} {A : Around} {E : Value → Shared → Prop} {s : Shared} {Q : Value → Shared → Prop}
theorem lt_tup {a b : Addr} {us vs : List Value} {ms ks : List Int} {n m : Nat} (hB : B.inn s.heap) (ha : B a = some (tupO us n)) (hb : B b = some (tupO vs m)) (hu : IntsAre us ms) (hv : IntsAre vs ks) (hlen : us.length = vs.length) (hA : A.units < cLine)
    (h : Q (.bool (ltL ms ks)) s) : wpAny (model prg w) A (compareOp .Lt (.ref a) (.ref b)) Q E s :=
  richCompare_meets_room (op := .Lt) ⟨_, hB _ _ ha, rfl⟩ ⟨_, hB _ _ hb, rfl⟩ F.slot_tuple_lt F.entry_tuple_lt (F.args_tuple_lt_2 _ _) (tuple_ltAt a b us vs ms ks n m hu hv hlen) ⟨hB _ _ ha, hB _ _ hb, show Value.bool (ltL ms ks) ≠ Value.notImplemented ∧ Q _ s from ⟨(fun x => nomatch x), h⟩⟩ hA
theorem gt_tup {a b : Addr} {us vs : List Value} {ms ks : List Int} {n m : Nat} (hB : B.inn s.heap) (ha : B a = some (tupO us n)) (hb : B b = some (tupO vs m)) (hu : IntsAre us ms) (hv : IntsAre vs ks) (hlen : us.length = vs.length) (hA : A.units < cLine)
    (h : Q (.bool (ltL ks ms)) s) : wpAny (model prg w) A (compareOp .Gt (.ref a) (.ref b)) Q E s :=
  richCompare_meets_room (op := .Gt) ⟨_, hB _ _ ha, rfl⟩ ⟨_, hB _ _ hb, rfl⟩ F.slot_tuple_gt F.entry_tuple_gt (F.args_tuple_gt_2 _ _) (tuple_gtAt a b us vs ms ks n m hu hv hlen) ⟨hB _ _ ha, hB _ _ hb, show Value.bool (ltL ks ms) ≠ Value.notImplemented ∧ Q _ s from ⟨(fun x => nomatch x), h⟩⟩ hA
end

theorem ltL_nat : ∀ (a b : List Nat), ltL (a.map fun n : Nat => (n : Int)) (b.map fun n : Nat => (n : Int)) = decide (a < b)
  | [], [] => by simp [ltL]
  | [], _ :: _ => by simp [ltL]
  | _ :: _, [] => by simp [ltL]
  | x :: a, y :: b => by
    have ih := ltL_nat a b
    simp only [List.map_cons, ltL, List.cons_lt_cons_iff]
    by_cases h : x = y
    · subst h; simp [ih]
    · have h' : ¬ (x : Int) = (y : Int) := by omega
      simp [h, h']
end Mine
end
section
open PySem PySem.W PyProof.Rows PySem.Builtin PySem.Builtin.ObjectAttr
set_option Elab.async false
set_option maxRecDepth 100000
set_option linter.unusedVariables false
namespace Mine
local macro_rules | `(tactic| walk_at "mqlk") => `(tactic| first | assumption | exact lk_same _ _ _ | (refine lk_other (by decide) ?_; walk_at "mqlk") | rfl)

/-! the columns of a row, as int lists -/
def colZ (c : Int) (r : Row) : List Int := if c = 0 then [r.c0] else if c = 1 then r.c1.cps.toList.map (fun n : Nat => (n : Int)) else r.c2
def cmpZ : List (Int × Int) → Row → Row → Int
  | [], _, _ => 0
  | (c, d) :: k, a, b => if ltL (colZ c a) (colZ c b) = true then -d else if ltL (colZ c b) (colZ c a) = true then d else cmpZ k a b
def colD (c : Int) (r : Row) : D := if c = 0 then .int r.c0 else if c = 1 then .str r.c1 else .tup (r.c2.map D.int)

/-- the columns alone -/
inductive RowC (B : FM) (v : Value) (r : Row) : Prop
  | mk (a : Addr) (v0 v1 v2 v3 : Value) (n : Nat) (e1 : v = .ref a) (e2 : B a = some (tupO [v0, v1, v2, v3] n)) (x0 : Rep B v0 (.int r.c0)) (x1 : Rep B v1 (.str r.c1)) (x2 : Rep B v2 (.tup (r.c2.map D.int))) (x3 : Rep B v3 r.e.d) : RowC B v r
theorem rowC_of {B : FM} {v : Value} {r : Row} (h : Rep B v r.d) : RowC B v r := by
  obtain ⟨a, vs, n, rfl, e, q⟩ := h.tup_inv
  obtain ⟨v0, r0, rfl, x0, q⟩ := Reps.cons_inv q
  obtain ⟨v1, r1, rfl, x1, q⟩ := Reps.cons_inv q
  obtain ⟨v2, r2, rfl, x2, q⟩ := Reps.cons_inv q
  obtain ⟨v3, r3, rfl, x3, q⟩ := Reps.cons_inv q
  obtain rfl := q.nil_inv
  exact ⟨a, v0, v1, v2, v3, n, rfl, e, x0, x1, x2, x3⟩
/-- a key of a TupleComp: a column and a way -/
theorem key_inv {B : FM} {v : Value} {c d : Int} (h : Rep B v (keyD (c, d))) : ∃ a n t0 t1, v = .ref a ∧ B a = some (tupO [.int c t0, .int d t1] n) := by
  obtain ⟨a, vs, n, rfl, e, q⟩ := Rep.tup_inv h
  obtain ⟨v0, r0, rfl, x0, q⟩ := Reps.cons_inv q
  obtain ⟨v1, r1, rfl, x1, q⟩ := Reps.cons_inv q
  obtain rfl := q.nil_inv
  obtain ⟨t0, rfl⟩ := x0.int_inv
  obtain ⟨t1, rfl⟩ := x1.int_inv
  exact ⟨a, n, t0, t1, rfl, e⟩
theorem rowC_back {B : FM} {v : Value} {r : Row} (h : RowC B v r) : Rep B v r.d := by
  obtain ⟨a, v0, v1, v2, v3, n, rfl, e, x0, x1, x2, x3⟩ := h
  exact .tup e (.cons x0 (.cons x1 (.cons x2 (.cons x3 .nil))))

theorem ltL_one (a b : Int) : ltL [a] [b] = decide (a < b) := by
  unfold ltL
  by_cases h : a = b
  · subst h; simp [ltL]
  · simp [h]

section
variable {w : World} {P : Params} {f g : Bool} {s₀ s : Shared} {B₀ B : FM} {mu : MU} {A : Around} {E : Value → Shared → Prop} {env : Env} {Q : Value → Shared → Prop}

theorem lt_col {c : Int} {ra rb : Row} {u v : Value} (hB : B.inn s.heap) (hc : c = 0 ∨ c = 1 ∨ c = 2) (hu : Rep B u (colD c ra)) (hv : Rep B v (colD c rb)) (hl : ra.c2.length = rb.c2.length) (hA : A.units < cLine) (h : Q (.bool (ltL (colZ c ra) (colZ c rb))) s) :
    wpAny (model prg w) A (compareOp .Lt u v) Q E s := by
  rcases hc with rfl | rfl | rfl
  · obtain ⟨t, rfl⟩ := Rep.int_inv hu
    obtain ⟨t', rfl⟩ := Rep.int_inv hv
    exact PySem.P.lt_int (by rw [← ltL_one]; exact h)
  · obtain ⟨t, rfl⟩ := Rep.str_inv hu
    obtain ⟨t', rfl⟩ := Rep.str_inv hv
    exact lt_str (by rw [show ltL (colZ 1 ra) (colZ 1 rb) = decide (ra.c1.cps.toList < rb.c1.cps.toList) from ltL_nat _ _] at h; exact h)
  · obtain ⟨a, vs, n, rfl, e, r⟩ := Rep.tup_inv hu
    obtain ⟨a', vs', n', rfl, e', r'⟩ := Rep.tup_inv hv
    have h1 := ints_reps r
    have h2 := ints_reps r'
    exact lt_tup hB e e' h1 h2 (by rw [h1.length, h2.length, hl]) hA h
theorem gt_col {c : Int} {ra rb : Row} {u v : Value} (hB : B.inn s.heap) (hc : c = 0 ∨ c = 1 ∨ c = 2) (hu : Rep B u (colD c ra)) (hv : Rep B v (colD c rb)) (hl : ra.c2.length = rb.c2.length) (hA : A.units < cLine) (h : Q (.bool (ltL (colZ c rb) (colZ c ra))) s) :
    wpAny (model prg w) A (compareOp .Gt u v) Q E s := by
  rcases hc with rfl | rfl | rfl
  · obtain ⟨t, rfl⟩ := Rep.int_inv hu
    obtain ⟨t', rfl⟩ := Rep.int_inv hv
    exact PySem.P.gt_int (by rw [← ltL_one]; exact h)
  · obtain ⟨t, rfl⟩ := Rep.str_inv hu
    obtain ⟨t', rfl⟩ := Rep.str_inv hv
    exact PySem.P.gt_str (by rw [show ltL (colZ 1 rb) (colZ 1 ra) = decide (rb.c1.cps.toList < ra.c1.cps.toList) from ltL_nat _ _] at h; exact h)
  · obtain ⟨a, vs, n, rfl, e, r⟩ := Rep.tup_inv hu
    obtain ⟨a', vs', n', rfl, e', r'⟩ := Rep.tup_inv hv
    have h1 := ints_reps r
    have h2 := ints_reps r'
    exact gt_tup hB e e' h1 h2 (by rw [h1.length, h2.length, hl]) hA h

/-- what row[c] asks -/
inductive RowQ (Q : Value → Shared → Prop) (o i : Value) (s : Shared) : Prop
  | mk (B : FM) (r : Row) (c : Int) (t : Tok) (hB : B.inn s.heap) (hr : RowC B o r) (e2 : i = .int c t) (hc : c = 0 ∨ c = 1 ∨ c = 2) (k : ∀ x, Rep B x (colD c r) → Q x s) : RowQ Q o i s
/-- row[c] -/
theorem row_sub {value slice : Expr} {pos : Pos} (hs : isSlice slice = false) (h : wpAny (model prg w) A (eval value env) (fun o s₁ => wpAny (model prg w) A (eval slice env) (fun i s₂ => RowQ Q o i s₂) E s₁) E s) :
    wpAny (model prg w) A (eval (.Subscript value slice pos) env) Q E s :=
  subT hs (wpAny_mono h (fun o s₁ h₁ => wpAny_mono h₁ (fun i s₂ hz => by
    obtain ⟨B, r, c, t, hB, hr, e2, hc, k⟩ := hz
    obtain ⟨a, v0, v1, v2, v3, n, rfl, e, x0, x1, x2, x3⟩ := hr
    rcases hc with rfl | rfl | rfl
    · exact ⟨a, _, _, t, v0, rfl, e2, isTup_of hB e, by decide, by decide, rfl, k _ x0⟩
    · exact ⟨a, _, _, t, v1, rfl, e2, isTup_of hB e, by decide, by decide, rfl, k _ x1⟩
    · exact ⟨a, _, _, t, v2, rfl, e2, isTup_of hB e, by decide, by decide, rfl, k _ x2⟩) fun _ _ x => x) fun _ _ x => x)

/-- x.comp_select_list -/
theorem get_csl {x : Addr} {v : Addr} {expr : Bool} (S : Sit P f g B s.heap s.gens) (T : TcB B x (.ref v)) (h : ∀ tk, Q (.ref v) { s with toks := tk }) : wpAny (model prg w) A (getAttr (.ref x) "comp_select_list" expr) Q E s := by
  obtain ⟨dx, od, I, hn⟩ := T.at S.inB
  exact get_value S.kn I (plainGet_of (kn_get P)).1 (findObj_own (kn_dict P) (kn_csl P) rfl (by rw [lookIn_ns hn]; rfl)) rfl (h _)
/-- x.compare -/
theorem get_cmp {x : Addr} {v : Value} {expr : Bool} (cx : Cx P f g s₀ B₀ B mu s.heap s.gens s.os) (T : TcB B x v)
    (h : ∀ q h' tk B', B.le B' → B' q = some (methodObj (.ref 35) (.ref x)) → Cx P f g s₀ B₀ B' mu h' s.gens s.os → Q (.ref q) { s with heap := h', toks := tk }) : wpAny (model prg w) A (getAttr (.ref x) "compare" expr) Q E s := by
  obtain ⟨dx, od, I, hn⟩ := T.at cx.sit.inB
  refine get_bind cx.sit.kn I (plainGet_of (kn_get P)).1 (PySem.W.findObj_fn (kn_dict P) (kn_cmp P) (kn_gf P) (kn_tk P) (by decide) (by rw [lookIn_ns hn]; rfl)) (plainGet_of (kn_get P)).2
    (wpAny_call (fn_get (s := { s with toks := s.toks + 1 }) cx.sit.kn (kn_35 P) (handed_on rfl ?_)))
  exact h _ _ _ _ (FM.le_put (cx.sit.none_of (get_size _))) (FM.put_self ..) (cx.pushB _)
end

set_option maxHeartbeats 2000000 in
theorem compare_code {w : World} {P : Params} {f g : Bool} {B : FM} {A : Around} {s : Shared} {R : Result → Shared → Prop} {x ka : Addr} {kvs : List Value} {n : Nat} {ks : List (Int × Int)} {u v : Value} {ra rb : Row}
    (S : Sit P f g B s.heap s.gens) (hA : AOk 3 A) (T : TcB B x (.ref ka)) (hk : B ka = some (lstO kvs n)) (hks : Reps B kvs (ks.map keyD)) (hcol : ∀ p ∈ ks, p.1 = 0 ∨ p.1 = 1 ∨ p.1 = 2) (hlk : ks.length ≤ 100)
    (hu : RowC B u ra) (hv : RowC B v rb) (hl : ra.c2.length = rb.c2.length)
    (k : ∀ t s' B', Mv B B' s s' → Sit P f g B' s'.heap s'.gens → R (.ok (.ret (.int (cmpZ ks ra rb) t))) s') : codeAny (model prg w) A (.call (.ref 35) ⟨[.ref x, u, v], []⟩) R s := by
  refine Mine.code_def S hA (def_compare S.stat) (bind_pure (binds := [("self", .ref x), ("left", u), ("right", v)]) (by rfl)) (.loc rfl (.loc rfl (.loc rfl .nil))) fun h' tk cx => ?_
  have k' : ∀ z t s' B', cmpZ ks ra rb = z → Mv B B' s s' → Sit P f g B' s'.heap s'.gens → R (.ok (.ret (.int z t))) s' := fun z t s' B' e m q => e ▸ k t s' B' m q
  generalize s.heap.objs.size = L at cx ⊢
  have hA1 : AOk 2 (A.deeper (envD "TupleComp.compare" (mscAt 1) [] 35 34 L)) := hA.deeper
  have cx1 : Cx P f g s B B [(L, NsP [("self", .ref x), ("left", u), ("right", v)])] h' s.gens s.os := cx
  clear cx
  refine wpAny_execs_cons (wpAny_For (Attribute_Name_ (ld_local cx1 (.head _) rfl (get_csl cx1.sit T fun tk2 => ?_))))
  refine itL cx1 hA1.handled hk fun I st h2 W cx2 => ?_
  have hlen : kvs.length = ks.length := by rw [hks.length, List.length_map]
  refine for_cx (s := { s with heap := h2, toks := _ }) W (fun i B' mu => B' = B ∧ ∃ l, mu = [(L, NsP l)] ∧ has l "left" u ∧ has l "right" v ∧ cmpZ (ks.drop i) ra rb = cmpZ ks ra rb) (FM.le.refl _) cx2 ⟨rfl, _, rfl, rfl, rfl, rfl⟩ ?_ ?_
  · intro i kv B' mu st' s3 hi hkv hy1 _ cx3
    refine absF fun K hK => ?_
    obtain ⟨rfl, l, rfl, hl1, hl2, hz⟩ := hy1
    have hik : i < ks.length := by omega
    obtain ⟨⟨c, d⟩, hcd⟩ : ∃ q, ks[i] = q := ⟨_, rfl⟩
    have hd : (ks.map keyD)[i]? = some (keyD (c, d)) := by rw [List.getElem?_map, List.getElem?_eq_getElem hik, hcd]; rfl
    obtain ⟨kv', hkv', hrep⟩ := hks.get hd
    rw [hkv] at hkv'
    cases hkv'
    have hc := hcol (c, d) (hcd ▸ List.getElem_mem hik)
    dsimp only at hc
    have hdrop : ks.drop i = (c, d) :: ks.drop (i + 1) := by rw [List.drop_eq_getElem_cons hik, hcd]
    rw [hdrop] at hz
    obtain ⟨aT, nT, t0, t1, rfl, eT⟩ := key_inv hrep
    have cx4 : Cx P f g s B' B' [(L, NsP l), (I, st')] s3.heap s3.gens s3.os := cx3.perm (List.Perm.swap ..)
    refine assign_pair cx4 hA1.handled eT rfl rfl rfl rfl rfl fun h5 tk5 cx5 => ?_
    refine wpAny_execs_cons (wpAny_Assign_Name (absQ fun KQ1 hQ1 => ?_))
    refine row_sub rfl (ld_local cx5 (.head _) (by walk_at "mqlk") (ld_local cx5 (.head _) (by walk_at "mqlk") ⟨B', ra, c, t0, cx5.sit.inB, hu, rfl, hc, fun x1 hx1 => hQ1 _ _ ?_⟩))
    refine stL cx5 rfl fun h6 tk6 cx6 => ?_
    refine wpAny_execs_cons (wpAny_Assign_Name (absQ fun KQ2 hQ2 => ?_))
    refine row_sub rfl (ld_local cx6 (.head _) (by walk_at "mqlk") (ld_local cx6 (.head _) (by walk_at "mqlk") ⟨B', rb, c, t0, cx6.sit.inB, hv, rfl, hc, fun x2 hx2 => hQ2 _ _ ?_⟩))
    refine stL cx6 rfl fun h7 tk7 cx7 => ?_
    refine wpAny_execs_cons (wpAny_If (wpAny_isTrue_Compare1 (ld_local cx7 (.head _) (by walk_at "mqlk") (ld_local cx7 (.head _) (by walk_at "mqlk") (lt_col cx7.sit.inB hc hx1 hx2 hl hA1.line ?_)))))
    refine wpAny_truthy_bool ?_
    rw [show cmpZ ((c, d) :: ks.drop (i + 1)) ra rb = if ltL (colZ c ra) (colZ c rb) = true then -d else if ltL (colZ c rb) (colZ c ra) = true then d else cmpZ (ks.drop (i + 1)) ra rb from rfl] at hz
    cases hlt : ltL (colZ c ra) (colZ c rb) with
    | true =>
      first | refine ifT ?_ | refine wpAny_ite_true rfl ?_ | rw [if_pos rfl]
      rw [if_pos hlt] at hz
      refine wpAny_execs_cons (wpAny_Return_some (wpAny_UnaryOp (ld_local cx7 (.head _) (by walk_at "mqlk") (PySem.P.neg_int (hK _ _ ?_)))))
      exact k' _ _ _ B' hz.symm cx7.mv cx7.sit
    | false =>
      first | refine ifF ?_ | refine wpAny_ite_false rfl ?_ | rw [if_neg (by decide)]
      rw [if_neg (by rw [hlt]; decide)] at hz
      refine wpAny_execs_nil ?_
      refine wpAny_execs_cons (wpAny_If (wpAny_isTrue_Compare1 (ld_local cx7 (.head _) (by walk_at "mqlk") (ld_local cx7 (.head _) (by walk_at "mqlk") (gt_col cx7.sit.inB hc hx1 hx2 hl hA1.line ?_)))))
      refine wpAny_truthy_bool ?_
      cases hgt : ltL (colZ c rb) (colZ c ra) with
      | true =>
        first | refine ifT ?_ | refine wpAny_ite_true rfl ?_ | rw [if_pos rfl]
        rw [if_pos hgt] at hz
        refine wpAny_execs_cons (wpAny_Return_some (ld_local cx7 (.head _) (by walk_at "mqlk") (hK _ _ ?_)))
        exact k' _ _ _ B' hz.symm cx7.mv cx7.sit
      | false =>
        first | refine ifF ?_ | refine wpAny_ite_false rfl ?_ | rw [if_neg (by decide)]
        rw [if_neg (by rw [hgt]; decide)] at hz
        refine wpAny_execs_nil (wpAny_execs_nil (hK _ _ ?_))
        refine ⟨B', _, ⟨rfl, _, rfl, ?_, ?_, hz⟩, FM.le.refl _, cx7.perm (List.Perm.swap ..)⟩
        · show List.lookup _ _ = _; walk_at "mqlk"
        · show List.lookup _ _ = _; walk_at "mqlk"
  · rintro B' mu s3 ⟨rfl, l, rfl, hl1, hl2, hz⟩ _ cx3
    refine wpAny_execs_cons (wpAny_Return_some (eI fun t tk => ?_))
    rw [hlen, List.drop_length] at hz
    exact k' _ _ _ B' hz.symm (Cx.mv (s' := { s3 with toks := tk }) cx3) cx3.sit

section
variable {w : World} {P : Params} {f g : Bool} {s₀ s : Shared} {B₀ B : FM} {mu : MU} {A : Around} {E : Value → Shared → Prop} {env : Env} {Q : Value → Shared → Prop}

theorem AOk.undr {n : Nat} {A : Around} {c : Code} (x : AOk (n + 1) A) (h1 : (A.under c).handled = A.handled) (h2 : (A.under c).depth ≤ A.depth + 1) (h3 : (A.under c).units ≤ A.units + 20) : AOk n (A.under c) :=
  ⟨h1.trans x.handled, by have := x.depth; omega, by have := x.units; omega⟩

/-- the names' object of an object gets its one name -/
theorem putName_ns {es : Array DictEntry} {l : List (Str × Value)} {name : Str} {h : Int} {t : Tok} {v : Value} : True := trivial
end
end Mine
end
section
open PySem PySem.W PyProof.Rows
set_option Elab.async false
set_option maxRecDepth 100000
set_option linter.unusedVariables false
namespace Mine

theorem k1_bm (P : Params) : nsFind (esOf P 3) "__builtins__" = some (.ref 4) := by kernel_rfl
theorem k1_4 (P : Params) : (K1 P).lookup 4 = some (k1o P 4) := by kernel_rfl
theorem k1_4a (P : Params) : (k1o P 4).cls = .type "module" := by kernel_rfl
theorem k1_4b (P : Params) : (k1o P 4).dict = some builtinsNs := by kernel_rfl
theorem k1_4c (P : Params) : (k1o P 4).data = .plain := by kernel_rfl
theorem Sit.bm {P : Params} {f g : Bool} {B : FM} {h : Heap} {gs : Array GenState} (S : Sit P f g B h gs) {Pl : Addr} (hp : Pl ≠ 4) : h.BuiltinsAt (nsFind (esOf P 3)) Pl :=
  ⟨4, _, k1_bm P, by decide, by decide, fun e => hp e.symm, S.at (k1_4 P) (notTab rfl), k1_4a P, k1_4b P, k1_4c P⟩

/-- a code's object that is frozen, and its table's place -/
inductive CodeB (B : FM) (c P : Addr) : Prop
  | mk (o : Obj) (vs : Array Value) (file : Str) (tf : Tok) (flags : Int) (tg : Tok) (inF : Bool) (text : Int) (tt : Tok) (e1 : B c = some o) (e2 : o.cls = .type "code") (e3 : o.data = .fields vs) (e4 : vs[11]? = some (.ref P)) (e5 : vs.getD 11 .none = .ref P) (e6 : vs.getD 18 .none = .str file tf)
      (e7 : vs.getD 7 .none = .int flags tg) (e8 : vs.getD 9 .none = .bool inF) (e9 : vs.getD 10 .none = .int text tt) (e10 : c ≠ P) : CodeB B c P
theorem CodeB.le {B B' : FM} {c P : Addr} (x : CodeB B c P) (h : B.le B') : CodeB B' c P := by
  obtain ⟨o, vs, a1, a2, a3, a4, a5, a6, a7, e1, e2, e3, e4, e5, e6, e7, e8, e9, e10⟩ := x
  exact ⟨o, vs, a1, a2, a3, a4, a5, a6, a7, h _ _ e1, e2, e3, e4, e5, e6, e7, e8, e9, e10⟩
theorem CodeB.hd {B : FM} {c P : Addr} {h : Heap} (x : CodeB B c P) (k : B.inn h) : CodeHd h c P := by
  obtain ⟨o, vs, a1, a2, a3, a4, a5, a6, a7, e1, e2, e3, e4, e5, e6, e7, e8, e9, e10⟩ := x
  exact ⟨o, vs, a1, a2, a3, a4, a5, a6, a7, k _ _ e1, e2, e3, e4, e5, e6, e7, e8, e9, e10⟩

def isStrB (v : Value) : Bool := match v with | .str _ _ => true | _ => false
def isIntB (v : Value) : Bool := match v with | .int _ _ => true | _ => false
def isBoolB (v : Value) : Bool := match v with | .bool _ => true | _ => false
theorem isStrB_of {v : Value} (h : isStrB v = true) : ∃ a b, v = .str a b := by cases v <;> first | exact ⟨_, _, rfl⟩ | cases h
theorem isIntB_of {v : Value} (h : isIntB v = true) : ∃ a b, v = .int a b := by cases v <;> first | exact ⟨_, _, rfl⟩ | cases h
theorem isBoolB_of {v : Value} (h : isBoolB v = true) : ∃ a, v = .bool a := by cases v <;> first | exact ⟨_, rfl⟩ | cases h
theorem Stat.code {P : Params} {B : FM} (S : Stat P B) (c Pl : Addr) (e1 : (K1 P).lookup c = some (k1o P c)) (e2 : (k1o P c).cls = .type "code") (e3 : (k1o P c).data = .fields (flOf P c)) (e4 : (flOf P c)[11]? = some (.ref Pl))
    (e5 : isStrB ((flOf P c).getD 18 .none) = true) (e6 : isIntB ((flOf P c).getD 7 .none) = true) (e7 : isBoolB ((flOf P c).getD 9 .none) = true) (e8 : isIntB ((flOf P c).getD 10 .none) = true) (hne : c ≠ Pl)
    (ht : (c == 51 || c == 58 || c == 91 || c == 108) = false) : CodeB B c Pl := by
  obtain ⟨a1, a2, q5⟩ := isStrB_of e5
  obtain ⟨a3, a4, q6⟩ := isIntB_of e6
  obtain ⟨a5, q7⟩ := isBoolB_of e7
  obtain ⟨a6, a7, q8⟩ := isIntB_of e8
  exact ⟨_, _, a1, a2, a3, a4, a5, a6, a7, S c _ e1 (notTab ht), e2, e3, e4, by rw [Array.getD_eq_getD_getElem?, e4]; rfl, q5, q6, q7, q8, hne⟩
theorem code_ctk {P : Params} {B : FM} (S : Stat P B) : CodeB B 62 58 := S.code 62 58 (by kernel_rfl) (by kernel_rfl) (by kernel_rfl) (by kernel_rfl) (by kernel_rfl) (by kernel_rfl) (by kernel_rfl) (by kernel_rfl) (by decide) rfl
theorem code_merger {P : Params} {B : FM} (S : Stat P B) : CodeB B 95 91 := S.code 95 91 (by kernel_rfl) (by kernel_rfl) (by kernel_rfl) (by kernel_rfl) (by kernel_rfl) (by kernel_rfl) (by kernel_rfl) (by kernel_rfl) (by decide) rfl
theorem code_due {P : Params} {B : FM} (S : Stat P B) : CodeB B 110 108 := S.code 110 108 (by kernel_rfl) (by kernel_rfl) (by kernel_rfl) (by kernel_rfl) (by kernel_rfl) (by kernel_rfl) (by kernel_rfl) (by kernel_rfl) (by decide) rfl
theorem code_acs {P : Params} {B : FM} (S : Stat P B) : CodeB B 55 51 := S.code 55 51 (by kernel_rfl) (by kernel_rfl) (by kernel_rfl) (by kernel_rfl) (by kernel_rfl) (by kernel_rfl) (by kernel_rfl) (by kernel_rfl) (by decide) rfl

section
variable {w : World} {P : Params} {f g : Bool} {s₀ s : Shared} {B₀ B : FM} {mu : MU} {h h' : Heap} {gs : Array GenState} {os : OsState} {A : Around} {E : Value → Shared → Prop} {env : Env} {Q : Value → Shared → Prop}

/-- an object that came lately is frozen -/
theorem Cx.late (x : Cx P f g s₀ B₀ B mu h' gs os) {a : Addr} {o : Obj} (h0 : s₀.heap.get? a = none) (hb : B a = none) (hm : ∀ p ∈ mu, p.1 ≠ a) (e : h'.get? a = some o) : B.le (B.put a o) ∧ Cx P f g s₀ B₀ (B.put a o) mu h' gs os := by
  have h1 : Cx P f g s₀ B₀ B ((a, EqP o) :: mu) h' gs os := by
    refine ⟨x.sit, x.ext, x.le, x.new, x.os, x.tab0, fun q hq => ?_, ?_, fun q hq => ?_⟩
    · rcases List.mem_cons.mp hq with rfl | hq
      · exact ⟨_, e, ⟨rfl⟩⟩
      · exact x.mus q hq
    · rw [List.map_cons]
      refine List.nodup_cons.mpr ⟨fun hm' => ?_, x.nd⟩
      obtain ⟨q, hq, e'⟩ := List.mem_map.mp hm'
      exact hm q hq e'
    · rcases List.mem_cons.mp hq with rfl | hq
      · exact ⟨h0, hb⟩
      · exact x.fresh q hq
  obtain ⟨o', ⟨rfl⟩, _, _, y⟩ := h1.freeze
  exact ⟨FM.le_put hb, y⟩
theorem Cx.mu_ne (x : Cx P f g s₀ B₀ B mu h gs os) {a : Addr} (e : h.get? a = none) : ∀ p ∈ mu, p.1 ≠ a := fun p hp q => by
  obtain ⟨o, e', _⟩ := x.mus p hp
  rw [q, e] at e'; cases e'

/-- one of the tables of codes has grown -/
theorem Cx.tabUpd {f' g' : Bool} (x : Cx P f g s₀ B₀ B mu h gs os) {a : Addr} (ht : Tab a) (hs : Heap.ExtBut a h h') (T : TabOk f' g' B h') : Cx P f' g' s₀ B₀ B mu h' gs os :=
  ⟨⟨fun b o e => hs b o (fun q => by rw [q, x.sit.tabB a ht] at e; cases e) (x.sit.inB b o e), x.sit.stat, T, x.sit.tabB, x.sit.bare⟩, fun b o t e => hs b o (fun q => t (q ▸ ht)) (x.ext b o t e), x.le, x.new, x.os, x.tab0,
   fun p hp => let ⟨o, e, r⟩ := x.mus p hp; ⟨o, hs _ _ (fun q => x.notab hp (q ▸ ht)) e, r⟩, x.nd, x.fresh⟩

theorem get_none_ge {h : Heap} {a : Addr} (e : h.objs.size ≤ a) : h.get? a = none := by
  cases q : h.get? a with
  | none => rfl
  | some o => exact absurd (Heap.lt_size q) (Nat.not_lt.mpr e)

/-- a def is made, its code anew: the table is one of the frame's own -/
theorem mkfn_mu {name qual : Str} {params : Arguments} {body : List Stmt} {scope : Scope} {cl : List (Str × Addr)} {c Pl : Addr} {ps : Array Value} {pos : Pos} {firstLine : Nat} (i : Nat) (cx : Cx P f g s₀ B₀ B mu s.heap s.gens s.os)
    (hP : mu[i]? = some (Pl, EqP (tabObj ps))) (hcl : closureFor scope env = pure cl) (hgl : env.globals = mainGlobals) (hcode : env.code = .ref c) (C : CodeB B c Pl) (ht : TriplesOk ps.toList) (hnf : codeAmong pos ps.toList = none)
    (k : ∀ fa c' h' tk B', B.le B' → DefB B' fa c' qual params body scope cl .none → (∃ o, B' fa = some o ∧ o.cls = .type "function" ∧ o.slots = #[]) → Cx P f g s₀ B₀ B' (mu.set i (Pl, EqP (tabObj (ps ++ #[rawInt pos.line, rawInt pos.col, .ref c'])))) h' s.gens s.os → Q (.ref fa) { s with heap := h', toks := tk }) :
    wpAny (model prg w) A (makeFunction name qual params (.stmts body) scope env [] [] [] pos firstLine) Q E s := by
  obtain ⟨oP, hoP, ⟨hoe⟩⟩ := cx.mus _ (List.mem_of_getElem? hP)
  have hoe' : oP = tabObj ps := hoe
  subst hoe'
  have hPB := (cx.fresh _ (List.mem_of_getElem? hP)).2
  have hG := cx.sit.glob
  have n4 : Pl ≠ 4 := fun q => by
    have := cx.sit.stat 4 _ (k1_4 P) (notTab rfl)
    rw [← q, hPB] at this; cases this
  have n3 : mainGlobals ≠ Pl := fun q => by
    have := cx.sit.stat 3 _ (k1_3 P) (notTab rfl)
    rw [show (3 : Addr) = Pl from q, hPB] at this; cases this
  refine makeFunction_K hcl hgl hG hcode (C.hd cx.sit.inB) hoP ht hnf n3 (cx.sit.bm n4) fun c' ctv doc h1 tk hx hge hlt hrec hP' => ?_
  have hc0 : s.heap.get? c' = none := get_none_ge hge
  have hcP : c' ≠ Pl := fun q => by rw [q, hoP] at hc0; cases hc0
  have c1 := cx.updE i hP hx hP' (p' := EqP (tabObj (ps ++ #[rawInt pos.line, rawInt pos.col, .ref c']))) ⟨rfl⟩
  obtain ⟨cc, oc, vs, t, e, hoc, hdc, hq⟩ := hrec
  cases e
  have hmne : ∀ p ∈ mu.set i (Pl, EqP (tabObj (ps ++ #[rawInt pos.line, rawInt pos.col, .ref c']))), p.1 ≠ c' := fun p hp q => by
    rcases List.mem_or_eq_of_mem_set hp with hp | rfl
    · exact cx.mu_ne hc0 p hp q
    · exact hcP q.symm
  obtain ⟨hle1, c2⟩ := c1.late (cx.old_none hc0) (cx.sit.none_of hc0) hmne hoc
  have hf0 := get_size h1
  have c3 := c2.pushB (fnMade name qual params body scope cl doc ((nsFind (esOf P 3) "__name__").getD .none) c' ctv)
  have hle2 := FM.le_put (o := fnMade name qual params body scope cl doc ((nsFind (esOf P 3) "__name__").getD .none) c' ctv) (c2.sit.none_of hf0)
  refine k _ c' _ tk _ (hle1.trans hle2) ⟨_, ⟨⟨_, FM.put_self .., rfl, rfl⟩, ⟨c', oc, vs, t, rfl, hle2 _ _ (FM.put_self ..), hdc, hq⟩⟩, rfl, rfl, rfl, rfl, rfl, rfl, rfl, rfl, rfl, rfl⟩ ⟨_, FM.put_self .., rfl, rfl⟩ c3
end
end Mine
end
section
open PySem PySem.W PyProof.Rows
set_option Elab.async false
set_option maxRecDepth 100000
set_option linter.unusedVariables false
namespace Mine

/-- the names of a class as it is made -/
structure Ns1P (l : List (Str × Value)) (o : Obj) : Prop where
  c : o.cls = .type "dict"
  h : ∃ es ep, o.data = .dict es ep ∧ StrKeys es ∧ UniqKeys es ∧ ∀ n, nsFind es n = l.lookup n
theorem Ns1P.ns {l : List (Str × Value)} {o : Obj} {h : Heap} {a : Addr} (x : Ns1P l o) (e : h.get? a = some o) : h.Ns a (fun n => l.lookup n) := let ⟨es, ep, r1, r2, _, r4⟩ := x.h; ⟨o, es, ep, e, r1, r2, r4⟩

theorem putName_cls (name : Str) (hs : Int) (key v : Value) (o : Obj) : (Obj.putName name hs key v o).cls = o.cls := by
  obtain ⟨c, d, dt, sl⟩ := o
  cases dt <;> first | rfl | (simp only [Obj.putName_eq, Obj.putNameByArray]; split <;> rfl)
theorem Ns1P.put {l : List (Str × Value)} {o : Obj} {name : Str} {hs : Int} {t : Tok} {v : Value} (x : Ns1P l o) : Ns1P (putA name v l) (Obj.putName name hs (.str name t) v o) := by
  obtain ⟨hc, es, ep, hd, hk, hu, hm⟩ := x
  refine ⟨by rw [putName_cls]; exact hc, ?_⟩
  obtain ⟨c, d, dt, sl⟩ := o
  subst hd
  cases hi : es.findIdx? (·.key.isStr name) with
  | some i =>
    refine ⟨_, ep, by simp only [Obj.putName_eq, Obj.putNameByArray, hi]; rfl, hk.modify _ _, hu.modify _ _, fun n => ?_⟩
    rw [putA_lookup, ← hm]; exact findBy_modify (fun n v => v.isStr n) Value.isStr_inj es name n v i hi
  | none =>
    refine ⟨_, ep + 1, by simp only [Obj.putName_eq, Obj.putNameByArray, hi]; rfl, hk.push _ _ _ _, hu.push _ _ _ _ hi, fun n => ?_⟩
    rw [putA_lookup, ← hm]
    exact findBy_push (fun n v => v.isStr n) es name n _ _ v (fun y => by
      show (name == y) = decide (y = name)
      by_cases h : y = name
      · subst h; simp
      · have : ¬ name = y := fun e => h e.symm
        simp [h, this]) hi
theorem Ns1P.freed {l : List (Str × Value)} {o : Obj} (x : Ns1P l o) : o.isFreed = false := by
  obtain ⟨_, es, ep, hd, _⟩ := x
  obtain ⟨c, d, dt, sl⟩ := o
  subst hd; rfl
def delA (name : Str) (l : List (Str × Value)) : List (Str × Value) := l.filter fun p => !(p.1 == name)
theorem delA_lookup (name n : Str) : ∀ l : List (Str × Value), (delA name l).lookup n = if n = name then none else l.lookup n
  | [] => by unfold delA; by_cases h : n = name <;> simp [h]
  | (k, v) :: r => by
    have ih := delA_lookup name n r
    unfold delA at ih ⊢
    rw [List.filter_cons]
    by_cases hk : k = name
    · subst hk
      simp only [beq_self_eq_true, Bool.not_true, Bool.false_eq_true, if_false]
      rw [ih, List.lookup_cons]
      by_cases hn : n = k
      · subst hn; simp
      · have : (n == k) = false := by simpa using hn
        simp [hn, this]
    · have hk' : (!(k == name)) = true := by simpa using hk
      simp only [hk', if_true]
      rw [List.lookup_cons, List.lookup_cons, ih]
      by_cases hn : n = k
      · subst hn; simp [hk]
      · have : (n == k) = false := by simpa using hn
        simp only [this]
theorem Ns1P.del {l : List (Str × Value)} {o : Obj} {name : Str} (x : Ns1P l o) (hin : (l.lookup name).isSome = true) : Ns1P (delA name l) (Obj.dropName name o) := by
  obtain ⟨hc, es, ep, hd, hk, hu, hm⟩ := x
  obtain ⟨c, d, dt, sl⟩ := o
  subst hd
  cases hi : es.findIdx? (·.key.isStr name) with
  | some i =>
    refine ⟨by simp only [Obj.dropName_eq, Obj.dropNameByArray, hi] <;> exact hc, _, ep + 1, by simp only [Obj.dropName_eq, Obj.dropNameByArray, hi] <;> rfl, hk.erase i, hu.erase i, fun n => ?_⟩
    rw [nsFind_erase hu hi n, hm, delA_lookup]
  | none =>
    exfalso
    rw [← hm name] at hin
    simp only [nsFind, findBy, Option.isSome_map] at hin
    obtain ⟨e, he⟩ := Option.isSome_iff_exists.mp hin
    have h1 := Array.find?_some he
    have h2 := (Array.findIdx?_eq_none_iff.mp hi) e (Array.mem_of_find?_eq_some he)
    rw [h2] at h1; cases h1

section
variable {w : World} {P : Params} {f g : Bool} {s₀ s : Shared} {B₀ B : FM} {mu : MU} {h h' : Heap} {gs : Array GenState} {os : OsState} {A : Around} {E : Value → Shared → Prop} {env : Env} {M : Model}

theorem nsSet_raw {a : Addr} {o : Obj} {name : Str} {v : Value} {es : Array DictEntry} {ep : Nat} {Q : Unit → Shared → Prop} (ho : s.heap.get? a = some o) (hd : o.data = .dict es ep) (hk : StrKeys es)
    (hq : ∀ hs, Q () { s with heap := s.heap.update a (Obj.putName name hs (.str name s.toks) v), toks := s.toks + 1 }) : wpAny M A (nsSet a name v) Q E s := by
  have hany : es.any (·.refKey) = false := by
    rw [Array.any_eq_false']; intro e he; obtain ⟨n, t, h⟩ := hk e he; simp [DictEntry.refKey, h]
  unfold nsSet
  refine wpAny_bind (m := strHash name) (fun Γ p hΓ => ?_)
  simp only [strHash, Sem.wp_bind', Sem.wp_cmd_ask, Sem.wp_pure']
  refine wpAny_bind (wpAny_mkText (wpAny_bind (wpAny_loadPart ho ?_)))
  simp only [hd, aRefKeyMayBeTheName_eq, aRefKeyMayBeTheNameByArray, hany, Bool.and_false, Bool.false_eq_true, if_false]
  exact wpAny_updatePart ho (hq _)

theorem nsSetC {a : Addr} {l : List (Str × Value)} {x : Str} {v : Value} {Q : Unit → Shared → Prop} (i : Nat) (cx : Cx P f g s₀ B₀ B mu s.heap s.gens s.os) (hi : mu[i]? = some (a, Ns1P l))
    (k : ∀ h' tk, Cx P f g s₀ B₀ B (mu.set i (a, Ns1P (putA x v l))) h' s.gens s.os → Q () { s with heap := h', toks := tk }) : wpAny M A (nsSet a x v) Q E s := by
  obtain ⟨o, e, r⟩ := cx.get i hi
  obtain ⟨es, ep, hd, hk, _⟩ := r.h
  exact nsSet_raw e hd hk fun hs => k _ _ (cx.upd i hi (Heap.SameBut.update ..) (Heap.get?_update_self _ e (Ns1P.put r).freed) r.put)

theorem st_class {l : List (Str × Value)} {x : Str} {v : Value} {Q : Unit → Shared → Prop} (i : Nat) (cx : Cx P f g s₀ B₀ B mu s.heap s.gens s.os) (hi : mu[i]? = some (env.locals, Ns1P l))
    (k : ∀ h' tk, Cx P f g s₀ B₀ B (mu.set i (env.locals, Ns1P (putA x v l))) h' s.gens s.os → Q () { s with heap := h', toks := tk }) (he : storeName env x v = localSet env x v := by rfl) : wpAny M A (storeName env x v) Q E s := by
  obtain ⟨o, e, r⟩ := cx.get i hi
  rw [he]
  unfold localSet
  refine wpAny_bind (wpAny_load e ?_)
  rw [r.c]
  exact nsSetC i cx hi k

theorem nsDelC {a : Addr} {l : List (Str × Value)} {x : Str} {Q : Bool → Shared → Prop} (i : Nat) (cx : Cx P f g s₀ B₀ B mu s.heap s.gens s.os) (hi : mu[i]? = some (a, Ns1P l)) (hin : (l.lookup x).isSome = true)
    (k : ∀ h', Cx P f g s₀ B₀ B (mu.set i (a, Ns1P (delA x l))) h' s.gens s.os → Q true { s with heap := h' }) : wpAny M A (nsDel a x) Q E s := by
  obtain ⟨o, e, r⟩ := cx.get i hi
  obtain ⟨es, ep, hd, hk, hu, hm⟩ := id r.h
  have hany : es.any (·.refKey) = false := by
    rw [Array.any_eq_false']; intro e he; obtain ⟨n, t, h⟩ := hk e he; simp [DictEntry.refKey, h]
  have hb : es.any (·.key.isStr x) = true := by
    rw [← hm x] at hin
    simp only [nsFind, findBy, Option.isSome_map] at hin
    obtain ⟨en, he⟩ := Option.isSome_iff_exists.mp hin
    have h1 := Array.find?_some he
    exact Array.any_eq_true'.mpr ⟨en, Array.mem_of_find?_eq_some he, h1⟩
  have hhas : nsHas x o = pure true := by
    rw [nsHas_eq]; unfold nsHasByArray; rw [hd]
    show (if (es.any fun y => y.key.isStr x) = true then _ else _) = _
    rw [if_pos hb]
  unfold nsDel
  refine wpAny_bind (wpAny_loadPart e ?_)
  rw [hhas]
  refine wpAny_bind (wpAny_pure ?_)
  refine wpAny_bind (wpAny_updatePart e (wpAny_pure ?_))
  exact k _ (cx.upd i hi (Heap.SameBut.update ..) (Heap.get?_update_self _ e (Ns1P.del r hin).freed) (r.del hin))
end
end Mine
end
section
open PySem PySem.W PySem.W.X PyProof.Rows
set_option Elab.async false
set_option maxRecDepth 100000
set_option maxHeartbeats 0
set_option linter.unusedVariables false
namespace Mine
def A5 : Around := { handled := none, depth := 900, units := 9000, guards := none, frames := none }
theorem to_A5 {α : Type} {M : Model} {A : Around} {n : Nat} {t : Sem α} {Q : α → Shared → Prop} {E : Value → Shared → Prop} {s : Shared} (hA : AOk n A) (h : wpAny M A5 t Q E s) : wpAny M A t Q E s :=
  fun Γ p hΓ => h Γ p ⟨hΓ.1.trans hA.handled, by have := hΓ.2.1; have := hA.depth; show _ ≤ 900; omega, fun l e => (nomatch e), fun g e => (nomatch e), by have := hΓ.2.2.2.2; have := hA.units; show _ ≤ 9000; omega⟩
def A4 : Around := { handled := none, depth := 800, units := 7000, guards := none, frames := none }
theorem to_A4 {α : Type} {M : Model} {A : Around} {t : Sem α} {Q : α → Shared → Prop} {E : Value → Shared → Prop} {s : Shared} (hA : AOk 100 A) (h : wpAny M A4 t Q E s) : wpAny M A t Q E s :=
  fun Γ p hΓ => h Γ p ⟨hΓ.1.trans hA.handled, by have := hΓ.2.1; have := hA.depth; show _ ≤ 800; omega, fun l e => (nomatch e), fun g e => (nomatch e), by have := hΓ.2.2.2.2; have := hA.units; show _ ≤ 7000; omega⟩
theorem ok_A4 : AOk 100 A4 := ⟨rfl, by decide, by decide⟩
/-- what a short run left: one new object -/
structure One (h h' : Heap) (a : Addr) (o : Obj) : Prop where
  keep : ∀ b o, h.get? b = some o → h'.get? b = some o
  new : h.get? a = none
  at' : h'.get? a = some o
theorem One.of {h h' : Heap} {a : Addr} {o : Obj} (D : Mem h h' [] [(a, o)]) : One h h' a o := ⟨fun b o e => D.keep b o e (by simp [away]), (D.nw _ (.head _)).2, (D.nw _ (.head _)).1⟩
theorem keep_of {h h' : Heap} {nw : List (Addr × Obj)} (D : Mem h h' [] nw) : ∀ b o, h.get? b = some o → h'.get? b = some o := fun b o e => D.keep b o e (by simp [away])
theorem end_one {Q : Value → Shared → Prop} {h₀ h' : Heap} {g : Array GenState} {d : Drawn} {t : Tok} {os : OsState} {a : Addr} {o oo : Obj} (k : ∀ a o h' t, One h₀ h' a o → o = oo → Q (.ref a) ⟨h', g, d, t, os⟩) (D : Mem h₀ h' [] [(a, o)]) (e : o = oo) : Q (.ref a) ⟨h', g, d, t, os⟩ := k a o h' t (One.of D) e
section
local macro_rules | `(tactic| x_close) => `(tactic| (refine end_one (by assumption) (by assumption) ?_; kernel_rfl))
theorem prep_x {w : World} {s : Shared} {Q : Value → Shared → Prop} {t : Tok}
    (k : ∀ a o h' t, One s.heap h' a o → o = { cls := .type "builtin_function_or_method", data := .fields #[.builtin "type.__prepare__", .type "type"] } → Q (.ref a) ⟨h', s.gens, s.drawn, t, s.os⟩) : wpAny (model PySem.Challenge.rw_mq0160_01.row.prog w) A5 (getAttrBy (.type "type") (.str "__prepare__" t) false) Q (fun _ _ => False) s := by
  have hh := (show PySem.Challenge.rw_mq0160_01 = PySem.Challenge.rw_mq0160_01 ∧ Mine.K1 = Mine.K1 from ⟨rfl, rfl⟩)
  revert hh
  k_fill
  intro _
  refine x_skim 400 ?_
  x_run
theorem prep_c {w : World} {s : Shared} {Q : Value → Shared → Prop} {a bt : Addr} {t : Tok} (hp : s.heap.get? a = some { cls := .type "builtin_function_or_method", data := .fields #[.builtin "type.__prepare__", .type "type"] })
    (k : ∀ a o h' t, One s.heap h' a o → o = { cls := .type "dict", data := .dict #[] } → Q (.ref a) ⟨h', s.gens, s.drawn, t, s.os⟩) : wpAny (model PySem.Challenge.rw_mq0160_01.row.prog w) A5 (call (.ref a) [.str "K" t, .ref bt]) Q (fun _ _ => False) s := by
  have hh := (show PySem.Challenge.rw_mq0160_01 = PySem.Challenge.rw_mq0160_01 ∧ Mine.K1 = Mine.K1 from ⟨rfl, rfl⟩)
  revert hh
  k_fill
  intro _
  refine x_skim 400 ?_
  x_run
end
end Mine
end
section
open PySem PySem.W PySem.W.X PyProof.Rows
set_option Elab.async false
set_option maxRecDepth 100000
set_option maxHeartbeats 0
set_option linter.unusedVariables false
namespace Mine
theorem end_one' {Q : Value → Shared → Prop} {h₀ h' : Heap} {g : Array GenState} {d : Drawn} {t : Tok} {os : OsState} {a : Addr} {o oo : Obj} (k : ∀ a o h' t, One h₀ h' a o → o = oo → Q (.ref a) ⟨h', g, d, t, os⟩) (D : Mem h₀ h' [] [(a, o)]) (e : o = oo) : Q (.ref a) ⟨h', g, d, t, os⟩ := k a o h' t (One.of D) e
theorem end_none {Q : Value → Shared → Prop} {h₀ h' : Heap} {g : Array GenState} {d : Drawn} {t : Tok} {os : OsState} {nw : List (Addr × Obj)} (k : ∀ h' t, (∀ b o, h₀.get? b = some o → h'.get? b = some o) → Q .none ⟨h', g, d, t, os⟩) (D : Mem h₀ h' [] nw) : Q .none ⟨h', g, d, t, os⟩ := k h' t (keep_of D)
section
local macro_rules | `(tactic| x_close) => `(tactic| (refine end_one (by assumption) (by assumption) ?_; kernel_rfl))
theorem sup_x {w : World} {s : Shared} {Q : Value → Shared → Prop} {C D : Addr} {sl : Array (Option Value)} (hC : s.heap.get? C = some { cls := .type "type", data := .cls { name := "K", bases := [.type "object"], mro := [.ref C, .type "object"], ns := D, qualname := "cmp_to_key.<locals>.K", hasDict := false, slotNames := ["obj"] }, slots := sl })
    (k : ∀ a o h' t, One s.heap h' a o → o = { cls := .type "super", data := .fields #[.ref C, .ref C, .ref C] } → Q (.ref a) ⟨h', s.gens, s.drawn, t, s.os⟩) : wpAny (model PySem.Challenge.rw_mq0160_01.row.prog w) A5 (call (.type "super") [.ref C, .ref C]) Q (fun _ _ => False) s := by
  have hh := (show PySem.Challenge.rw_mq0160_01 = PySem.Challenge.rw_mq0160_01 ∧ Mine.K1 = Mine.K1 from ⟨rfl, rfl⟩)
  revert hh
  k_fill
  intro _
  refine x_skim 400 ?_
  x_run
theorem get_x {w : World} {s : Shared} {Q : Value → Shared → Prop} {C D : Addr} {sl : Array (Option Value)} (hC : s.heap.get? C = some { cls := .type "type", data := .cls { name := "K", bases := [.type "object"], mro := [.ref C, .type "object"], ns := D, qualname := "cmp_to_key.<locals>.K", hasDict := false, slotNames := ["obj"] }, slots := sl })
    (k : ∀ a o h' t, One s.heap h' a o → o = { cls := .type "builtin_function_or_method", data := .fields #[.builtin "object.__init_subclass__", .ref C] } → Q (.ref a) ⟨h', s.gens, s.drawn, t, s.os⟩) : wpAny (model PySem.Challenge.rw_mq0160_01.row.prog w) A5 (call (.builtin "classmethod_descriptor.__get__") [.builtin "object.__init_subclass__", .none, .ref C]) Q (fun _ _ => False) s := by
  have hh := (show PySem.Challenge.rw_mq0160_01 = PySem.Challenge.rw_mq0160_01 ∧ Mine.K1 = Mine.K1 from ⟨rfl, rfl⟩)
  revert hh
  k_fill
  intro _
  refine x_skim 400 ?_
  x_run
end
theorem end_none0 {Q : Value → Shared → Prop} {h₀ : Heap} {g : Array GenState} {d : Drawn} {t : Tok} {os : OsState} (k : ∀ h' t, (∀ b o, h₀.get? b = some o → h'.get? b = some o) → Q .none ⟨h', g, d, t, os⟩) : Q .none ⟨h₀, g, d, t, os⟩ := k h₀ t fun _ _ e => e
section
local macro_rules | `(tactic| x_close) => `(tactic| first | (refine end_none (by assumption) (by assumption)) | (refine end_none0 (by assumption)))
theorem isub_x {w : World} {s : Shared} {Q : Value → Shared → Prop} {C D a : Addr} {sl : Array (Option Value)} (hC : s.heap.get? C = some { cls := .type "type", data := .cls { name := "K", bases := [.type "object"], mro := [.ref C, .type "object"], ns := D, qualname := "cmp_to_key.<locals>.K", hasDict := false, slotNames := ["obj"] }, slots := sl })
    (ha : s.heap.get? a = some { cls := .type "builtin_function_or_method", data := .fields #[.builtin "object.__init_subclass__", .ref C] })
    (k : ∀ h' t, (∀ b o, s.heap.get? b = some o → h'.get? b = some o) → Q .none ⟨h', s.gens, s.drawn, t, s.os⟩) : wpAny (model PySem.Challenge.rw_mq0160_01.row.prog w) A5 (call (.ref a) []) Q (fun _ _ => False) s := by
  have hh := (show PySem.Challenge.rw_mq0160_01 = PySem.Challenge.rw_mq0160_01 ∧ Mine.K1 = Mine.K1 from ⟨rfl, rfl⟩)
  revert hh
  k_fill
  intro _
  refine x_skim 400 ?_
  x_run
end
end Mine
end
section
open PySem PySem.W PyProof.Rows
set_option Elab.async false
set_option maxRecDepth 100000
set_option linter.unusedVariables false
namespace Mine
section
variable {M : Model} {A : Around} {E : Value → Shared → Prop} {s : Shared}
theorem classCode_raw {env : Env} {c Pl : Addr} {ps : Array Value} {pos : Pos} {firstLine : Nat} {name qualname : Str} {scope : Scope} {Q : Value → Shared → Prop} (hc : env.code = .ref c) (C : CodeHd s.heap c Pl) (hop : s.heap.get? Pl = some (tabObj ps))
    (htr : TriplesOk ps.toList) (hnf : codeAmong pos ps.toList = none)
    (hQ : ∀ c' P' h' tk, Heap.ExtBut Pl s.heap h' → s.heap.objs.size ≤ c' → s.heap.objs.size ≤ P' → h'.get? Pl = some (tabObj (ps ++ #[rawInt pos.line, rawInt pos.col, .ref c'])) → CodeHd h' c' P' → h'.get? P' = some (tabObj #[]) → Q (.ref c') { s with heap := h', toks := tk }) :
    wpAny M A (classCode env pos firstLine name qualname scope) Q E s := by
  obtain ⟨o, vs, file, tf, flags, tg, inF, text, tt, ho, hcls, hd, h11, h11', h2, h7, h9, h10, hne⟩ := id C
  unfold classCode codeAt
  rw [hc, if_neg (show ¬ ((Value.ref c == Value.none) = true) from Bool.false_ne_true)]
  refine wpAny_bind (wpAny_fieldsOf ho hd ?_)
  rw [h11']
  refine wpAny_bind (wpAny_fieldsOf hop rfl ?_)
  rw [hnf, h2, h7, h9, h10]
  refine wpAny_bind (wpAny_newCodeX fun c' P' h' tk hk hc' hP' hcode' htab' hrec' => ?_)
  have hop' := hk _ _ hop
  refine wpAny_bind (wpAny_updateFieldsOfTheText hop' rfl ?_)
  have hnew : (Obj.mapFields (fun vs => if (codeAmong pos vs.toList).isSome = true then vs else vs ++ #[rawInt pos.line, rawInt pos.col, .ref c']) (tabObj ps)) = tabObj (ps ++ #[rawInt pos.line, rawInt pos.col, .ref c']) := by
    show tabObj (if (codeAmong pos ps.toList).isSome = true then ps else ps ++ #[rawInt pos.line, rawInt pos.col, .ref c']) = _
    rw [hnf]; rfl
  have hget := Heap.get?_update_self (h := h') (fun o => Obj.mapFields (fun vs => if (codeAmong pos vs.toList).isSome = true then vs else vs ++ #[rawInt pos.line, rawInt pos.col, .ref c']) o) hop' (by rw [hnew]; rfl)
  rw [hnew] at hget
  refine wpAny_bind (wpAny_fieldsOf hget rfl ?_)
  have hl : (ps ++ #[rawInt pos.line, rawInt pos.col, Value.ref c']).toList = ps.toList ++ [rawInt pos.line, rawInt pos.col, .ref c'] := by simp
  rw [hl, codeAmong_snoc _ htr hnf]
  have hcP : c' ≠ Pl := Nat.ne_of_gt (Nat.lt_of_lt_of_le (Heap.lt_size hop) hc')
  have hPP : P' ≠ Pl := Nat.ne_of_gt (Nat.lt_of_lt_of_le (Heap.lt_size hop) hP')
  have C' := CodeHd.of hcode' htab'
  refine wpAny_pure (hQ c' P' _ _ (fun b o' hb e => ((Heap.SameBut.update ..).extBut b o' hb (hk b o' e))) hc' hP' hget ?_ ((Heap.SameBut.update ..).extBut _ _ hPP htab'.2))
  obtain ⟨o, vs, a1, a2, a3, a4, a5, a6, a7, e, r⟩ := C'
  exact ⟨o, vs, a1, a2, a3, a4, a5, a6, a7, (Heap.SameBut.update ..).extBut _ _ hcP e, r⟩
end
section
variable {w : World} {P : Params} {f g : Bool} {s₀ s : Shared} {B₀ B : FM} {mu : MU} {A : Around} {E : Value → Shared → Prop} {env : Env} {M : Model}
theorem TabOk.set58 {h h' : Heap} {ps : Array Value} (x : TabOk f g B h) (hs : Heap.ExtBut 58 h h') (e : h'.get? 58 = some (tabObj ps)) : TabOk false g B h' where
  t51 := let ⟨ps, e, r, q⟩ := x.t51; ⟨ps, hs _ _ (by decide) e, (fun z => nomatch z), q⟩
  t58 := ⟨_, e, fun z => nomatch z⟩
  t91 := let ⟨ps, e, r, q⟩ := x.t91; ⟨ps, hs _ _ (by decide) e, (fun z => nomatch z), q⟩
  t108 := let ⟨ps, e, r, q⟩ := x.t108; ⟨ps, hs _ _ (by decide) e, (fun z => nomatch z), q⟩

theorem classCode58 {pos : Pos} {firstLine : Nat} {name qualname : Str} {scope : Scope} {Q : Value → Shared → Prop} (cx : Cx P true g s₀ B₀ B mu s.heap s.gens s.os) (hc : env.code = .ref 62)
    (k : ∀ c' P' h' tk B', B.le B' → CodeB B' c' P' → Cx P false g s₀ B₀ B' ((P', EqP (tabObj #[])) :: mu) h' s.gens s.os → Q (.ref c') { s with heap := h', toks := tk }) :
    wpAny M A (classCode env pos firstLine name qualname scope) Q E s := by
  obtain ⟨ps, hps, h0⟩ := cx.sit.tabs.t58
  have := h0 rfl
  subst this
  refine classCode_raw hc ((code_ctk cx.sit.stat).hd cx.sit.inB) hps trivial rfl fun c' P' h' tk hx hc' hP' hT C' hT' => ?_
  have n1 : s.heap.get? c' = none := get_none_ge hc'
  have n2 : s.heap.get? P' = none := get_none_ge hP'
  have c1 : Cx P false g s₀ B₀ B mu h' s.gens s.os := cx.tabUpd (.inr (.inl rfl)) hx (cx.sit.tabs.set58 hx hT)
  obtain ⟨o, vs, a1, a2, a3, a4, a5, a6, a7, e, r1, r2, r3, r4, r5, r6, r7, r8, hne⟩ := C'
  obtain ⟨hle, c2⟩ := c1.late (cx.old_none n1) (cx.sit.none_of n1) (cx.mu_ne n1) e
  refine k c' P' h' tk _ hle ⟨o, vs, a1, a2, a3, a4, a5, a6, a7, FM.put_self .., r1, r2, r3, r4, r5, r6, r7, r8, hne⟩ ?_
  -- the new table turns
  refine ⟨c2.sit, c2.ext, c2.le, c2.new, c2.os, c2.tab0, fun q hq => ?_, ?_, fun q hq => ?_⟩
  · rcases List.mem_cons.mp hq with rfl | hq
    · exact ⟨_, hT', ⟨rfl⟩⟩
    · exact c2.mus q hq
  · rw [List.map_cons]
    refine List.nodup_cons.mpr ⟨fun hm => ?_, c2.nd⟩
    obtain ⟨q, hq, e⟩ := List.mem_map.mp hm
    exact cx.mu_ne n2 q hq e
  · rcases List.mem_cons.mp hq with rfl | hq
    · exact ⟨cx.old_none n2, by rw [FM.put_ne hne.symm]; exact cx.sit.none_of n2⟩
    · exact c2.fresh q hq
end
end Mine
end
section
open PySem PySem.W PyProof.Rows
set_option Elab.async false
set_option maxRecDepth 100000
set_option maxHeartbeats 4000000
set_option linter.unusedVariables false
namespace Mine
def clsAt : Stmt := match (bodyAt 5) with | s :: _ => s | [] => .Pass default
def clsBody : List Stmt := match clsAt with | .ClassDef _ _ _ b _ _ _ _ _ _ _ => b | _ => []
def clsSc : Scope := match clsAt with | .ClassDef _ _ _ _ _ _ sc _ _ _ _ => sc | _ => default
def clsPos : Pos := match clsAt with | .ClassDef _ _ _ _ _ _ _ _ _ _ p => p | _ => default
abbrev envK (L : Addr) : Env := envD (nameAt 5) (scAt 5) [] 63 62 L
abbrev envC (N L kc F : Addr) : Env := { scope := clsSc, locals := N, globals := mainGlobals, cells := [("mycmp", L + 1)], qual := "cmp_to_key.<locals>.K" ++ ".", code := .ref kc, frame := some F, builtins := builtinsNs }
def kparAt (j : Nat) : Arguments := match clsBody[j]? with
  | some (.FunctionDef _ a _ _ _ _ _ _ _ _) => a
  | _ => ⟨[], [], none, [], [], none, []⟩
def kbodyAt (j : Nat) : List Stmt := match clsBody[j]? with
  | some (.FunctionDef _ _ b _ _ _ _ _ _ _) => b
  | _ => []
def kscAt (j : Nat) : Scope := match clsBody[j]? with
  | some (.FunctionDef _ _ _ _ _ _ sc _ _ _) => sc
  | _ => default

/-- the names that the class's body leaves -/
def kNames (m q fl : Value) (sl fi flt fgt feq fle fge : Addr) : List (Str × Value) :=
  [("__module__", m), ("__qualname__", q), ("__firstlineno__", fl), ("__slots__", .ref sl), ("__init__", .ref fi), ("__lt__", .ref flt), ("__gt__", .ref fgt), ("__eq__", .ref feq), ("__le__", .ref fle), ("__ge__", .ref fge), ("__hash__", .none)]
/-- a def's object is there, frozen -/
def FnO (B : FM) (a : Addr) : Prop := ∃ o, B a = some o ∧ o.cls = .type "function" ∧ o.slots = #[]
theorem FnO.le {B B' : FM} {a : Addr} (x : FnO B a) (h : B.le B') : FnO B' a := let ⟨o, e, r⟩ := x; ⟨o, h _ _ e, r⟩

section
variable {w : World} {P : Params} {f g : Bool} {s₀ s : Shared} {B₀ B : FM} {mu : MU} {h h' : Heap} {gs : Array GenState} {os : OsState} {A : Around} {E : Value → Shared → Prop} {env : Env}

theorem body_K {N L kc kt F q : Addr} {R : Result → Shared → Prop} {m0 q0 fl0 : Value} (cx : Cx P f g s₀ B₀ B [(kt, EqP (tabObj #[])), (N, Ns1P [("__module__", m0), ("__qualname__", q0), ("__firstlineno__", fl0)]), (L, NsP []), (L + 1, CellP (some (.ref q)))] s.heap s.gens s.os)
    (C : CodeB B kc kt)
    (k : ∀ tm sl st fi flt fgt feq fle fge ci cl ob h' tk B', B.le B' → B' sl = some (lstO [.str "obj" st] 0) → DefB B' fi ci "cmp_to_key.<locals>.K.__init__" (kparAt 2) (kbodyAt 2) (kscAt 2) [] .none → DefB B' flt cl "cmp_to_key.<locals>.K.__lt__" (kparAt 3) (kbodyAt 3) (kscAt 3) [("mycmp", L + 1)] .none →
      FnO B' fi → FnO B' flt → FnO B' fgt → FnO B' feq → FnO B' fle → FnO B' fge →
      Cx P f g s₀ B₀ B' [(kt, EqP ob), (N, Ns1P (kNames (.str "cpy313.functools" tm) q0 fl0 sl fi flt fgt feq fle fge)), (L, NsP []), (L + 1, CellP (some (.ref q)))] h' s.gens s.os → R (.ok .next) { s with heap := h', toks := tk }) :
    codeAny (model prg w) A (.body clsBody (envC N L kc F)) R s := by
  refine codeAny_body rfl rfl ?_
  refine wpAny_execs_cons (wpAny_Assign_Name (eS fun tm k1 => st_class 1 cx rfl fun h1 tk1 cx1 => ?_))
  dsimp only [List.set_cons_zero, List.set_cons_succ] at cx1
  refine wpAny_execs_cons (wpAny_Assign_Name (ev_list rfl (eS fun st k2 => nLst cx1 (by simp) fun sl h2 B2 hle2 hsl cx2 => st_class 1 cx2 rfl fun h3 tk3 cx3 => ?_)))
  dsimp only [List.set_cons_zero, List.set_cons_succ] at cx3
  refine wpAny_execs_cons (nestDef_K rfl rfl rfl (mkfn_mu 0 cx3 rfl (cl := []) rfl rfl rfl (C.le hle2) trivial rfl fun fi ci h4 tk4 B4 hle4 di fo cx4 => st_class 1 cx4 rfl fun h5 tk5 cx5 => ?_))
  dsimp only [List.set_cons_zero, List.set_cons_succ] at cx5
  refine wpAny_execs_cons (nestDef_K rfl rfl rfl (mkfn_mu 0 cx5 rfl (cl := [("mycmp", L + 1)]) rfl rfl rfl (C.le (hle2.trans hle4)) (by simp [TriplesOk, rawInt]) (by kernel_rfl) fun flt cl h6 tk6 B6 hle6 dl fo2 cx6 => st_class 1 cx6 rfl fun h7 tk7 cx7 => ?_))
  dsimp only [List.set_cons_zero, List.set_cons_succ] at cx7
  refine wpAny_execs_cons (nestDef_K rfl rfl rfl (mkfn_mu 0 cx7 rfl (cl := [("mycmp", L + 1)]) rfl rfl rfl (C.le (hle2.trans (hle4.trans hle6))) (by simp [TriplesOk, rawInt]) (by kernel_rfl) fun fgt c3 h8 tk8 B8 hle8 _ fo3 cx8 => st_class 1 cx8 rfl fun h9 tk9 cx9 => ?_))
  dsimp only [List.set_cons_zero, List.set_cons_succ] at cx9
  refine wpAny_execs_cons (nestDef_K rfl rfl rfl (mkfn_mu 0 cx9 rfl (cl := [("mycmp", L + 1)]) rfl rfl rfl (C.le (hle2.trans (hle4.trans (hle6.trans hle8)))) (by simp [TriplesOk, rawInt]) (by kernel_rfl) fun feq c4 h10 tk10 B10 hle10 _ fo4 cx10 => st_class 1 cx10 rfl fun h11 tk11 cx11 => ?_))
  dsimp only [List.set_cons_zero, List.set_cons_succ] at cx11
  refine wpAny_execs_cons (nestDef_K rfl rfl rfl (mkfn_mu 0 cx11 rfl (cl := [("mycmp", L + 1)]) rfl rfl rfl (C.le (hle2.trans (hle4.trans (hle6.trans (hle8.trans hle10))))) (by simp [TriplesOk, rawInt]) (by kernel_rfl) fun fle c5 h12 tk12 B12 hle12 _ fo5 cx12 => st_class 1 cx12 rfl fun h13 tk13 cx13 => ?_))
  dsimp only [List.set_cons_zero, List.set_cons_succ] at cx13
  refine wpAny_execs_cons (nestDef_K rfl rfl rfl (mkfn_mu 0 cx13 rfl (cl := [("mycmp", L + 1)]) rfl rfl rfl (C.le (hle2.trans (hle4.trans (hle6.trans (hle8.trans (hle10.trans hle12)))))) (by simp [TriplesOk, rawInt]) (by kernel_rfl) fun fge c6 h14 tk14 B14 hle14 _ fo6 cx14 => st_class 1 cx14 rfl fun h15 tk15 cx15 => ?_))
  dsimp only [List.set_cons_zero, List.set_cons_succ] at cx15
  refine wpAny_execs_cons (wpAny_Assign_Name (wpAny_Constant_none (st_class 1 cx15 rfl fun h16 tk16 cx16 => ?_)))
  dsimp only [List.set_cons_zero, List.set_cons_succ] at cx16
  refine wpAny_execs_nil ?_
  have l14 := hle14
  have l12 := hle12.trans l14
  have l10 := hle10.trans l12
  have l8 := hle8.trans l10
  have l6 := hle6.trans l8
  have l4 := hle4.trans l6
  exact k tm sl st fi flt fgt feq fle fge ci cl _ h16 tk16 B14 (hle2.trans l4) (l4 _ _ hsl) (di.le l6) (dl.le l8) (FnO.le fo l6) (FnO.le fo2 l8) (FnO.le fo3 l10) (FnO.le fo4 l12) (FnO.le fo5 l14) fo6 cx16
end
end Mine
end
section
open PySem PySem.W PyProof.Rows
set_option Elab.async false
set_option maxRecDepth 100000
set_option maxHeartbeats 4000000
set_option linter.unusedVariables false
namespace Mine
section
variable {w : World} {A : Around} {E : Value → Shared → Prop} {s : Shared} {Q : Value → Shared → Prop}
theorem tk_check (args : Args) : checkTypeCall "type" args = pure () := by kernel_rfl
theorem tk_mro : mroOf (.type "type") = pure [.type "type", .type "object"] := by kernel_rfl
theorem tk_made : Bind.madeBy (.type "type") = pure (some "type.__new__") := by kernel_rfl
theorem tk_new (b c d : Value) : checkBuiltinCall "type.__new__" ⟨[.type "type", b, c, d], []⟩ = pure () := by kernel_rfl
theorem tk_entry : entryFor table "type.__new__" = some Builtin.«type.__new__» := entryFor_of_tree (by kernel_rfl)
theorem tk_decides : ((Manifest.find? "type").bind (·.mro.findSome? fun (t : String) => (Manifest.find? t).bind fun b => if b.noNew then some true else if b.attrs.any (·.1 == "__new__") then some false else none)).getD false = false := by kernel_rfl
theorem tk_init : typeLookup (.type "type") "__init__" = pure (some (.builtin "type.__init__")) := by rw [typeLookup_type, builtinLookup_eq_fast]; kernel_rfl
theorem tk_slot : Slot "type" "__init__" "type.__init__" := .of (owner := "type") (n := "__init__") tk_init (by decide +kernel) (by decide +kernel) (by decide +kernel) (by first | exact .inl (by decide +kernel) | exact .inr (by decide +kernel)) (by rw [isSubtype_type]; kernel_rfl)
theorem tk_sub : isSubtype (.type "type") (.type "type") = pure true := by rw [isSubtype_type]; kernel_rfl
theorem tk_args (a b c d : Value) : argsOk "type.__init__" ⟨[a, b, c, d], []⟩ := by unfold argsOk; kernel_rfl
theorem tk_entryI : entryFor table "type.__init__" = some Builtin.«type.__init__» := entryFor_of_tree (by kernel_rfl)
theorem call_type3 {nm : Value} {bt N : Addr} (hA : AOk 102 A) (h : wpAny (model prg w) A4 (Builtin.«type.__new__» ⟨[.type "type", nm, .ref bt, .ref N], []⟩) (fun fin s' => ∃ C o, fin = .done (.ret (.ref C)) ∧ s'.heap.get? C = some o ∧ o.cls = .type "type" ∧ Q (.ref C) s') (fun _ _ => False) s) :
    wpAny (model prg w) A (call (.type "type") [nm, .ref bt, .ref N]) Q E s := by
  refine wpAny_call (codeAny_of_tree ?_)
  show wpAny _ _ (callAny (.type "type") _) _ _ _
  refine wpAny_pure ⟨Code.quiet_builtin _ (by decide +kernel), codeAny_builtin F.entry_type_call ?_⟩
  rw [Around.under_plain (weight_type_call_type "type" [nm, .ref bt, .ref N] []) rfl]
  unfold Builtin.«type.__call__»
  dsimp only
  rw [if_pos (by decide), if_neg (show ¬ ([nm, Value.ref bt, Value.ref N].length == 1) = true from Bool.false_ne_true), if_neg (show ¬ ([nm, Value.ref bt, Value.ref N].length != 3) = true from Bool.false_ne_true), tk_decides, if_neg (by decide), tk_check]
  refine wpAny_bind (wpAny_pure ?_)
  refine wpAny_bind (wpAny_of_eq tk_mro ?_)
  first | refine ifF ?_ | refine wpAny_ite_false rfl ?_ | rw [if_neg (by decide)]
  refine wpAny_bind (wpAny_of_eq tk_made ?_)
  refine wpAny_bind (wpAny_pure ?_)
  refine wpAny_bind (wpAny_holding (wpAny_call (codeAny_call_builtin (by decide +kernel) tk_entry (wpAny_of_eq (tk_new ..) ?_))))
  refine no_E (wpAny_mono (to_A4 (hA.in1.in1) h) (fun fin s' hf => ?_) fun _ _ x => x)
  obtain ⟨C, o, rfl, ho, hc, hq⟩ := hf
  show wpAny (model prg w) A.in1 (isInstance (.ref C) (.type "type") >>= _) _ _ _
  refine wpAny_bind (wpAny_isInstance (T := "type") ⟨_, ho, hc⟩ tk_sub ?_)
  first | refine ifF ?_ | refine wpAny_ite_false rfl ?_ | rw [if_neg (by decide)]
  refine wpAny_bind (wpAny_holding (wpAny_callSpecial?_slot (T := "type") (id := "type.__init__") ⟨_, ho, hc⟩ tk_slot ?_))
  refine wpAny_call (codeAny_call_builtin tk_slot.plain tk_entryI (tk_slot.check _ _ _ _ _ _ _ _ ⟨_, ho, hc⟩ (tk_args ..) ?_))
  unfold Builtin.«type.__init__»
  dsimp only
  rw [if_neg (show ¬ (([Value.ref C, nm, Value.ref bt, Value.ref N].length - 1 == 1 && !([] : List (Str × Value)).isEmpty) = true) from Bool.false_ne_true), if_neg (show ¬ (([Value.ref C, nm, Value.ref bt, Value.ref N].length - 1 != 1 && [Value.ref C, nm, Value.ref bt, Value.ref N].length - 1 != 3) = true) from Bool.false_ne_true)]
  refine wpAny_pure ?_
  show wpAny _ _ _ _ _ _
  first | refine ifF ?_ | refine wpAny_ite_false rfl ?_ | rw [if_neg (by decide)]
  exact wpAny_pure hq
end
end Mine
end
section
open PySem PySem.W PyProof.Rows
set_option Elab.async false
set_option maxRecDepth 100000
set_option maxHeartbeats 4000000
set_option linter.unusedVariables false
namespace Mine
def kNames1 (tm tq tl : Tok) (sl fi flt fgt feq fle fge sa : Addr) (n : Int) : List (Str × Value) :=
  [("__module__", .str "cpy313.functools" tm), ("__qualname__", .str "cmp_to_key.<locals>.K" tq), ("__firstlineno__", .int n tl), ("__slots__", .ref sl), ("__init__", .ref fi), ("__lt__", .ref flt), ("__gt__", .ref fgt), ("__eq__", .ref feq), ("__le__", .ref fle), ("__ge__", .ref fge), ("__hash__", .none), ("__static_attributes__", .ref sa)]

section
variable {w : World} {P : Params} {f g : Bool} {s₀ s : Shared} {B₀ B : FM} {mu : MU} {h h' : Heap} {gs : Array GenState} {os : OsState} {A : Around} {E : Value → Shared → Prop} {env : Env}
theorem forIn_one {α β : Type} {M : Model} {a : α} {b : β} {ff : α → β → Sem (ForInStep β)} {Q : β → Shared → Prop} (h : wpAny M A (ff a b) (fun r s' => match r with | .done b' => Q b' s' | .yield b' => Q b' s') E s) : wpAny M A (forIn [a] b ff) Q E s := by
  rw [List.forIn_cons]
  refine wpAny_bind (wpAny_mono h (fun r s' h' => ?_) fun _ _ x => x)
  cases r with
  | done b' => exact wpAny_pure h'
  | yield b' => show wpAny M A (forIn [] b' ff) Q E s'; rw [List.forIn_nil]; exact wpAny_pure h'
theorem typeOf_obj : typeOf (.type "object") = pure (.type "type") := by kernel_rfl
theorem subT_tuple : isSubtype (.type "tuple") (.type "tuple") = pure true := by rw [isSubtype_type]; kernel_rfl
theorem subT_dict : isSubtype (.type "dict") (.type "dict") = pure true := by rw [isSubtype_type]; kernel_rfl
theorem seq_tup {M : Model} {a : Addr} {vs : Array Value} {Q : Option (Array Value) → Shared → Prop} (h : IsTup s.heap a vs) (hq : Q (some vs) s) : wpAny M A (seqItems? (.ref a)) Q E s := by
  obtain ⟨o, e, _, n, hd⟩ := h
  unfold seqItems?
  refine wpAny_bind (wpAny_load e ?_)
  rw [hd]
  exact wpAny_pure hq
theorem dictEntries_at {M : Model} {a : Addr} {o : Obj} {es : Array DictEntry} {ep : Nat} {Q : Array DictEntry → Shared → Prop} (e : s.heap.get? a = some o) (hd : o.data = .dict es ep) (hq : Q es s) : wpAny M A (dictEntries a) Q E s := by
  unfold dictEntries
  refine wpAny_bind (wpAny_load e ?_)
  rw [hd]
  exact wpAny_pure hq
theorem lk_dict_iter : typeLookup (.type "dict") "__iter__" = pure (some (.builtin "dict.__iter__")) := by rw [typeLookup_type, builtinLookup_eq_fast]; kernel_rfl
theorem no_turned : Builtin.notOverATurnedClass [.type "object"] = pure () := by kernel_rfl
theorem ext_base : Builtin.extendedBase [.type "object"] = pure (.type "object") := by kernel_rfl

end
end Mine
end
section
open PySem PySem.W PyProof.Rows
set_option Elab.async false
set_option maxRecDepth 100000
set_option maxHeartbeats 4000000
set_option linter.unusedVariables false
namespace Mine
section
variable {w : World} {P : Params} {f g : Bool} {s₀ s : Shared} {B₀ B : FM} {mu : MU} {h h' : Heap} {gs : Array GenState} {os : OsState} {A : Around} {E : Value → Shared → Prop} {env : Env}
theorem so_best : Builtin.Slots.bestBase [.type "object"] = pure (.type "object") := by kernel_rfl
theorem so_names : Builtin.Slots.slotNamesOf (.type "object") = pure [] := by kernel_rfl
theorem so_dict : Builtin.Slots.givesDict (.type "object") = pure false := by kernel_rfl
theorem so_weak : Builtin.Slots.givesWeak (.type "object") = pure false := by kernel_rfl
theorem so_var : Builtin.Slots.varSize (.type "object") = pure false := by kernel_rfl
theorem so_id : Builtin.Slots.isIdentifier "obj" = some true := by decide +kernel
theorem so_mangle : Builtin.Slots.mangle "K" "obj" = "obj" := by decide +kernel

theorem asStr_lst {M : Model} {a : Addr} {vs : List Value} {n : Nat} {Q : Option Str → Shared → Prop} (e : s.heap.get? a = some (lstO vs n)) (hq : Q none s) : wpAny M A (asStr? (.ref a)) Q E s := by
  unfold asStr?
  exact wpAny_bind (wpAny_load e (wpAny_pure hq))
theorem forInA_one {α β : Type} {M : Model} {a : α} {b : β} {ff : α → β → Sem (ForInStep β)} {Q : β → Shared → Prop} (h : wpAny M A (ff a b) (fun r s' => match r with | .done b' => Q b' s' | .yield b' => Q b' s') E s) : wpAny M A (forIn (#[].push a) b ff) Q E s := by
  rw [← Array.forIn_toList]
  exact forIn_one h
theorem slots_read {l : List (Str × Value)} {es : Array DictEntry} {sl : Addr} {st : Tok} {Q : Builtin.Slots.Plan → Shared → Prop} (cx : Cx P f g s₀ B₀ B mu s.heap s.gens s.os) (hh : A.handled = none) (hm : ∀ n, nsFind es n = l.lookup n) (h1 : l.lookup ("__slots__" : Str) = some (.ref sl)) (h2 : l.lookup ("obj" : Str) = none)
    (hsl : B sl = some (lstO [.str "obj" st] 0)) (k : ∀ h' tk, Cx P f g s₀ B₀ B mu h' s.gens s.os → Q { names := ["obj"], dict := false, weak := false, inherited := [] } { s with heap := h', toks := tk }) :
    wpAny (model prg w) A (Builtin.Slots.read "K" [.type "object"] es) Q E s := by
  have hl := isList_of cx.sit.inB hsl
  obtain ⟨e, he, hv⟩ : ∃ e, es.find? (·.key.isStr "__slots__") = some e ∧ e.val = .ref sl := by
    have := hm "__slots__"
    rw [h1] at this
    unfold nsFind findBy at this
    obtain ⟨e, he, hv⟩ := Option.map_eq_some_iff.mp this
    exact ⟨e, he, hv⟩
  have hany : es.any (·.key.isStr "obj") = false := by
    have := hm "obj"
    rw [h2] at this
    unfold nsFind findBy at this
    rw [Option.map_eq_none_iff, Array.find?_eq_none] at this
    rw [Array.any_eq_false']
    intro x hx
    exact this x hx
  unfold Builtin.Slots.read
  refine wpAny_bind (wpAny_of_eq so_best ?_)
  refine wpAny_bind (wpAny_of_eq so_names ?_)
  refine wpAny_bind (wpAny_of_eq so_dict ?_)
  refine wpAny_bind (wpAny_of_eq so_weak ?_)
  refine wpAny_bind (wpAny_of_eq so_var ?_)
  rw [he]
  refine wpAny_bind (wpAny_rule ?_)
  rw [hv]
  refine wpAny_bind (asStr_lst (cx.sit.inB _ _ hsl) ?_)
  refine wpAny_ite_false rfl ?_
  refine wpAny_bind (collect_list hl ?_ (by rw [sizeLine_eq]; simp))
  have c1 : Cx P f g s₀ B₀ B mu ((s.heap.push (seqObj "list" #[] 0)).update s.heap.objs.size (Obj.mapSeq (· ++ [Value.str "obj" st].toArray))) s.gens s.os := cx.grow fun b o e => by
    rw [Heap.get?_update_ne _ _ _ _ (Nat.ne_of_lt (Heap.lt_size e)), Heap.get?_push_ne _ _ _ (Nat.ne_of_lt (Heap.lt_size e))]; exact e
  generalize (s.heap.push (seqObj "list" #[] 0)).update s.heap.objs.size (Obj.mapSeq (· ++ [Value.str "obj" st].toArray)) = h1 at c1 ⊢
  refine wpAny_ite_true rfl ?_
  refine wpAny_bind (wpAny_of_eq so_var ?_)
  refine wpAny_ite_false rfl ?_
  refine wpAny_bind (forIn_one ?_)
  refine wpAny_bind (wpAny_pure ?_)
  refine wpAny_bind (wpAny_pure ?_)
  dsimp only
  rw [so_id]
  refine wpAny_bind (wpAny_pure ?_)
  refine wpAny_ite_false rfl ?_
  refine wpAny_ite_false (by decide) ?_
  refine wpAny_ite_false (by decide) ?_
  refine wpAny_pure ?_
  dsimp only
  refine wpAny_bind (forInA_one ?_)
  refine wpAny_ite_false (by decide +kernel) ?_
  refine wpAny_ite_false (by rw [so_mangle, hany]; rfl) ?_
  refine wpAny_ite_false (by decide +kernel) ?_
  refine wpAny_pure ?_
  refine wpAny_bind (forIn_one ?_)
  refine wpAny_ite_false (by decide) ?_
  refine wpAny_pure ?_
  refine wpAny_pure ?_
  exact k h1 s.toks c1
end
end Mine
end
section
open PySem PySem.W PyProof.Rows
set_option Elab.async false
set_option maxRecDepth 100000
set_option maxHeartbeats 4000000
set_option linter.unusedVariables false
namespace Mine
theorem nodup_le {α : Type} [DecidableEq α] : ∀ (ks L : List α), ks.Nodup → (∀ k ∈ ks, k ∈ L) → ks.length ≤ L.length
  | [], _, _, _ => Nat.zero_le _
  | k :: ks, L, hn, hs => by
    have hk := hs k (.head _)
    have h1 := nodup_le ks (L.erase k) (List.nodup_cons.mp hn).2 fun x hx => (List.mem_erase_of_ne (fun e => (List.nodup_cons.mp hn).1 (by rw [← e]; exact hx))).mpr (hs x (.tail _ hx))
    rw [List.length_erase_of_mem hk] at h1
    have := List.length_pos_of_mem hk
    rw [List.length_cons]; omega
def keyStr : Value → Str
  | .str n _ => n
  | _ => Str.empty
theorem ns_entry {l : List (Str × Value)} {es : Array DictEntry} (hk : StrKeys es) (hu : UniqKeys es) (hm : ∀ n, nsFind es n = l.lookup n) {e : DictEntry} (he : e ∈ es) : ∃ n t, e.key = .str n t ∧ l.lookup n = some e.val := by
  obtain ⟨n, t, hkey⟩ := hk e he
  refine ⟨n, t, hkey, ?_⟩
  have hp : e.key.isStr n = true := by rw [hkey]; simp [Value.isStr]
  rw [← hm n]
  unfold nsFind findBy
  rw [← Array.find?_toList]
  cases q : es.toList.find? (fun e => e.key.isStr n) with
  | none => exact absurd (List.find?_eq_none.mp q e (by simpa using he)) (by simp [hp])
  | some e' =>
    obtain ⟨hp', as, bs, hl, has⟩ := List.find?_eq_some_iff_append.mp q
    have he' : e ∈ as ++ e' :: bs := hl ▸ (by simpa using he)
    rcases List.mem_append.mp he' with h | h
    · have := has e h; rw [hp] at this; cases this
    · rcases List.mem_cons.mp h with rfl | h
      · rfl
      · unfold UniqKeys at hu
        rw [hl, List.pairwise_append] at hu
        exact ((List.pairwise_cons.mp hu.2.1).1 e h n hp' hp).elim
theorem mem_of_lookup {l : List (Str × Value)} {n : Str} {v : Value} (h : l.lookup n = some v) : (n, v) ∈ l := by
  induction l with
  | nil => cases h
  | cons p r ih =>
    obtain ⟨k, u⟩ := p
    rw [List.lookup_cons] at h
    cases q : n == k with
    | true => rw [q] at h; cases h; rw [eq_of_beq q]; exact .head _
    | false => rw [q] at h; exact .tail _ (ih h)
theorem ns_size {l : List (Str × Value)} {es : Array DictEntry} (hk : StrKeys es) (hu : UniqKeys es) (hm : ∀ n, nsFind es n = l.lookup n) : es.size ≤ l.length := by
  have h1 : (es.toList.map fun e => keyStr e.key).Nodup := by
    unfold List.Nodup
    rw [List.pairwise_map]
    refine List.Pairwise.imp_of_mem ?_ hu
    intro a b ha hb h e
    obtain ⟨n, t, q1⟩ := hk a (by simpa using ha)
    obtain ⟨m, u, q2⟩ := hk b (by simpa using hb)
    rw [q1, q2] at e
    have e : n = m := e
    subst e
    exact h n (by rw [q1]; simp [Value.isStr]) (by rw [q2]; simp [Value.isStr])
  have h2 := nodup_le _ (l.map (·.1)) h1 (fun k hk' => by
    obtain ⟨e, he, rfl⟩ := List.mem_map.mp hk'
    obtain ⟨n, t, q1, q2⟩ := ns_entry hk hu hm (e := e) (by simpa using he)
    rw [q1]
    exact List.mem_map.mpr ⟨_, mem_of_lookup q2, rfl⟩)
  simpa using h2
theorem ns_any {l : List (Str × Value)} {es : Array DictEntry} (hm : ∀ n, nsFind es n = l.lookup n) (n : Str) : es.any (·.key.isStr n) = (l.lookup n).isSome := by
  rw [← hm n]
  simp only [nsFind, findBy, Option.isSome_map]
  rw [Bool.eq_iff_iff]; simp only [Array.find?_isSome, Array.any_eq_true]
  constructor
  · rintro ⟨i, hi, hp⟩; exact ⟨_, Array.getElem_mem hi, hp⟩
  · rintro ⟨x, hx, hp⟩; obtain ⟨i, hi, rfl⟩ := Array.mem_iff_getElem.mp hx; exact ⟨i, hi, hp⟩
end Mine
end
section
open PySem PySem.W PyProof.Rows
set_option Elab.async false
set_option maxRecDepth 100000
set_option maxHeartbeats 4000000
set_option linter.unusedVariables false
namespace Mine
section
variable {w : World} {P : Params} {f g : Bool} {s₀ s : Shared} {B₀ B : FM} {mu : MU} {A : Around}
theorem no_opaque {a : Addr} {what how : String} {M : Model} {E : Value → Shared → Prop} {Q : Unit → Shared → Prop} (S : Sit P f g B s.heap s.gens) (hq : Q () s) : wpAny M A (notOfAnOpaqueClass what how (.ref a)) Q E s := by
  have hn : s.heap.Ns cStatics (fun _ => none) := ⟨_, _, _, S.at (k1_2 P) (notTab rfl), rfl, fun e he => by simp at he, fun n => rfl⟩
  unfold notOfAnOpaqueClass opaqueClassAbove anyOpaqueLoaded
  refine wpAny_bind (wpAny_bind (wpAny_bind (wpAny_nsGet hn (wpAny_pure ?_))))
  refine wpAny_ite_true rfl ?_
  exact wpAny_pure (wpAny_pure hq)
theorem own_isub : classOwn (.type "object") "__init_subclass__" = pure (some (.builtin "object.__init_subclass__")) := by kernel_rfl
theorem type_isub : typeOf (.builtin "object.__init_subclass__") = pure (.type "classmethod_descriptor") := by kernel_rfl
theorem lk_isub : typeLookup (.type "classmethod_descriptor") "__get__" = pure (some (.builtin "classmethod_descriptor.__get__")) := by rw [typeLookup_type, builtinLookup_eq_fast]; kernel_rfl

theorem sup_body {so C D : Addr} {sl : Array (Option Value)} {t : Tok} {Q : PySem.Fin → Shared → Prop} (S : Sit P f g B s.heap s.gens) (hso : s.heap.get? so = some { cls := .type "super", data := .fields #[.ref C, .ref C, .ref C] })
    (hC : s.heap.get? C = some { cls := .type "type", data := .cls { name := "K", bases := [.type "object"], mro := [.ref C, .type "object"], ns := D, qualname := "cmp_to_key.<locals>.K", hasDict := false, slotNames := ["obj"] }, slots := sl })
    {n : Nat} (hA : AOk n A) (k : ∀ a o h' t, One s.heap h' a o → o = { cls := .type "builtin_function_or_method", data := .fields #[.builtin "object.__init_subclass__", .ref C] } → Q (.done (.ret (.ref a))) { s with heap := h', toks := t }) :
    wpAny (model prg w) A (Builtin.«super.__getattribute__» ⟨[.ref so, .str "__init_subclass__" t], []⟩) Q (fun _ _ => False) s := by
  have hf : (List.drop 1 (List.dropWhile (fun x => x != Value.ref C) [.ref C, .type "object"])) = [.type "object"] := by simp
  have hm : ∀ {Q : List Value → Shared → Prop}, Q [.ref C, .type "object"] s → wpAny (model prg w) A (mroOf (.ref C)) Q (fun _ _ => False) s := fun h => by
    unfold mroOf classData
    exact wpAny_bind (wpAny_bind (wpAny_load hC (wpAny_pure (wpAny_pure h))))
  unfold Builtin.«super.__getattribute__»
  refine wpAny_bind (wpAny_pure ?_)
  refine wpAny_ite_false rfl ?_
  refine wpAny_bind (wpAny_pure ?_)
  have f0 : (#[.ref C, .ref C, .ref C] : Array Value)[0]? = some (.ref C) := rfl
  have f1 : (#[.ref C, .ref C, .ref C] : Array Value)[1]? = some (.ref C) := rfl
  have f2 : (#[.ref C, .ref C, .ref C] : Array Value)[2]? = some (.ref C) := rfl
  refine wpAny_bind (wpAny_field hso rfl f0 ?_)
  refine wpAny_bind (wpAny_field hso rfl f1 ?_)
  refine wpAny_bind (wpAny_field hso rfl f2 ?_)
  refine wpAny_ite_false (by simp; decide +kernel) ?_
  refine wpAny_bind (no_opaque S ?_)
  refine wpAny_ite_false rfl ?_
  refine wpAny_bind (hm ?_)
  refine wpAny_bind ?_
  rw [hf]
  refine forIn_one ?_
  refine wpAny_bind (wpAny_of_eq own_isub ?_)
  refine wpAny_bind (wpAny_of_eq type_isub ?_)
  refine wpAny_bind (wpAny_of_eq lk_isub ?_)
  have hcc : (if (Value.ref C == Value.ref C) = true then Value.none else Value.ref C) = Value.none := by simp
  refine wpAny_bind (wpAny_holding ?_)
  rw [hcc]
  refine to_A5 hA (get_x hC fun a o h' t' one ho => ?_)
  refine wpAny_bind (wpAny_pure (wpAny_pure ?_))
  exact wpAny_pure (k a o h' t' one ho)

theorem sup_get {so C D : Addr} {sl : Array (Option Value)} {Q : Value → Shared → Prop} (S : Sit P f g B s.heap s.gens) (hso : s.heap.get? so = some { cls := .type "super", data := .fields #[.ref C, .ref C, .ref C] })
    (hC : s.heap.get? C = some { cls := .type "type", data := .cls { name := "K", bases := [.type "object"], mro := [.ref C, .type "object"], ns := D, qualname := "cmp_to_key.<locals>.K", hasDict := false, slotNames := ["obj"] }, slots := sl })
    {n : Nat} (hA : AOk (n + 3) A) (k : ∀ a h' t, One s.heap h' a { cls := .type "builtin_function_or_method", data := .fields #[.builtin "object.__init_subclass__", .ref C] } → Q (.ref a) { s with heap := h', toks := t }) :
    wpAny (model prg w) A (getAttr (.ref so) "__init_subclass__") Q (fun _ _ => False) s := by
  have hlk := F.ks_slot_super_ga.lookup
  have hT : ∀ t', (({ s with toks := t' }) : Shared).TypeIs (.ref so) "super" := fun _ => ⟨_, hso, rfl⟩
  unfold getAttr getAttrBy
  refine wpAny_bind (wpAny_mkText (wpAny_holding (wpAny_bind (wpAny_typeOf (hT _) (wpAny_bind (wpAny_of_eq hlk ?_))))))
  show wpAny _ _ (getAttrByItsOwn (.ref so) (.str "__init_subclass__" s.toks) (.type "super") (.builtin "super.__getattribute__") true false) _ _ _
  unfold getAttrByItsOwn hookBefore callGetattribute boundAndCalled
  refine wpAny_bind (wpAny_of_eq (show (if onTheHeap (.type "super") then typeLookup (.type "super") "__getattr__" else pure none) = pure none from rfl) ?_)
  refine wpAny_bind (wpAny_attempt (wpAny_holding ?_))
  show wpAny _ _ (bindSpecial (.builtin "super.__getattribute__") (.ref so) >>= _) _ _ _
  refine wpAny_bind (wpAny_of_eq (F.ks_slot_super_ga.bind _) ?_)
  refine wpAny_mono (Q := fun v s' => ∃ a h' t, v = .ref a ∧ s' = ({ s with heap := h', toks := t } : Shared) ∧ One s.heap h' a { cls := .type "builtin_function_or_method", data := .fields #[.builtin "object.__init_subclass__", .ref C] })
    (wpAny_call_entry F.ks_slot_super_ga (hT _) F.ks_entry_super_ga (sup_body (s := { s with toks := s.toks + 1 }) S hso hC hA.in1 fun a o h' t' one ho => ⟨_, rfl, a, h', _, rfl, rfl, ho ▸ one⟩) (F.ks_gaArgs_super _ _)) (fun v s' hv => ?_) fun _ _ z => z.elim
  obtain ⟨a, h', t, rfl, rfl, one⟩ := hv
  exact wpAny_pure (k a h' t one)
end
end Mine
end
section
open PySem PySem.W PyProof.Rows
set_option Elab.async false
set_option maxRecDepth 100000
set_option maxHeartbeats 4000000
set_option linter.unusedVariables false
namespace Mine
section
variable {w : World} {P : Params} {f g : Bool} {s₀ s : Shared} {B₀ B : FM} {mu : MU} {h h' : Heap} {gs : Array GenState} {os : OsState} {A : Around} {E : Value → Shared → Prop} {env : Env}
theorem newDict_cx {l : List (Str × Value)} {es : Array DictEntry} {M : Model} {Q : Value → Shared → Prop} (cx : Cx P f g s₀ B₀ B mu s.heap s.gens s.os) (hk : StrKeys es) (hu : UniqKeys es) (hm : ∀ n, nsFind es n = l.lookup n) (hl : l.length ≤ 1000)
    (k : ∀ D h', Cx P f g s₀ B₀ B ((D, Ns1P l) :: mu) h' s.gens s.os → Q (.ref D) { s with heap := h' }) : wpAny M A (newObj (.type "dict") (.dict es)) Q E s := by
  have hs := ns_size hk hu hm
  unfold newObj newObjAsIs
  refine wpAny_ite_false (by rw [sizeLine_eq]; simp; omega) ?_
  refine wpAny_bind (wpAny_alloc (wpAny_pure ?_))
  exact k _ _ (cx.pushMu (p := Ns1P l) ⟨rfl, es, 0, rfl, hk, hu, hm⟩)
def slotSet (o : Obj) (j : Nat) (v : Option Value) : Obj := { o with slots := (o.slots ++ Array.replicate (j + 1 - o.slots.size) none).setIfInBounds j v }
theorem setSlotC {C : Addr} {o : Obj} {j : Nat} {v : Option Value} {M : Model} {Q : Unit → Shared → Prop} (i : Nat) (cx : Cx P f g s₀ B₀ B mu s.heap s.gens s.os) (hi : mu[i]? = some (C, EqP o)) (hj : j ≤ 1000) (hf : o.isFreed = false)
    (k : ∀ h', Cx P f g s₀ B₀ B (mu.set i (C, EqP (slotSet o j v))) h' s.gens s.os → Q () { s with heap := h' }) : wpAny M A (setSlotAt C j v) Q E s := by
  obtain ⟨o', e, ⟨r⟩⟩ := cx.get i hi
  subst r
  unfold setSlotAt
  refine wpAny_ite_false (by rw [sizeLine_eq]; simp; omega) ?_
  exact wpAny_updatePart e (k _ (cx.upd i hi (Heap.SameBut.update ..) (Heap.get?_update_self _ e (show (slotSet o' j v).isFreed = false by obtain ⟨c, d, dt, sl⟩ := o'; cases dt <;> first | rfl | exact hf)) ⟨rfl⟩))
theorem allocMuE {o : Obj} {M : Model} {Q : Addr → Shared → Prop} (cx : Cx P f g s₀ B₀ B mu s.heap s.gens s.os) (hf : o.isFreed = false) (k : ∀ C h', Cx P f g s₀ B₀ B ((C, EqP o) :: mu) h' s.gens s.os → Q C { s with heap := h' }) : wpAny M A (alloc o) Q E s :=
  wpAny_alloc (k _ _ (cx.pushMu (p := EqP o) ⟨rfl⟩ hf))
theorem updClsC {C : Addr} {o : Obj} {c0 : ClassData} {ff : ClassData → ClassData} {M : Model} {Q : Unit → Shared → Prop} (i : Nat) (cx : Cx P f g s₀ B₀ B mu s.heap s.gens s.os) (hi : mu[i]? = some (C, EqP o)) (hd : o.data = .cls c0) (hp : (Data.cls (ff c0)).pastItsLine = none)
    (k : ∀ h', Cx P f g s₀ B₀ B (mu.set i (C, EqP { o with data := .cls (ff c0) })) h' s.gens s.os → Q () { s with heap := h' }) : wpAny M A (updateCls C ff) Q E s := by
  obtain ⟨o', e, ⟨r⟩⟩ := cx.get i hi
  subst r
  unfold updateCls
  refine wpAny_bind (wpAny_load e ?_)
  rw [hd]
  refine wpAny_bind (wpAny_update e ?_)
  have h1 : Obj.mapCls ff o' = { o' with data := .cls (ff c0) } := by
    obtain ⟨c, d, dt, sl⟩ := o'
    subst hd; rfl
  have e2 := Heap.get?_update_self (h := s.heap) (Obj.mapCls ff) e (by rw [h1]; rfl)
  unfold lookBehind
  refine wpAny_bind (wpAny_loadPart e2 ?_)
  rw [h1]
  show wpAny _ _ (match (Data.cls (ff c0)).pastItsLine with | some what => _ | _ => _) _ _ _
  rw [hp]
  refine wpAny_pure (k _ (cx.upd i hi (Heap.SameBut.update ..) e2 ⟨h1⟩))
theorem mro_hook : Builtin.mroHook? (.type "type") = pure none := by kernel_rfl
theorem lin_obj : Builtin.linearize [.type "object"] mroOf = pure [.type "object"] := by kernel_rfl
theorem made_obj : Bind.madeBy (.type "object") = pure (some "object.__new__") := by kernel_rfl
theorem forIn_two {α β : Type} {M : Model} {a a' : α} {b : β} {ff : α → β → Sem (ForInStep β)} {Q : β → Shared → Prop} (h : wpAny M A (ff a b) (fun r s' => match r with | .done b' => Q b' s' | .yield b' => wpAny M A (forIn [a'] b' ff) Q E s') E s) : wpAny M A (forIn [a, a'] b ff) Q E s := by
  rw [List.forIn_cons]
  refine wpAny_bind (wpAny_mono h (fun r s' h' => ?_) fun _ _ x => x)
  cases r with
  | done b' => exact wpAny_pure h'
  | yield b' => exact h'
theorem nsGetE {a : Addr} {mm : Str → Option Value} {x : Str} {v : Option Value} {M : Model} {Q : Option Value → Shared → Prop} (hn : s.heap.Ns a mm) (hv : mm x = v) (h : Q v s) : wpAny M A (nsGet a x) Q E s := wpAny_nsGet hn (by rw [hv]; exact h)
theorem Cx.cast {mu' : MU} (x : Cx P f g s₀ B₀ B mu h gs os) (e : mu = mu') : Cx P f g s₀ B₀ B mu' h gs os := e ▸ x
def kNames2 (tm tl : Tok) (sl fi flt fgt feq fle fge sa : Addr) (n : Int) : List (Str × Value) :=
  [("__module__", .str "cpy313.functools" tm), ("__firstlineno__", .int n tl), ("__slots__", .ref sl), ("__init__", .ref fi), ("__lt__", .ref flt), ("__gt__", .ref fgt), ("__eq__", .ref feq), ("__le__", .ref fle), ("__ge__", .ref fge), ("__hash__", .none), ("__static_attributes__", .ref sa)]
def kNames3 (tm tl : Tok) (sl fi flt fgt feq fle fge sa md : Addr) (n : Int) : List (Str × Value) :=
  [("__module__", .str "cpy313.functools" tm), ("__firstlineno__", .int n tl), ("__slots__", .ref sl), ("__init__", .ref fi), ("__lt__", .ref flt), ("__gt__", .ref fgt), ("__eq__", .ref feq), ("__le__", .ref fle), ("__ge__", .ref fge), ("__hash__", .none), ("__static_attributes__", .ref sa), ("obj", .ref md)]
def kNames4 (tm tl : Tok) (sl fi flt fgt feq fle fge sa md : Addr) (n : Int) : List (Str × Value) :=
  [("__module__", .str "cpy313.functools" tm), ("__firstlineno__", .int n tl), ("__slots__", .ref sl), ("__init__", .ref fi), ("__lt__", .ref flt), ("__gt__", .ref fgt), ("__eq__", .ref feq), ("__le__", .ref fle), ("__ge__", .ref fge), ("__hash__", .none), ("__static_attributes__", .ref sa), ("obj", .ref md), ("__doc__", .none)]
abbrev kCd (C D : Addr) (mro : List Value) (sn : List Str) (hd : Bool) : ClassData := { name := "K", bases := [.type "object"], mro := mro, ns := D, qualname := "cmp_to_key.<locals>.K", hasDict := hd, slotNames := sn }
abbrev kOb (cd : ClassData) (sl : Array (Option Value)) : Obj := { cls := .type "type", data := .cls cd, slots := sl }
theorem slotAt_at {C : Addr} {o : Obj} {i : Nat} {M : Model} {Q : Option Value → Shared → Prop} (e : s.heap.get? C = some o) (hq : Q (o.slots[i]?).join s) : wpAny M A (slotAt C i) Q E s := by
  unfold slotAt
  exact wpAny_bind (wpAny_loadPart e (wpAny_pure hq))
theorem own_new : classOwn (.type "object") "__new__" = pure (some (.builtin "object.__new__")) := by kernel_rfl
theorem lookup_new {C : Addr} {o : Obj} {cd : ClassData} {mm : Str → Option Value} {M : Model} {Q : Option Value → Shared → Prop} (e : s.heap.get? C = some o) (hd : o.data = .cls cd) (hm : cd.mro = [.ref C, .type "object"]) (hns : s.heap.Ns cd.ns mm) (hn : mm "__new__" = none)
    (hq : Q (some (.builtin "object.__new__")) s) : wpAny M A (typeLookup (.ref C) "__new__") Q E s := by
  rw [typeLookup_eq]
  have hcd : ∀ {Q : ClassData → Shared → Prop}, Q cd s → wpAny M A (classData C) Q E s := fun h => by
    unfold classData
    refine wpAny_bind (wpAny_load e ?_)
    rw [hd]
    exact wpAny_pure h
  refine wpAny_bind (wpAny_bind (hcd (wpAny_pure ?_)))
  rw [hm, lookupAlong_cons]
  refine wpAny_bind (wpAny_bind (hcd (wpAny_nsGet hns ?_)))
  rw [hn, lookupAlong_cons]
  refine wpAny_bind (wpAny_of_eq own_new (wpAny_pure hq))
theorem nsSetVC {a : Addr} {l : List (Str × Value)} {x : Str} {v : Value} {M : Model} {Q : Unit → Shared → Prop} (i : Nat) (cx : Cx P f g s₀ B₀ B mu s.heap s.gens s.os) (hi : mu[i]? = some (a, Ns1P l)) (hl : l.length ≤ 1000)
    (k : ∀ h' tk, Cx P f g s₀ B₀ B (mu.set i (a, Ns1P (putA x v l))) h' s.gens s.os → Q () { s with heap := h', toks := tk }) : wpAny M A (nsSetByValue a x v) Q E s := by
  obtain ⟨o, e, r⟩ := cx.get i hi
  obtain ⟨es, ep, hd, hk, hu, hm⟩ := id r.h
  have hs := ns_size hk hu hm
  unfold nsSetByValue
  refine wpAny_bind (wpAny_loadPart e ?_)
  rw [hd]
  have h0 : (decide (es.size > sizeLine) && noSuchName x es) = false := by
    have : ¬ es.size > sizeLine := by rw [sizeLine_eq]; omega
    simp [this]
  show wpAny _ _ (if (decide (es.size > sizeLine) && noSuchName x es) = true then _ else _) _ _ _
  rw [h0, if_neg (by decide)]
  exact nsSetC i cx hi k
theorem install_K {C D : Addr} {o : Obj} {c0 : ClassData} {l : List (Str × Value)} {M : Model} {Q : Unit → Shared → Prop} (cx : Cx P f g s₀ B₀ B ((C, EqP o) :: (D, Ns1P l) :: mu) s.heap s.gens s.os) (hd : o.data = .cls c0) (hl : l.length ≤ 1000) (hn : l.lookup ("obj" : Str) = none) (hsub : c0.subclasses = [])
    (k : ∀ md t t' h' tk B', B.le B' → B' md = some { cls := .type "member_descriptor", data := .fields #[.str "obj" t, .ref C, .builtin "proto.slot", .builtin "proto.slot#set", .int 0 t'] } →
      Cx P f g s₀ B₀ B' ((C, EqP { o with data := .cls { c0 with hasDict := false, slotNames := ["obj"] } }) :: (D, Ns1P (putA "obj" (.ref md) l)) :: mu) h' s.gens s.os → Q () { s with heap := h', toks := tk }) :
    wpAny M A (Builtin.Slots.install (.ref C) D [.type "object"] { names := ["obj"], dict := false, weak := false, inherited := [] }) Q E s := by
  obtain ⟨oD, eD, rD⟩ := cx.mus (D, _) (.tail _ (.head _))
  have nsD := rD.ns eD
  unfold Builtin.Slots.install
  refine wpAny_bind (forIn_one ?_)
  refine wpAny_bind (wpAny_nsGet nsD ?_)
  refine wpAny_ite_true (by show decide ((List.lookup ("obj" : Str) l).isNone = true) = true; rw [hn]; rfl) ?_
  refine wpAny_bind (wpAny_mkStr ?_ (by decide +kernel))
  unfold newFields
  refine wpAny_bind (wpAny_newObj_type ?_ (by size_fits))
  have c1 := cx.pushB { cls := .type "member_descriptor", data := .fields #[.str "obj" s.toks, .ref C, .builtin "proto.slot", .builtin "proto.slot#set", rawInt ((List.filter (fun (x : Str) => x.length != 0) []).length + [("obj" : Str)].length - 1 : Nat)] }
  have hle := FM.le_put (o := { cls := .type "member_descriptor", data := .fields #[.str "obj" s.toks, .ref C, .builtin "proto.slot", .builtin "proto.slot#set", rawInt ((List.filter (fun (x : Str) => x.length != 0) []).length + [("obj" : Str)].length - 1 : Nat)] }) (cx.sit.none_of (get_size _))
  refine wpAny_bind (nsSetVC (s := { s with heap := _, toks := s.toks + 1 }) 1 c1 rfl hl fun h2 tk2 c2 => ?_)
  refine wpAny_pure ?_
  refine wpAny_bind (forIn_one (wpAny_bind (wpAny_of_eq so_dict (wpAny_ite_false rfl (wpAny_pure ?_)))))
  refine wpAny_ite_false (by decide +kernel) ?_
  refine updClsC (s := { s with heap := h2, toks := tk2 }) 0 c2 rfl hd ?_ fun h3 c3 => ?_
  · show (if (decide (c0.subclasses.length > sizeLine) || decide (([("obj" : Str)]).length > sizeLine)) = true then some "class:memory" else none) = none
    rw [hsub]; rfl
  · exact k _ _ _ h3 tk2 _ hle (FM.put_self ..) c3
theorem forInA_same {α β : Type} {M : Model} {b : β} {ff : α → β → Sem (ForInStep β)} {Q : β → Shared → Prop} {xs : Array α} (h : ∀ x ∈ xs, ∀ Q' : ForInStep β → Shared → Prop, Q' (.yield b) s → wpAny M A (ff x b) Q' E s) (hq : Q b s) : wpAny M A (forIn xs b ff) Q E s := by
  rw [← Array.forIn_toList]
  have h' : ∀ x ∈ xs.toList, ∀ Q' : ForInStep β → Shared → Prop, Q' (.yield b) s → wpAny M A (ff x b) Q' E s := fun x hx => h x (by simpa using hx)
  revert h'
  induction xs.toList with
  | nil => intro _; rw [List.forIn_nil]; exact wpAny_pure hq
  | cons x l ih =>
    intro h'
    rw [List.forIn_cons]
    exact wpAny_bind (h' x (.head _) _ (ih fun y hy => h' y (.tail _ hy)))
theorem lk_setname_function : typeLookup (.type "function") "__set_name__" = pure none := by rw [typeLookup_type, builtinLookup_eq_fast]; kernel_rfl
theorem lk_sn_str : typeLookup (.type "str") "__set_name__" = pure none := by rw [typeLookup_type, builtinLookup_eq_fast]; kernel_rfl
theorem lk_sn_int : typeLookup (.type "int") "__set_name__" = pure none := by rw [typeLookup_type, builtinLookup_eq_fast]; kernel_rfl
theorem lk_sn_none : typeLookup (.type "NoneType") "__set_name__" = pure none := by rw [typeLookup_type, builtinLookup_eq_fast]; kernel_rfl
theorem lk_sn_list : typeLookup (.type "list") "__set_name__" = pure none := by rw [typeLookup_type, builtinLookup_eq_fast]; kernel_rfl
theorem lk_sn_tuple : typeLookup (.type "tuple") "__set_name__" = pure none := by rw [typeLookup_type, builtinLookup_eq_fast]; kernel_rfl
theorem lk_sn_md : typeLookup (.type "member_descriptor") "__set_name__" = pure none := by rw [typeLookup_type, builtinLookup_eq_fast]; kernel_rfl
/-- no value of the names asks for its own name -/
def NoSet (B : FM) (v : Value) : Prop := ∃ T, typeLookup (.type T) "__set_name__" = pure none ∧ (∀ s : Shared, B.inn s.heap → s.TypeIs v T) ∧ ∀ n, Builtin.heldUnderItsOwnName n v = false
theorem noset_ref {B : FM} {a : Addr} {o : Obj} {T : String} (e : B a = some o) (hc : o.cls = .type T) (h : typeLookup (.type T) "__set_name__" = pure none) : NoSet B (.ref a) := ⟨T, h, fun s k => ⟨o, k _ _ e, hc⟩, fun _ => rfl⟩
theorem Cx.ns1 {a : Addr} {l : List (Str × Value)} (cx : Cx P f g s₀ B₀ B mu h gs os) (hm : (a, Ns1P l) ∈ mu) : h.Ns a (fun n => l.lookup n) := by
  obtain ⟨o, e, r⟩ := cx.mus _ hm
  exact r.ns e
theorem Cx.eqAt {a : Addr} {o : Obj} (cx : Cx P f g s₀ B₀ B mu h gs os) (hm : (a, EqP o) ∈ mu) : h.get? a = some o := by
  obtain ⟨o', e, ⟨r⟩⟩ := cx.mus _ hm
  rw [r] at e; exact e
theorem type_new {N bt : Addr} {t0 : Tok} {Q : PySem.Fin → Shared → Prop} {tm tq tl : Tok} {sl fi flt fgt feq fle fge sa : Addr} {fl : Int} {st : Tok}
    (cx : Cx P f g s₀ B₀ B ((N, Ns1P (kNames1 tm tq tl sl fi flt fgt feq fle fge sa fl)) :: mu) s.heap s.gens s.os) (hbt : B bt = some (tupO [.type "object"] 0)) (hsl : B sl = some (lstO [.str "obj" st] 0))
    (f1 : FnO B fi) (f2 : FnO B flt) (f3 : FnO B fgt) (f4 : FnO B feq) (f5 : FnO B fle) (f6 : FnO B fge) (hsa : ∃ vs, B sa = some (tupO vs 0))
    (k : ∀ C D md tmd tmd' h' tk B', B.le B' → B' md = some { cls := .type "member_descriptor", data := .fields #[.str "obj" tmd, .ref C, .builtin "proto.slot", .builtin "proto.slot#set", .int 0 tmd'] } →
      Cx P f g s₀ B₀ B' ((C, EqP (kOb (kCd C D [.ref C, .type "object"] ["obj"] false) #[some (.ref bt), none, some (.str "K" t0), some (.str "cmp_to_key.<locals>.K" tq), some (.builtin "object.__new__"), some (.bool false)])) :: (D, Ns1P (kNames4 tm tl sl fi flt fgt feq fle fge sa md fl)) :: (N, Ns1P (kNames1 tm tq tl sl fi flt fgt feq fle fge sa fl)) :: mu) h' s.gens s.os → Q (.done (.ret (.ref C))) { s with heap := h', toks := tk }) : wpAny (model prg w) A4 (Builtin.«type.__new__» ⟨[.type "type", .str "K" t0, .ref bt, .ref N], []⟩) Q (fun _ _ => False) s := by
  have hb := isTup_of cx.sit.inB hbt
  obtain ⟨oN, eN, rN⟩ := cx.mus _ (.head _)
  obtain ⟨es, ep, hd, hk, hu, hm⟩ := id rN.h
  have nS : (N == sysModules) = false := Cx.not1 cx (cx.fresh _ (.head _)).2
  unfold Builtin.«type.__new__»
  refine wpAny_bind (wpAny_pure ?_)
  refine wpAny_bind (wpAny_isInstance (T := "tuple") hb.typeIs subT_tuple ?_)
  refine wpAny_ite_false rfl ?_
  refine wpAny_bind (wpAny_isInstance (T := "dict") ⟨_, eN, rN.c⟩ subT_dict ?_)
  refine wpAny_ite_false rfl ?_
  refine wpAny_bind (seq_tup hb ?_)
  refine wpAny_ite_false rfl ?_
  refine wpAny_bind (forIn_one (wpAny_bind (wpAny_pure (wpAny_ite_false rfl (wpAny_pure ?_)))))
  refine wpAny_bind (forIn_one (wpAny_bind (wpAny_of_eq typeOf_obj (wpAny_bind (wpAny_of_eq tk_sub (wpAny_ite_true rfl (wpAny_pure ?_)))))))
  refine wpAny_ite_false rfl ?_
  refine wpAny_bind (wpAny_of_eq no_turned ?_)
  refine wpAny_bind (wpAny_of_eq ext_base ?_)
  refine wpAny_ite_false (by rw [nS]; rfl) ?_
  refine wpAny_bind (dictEntries_at eN hd ?_)
  refine wpAny_bind (wpAny_specialOf (T := "dict") ⟨_, eN, rN.c⟩ lk_dict_iter ?_)
  refine wpAny_ite_true (by simp) ?_
  refine wpAny_bind (wpAny_pure ?_)
  refine wpAny_bind (wpAny_holding ?_)
  refine slots_read cx rfl hm rfl rfl hsl fun h1 tk1 cx1 => ?_
  refine wpAny_bind (newDict_cx (s := { s with heap := h1, toks := tk1 }) cx1 hk hu hm (Nat.le_of_ble_eq_true rfl) fun D h2 cx2 => ?_)
  dsimp only at cx2
  refine wpAny_ite_false (by show decide ((!(es.any fun x => x.key.isStr "__module__")) = true) = false; rw [ns_any hm]; rfl) ?_
  refine wpAny_bind ?_
  refine wpAny_ite_false (by decide +kernel) ?_
  refine wpAny_pure ?_
  refine wpAny_ite_false (by decide +kernel) ?_
  have nsD := cx2.ns1 (.head _)
  refine wpAny_bind (nsGetE (v := some (.str "cmp_to_key.<locals>.K" tq)) nsD (by kernel_rfl) ?_)
  refine wpAny_bind (nsGetE (v := some (.str "cmp_to_key.<locals>.K" tq)) nsD (by kernel_rfl) ?_)
  refine wpAny_bind (wpAny_pure ?_)
  refine wpAny_bind (wpAny_pure ?_)
  refine wpAny_bind (nsGetE (v := none) nsD (by kernel_rfl) ?_)
  refine wpAny_bind (allocMuE (s := { s with heap := h2, toks := tk1 }) (o := { cls := .type "type", data := .cls { name := "K", bases := [.type "object"], mro := [], ns := D, qualname := "cmp_to_key.<locals>.K" } }) cx2 rfl fun C h3 cx3 => ?_)
  refine wpAny_ite_true rfl ?_
  refine wpAny_bind (setSlotC (s := { s with heap := h3, toks := tk1 }) (j := 0) (C := C) (v := some (.ref bt)) 0 cx3 rfl (by decide) rfl fun h4 cx4 => ?_)
  refine wpAny_bind (setSlotC (s := { s with heap := h4, toks := tk1 }) (j := 2) (C := C) (v := some (.str "K" t0)) 0 cx4 rfl (by decide) rfl fun h5 cx5 => ?_)
  refine wpAny_bind (setSlotC (s := { s with heap := h5, toks := tk1 }) (j := 3) (C := C) (v := some (.str "cmp_to_key.<locals>.K" tq)) 0 cx5 rfl (by decide) rfl fun h6 cx6 => ?_)
  have cx6 : Cx P f g s₀ B₀ B ((C, EqP (kOb (kCd C D [] [] true) #[some (.ref bt), none, some (.str "K" t0), some (.str "cmp_to_key.<locals>.K" tq)])) :: (D, Ns1P (kNames1 tm tq tl sl fi flt fgt feq fle fge sa fl)) :: (N, Ns1P (kNames1 tm tq tl sl fi flt fgt feq fle fge sa fl)) :: mu) h6 s.gens s.os := Cx.cast cx6 (by kernel_rfl)
  clear cx5 cx4 cx3
  refine wpAny_bind (nsDelC (s := { s with heap := h6, toks := tk1 }) 1 cx6 rfl (by kernel_rfl) fun h7 cx7 => ?_)
  have cx7 : Cx P f g s₀ B₀ B ((C, EqP (kOb (kCd C D [] [] true) #[some (.ref bt), none, some (.str "K" t0), some (.str "cmp_to_key.<locals>.K" tq)])) :: (D, Ns1P (kNames2 tm tl sl fi flt fgt feq fle fge sa fl)) :: (N, Ns1P (kNames1 tm tq tl sl fi flt fgt feq fle fge sa fl)) :: mu) h7 s.gens s.os := Cx.cast cx7 (by kernel_rfl)
  clear cx6
  have nsD7 := cx7.ns1 (.tail _ (.head _))
  refine wpAny_bind (nsGetE (v := none) nsD7 (by kernel_rfl) ?_)
  refine wpAny_bind (forIn_two (wpAny_bind (nsGetE (v := none) nsD7 (by kernel_rfl) (wpAny_pure ?_))))
  refine forIn_one (wpAny_bind (nsGetE (v := none) nsD7 (by kernel_rfl) (wpAny_pure ?_)))
  refine wpAny_bind (nsGetE (v := none) nsD7 (by kernel_rfl) ?_)
  refine wpAny_bind (nsGetE (v := none) nsD7 (by kernel_rfl) ?_)
  refine wpAny_bind (wpAny_of_eq mro_hook ?_)
  refine wpAny_bind (wpAny_of_eq lin_obj ?_)
  refine wpAny_bind (wpAny_pure ?_)
  have hfl : (List.filter (fun x => x != Value.ref C) [.ref C, .type "object"]) = [.type "object"] := by simp
  refine wpAny_bind ?_
  rw [hfl]
  refine wpAny_of_eq (a := false) (by kernel_rfl) ?_
  refine wpAny_bind (updClsC (s := { s with heap := h7, toks := tk1 }) 0 cx7 rfl rfl rfl fun h8 cx8 => ?_)
  have hdel : (es.any fun x => x.key.isStr "__del__") = false := (ns_any hm _).trans (by kernel_rfl)
  simp only [hdel, Bool.or_false] at cx8
  refine wpAny_bind (wpAny_of_eq made_obj ?_)
  refine wpAny_bind (setSlotC (s := { s with heap := h8, toks := tk1 }) (j := 4) (C := C) (v := some (.builtin "object.__new__")) 0 cx8 rfl (by decide) rfl fun h9 cx9 => ?_)
  have cx9 : Cx P f g s₀ B₀ B ((C, EqP (kOb (kCd C D [.ref C, .type "object"] [] true) #[some (.ref bt), none, some (.str "K" t0), some (.str "cmp_to_key.<locals>.K" tq), some (.builtin "object.__new__")])) :: (D, Ns1P (kNames2 tm tl sl fi flt fgt feq fle fge sa fl)) :: (N, Ns1P (kNames1 tm tq tl sl fi flt fgt feq fle fge sa fl)) :: mu) h9 s.gens s.os := Cx.cast cx9 (by kernel_rfl)
  clear cx8 cx7
  have eC9 := cx9.eqAt (.head _)
  have nsD9 := cx9.ns1 (.tail _ (.head _))
  refine wpAny_bind ?_
  unfold Bind.refreshMaker
  refine wpAny_bind (slotAt_at (s := { s with heap := h9, toks := tk1 }) eC9 ?_)
  refine wpAny_ite_false rfl ?_
  refine wpAny_bind (lookup_new (s := { s with heap := h9, toks := tk1 }) eC9 rfl rfl nsD9 (by kernel_rfl) ?_)
  refine wpAny_ite_false (by decide +kernel) ?_
  refine wpAny_pure ?_
  refine wpAny_bind (install_K (s := { s with heap := h9, toks := tk1 }) cx9 rfl (Nat.le_of_ble_eq_true rfl) (by kernel_rfl) rfl fun md tmd tmd' h10 tk10 B10 hle10 hmd cx10 => ?_)
  refine wpAny_bind (wpAny_of_eq so_weak ?_)
  refine wpAny_bind (setSlotC (s := { s with heap := h10, toks := tk10 }) (j := 5) (C := C) (v := some (.bool false)) 0 cx10 rfl (by decide) rfl fun h11 cx11 => ?_)
  have cx11 : Cx P f g s₀ B₀ B10 ((C, EqP (kOb (kCd C D [.ref C, .type "object"] ["obj"] false) #[some (.ref bt), none, some (.str "K" t0), some (.str "cmp_to_key.<locals>.K" tq), some (.builtin "object.__new__"), some (.bool false)])) :: (D, Ns1P (kNames3 tm tl sl fi flt fgt feq fle fge sa md fl)) :: (N, Ns1P (kNames1 tm tq tl sl fi flt fgt feq fle fge sa fl)) :: mu) h11 s.gens s.os := Cx.cast cx11 (by kernel_rfl)
  clear cx10 cx9
  refine wpAny_ite_false rfl ?_
  refine wpAny_ite_false rfl ?_
  have nsD11 := cx11.ns1 (.tail _ (.head _))
  refine wpAny_bind (nsGetE (v := none) nsD11 (by kernel_rfl) ?_)
  refine wpAny_ite_true rfl ?_
  refine wpAny_bind (nsSetC (s := { s with heap := h11, toks := tk10 }) 1 cx11 rfl fun h12 tk12 cx12 => ?_)
  have cx12 : Cx P f g s₀ B₀ B10 ((C, EqP (kOb (kCd C D [.ref C, .type "object"] ["obj"] false) #[some (.ref bt), none, some (.str "K" t0), some (.str "cmp_to_key.<locals>.K" tq), some (.builtin "object.__new__"), some (.bool false)])) :: (D, Ns1P (kNames4 tm tl sl fi flt fgt feq fle fge sa md fl)) :: (N, Ns1P (kNames1 tm tq tl sl fi flt fgt feq fle fge sa fl)) :: mu) h12 s.gens s.os := Cx.cast cx12 (by kernel_rfl)
  clear cx11
  have eC12 := cx12.eqAt (.head _)
  have nsD12 := cx12.ns1 (.tail _ (.head _))
  refine wpAny_bind (nsGetE (v := some (.ref feq)) nsD12 (by kernel_rfl) ?_)
  refine wpAny_ite_true rfl ?_
  refine wpAny_bind (nsGetE (v := some .none) nsD12 (by kernel_rfl) ?_)
  refine wpAny_ite_false rfl ?_
  refine wpAny_bind (forIn_one ?_)
  refine wpAny_bind (wpAny_of_eq (a := ()) ?_ (wpAny_pure ?_))
  · kernel_rfl
  refine wpAny_bind (wpAny_tryCatch (no_E (wpAny_holding (absQ fun KQ hQ => ?_))))
  obtain ⟨oD12, eD12, rD12⟩ := cx12.mus (D, _) (.tail _ (.head _))
  obtain ⟨es2, ep2, hd2, hk2, hu2, hm2⟩ := id rD12.h
  refine wpAny_bind (dictEntries_at (s := { s with heap := h12, toks := tk12 }) eD12 hd2 ?_)
  refine wpAny_bind (forInA_same (s := { s with heap := h12, toks := tk12 }) (fun x hx Q' hq => ?_) ?_)
  · obtain ⟨n, t, hkey⟩ := hk2 x hx
    rw [hkey]
    exact wpAny_bind (wpAny_pure (wpAny_ite_false rfl (wpAny_pure hq)))
  refine wpAny_ite_false rfl ?_
  refine wpAny_bind (dictEntries_at (s := { s with heap := h12, toks := tk12 }) eD12 hd2 ?_)
  have hall : ∀ p ∈ kNames4 tm tl sl fi flt fgt feq fle fge sa md fl, NoSet B10 p.2 := by
    obtain ⟨o1, e1, c1, _⟩ := f1.le hle10
    obtain ⟨o2, e2, c2, _⟩ := f2.le hle10
    obtain ⟨o3, e3, c3, _⟩ := f3.le hle10
    obtain ⟨o4, e4, c4, _⟩ := f4.le hle10
    obtain ⟨o5, e5, c5, _⟩ := f5.le hle10
    obtain ⟨o6, e6, c6, _⟩ := f6.le hle10
    obtain ⟨vs, e7⟩ := hsa
    have e8 := hle10 _ _ hsl
    unfold kNames4
    simp only [List.forall_mem_cons]
    refine ⟨⟨"str", lk_sn_str, fun s k => typeIs_str _ _ _, fun _ => rfl⟩, ⟨"int", lk_sn_int, fun s k => typeIs_int _ _ _, fun _ => rfl⟩, noset_ref e8 rfl lk_sn_list, noset_ref e1 c1 lk_setname_function, noset_ref e2 c2 lk_setname_function, noset_ref e3 c3 lk_setname_function, noset_ref e4 c4 lk_setname_function, noset_ref e5 c5 lk_setname_function, noset_ref e6 c6 lk_setname_function,
      ⟨"NoneType", lk_sn_none, fun s k => typeIs_none _, fun _ => rfl⟩, noset_ref (hle10 _ _ e7) rfl lk_sn_tuple, noset_ref hmd rfl lk_sn_md, ⟨"NoneType", lk_sn_none, fun s k => typeIs_none _, fun _ => rfl⟩, fun _ h => (nomatch h)⟩
  refine wpAny_bind (forInA_same (s := { s with heap := h12, toks := tk12 }) (fun x hx Q' hq => ?_) ?_)
  · obtain ⟨n, t, hkey, hv⟩ := ns_entry hk2 hu2 hm2 hx
    obtain ⟨T, hT1, hT2, hT3⟩ := hall _ (mem_of_lookup hv)
    refine wpAny_ite_false (by rw [hkey]; show decide (Builtin.heldUnderItsOwnName n x.val = true) = false; rw [hT3]; rfl) ?_
    exact wpAny_bind (wpAny_specialOf (hT2 _ cx12.sit.inB) hT1 (wpAny_pure hq))
  refine wpAny_bind (no_E (to_A5 ok_A4 (sup_x (s := { s with heap := h12, toks := tk12 }) eC12 fun so o h13 t13 one1 ho => ?_)))
  subst ho
  have cx13 := cx12.newB one1.new one1.keep one1.at'
  refine wpAny_bind (wpAny_holding (no_E (sup_get (s := { s with heap := h13, toks := t13 }) cx13.sit one1.at' (one1.keep _ _ eC12) ok_A4 fun fa h14 t14 one2 => ?_)))
  have cx14 := cx13.grow one2.keep
  refine wpAny_bind (no_E (to_A5 ok_A4 (isub_x (s := { s with heap := h14, toks := t14 }) (one2.keep _ _ (one1.keep _ _ eC12)) one2.at' fun h15 t15 hk15 => ?_)))
  have cx15 := cx14.grow hk15
  have hle := FM.le_put (o := { cls := .type "super", data := .fields #[.ref C, .ref C, .ref C] }) (cx12.sit.none_of one1.new)
  refine wpAny_pure (hQ _ _ (wpAny_pure ?_))
  exact k C D md tmd tmd' h15 t15 _ (hle10.trans hle) (hle _ _ hmd) cx15
end
end Mine
end
section
open PySem PySem.W PyProof.Rows
set_option Elab.async false
set_option maxRecDepth 100000
set_option maxHeartbeats 4000000
set_option linter.unusedVariables false
namespace Mine
section
variable {w : World} {P : Params} {f g : Bool} {s₀ s : Shared} {B₀ B : FM} {mu : MU} {h h' : Heap} {gs : Array GenState} {os : OsState} {A : Around} {E : Value → Shared → Prop} {env : Env}

theorem ex_class {name bind : Str} {b : Expr} {body : List Stmt} {scope : Scope} {x1 : Option Scope} {statics : List Str} {pos : Pos} {Q : Flow → Shared → Prop} (S : Sit P f g B s.heap s.gens) (hb : env.builtins = builtinsNs)
    (hbc : nsFind (esOf P 0) "__build_class__" = some (.builtin "__build_class__")) (hs : starEach [b] env = [(false, eval b env)])
    (h : wpAny (model prg w) A (eval b env) (fun v s₁ => wpAny (model prg w) A (buildClass name (qualnameIn env name bind) [v] [] body scope statics pos.line env pos none) (fun c s₂ => wpAny (model prg w) A (storeName env bind c) (fun _ s₃ => Q .next s₃) E s₂) E s₁) E s) :
    wpAny (model prg w) A (exec (.ClassDef name [b] [] body [] [] scope x1 bind statics pos) env) Q E s := by
  rw [arm_exec_ClassDef]
  refine wpAny_bind (wpAny_pure (wpAny_bind (wpAny_standAt (wpAny_bind ?_))))
  unfold buildClassGuard
  rw [hb]
  refine wpAny_bind (wpAny_nsGet S.blt ?_)
  rw [hbc]
  refine wpAny_pure (wpAny_bind (wpAny_holding (wpAny_bind ?_)))
  rw [hs]
  show wpAny _ _ (evalArgs _ false ((false, _) :: []) []) _ _ _
  unfold evalArgs
  show wpAny _ _ (spliced ((false, _) :: []) >>= _) _ _ _
  refine wpAny_bind (Calls.spliced_cons (wpAny_mono h (fun v s₁ h₁ => wpAny_pure ?_) fun _ _ x => x))
  refine wpAny_holding (wpAny_bind (wpAny_pure (wpAny_bind (wpAny_pure (wpAny_pure ?_)))))
  refine wpAny_bind (wpAny_standAt (wpAny_holding (wpAny_mono h₁ (fun c s₂ h₂ => ?_) fun _ _ x => x)))
  refine wpAny_bind (wpAny_pure (wpAny_bind (wpAny_standAt (wpAny_bind (wpAny_bindName (wpAny_mono h₂ (fun _ s₃ h₃ => wpAny_pure h₃) fun _ _ x => x))))))

theorem sub_tt : isSubtype (.type "type") (.type "type") = pure true := by rw [isSubtype_type]; kernel_rfl
theorem ld_class_glob {l : List (Str × Value)} {x : Str} {v : Value} {Q : Value → Shared → Prop} (i : Nat) (cx : Cx P f g s₀ B₀ B mu s.heap s.gens s.os) (hi : mu[i]? = some (env.locals, Ns1P l)) (hl : l.lookup x = none) (hv : nsFind (esOf P 3) x = some v) (hg : env.globals = mainGlobals) (h : Q v s)
    (he : loadName env x = (localGet env x >>= fun r => match r with | some v => pure v | none => loadGlobal env x) ) : wpAny (model prg w) A (loadName env x) Q E s := by
  obtain ⟨o, e, r⟩ := cx.get i hi
  rw [he]
  unfold localGet
  refine wpAny_bind (wpAny_bind (wpAny_load e ?_))
  rw [r.c, if_pos (by decide)]
  refine wpAny_nsGet (r.ns e) ?_
  rw [hl]
  exact Calls.loadGlobal_global (hg ▸ cx.sit.glob) hv h
theorem name_eq (N L kc F : Addr) : loadName (envC N L kc F) "__name__" = (localGet (envC N L kc F) "__name__" >>= fun r => match r with | some v => pure v | none => loadGlobal (envC N L kc F) "__name__") := by
  unfold loadName
  have h1 : (envC N L kc F).blockKind = .class := rfl
  have h2 : (envC N L kc F).kindOf "__name__" = none := rfl
  rw [h1, h2]
  have h3 : (envC N L kc F).scope.kind.isAnnotationScope = false := rfl
  rw [h3]
  have h4 : compilersOwnNames.contains ("__name__" : Str) = true := by decide
  simp only [h4]
  rw [if_neg (by simp), if_neg (by simp)]
  refine congrArg _ (funext fun r => ?_)
  cases r <;> rfl
theorem k1_name (P : Params) : ∃ t, nsFind (esOf P 3) "__name__" = some (.str "law_mq0160_01" t) := ⟨284, by kernel_rfl⟩
theorem build_K {L q : Addr} {Q : Value → Shared → Prop} (cx : Cx P true g s₀ B₀ B [(L, NsP []), (L + 1, CellP (some (.ref q)))] s.heap s.gens s.os) (hA : AOk 110 A)
    (k : ∀ C D md tmd tmd' tm tl sl fi flt fgt feq fle fge sa ci cl fl k0 k1 k2 k3 k5 h' tk B', B.le B' → B' md = some { cls := .type "member_descriptor", data := .fields #[.str "obj" tmd, .ref C, .builtin "proto.slot", .builtin "proto.slot#set", .int 0 tmd'] } →
      DefB B' fi ci "cmp_to_key.<locals>.K.__init__" (kparAt 2) (kbodyAt 2) (kscAt 2) [] .none → DefB B' flt cl "cmp_to_key.<locals>.K.__lt__" (kparAt 3) (kbodyAt 3) (kscAt 3) [("mycmp", L + 1)] .none → FnO B' fi → FnO B' flt →
      Cx P false g s₀ B₀ B' [(C, EqP (excClassObj "K" "cmp_to_key.<locals>.K" C D [.type "object"] [.type "object"] false ["obj"] [] false none none k0 k1 k2 k3 k5 "object.__new__")), (D, Ns1P (kNames4 tm tl sl fi flt fgt feq fle fge sa md fl)), (L, NsP []), (L + 1, CellP (some (.ref q)))] h' s.gens s.os → Q (.ref C) { s with heap := h', toks := tk }) :
    wpAny (model prg w) A (buildClass "K" "cmp_to_key.<locals>.K" [.type "object"] [] clsBody clsSc ["obj"] clsPos.line (envK L) clsPos none) Q E s := by
  unfold buildClass
  refine wpAny_bind ?_
  refine nTup cx (by simp) fun bt h1 B1 hle1 hbt cx1 => ?_
  refine wpAny_bind (forIn_one (wpAny_bind (wpAny_pure (wpAny_ite_true rfl (wpAny_ite_false rfl (wpAny_pure ?_))))))
  refine wpAny_bind (wpAny_of_eq typeOf_obj ?_)
  refine wpAny_bind (wpAny_pure (wpAny_ite_true rfl ?_))
  refine wpAny_bind (forIn_one (wpAny_bind (wpAny_of_eq typeOf_obj (wpAny_bind (wpAny_of_eq sub_tt (wpAny_ite_true rfl (wpAny_pure ?_)))))))
  refine wpAny_bind (wpAny_mkText (wpAny_ite_false rfl ?_))
  refine wpAny_bind (wpAny_pure ?_)
  refine wpAny_holding ?_
  unfold getAttr? getAttrBy?
  refine wpAny_bind (wpAny_bind (wpAny_mkText (wpAny_bind (wpAny_attempt (no_E (to_A5 hA (prep_x fun a oa h2 tk2 one2 ho2 => wpAny_pure ?_)))))))
  subst ho2
  have cx2 := cx1.newB one2.new one2.keep one2.at'
  refine wpAny_bind (no_E (to_A5 hA (prep_c (cx2.sit.inB _ _ (FM.put_self ..)) fun N oN h3 tk3 one3 ho3 => ?_)))
  subst ho3
  have cx3 := cx2.newMu (p := Ns1P []) one3.new one3.keep one3.at' ⟨rfl, #[], 0, rfl, fun e he => by simp at he, by unfold UniqKeys; exact List.Pairwise.nil, fun n => rfl⟩
  have ha0 := one2.new
  have one3t := one3.at'
  clear one3 one2
  have nS : (N == sysModules) = false := Cx.not1 (s := { s with heap := h3, toks := tk3 }) cx3 (cx3.fresh _ (.head _)).2
  refine wpAny_bind ?_
  unfold notTheModulesDict
  rw [nS, if_neg (by decide)]
  refine wpAny_pure ?_
  refine wpAny_bind (wpAny_specialOf (T := "dict") ⟨_, one3t, rfl⟩ slot_dict_getitem.lookup (wpAny_ite_false rfl ?_))
  refine wpAny_holding (wpAny_ite_false rfl ?_)
  refine wpAny_bind (wpAny_pure (wpAny_ite_false rfl ?_))
  refine wpAny_bind (wpAny_pure ?_)
  refine wpAny_bind (classCode58 (s := { s with heap := h3, toks := tk3 }) cx3 rfl fun kc kt h4 tk4 B4 hle4 hkc cx4 => ?_)
  refine wpAny_bind (wpAny_builtinsFor (s := { s with heap := h4, toks := tk4 }) cx4.sit.glob (k1_bm P) (by decide) (cx4.sit.at (k1_4 P) (notTab rfl)) (k1_4a P) (k1_4b P) (k1_4c P) ?_)
  unfold newBodyFrame
  refine wpAny_bind (wpAny_bind (wpAny_nsGet cx4.sit.glob (wpAny_alloc ?_)))
  have cx5 := cx4.push { cls := .type "frame", slots := #[some (.ref kc), some (.ref mainGlobals), some (.ref N), none, some ((nsFind (esOf P 3) "__name__").getD .none), none, some (.ref builtinsNs)] }
  generalize h4.push { cls := .type "frame", slots := #[some (.ref kc), some (.ref mainGlobals), some (.ref N), none, some ((nsFind (esOf P 3) "__name__").getD .none), none, some (.ref builtinsNs)] } = h5 at cx5 ⊢
  generalize ({ s with heap := h4, toks := tk4 } : Shared).heap.objs.size = F
  refine wpAny_bind (wpAny_of_eq (show closureFor clsSc (envK L) = (pure [("mycmp", L + 1)] : Sem (List (Str × Addr))) from rfl) ?_)
  refine wpAny_holding ?_
  refine wpAny_bind (wpAny_enterFrame cx5.sit.nolimit hA.room ?_)
  refine wpAny_bind (wpAny_onRaise ?_)
  obtain ⟨tn, hname⟩ := k1_name P
  refine wpAny_bind (ld_class_glob (env := envC N L kc F) 1 cx5 rfl rfl hname rfl ?_ (name_eq ..))
  dsimp only at cx5
  refine wpAny_bind (st_class (env := envC N L kc F) 1 cx5 rfl fun h6 tk6 cx6 => ?_)
  dsimp only at cx6
  refine wpAny_bind (wpAny_mkText (wpAny_bind (st_class (env := envC N L kc F) 1 cx6 rfl fun h7 tk7 cx7 => ?_)))
  dsimp only at cx7
  refine wpAny_bind (wpAny_mkInt (wpAny_bind (st_class (env := envC N L kc F) 1 cx7 rfl fun h8 tk8 cx8 => ?_)))
  dsimp only at cx8
  refine wpAny_pure ?_
  refine wpAny_bind (wpAny_run ?_)
  refine body_K (N := N) (L := L) (kc := kc) (kt := kt) (F := F) (q := q) cx8 hkc ?_
  intro tm sl st fi flt fgt feq fle fge ci cl ob h9 tk9 B9 hle9 hsl dI dL f1 f2 f3 f4 f5 f6 cx9
  dsimp only at cx9 ⊢
  refine wpAny_bind (wpAny_onRaise ?_)
  refine wpAny_bind ?_
  rw [List.mapM_cons, List.mapM_nil]
  refine wpAny_bind (wpAny_mkText (wpAny_bind (wpAny_pure (wpAny_pure ?_))))
  refine wpAny_bind (wpAny_newTextTuple ?_)
  have cx10 := cx9.pushB { cls := .type "tuple", data := .seq ([Value.str "obj" tk9] : List Value).toArray }
  have hle10 := FM.le_put (o := { cls := .type "tuple", data := .seq ([Value.str "obj" tk9] : List Value).toArray }) (cx9.sit.none_of (get_size _))
  refine wpAny_bind (st_class (s := { s with heap := _, toks := tk9 + 1 }) (env := envC N L kc F) 1 cx10 rfl fun h11 tk11 cx11 => ?_)
  refine wpAny_pure ?_
  refine wpAny_ite_false rfl ?_
  have cx12 := (Cx.tail cx11 rfl).cast (mu' := [(N, Ns1P (kNames1 tm tk6 tk7 sl fi flt fgt feq fle fge h9.objs.size (clsPos.line : Int))), (L, NsP []), (L + 1, CellP (some (.ref q)))]) (by kernel_rfl)
  have l4 := hle4.trans (hle9.trans hle10)
  have l1 : B1.le _ := (FM.le_put (cx1.sit.none_of ha0)).trans l4
  refine wpAny_bind (call_type3 (s := { s with heap := h11, toks := tk11 }) (hA.less (by omega)) (type_new (s := { s with heap := h11, toks := tk11 }) cx12 (l1 _ _ hbt) (hle10 _ _ hsl) (f1.le hle10) (f2.le hle10) (f3.le hle10) (f4.le hle10) (f5.le hle10) (f6.le hle10) ⟨_, FM.put_self ..⟩ ?_))
  intro C D md tmd tmd' h13 tk13 B13 hle13 hmd cx13
  have cx14 := cx13.perm (mu' := [(C, _), (D, _), (L, _), (L + 1, _), (N, _)]) (((List.perm_append_comm (l₁ := [(N, _)]) (l₂ := [(L, _), (L + 1, _)])).cons _).cons _)
  have cx15 := cx14.sub (mu' := [(C, _), (D, _), (L, _), (L + 1, _)]) (by exact List.sublist_append_left [_, _, _, _] [_])
  obtain ⟨oC, eC, ⟨rC⟩⟩ := cx15.mus _ (.head _)
  refine ⟨C, oC, rfl, eC, by rw [rC], wpAny_pure ?_⟩
  exact k C D md tmd tmd' tm tk7 sl fi flt fgt feq fle fge h9.objs.size ci cl _ _ _ _ _ _ h13 tk13 B13 (hle1.trans (l1.trans hle13)) hmd (dI.le (hle10.trans hle13)) (dL.le (hle10.trans hle13)) (f1.le (hle10.trans hle13)) (f2.le (hle10.trans hle13)) cx15
end
end Mine
end
section
open PySem PySem.W PyProof.Rows
set_option Elab.async false
set_option maxRecDepth 100000
set_option maxHeartbeats 4000000
set_option linter.unusedVariables false
namespace Mine
/-- the class that cmp_to_key made for q, frozen -/
inductive KClsB (B : FM) (C q : Addr) : Prop
  | mk (D md tmd tmd' tm tl sl fi flt fgt feq fle fge sa ci cl cc fl k0 k1 k2 k3 k5 oD oc) (e1 : B C = some (excClassObj "K" "cmp_to_key.<locals>.K" C D [.type "object"] [.type "object"] false ["obj"] [] false none none k0 k1 k2 k3 k5 "object.__new__")) (e2 : B D = some oD) (e3 : Ns1P (kNames4 tm tl sl fi flt fgt feq fle fge sa md fl) oD) (e4 : B md = some { cls := .type "member_descriptor", data := .fields #[.str "obj" tmd, .ref C, .builtin "proto.slot", .builtin "proto.slot#set", .int 0 tmd'] }) (e5 : DefB B fi ci "cmp_to_key.<locals>.K.__init__" (kparAt 2) (kbodyAt 2) (kscAt 2) [] .none) (e6 : DefB B flt cl "cmp_to_key.<locals>.K.__lt__" (kparAt 3) (kbodyAt 3) (kscAt 3) [("mycmp", cc)] .none) (e7 : FnO B fi) (e8 : FnO B flt) (e9 : B cc = some oc) (e10 : oc.data = .cell (some (.ref q))) : KClsB B C q
theorem KClsB.le {B B' : FM} {C q : Addr} (x : KClsB B C q) (h : B.le B') : KClsB B' C q := by
  obtain ⟨D, md, a1, a2, a3, a4, a5, a6, a7, a8, a9, b1, b2, b3, b4, b5, cc, c1, c2, c3, c4, c5, c6, oD, oc, e1, e2, e3, e4, e5, e6, e7, e8, e9, e10⟩ := x
  exact ⟨D, md, a1, a2, a3, a4, a5, a6, a7, a8, a9, b1, b2, b3, b4, b5, cc, c1, c2, c3, c4, c5, c6, oD, oc, h _ _ e1, h _ _ e2, e3, h _ _ e4, e5.le h, e6.le h, e7.le h, e8.le h, h _ _ e9, e10⟩
theorem blt_object (P : Params) : BltIs P "object" (.type "object") := ⟨by kernel_rfl, by kernel_rfl⟩
theorem blt_bc (P : Params) : nsFind (esOf P 0) "__build_class__" = some (.builtin "__build_class__") := by kernel_rfl

theorem ctk_spec {w : World} {P : Params} {g : Bool} {B : FM} {A : Around} {E : Value → Shared → Prop} {s : Shared} {Q : Value → Shared → Prop} {q : Addr}
    (S : Sit P true g B s.heap s.gens) (hA : AOk 111 A) (k : ∀ C s' B', Mv B B' s s' → Sit P false g B' s'.heap s'.gens → KClsB B' C q → Q (.ref C) s') : wpAny (model prg w) A (call (.ref 63) [.ref q]) Q E s := by
  refine call_def S hA (def_ctk S.stat) (bind_pure (binds := [("mycmp", .ref q)]) (by rfl)) (.cell (i := 0) rfl rfl rfl .nil) fun h' tk cx => ?_
  generalize s.heap.objs.size = L at cx ⊢
  have cx1 : Cx P true g s B B [(L, NsP []), (L + 1, CellP (some (.ref q)))] h' s.gens s.os := cx
  clear cx
  refine wpAny_execs_cons (ex_class cx1.sit rfl (blt_bc P) rfl (ldB cx1.sit (blt_object P) ?_))
  refine build_K (L := L) (q := q) cx1 hA.deeper ?_
  intro C D md tmd tmd' tm tl sl fi flt fgt feq fle fge sa ci cl fl k0 k1 k2 k3 k5 h2 tk2 B2 hle2 hmd dI dL f1 f2 cx2
  have cx3 := cx2.perm (mu' := [(L, _), (C, _), (D, _), (L + 1, _)]) (((List.Perm.swap ..).cons _).trans (List.Perm.swap ..))
  refine stL cx3 rfl fun h3 tk3 cx4 => ?_
  refine wpAny_execs_cons (wpAny_Return_some (ld_local (s := { s with heap := h3, toks := tk3 }) cx4 (.head _) rfl ?_))
  obtain ⟨oC, ⟨rC⟩, _, nC, cx5⟩ := (cx4.tail rfl).freeze
  obtain ⟨oD, rD, _, nD, cx6⟩ := cx5.freeze
  obtain ⟨oc, rc, _, nc, cx7⟩ := cx6.freeze
  have l5 := FM.le_put (o := oC) nC
  have l6 := FM.le_put (o := oD) nD
  have l7 := FM.le_put (o := oc) nc
  have l57 := l5.trans (l6.trans l7)
  refine k C _ _ cx7.mv cx7.sit ⟨D, md, tmd, tmd', tm, tl, sl, fi, flt, fgt, feq, fle, fge, sa, ci, cl, L + 1, fl, k0, k1, k2, k3, k5, oD, oc, ?_, l7 _ _ (FM.put_self ..), rD, l57 _ _ hmd, dI.le l57, dL.le l57, f1.le l57, f2.le l57, FM.put_self .., rc.h⟩
  rw [← rC]; exact l7 _ _ (l6 _ _ (FM.put_self ..))
end Mine
end
section
open PySem PySem.W PyProof.Rows PySem.Builtin PySem.Builtin.ObjectAttr
set_option Elab.async false
set_option maxRecDepth 100000
set_option maxHeartbeats 4000000
set_option linter.unusedVariables false
namespace Mine

theorem lookup_of {B : FM} {a : Addr} {o : Obj} : ∀ {l : Frag}, (∀ p ∈ l, B p.1 = some p.2) → (a, o) ∈ l → l.lookup a = some o
  | [], _, h => nomatch h
  | (b, ob) :: r, hB, h => by
    rw [List.lookup_cons]
    cases q : a == b with
    | true =>
      have hab : a = b := beq_iff_eq.mp q
      subst hab
      rcases List.mem_cons.mp h with e | h'
      · cases e; rfl
      · have e1 := hB (a, ob) (.head _)
        have e2 := hB (a, o) (.tail _ h')
        dsimp only at e1 e2
        rw [e1] at e2; exact e2
    | false =>
      rcases List.mem_cons.mp h with e | h'
      · cases e; simp at q
      · exact lookup_of (fun p hp => hB p (.tail _ hp)) h'
theorem lookup_in {a : Addr} {o : Obj} : ∀ {l : Frag}, l.lookup a = some o → (a, o) ∈ l
  | [], h => nomatch h
  | (b, ob) :: r, h => by
    rw [List.lookup_cons] at h
    cases q : a == b with
    | true => rw [q] at h; rw [beq_iff_eq.mp q]; cases h; exact .head _
    | false => rw [q] at h; exact .tail _ (lookup_in h)

/-- what the class K answers, read off a fragment of the frozen part -/
structure KFr (K : Frag) (C md fi flt : Addr) : Prop where
  makes : makesIn K C = true
  init : findIn K (.ref C) "__init__" = some (some (.ref fi))
  fi : typeIn K (.ref fi) = some (.type "function")
  flt : typeIn K (.ref flt) = some (.type "function")
  set : findIn K (.ref C) "__setattr__" = some (some (.builtin "object.__setattr__"))
  over : plainOver K C = true
  obj : findIn K (.ref C) "obj" = some (some (.ref md))
  taker : takerIn K C "obj" = some (some (.ref md))
  mdT : typeIn K (.ref md) = some (.type "member_descriptor")
  slot : slotIn K md C = some 0
  get : plainGet K C "obj" = true
  cls : (clsIn K C).isSome = true
  mdG : specialIn K (.ref md) "__get__" = some (some (.builtin "member_descriptor.__get__"))
  mdS : takesIn K (.ref md) = some true

theorem kfr_of {K : Frag} {C D md fi flt : Addr} {tmd tmd' : Tok} {k0 k1 k2 k3 k5 : Option Value} {oD ofi oflt : Obj} {l : List (Str × Value)}
    (hC : K.lookup C = some (excClassObj "K" "cmp_to_key.<locals>.K" C D [.type "object"] [.type "object"] false ["obj"] [] false none none k0 k1 k2 k3 k5 "object.__new__"))
    (hD : K.lookup D = some oD) (hn : NsP l oD) (l1 : List.lookup ("__init__" : Str) l = some (.ref fi)) (l2 : List.lookup ("__setattr__" : Str) l = none) (l3 : List.lookup ("obj" : Str) l = some (.ref md)) (l4 : List.lookup ("__getattribute__" : Str) l = none) (l5 : List.lookup ("__getattr__" : Str) l = none)
    (hm : K.lookup md = some { cls := .type "member_descriptor", data := .fields #[.str "obj" tmd, .ref C, .builtin "proto.slot", .builtin "proto.slot#set", .int 0 tmd'] })
    (h1 : K.lookup fi = some ofi) (h1c : ofi.cls = .type "function") (h2 : K.lookup flt = some oflt) (h2c : oflt.cls = .type "function") : KFr K C md fi flt := by
  have hcls : clsIn K C = some { name := "K", bases := [.type "object"], mro := [.ref C, .type "object"], ns := D, qualname := "cmp_to_key.<locals>.K", hasDict := false, slotNames := ["obj"], subclasses := [], abstract := false, collection := none, hasDel := false } := by
    unfold clsIn; rw [hC]
  have hnsIn : ∀ name, nsIn K D name = some (l.lookup name) := fun name => by
    have := lookIn_ns hn name
    unfold nsIn
    unfold lookIn at this
    rw [hD]
    obtain ⟨c, d, dt, sl⟩ := oD
    obtain ⟨es, ep, hd, _, _⟩ := hn.h
    dsimp only at hd
    subst hd
    exact this
  have hown : ∀ name, ownIn K name (.ref C) = some (l.lookup name) := fun name => by unfold ownIn; dsimp only; rw [hC]; exact hnsIn name
  have hfind : ∀ name, findIn K (.ref C) name = match l.lookup name with | some v => some (some v) | none => (match fastBuiltinOwn "object" name with | some v => some (some v) | none => some none) := fun name => by
    have e : findIn K (.ref C) name = alongIn K name [.ref C, .type "object"] := by unfold findIn; dsimp only; rw [hC]
    rw [e]
    show (match ownIn K name (.ref C) with
      | some (some v) => some (some v)
      | some none => alongIn K name [.type "object"]
      | none => none) = _
    rw [hown]
    cases l.lookup name with
    | some v => rfl
    | none =>
      show (match some (fastBuiltinOwn "object" name) with
        | some (some v) => some (some v)
        | some none => some none
        | none => none) = _
      cases fastBuiltinOwn "object" name <;> rfl
  have tC : typeIn K (.ref C) = some (.type "type") := by unfold typeIn; dsimp only; rw [hC]; rfl
  have tM : typeIn K (.ref md) = some (.type "member_descriptor") := by unfold typeIn; dsimp only; rw [hm]; rfl
  have sp : ∀ name, specialIn K (.ref C) name = fastLookup "type" name := fun name => by unfold specialIn; rw [tC]; rfl
  have spM : ∀ name, specialIn K (.ref md) name = fastLookup "member_descriptor" name := fun name => by unfold specialIn; rw [tM]; rfl
  have takes : takesIn K (.ref md) = some true := by unfold takesIn; rw [spM]; kernel_rfl
  have hobj : findIn K (.ref C) "obj" = some (some (.ref md)) := by rw [hfind, l3]
  refine ⟨?_, by rw [hfind, l1], by unfold typeIn; dsimp only; rw [h1, Option.map_some, h1c], by unfold typeIn; dsimp only; rw [h2, Option.map_some, h2c], by rw [hfind, l2]; kernel_rfl, ?_, hobj, ?_, tM, ?_, ?_, by rw [hcls]; rfl, by rw [spM]; kernel_rfl, takes⟩
  · unfold makesIn
    rw [hC]
    dsimp only
    have e1 : (specialIn K (.ref C) "__call__" == some (some (.builtin "type.__call__"))) = true := by rw [sp]; kernel_rfl
    have e2 : (instIn K (.ref C) (.type "type") == some true) = true := by unfold instIn; rw [tC]; kernel_rfl
    rw [e1, e2]
    simp
  · unfold plainOver; rw [hcls]; rfl
  · unfold takerIn; rw [hobj, Option.bind_some]; dsimp only; rw [takes]; rfl
  · have hr : recIn K md "member_descriptor" = some [.str "obj" tmd, .ref C, .builtin "proto.slot", .builtin "proto.slot#set", .int 0 tmd'] := by
      unfold recIn; rw [hm]; simp
    unfold slotIn; rw [hr, hcls]; simp
  · unfold plainGet; rw [hfind, hfind, l4, l5]; kernel_rfl
end Mine
end
section
open PySem PySem.W PyProof.Rows PySem.Builtin PySem.Builtin.ObjectAttr
set_option Elab.async false
set_option maxRecDepth 100000
set_option maxHeartbeats 4000000
set_option linter.unusedVariables false
namespace Mine

/-! all objects but a few, as a list -/
def allBut (h : Heap) (xs : List Addr) : List (Addr × Obj) := (List.range h.objs.size).filterMap fun a => if a ∈ xs then none else (h.get? a).map fun o => (a, o)
theorem mem_allBut {h : Heap} {xs : List Addr} {a : Addr} {o : Obj} : (a, o) ∈ allBut h xs ↔ a ∉ xs ∧ h.get? a = some o := by
  unfold allBut
  rw [List.mem_filterMap]
  constructor
  · rintro ⟨b, _, hb⟩
    by_cases hx : b ∈ xs
    · rw [if_pos hx] at hb; cases hb
    · rw [if_neg hx] at hb
      obtain ⟨o', e, q⟩ := Option.map_eq_some_iff.mp hb
      cases q; exact ⟨hx, e⟩
  · rintro ⟨hx, e⟩
    exact ⟨a, List.mem_range.mpr (Heap.lt_size e), by rw [if_neg hx, e]; rfl⟩
def H0 : Heap := {}
theorem h0_none (a : Addr) : H0.get? a = none := rfl
theorem fr0 {h : Heap} {L : Addr} {m : Str → Option Value} (n : h.Ns L m) : Fr H0 L h m := ⟨n, fun b o e => (by rw [h0_none] at e; cases e), Nat.zero_le _⟩
theorem news0 {h : Heap} {L : Addr} {l : List (Addr × Obj)} (x : ∀ p ∈ l, p.1 ≠ L ∧ h.get? p.1 = some p.2) : News H0 L h l := fun p hp => ⟨(x p hp).2, (x p hp).1, h0_none _⟩

section
variable {w : World} {P : Params} {f g : Bool} {s₀ s : Shared} {B₀ B : FM} {mu : MU} {h h' : Heap} {gs : Array GenState} {os : OsState} {A : Around} {E : Value → Shared → Prop} {env : Env} {Q : Value → Shared → Prop}
/-- the objects that turn may have turned, all others are as they were -/
theorem Cx.remake {mu' : MU} (x : Cx P f g s₀ B₀ B mu h gs os) (e : mu'.map (·.1) = mu.map (·.1)) (k : ∀ b o, b ∉ mu.map (·.1) → h.get? b = some o → h'.get? b = some o) (m : ∀ p ∈ mu', ∃ o, h'.get? p.1 = some o ∧ p.2 o) : Cx P f g s₀ B₀ B mu' h' gs os := by
  have fr : ∀ b ∈ mu.map (·.1), s₀.heap.get? b = none ∧ B b = none ∧ ¬ Tab b := fun b hb => by
    obtain ⟨q, hq, rfl⟩ := List.mem_map.mp hb
    exact ⟨(x.fresh q hq).1, (x.fresh q hq).2, x.notab hq⟩
  refine ⟨⟨fun b o q => k b o (fun z => by rw [(fr b z).2.1] at q; cases q) (x.sit.inB b o q), x.sit.stat, x.sit.tabs.keep (FM.le.refl B) fun b t o q => k b o (fun z => (fr b z).2.2 t) q, x.sit.tabB, x.sit.bare⟩,
    fun b o t q => k b o (fun z => by rw [(fr b z).1] at q; cases q) (x.ext b o t q), x.le, x.new, x.os, x.tab0, m, by rw [e]; exact x.nd, fun q hq => ?_⟩
  have : q.1 ∈ mu.map (·.1) := by rw [← e]; exact List.mem_map_of_mem hq
  exact ⟨(fr _ this).1, (fr _ this).2.1⟩

theorem code_defX {R : Result → Shared → Prop} {fa c : Addr} {name : Str} {pars : Arguments} {body : List Stmt} {scope : Scope} {clo : List (Str × Addr)} {dv : Value} {args : List Value} {kw : List (Str × Value)} {binds l' : List (Str × Value)} {mu' : MU} {n : Nat}
    (cx : Cx P f g s₀ B₀ B mu s.heap s.gens s.os) (hA : AOk n A) (F : DefB B fa c name pars body scope clo dv)
    (hbind : ∀ (Q' : List (Str × Value) → Shared → Prop) (E' : Value → Shared → Prop), Q' binds s → wpAny (model prg w) A.in1 (bindArgs (sigD name pars dv) ⟨args, kw⟩) Q' E' s)
    (hb : Bound (envD name scope clo fa c s.heap.objs.size) binds [] (cellMu (cellsFrom (s.heap.objs.size + 1) scope.names []) ++ mu) l' mu')
    (k : ∀ h' tk, Cx P f g s₀ B₀ B ((s.heap.objs.size, NsP l') :: mu') h' s.gens s.os → wpAny (model prg w) (A.deeper (envD name scope clo fa c s.heap.objs.size)) (execs body (envD name scope clo fa c s.heap.objs.size)) (fun fl s' => R (.ok (.ret (retv fl))) s') (fun _ _ => False) { s with heap := h', toks := tk })
    (hsk : (scope.kind, scope.isCoroutine, scope.isGenerator) = (.function, false, false) := by rfl) :
    codeAny (model prg w) A (.call (.ref fa) ⟨args, kw⟩) R s := by
  obtain ⟨fd, FB, q1, q2, q3, q4, q5, q6, q7, q8, q9, q10⟩ := F.h
  obtain ⟨o, ho, _, hod⟩ := FB.fn
  obtain ⟨c, oc, vs, t, hc, hoc, hdc, hq⟩ := FB.code
  have h1 : fd.scope.kind = .function := by rw [q4]; exact congrArg (·.1) hsk
  have h2 : fd.scope.isCoroutine = false := by rw [q4]; exact congrArg (·.2.1) hsk
  have h3 : fd.scope.isGenerator = false := by rw [q4]; exact congrArg (·.2.2) hsk
  refine codeAny_call_function hA.room (cx.sit.inB _ _ ho) hod h2 h3 q3 ⟨c, oc, vs, t, hc, cx.sit.inB _ _ hoc, hdc, hq⟩ ?_
  rw [bind_sig q1 q2 q7 q8]
  refine hbind _ _ (newEnv_cx cx h1 (envD name scope clo fa _ s.heap.objs.size) (by rw [q1, q4, q5, q6, q9, q10]) (by rw [q4]; exact hb) fun h' tk cx => ⟨cx.sit.nolimit, codeAny_func (wpAny_mono (k h' tk cx) (fun fl s' q => ?_) fun _ _ x => x.elim)⟩)
  cases fl <;> exact q

/-- an object of K that holds v -/
abbrev kInst (C dx : Addr) (v : Value) : Obj := { cls := .ref C, dict := some dx, data := .plain, slots := #[some v] }
def KIn (B : FM) (x C : Addr) (v : Value) : Prop := ∃ dx, B x = some (kInst C dx v) ∧ B dx = some emptyDict
theorem KIn.le {B B' : FM} {x C : Addr} {v : Value} (h : KIn B x C v) (k : B.le B') : KIn B' x C v := let ⟨dx, a, b⟩ := h; ⟨dx, k _ _ a, k _ _ b⟩
theorem KIn.at {B : FM} {x C : Addr} {v : Value} {h : Heap} (t : KIn B x C v) (k : B.inn h) : ∃ dx, InstAt h x (kInst C dx v) C (some emptyDict) :=
  let ⟨dx, a, b⟩ := t; ⟨dx, k _ _ a, rfl, rfl, k _ _ b⟩

/-- the class K at work: a fragment that lies in the frozen part -/
structure KWork (B : FM) (C q : Addr) : Prop where
  h : ∃ K md fi flt ci cl cc oc, (∀ h, B.inn h → K.In h) ∧ KFr K C md fi flt ∧ DefB B fi ci "cmp_to_key.<locals>.K.__init__" (kparAt 2) (kbodyAt 2) (kscAt 2) [] .none ∧
    DefB B flt cl "cmp_to_key.<locals>.K.__lt__" (kparAt 3) (kbodyAt 3) (kscAt 3) [("mycmp", cc)] .none ∧ B cc = some oc ∧ oc.data = .cell (some (.ref q)) ∧ (∀ h, B.inn h → ∀ x v, KIn B x C v → h.OwnSpecial x C flt "object" "__lt__")
theorem Ns1P.nsP {l : List (Str × Value)} {o : Obj} (x : Ns1P l o) : NsP l o := let ⟨es, ep, r1, r2, _, r4⟩ := x.h; ⟨es, ep, r1, r2, r4⟩
theorem KClsB.work {C q : Addr} (x : KClsB B C q) : KWork B C q := by
  obtain ⟨D, md, tmd, tmd', tm, tl, sl, fi, flt, fgt, feq, fle, fge, sa, ci, cl, cc, fl, k0, k1, k2, k3, k5, oD, oc, e1, e2, e3, e4, e5, e6, e7, e8, e9, e10⟩ := x
  obtain ⟨o1, a1, a2, _⟩ := e7
  obtain ⟨o2, b1, b2, _⟩ := e8
  have hB : ∀ p ∈ ([(C, excClassObj "K" "cmp_to_key.<locals>.K" C D [.type "object"] [.type "object"] false ["obj"] [] false none none k0 k1 k2 k3 k5 "object.__new__"), (D, oD),
      (md, { cls := .type "member_descriptor", data := .fields #[.str "obj" tmd, .ref C, .builtin "proto.slot", .builtin "proto.slot#set", .int 0 tmd'] }), (fi, o1), (flt, o2)] : Frag), B p.1 = some p.2 := by
    intro p hp
    simp only [List.mem_cons, List.not_mem_nil, or_false] at hp
    rcases hp with rfl | rfl | rfl | rfl | rfl <;> assumption
  have L := fun {a o} => lookup_of (a := a) (o := o) hB
  refine ⟨_, md, fi, flt, ci, cl, cc, oc, fun h hi a o e => hi _ _ (hB (a, o) (lookup_in e)), kfr_of (D := D) (L (.head _)) (L (.tail _ (.head _))) e3.nsP (by kernel_rfl) (by kernel_rfl) (by kernel_rfl) (by kernel_rfl) (by kernel_rfl)
    (L (.tail _ (.tail _ (.head _)))) (L (.tail _ (.tail _ (.tail _ (.head _))))) a2 (L (.tail _ (.tail _ (.tail _ (.tail _ (.head _)))))) b2, e5, e6, e9, e10, fun h hi x v hx => ?_⟩
  obtain ⟨dx, d1, d2⟩ := hx
  have hlt : typeLookup (.type "object") "__lt__" = pure (some (.builtin "object.__lt__")) := by rw [typeLookup_type, builtinLookup_eq_fast]; kernel_rfl
  exact ⟨_, o2, "K", "cmp_to_key.<locals>.K", D, _, _, _, _, _, _, _, _, k0, k1, k2, k3, k5, _, _, _, hi _ _ d1, rfl, hi _ _ e1, e3.ns (hi _ _ e2), by kernel_rfl, hi _ _ b1, b2, by kernel_rfl, hlt⟩
end
end Mine
end
section
open PySem PySem.W PyProof.Rows PySem.Builtin PySem.Builtin.ObjectAttr
set_option Elab.async false
set_option maxRecDepth 100000
set_option maxHeartbeats 4000000
set_option linter.unusedVariables false
namespace Mine
section
variable {w : World} {P : Params} {f g : Bool} {s₀ s : Shared} {B₀ B : FM} {mu : MU} {h h' : Heap} {gs : Array GenState} {os : OsState} {A : Around} {E : Value → Shared → Prop} {env : Env} {Q : Value → Shared → Prop}
/-- self.obj = v -/
theorem set_obj {C q L x dx md : Addr} {v : Value} {K : Frag} {fi flt : Addr} {l : List (Str × Value)} {Q : Unit → Shared → Prop}
    (cx : Cx P f g s₀ B₀ B ((L, NsP l) :: (x, EqP (instObj C dx)) :: (dx, EqP emptyDict) :: mu) s.heap s.gens s.os) (X : K.In s.heap) (kf : KFr K C md fi flt)
    (k : ∀ h' tk, Cx P f g s₀ B₀ B ((L, NsP l) :: (x, EqP (kInst C dx v)) :: (dx, EqP emptyDict) :: mu) h' s.gens s.os → Q () { s with heap := h', toks := tk }) : wpAny (model prg w) A (setAttr (.ref x) "obj" v) Q E s := by
  obtain ⟨ox, hx, ⟨rfl⟩⟩ := cx.mus (x, EqP (instObj C dx)) (.tail _ (.head _))
  obtain ⟨od, hd, ⟨rfl⟩⟩ := cx.mus (dx, EqP emptyDict) (.tail _ (.tail _ (.head _)))
  have hn : s.heap.Ns L (fun n => l.lookup n) := cx.nsAt (.head _)
  have nd := cx.nd
  simp only [List.map_cons, List.nodup_cons, List.mem_cons, not_or] at nd
  obtain ⟨⟨nLx, nLd, _⟩, ⟨nxd, _⟩, _⟩ := nd
  have I : InstAt s.heap x (instObj C dx) C (some emptyDict) := ⟨hx, rfl, rfl, hd⟩
  refine set_plain X I kf.set (osa_descr (s := { s with toks := s.toks + 1 }) KF.slot_mset X I kf.over kf.taker kf.mdT ?_)
  refine slot_set (s := { s with toks := s.toks + 1 }) (L := L) (h₀ := H0) (pre := []) (post := allBut s.heap [L, x]) (ox' := kInst C dx v) (fr0 hn) (news0 fun p hp => ?_) X I kf.slot (by decide) (fun _ hp => nomatch hp) (fun p hp => ?_) (by simp) rfl fun h' F' N' => ?_
  · rcases List.mem_cons.mp hp with rfl | hp
    · exact ⟨fun e => nLx e.symm, hx⟩
    · obtain ⟨a, o⟩ := p
      obtain ⟨h1, h2⟩ := mem_allBut.mp hp
      exact ⟨fun e => h1 (by rw [show a = L from e]; simp), h2⟩
  · obtain ⟨a, o⟩ := p
    obtain ⟨h1, h2⟩ := mem_allBut.mp hp
    exact fun e => h1 (by rw [show a = x from e]; simp)
  · have keep : ∀ b o, b ≠ L → b ≠ x → s.heap.get? b = some o → h'.get? b = some o := fun b o n1 n2 e => (N' (b, o) (.tail _ (mem_allBut.mpr ⟨by simp [n1, n2], e⟩))).1
    refine k h' _ (cx.remake rfl (fun b o hb e => keep b o (fun z => hb (by simp [z])) (fun z => hb (by simp [z])) e) fun p hp => ?_)
    rcases List.mem_cons.mp hp with rfl | hp
    · exact nsP_of F'.ns fun _ => rfl
    · rcases List.mem_cons.mp hp with rfl | hp
      · exact ⟨_, (N' _ (.head _)).1, ⟨rfl⟩⟩
      · obtain ⟨o, e, r⟩ := cx.mus p (.tail _ (.tail _ hp))
        have nd := cx.nd
        simp only [List.map_cons, List.nodup_cons] at nd
        exact ⟨o, keep _ _ (fun z => nd.1 (z ▸ List.mem_cons_of_mem _ (by simpa using List.mem_map_of_mem (f := (·.1)) hp))) (fun z => nd.2.1 (z ▸ by simpa using List.mem_map_of_mem (f := (·.1)) hp)) e, r⟩

theorem k_make {C q : Addr} {v : Value} (kw : KWork B C q) (S : Sit P f g B s.heap s.gens) (hA : AOk 8 A)
    (k : ∀ x s' B', Mv B B' s s' → Sit P f g B' s'.heap s'.gens → KIn B' x C v → Q (.ref x) s') : wpAny (model prg w) A (call (.ref C) [v]) Q E s := by
  obtain ⟨K, md, fi, flt, ci, cl, cc, oc, hK, kf, dI, dL, _⟩ := kw.h
  have X := hK _ S.inB
  refine wpAny_call (make_core (makes_of X kf.makes) (looks_findIn X kf.init) (fun self => bind_fn X self kf.fi) (.inl rfl) ?_)
  have cx2 := ((Cx.start S).pushMu (p := EqP emptyDict) ⟨rfl⟩).pushMu (p := EqP (instObj C s.heap.objs.size)) ⟨rfl⟩
  rw [Heap.size_push] at cx2
  have hA1 : AOk 7 (A.under (.builtin "type.__call__" ⟨[.ref C, v], []⟩)) := hA.undr rfl (Nat.le_refl _) (by show A.units + _ ≤ _; rw [show (Code.builtin "type.__call__" ⟨[.ref C, v], []⟩).cUnits = 1 from by kernel_rfl]; omega)
  generalize s.heap.objs.size = dx at cx2 ⊢
  generalize (s.heap.push emptyDict).push (instObj C dx) = h1 at cx2 ⊢
  refine Mine.code_defX (s := { s with heap := h1 }) cx2 hA1 dI (bind_pure (binds := [("self", .ref (dx + 1)), ("obj", v)]) (by rfl)) (.loc rfl (.loc rfl .nil)) fun h' tk cx3 => ?_
  generalize ({ s with heap := h1 } : Shared).heap.objs.size = L at cx3 ⊢
  have cx4 : Cx P f g s B B [(L, NsP [("self", .ref (dx + 1)), ("obj", v)]), (dx + 1, EqP (instObj C dx)), (dx, EqP emptyDict)] h' s.gens s.os := cx3
  clear cx3
  refine wpAny_execs_cons (plainObj_wpAny_Assign_Attribute (ld_local cx4 (.head _) rfl (ld_local cx4 (.head _) rfl ?_)))
  refine set_obj (s := { s with heap := h', toks := tk }) (q := q) cx4 (hK _ cx4.sit.inB) kf fun h5 tk5 cx5 => ?_
  refine wpAny_execs_nil ?_
  obtain ⟨_, ⟨rfl⟩, _, n1, cx6⟩ := (cx5.tail rfl).freeze
  obtain ⟨_, ⟨rfl⟩, _, n2, cx7⟩ := cx6.freeze
  exact ⟨rfl, k (dx + 1) _ _ (Cx.mv (s' := { s with heap := h5, toks := tk5 }) cx7) cx7.sit ⟨dx, FM.le_put n2 _ _ (FM.put_self ..), FM.put_self ..⟩⟩
end
end Mine
end
section
open PySem PySem.W PyProof.Rows PySem.Builtin PySem.Builtin.ObjectAttr
set_option Elab.async false
set_option maxRecDepth 100000
set_option maxHeartbeats 4000000
set_option linter.unusedVariables false
namespace Mine
/-- the bound compare of a TupleComp that holds the keys -/
structure CmpQ (B : FM) (q : Addr) (ks : List (Int × Int)) : Prop where
  h : ∃ tc ka kvs n, B q = some (methodObj (.ref 35) (.ref tc)) ∧ TcB B tc (.ref ka) ∧ B ka = some (lstO kvs n) ∧ Reps B kvs (ks.map keyD)
  col : ∀ p ∈ ks, p.1 = 0 ∨ p.1 = 1 ∨ p.1 = 2
  len : ks.length ≤ 100
theorem CmpQ.le {B B' : FM} {q : Addr} {ks : List (Int × Int)} (x : CmpQ B q ks) (h : B.le B') : CmpQ B' q ks :=
  ⟨let ⟨tc, ka, kvs, n, a, b, c, d⟩ := x.h; ⟨tc, ka, kvs, n, h _ _ a, b.le h, h _ _ c, d.le h⟩, x.col, x.len⟩
theorem RowC.le {B B' : FM} {v : Value} {r : Row} (x : RowC B v r) (h : B.le B') : RowC B' v r := rowC_of ((rowC_back x).le h)

section
variable {w : World} {P : Params} {f g : Bool} {s₀ s : Shared} {B₀ B : FM} {mu : MU} {h h' : Heap} {gs : Array GenState} {os : OsState} {A : Around} {E : Value → Shared → Prop} {env : Env} {Q : Value → Shared → Prop}

/-- a call of the bound compare -/
theorem q_call {q : Addr} {ks : List (Int × Int)} {u v : Value} {ra rb : Row} (cq : CmpQ B q ks) (S : Sit P f g B s.heap s.gens) (hA : AOk 4 A) (hu : RowC B u ra) (hv : RowC B v rb) (hl : ra.c2.length = rb.c2.length)
    (k : ∀ t s' B', Mv B B' s s' → Sit P f g B' s'.heap s'.gens → Q (.int (cmpZ ks ra rb) t) s') : wpAny (model prg w) A (call (.ref q) [u, v]) Q E s := by
  obtain ⟨tc, ka, kvs, n, a, b, c, d⟩ := cq.h
  exact wpAny_call (method_call (S.inB _ _ a) (compare_code S (hA.less (by decide)) b c d cq.col cq.len hu hv hl k))
theorem keep_q {q : Addr} {ks : List (Int × Int)} (cq : CmpQ B q ks) (S : Sit P f g B s.heap s.gens) : KeepOk (model prg w) (.ref q) s.heap := by
  obtain ⟨tc, ka, kvs, n, a, _⟩ := cq.h
  obtain ⟨fd, ⟨⟨o, e1, e2, e3⟩, _⟩, _⟩ := (def_compare S.stat).h
  refine ⟨.boundFrame, .inr (.inr rfl), (Looks.ld (part := none) (S.inB _ _ a)).andThen ?_⟩
  refine (Looks.ld (part := none) (S.inB _ _ e1)).andThen ?_
  rw [e3]; exact .now

/-- x.obj for an object of K -/
theorem get_obj {C x md fi flt : Addr} {v : Value} {K : Frag} {expr : Bool} (X : K.In s.heap) (kf : KFr K C md fi flt) (I : ∃ dx, InstAt s.heap x (kInst C dx v) C (some emptyDict)) (hv : handedIn v = true) (h : Q v { s with toks := s.toks + 1 }) :
    wpAny (model prg w) A (getAttr (.ref x) "obj" expr) Q E s := by
  obtain ⟨dx, I⟩ := I
  exact get_bind X I (plainGet_of kf.get).1 (findObj_data kf.cls kf.obj kf.mdG kf.mdS) (plainGet_of kf.get).2 (wpAny_call (slot_get (s := { s with toks := s.toks + 1 }) X I kf.slot rfl (handed_on hv h)))

theorem k_lt {C q x y : Addr} {u v : Value} {ks : List (Int × Int)} {ra rb : Row} (kw : KWork B C q) (cq : CmpQ B q ks) (S : Sit P f g B s.heap s.gens) (hA : AOk 8 A) (hx : KIn B x C u) (hy : KIn B y C v) (hu : RowC B u ra) (hv : RowC B v rb) (hl : ra.c2.length = rb.c2.length)
    {Q : Bool → Shared → Prop} (k : ∀ s' B', Mv B B' s s' → Sit P f g B' s'.heap s'.gens → Q (decide (cmpZ ks ra rb < 0)) s') : wpAny (model prg w) A (keyLt' oneType' (.ref x) (.ref y)) Q E s := by
  obtain ⟨K, md, fi, flt, ci, cl, cc, oc, hK, kf, dI, dL, ho, hoc, own⟩ := kw.h
  have hvu : handedIn u = true := by obtain ⟨a, _, _, _, _, _, rfl, _, _, _, _, _⟩ := hu; rfl
  have hvv : handedIn v = true := by obtain ⟨a, _, _, _, _, _, rfl, _, _, _, _, _⟩ := hv; rfl
  rw [keyLt'_oneType, oneLt'_eq]
  simp only [if_true]
  refine wpAny_bind (wpAny_cRoomFor hA.line ?_)
  refine wpAny_bind (wpAny_callSpecialIfBound?_own (own _ S.inB x u hx) ?_)
  refine call_def S (hA.less (by decide : 7 ≤ 8)) dL (bind_pure (binds := [("self", .ref x), ("other", .ref y)]) (by rfl)) (.loc rfl (.loc rfl .nil)) fun h' tk cx => ?_
  generalize s.heap.objs.size = L at cx ⊢
  have hA1 : AOk 6 (A.deeper (envD "cmp_to_key.<locals>.K.__lt__" (kscAt 3) [("mycmp", cc)] flt cl L)) := (hA.less (by decide : 7 ≤ 8)).deeper
  have cx1 : Cx P f g s B B [(L, NsP [("self", .ref x), ("other", .ref y)])] h' s.gens s.os := cx
  clear cx
  refine wpAny_execs_cons (wpAny_Return_some (wpAny_Compare1 (ev_call rfl rfl (ld_freeB (c := cc) cx1.sit (by rfl) ho hoc ?_))))
  refine Attribute_Name_ (ld_local cx1 (.head _) rfl (get_obj (hK _ cx1.sit.inB) kf (hx.at cx1.sit.inB) hvu ?_))
  refine Attribute_Name_ (s := { s with heap := h', toks := tk + 1 }) (ld_local (s := { s with heap := h', toks := tk + 1 }) cx1 (.head _) rfl (get_obj (s := { s with heap := h', toks := tk + 1 }) (hK _ cx1.sit.inB) kf (hy.at cx1.sit.inB) hvv ?_))
  refine ⟨keep_q (s := { s with heap := h', toks := _ }) cq cx1.sit, q_call (s := { s with heap := h', toks := _ }) cq cx1.sit (hA1.less (by decide)) hu hv hl fun t s' B' mv S' => ?_⟩
  refine eI fun t2 tk2 => PySem.P.lt_int ?_
  have cx2 := (cx1.call (s := { s with heap := h', toks := _ }) mv S')
  refine wpAny_truthy_bool ?_
  exact k { s' with toks := tk2 } B' (Cx.mv (s' := { s' with toks := tk2 }) cx2) S'
end
end Mine
end
section
open PySem PySem.W PyProof.Rows
set_option Elab.async false
set_option maxRecDepth 100000
namespace Mine
/-- all that is asked on the way lies below n, and the end is Φ -/
def G {α : Type} (lt : Nat → Nat → Bool) (n : Nat) : KasT α → (α → Prop) → Prop
  | .ret a, Φ => Φ a
  | .ask i j k, Φ => i < n ∧ j < n ∧ G lt n (k (lt i j)) Φ
theorem G.bind {α β : Type} {lt : Nat → Nat → Bool} {n : Nat} {f : α → KasT β} {Φ : β → Prop} : ∀ {t : KasT α}, G lt n t (fun a => G lt n (f a) Φ) → G lt n (t.bind f) Φ
  | .ret _, h => h
  | .ask _ _ _, h => ⟨h.1, h.2.1, G.bind h.2.2⟩
theorem G.mono {α : Type} {lt : Nat → Nat → Bool} {n : Nat} {Φ Ψ : α → Prop} (hq : ∀ a, Φ a → Ψ a) : ∀ {t : KasT α}, G lt n t Φ → G lt n t Ψ
  | .ret _, h => hq _ h
  | .ask _ _ _, h => ⟨h.1, h.2.1, G.mono hq h.2.2⟩

/-- the pure run of a sort's tree -/
def runT {α : Type} (lt : Nat → Nat → Bool) : KasT α → α
  | .ret a => a
  | .ask i j k => runT lt (k (lt i j))
theorem G.run {α : Type} {lt : Nat → Nat → Bool} {n : Nat} {Φ : α → Prop} : ∀ {t : KasT α}, G lt n t Φ → G lt n t (fun a => a = runT lt t)
  | .ret _, _ => rfl
  | .ask _ _ _, h => ⟨h.1, h.2.1, G.run h.2.2⟩
theorem G.at {α : Type} {lt : Nat → Nat → Bool} {n : Nat} {Φ : α → Prop} : ∀ {t : KasT α}, G lt n t Φ → Φ (runT lt t)
  | .ret _, h => h
  | .ask i j k, h => G.at (t := k (lt i j)) h.2.2

structure Tot (lt : Nat → Nat → Bool) : Prop where
  as : ∀ a b, lt a b = true → lt b a = false
  tr : ∀ a b c, lt b a = false → lt c b = false → lt c a = false
theorem Tot.ir {lt : Nat → Nat → Bool} (T : Tot lt) (a : Nat) : lt a a = false := by
  cases h : lt a a with
  | false => rfl
  | true => exact absurd (T.as a a h) (by rw [h]; decide)

def Ok (N : Nat) (p : Array Nat) : Prop := p.toList.Perm (List.range N)
theorem Ok.size {N : Nat} {p : Array Nat} (h : Ok N p) : p.size = N := by have := h.length_eq; simpa using this
theorem Ok.lt {N : Nat} {p : Array Nat} (h : Ok N p) {k : Nat} (hk : k < N) : p.getD k 0 < N := by
  have hs : k < p.size := by rw [h.size]; exact hk
  have : p.getD k 0 = p[k] := by simp [Array.getD, hs]
  rw [this]
  exact List.mem_range.mp (h.mem_iff.mp (by simp))
theorem getD_q (p : Array Nat) (k : Nat) : p.getD k 0 = (p[k]?).getD 0 := by simp
theorem Ok.perm {N : Nat} {p q : Array Nat} (h : Ok N p) (hq : q.Perm p) : Ok N q := (Array.perm_iff_toList_perm.mp hq).trans h
theorem rev_at {p : Array Nat} {a b : Nat} (hb : b ≤ p.size) (k : Nat) : (kas_rev p a b).getD k 0 = if a ≤ k ∧ k < b then p.getD (a + b - 1 - k) 0 else p.getD k 0 := by
  unfold kas_rev
  rw [getD_q, getElem?_mirror_all hb]
  by_cases h1 : a ≤ k ∧ k < b
  · rw [if_pos h1, if_pos h1, getD_q]
  · rw [if_neg h1, if_neg h1, getD_q]
theorem Ok.rev {N : Nat} {p : Array Nat} (h : Ok N p) (a b : Nat) : Ok N (kas_rev p a b) := h.perm (mirror_perm _ _ _ _)
theorem bub_at {p : Array Nat} {k l : Nat} (hk : k < p.size) (hl : l ≤ k) (j : Nat) : (bubble p k (k - l)).getD j 0 = if j = l then p.getD k 0 else if l < j ∧ j ≤ k then p.getD (j - 1) 0 else p.getD j 0 := by
  rw [getD_q, getElem?_bubble hk _ (by omega), show k - (k - l) = l from by omega]
  by_cases h1 : j = l
  · rw [if_pos h1, if_pos h1, getD_q]
  · rw [if_neg h1, if_neg h1]
    by_cases h2 : l < j ∧ j ≤ k
    · rw [if_pos h2, if_pos h2, getD_q]
    · rw [if_neg h2, if_neg h2, getD_q]

section
variable {lt : Nat → Nat → Bool} {N : Nat}
def Asc (lt : Nat → Nat → Bool) (p : Array Nat) (n : Nat) : Prop := ∀ i j, i < j → j < n → lt (p.getD j 0) (p.getD i 0) = false
def Dsc (lt : Nat → Nat → Bool) (p : Array Nat) (n : Nat) : Prop := ∀ i j, i < j → j < n → lt (p.getD i 0) (p.getD j 0) = false
def Eqv (lt : Nat → Nat → Bool) (p : Array Nat) (a n : Nat) : Prop := ∀ i j, a ≤ i → i < n → a ≤ j → j < n → lt (p.getD i 0) (p.getD j 0) = false

theorem Asc.snoc (T : Tot lt) {p : Array Nat} {n : Nat} (h : Asc lt p n) (hn : 1 ≤ n) (e : lt (p.getD n 0) (p.getD (n - 1) 0) = false) : Asc lt p (n + 1) := by
  intro i j hi hj
  by_cases hjn : j < n
  · exact h i j hi hjn
  · have : j = n := by omega
    subst this
    by_cases hin : i = j - 1
    · subst hin; exact e
    · exact T.tr _ _ _ (h i (j - 1) (by omega) (by omega)) e
theorem Dsc.snoc (T : Tot lt) {p : Array Nat} {n : Nat} (h : Dsc lt p n) (hn : 1 ≤ n) (e : lt (p.getD (n - 1) 0) (p.getD n 0) = false) : Dsc lt p (n + 1) := by
  intro i j hi hj
  by_cases hjn : j < n
  · exact h i j hi hjn
  · have : j = n := by omega
    subst this
    by_cases hin : i = j - 1
    · subst hin; exact e
    · exact T.tr _ _ _ e (h i (j - 1) (by omega) (by omega))
theorem asc_run (T : Tot lt) {p : Array Nat} (ho : Ok N p) {Φ : Nat → Prop} : ∀ (f n : Nat), 1 ≤ n → n + f ≤ N → Asc lt p n → (∀ m, n ≤ m → m ≤ n + f → Asc lt p m → (m = n + f ∨ lt (p.getD m 0) (p.getD (m - 1) 0) = true) → Φ m) → G lt N (kas_asc p f n) Φ
  | 0, n, _, _, ha, k => k n (Nat.le_refl _) (Nat.le_refl _) ha (.inl rfl)
  | f + 1, n, hn, hf, ha, k => by
    refine ⟨ho.lt (by omega), ho.lt (by omega), ?_⟩
    cases e : lt (p.getD n 0) (p.getD (n - 1) 0) with
    | true => exact k n (Nat.le_refl _) (by omega) ha (.inr e)
    | false => exact asc_run T ho f (n + 1) (by omega) (by omega) (ha.snoc T hn e) fun m h1 h2 h3 h4 => k m (by omega) (by omega) h3 (h4.imp (by omega) id)
theorem rev_dsc {p : Array Nat} {a b m : Nat} (hm : m ≤ p.size) (hb : b ≤ m) (h : Dsc lt p m) (he : Eqv lt p a b) : Dsc lt (kas_rev p a b) m := by
  intro i j hi hj
  rw [rev_at (by omega), rev_at (by omega)]
  by_cases h1 : a ≤ i ∧ i < b <;> by_cases h2 : a ≤ j ∧ j < b
  · rw [if_pos h1, if_pos h2]; exact he _ _ (by omega) (by omega) (by omega) (by omega)
  · rw [if_pos h1, if_neg h2]; exact h _ _ (by omega) (by omega)
  · rw [if_neg h1, if_pos h2]; exact h _ _ (by omega) (by omega)
  · rw [if_neg h1, if_neg h2]; exact h _ _ hi hj
theorem rev_asc {p : Array Nat} {n : Nat} (hn : n ≤ p.size) (h : Dsc lt p n) : Asc lt (kas_rev p 0 n) n := by
  intro i j hi hj
  rw [rev_at hn, rev_at hn, if_pos ⟨by omega, by omega⟩, if_pos ⟨by omega, by omega⟩]
  exact h _ _ (by omega) (by omega)
theorem eqv_one (T : Tot lt) (p : Array Nat) (n : Nat) : Eqv lt p n (n + 1) := fun i j h1 h2 h3 h4 => by
  have : i = j := by omega
  subst this; exact T.ir _
theorem desc_run (T : Tot lt) {Φ : Array Nat × Nat × Nat → Prop} : ∀ (f : Nat) (p : Array Nat) (n q : Nat), Ok N p → q + 1 ≤ n → n + f ≤ N → Dsc lt p n → Eqv lt p (n - (q + 1)) n →
    (∀ p' n' q', Ok N p' → q' + 1 ≤ n' → n ≤ n' → n' ≤ N → Dsc lt p' n' → Eqv lt p' (n' - (q' + 1)) n' → Φ (p', n', q')) → G lt N (kas_desc f p n q) Φ
  | 0, p, n, q, ho, hq, hf, hd, he, k => k p n q ho hq (Nat.le_refl _) (by omega) hd he
  | f + 1, p, n, q, ho, hq, hf, hd, he, k => by
    refine ⟨ho.lt (by omega), ho.lt (by omega), ?_⟩
    cases e : lt (p.getD n 0) (p.getD (n - 1) 0) with
    | true =>
      have hd1 := hd.snoc T (by omega) (T.as _ _ e)
      show G lt N (if q > 0 then kas_desc f (kas_rev p (n - (q + 1)) n) (n + 1) 0 else kas_desc f p (n + 1) 0) Φ
      split
      · refine desc_run T f _ (n + 1) 0 (ho.rev _ _) (by omega) (by omega) (rev_dsc (by rw [ho.size]; omega) (by omega) hd1 he) (eqv_one T _ _) fun p' n' q' a b c d e1 e2 => k p' n' q' a b (by omega) d e1 e2
      · refine desc_run T f _ (n + 1) 0 ho (by omega) (by omega) hd1 (eqv_one T _ _) fun p' n' q' a b c d e1 e2 => k p' n' q' a b (by omega) d e1 e2
    | false =>
      refine show G lt N (.ask _ _ _) Φ from ⟨ho.lt (by omega), ho.lt (by omega), ?_⟩
      cases e2 : lt (p.getD (n - 1) 0) (p.getD n 0) with
      | true => exact k p n q ho hq (Nat.le_refl _) (by omega) hd he
      | false =>
        show G lt N (kas_desc f p (n + 1) (q + 1)) Φ
        refine desc_run T f p (n + 1) (q + 1) ho (by omega) (by omega) (hd.snoc T (by omega) e2) (fun i j h1 h2 h3 h4 => ?_) fun p' n' q' a b c d e1 e2 => k p' n' q' a b (by omega) d e1 e2
        have hi : ∀ i, n + 1 - (q + 1 + 1) ≤ i → i < n + 1 → lt (p.getD i 0) (p.getD (n - 1) 0) = false ∧ lt (p.getD (n - 1) 0) (p.getD i 0) = false := fun i h1 h2 => by
          by_cases hin : i < n
          · exact ⟨he i (n - 1) (by omega) hin (by omega) (by omega), he (n - 1) i (by omega) (by omega) (by omega) hin⟩
          · have : i = n := by omega
            subst this; exact ⟨e, e2⟩
        exact T.tr _ _ _ (hi j h3 h4).2 (hi i h1 h2).1

theorem tail3_run (T : Tot lt) {p : Array Nat} {n : Nat} {Φ : Nat × Array Nat → Prop} (ho : Ok N p) (hn : 1 ≤ n) (hN : n ≤ N) (hd : Dsc lt p n) (k : ∀ m p', Ok N p' → 1 ≤ m → m ≤ N → Asc lt p' m → Φ (m, p')) : G lt N (kas_tail3 n N p) Φ := by
  refine G.bind (asc_run T (ho.rev 0 n) (N - n) n hn (by omega) (rev_asc (by rw [ho.size]; exact hN) hd) fun m h1 h2 h3 _ => ?_)
  exact k m _ (ho.rev 0 n) (by omega) (by omega) h3
theorem descPart_run (T : Tot lt) {p : Array Nat} {n : Nat} {Φ : Nat × Array Nat → Prop} (ho : Ok N p) (hn : n + 1 ≤ N) (hd : Dsc lt p (n + 1)) (k : ∀ m p', Ok N p' → 1 ≤ m → m ≤ N → Asc lt p' m → Φ (m, p')) : G lt N (kas_descPart n N p) Φ := by
  refine G.bind (desc_run T (N - (n + 1)) p (n + 1) 0 ho (by omega) (by omega) hd (eqv_one T _ _) fun p' n' q' h1 h2 h3 h4 h5 h6 => ?_)
  dsimp only
  split
  · exact tail3_run T (h1.rev _ _) (by omega) h4 (rev_dsc (by rw [h1.size]; exact h4) (Nat.le_refl _) h5 h6) k
  · exact tail3_run T h1 (by omega) h4 h5 k
theorem count_run (T : Tot lt) {p : Array Nat} {Φ : Nat × Array Nat → Prop} (ho : Ok N p) (hN : 1 ≤ N) (k : ∀ m p', Ok N p' → 1 ≤ m → m ≤ N → Asc lt p' m → Φ (m, p')) : G lt N (kas_count N p) Φ := by
  refine G.bind (asc_run T ho (N - 1) 1 (Nat.le_refl _) (by omega) (fun i j h1 h2 => by omega) fun n h1 h2 h3 h4 => ?_)
  have e1 : 1 + (N - 1) = N := by omega
  rw [e1] at h2 h4
  split
  · exact k n p ho h1 h2 h3
  · rename_i hne
    have hnN : n ≠ N := by simpa using hne
    have hs : lt (p.getD n 0) (p.getD (n - 1) 0) = true := h4.resolve_left hnN
    split
    · refine ⟨ho.lt (by omega), ho.lt (by omega), ?_⟩
      cases e : lt (p.getD 0 0) (p.getD (n - 1) 0) with
      | true => exact k n p ho h1 h2 h3
      | false =>
        show G lt N (kas_descPart n N (kas_rev p 0 n)) Φ
        have up : ∀ i j, i ≤ j → j < n → lt (p.getD j 0) (p.getD i 0) = false := fun i j h5 h6 => by
          by_cases hij : i = j
          · subst hij; exact T.ir _
          · exact h3 i j (by omega) h6
        have ev : Eqv lt p 0 n := fun i j _ hi _ hj => T.tr _ _ _ (up j (n - 1) (by omega) (by omega)) (T.tr _ _ _ e (up 0 i (by omega) hi))
        refine descPart_run T (ho.rev 0 n) (by omega) (rev_dsc (by rw [ho.size]; omega) (by omega) (Dsc.snoc T (fun i j h5 h6 => ev i j (by omega) (by omega) (by omega) h6) h1 (T.as _ _ hs)) ev) k
    · have : n = 1 := by omega
      subst this
      exact descPart_run T ho (by omega) (Dsc.snoc T (fun i j h5 h6 => by omega) (Nat.le_refl _) (T.as _ _ hs)) k

theorem place_run (T : Tot lt) {p : Array Nat} {kk : Nat} (ho : Ok N p) (hk : kk < N) (ha : Asc lt p kk) {Φ : Nat → Prop} : ∀ (f l r : Nat), l ≤ r → r ≤ kk → r - l ≤ f → (∀ i, i < l → lt (p.getD kk 0) (p.getD i 0) = false) → (∀ i, r ≤ i → i < kk → lt (p.getD i 0) (p.getD kk 0) = false) →
    (∀ l', l' ≤ kk → (∀ i, i < l' → lt (p.getD kk 0) (p.getD i 0) = false) → (∀ i, l' ≤ i → i < kk → lt (p.getD i 0) (p.getD kk 0) = false) → Φ l') → G lt N (kas_place p kk f l r) Φ
  | 0, l, r, h1, h2, h3, h4, h5, k => k l (by omega) h4 fun i hi => h5 i (by omega)
  | f + 1, l, r, h1, h2, h3, h4, h5, k => by
    unfold kas_place
    have up : ∀ i j, i ≤ j → j < kk → lt (p.getD j 0) (p.getD i 0) = false := fun i j h5 h6 => by
      by_cases hij : i = j
      · subst hij; exact T.ir _
      · exact ha i j (by omega) h6
    split
    · exact k l (by omega) h4 fun i hi => h5 i (by omega)
    · refine ⟨ho.lt hk, ho.lt (by omega), ?_⟩
      cases e : lt (p.getD kk 0) (p.getD ((l + r) / 2) 0) with
      | true => exact place_run T ho hk ha f l ((l + r) / 2) (by omega) (by omega) (by omega) h4 (fun i h6 h7 => T.tr _ _ _ (T.as _ _ e) (up _ i h6 h7)) k
      | false => exact place_run T ho hk ha f ((l + r) / 2 + 1) r (by omega) h2 (by omega) (fun i h6 => T.tr _ _ _ (up i ((l + r) / 2) (by omega) (by omega)) e) h5 k
theorem bin_run (T : Tot lt) {Φ : Array Nat → Prop} : ∀ (f : Nat) (p : Array Nat) (k : Nat), Ok N p → k + f = N → Asc lt p k → (∀ p', Ok N p' → Asc lt p' N → Φ p') → G lt N (kas_bin f p k) Φ
  | 0, p, k, ho, hk, ha, c => c p ho (by rw [← hk]; exact ha)
  | f + 1, p, k, ho, hk, ha, c => by
    refine G.bind (place_run T ho (by omega) ha k 0 k (by omega) (Nat.le_refl _) (by omega) (fun i h => by omega) (fun i h1 h2 => by omega) fun l hl h1 h2 => ?_)
    refine bin_run T f _ (k + 1) (ho.perm (bubble_perm _ _ _)) (by omega) (fun i j hi hj => ?_) c
    have hs : k < p.size := by rw [ho.size]; omega
    rw [bub_at hs hl, bub_at hs hl]
    by_cases j1 : j = l
    · rw [if_pos j1, if_neg (by omega), if_neg (by omega)]; exact h1 i (by omega)
    · rw [if_neg j1]
      by_cases i1 : i = l
      · rw [if_pos i1, if_pos ⟨by omega, by omega⟩]; exact h2 _ (by omega) (by omega)
      · rw [if_neg i1]
        by_cases j2 : l < j ∧ j ≤ k <;> by_cases i2 : l < i ∧ i ≤ k
        · rw [if_pos j2, if_pos i2]; exact ha _ _ (by omega) (by omega)
        · rw [if_pos j2, if_neg i2]; exact ha _ _ (by omega) (by omega)
        · omega
        · rw [if_neg j2, if_neg i2]; exact ha _ _ (by omega) (by omega)

theorem sort_run (T : Tot lt) (hN : 1 ≤ N) : G lt N (kas_sort N) (fun p => Ok N p ∧ Asc lt p N) := by
  unfold kas_sort
  refine G.bind (count_run T (p := List.toArray (List.range N)) (by unfold Ok; simp) hN fun m p' h1 h2 h3 h4 => ?_)
  dsimp only
  split
  · rw [show max m 1 = m from by omega]
    exact bin_run T _ _ _ h1 (by omega) h4 fun p' a b => ⟨a, b⟩
  · have : m = N := by omega
    subst this; exact ⟨h1, h4⟩
end
end Mine
end
section
open PySem PySem.W PyProof.Rows PySem.Builtin
set_option Elab.async false
set_option maxRecDepth 100000
set_option maxHeartbeats 4000000
set_option linter.unusedVariables false
namespace Mine
theorem kas_pure {α : Type} {n : Nat} {lt : Nat → Nat → Bool} {Φ : α → Prop} {I : Shared → Prop} {cmp : Nat → Nat → (Bool → Shared → Prop) → Shared → Prop} (hc : ∀ i j s C, i < n → j < n → I s → (∀ s', I s' → C (lt i j) s') → cmp i j C s) :
    ∀ (t : KasT α) (s : Shared) (Q : α → Shared → Prop), G lt n t Φ → I s → (∀ a s', Φ a → I s' → Q a s') → t.kasWp cmp Q s
  | .ret a, s, Q, hg, hi, h => h a s hg hi
  | .ask i j k, s, Q, ha, hi, h => hc i j s _ ha.1 ha.2.1 hi fun s' hi' => kas_pure hc (k (lt i j)) s' Q ha.2.2 hi' h

theorem nodup_key {mu : MU} (nd : (mu.map (·.1)).Nodup) {p q : Addr × (Obj → Prop)} (hp : p ∈ mu) (hq : q ∈ mu) (e : p.1 = q.1) : p = q := by
  induction mu with
  | nil => cases hp
  | cons x r ih =>
    rw [List.map_cons, List.nodup_cons] at nd
    rcases List.mem_cons.mp hp with rfl | hp' <;> rcases List.mem_cons.mp hq with rfl | hq'
    · rfl
    · exact absurd (e ▸ List.mem_map_of_mem hq') nd.1
    · exact absurd (e ▸ List.mem_map_of_mem hp') nd.1
    · exact ih nd.2 hp' hq'

section
variable {w : World} {P : Params} {f g : Bool} {s₀ s : Shared} {B₀ B : FM} {mu : MU} {h h' : Heap} {gs : Array GenState} {os : OsState} {A : Around} {E : Value → Shared → Prop} {env : Env}
theorem Cx.remakeN {ex mu' : MU} (x : Cx P f g s₀ B₀ B mu h gs os) (e : mu'.map (·.1) = mu.map (·.1)) (k : ∀ b o, b ∉ mu.map (·.1) → h.get? b = some o → h'.get? b = some o) (hex : ∀ p ∈ ex, h.get? p.1 = none) (nd : (ex.map (·.1)).Nodup) (m : ∀ p ∈ ex ++ mu', ∃ o, h'.get? p.1 = some o ∧ p.2 o) :
    Cx P f g s₀ B₀ B (ex ++ mu') h' gs os := by
  have y := x.remake e k fun p hp => m p (List.mem_append_right _ hp)
  refine ⟨y.sit, y.ext, y.le, y.new, y.os, y.tab0, m, ?_, fun p hp => ?_⟩
  · rw [List.map_append, List.nodup_append]
    refine ⟨nd, y.nd, fun a ha b hb hab => ?_⟩
    subst hab
    obtain ⟨p, hp, rfl⟩ := List.mem_map.mp ha
    rw [e] at hb
    obtain ⟨q, hq, e2⟩ := List.mem_map.mp hb
    obtain ⟨o, eo, _⟩ := x.mus q hq
    rw [e2, hex p hp] at eo; cases eo
  · rcases List.mem_append.mp hp with hp | hp
    · exact ⟨x.old_none (hex p hp), x.sit.none_of (hex p hp)⟩
    · exact y.fresh p hp
theorem Cx.headNe {a : Addr} {p : Obj → Prop} (cx : Cx P f g s₀ B₀ B ((a, p) :: mu) h gs os) {q : Addr × (Obj → Prop)} (hq : q ∈ mu) : q.1 ≠ a := fun z => by
  have nd := cx.nd
  rw [List.map_cons, List.nodup_cons] at nd
  have := List.mem_map_of_mem (f := (·.1)) hq
  rw [z] at this
  exact nd.1 this
/-- one object has turned, beside the names' object L, that tells the same -/
theorem Cx.one {a L : Addr} {o o' : Obj} {l : List (Str × Value)} (cx : Cx P f g s₀ B₀ B ((a, EqP o) :: mu) h gs os) (hL : (L, NsP l) ∈ mu) (F : Fr H0 L h' (fun n => l.lookup n)) (N : News H0 L h' ((a, o') :: allBut h [a, L])) :
    Cx P f g s₀ B₀ B ((a, EqP o') :: mu) h' gs os := by
  have nd := cx.nd
  have keep : ∀ b o, b ≠ a → b ≠ L → h.get? b = some o → h'.get? b = some o := fun b o n1 n2 e => (N (b, o) (.tail _ (mem_allBut.mpr ⟨by simp [n1, n2], e⟩))).1
  refine cx.remake rfl (fun b o hb e => keep b o (fun z => hb (by simp [z])) (fun z => hb (z ▸ List.mem_map_of_mem (f := (·.1)) (List.mem_cons_of_mem _ hL))) e) fun p hp => ?_
  rcases List.mem_cons.mp hp with rfl | hp
  · exact ⟨o', (N _ (.head _)).1, ⟨rfl⟩⟩
  · by_cases hpL : p.1 = L
    · obtain rfl := nodup_key nd (List.mem_cons_of_mem _ hp) (List.mem_cons_of_mem _ hL) hpL
      exact nsP_of F.ns fun _ => rfl
    · obtain ⟨ob, e, r⟩ := cx.mus p (.tail _ hp)
      exact ⟨ob, keep _ _ (cx.headNe hp) hpL e, r⟩
theorem Cx.news {a L : Addr} {o : Obj} {l : List (Str × Value)} (cx : Cx P f g s₀ B₀ B ((a, EqP o) :: mu) h gs os) (hL : (L, NsP l) ∈ mu) : News H0 L h ((a, o) :: allBut h [a, L]) ∧ a ≠ L ∧ UpdF a o ((a, o) :: allBut h [a, L]) (fun o' => (a, o') :: allBut h [a, L]) := by
  have hne : a ≠ L := fun z => cx.headNe hL z.symm
  refine ⟨news0 fun p hp => ?_, hne, .head fun p hp => ?_⟩
  · rcases List.mem_cons.mp hp with rfl | hp
    · obtain ⟨_, e, ⟨rfl⟩⟩ := cx.mus _ (.head _); exact ⟨hne, e⟩
    · obtain ⟨b, ob⟩ := p
      obtain ⟨h1, h2⟩ := mem_allBut.mp hp
      exact ⟨fun z => h1 (by rw [show b = L from z]; simp), h2⟩
  · obtain ⟨b, ob⟩ := p
    obtain ⟨h1, h2⟩ := mem_allBut.mp hp
    exact fun z => h1 (by rw [show b = a from z]; simp)

variable {KR : FM → Value → Value → Prop}
inductive KRs (KR : FM → Value → Value → Prop) (B : FM) : List Value → List Value → Prop
  | nil : KRs KR B [] []
  | cons {k v : Value} {ks vs : List Value} : KR B k v → KRs KR B ks vs → KRs KR B (k :: ks) (v :: vs)
theorem KRs.le {B B' : FM} (hm : ∀ k v, KR B k v → KR B' k v) {ks vs : List Value} (x : KRs KR B ks vs) : KRs KR B' ks vs := by
  induction x with
  | nil => exact .nil
  | cons a _ ih => exact .cons (hm _ _ a) ih
theorem KRs.snoc {k v : Value} {ks vs : List Value} (x : KRs KR B ks vs) (y : KR B k v) : KRs KR B (ks ++ [k]) (vs ++ [v]) := by
  induction x with
  | nil => exact .cons y .nil
  | cons a _ ih => exact .cons a ih
theorem KRs.len {ks vs : List Value} (x : KRs KR B ks vs) : ks.length = vs.length := by
  induction x with
  | nil => rfl
  | cons _ _ ih => simp [ih]
theorem KRs.at {ks vs : List Value} (x : KRs KR B ks vs) : ∀ {i : Nat}, i < vs.length → KR B (ks.getD i .none) (vs.getD i .none) := by
  induction x with
  | nil => intro i hi; simp at hi
  | cons a _ ih =>
    intro i hi
    cases i with
    | zero => exact a
    | succ i => exact ih (by simpa using hi)
theorem KRs.mem {ks vs : List Value} (x : KRs KR B ks vs) : ∀ {k : Value}, k ∈ ks → ∃ v, v ∈ vs ∧ KR B k v := by
  induction x with
  | nil => intro k hk; cases hk
  | cons a _ ih =>
    intro k hk
    rcases List.mem_cons.mp hk with rfl | hk
    · exact ⟨_, .head _, a⟩
    · obtain ⟨v, hv, r⟩ := ih hk; exact ⟨v, .tail _ hv, r⟩

theorem key_loop {kS D L : Addr} {e1 : Nat} {l : List (Str × Value)} {fn : Value} {Fin : List Value → Nat → Shared → Prop} (hm : ∀ B B' k v, FM.le B B' → KR B k v → KR B' k v) :
    ∀ (r dn ks : List Value) (e : Nat) (s : Shared) (B : FM), Cx P f g s₀ B₀ B ((kS, EqP (seqObj "list" ks.toArray e)) :: (D, EqP (seqObj "list" #[] e1)) :: (L, NsP l) :: mu) s.heap s.gens s.os → KRs KR B ks dn →
      (∀ v ∈ r, ∀ s B', B.le B' → Sit P f g B' s.heap s.gens → wpAny (model prg w) A (call fn [v]) (fun k s' => ∃ B2, Mv B' B2 s s' ∧ Sit P f g B2 s'.heap s'.gens ∧ KR B2 k v) (fun _ _ => False) s) →
      (∀ ks' e' s' B', B.le B' → Cx P f g s₀ B₀ B' ((kS, EqP (seqObj "list" ks'.toArray e')) :: (D, EqP (seqObj "list" #[] e1)) :: (L, NsP l) :: mu) s'.heap s'.gens s'.os → KRs KR B' ks' (dn ++ r) → Fin ks' e' s') →
      KatKeys prg w A H0 L (fun n => l.lookup n) kS fn Fin r ks e s
  | [], dn, ks, e, s, B, cx, hk, hcall, fin => fin ks e s B (FM.le.refl _) cx (by rw [List.append_nil]; exact hk)
  | v :: r, dn, ks, e, s, B, cx, hk, hcall, fin => by
    refine KatKeys.cons (wpAny_mono (hcall v (.head _) s B (FM.le.refl _) cx.sit) (fun k s' hs' => ?_) fun _ _ x => x)
    obtain ⟨B2, mv, S2, kr⟩ := hs'
    have cx2 := cx.call mv S2
    have hL : (L, NsP l) ∈ (D, EqP (seqObj "list" #[] e1)) :: (L, NsP l) :: mu := .tail _ (.head _)
    obtain ⟨n1, n2, n3⟩ := cx2.news hL
    refine KatBack.intro (fr0 (cx2.nsAt (.tail _ hL))) n1 n3 fun h' c F' N' => ?_
    have cx3 := cx2.one hL F' N'
    refine key_loop hm r (dn ++ [v]) (ks ++ [k]) c { s' with heap := h' } B2 cx3 ((hk.le (fun k v => hm _ _ k v mv.le)).snoc kr) (fun v' hv' s B' hB' => hcall v' (.tail _ hv') s B' (mv.le.trans hB')) fun ks' e' s'' B' hB' cx' hk' => fin ks' e' s'' B' (mv.le.trans hB') cx' (by rw [List.append_assoc] at hk'; exact hk')
end
end Mine
end
section
open PySem PySem.W PyProof.Rows PySem.Builtin
set_option Elab.async false
set_option maxRecDepth 100000
set_option maxHeartbeats 4000000
set_option linter.unusedVariables false
namespace Mine
section
variable {w : World} {P : Params} {f g : Bool} {s₀ s : Shared} {B₀ B : FM} {mu : MU} {h h' : Heap} {gs : Array GenState} {os : OsState} {A : Around} {E : Value → Shared → Prop} {env : Env} {KR : FM → Value → Value → Prop}
theorem sorted_key {rl fn L : Addr} {n : Nat} {vs : List Value} {l : List (Str × Value)} {T : Value} {lt : Nat → Nat → Bool} {Q : Value → Shared → Prop} (cx : Cx P f g s₀ B₀ B ((L, NsP l) :: mu) s.heap s.gens s.os)
    (hl : B rl = some (lstO vs n)) (h2 : 2 ≤ vs.length) (h64 : vs.length < 64) (hm : ∀ B B' k v, FM.le B B' → KR B k v → KR B' k v) (asks : G lt vs.length (kas_sort vs.length) (fun a => a = runT lt (kas_sort vs.length)))
    (hT : ∀ B' h k v, B'.inn h → KR B' k v → Looks (model prg w) h (typeOf k) T) (hT1 : (T != Value.type "tuple") = true) (hT2 : (T == T) = true)
    (hcall : ∀ v ∈ vs, ∀ s B', B.le B' → Sit P f g B' s.heap s.gens → wpAny (model prg w) A.in1.in1 (call (.ref fn) [v]) (fun k s' => ∃ B2, Mv B' B2 s s' ∧ Sit P f g B2 s'.heap s'.gens ∧ KR B2 k v) (fun _ _ => False) s)
    (hlt : ∀ i j, i < vs.length → j < vs.length → ∀ s B' ki kj, B.le B' → KR B' ki (vs.getD i .none) → KR B' kj (vs.getD j .none) → Sit P f g B' s.heap s.gens → ∀ Q : Bool → Shared → Prop, (∀ s' B'', Mv B' B'' s s' → Sit P f g B'' s'.heap s'.gens → Q (lt i j) s') → wpAny (model prg w) A.in1.in1 (keyLt' oneType' ki kj) Q (fun _ _ => False) s)
    (k : ∀ D c s' B', B.le B' → Cx P f g s₀ B₀ B' ((D, EqP (lstO ((runT lt (kas_sort vs.length)).toList.map fun i => vs.getD i .none) c)) :: (L, NsP l) :: mu) s'.heap s'.gens s'.os → Q (.ref D) s') :
    wpAny (model prg w) A (call (.builtin "sorted") [.ref rl] [("key", .ref fn)]) Q E s := by
  have hn : s.heap.Ns L (fun n => l.lookup n) := cx.nsAt (.head _)
  refine kat_sortedK (h₀ := H0) (L := L) (m := fun n => l.lookup n) (news := allBut s.heap [L]) (vs := vs) (b := false) (f := .ref fn) (fr0 hn) (news0 fun p hp => ?_) ⟨_, cx.sit.inB _ _ hl, rfl, n, rfl⟩ h2 h64 (ksk_s1 _ _) (fun x => ksk_l1 _ _) (fun x => ksk_t1 _ _) fun D kS e1 h' F' N' hD hq => ?_
  · obtain ⟨b, ob⟩ := p
    obtain ⟨h1, h2⟩ := mem_allBut.mp hp
    exact ⟨fun z => h1 (by rw [show b = L from z]; simp), h2⟩
  · have fresh : ∀ a o, News H0 L h' ((kS, seqObj "list" #[] 0) :: (D, seqObj "list" #[] e1) :: allBut s.heap [L]) → (a, o) ∈ ([(kS, seqObj "list" #[] 0), (D, seqObj "list" #[] e1)] : List (Addr × Obj)) → s.heap.get? a = none := fun a o N ha => by
      cases q : s.heap.get? a with
      | none => rfl
      | some o' =>
        have haL : a ≠ L := (N (a, o) (List.mem_append_left _ ha)).2.1
        have := hq (a, o') (mem_allBut.mpr ⟨by simp [haL], q⟩)
        dsimp only at this
        simp only [List.mem_cons, Prod.mk.injEq, List.not_mem_nil, or_false] at ha
        rcases ha with ⟨rfl, _⟩ | ⟨rfl, _⟩
        · exact absurd (Nat.lt_trans this hD) (Nat.lt_irrefl _)
        · exact absurd this (Nat.lt_irrefl _)
    have nd := cx.nd
    have cx1 : Cx P f g s₀ B₀ B ([(kS, EqP (seqObj "list" #[] 0)), (D, EqP (seqObj "list" #[] e1))] ++ ((L, NsP l) :: mu)) h' s.gens s.os := by
      refine cx.remakeN rfl (fun b o hb e => ?_) (fun p hp => ?_) (by simpa using (Nat.ne_of_gt hD)) fun p hp => ?_
      · exact (N' (b, o) (.tail _ (.tail _ (mem_allBut.mpr ⟨fun z => hb (by simp at z; simp [z]), e⟩)))).1
      · simp only [List.mem_cons, List.not_mem_nil, or_false] at hp
        rcases hp with rfl | rfl
        · exact fresh kS _ N' (.head _)
        · exact fresh D _ N' (.tail _ (.head _))
      · simp only [List.cons_append, List.nil_append, List.mem_cons] at hp
        rcases hp with rfl | rfl | rfl | hp
        · exact ⟨_, (N' _ (.head _)).1, ⟨rfl⟩⟩
        · exact ⟨_, (N' _ (.tail _ (.head _))).1, ⟨rfl⟩⟩
        · exact nsP_of F'.ns fun _ => rfl
        · obtain ⟨ob, e, r⟩ := cx.mus p (.tail _ hp)
          exact ⟨ob, (N' (p.1, ob) (.tail _ (.tail _ (mem_allBut.mpr ⟨by simp [cx.headNe hp], e⟩)))).1, r⟩
    have cx2 : Cx P f g s₀ B₀ B ((kS, EqP (seqObj "list" (List.toArray []) 0)) :: (D, EqP (seqObj "list" #[] e1)) :: (L, NsP l) :: mu) h' s.gens s.os := cx1
    refine key_loop hm vs [] [] 0 { s with heap := h' } B cx2 .nil hcall fun ks e s' B' hB' cx3 hk => ?_
    rw [List.nil_append] at hk
    have hlen := hk.len
    refine kas_kind (by omega) (fun v hv => let ⟨v', _, r⟩ := hk.mem hv; hT B' _ _ _ cx3.sit.inB r) hT1 hT2 ?_
    refine kas_pure (n := vs.length) (lt := lt) (I := fun s' => ∃ B', B.le B' ∧ Cx P f g s₀ B₀ B' ((kS, EqP (seqObj "list" ks.toArray e)) :: (D, EqP (seqObj "list" #[] e1)) :: (L, NsP l) :: mu) s'.heap s'.gens s'.os ∧ KRs KR B' ks vs) ?_ _ _ _ asks ⟨B', hB', cx3, hk⟩ ?_
    · rintro i j s4 C hi hj ⟨B4, hB4, cx4, hk4⟩ hC
      exact hlt i j hi hj s4 B4 _ _ hB4 (hk4.at hi) (hk4.at hj) cx4.sit _ fun s5 B5 mv5 S5 => hC s5 ⟨B5, hB4.trans mv5.le, cx4.call mv5 S5, hk4.le fun k v => hm _ _ k v mv5.le⟩
    · rintro a s4 rfl ⟨B4, hB4, cx4, hk4⟩
      have hL : (L, NsP l) ∈ (D, EqP (seqObj "list" #[] e1)) :: (L, NsP l) :: mu := .tail _ (.head _)
      obtain ⟨n1, n2, n3⟩ := cx4.news hL
      refine KatFin.intro (fr0 (cx4.nsAt (.tail _ hL))) n1 n3 fun h5 c5 F5 N5 => ?_
      have cx5 := ((cx4.one hL F5 N5).perm (List.Perm.swap ..))
      have hL5 : (L, NsP l) ∈ (kS, EqP (seqObj "list" #[] c5)) :: (L, NsP l) :: mu := .tail _ (.head _)
      obtain ⟨m1, m2, m3⟩ := cx5.news hL5
      refine KasFin.intro (fr0 (cx5.nsAt (.tail _ hL5))) m1 m3 fun h6 c6 F6 N6 => ?_
      have cx6 := cx5.one hL5 F6 N6
      exact k D c6 { s4 with heap := h6 } B4 hB4 ((cx6.perm (List.Perm.swap ..)).tail rfl)
end
end Mine
end
section
open PySem PySem.W PyProof.Rows PySem.Builtin PySem.Builtin.ObjectAttr
set_option Elab.async false
set_option maxRecDepth 100000
set_option maxHeartbeats 4000000
set_option linter.unusedVariables false
namespace Mine
section
variable {w : World} {P : Params} {f g : Bool} {s₀ s : Shared} {B₀ B : FM} {mu : MU} {h h' : Heap} {gs : Array GenState} {os : OsState} {A : Around} {E : Value → Shared → Prop} {env : Env} {Q : Value → Shared → Prop}
theorem put_data (name : Str) (hs : Int) (key v : Value) : (Obj.putName name hs key v emptyDict).data = .dict [⟨hs, key, v⟩].toArray 1 := by
  have hi : (#[] : Array DictEntry).findIdx? (·.key.isStr name) = none := by simp
  simp only [Obj.putName_eq, Obj.putNameByArray, hi]
  rfl
theorem set_csl {L x dx : Addr} {v : Value} {l : List (Str × Value)} {Q : Unit → Shared → Prop}
    (cx : Cx P f g s₀ B₀ B ((L, NsP l) :: (x, EqP (instObj 38 dx)) :: (dx, EqP emptyDict) :: mu) s.heap s.gens s.os)
    (k : ∀ h' tk, Cx P f g s₀ B₀ B ((L, NsP l) :: (x, EqP (instObj 38 dx)) :: (dx, NsP [("comp_select_list", v)]) :: mu) h' s.gens s.os → Q () { s with heap := h', toks := tk }) : wpAny (model prg w) A (setAttr (.ref x) "comp_select_list" v) Q E s := by
  obtain ⟨ox, hx, ⟨rfl⟩⟩ := cx.mus (x, EqP (instObj 38 dx)) (.tail _ (.head _))
  obtain ⟨od, hd, ⟨rfl⟩⟩ := cx.mus (dx, EqP emptyDict) (.tail _ (.tail _ (.head _)))
  have hn : s.heap.Ns L (fun n => l.lookup n) := cx.nsAt (.head _)
  have nLd : dx ≠ L := cx.headNe (q := (dx, EqP emptyDict)) (.tail _ (.head _))
  have nxd : dx ≠ x := (cx.tail rfl).headNe (q := (dx, EqP emptyDict)) (.head _)
  have I : InstAt s.heap x (instObj 38 dx) 38 (some emptyDict) := ⟨hx, rfl, rfl, hd⟩
  have X := cx.sit.kn
  have np : NsP [("comp_select_list", v)] (Obj.putName "comp_select_list" (PyData.keyHash w.params "comp_select_list") (.str "comp_select_list" (s.toks + 1)) v emptyDict) :=
    (Ns1P.put (l := []) (name := "comp_select_list") (v := v) ⟨rfl, #[], 0, rfl, fun _ he => (by simp at he), List.Pairwise.nil, fun _ => rfl⟩).nsP
  refine set_plain X I (kn_setattr P) ?_
  refine osa_dict (s := { s with toks := s.toks + 1 }) (L := L) (h₀ := H0) (pre := []) (post := allBut s.heap [L, dx]) (od := emptyDict) (dx := dx) (n := 1) (fr0 hn) (news0 fun p hp => ?_) X I rfl (kn_over P) (kn_taker P) (kn_dict P) (by rfl) (fun _ hp => nomatch hp) (fun p hp => ?_) rfl (put_data _ _ _ _) (by simp) fun h' F' N' => ?_
  · rcases List.mem_cons.mp hp with rfl | hp
    · exact ⟨nLd, hd⟩
    · obtain ⟨a, o⟩ := p
      obtain ⟨h1, h2⟩ := mem_allBut.mp hp
      exact ⟨fun e => h1 (by rw [show a = L from e]; simp), h2⟩
  · obtain ⟨a, o⟩ := p
    obtain ⟨h1, h2⟩ := mem_allBut.mp hp
    exact fun e => h1 (by rw [show a = dx from e]; simp)
  · have keep : ∀ b o, b ≠ L → b ≠ dx → s.heap.get? b = some o → h'.get? b = some o := fun b o n1 n2 e => (N' (b, o) (.tail _ (mem_allBut.mpr ⟨by simp [n1, n2], e⟩))).1
    refine k h' _ (cx.remake rfl (fun b o hb e => keep b o (fun z => hb (by simp [z])) (fun z => hb (by simp [z])) e) fun p hp => ?_)
    rcases List.mem_cons.mp hp with rfl | hp
    · exact nsP_of F'.ns fun _ => rfl
    · rcases List.mem_cons.mp hp with rfl | hp
      · exact ⟨_, keep _ _ (cx.headNe (q := (x, EqP (instObj 38 dx))) (.head _)) (fun z => nxd z.symm) hx, ⟨rfl⟩⟩
      · rcases List.mem_cons.mp hp with rfl | hp
        · exact ⟨_, (N' _ (.head _)).1, np⟩
        · obtain ⟨o, e, r⟩ := cx.mus p (.tail _ (.tail _ (.tail _ hp)))
          exact ⟨o, keep _ _ (cx.headNe (.tail _ (.tail _ hp))) (((cx.tail rfl).tail rfl).headNe hp) e, r⟩

theorem tc_make {v : Value} (S : Sit P f g B s.heap s.gens) (hA : AOk 8 A)
    (k : ∀ x s' B', Mv B B' s s' → Sit P f g B' s'.heap s'.gens → TcB B' x v → Q (.ref x) s') : wpAny (model prg w) A (call (.ref 38) [v]) Q E s := by
  have X := S.kn
  refine wpAny_call (make_core (makes_of X (kn_makes P)) (looks_findIn X (kn_init P)) (fun self => bind_fn X self (kn_28 P)) (.inl rfl) ?_)
  have cx2 := ((Cx.start S).pushMu (p := EqP emptyDict) ⟨rfl⟩).pushMu (p := EqP (instObj 38 s.heap.objs.size)) ⟨rfl⟩
  rw [Heap.size_push] at cx2
  have hA1 : AOk 7 (A.under (.builtin "type.__call__" ⟨[.ref 38, v], []⟩)) := hA.undr rfl (Nat.le_refl _) (by show A.units + _ ≤ _; rw [show (Code.builtin "type.__call__" ⟨[.ref 38, v], []⟩).cUnits = 1 from by kernel_rfl]; omega)
  generalize s.heap.objs.size = dx at cx2 ⊢
  generalize (s.heap.push emptyDict).push (instObj 38 dx) = h1 at cx2 ⊢
  refine Mine.code_defX (s := { s with heap := h1 }) cx2 hA1 (def_init cx2.sit.stat) (bind_pure (binds := [("self", .ref (dx + 1)), ("comp_select_list", v)]) (by rfl)) (.loc rfl (.loc rfl .nil)) fun h' tk cx3 => ?_
  generalize ({ s with heap := h1 } : Shared).heap.objs.size = L at cx3 ⊢
  have cx4 : Cx P f g s B B [(L, NsP [("self", .ref (dx + 1)), ("comp_select_list", v)]), (dx + 1, EqP (instObj 38 dx)), (dx, EqP emptyDict)] h' s.gens s.os := cx3
  clear cx3
  refine wpAny_execs_cons (plainObj_wpAny_Assign_Attribute (ld_local cx4 (.head _) rfl (ld_local cx4 (.head _) rfl ?_)))
  refine set_csl (s := { s with heap := h', toks := tk }) cx4 fun h5 tk5 cx5 => ?_
  refine wpAny_execs_nil ?_
  obtain ⟨_, ⟨rfl⟩, _, n1, cx6⟩ := (cx5.tail rfl).freeze
  obtain ⟨od, r, _, n2, cx7⟩ := cx6.freeze
  exact ⟨rfl, k (dx + 1) _ _ (Cx.mv (s' := { s with heap := h5, toks := tk5 }) cx7) cx7.sit ⟨dx, od, FM.le_put n2 _ _ (FM.put_self ..), FM.put_self .., r⟩⟩
end
end Mine
end
section
open PySem PySem.W PyProof.Rows
set_option Elab.async false
set_option maxRecDepth 100000
set_option maxHeartbeats 4000000
set_option linter.unusedVariables false
namespace Mine
section
variable {prog : Program} {w : World} {A : Around} {E : Value → Shared → Prop} {s : Shared}

/-- one step of a tuple's iterator, below nextOf -/
theorem next_tup {it t : Addr} {i : Nat} {items : Array Value} {x : Value} {Q : Value → Shared → Prop} (hit : s.heap.IsTupleIter it t i) (ht : s.heap.IsTuple t items) (hx : items[i]? = some x)
    (k : ∀ h', h'.IsTupleIter it t (i + 1) → Heap.SameBut it s.heap h' → Q x { s with heap := h' }) : wpAny (model prog w) A (Builtin.SmallTypes.nextOf (.ref it)) Q E s := by
  obtain ⟨o, ho, hc, hd⟩ := id hit
  obtain ⟨ol, hol, _, nl, hdl⟩ := ht
  unfold Builtin.SmallTypes.nextOf
  refine wpAny_bind (wpAny_callSpecial?_slot (name := Str.ofString "__next__") hit.typeIs PySem.F.slot_tuple_iterator_next (wpAny_call_entry PySem.F.slot_tuple_iterator_next hit.typeIs PySem.F.entry_tuple_iterator_next ?_ (PySem.F.args_tuple_iterator_next_1 _)))
  refine wpAny_bind (m := field (.ref it) 0) (wpAny_field ho hd (x := .ref t) rfl ?_)
  show wpAny _ _ (if (Value.ref t == Value.none) = true then _ else _) _ _ s
  rw [if_neg (show ¬ ((Value.ref t == Value.none) = true) from Bool.false_ne_true)]
  refine wpAny_bind (m := field (.ref it) 1) (wpAny_field ho hd (x := .int i 0) rfl ?_)
  refine wpAny_bind (m := seqItems? (.ref t)) (wpAny_seqItems hol hdl ?_)
  simp only [Int.toNat_natCast, hx]
  exact wpAny_bind (wpAny_setField ho hd (by simp) (wpAny_pure ⟨x, rfl, wpAny_pure (k _ ⟨_, Heap.get?_update_self _ ho (Obj.isFreed_of_fields (Obj.data_mapFields hd _)), (Obj.cls_mapFields ..).trans hc, by
    rw [Obj.data_mapFields hd]; simp [rawInt]⟩ (Heap.SameBut.update ..))⟩))
theorem next_tup_end {it t : Addr} {i : Nat} {items : Array Value} {Q : Value → Shared → Prop} (hh : A.handled = none) (hit : s.heap.IsTupleIter it t i) (ht : s.heap.IsTuple t items) (hx : items[i]? = none)
    (k : ∀ h' e, Heap.ExtBut it s.heap h' → (∃ o, h'.get? e = some o ∧ o.cls = .type "StopIteration") → E (.ref e) { s with heap := h' }) : wpAny (model prog w) A (Builtin.SmallTypes.nextOf (.ref it)) Q E s := by
  obtain ⟨o, ho, hc, hd⟩ := id hit
  obtain ⟨ol, hol, _, nl, hdl⟩ := ht
  unfold Builtin.SmallTypes.nextOf
  refine wpAny_bind (wpAny_callSpecial?_slot (name := Str.ofString "__next__") hit.typeIs PySem.F.slot_tuple_iterator_next (wpAny_call_entry PySem.F.slot_tuple_iterator_next hit.typeIs PySem.F.entry_tuple_iterator_next ?_ (PySem.F.args_tuple_iterator_next_1 _)))
  refine wpAny_bind (m := field (.ref it) 0) (wpAny_field ho hd (x := .ref t) rfl ?_)
  show wpAny _ _ (if (Value.ref t == Value.none) = true then _ else _) _ _ s
  rw [if_neg (show ¬ ((Value.ref t == Value.none) = true) from Bool.false_ne_true)]
  refine wpAny_bind (m := field (.ref it) 1) (wpAny_field ho hd (x := .int i 0) rfl ?_)
  refine wpAny_bind (m := seqItems? (.ref t)) (wpAny_seqItems hol hdl ?_)
  simp only [Int.toNat_natCast, hx]
  refine wpAny_bind (wpAny_rule (wpAny_bind (wpAny_setField ho hd (by simp) ?_)))
  refine wpAny_bind (m := newExc (.type "StopIteration") []) ?_
  simp only [newExc, newTuple]
  refine wpAny_bind (wpAny_newObj_type ?_ (by size_fits))
  refine wpAny_bind (m := firstArgMember _ _) (wpAny_of_eq (a := Value.none) (by first | rfl | (simp only [firstArgMember]; rfl)) ?_)
  refine wpAny_newObj_type ?_ (by size_fits)
  simp only [raiseNew]
  refine wpAny_bind (wpAny_handled ?_)
  first | rw [show A.in1.handled = none from hh] | rw [hh]
  exact wpAny_bind (wpAny_pure (wpAny_throw (k _ _ (((Heap.SameBut.update ..).extBut.push _).push _) ⟨_, Heap.get?_push_size _ rfl, rfl⟩)))

/-- a zip over two tuples, k steps on -/
structure ZipT (h : Heap) (z TI TO i1 i2 l1 l2 : Addr) (xs ys : Array Value) (f0 : Value) (k : Nat) : Prop where
  z : IsZip h z TI TO f0
  ti : IsPair h TI (.ref i1) (.ref i2)
  to : ∃ a b, IsPair h TO a b
  i1 : h.IsTupleIter i1 l1 k
  i2 : h.IsTupleIter i2 l2 k
  l1 : h.IsTuple l1 xs
  l2 : h.IsTuple l2 ys
theorem ZipT.keep {h h' : Heap} {z TI TO i1 i2 l1 l2 : Addr} {xs ys : Array Value} {f0 : Value} {k : Nat} (x : ZipT h z TI TO i1 i2 l1 l2 xs ys f0 k) (e : ∀ b ∈ [z, TI, TO, i1, i2, l1, l2], ∀ o, h.get? b = some o → h'.get? b = some o) : ZipT h' z TI TO i1 i2 l1 l2 xs ys f0 k :=
  ⟨e _ (by simp) _ x.z, e _ (by simp) _ x.ti, let ⟨a, b, c⟩ := x.to; ⟨a, b, e _ (by simp) _ c⟩, let ⟨o, a, r⟩ := x.i1; ⟨o, e _ (by simp) _ a, r⟩, let ⟨o, a, r⟩ := x.i2; ⟨o, e _ (by simp) _ a, r⟩,
   let ⟨o, a, r⟩ := x.l1; ⟨o, e _ (by simp) _ a, r⟩, let ⟨o, a, r⟩ := x.l2; ⟨o, e _ (by simp) _ a, r⟩⟩

theorem zipT_item {z TI TO i1 i2 l1 l2 : Addr} {k : Nat} {xs ys : Array Value} {x y : Value} {Q : Value → Shared → Prop} (D : ZipApart z TI TO i1 i2 l1 l2) (S : ZipT s.heap z TI TO i1 i2 l1 l2 xs ys .none k) (hx : xs[k]? = some x) (hy : ys[k]? = some y)
    (hQ : ∀ h', ZipT h' z TI TO i1 i2 l1 l2 xs ys (rawInt s.heap.objs.size) (k + 1) → IsPair h' s.heap.objs.size x y →
      (∀ c o, c ≠ z → c ≠ TO → c ≠ i1 → c ≠ i2 → s.heap.get? c = some o → h'.get? c = some o) → Q (.ref s.heap.objs.size) { s with heap := h' }) :
    wpAny (model prog w) A (Builtin.«zip.__next__» ⟨[.ref z], []⟩) (fun fin s' => ∃ v, fin = .done (.ret v) ∧ Q v s') E s := by
  obtain ⟨hz, hTI, ⟨a, b, hTO⟩, h1, h2, hl1, hl2⟩ := S
  refine wpAny_bind (m := field (.ref z) 2) (wpAny_field hz rfl (x := .bool false) rfl ?_)
  refine wpAny_bind (m := field (.ref z) 3) (wpAny_field hz rfl (x := .ref TI) rfl ?_)
  refine wpAny_bind (wpAny_seqItems hTI rfl ?_)
  refine wpAny_bind (m := Builtin.SmallTypes.ownedTupleIsFree (.ref z)) ?_
  unfold Builtin.SmallTypes.ownedTupleIsFree
  refine wpAny_bind (wpAny_field hz rfl (x := .none) rfl (wpAny_pure ?_))
  simp only [if_true]
  refine wpAny_bind (wpAny_rule (wpAny_bind (wpAny_field hz rfl (x := .ref TO) rfl ?_)))
  refine wpAny_bind (wpAny_setField_rec hz (by simp) fun g₁ hz₁ hs₁ => ?_)
  replace hz₁ : IsZip g₁ z TI TO .ellipsis := hz₁
  refine wpAny_bind ?_
  simp only [List.zipIdx_cons, List.zipIdx_nil, List.forIn_cons, List.forIn_nil]
  refine wpAny_bind (wpAny_bind (wpAny_onRaise (wpAny_bind (m := Builtin.SmallTypes.nextOf (.ref i1)) ?_)))
  refine next_tup (h1.extBut hs₁.extBut D.i1z) (hl1.extBut hs₁.extBut D.l1z) hx fun g₂ h1₂ hs₂ => wpAny_pure ?_
  have hTO₂ : IsPair g₂ TO a b := hs₂.extBut _ _ D.TOi1 (hs₁.extBut _ _ D.TOz hTO)
  refine wpAny_bind (wpAny_seqItems hTO₂ rfl (wpAny_bind (wpAny_updateSeq_pair hTO₂ fun g₃ hTO₃ hs₃ => wpAny_bind (wpAny_letGo (wpAny_pure ?_)))))
  replace hTO₃ : IsPair g₃ TO x b := hTO₃
  refine wpAny_bind (wpAny_bind (wpAny_onRaise (wpAny_bind (m := Builtin.SmallTypes.nextOf (.ref i2)) ?_)))
  refine next_tup (((h2.extBut hs₁.extBut D.i2z).extBut hs₂.extBut D.i12.symm).extBut hs₃.extBut D.TOi2.symm) (((hl2.extBut hs₁.extBut D.l2z).extBut hs₂.extBut D.l2i1).extBut hs₃.extBut D.l2TO) hy fun g₄ h2₄ hs₄ => wpAny_pure ?_
  have hTO₄ : IsPair g₄ TO x b := hs₄.extBut _ _ D.TOi2 hTO₃
  refine wpAny_bind (wpAny_seqItems hTO₄ rfl (wpAny_bind (wpAny_updateSeq_pair hTO₄ fun g₅ hTO₅ hs₅ => wpAny_bind (wpAny_letGo (wpAny_pure (wpAny_pure ?_))))))
  replace hTO₅ : IsPair g₅ TO x y := hTO₅
  refine wpAny_bind (wpAny_seqItems hTO₅ rfl (wpAny_bind (wpAny_newTuple ?_)))
  have hsz : g₅.objs.size = s.heap.objs.size := by rw [hs₅.1, hs₄.1, hs₃.1, hs₂.1, hs₁.1]
  have k5 : ∀ c o, c ≠ z → c ≠ TO → c ≠ i1 → c ≠ i2 → s.heap.get? c = some o → g₅.get? c = some o := fun c o c1 c2 c3 c4 e =>
    hs₅.extBut _ _ c2 (hs₄.extBut _ _ c4 (hs₃.extBut _ _ c2 (hs₂.extBut _ _ c3 (hs₁.extBut _ _ c1 e))))
  have hz₅ : IsZip g₅ z TI TO .ellipsis := hs₅.extBut _ _ D.TOz.symm (hs₄.extBut _ _ D.i2z.symm (hs₃.extBut _ _ D.TOz.symm (hs₂.extBut _ _ D.i1z.symm hz₁)))
  have h1₅ : g₅.IsTupleIter i1 l1 (k + 1) := ((h1₂.extBut hs₃.extBut D.TOi1.symm).extBut hs₄.extBut D.i12).extBut hs₅.extBut D.TOi1.symm
  have h2₅ : g₅.IsTupleIter i2 l2 (k + 1) := h2₄.extBut hs₅.extBut D.TOi2.symm
  have hzlt : z < g₅.objs.size := Heap.lt_size hz₅
  refine wpAny_bind (m := Builtin.SmallTypes.ownedTupleHandOut (.ref z) (.ref g₅.objs.size)) ?_
  unfold Builtin.SmallTypes.ownedTupleHandOut
  have hz₆ : IsZip (g₅.push { cls := .type "tuple", data := .seq #[x, y] }) z TI TO .ellipsis := Heap.get?_push_of_some _ hz₅
  refine wpAny_bind (wpAny_setField_rec hz₆ (by simp) fun g₇ hz₇ hs₇ => ?_)
  replace hz₇ : IsZip g₇ z TI TO (rawInt g₅.objs.size) := hz₇
  refine wpAny_setField_rec hz₇ (by simp) fun g₈ hz₈ hs₈ => ?_
  replace hz₈ : IsZip g₈ z TI TO (rawInt g₅.objs.size) := hz₈
  have up : ∀ c o, c ≠ z → g₅.get? c = some o → g₈.get? c = some o := fun c o c1 e => hs₈.extBut _ _ c1 (hs₇.extBut _ _ c1 (Heap.get?_push_of_some _ e))
  have hT₈ : IsPair g₈ g₅.objs.size x y := hs₈.extBut _ _ (Nat.ne_of_gt hzlt) (hs₇.extBut _ _ (Nat.ne_of_gt hzlt) (Heap.get?_push_size _ rfl))
  rw [hsz] at hz₈ hT₈
  refine wpAny_pure ⟨_, rfl, ?_⟩
  show Q (.ref g₅.objs.size) _
  rw [hsz]
  have upT : ∀ {t : Addr} {is : Array Value}, t ≠ z → t ≠ TO → t ≠ i1 → t ≠ i2 → s.heap.IsTuple t is → g₈.IsTuple t is := fun n1 n2 n3 n4 ⟨o, e, r⟩ => ⟨o, up _ _ n1 (k5 _ _ n1 n2 n3 n4 e), r⟩
  exact hQ g₈ ⟨hz₈, up _ _ D.TIz (k5 _ _ D.TIz D.TITO D.TIi1 D.TIi2 hTI), ⟨_, _, up _ _ D.TOz hTO₅⟩, (let ⟨o, e, r⟩ := h1₅; ⟨o, up _ _ D.i1z e, r⟩), (let ⟨o, e, r⟩ := h2₅; ⟨o, up _ _ D.i2z e, r⟩), upT D.l1z D.l1TO D.l1i1 D.l1i2 hl1, upT D.l2z D.l2TO D.l2i1 D.l2i2 hl2⟩
    hT₈ fun c o c1 c2 c3 c4 e => up c o c1 (k5 c o c1 c2 c3 c4 e)

theorem zipT_end {z TI TO i1 i2 l1 l2 : Addr} {k : Nat} {xs ys : Array Value} {Q : PySem.Fin → Shared → Prop} (hh : A.handled = none) (D : ZipApart z TI TO i1 i2 l1 l2) (S : ZipT s.heap z TI TO i1 i2 l1 l2 xs ys .none k) (hx : xs[k]? = none)
    (hE : ∀ h' e, (∀ c o, c ≠ z → c ≠ i1 → s.heap.get? c = some o → h'.get? c = some o) → (∃ o, h'.get? e = some o ∧ o.cls = .type "StopIteration") → E (.ref e) { s with heap := h' }) :
    wpAny (model prog w) A (Builtin.«zip.__next__» ⟨[.ref z], []⟩) Q E s := by
  obtain ⟨hz, hTI, ⟨a, b, hTO⟩, h1, h2, hl1, hl2⟩ := S
  refine wpAny_bind (m := field (.ref z) 2) (wpAny_field hz rfl (x := .bool false) rfl ?_)
  refine wpAny_bind (m := field (.ref z) 3) (wpAny_field hz rfl (x := .ref TI) rfl ?_)
  refine wpAny_bind (wpAny_seqItems hTI rfl ?_)
  refine wpAny_bind (m := Builtin.SmallTypes.ownedTupleIsFree (.ref z)) ?_
  unfold Builtin.SmallTypes.ownedTupleIsFree
  refine wpAny_bind (wpAny_field hz rfl (x := .none) rfl (wpAny_pure ?_))
  simp only [if_true]
  refine wpAny_bind (wpAny_rule (wpAny_bind (wpAny_field hz rfl (x := .ref TO) rfl ?_)))
  refine wpAny_bind (wpAny_setField_rec hz (by simp) fun g₁ hz₁ hs₁ => ?_)
  replace hz₁ : IsZip g₁ z TI TO .ellipsis := hz₁
  refine wpAny_bind ?_
  simp only [List.zipIdx_cons, List.zipIdx_nil, List.forIn_cons, List.forIn_nil]
  refine wpAny_bind (wpAny_bind (wpAny_onRaise (wpAny_bind (m := Builtin.SmallTypes.nextOf (.ref i1)) ?_)))
  refine next_tup_end hh (h1.extBut hs₁.extBut D.i1z) (hl1.extBut hs₁.extBut D.l1z) hx fun g₂ e hs₂ he => ?_
  obtain ⟨oe, hoe, hce⟩ := he
  have hz₂ : IsZip g₂ z TI TO .ellipsis := hs₂ _ _ D.i1z.symm hz₁
  have hez : e ≠ z := fun q => by subst q; rw [hz₂] at hoe; cases hoe; simp at hce
  exact wpAny_setField_rec hz₂ (by simp) fun g₃ _ hs₃ => hE g₃ e (fun c o c1 c3 q => hs₃.extBut _ _ c1 (hs₂ _ _ c3 (hs₁.extBut _ _ c1 q))) ⟨oe, hs₃.extBut _ _ hez hoe, hce⟩

theorem walks_zipT (hh : A.handled = none) (z TI TO i1 i2 l1 l2 : Addr) (D : ZipApart z TI TO i1 i2 l1 l2) (xs ys : Array Value) (hl : xs.size = ys.size) :
    WalksT prog w A z [z, TI, TO, i1, i2, l1, l2] [z, TO, i1, i2] xs.size (fun i vals => ∃ x y, xs[i]? = some x ∧ ys[i]? = some y ∧ vals = #[x, y])
      (fun i h => ZipT h z TI TO i1 i2 l1 l2 xs ys .none i) (fun i T h => ZipT h z TI TO i1 i2 l1 l2 xs ys (rawInt T) (i + 1) ∧ T ≠ z ∧ T ≠ TO ∧ T ≠ i1 ∧ T ≠ i2) where
  sub := fun c hc => by simp at hc ⊢; rcases hc with rfl | rfl | rfl | rfl <;> simp
  frame := fun i h h' hst hk => hst.keep hk
  item := fun i s Q E hi hst hQ => by
    have e1 : xs[i]? = some xs[i] := Array.getElem?_eq_getElem hi
    have hi2 : i < ys.size := by omega
    have e2 : ys[i]? = some ys[i] := Array.getElem?_eq_getElem hi2
    have hT : s.TypeIs (.ref z) "zip" := ⟨_, hst.z, rfl⟩
    have lt : ∀ {c o}, s.heap.get? c = some o → s.heap.objs.size ≠ c := fun e => Nat.ne_of_gt (Heap.lt_size e)
    unfold pyNext
    exact wpAny_bind (wpAny_attempt (wpAny_callSpecial?_slot (name := Str.ofString "__next__") hT PySem.F.slot_zip_next (wpAny_call_entry PySem.F.slot_zip_next hT PySem.F.entry_zip_next
      (zipT_item D hst e1 e2 fun h' a1 a2 a3 => wpAny_pure (hQ s.heap.objs.size #[xs[i], ys[i]] h' s.toks ⟨_, _, e1, e2, rfl⟩ (Nat.le_refl _) ⟨_, a2, rfl, _, rfl⟩
        ⟨a1, lt hst.z, (let ⟨_, _, c⟩ := hst.to; lt c), (let ⟨_, e, _⟩ := hst.i1; lt e), (let ⟨_, e, _⟩ := hst.i2; lt e)⟩
        fun c o hc e => a3 c o (fun q => hc (by simp [q])) (fun q => hc (by simp [q])) (fun q => hc (by simp [q])) (fun q => hc (by simp [q])) e)) (PySem.F.args_zip_next_1 _))))
  go := fun elts k pos i T s Q E hm hQ => by
    refine wpAny_letOwnedTupleGo_zip hm.1.z fun h' hz' hs' => hQ h' ⟨hz', hs'.extBut _ _ D.TIz hm.1.ti, (let ⟨a, b, c⟩ := hm.1.to; ⟨a, b, hs'.extBut _ _ D.TOz c⟩), hm.1.i1.extBut hs'.extBut D.i1z, hm.1.i2.extBut hs'.extBut D.i2z,
      hm.1.l1.extBut hs'.extBut D.l1z, hm.1.l2.extBut hs'.extBut D.l2z⟩ fun c o hc e => hs'.extBut _ _ (fun q => hc (by simp [q])) e
  apart := fun i T h hm hT => by
    simp at hT
    rcases hT with rfl | rfl | rfl | rfl
    · exact hm.2.1 rfl
    · exact hm.2.2.1 rfl
    · exact hm.2.2.2.1 rfl
    · exact hm.2.2.2.2 rfl
  done := fun s Q E hst hQ => by
    have hT : s.TypeIs (.ref z) "zip" := ⟨_, hst.z, rfl⟩
    unfold pyNext
    refine wpAny_bind (wpAny_attempt (wpAny_callSpecial?_slot (name := Str.ofString "__next__") hT PySem.F.slot_zip_next (wpAny_call_entry PySem.F.slot_zip_next hT PySem.F.entry_zip_next
      (zipT_end hh D hst (Array.getElem?_eq_none (Nat.le_refl _)) fun h' e hk he => ?_) (PySem.F.args_zip_next_1 _))))
    obtain ⟨o, ho, hc⟩ := he
    refine wpAny_bind (wpAny_isInstance (T := "StopIteration") (b := true) ⟨o, ho, hc⟩ isSubtype_stop ?_)
    exact wpAny_pure (hQ _ s.toks fun c o hc e => hk c o (fun q => hc (by simp [q])) (fun q => hc (by simp [q])) e)
  self := fun i s Q E hst hQ => wpAny_pyIter_zip hst.z hQ
end
end Mine
end
section
open PySem PySem.W PyProof.Rows
set_option Elab.async false
set_option maxRecDepth 100000
set_option maxHeartbeats 4000000
set_option linter.unusedVariables false
namespace Mine
abbrev zt1 (h : Heap) (l1 : Addr) : Heap := h.push { cls := .type "tuple_iterator", data := .fields #[.ref l1, .int 0 0] }
abbrev zt2 (h : Heap) (l1 l2 : Addr) : Heap := (zt1 h l1).push { cls := .type "tuple_iterator", data := .fields #[.ref l2, .int 0 0] }
abbrev zt3 (h : Heap) (l1 l2 : Addr) : Heap := (zt2 h l1 l2).push { cls := .type "tuple", data := .seq #[.ref h.objs.size, .ref (zt1 h l1).objs.size] }
abbrev zt4 (h : Heap) (l1 l2 : Addr) : Heap := (zt3 h l1 l2).push { cls := .type "tuple", data := .seq #[.none, .none] }
abbrev zt5 (h : Heap) (l1 l2 : Addr) : Heap := (zt4 h l1 l2).push { cls := .type "zip", data := .fields #[.none, .bool false, .bool false, .ref (zt2 h l1 l2).objs.size, .ref (zt3 h l1 l2).objs.size] }
theorem meets_zipT (l1 l2 : Addr) (xs ys : Array Value) :
    Meets (Builtin.«zip.__new__» ⟨[.type "zip", .ref l1, .ref l2], []⟩) (fun _ R s => s.heap.IsTuple l1 xs ∧ s.heap.IsTuple l2 ys ∧
      R (.ok (.ret (.ref (zt4 s.heap l1 l2).objs.size))) { s with heap := zt5 s.heap l1 l2 }) :=
  .of_wp fun prog w A R s h => by
    obtain ⟨hp, g, d, tk, os⟩ := s; obtain ⟨hl1, hl2, h⟩ := h
    have hsub := sub_zip
    have hL1 : Heap.IsTuple (Shared.heap ⟨hp, g, d, tk, os⟩) l1 xs := hl1
    have hL2 : Heap.IsTuple (Shared.heap ⟨hp.push { cls := .type "tuple_iterator", data := .fields #[.ref l1, .int 0 0] }, g, d, tk, os⟩) l2 ys := Heap.IsTuple.push hl2 _
    wp_walk using wpAny_pyIter_tuple hL1, wpAny_pyIter_tuple hL2
    exact ⟨_, rfl, h⟩
section
variable {w : World} {P : Params} {f g : Bool} {s₀ s : Shared} {B₀ B : FM} {mu : MU} {A : Around} {E : Value → Shared → Prop} {env : Env} {Q : Value → Shared → Prop}
/-- zip of two frozen tuples -/
theorem call_zipT {l1 l2 : Addr} {xs ys : List Value} {n m : Nat} (cx : Cx P f g s₀ B₀ B mu s.heap s.gens s.os) (h1 : B l1 = some (tupO xs n)) (h2 : B l2 = some (tupO ys m))
    (k : ∀ z TI TO i1 i2 h', ZipApart z TI TO i1 i2 l1 l2 → ZipT h' z TI TO i1 i2 l1 l2 xs.toArray ys.toArray .none 0 → (∀ b o, s.heap.get? b = some o → h'.get? b = some o) → (∀ b ∈ [z, TI, TO, i1, i2], s.heap.get? b = none) →
      Cx P f g s₀ B₀ B mu h' s.gens s.os → Q (.ref z) { s with heap := h' }) : wpAny (model prg w) A (call (.type "zip") [.ref l1, .ref l2]) Q E s := by
  have e1 := cx.sit.inB _ _ h1
  have e2 := cx.sit.inB _ _ h2
  refine callType_new PySem.F.called_zip (by decide) (PySem.F.typeCall_zip_2 _ _) (PySem.F.newCall_zip_2 _ _) (fun obj => PySem.F.args_object_init_3 obj _ _) PySem.F.entry_zip_new
    (meets_zipT l1 l2 xs.toArray ys.toArray) ⟨⟨_, e1, rfl, n, rfl⟩, ⟨_, e2, rfl, m, rfl⟩, ?_⟩
  have z1 : (zt1 s.heap l1).objs.size = s.heap.objs.size + 1 := Heap.size_push ..
  have z2 : (zt2 s.heap l1 l2).objs.size = s.heap.objs.size + 2 := by rw [Heap.size_push, z1]
  have z3 : (zt3 s.heap l1 l2).objs.size = s.heap.objs.size + 3 := by rw [Heap.size_push, z2]
  have z4 : (zt4 s.heap l1 l2).objs.size = s.heap.objs.size + 4 := by rw [Heap.size_push, z3]
  have up1 : ∀ {b o}, s.heap.get? b = some o → (zt5 s.heap l1 l2).get? b = some o := fun q =>
    Heap.get?_push_of_some _ (Heap.get?_push_of_some _ (Heap.get?_push_of_some _ (Heap.get?_push_of_some _ (Heap.get?_push_of_some _ q))))
  have g5 : (zt5 s.heap l1 l2).get? (zt4 s.heap l1 l2).objs.size = some _ := Heap.get?_push_size _ rfl
  have g4 : (zt5 s.heap l1 l2).get? (zt3 s.heap l1 l2).objs.size = some _ := Heap.get?_push_of_some _ (Heap.get?_push_size _ rfl)
  have g3 : (zt5 s.heap l1 l2).get? (zt2 s.heap l1 l2).objs.size = some _ := Heap.get?_push_of_some _ (Heap.get?_push_of_some _ (Heap.get?_push_size _ rfl))
  have g2 : (zt5 s.heap l1 l2).get? (zt1 s.heap l1).objs.size = some _ := Heap.get?_push_of_some _ (Heap.get?_push_of_some _ (Heap.get?_push_of_some _ (Heap.get?_push_size _ rfl)))
  have g1 : (zt5 s.heap l1 l2).get? s.heap.objs.size = some _ := Heap.get?_push_of_some _ (Heap.get?_push_of_some _ (Heap.get?_push_of_some _ (Heap.get?_push_of_some _ (Heap.get?_push_size _ rfl))))
  rw [z2, z3, z4] at g5
  rw [z1, z2] at g3
  rw [z3] at g4
  rw [z1] at g2
  show _ ∧ _
  rw [z4]
  have lt1 := Heap.lt_size e1
  have lt2 := Heap.lt_size e2
  have none_ : ∀ i, s.heap.get? (s.heap.objs.size + i) = none := fun i => Heap.get?_none_of_le (Nat.le_add_right _ _)
  refine ⟨⟨_, g5, rfl⟩, k _ _ _ _ _ _ (zipApart_new lt1 lt2) ⟨g5, g3, ⟨_, _, g4⟩, ⟨_, g1, rfl, rfl⟩, ⟨_, g2, rfl, rfl⟩, ⟨_, up1 e1, rfl, n, rfl⟩, ⟨_, up1 e2, rfl, m, rfl⟩⟩ (fun b o q => up1 q) (fun b hb => ?_) (cx.grow fun b o q => up1 q)⟩
  simp only [List.mem_cons, List.not_mem_nil, or_false] at hb
  rcases hb with rfl | rfl | rfl | rfl | rfl
  · exact none_ 4
  · exact none_ 2
  · exact none_ 3
  · exact none_ 0
  · exact none_ 1
end
end Mine
end
section
open PySem PySem.W PyProof.Rows
set_option Elab.async false
set_option maxRecDepth 100000
set_option maxHeartbeats 4000000
set_option linter.unusedVariables false
namespace Mine
section
variable {M : Model} {A : Around} {E : Value → Shared → Prop} {s : Shared}
theorem genexprCode_raw {env : Env} {c Pl : Addr} {ps : Array Value} {pos : Pos} {qualname : Str} {scope : Scope} {Q : Value → Shared → Prop} (hc : env.code = .ref c) (C : CodeHd s.heap c Pl) (hop : s.heap.get? Pl = some (tabObj ps))
    (htr : TriplesOk ps.toList) (hnf : codeAmong pos ps.toList = none)
    (hQ : ∀ c' P' h' tk, Heap.ExtBut Pl s.heap h' → s.heap.objs.size ≤ c' → s.heap.objs.size ≤ P' → h'.get? Pl = some (tabObj (ps ++ #[rawInt pos.line, rawInt pos.col, .ref c'])) → CodeHd h' c' P' → h'.get? P' = some (tabObj #[]) → Q (.ref c') { s with heap := h', toks := tk }) :
    wpAny M A (genexprCode env pos qualname scope) Q E s := by
  obtain ⟨o, vs, file, tf, flags, tg, inF, text, tt, ho, hcls, hd, h11, h11', h2, h7, h9, h10, hne⟩ := id C
  unfold genexprCode codeAt
  rw [hc, if_neg (show ¬ ((Value.ref c == Value.none) = true) from Bool.false_ne_true)]
  refine wpAny_bind (wpAny_fieldsOf ho hd ?_)
  rw [h11']
  refine wpAny_bind (wpAny_fieldsOf hop rfl ?_)
  rw [hnf, h2, h7, h9, h10]
  refine wpAny_bind (wpAny_newCodeX fun c' P' h' tk hk hc' hP' hcode' htab' hrec' => ?_)
  have hop' := hk _ _ hop
  refine wpAny_bind (wpAny_updateFieldsOfTheText hop' rfl ?_)
  have hnew : (Obj.mapFields (fun vs => if (codeAmong pos vs.toList).isSome = true then vs else vs ++ #[rawInt pos.line, rawInt pos.col, .ref c']) (tabObj ps)) = tabObj (ps ++ #[rawInt pos.line, rawInt pos.col, .ref c']) := by
    show tabObj (if (codeAmong pos ps.toList).isSome = true then ps else ps ++ #[rawInt pos.line, rawInt pos.col, .ref c']) = _
    rw [hnf]; rfl
  have hget := Heap.get?_update_self (h := h') (fun o => Obj.mapFields (fun vs => if (codeAmong pos vs.toList).isSome = true then vs else vs ++ #[rawInt pos.line, rawInt pos.col, .ref c']) o) hop' (by rw [hnew]; rfl)
  rw [hnew] at hget
  refine wpAny_bind (wpAny_fieldsOf hget rfl ?_)
  have hl : (ps ++ #[rawInt pos.line, rawInt pos.col, Value.ref c']).toList = ps.toList ++ [rawInt pos.line, rawInt pos.col, .ref c'] := by simp
  rw [hl, codeAmong_snoc _ htr hnf]
  have hcP : c' ≠ Pl := Nat.ne_of_gt (Nat.lt_of_lt_of_le (Heap.lt_size hop) hc')
  have hPP : P' ≠ Pl := Nat.ne_of_gt (Nat.lt_of_lt_of_le (Heap.lt_size hop) hP')
  have C' := CodeHd.of hcode' htab'
  refine wpAny_pure (hQ c' P' _ _ (fun b o' hb e => ((Heap.SameBut.update ..).extBut b o' hb (hk b o' e))) hc' hP' hget ?_ ((Heap.SameBut.update ..).extBut _ _ hPP htab'.2))
  obtain ⟨o, vs, a1, a2, a3, a4, a5, a6, a7, e, r⟩ := C'
  exact ⟨o, vs, a1, a2, a3, a4, a5, a6, a7, (Heap.SameBut.update ..).extBut _ _ hcP e, r⟩
theorem genexprCode_hit {env : Env} {c Pl : Addr} {ps : Array Value} {pos : Pos} {qualname : Str} {scope : Scope} {cv : Value} {Q : Value → Shared → Prop} (hc : env.code = .ref c) (C : CodeHd s.heap c Pl) (hop : s.heap.get? Pl = some (tabObj ps))
    (hf : codeAmong pos ps.toList = some cv) (hQ : Q cv s) : wpAny M A (genexprCode env pos qualname scope) Q E s := by
  obtain ⟨o, vs, file, tf, flags, tg, inF, text, tt, ho, hcls, hd, h11, h11', h2, h7, h9, h10, hne⟩ := id C
  unfold genexprCode codeAt
  rw [hc, if_neg (show ¬ ((Value.ref c == Value.none) = true) from Bool.false_ne_true)]
  refine wpAny_bind (wpAny_fieldsOf ho hd ?_)
  rw [h11']
  refine wpAny_bind (wpAny_fieldsOf hop rfl ?_)
  rw [hf]
  exact wpAny_pure hQ
end
section
variable {w : World} {P : Params} {f g : Bool} {s₀ s : Shared} {B₀ B : FM} {mu : MU} {h h' : Heap} {gs : Array GenState} {os : OsState} {A : Around} {E : Value → Shared → Prop} {env : Env} {M : Model}
theorem TabOk.set51 {h h' : Heap} {c : Addr} (x : TabOk false g B h) (hs : Heap.ExtBut 51 h h') (e : h'.get? 51 = some (tabObj #[rawInt 27, rawInt 42, .ref c])) : TabOk false g B h' where
  t51 := ⟨_, e, (fun z => nomatch z), .inr ⟨c, rfl⟩⟩
  t58 := let ⟨ps, e, r⟩ := x.t58; ⟨ps, hs _ _ (by decide) e, r⟩
  t91 := let ⟨ps, e, r, q⟩ := x.t91; ⟨ps, hs _ _ (by decide) e, r, q⟩
  t108 := let ⟨ps, e, r⟩ := x.t108; ⟨ps, hs _ _ (by decide) e, r⟩
/-- the genexpr's code: made once -/
theorem genexprCode51 {pos : Pos} {qualname : Str} {scope : Scope} {Q : Value → Shared → Prop} (cx : Cx P false g s₀ B₀ B mu s.heap s.gens s.os) (hc : env.code = .ref 55) (hp : pos.line = 27 ∧ pos.col = 42)
    (k : ∀ cv h' tk, Cx P false g s₀ B₀ B mu h' s.gens s.os → Heap.ExtBut 51 s.heap h' → Q cv { s with heap := h', toks := tk }) : wpAny M A (genexprCode env pos qualname scope) Q E s := by
  obtain ⟨ps, hps, _, h0⟩ := cx.sit.tabs.t51
  rcases h0 with rfl | ⟨c, rfl⟩
  · refine genexprCode_raw hc ((code_acs cx.sit.stat).hd cx.sit.inB) hps trivial rfl fun c' P' h' tk hx hc' hP' hT C' hT' => ?_
    have hT2 : h'.get? 51 = some (tabObj #[rawInt 27, rawInt 42, .ref c']) := by rw [hT, hp.1, hp.2]; rfl
    exact k _ h' tk (cx.tabUpd (.inl rfl) hx (cx.sit.tabs.set51 hx hT2)) hx
  · refine genexprCode_hit (cv := .ref c) hc ((code_acs cx.sit.stat).hd cx.sit.inB) hps ?_ (k _ s.heap s.toks cx (fun _ _ _ e => e))
    obtain ⟨l, c, el, ec⟩ := pos
    obtain ⟨rfl, rfl⟩ := hp
    rfl
theorem Cx.gens {gs' : Array GenState} (x : Cx P f g s₀ B₀ B mu h gs os) (hb : AllBare gs') : Cx P f g s₀ B₀ B mu h gs' os := ⟨⟨x.sit.inB, x.sit.stat, x.sit.tabs, x.sit.tabB, hb⟩, x.ext, x.le, x.new, x.os, x.tab0, x.mus, x.nd, x.fresh⟩
end
end Mine
end
section
open PySem PySem.W PyProof.Rows
set_option Elab.async false
set_option maxRecDepth 100000
set_option maxHeartbeats 4000000
set_option linter.unusedVariables false
namespace Mine
section
variable {w : World} {P : Params} {f g : Bool} {s₀ s : Shared} {B₀ B : FM} {mu : MU} {h h' : Heap} {gs : Array GenState} {os : OsState} {A : Around} {E : Value → Shared → Prop} {env : Env} {Q : Value → Shared → Prop}
/-- what dict[k] asks -/
inductive DicQ (Q : Value → Shared → Prop) (o i : Value) : Shared → Prop
  | mk {h : Heap} {gs : Array GenState} {dr : Drawn} {tk₀ : Tok} {os : OsState} (a : Addr) (o₁ : Obj) (kvs : List (Int × Value)) (k : Int) (t : Tok) (x : Value) (e1 : o = .ref a) (e2 : i = .int k t) (h1 : h.get? a = some o₁) (h2 : IsDct o₁ kvs) (h3 : valueAt kvs k = some x)
      (h4 : ∀ tk, Q x ⟨h, gs, dr, tk, os⟩) : DicQ Q o i ⟨h, gs, dr, tk₀, os⟩
/-- dict[k] -/
theorem sub_dict {value slice : Expr} {pos : Pos} (hs : isSlice slice = false) (h : wpAny (model prg w) A (eval value env) (fun o s₁ => wpAny (model prg w) A (eval slice env) (fun i s₂ => DicQ Q o i s₂) E s₁) E s) :
    wpAny (model prg w) A (eval (.Subscript value slice pos) env) Q E s :=
  ev_sub (T := "dict") (wpAny_mono h (fun o s₁ h₁ => wpAny_mono h₁ (fun i s₂ hz => by
    obtain @⟨h, gs, dr, tk₀, os, a, o₁, kvs, k, t, x, e1, e2, h1, h2, h3, h4⟩ := hz
    subst e1 e2
    have hd : h.DictOf (intKind prg w) a kvs := Heap.dictOf_iff.mpr ⟨o₁, h1, h2.h _ _⟩
    exact ⟨_, hd.typeIs (s := ⟨h, gs, dr, tk₀, os⟩), sub_plain hs, wpAny_getItem_of (intKind_is ..) hd.mapOf h3 (h4 _)⟩) fun _ _ x => x) fun _ _ x => x) slot_dict_getitem.lookup

def AnyP (_ : Obj) : Prop := True
theorem ints_of : ∀ {vs : List Value} {zs : List Int}, vs.length = zs.length → (∀ (j : Nat) (v : Value), vs[j]? = some v → ∃ z t, zs[j]? = some z ∧ v = Value.int z t) → IntsAre vs zs
  | [], [], _, _ => .nil
  | v :: vs, z :: zs, hl, h => by
    obtain ⟨z', t, e1, rfl⟩ := h 0 v rfl
    cases e1
    exact .cons _ _ (ints_of (by simpa using hl) fun j v hj => h (j + 1) v (by simpa using hj))

def gsc : Scope := { kind := .function, names := [(".0", .local), ("i", .local), ("j", .local)], isGenerator := true, isCoroutine := false, more := [] }
theorem any_all {we : MU} : True := trivial
theorem gen_tuple {L D c1 c2 : Addr} {kvs : List (Int × Value)} {ky : Int} {t : Tok} {xs ys : List Value} {n m : Nat} {zx zy : List Int} {l : List (Str × Value)} {p1 p2 q1 q2 q3 pa pb pt z1 z2 cp1 n1 n2 f1 pos : Pos} {kt : Nat}
    (cx : Cx P false g s₀ B₀ B mu s.heap s.gens s.os) (hA : AOk 8 A) (he : env = envD (nameAt 3) (scAt 3) [] 56 55 L) (hL : (L, NsP l) ∈ mu) (l1 : List.lookup ("caller" : Str) l = some (.ref c1)) (l2 : List.lookup ("new_callers" : Str) l = some (.ref D)) (l3 : List.lookup ("func" : Str) l = some (.int ky t))
    (hD : (D, DctP kvs) ∈ mu) (hv : valueAt kvs ky = some (.ref c2)) (h1 : B c1 = some (tupO xs n)) (h2 : B c2 = some (tupO ys m)) (hx : IntsAre xs zx) (hy : IntsAre ys zy) (hlen : xs.length = ys.length) (hz : xs.length ≤ 1000) (hp : pos.line = 27 ∧ pos.col = 42)
    (k : ∀ T vs s' B', B.le B' → B' T = some (tupO vs 0) → IntsAre vs (List.zipWith (· + ·) zx zy) → Cx P false g s₀ B₀ B' mu s'.heap s'.gens s'.os → Q (.ref T) s') :
    wpAny (model prg w) A (eval (.Call (.Name "tuple" p1) [.GeneratorExp (.BinOp (.Name "i" q1) .Add (.Name "j" q2) q3) [⟨.Tuple [.Name "i" pa, .Name "j" pb] kt pt, .Call (.Name "zip" z1) [.Name "caller" cp1, .Subscript (.Name "new_callers" n1) (.Name "func" f1) n2] [] z2, [], 0⟩] gsc pos] [] p2) env) Q E s := by
  subst he
  refine ev_call rfl rfl (ldB cx.sit (blt_tuple P) ?_)
  obtain ⟨oD, hoD, ⟨hdD⟩⟩ := cx.mus _ hD
  refine wpAny_GeneratorExp_walksQT hA.handled rfl (cl := []) (by rfl) (by decide) (by rfl) (by rfl) (by rfl) (by decide) rfl hA.room ?_ (fun _ => rfl)
  refine ev_call rfl rfl (ldB cx.sit (blt_zip P) ?_)
  refine ld_local (env := envD (nameAt 3) (scAt 3) [] 56 55 L) cx hL l1 ?_
  refine sub_dict rfl (ld_local (env := envD (nameAt 3) (scAt 3) [] 56 55 L) cx hL l2 (ld_local (env := envD (nameAt 3) (scAt 3) [] 56 55 L) cx hL l3 ⟨D, oD, kvs, ky, t, _, rfl, rfl, hoD, hdD, hv, fun tk1 => ?_⟩))
  refine ⟨keep_type _, ?_⟩
  refine call_zipT (s := { s with toks := tk1 }) cx h1 h2 fun z TI TO i1 i2 g1 ap zt up hn cx1 => ?_
  replace up : ∀ b o, s.heap.get? b = some o → g1.get? b = some o := up
  replace hn : ∀ b ∈ [z, TI, TO, i1, i2], s.heap.get? b = none := hn
  refine wpAny_pyIter_zip zt.z ⟨cx1.sit.nolimit, ?_⟩
  have cxw : Cx P false g s₀ B₀ B ([(z, AnyP), (TO, AnyP), (i1, AnyP), (i2, AnyP)] ++ mu) g1 s.gens s.os := by
    refine cx.remakeN rfl (fun b o _ e => up b o e) (fun p hp => ?_) ?_ fun p hp => ?_
    · simp only [List.mem_cons, List.not_mem_nil, or_false] at hp
      rcases hp with rfl | rfl | rfl | rfl <;> exact hn _ (by simp)
    · simp [ap.TOz.symm, ap.i1z.symm, ap.i2z.symm, ap.TOi1, ap.TOi2, ap.i12]
    · rcases List.mem_append.mp hp with hp | hp
      · simp only [List.mem_cons, List.not_mem_nil, or_false] at hp
        rcases hp with rfl | rfl | rfl | rfl
        · exact ⟨_, zt.z, trivial⟩
        · obtain ⟨_, _, e⟩ := zt.to; exact ⟨_, e, trivial⟩
        · obtain ⟨_, e, _⟩ := zt.i1; exact ⟨_, e, trivial⟩
        · obtain ⟨_, e, _⟩ := zt.i2; exact ⟨_, e, trivial⟩
      · obtain ⟨o, e, r⟩ := cx.mus p hp; exact ⟨o, up _ _ e, r⟩
  refine genexprCode51 (s := { s with toks := tk1, heap := g1 }) cxw rfl hp fun cv g2 tk2 cx2 hx2 => ?_
  replace hx2 : Heap.ExtBut 51 g1 g2 := hx2
  refine wpAny_builtinsFor cx2.sit.glob (k1_bm P) (by decide) (cx2.sit.at (k1_4 P) (notTab rfl)) (k1_4a P) (k1_4b P) (k1_4c P) ?_
  have n51 : ∀ b ∈ [z, TI, TO, i1, i2], b ≠ 51 := fun b hb q => by
    obtain ⟨ps, e, _⟩ := cx.sit.tabs.t51
    have := hn b hb
    rw [q, e] at this; cases this
  have B51 : ∀ {c : Addr} {o : Obj}, B c = some o → c ≠ 51 := fun e q => by
    rw [q, cx.sit.tabB 51 (.inl rfl)] at e; cases e
  have zt2 : ZipT g2 z TI TO i1 i2 c1 c2 xs.toArray ys.toArray .none 0 := zt.keep fun b hb o e => hx2 b o (by
    simp only [List.mem_cons, List.not_mem_nil, or_false] at hb
    rcases hb with rfl | rfl | rfl | rfl | rfl | rfl | rfl
    · exact n51 _ (by simp)
    · exact n51 _ (by simp)
    · exact n51 _ (by simp)
    · exact n51 _ (by simp)
    · exact n51 _ (by simp)
    · exact B51 h1
    · exact B51 h2) e
  have W := fun (A' : Around) (hA' : A'.handled = none) => (walks_zipT (prog := prg) (w := w) hA' z TI TO i1 i2 c1 c2 ap xs.toArray ys.toArray (by simpa using hlen)).toU
  refine ⟨z, _, _, _, _, _, _, (fun _ => true), (fun i v => ∃ a b t, zx[i]? = some a ∧ zy[i]? = some b ∧ v = Value.int (a + b) t), rfl, W, (fun i vals hv => by obtain ⟨x, y, _, _, e⟩ := hv; exact ⟨x, y, e⟩), zt2, ?_, cx2.sit.nolimit, ?_, ?_, ?_⟩
  · intro b hb
    simp only [List.mem_cons, List.not_mem_nil, or_false] at hb
    rcases hb with rfl | rfl | rfl | rfl | rfl | rfl | rfl
    · exact Heap.lt_size zt2.z
    · exact Heap.lt_size zt2.ti
    · obtain ⟨_, _, e⟩ := zt2.to; exact Heap.lt_size e
    · obtain ⟨_, e, _⟩ := zt2.i1; exact Heap.lt_size e
    · obtain ⟨_, e, _⟩ := zt2.i2; exact Heap.lt_size e
    · obtain ⟨_, e, _⟩ := zt2.l1; exact Heap.lt_size e
    · obtain ⟨_, e, _⟩ := zt2.l2; exact Heap.lt_size e
  · intro hb
    have h0 : s.heap.get? cStatics = none := hn _ (by
      simp only [List.mem_cons, List.not_mem_nil, or_false] at hb ⊢
      rcases hb with e | e | e | e <;> simp [← e])
    rw [show s.heap.get? cStatics = _ from cx.sit.at (k1_2 P) (notTab rfl)] at h0; cases h0
  · intro href _
    refine ⟨fun A' E' i va vb s₂ m₂ _ _ _ _ _ _ => wpAny_pure ⟨rfl, s₂.heap, s₂.toks, rfl, fun _ _ e => e⟩, fun A' E' i va vb s₂ m₂ hA' hPt _ hns ha hb _ => ?_⟩
    obtain ⟨x, y, e1, e2, e3⟩ := hPt
    obtain ⟨ea, eb⟩ : va = x ∧ vb = y := by simpa using congrArg Array.toList e3
    subst ea eb
    have hi1 : i < zx.length := by rw [← hx.length]; exact (List.getElem?_eq_some_iff.mp (by simpa using e1)).1
    have hi2 : i < zy.length := by rw [← hy.length]; exact (List.getElem?_eq_some_iff.mp (by simpa using e2)).1
    obtain ⟨t1, f1⟩ := hx.get i _ (List.getElem?_eq_getElem hi1)
    obtain ⟨t2, f2⟩ := hy.get i _ (List.getElem?_eq_getElem hi2)
    have g1' : va = .int zx[i] t1 := by have := f1; rw [show xs[i]? = some va from by simpa using e1] at this; exact Option.some.inj this
    have g2' : vb = .int zy[i] t2 := by have := f2; rw [show ys[i]? = some vb from by simpa using e2] at this; exact Option.some.inj this
    subst g1' g2'
    refine wpAny_BinOp (wpAny_Name (wpAny_loadName_local rfl rfl hns ha (wpAny_Name (wpAny_loadName_local rfl rfl hns hb (PySem.P.add_int ?_)) (by decide))) (by decide))
    exact ⟨⟨_, _, _, List.getElem?_eq_getElem hi1, List.getElem?_eq_getElem hi2, rfl⟩, s₂.heap, _, rfl, fun _ _ e => e⟩
  · intro a h5 tk5 gst hbare ha h5s keep5 WS GA
    refine ⟨keep_type _, ?_⟩
    have hpass : passing (fun _ => true) xs.toArray.size 0 = List.range xs.length := by simp [passing]
    refine call_tuple_gen (s := { s with gens := s.gens.push gst, toks := tk5, heap := h5 }) WS.in4_3 (fun i s' hst => (Heap.IsGen.typeIs hst.1)) GA (fun b hb => ?_) (.head _) (fun s' acc hm hacc => ?_) (by rw [hpass, List.length_range, sizeLine_eq]; omega)
    · show b < h5.objs.size
      rw [h5s]
      replace ha : g2.objs.size < a := ha
      rcases List.mem_cons.mp hb with rfl | hb
      · exact Nat.lt_succ_self _
      · rcases List.mem_cons.mp hb with rfl | hb
        · exact Nat.lt_succ_of_lt ha
        · exact Nat.lt_succ_of_lt (Nat.lt_trans (List.mem_range.mp hb) ha)
    · have cx3 : Cx P false g s₀ B₀ B mu s'.heap s.gens s.os := cx2.dropMany fun b o hb e => hm.heap b o (fun q => by
        rcases List.mem_cons.mp q with rfl | q
        · exact absurd (Heap.lt_size e) (Nat.lt_irrefl _)
        · exact hb (by simpa using q)) (keep5 b o e)
      have cx4 : Cx P false g s₀ B₀ B mu s'.heap s'.gens s'.os := by
        have := cx3.gens (gs' := s'.gens) ((cx.sit.bare.push hbare).moved hm.gens)
        rw [hm.os]; exact this
      have hsz : acc.size = xs.length := by rw [hacc.1, hpass, List.length_range]
      have eacc : ({ cls := .type "tuple", data := .seq acc } : Obj) = tupO acc.toList 0 := by simp [tupO]
      rw [eacc]
      refine k _ acc.toList _ _ (FM.le_put (cx4.sit.none_of (get_size _))) (FM.put_self ..) (ints_of ?_ fun j v hj => ?_) (cx4.pushB _)
      · rw [Array.length_toList, hsz, List.length_zipWith, ← hx.length, ← hy.length, ← hlen, Nat.min_self]
      · obtain ⟨i, hi, a', b', t', e1, e2, e3⟩ := hacc.2 j v (by simpa using hj)
        rw [hpass] at hi
        have hij : i = j := by
          have := List.getElem?_eq_some_iff.mp hi
          obtain ⟨q1, q2⟩ := this
          simpa using q2.symm
        subst hij
        exact ⟨a' + b', t', by rw [List.getElem?_zipWith, e1, e2], e3⟩
end
end Mine
end
section
open PySem PySem.W PyProof.Rows
set_option Elab.async false
set_option maxRecDepth 100000
set_option maxHeartbeats 4000000
set_option linter.unusedVariables false
namespace Mine
theorem entry_itemit_iter : entryFor table "dict_itemiterator.__iter__" = some Builtin.«dict_keyiterator.__iter__» :=
  entryFor_alias (id' := "dict_keyiterator.__iter__") (by kernel_rfl) (by first | rfl | decide +kernel | (unfold String.splitOn; simp +decide [String.splitOnAux])) (by decide +kernel) (by kernel_rfl)
section
variable {prog : Program} {w : World} {A : Around} {E : Value → Shared → Prop} {s : Shared}
/-- the items of a dict of int keys, one after the other -/
theorem walks_items (hh : A.handled = none) (I d : Addr) (hd : d ≠ I) (kvs : List (Int × Value)) (ep : Nat) :
    WalksT prog w A I [I, d] [I] kvs.length (fun i vals => ∃ k t x, kvs[i]? = some (k, x) ∧ vals = #[.int k t, x])
      (fun i h => (∃ ok ov, IsItemIter h I d i kvs.length ep ok ov) ∧ h.DictAt (intKind prog w) d kvs ep)
      (fun i T h => (∃ ok ov, IsItemIterOut h I d (i + 1) kvs.length ep ok ov T) ∧ h.DictAt (intKind prog w) d kvs ep ∧ T ≠ I) where
  sub := fun b hb => by simp at hb; simp [hb]
  frame := fun i h h' ⟨⟨ok, ov, a⟩, b⟩ hk => ⟨⟨ok, ov, hk _ (by simp) _ a⟩, b.at fun o e => hk _ (by simp) o e⟩
  item := fun i s Q E hi ⟨⟨ok, ov, a⟩, b⟩ hQ => by
    have hx : kvs[i]? = some kvs[i] := List.getElem?_eq_getElem hi
    obtain ⟨k, x, hx⟩ : ∃ k x, kvs[i]? = some (k, x) := ⟨_, _, hx⟩
    refine wpAny_pyNext_items_item a b hx fun key h' hkey ho hT hsz hk => ?_
    obtain ⟨t, rfl⟩ := Value.isInt_shape hkey
    exact hQ _ #[.int k t, x] h' s.toks ⟨k, t, x, hx, rfl⟩ (Nat.le_refl _) ⟨_, hT, rfl, _, rfl⟩ ⟨⟨_, _, ho⟩, b.at fun o e => hk _ o hd e, Nat.ne_of_gt (Heap.lt_size a)⟩ fun b' o hb' e => hk b' o (fun z => hb' (by simp [z])) e
  go := fun elts k pos i T s Q E ⟨⟨ok, ov, a⟩, b, c⟩ hQ => by
    exact wpAny_letOwnedTupleGo_items a fun h' he hs => hQ h' ⟨⟨_, _, he⟩, b.at fun o e => hs.extBut _ _ hd e⟩ fun b' o hb' e => hs.extBut _ _ (fun z => hb' (by simp [z])) e
  apart := fun i T h ⟨_, _, c⟩ hT => c (by simpa using hT)
  done := fun s Q E ⟨⟨ok, ov, a⟩, b⟩ hQ => wpAny_pyNext_items_end hh a b (by simp) fun h' hs => hQ h' s.toks fun b' o hb' e => hs _ _ (fun z => hb' (by simp [z])) e
  self := fun i s Q E ⟨⟨ok, ov, a⟩, b⟩ hQ => by
    have hT : s.TypeIs (.ref I) "dict_itemiterator" := ⟨_, a, rfl⟩
    refine wpAny_pyIter_slot hT PySem.F.slot_dict_itemiterator_iter (wpAny_call_entry PySem.F.slot_dict_itemiterator_iter hT entry_itemit_iter ?_ (PySem.F.args_dict_itemiterator_iter_1 _))
    show wpAny _ _ (ret (.ref I)) _ _ s
    exact wpAny_pure ⟨_, rfl, "dict_itemiterator", _, hT, PySem.F.slot_dict_itemiterator_next.lookup, hQ⟩
end
section
variable {w : World} {P : Params} {f g : Bool} {s₀ s : Shared} {B₀ B : FM} {mu : MU} {h h' : Heap} {gs : Array GenState} {os : OsState} {A : Around} {E : Value → Shared → Prop} {env : Env}
theorem kind_conv (p p' : Program) (w w' : World) : True := trivial
/-- for k, v in x.items(): the iterator -/
theorem iter_items {x : Str} {px apos pos : Pos} {d : Addr} {od : Obj} {kvs : List (Int × Value)} {Q : Value → Shared → Prop} (cx : Cx P f g s₀ B₀ B mu s.heap s.gens s.os) (hh : A.handled = none) (hd : B d = some od) (hk : IsDct od kvs) (hS : (d == sysModules) = false)
    (hx : ∀ Q' : Value → Shared → Prop, Q' (.ref d) s → wpAny (model prg w) A (eval (.Name x px) env) Q' E s)
    (k : ∀ I St Mid h', WalksT prg w A I [I, d] [I] kvs.length (fun i vals => ∃ k t x, kvs[i]? = some (k, x) ∧ vals = #[.int k t, x]) St Mid → (∀ i h, St i h → ∀ b ∈ [I], ∃ o, h.get? b = some o) → St 0 h' → Cx P f g s₀ B₀ B ((I, AnyP) :: mu) h' s.gens s.os → Q (.ref I) { s with heap := h' })
    (hline : (apos.endLine == pos.line) = true := by rfl) :
    wpAny (model prg w) A (eval (.Call (.Attribute (.Name x px) "items" apos) [] [] pos) env) (fun r s₁ => wpAny (model prg w) A (pyIter r) Q E s₁) E s := by
  have ho := cx.sit.inB _ _ hd
  obtain ⟨es, ep, r1, r2, r3, r4, r5⟩ := hk.h prg w
  have hm : s.heap.DictAt (intKind prg w) d kvs ep := ⟨od, es, ho, r1, r2, r3, r4, r5⟩
  refine wpAny_Call_items (knd := intKind prg w) hS hm.dictOf (by rfl) hline hx ?_
  refine wpAny_pyIter_items (knd := intKind prg w) (d := d) (kvs := kvs) (ep := ep) ⟨_, Heap.get?_push_size _ rfl, rfl, rfl⟩ (hm.push _) ?_
  have c1 := cx.push { cls := .type "dict_items", data := .fields #[.ref d] }
  have hdI : d ≠ (s.heap.push { cls := .type "dict_items", data := .fields #[.ref d] }).objs.size := by
    rw [Heap.size_push]; exact Nat.ne_of_lt (Nat.lt_succ_of_lt (Heap.lt_size ho))
  refine k _ _ _ _ (walks_items hh _ d hdI kvs ep) (fun i h ⟨⟨_, _, a⟩, _⟩ b hb => by rw [List.mem_singleton.mp hb]; exact ⟨_, a⟩) ⟨⟨_, _, Heap.get?_push_size _ rfl⟩, (hm.push _).push _⟩ (c1.pushMu (p := AnyP) trivial)

/-- d[k] = v -/
theorem set_dict {d : Addr} {kvs : List (Int × Value)} {ky : Int} {t : Tok} {v : Value} {Q : Unit → Shared → Prop} (i : Nat) (cx : Cx P f g s₀ B₀ B mu s.heap s.gens s.os) (hi : mu[i]? = some (d, DctP kvs)) (hz : kvs.length ≤ 1000)
    (k : ∀ h' tk, Cx P f g s₀ B₀ B (mu.set i (d, DctP (stored kvs ky v))) h' s.gens s.os → Q () { s with heap := h', toks := tk }) : wpAny (model prg w) A (setItem (.ref d) (.int ky t) v) Q E s := by
  obtain ⟨o, ho, ⟨hq⟩⟩ := cx.get i hi
  refine wpAny_setItem_pairs (knd := intKind prg w) (hsz := by rw [sizeLine_eq]; omega) (intKind_is ..) (Heap.dictOf_iff.mpr ⟨o, ho, hq.h _ _⟩) fun h' hmm hs => ?_
  obtain ⟨o', ho', hd'⟩ := Heap.dictOf_iff.mp hmm
  exact k h' _ (cx.upd i hi hs ho' ⟨IsDct.of hd'⟩)
/-- k in d -/
theorem in_dict {d : Addr} {o : Obj} {kvs : List (Int × Value)} {ky : Int} {t : Tok} {Q : Value → Shared → Prop} (ho : s.heap.get? d = some o) (hq : IsDct o kvs) (hS : (d == sysModules) = false) (k : ∀ tk, Q (.bool (valueAt kvs ky).isSome) { s with toks := tk }) :
    wpAny (model prg w) A (compareOp .In (.int ky t) (.ref d)) Q E s :=
  wpAny_in_of (knd := intKind prg w) (intKind_is ..) hS (Heap.dictOf_iff.mpr ⟨o, ho, hq.h _ _⟩).mapOf (k _)
end
end Mine
end
section
open PySem PySem.W PyProof.Rows
set_option Elab.async false
set_option maxRecDepth 100000
set_option linter.unusedVariables false
namespace Mine
abbrev Tab4 := List (Int × List Int)
def tabD (T : Tab4) : List (Int × D) := T.map fun p => (p.1, fourD p.2)
def putZ (k : Int) (v : List Int) (T : Tab4) : Tab4 := if T.any (fun kv => kv.1 = k) then T.map (fun kv => if kv.1 = k then (kv.1, v) else kv) else T ++ [(k, v)]
def atZ (k : Int) (T : Tab4) : Option (List Int) := (T.find? fun kv => kv.1 = k).map (·.2)
def addS (acc : Tab4) (p : Int × List Int) : Tab4 := match atZ p.1 acc with
  | some o => putZ p.1 (List.zipWith (· + ·) p.2 o) acc
  | none => putZ p.1 p.2 acc
def cpS (acc : Tab4) (p : Int × List Int) : Tab4 := putZ p.1 p.2 acc
def copyC (t : Tab4) : Tab4 := t.foldl cpS []
def addC (t s : Tab4) : Tab4 := s.foldl addS (copyC t)
def addE (a b : Ent) : Ent := ⟨List.zipWith (· + ·) b.four a.four, addC a.cs b.cs⟩
def Four (T : Tab4) : Prop := ∀ p ∈ T, p.2.length = 4
theorem putZ_D (k : Int) (v : List Int) (T : Tab4) : putD k (fourD v) (tabD T) = tabD (putZ k v T) := by
  have e : ((tabD T).any fun kv => kv.1 = k) = T.any (fun kv => kv.1 = k) := by unfold tabD; rw [List.any_map]; rfl
  unfold putD putZ
  rw [e]
  split
  · unfold tabD
    rw [List.map_map, List.map_map]
    refine List.map_congr_left fun p _ => ?_
    show (if p.1 = k then (p.1, fourD v) else (p.1, fourD p.2)) = _
    by_cases h : p.1 = k <;> simp [h]
  · unfold tabD; rw [List.map_append]; rfl
theorem atZ_D (k : Int) (T : Tab4) : atD k (tabD T) = (atZ k T).map fourD := by
  unfold atD atZ tabD
  rw [List.find?_map]
  cases h : T.find? ((fun kv : Int × D => decide (kv.1 = k)) ∘ fun p => (p.1, fourD p.2)) with
  | none =>
    have : T.find? (fun kv => decide (kv.1 = k)) = none := h
    rw [this]; rfl
  | some p =>
    have : T.find? (fun kv => decide (kv.1 = k)) = some p := h
    rw [this]; rfl
theorem atZ_mem {k : Int} {T : Tab4} {o : List Int} (h : atZ k T = some o) : ∃ p ∈ T, p.1 = k ∧ p.2 = o := by
  unfold atZ at h
  obtain ⟨p, e, rfl⟩ := Option.map_eq_some_iff.mp h
  exact ⟨p, List.mem_of_find?_eq_some e, by simpa using List.find?_some e, rfl⟩
theorem Four.put {T : Tab4} (h : Four T) {k : Int} {v : List Int} (hv : v.length = 4) : Four (putZ k v T) := by
  intro p hp
  unfold putZ at hp
  split at hp
  · obtain ⟨q, hq, rfl⟩ := List.mem_map.mp hp
    split
    · exact hv
    · exact h q hq
  · rcases List.mem_append.mp hp with hp | hp
    · exact h p hp
    · rw [List.mem_singleton.mp hp]; exact hv
theorem put_len (k : Int) (v : List Int) (T : Tab4) : (putZ k v T).length ≤ T.length + 1 := by
  unfold putZ; split
  · simp
  · simp
theorem Four.add {T : Tab4} (h : Four T) {p : Int × List Int} (hp : p.2.length = 4) : Four (addS T p) := by
  unfold addS
  cases e : atZ p.1 T with
  | none => exact h.put hp
  | some o =>
    obtain ⟨q, hq, _, e2⟩ := atZ_mem e
    exact h.put (by rw [List.length_zipWith, hp, ← e2, h q hq]; rfl)
theorem add_len (T : Tab4) (p : Int × List Int) : (addS T p).length ≤ T.length + 1 := by
  unfold addS; cases atZ p.1 T <;> exact put_len ..
theorem copy_four {t : Tab4} (h : Four t) : Four (copyC t) := by
  have : ∀ (l acc : Tab4), (∀ p ∈ l, p.2.length = 4) → Four acc → Four (l.foldl cpS acc) := by
    intro l
    induction l with
    | nil => intro acc _ h2; exact h2
    | cons p l ih => intro acc h1 h2; exact ih _ (fun q hq => h1 q (.tail _ hq)) (h2.put (h1 p (.head _)))
  exact this t [] h (fun _ hp => nomatch hp)
theorem copy_len (t : Tab4) : (copyC t).length ≤ t.length := by
  have : ∀ (l acc : Tab4), (l.foldl cpS acc).length ≤ acc.length + l.length := by
    intro l
    induction l with
    | nil => intro acc; simp
    | cons p l ih => intro acc; have := ih (cpS acc p); have h2 : (cpS acc p).length ≤ acc.length + 1 := put_len p.1 p.2 acc; simp only [List.foldl_cons, List.length_cons]; omega
  have := this t []
  unfold copyC
  simpa using this
theorem fold_four {t s : Tab4} (h : Four t) (hs : Four s) : Four (s.foldl addS t) := by
  induction s generalizing t with
  | nil => exact h
  | cons p l ih => exact ih (h.add (hs p (.head _))) fun q hq => hs q (.tail _ hq)
theorem fold_len (t s : Tab4) : (s.foldl addS t).length ≤ t.length + s.length := by
  induction s generalizing t with
  | nil => simp
  | cons p l ih => have := ih (addS t p); have h2 := add_len t p; simp only [List.foldl_cons, List.length_cons]; omega
theorem take_foldA {α β : Type} (ff : β → α → β) (b : β) (l : List α) {i : Nat} {x : α} (h : l[i]? = some x) : (l.take (i + 1)).foldl ff b = ff ((l.take i).foldl ff b) x := by
  rw [List.take_succ, h, List.foldl_append]; rfl
end Mine
end
section
open PySem PySem.W PyProof.Rows
set_option Elab.async false
set_option maxRecDepth 100000
set_option maxHeartbeats 4000000
set_option linter.unusedVariables false
namespace Mine
local macro_rules | `(tactic| walk_at "mqlk") => `(tactic| first | assumption | exact lk_same _ _ _ | (refine lk_other (by decide) ?_; walk_at "mqlk") | rfl)
theorem tab_item {B : FM} {kvs : List (Int × Value)} {T : Tab4} (h : RepK B kvs (tabD T)) {i : Nat} {ky : Int} {x : Value} (e : kvs[i]? = some (ky, x)) : ∃ q, T[i]? = some (ky, q) ∧ Rep B x (fourD q) := by
  induction T generalizing kvs i with
  | nil =>
    cases h
    simp at e
  | cons p T ih =>
    cases h with
    | cons hx r =>
      cases i with
      | zero => cases e; exact ⟨_, rfl, hx⟩
      | succ i => exact ih r e
theorem four_tup {B : FM} {x : Value} {q : List Int} (h : Rep B x (fourD q)) : ∃ a vs n, x = .ref a ∧ B a = some (tupO vs n) ∧ IntsAre vs q := by
  cases h with
  | tup e r => exact ⟨_, _, _, rfl, e, ints_reps r⟩
section
variable {w : World} {P : Params} {f g : Bool} {s₀ s : Shared} {B₀ B : FM} {mu : MU} {A : Around} {E : Value → Shared → Prop} {env : Env} {Q : Value → Shared → Prop}
theorem acs_spec {B : FM} {td sd : Addr} {T U : Tab4} (S : Sit P false g B s.heap s.gens) (hA : AOk 12 A) (ht : Rep B (.ref td) (.dct (tabD T))) (hs : Rep B (.ref sd) (.dct (tabD U))) (fT : Four T) (fU : Four U) (lT : T.length ≤ 100) (lU : U.length ≤ 100)
    (k : ∀ D s' B', Mv B B' s s' → Sit P false g B' s'.heap s'.gens → Rep B' (.ref D) (.dct (tabD (addC T U))) → Q (.ref D) s') : wpAny (model prg w) A (call (.ref 56) [.ref td, .ref sd]) Q E s := by
  cases ht with
  | dct htB htD htK htN =>
  cases hs with
  | dct hsB hsD hsK hsN =>
  refine call_def S hA (def_acs S.stat) (bind_pure (binds := [("target", .ref td), ("source", .ref sd)]) (by rfl)) (.loc rfl (.loc rfl .nil)) fun h' tk cx => ?_
  generalize s.heap.objs.size = L at cx ⊢
  have hA1 : AOk 11 (A.deeper (envD (nameAt 3) (scAt 3) [] 56 55 L)) := hA.deeper
  have cx1 : Cx P false g s B B [(L, NsP [("target", .ref td), ("source", .ref sd)])] h' s.gens s.os := cx
  clear cx
  refine wpAny_execs_cons (wpAny_Assign_Name (wpAny_Dict_empty ?_))
  have hd0 : IsDct { cls := .type "dict", data := .dict #[] } [] := ⟨by simp, fun p w => ⟨#[], 0, ⟨rfl, rfl, rfl⟩, rfl, fun e he => by simp at he, .nil, by simp⟩⟩
  have cx2 := cx1.pushMu (p := DctP []) (o := { cls := .type "dict", data := .dict #[] }) ⟨hd0⟩
  have nD : (h'.objs.size == sysModules) = false := cx1.not1 (s := { s with heap := h', toks := tk }) (cx1.sit.none_of (get_size _))
  generalize hDD : h'.objs.size = D at cx2 nD
  refine stL (cx2.perm (List.Perm.swap ..)) rfl fun h3 tk3 cx3 => ?_
  refine wpAny_execs_cons (wpAny_For ?_)
  refine iter_items (s := { s with heap := h3, toks := tk3 }) cx3 hA1.handled htB htD htN (fun Q' hq => ld_local (s := { s with heap := h3, toks := tk3 }) cx3 (.head _) rfl hq) fun I St Mid h4 W hex hst cx4 => ?_
  have hlenT : _ := htK.length
  refine for_pair (s := { s with heap := h4, toks := tk3 }) W (B₁ := B) (fun b' hb' => ?_) hex
    (fun i B' mu => B.le B' ∧ ∃ l kvs, mu = [(L, NsP l), (D, DctP kvs)] ∧ has l "new_callers" (.ref D) ∧ has l "source" (.ref sd) ∧ RepK B' kvs (tabD ((T.take i).foldl cpS [])))
    (fun i B' B'' mu ⟨h1, l, kvs, h2, h3, h4, h5⟩ hle => ⟨h1.trans hle, l, kvs, h2, h3, h4, h5.le hle⟩) (FM.le.refl _) [(I, AnyP)] rfl cx4 hst ⟨FM.le.refl _, _, _, rfl, by rfl, by rfl, .nil⟩ ?_ ?_
  · rcases List.mem_cons.mp hb' with rfl | hb'
    · exact .inl (.head _)
    · rw [List.mem_singleton.mp hb']; exact .inr ⟨_, htB⟩
  · intro i Tp vals m oT B5 mu ws s5 hi5 hx1 hx2 hB5 hT hTc hTd cx5
    refine absF fun K hK5 => ?_
    obtain ⟨ky, t, x, hx, rfl⟩ := hx1
    obtain ⟨hle5, l, kvs, rfl, hl1, hl2, hK⟩ := hx2
    obtain ⟨q, hq, hrep⟩ := tab_item (htK.le hle5) hx
    have cx6 : Cx P false g s B B5 ((L, NsP l) :: (D, DctP kvs) :: eqs ws) s5.heap s5.gens s5.os := cx5.perm List.perm_append_comm
    refine assign_pair cx6 hA1.handled hT hTc hTd rfl rfl rfl fun h7 tk7 cx7 => ?_
    refine wpAny_execs_cons (wpAny_Assign_Subscript ?_)
    refine ld_local (s := { s5 with heap := h7, toks := tk7 }) cx7 (.head _) (by walk_at "mqlk") (ld_local cx7 (.head _) (by walk_at "mqlk") (ld_local cx7 (.head _) (by walk_at "mqlk") ?_))
    have hz : kvs.length ≤ 1000 := by
      have h1 := hK.length
      have h2 := copy_len (T.take i)
      unfold copyC at h2
      rw [tabD, List.length_map] at h1
      rw [List.length_take] at h2
      omega
    refine set_dict (s := { s5 with heap := h7, toks := tk7 }) 1 cx7 rfl hz fun h8 tk8 cx8 => ?_
    refine wpAny_execs_nil (hK5 _ _ ⟨B5, [(L, NsP _), (D, DctP _)], ⟨hle5, _, _, rfl, ?_, ?_, ?_⟩, FM.le.refl _, cx8.perm (List.perm_append_comm (l₁ := eqs ws) (l₂ := [_, _])).symm⟩)
    · show List.lookup _ _ = _; walk_at "mqlk"
    · show List.lookup _ _ = _; walk_at "mqlk"
    · rw [take_foldA _ _ _ hq]; exact putZ_D ky q _ ▸ hK.put hrep
  · rintro B6 mu s6 ⟨hle6, l, kvs, rfl, hl1, hl2, hK⟩ hB6 cx6
    rw [hlenT, show (tabD T).length = T.length from by unfold tabD; rw [List.length_map], List.take_length] at hK
    replace hK : RepK B6 kvs (tabD (copyC T)) := hK
    refine wpAny_execs_cons (wpAny_For ?_)
    refine iter_items cx6 hA1.handled (hle6 _ _ hsB) hsD hsN (fun Q' hq => ld_local cx6 (.head _) hl2 hq) fun I2 St2 Mid2 h9 W2 hex2 hst2 cx9 => ?_
    have hlenU : _ := hsK.length
    refine for_pair (s := { s6 with heap := h9 }) W2 (B₁ := B6) (fun b' hb' => ?_) hex2
      (fun i B' mu => B6.le B' ∧ ∃ l kvs, mu = [(L, NsP l), (D, DctP kvs)] ∧ has l "new_callers" (.ref D) ∧ RepK B' kvs (tabD ((U.take i).foldl addS (copyC T))))
      (fun i B' B'' mu ⟨h1, l, kvs, h2, h3, h5⟩ hle => ⟨h1.trans hle, l, kvs, h2, h3, h5.le hle⟩) (FM.le.refl _) [(I2, AnyP)] rfl cx9 hst2 ⟨FM.le.refl _, _, _, rfl, hl1, hK⟩ ?_ ?_
    · rcases List.mem_cons.mp hb' with rfl | hb'
      · exact .inl (.head _)
      · rw [List.mem_singleton.mp hb']; exact .inr ⟨_, hle6 _ _ hsB⟩
    · intro i Tp vals m oT B5 mu ws s5 hi5 hx1 hx2 hB5 hT hTc hTd cx5
      refine absF fun K hK5 => ?_
      obtain ⟨ky, t, x, hx, rfl⟩ := hx1
      obtain ⟨hle5, l, kvs, rfl, hl1, hK⟩ := hx2
      obtain ⟨q, hq, hrep⟩ := tab_item (hsK.le (hle6.trans hle5)) hx
      obtain ⟨c1, xs, n1, rfl, hc1, hi1⟩ := four_tup hrep
      have hq4 : q.length = 4 := fU _ (List.mem_of_getElem? hq)
      have cxp : Cx P false g s B B5 ((L, NsP l) :: (D, DctP kvs) :: eqs ws) s5.heap s5.gens s5.os := cx5.perm List.perm_append_comm
      refine assign_pair cxp hA1.handled hT hTc hTd rfl rfl rfl fun h7 tk7 cx7 => ?_
      have hlen : ((U.take i).foldl addS (copyC T)).length ≤ 300 := by
        have h1 := fold_len (copyC T) (U.take i)
        have h2 := copy_len T
        rw [List.length_take] at h1
        omega
      have hz : kvs.length ≤ 1000 := by
        have h1 := hK.length
        rw [tabD, List.length_map] at h1
        omega
      have f4 : Four ((U.take i).foldl addS (copyC T)) := fold_four (copy_four fT) fun p hp => fU p (List.mem_of_mem_take hp)
      generalize hacc : (U.take i).foldl addS (copyC T) = acc at hK hlen f4
      obtain ⟨oD, hoD, ⟨hqD⟩⟩ := cx7.mus (D, DctP kvs) (.tail _ (.head _))
      have hK2 := hK.at ky
      refine wpAny_execs_cons (wpAny_If (wpAny_isTrue_Compare1 ?_))
      refine ld_local (s := { s5 with heap := h7, toks := tk7 }) cx7 (.head _) (by walk_at "mqlk") (ld_local cx7 (.head _) (by walk_at "mqlk") (in_dict (s := { s5 with heap := h7, toks := tk7 }) hoD hqD nD fun tk8 => wpAny_truthy_bool ?_))
      rw [atZ_D] at hK2
      rcases hK2 with ⟨e1, e2⟩ | ⟨d, v2, e1, e2, r2⟩
      · have ea : atZ ky acc = none := by
          cases hh : atZ ky acc with
          | none => rfl
          | some o => rw [hh] at e1; cases e1
        rw [e2]
        refine wpAny_execs_cons (wpAny_Assign_Subscript ?_)
        refine ld_local (s := { s5 with heap := h7, toks := tk8 }) cx7 (.head _) (by walk_at "mqlk") (ld_local cx7 (.head _) (by walk_at "mqlk") (ld_local cx7 (.head _) (by walk_at "mqlk") ?_))
        refine set_dict (s := { s5 with heap := h7, toks := tk8 }) 1 cx7 rfl hz fun h9 tk9 cx9 => ?_
        refine wpAny_execs_nil (wpAny_execs_nil (hK5 _ _ ⟨B5, [(L, NsP _), (D, DctP _)], ⟨hle5, _, _, rfl, ?_, ?_⟩, FM.le.refl _, cx9.perm (List.perm_append_comm (l₁ := eqs ws) (l₂ := [_, _])).symm⟩))
        · show List.lookup _ _ = _; walk_at "mqlk"
        · rw [take_foldA _ _ _ hq, hacc]
          have : addS acc (ky, q) = putZ ky q acc := by unfold addS; dsimp only; rw [ea]
          rw [this, ← putZ_D]; exact hK.put hrep
      · obtain ⟨o, ea, rfl⟩ : ∃ o, atZ ky acc = some o ∧ fourD o = d := by
          cases hh : atZ ky acc with
          | none => rw [hh] at e1; cases e1
          | some o => rw [hh] at e1; exact ⟨o, rfl, Option.some.inj e1⟩
        obtain ⟨c2, ys, n2, rfl, hc2, hi2⟩ := four_tup r2
        have ho4 : o.length = 4 := by
          obtain ⟨p, hp, _, e3⟩ := atZ_mem ea
          rw [← e3]; exact f4 p hp
        rw [e2]
        refine wpAny_execs_cons (wpAny_If (wpAny_isTrue_value ?_))
        refine ev_call rfl rfl (ldB (s := { s5 with heap := h7, toks := tk8 }) cx7.sit (blt_isinstance P) (ld_local (s := { s5 with heap := h7, toks := tk8 }) cx7 (.head _) (by walk_at "mqlk") (ldB (s := { s5 with heap := h7, toks := tk8 }) cx7.sit (blt_tuple P) ⟨keep_builtin _, ?_⟩)))
        refine IsiPair.tuple_tuple (s := { s5 with heap := h7, toks := tk8 }) (cx7.sit.inB _ _ hc1) rfl (wpAny_truthy_bool ?_)
        refine wpAny_execs_cons (wpAny_Assign_Subscript ?_)
        refine gen_tuple (s := { s5 with heap := h7, toks := tk8 }) cx7 (hA1.less (by decide)) rfl (.head _) (by walk_at "mqlk") (by walk_at "mqlk") (by walk_at "mqlk") (.tail _ (.head _)) e2 hc1 hc2 hi1 hi2 (by rw [hi1.length, hi2.length, hq4, ho4]) (by rw [hi1.length, hq4]; decide) ⟨rfl, rfl⟩ fun Tn vs s9 B9 hle9 hTn hvs cx9 => ?_
        refine ld_local cx9 (.head _) (by walk_at "mqlk") (ld_local cx9 (.head _) (by walk_at "mqlk") ?_)
        refine set_dict 1 cx9 rfl hz fun h10 tk10 cx10 => ?_
        refine wpAny_execs_nil (wpAny_execs_nil (wpAny_execs_nil (hK5 _ _ ⟨B9, [(L, NsP _), (D, DctP _)], ⟨hle5.trans hle9, _, _, rfl, ?_, ?_⟩, hle9, cx10.perm (List.perm_append_comm (l₁ := eqs ws) (l₂ := [_, _])).symm⟩)))
        · show List.lookup _ _ = _; walk_at "mqlk"
        · rw [take_foldA _ _ _ hq, hacc]
          have : addS acc (ky, q) = putZ ky (List.zipWith (· + ·) q o) acc := by unfold addS; dsimp only; rw [ea]
          rw [this, ← putZ_D]
          exact (hK.le hle9).put (.tup hTn (reps_ints hvs))
    · rintro B7 mu s7 ⟨hle7, l, kvs, rfl, hl1, hK⟩ hB7 cx7
      rw [hlenU, show (tabD U).length = U.length from by unfold tabD; rw [List.length_map], List.take_length] at hK
      replace hK : RepK B7 kvs (tabD (addC T U)) := hK
      refine wpAny_execs_cons (wpAny_Return_some (ld_local cx7 (.head _) hl1 ?_))
      obtain ⟨oD, ⟨hoD⟩, _, nB, cx8⟩ := (cx7.tail rfl).freeze
      exact k D s7 _ cx8.mv cx8.sit (.dct (FM.put_self ..) hoD (hK.le (FM.le_put nB)) nD)
end
end Mine
end
section
open PySem PySem.W PyProof.Rows
set_option Elab.async false
set_option maxRecDepth 100000
set_option maxHeartbeats 4000000
set_option linter.unusedVariables false
namespace Mine
local macro_rules | `(tactic| walk_at "mqlk") => `(tactic| first | assumption | exact lk_same _ _ _ | (refine lk_other (by decide) ?_; walk_at "mqlk") | rfl)
section
variable {w : World} {P : Params} {f g : Bool} {s₀ s : Shared} {B₀ B : FM} {mu : MU} {A : Around} {E : Value → Shared → Prop} {env : Env}
theorem assign_five {x1 x2 x3 x4 x5 : Str} {p1 p2 p3 p4 p5 pos : Pos} {k : Nat} {T : Addr} {a b c d e : Value} {m : Nat} {l : List (Str × Value)} {Q : Unit → Shared → Prop} (cx : Cx P f g s₀ B₀ B ((env.locals, NsP l) :: mu) s.heap s.gens s.os) (hh : A.handled = none) (hT : B T = some (tupO [a, b, c, d, e] m))
    (h1 : env.kindOf x1 = some .local) (h2 : env.kindOf x2 = some .local) (h3 : env.kindOf x3 = some .local) (h4 : env.kindOf x4 = some .local) (h5 : env.kindOf x5 = some .local) (hk : env.scope.kind = .function)
    (h : ∀ h' tk, Cx P f g s₀ B₀ B ((env.locals, NsP (putA x5 e (putA x4 d (putA x3 c (putA x2 b (putA x1 a l)))))) :: mu) h' s.gens s.os → Q () { s with heap := h', toks := tk }) :
    wpAny (model prg w) A (assign (.Tuple [.Name x1 p1, .Name x2 p2, .Name x3 p3, .Name x4 p4, .Name x5 p5] k pos) env (.ref T)) Q E s := by
  have hk' : (env.scope.kind == .class || (env.scope.kind == .module && env.locals != env.globals)) = false := by rw [hk]; rfl
  refine wpAny_assign_Tuple hh (items := #[a, b, c, d, e]) ⟨_, cx.sit.inB _ _ hT, rfl, m, rfl⟩ rfl rfl fun g1 hx1 => ?_
  have c1 : Cx P f g s₀ B₀ B ((env.locals, NsP l) :: mu) g1 s.gens s.os := cx.grow fun b o e => hx1 b o (Nat.ne_of_lt (Heap.lt_size e)) e
  show wpAny _ _ (assignInOrder [assign (.Name x1 p1) env, assign (.Name x2 p2) env, assign (.Name x3 p3) env, assign (.Name x4 p4) env, assign (.Name x5 p5) env] [a, b, c, d, e]) _ _ _
  refine wpAny_bind (wpAny_holding (wpAny_assign_Name (stL c1 h1 (fun g2 t2 c2 => ?_) hk')))
  refine wpAny_bind (wpAny_holding (wpAny_assign_Name (stL c2 h2 (fun g3 t3 c3 => ?_) hk')))
  refine wpAny_bind (wpAny_holding (wpAny_assign_Name (stL c3 h3 (fun g4 t4 c4 => ?_) hk')))
  refine wpAny_bind (wpAny_holding (wpAny_assign_Name (stL c4 h4 (fun g5 t5 c5 => ?_) hk')))
  refine wpAny_bind (wpAny_holding (wpAny_assign_Name (stL c5 h5 (fun g6 t6 c6 => ?_) hk')))
  exact wpAny_pure (h g6 t6 c6)

/-- an entry whose table has fours alone -/
structure EntOk (e : Ent) : Prop where
  four : e.four.length = 4
  cs : Four e.cs
inductive EntB (B : FM) (x : Value) (e : Ent) : Prop
  | mk (a : Addr) (t1 t2 t3 t4 : Tok) (td : Addr) (n : Nat) (z1 z2 z3 z4 : Int) (e1 : x = .ref a) (e2 : e.four = [z1, z2, z3, z4]) (e3 : B a = some (tupO [.int z1 t1, .int z2 t2, .int z3 t3, .int z4 t4, .ref td] n)) (e4 : Rep B (.ref td) (.dct (tabD e.cs))) : EntB B x e
theorem ent_open {B : FM} {x : Value} {e : Ent} (h : Rep B x e.d) (ok : EntOk e) : EntB B x e := by
  obtain ⟨four, cs⟩ := e
  obtain ⟨hf, hc⟩ := ok
  match four, hf with
  | [z1, z2, z3, z4], _ =>
    obtain ⟨a, vs, n, rfl, hb, r⟩ := h.tup_inv
    obtain ⟨v1, r, rfl, r1, q1⟩ := Reps.cons_inv r
    obtain ⟨v2, r, rfl, r2, q2⟩ := Reps.cons_inv q1
    obtain ⟨v3, r, rfl, r3, q3⟩ := Reps.cons_inv q2
    obtain ⟨v4, r, rfl, r4, q4⟩ := Reps.cons_inv q3
    obtain ⟨v5, r, rfl, r5, q5⟩ := Reps.cons_inv q4
    obtain rfl := q5.nil_inv
    obtain ⟨t1, rfl⟩ := r1.int_inv
    obtain ⟨t2, rfl⟩ := r2.int_inv
    obtain ⟨t3, rfl⟩ := r3.int_inv
    obtain ⟨t4, rfl⟩ := r4.int_inv
    obtain ⟨td, o, kvs, rfl, _⟩ := r5.dct_inv
    exact ⟨a, t1, t2, t3, t4, td, n, z1, z2, z3, z4, rfl, rfl, hb, r5⟩

theorem afs_spec {u v : Value} {a b : Ent} {Q : Value → Shared → Prop} (S : Sit P false g B s.heap s.gens) (hA : AOk 14 A) (hu : Rep B u a.d) (hv : Rep B v b.d) (oa : EntOk a) (ob : EntOk b) (la : a.cs.length ≤ 100) (lb : b.cs.length ≤ 100)
    (k : ∀ D s' B', Mv B B' s s' → Sit P false g B' s'.heap s'.gens → Rep B' (.ref D) (addE a b).d → Q (.ref D) s') : wpAny (model prg w) A (call (.ref 49) [u, v]) Q E s := by
  obtain ⟨xa, t1, t2, t3, t4, ta, na, a1, a2, a3, a4, rfl, ea, hba, hda⟩ := ent_open hu oa
  obtain ⟨xb, u1, u2, u3, u4, tb, nb, b1, b2, b3, b4, rfl, eb, hbb, hdb⟩ := ent_open hv ob
  refine call_def S hA (def_afs S.stat) (bind_pure (binds := [("target", .ref xa), ("source", .ref xb)]) (by rfl)) (.loc rfl (.loc rfl .nil)) fun h' tk cx => ?_
  generalize s.heap.objs.size = L at cx ⊢
  have hA1 : AOk 13 (A.deeper (envD (nameAt 2) (scAt 2) [] 49 48 L)) := hA.deeper
  have cx1 : Cx P false g s B B [(L, NsP [("target", .ref xa), ("source", .ref xb)])] h' s.gens s.os := cx
  clear cx
  refine wpAny_execs_cons (Assign_Tuple (ld_local (s := { s with heap := h', toks := tk }) cx1 (.head _) rfl ?_))
  refine assign_five (s := { s with heap := h', toks := tk }) cx1 hA1.handled hbb rfl rfl rfl rfl rfl rfl fun h2 tk2 cx2 => ?_
  refine wpAny_execs_cons (Assign_Tuple (ld_local (s := { s with heap := h2, toks := tk2 }) cx2 (.head _) (by walk_at "mqlk") ?_))
  refine assign_five (s := { s with heap := h2, toks := tk2 }) cx2 hA1.handled hba rfl rfl rfl rfl rfl rfl fun h3 tk3 cx3 => ?_
  refine wpAny_execs_cons (wpAny_Return_some (ev_tuple rfl ?_))
  refine wpAny_BinOp (ld_local (s := { s with heap := h3, toks := tk3 }) cx3 (.head _) (by walk_at "mqlk") (ld_local cx3 (.head _) (by walk_at "mqlk") (PySem.P.add_int ?_)))
  refine wpAny_BinOp (ld_local cx3 (.head _) (by walk_at "mqlk") (ld_local cx3 (.head _) (by walk_at "mqlk") (PySem.P.add_int ?_)))
  refine wpAny_BinOp (ld_local cx3 (.head _) (by walk_at "mqlk") (ld_local cx3 (.head _) (by walk_at "mqlk") (PySem.P.add_int ?_)))
  refine wpAny_BinOp (ld_local cx3 (.head _) (by walk_at "mqlk") (ld_local cx3 (.head _) (by walk_at "mqlk") (PySem.P.add_int ?_)))
  refine ev_call rfl rfl (ldG cx3.sit (glob_acs P) (ld_local cx3 (.head _) (by walk_at "mqlk") (ld_local cx3 (.head _) (by walk_at "mqlk") ⟨keep_fn (cx3.sit.at (a := 56) (o := k1o P 56) (by kernel_rfl) (notTab rfl)) (fd := fdOf P 56) (by kernel_rfl), ?_⟩)))
  refine acs_spec (s := { s with heap := h3, toks := _ }) cx3.sit (hA1.less (by decide)) hda hdb oa.cs ob.cs la lb fun D s4 B4 mv4 S4 hD => ?_
  have cx4 := cx3.call (s := { s with heap := h3, toks := _ }) mv4 S4
  refine nTup cx4 (by simp) fun T h5 B5 hle5 hT cx5 => ?_
  refine k T _ B5 (Cx.mv (s' := { s4 with heap := h5 }) cx5) cx5.sit ?_
  have e1 : (addE a b).d = .tup [.int (b1 + a1), .int (b2 + a2), .int (b3 + a3), .int (b4 + a4), .dct (tabD (addC a.cs b.cs))] := by
    unfold addE Ent.d; dsimp only; rw [ea, eb]; rfl
  rw [e1]
  exact .tup hT (.cons (.int ..) (.cons (.int ..) (.cons (.int ..) (.cons (.int ..) (.cons (hD.le hle5) .nil)))))
end
end Mine
end
section
open PySem PySem.W PyProof.Rows
set_option Elab.async false
set_option maxRecDepth 100000
set_option maxHeartbeats 4000000
set_option linter.unusedVariables false
namespace Mine
section
variable {w : World} {P : Params} {f g : Bool} {s₀ s : Shared} {B₀ B : FM} {mu : MU} {h h' : Heap} {gs : Array GenState} {os : OsState} {A : Around} {E : Value → Shared → Prop} {env : Env} {Q : Value → Shared → Prop}
abbrev mgQ : Str := "_law_merger.<locals>._law_merge"
theorem TabOk.set91 {h h' : Heap} {c : Addr} {oc : Obj} {vs : Array Value} {t : Tok} (x : TabOk false g B h) (hs : Heap.ExtBut 91 h h') (e : h'.get? 91 = some (tabObj #[rawInt 92, rawInt 4, .ref c])) (e1 : B c = some oc) (e2 : oc.data = .fields vs) (e3 : vs[1]? = some (.str mgQ t)) : TabOk false g B h' where
  t51 := let ⟨ps, e, r, q⟩ := x.t51; ⟨ps, hs _ _ (by decide) e, r, q⟩
  t58 := let ⟨ps, e, r⟩ := x.t58; ⟨ps, hs _ _ (by decide) e, r⟩
  t91 := ⟨_, e, (fun z => nomatch z), .inr ⟨c, oc, vs, t, rfl, e1, e2, e3⟩⟩
  t108 := let ⟨ps, e, r⟩ := x.t108; ⟨ps, hs _ _ (by decide) e, r⟩
theorem Cx.tabNew {f' g' : Bool} (x : Cx P f g s₀ B₀ B mu h gs os) {a c : Addr} {oc : Obj} (ht : Tab a) (hs : Heap.ExtBut a h h') (h0 : h.get? c = none) (hc : h'.get? c = some oc) (T : TabOk f' g' (B.put c oc) h') : B.le (B.put c oc) ∧ Cx P f' g' s₀ B₀ (B.put c oc) mu h' gs os := by
  have hle := FM.le_put (o := oc) (x.sit.none_of h0)
  have inB : B.inn h' := fun b o e => hs b o (fun q => by rw [q, x.sit.tabB a ht] at e; cases e) (x.sit.inB b o e)
  refine ⟨hle, ⟨inB.put hc, x.sit.stat.le hle, T, fun b t => ?_, x.sit.bare⟩, fun b o t e => hs b o (fun q => t (q ▸ ht)) (x.ext b o t e), x.le.trans hle, fun b hb o e => ?_, x.os, x.tab0,
    fun p hp => let ⟨o, e, r⟩ := x.mus p hp; ⟨o, hs _ _ (fun q => x.notab hp (q ▸ ht)) e, r⟩, x.nd, fun p hp => ⟨(x.fresh p hp).1, ?_⟩⟩
  · rw [FM.put_ne (fun q : b = c => by obtain ⟨o, e⟩ := x.sit.tabs.there t; rw [q, h0] at e; cases e)]; exact x.sit.tabB b t
  · by_cases q : b = c
    · rw [q]; exact x.old_none h0
    · rw [FM.put_ne q] at e; exact x.new b hb o e
  · rw [FM.put_ne (x.mu_ne h0 p hp)]; exact (x.fresh p hp).2
/-- the inner def of _law_merger is made: its code once -/
theorem mkfn91 {name : Str} {params : Arguments} {body : List Stmt} {scope : Scope} {cl : List (Str × Addr)} {pos : Pos} {firstLine : Nat} (cx : Cx P false g s₀ B₀ B mu s.heap s.gens s.os)
    (hcl : closureFor scope env = pure cl) (hgl : env.globals = mainGlobals) (hcode : env.code = .ref 95) (hp : pos.line = 92 ∧ pos.col = 4)
    (k : ∀ fa c' h' tk B', B.le B' → DefB B' fa c' mgQ params body scope cl .none → Cx P false g s₀ B₀ B' mu h' s.gens s.os → Q (.ref fa) { s with heap := h', toks := tk }) :
    wpAny (model prg w) A (makeFunction name mgQ params (.stmts body) scope env [] [] [] pos firstLine) Q E s := by
  obtain ⟨ps, hps, _, h0⟩ := cx.sit.tabs.t91
  have C := (code_merger cx.sit.stat).hd cx.sit.inB
  rcases h0 with rfl | ⟨c, oc, vs, t, rfl, e1, e2, e3⟩
  · refine makeFunction_K hcl hgl cx.sit.glob hcode C hps trivial rfl (by decide) (cx.sit.bm (by decide)) fun c' ctv doc h1 tk hx hge hlt hrec hP' => ?_
    have hc0 : s.heap.get? c' = none := get_none_ge hge
    obtain ⟨cc, oc, vs, t, e, hoc, hdc, hq⟩ := hrec
    cases e
    have hP2 : h1.get? 91 = some (tabObj #[rawInt 92, rawInt 4, .ref c']) := by rw [hP', hp.1, hp.2]; rfl
    have ht91 : Tab 91 := .inr (.inr (.inl rfl))
    have T1 : TabOk false g (B.put c' oc) h1 := by
      have hle := FM.le_put (o := oc) (cx.sit.none_of hc0)
      refine TabOk.set91 (h := s.heap) (cx.sit.tabs.keep hle fun _ _ _ e => e) hx hP2 (FM.put_self ..) hdc hq
    obtain ⟨hle1, c1⟩ := cx.tabNew ht91 hx hc0 hoc T1
    have hf0 := get_size h1
    have c3 := c1.pushB (fnMade name mgQ params body scope cl doc ((nsFind (esOf P 3) "__name__").getD .none) c' ctv)
    have hle2 := FM.le_put (o := fnMade name mgQ params body scope cl doc ((nsFind (esOf P 3) "__name__").getD .none) c' ctv) (c1.sit.none_of hf0)
    exact k _ c' _ tk _ (hle1.trans hle2) ⟨_, ⟨⟨_, FM.put_self .., rfl, rfl⟩, ⟨c', oc, vs, t, rfl, hle2 _ _ (FM.put_self ..), hdc, hq⟩⟩, rfl, rfl, rfl, rfl, rfl, rfl, rfl, rfl, rfl, rfl⟩ c3
  · refine makeFunction_hit (cv := .ref c) hcl hgl cx.sit.glob hcode C hps (by simp [TriplesOk, rawInt]) ?_ (cx.sit.bm (by decide)) fun ctv doc h1 tk hk hsz => ?_
    · obtain ⟨l, cl, el, ec⟩ := pos
      obtain ⟨rfl, rfl⟩ := hp
      rfl
    · have c1 := cx.grow hk
      have c2 := c1.pushB { cls := .type "function", data := .func (fnX name mgQ params body scope cl .none .none doc ((nsFind (esOf P 3) "__name__").getD .none) none (.ref c) ctv) }
      have hle := FM.le_put (o := ({ cls := .type "function", data := .func (fnX name mgQ params body scope cl .none .none doc ((nsFind (esOf P 3) "__name__").getD .none) none (.ref c) ctv) } : Obj)) (c1.sit.none_of (get_size h1))
      exact k _ c _ tk _ hle ⟨_, ⟨⟨_, FM.put_self .., rfl, rfl⟩, ⟨c, oc, vs, t, rfl, hle _ _ e1, e2, e3⟩⟩, rfl, rfl, rfl, rfl, rfl, rfl, rfl, rfl, rfl, rfl⟩ c2

def mgSt : Option Stmt := (bodyAt 12)[0]?
def mgPar : Arguments := match mgSt with
  | some (.FunctionDef _ a _ _ _ _ _ _ _ _) => a
  | _ => ⟨[], [], none, [], [], none, []⟩
def mgBody : List Stmt := match mgSt with
  | some (.FunctionDef _ _ b _ _ _ _ _ _ _) => b
  | _ => []
def mgSc : Scope := match mgSt with
  | some (.FunctionDef _ _ _ _ _ _ sc _ _ _) => sc
  | _ => default
/-- the merger of a TupleComp -/
def MgB (B : FM) (fm tc : Addr) : Prop := ∃ cm cc oc, DefB B fm cm mgQ mgPar mgBody mgSc [("comp", cc)] .none ∧ B cc = some oc ∧ oc.data = .cell (some (.ref tc))
theorem MgB.le {B B' : FM} {fm tc : Addr} (x : MgB B fm tc) (h : B.le B') : MgB B' fm tc := let ⟨cm, cc, oc, a, b, c⟩ := x; ⟨cm, cc, oc, a.le h, h _ _ b, c⟩
theorem merger_spec {tc : Addr} (S : Sit P false g B s.heap s.gens) (hA : AOk 4 A) (k : ∀ fm s' B', Mv B B' s s' → Sit P false g B' s'.heap s'.gens → MgB B' fm tc → Q (.ref fm) s') : wpAny (model prg w) A (call (.ref 96) [.ref tc]) Q E s := by
  refine call_def S hA (def_merger S.stat) (bind_pure (binds := [("comp", .ref tc)]) (by rfl)) (.cell (i := 0) rfl rfl rfl .nil) fun h' tk cx => ?_
  generalize s.heap.objs.size = L at cx ⊢
  have cx1 : Cx P false g s B B [(L, NsP []), (L + 1, CellP (some (.ref tc)))] h' s.gens s.os := cx
  clear cx
  refine wpAny_execs_cons (nestDef_K rfl rfl rfl (mkfn91 (s := { s with heap := h', toks := tk }) cx1 rfl (cl := [("comp", L + 1)]) rfl rfl ⟨rfl, rfl⟩ fun fm cm h2 tk2 B2 hle2 dm cx2 => ?_))
  refine stL cx2 rfl fun h3 tk3 cx3 => ?_
  refine wpAny_execs_cons (wpAny_Return_some (ld_local (s := { s with heap := h3, toks := tk3 }) cx3 (.head _) rfl ?_))
  obtain ⟨oc, rc, _, nc, cx4⟩ := (cx3.tail rfl).freeze
  exact k fm _ _ (Cx.mv (s' := { s with heap := h3, toks := tk3 }) cx4) cx4.sit ⟨cm, L + 1, oc, dm.le (FM.le_put nc), FM.put_self .., rc.h⟩
end
end Mine
end
section
open PySem PySem.W PyProof.Rows PySem.Builtin PySem.Builtin.ObjectAttr
set_option Elab.async false
set_option maxRecDepth 100000
set_option maxHeartbeats 4000000
set_option linter.unusedVariables false
namespace Mine
section
variable {w : World} {P : Params} {f g : Bool} {s₀ s : Shared} {B₀ B : FM} {mu : MU} {h h' : Heap} {gs : Array GenState} {os : OsState} {A : Around} {E : Value → Shared → Prop} {env : Env} {Q : Value → Shared → Prop}
theorem getMethod_tc {x : Addr} {v : Value} {pl : Sem Bool} {Q : Value × List Value → Shared → Prop} (S : Sit P f g B s.heap s.gens) (T : TcB B x v) (h : Q (.ref 35, [.ref x]) s) : wpAny (model prg w) A (getMethod (.ref x) "compare" pl) Q E s := by
  obtain ⟨dx, od, I, hn⟩ := T.at S.inB
  have X := S.kn
  have hp := plainGet_of (kn_get P)
  obtain ⟨oes, oep, hd1, hd2, hd3⟩ := hn.h
  have hns : s.heap.Ns dx (fun n => List.lookup n [("comp_select_list", v)]) := ⟨od, oes, oep, by have := I.dict; simpa using this, hd1, hd2, hd3⟩
  unfold getMethod specialOf
  refine wpAny_bind (wpAny_bind (I.type.here ((looks_findIn X hp.1).here ?_)))
  dsimp only
  first | refine ifF ?_ | refine wpAny_ite_false rfl ?_ | rw [if_neg (by decide)]
  refine wpAny_bind (wpAny_bind (I.type.here ((looks_findIn X hp.2).here ?_)))
  rw [if_neg (by simp)]
  refine wpAny_bind (wpAny_bind (I.type.here ((looks_findIn X (kn_cmp P)).here ?_)))
  dsimp only
  refine wpAny_bind ((looks_typeIn X (kn_35 P)).here ?_)
  first | refine ifF ?_ | refine wpAny_ite_false rfl ?_ | rw [if_neg (by decide)]
  refine wpAny_bind (wpAny_loadPart I.at_ ?_)
  dsimp only
  refine wpAny_bind (nsGetE (v := none) hns (by kernel_rfl) ?_)
  rw [if_neg (by simp)]
  exact wpAny_bind (wpAny_rule (wpAny_pure h))
/-- x.compare(..) -/
theorem ev_cmp {o : Expr} {apos pos : Pos} {e : Expr} {args : List Expr} (h : wpAny (model prg w) A (eval o env) (fun ov s₁ => ∃ x v P f g B, ov = .ref x ∧ Sit P f g B s₁.heap s₁.gens ∧ TcB B x v ∧ evAll A (model prg w) env E (e :: args) (fun vs s₂ => (∃ P f g B, Sit P f g B s₂.heap s₂.gens) ∧ wpAny (model prg w) A (call (.ref 35) (.ref x :: vs)) Q E s₂) s₁) E s)
    (hn : noStar (e :: args) = true) (hbase : attributeBase o "compare" env (eval o env) = eval o env := by rfl)
    (hfew : methodCallForm ((e :: args).length + ([] : List Keyword).length) (backTo pos (starEach (e :: args) env)) (backToKw pos (keywordEach [] env)) = true := by rfl) (hline : (apos.endLine == pos.line) = true := by rfl) :
    wpAny (model prg w) A (eval (.Call (.Attribute o "compare" apos) (e :: args) [] pos) env) Q E s := by
  rw [arm_eval_Call, hbase]
  refine wpAny_bind (wpAny_mono h (fun ov s₁ h₁ => wpAny_bind (wpAny_standAt ?_)) fun _ _ x => x)
  obtain ⟨x, v, P, f, g, B, rfl, S, T, h2⟩ := h₁
  have hpos : methodCallPos true o env apos pos = pure pos := by unfold methodCallPos; simp [hline]
  unfold methodCall
  rw [hfew]
  refine wpAny_bind (wpAny_holding (getMethod_tc S T ?_))
  refine wpAny_bind (wpAny_of_eq hpos ?_)
  have hs : starEach (e :: args) env = (false, eval e env) :: starEach args env := by cases e <;> first | rfl | cases hn
  have hn' : noStar args = true := by cases e <;> first | exact hn | cases hn
  have h3 := spliced_all (pos := pos) hn h2
  rw [hs] at h3 ⊢
  refine callWith_of (P := fun h => KeepOk (model prg w) (.ref 35) h) (by show ((false || (backTo pos (starEach args env)).any (·.1)) || false) = false; rw [any_star hn']; rfl) (fun _ x => x) (Calls.evalArgs_plain (wpAny_mono h3 (fun vs s₂ h₂ => ?_) fun _ _ x => x))
  obtain ⟨⟨P, f, g, B, S2⟩, h4⟩ := h₂
  obtain ⟨fd, ⟨⟨o, e1, e2, e3⟩, _⟩, _⟩ := (def_compare S2.stat).h
  exact ⟨keep_fn (S2.inB _ _ e1) e3, h4⟩
end
end Mine
end
section
open PySem PySem.W PyProof.Rows
set_option Elab.async false
set_option maxRecDepth 100000
set_option maxHeartbeats 4000000
set_option linter.unusedVariables false
namespace Mine
theorem adjust_to (a n : Nat) (ha : a ≤ n) : Builtin.Slice.sliceAdjust none (some (a : Int)) 1 (n : Int) = (0, (a : Int)) := by
  unfold Builtin.Slice.sliceAdjust
  have h1 : ¬ ((1 : Int) < 0) := by omega
  have h2 : ¬ ((a : Int) < 0) := by omega
  simp only [h1, h2, if_false]
  congr 1
  omega
theorem places_to (a : Nat) : Builtin.Slice.slicePlaces 0 (a : Int) 1 = a := by
  unfold Builtin.Slice.slicePlaces
  have h1 : (1 : Int) > 0 := by omega
  simp only [h1, if_true, Int.ediv_one]
  split <;> omega
section
variable {w : World} {P : Params} {f g : Bool} {s₀ s : Shared} {B₀ B : FM} {mu : MU} {A : Around} {E : Value → Shared → Prop} {env : Env} {Q : Value → Shared → Prop}
theorem sliceApplied_to {prog : Program} {sl : Addr} {a n : Nat} {u : Tok} {Q : Int × Int × Nat → Shared → Prop} (hs : s.heap.IsSliceOf sl .none (.int a u) .none) (ha : a ≤ n) (h : Q (0, 1, a) s) :
    wpAny (model prog w) A (Builtin.Slice.sliceApplied (.ref sl) (pure (n : Int))) Q E s := by
  obtain ⟨os, hos, hcs, hds⟩ := id hs
  unfold Builtin.Slice.sliceApplied Builtin.Slice.sliceFields
  refine wpAny_bind (wpAny_bind (wpAny_field hos hds (x := .none) rfl (wpAny_bind (wpAny_field hos hds (x := .int a u) rfl (wpAny_bind (wpAny_field hos hds (x := .none) rfl (wpAny_pure ?_)))))))
  refine wpAny_bind (slicePart_none ?_)
  show wpAny _ _ (if ((1 : Int) == 0) = true then _ else _) _ _ s
  first | refine ifF ?_ | refine wpAny_ite_false rfl ?_ | rw [if_neg (by decide)]
  refine wpAny_bind (slicePart_none (wpAny_bind (slicePart_int (wpAny_bind (wpAny_pure ?_)))))
  show wpAny _ _ (match Builtin.Slice.sliceAdjust none (some (a : Int)) 1 (n : Int) with | (lo, hi) => pure (lo, (1 : Int), Builtin.Slice.slicePlaces lo hi 1)) _ _ s
  rw [adjust_to a n ha]
  show wpAny _ _ (pure ((0 : Int), (1 : Int), Builtin.Slice.slicePlaces 0 (a : Int) 1)) _ _ s
  rw [places_to a]
  exact wpAny_pure h
theorem pick_to (xs : Array Value) (a : Nat) : ((List.range a).filterMap fun (k : Nat) => xs[((0 : Int) + (k : Int) * 1).toNat]?).toArray = (xs.toList.take a).toArray := by
  have e : (fun (k : Nat) => xs[((0 : Int) + (k : Int) * 1).toNat]?) = fun k => xs[0 + k]? := by
    funext k
    have : ((0 : Int) + (k : Int) * 1).toNat = 0 + k := by omega
    rw [this]
  rw [e]
  have := pick_run xs 0 a
  rw [List.filterMap_map] at this
  have e2 : ((fun x => xs[x]?) ∘ fun x => 0 + x) = fun k => xs[0 + k]? := rfl
  rw [e2] at this
  rw [this]; simp
theorem getItem_tuple_to {prog : Program} {t sl : Addr} {items : Array Value} {a : Nat} {u : Tok} (ht : IsTup s.heap t items) (hs : s.heap.IsSliceOf sl .none (.int a u) .none) (ha : a < items.size) (hz : items.size ≤ 1000)
    (h : Q (.ref s.heap.objs.size) { s with heap := s.heap.push { cls := .type "tuple", data := .seq (items.toList.take a).toArray } }) : wpAny (model prog w) A (getItem (.ref t) (.ref sl)) Q E s := by
  have hok : sizeOk (.seq (items.toList.take a).toArray) := by
    show (items.toList.take a).toArray.size ≤ sizeLine
    rw [List.size_toArray, List.length_take, Array.length_toList, sizeLine_eq]
    omega
  obtain ⟨os, hos, hcs, hds⟩ := id hs
  have hTs : s.TypeIs (.ref sl) "slice" := ⟨os, hos, hcs⟩
  unfold getItem
  try with_reducible refine wpAny_holding ?_
  first | refine wpAny_bind (wpAny_pure ?_) | skip
  refine wpAny_bind (wpAny_sequenceKey ht.typeIs (by decide) ?_)
  refine wpAny_bind (wpAny_callSpecial?_slot (name := Str.ofString "__getitem__") ht.typeIs slot_tuple_getitem (wpAny_call_entry slot_tuple_getitem ht.typeIs entry_tuple_getitem ?_ (args_tuple_getitem _ _)))
  refine wpAny_bind (m := Builtin.Tuple.tupleItemsOf (.ref t)) (tupleItemsOf_ ht ?_)
  refine wpAny_bind (wpAny_typeOf hTs ?_)
  rw [if_pos (by decide)]
  refine wpAny_bind (sliceApplied_to hs (Nat.le_of_lt ha) ?_)
  have hno : ¬ (((0 : Int) == 0 && (1 : Int) == 1 && a == items.size) = true) := by
    have : (a == items.size) = false := by rw [beq_eq_false_iff_ne]; omega
    rw [this]; simp
  show wpAny _ _ (if ((0 : Int) == 0 && (1 : Int) == 1 && a == items.size) = true then _ else _) _ _ s
  rw [if_neg hno, pick_to items a]
  first
    | exact wpAny_bind (m := Builtin.Tuple.tupleExact _) (wpAny_newObj_type (wpAny_pure ⟨_, rfl, wpAny_pure h⟩) hok)
    | exact wpAny_bind (m := Builtin.Tuple.tupleExact _) (wpAny_newObj_type (wpAny_bind (wpAny_pure (wpAny_pure ⟨_, rfl, wpAny_pure h⟩))) hok)
    | exact wpAny_bind (wpAny_bind (m := Builtin.Tuple.tupleExact _) (wpAny_newObj_type (wpAny_pure (wpAny_pure ⟨_, rfl, wpAny_pure h⟩)) hok))
    | exact wpAny_bind (wpAny_bind (m := Builtin.Tuple.tupleExact _) (wpAny_newObj_type (wpAny_pure ⟨_, rfl, wpAny_pure h⟩) hok))

/-- what tuple[:a] asks -/
inductive TtoQ (Q : Value → Shared → Prop) (o uv : Value) : Shared → Prop
  | mk {P : Params} {f g : Bool} {s₀ : Shared} {B₀ B : FM} {mu : MU} {h : Heap} {gs : Array GenState} {dr : Drawn} {tk : Tok} {os : OsState} (a : Addr) (vs : List Value) (n k : Nat) (t : Tok) (e1 : o = .ref a) (e2 : uv = .int (k : Nat) t) (cx : Cx P f g s₀ B₀ B mu h gs os)
      (hB : B a = some (tupO vs n)) (hk : k < vs.length) (hz : vs.length ≤ 1000) (q : ∀ D h' B', B.le B' → B' D = some (tupO (vs.take k) 0) → Cx P f g s₀ B₀ B' mu h' gs os → Q (.ref D) ⟨h', gs, dr, tk, os⟩) : TtoQ Q o uv ⟨h, gs, dr, tk, os⟩
/-- tuple[:a] -/
theorem sub_tto {value u : Expr} {p pos : Pos} (h : wpAny (model prg w) A (eval value env) (fun o s₁ => wpAny (model prg w) A (eval u env) (fun uv s₂ => TtoQ Q o uv s₂) E s₁) E s) :
    wpAny (model prg w) A (eval (.Subscript value (.Slice none (some u) none p) pos) env) Q E s := by
  refine ev_sub (T := "tuple") (wpAny_mono h (fun o s₁ h₀ => wpAny_Slice (wpAny_pure (wpAny_mono h₀ (fun uv s₂ h₂ => wpAny_pure ?_) fun _ _ x => x))) fun _ _ x => x) slot_tuple_getitem.lookup
  obtain @⟨P, f, g, s₀, B₀, B, mu, h, gs, dr, tk, os, a, vs, n, k, t, rfl, rfl, cx, hB, hk, hz, kk⟩ := h₂
  obtain ⟨ops, hops⟩ := sub_slice (l := none) (u := some u) (st := none) (p := p) (o := .ref a) (i := .ref h.objs.size)
  have c1 := cx.push { cls := .type "slice", data := .fields #[.none, .int (k : Nat) t, .none] }
  have hT : IsTup (h.push { cls := .type "slice", data := .fields #[.none, .int (k : Nat) t, .none] }) a vs.toArray := ⟨_, c1.sit.inB _ _ hB, rfl, n, rfl⟩
  refine ⟨ops, hT.typeIs (s := ⟨h.push { cls := .type "slice", data := .fields #[.none, .int (k : Nat) t, .none] }, gs, dr, tk, os⟩), hops, getItem_tuple_to hT (Heap.IsSliceOf.new ..) (by simpa using hk) (by simpa using hz) ?_⟩
  refine kk _ _ _ (FM.le_put (c1.sit.none_of (get_size _))) ?_ (c1.pushB _)
  rw [FM.put_self]
/-- what list[-1] asks -/
inductive LastQ (Q : Value → Shared → Prop) (o i : Value) (s : Shared) : Prop
  | mk (a : Addr) (vs : List Value) (t : Tok) (x : Value) (e1 : o = .ref a) (e2 : i = .int (-1) t) (h1 : s.heap.IsList a (List.toArray vs)) (h2 : vs ≠ []) (h3 : vs.getLast? = some x) (h4 : Q x s) : LastQ Q o i s
/-- list[-1] -/
theorem sub_last {value slice : Expr} {pos : Pos} (hs : isSlice slice = false) (h : wpAny (model prg w) A (eval value env) (fun o s₁ => wpAny (model prg w) A (eval slice env) (fun i s₂ => LastQ Q o i s₂) E s₁) E s) :
    wpAny (model prg w) A (eval (.Subscript value slice pos) env) Q E s :=
  ev_sub (T := "list") (wpAny_mono h (fun o s₁ h₁ => wpAny_mono h₁ (fun i s₂ hz => by
    obtain ⟨a, vs, t, x, e1, e2, h1, h2, h3, h4⟩ := hz
    subst e1 e2
    have hl : 0 < vs.length := List.length_pos_iff.mpr h2
    refine ⟨_, h1.typeIs, sub_plain hs, wpAny_getItem_list_neg h1 (by decide) (by rw [List.size_toArray]; omega) (by decide) ?_ h4⟩
    rw [List.getLast?_eq_getElem?] at h3
    rw [List.getElem?_toArray, List.size_toArray, show (-1 + (vs.length : Int)).toNat = vs.length - 1 from by omega]
    exact h3) fun _ _ x => x) fun _ _ x => x) slot_list_getitem.lookup
end
end Mine
end
section
open PySem PySem.W PyProof.Rows
set_option Elab.async false
set_option maxRecDepth 100000
set_option maxHeartbeats 4000000
set_option linter.unusedVariables false
namespace Mine
structure RowOk (r : Row) : Prop where
  c2 : r.c2.length = 2
  e : EntOk r.e
  cs : r.e.cs.length ≤ 100
def mergeZ (ks : List (Int × Int)) (kept : List Row) (r : Row) : List Row := match kept.getLast? with
  | some l => if cmpZ ks l r = 0 then kept.dropLast ++ [{ l with e := addE l.e r.e }] else kept ++ [r]
  | none => kept ++ [r]
/-- a TupleComp's keys -/
structure TcK (B : FM) (tc : Addr) (ks : List (Int × Int)) : Prop where
  h : ∃ ka kvs n, TcB B tc (.ref ka) ∧ B ka = some (lstO kvs n) ∧ Reps B kvs (ks.map keyD)
  col : ∀ p ∈ ks, p.1 = 0 ∨ p.1 = 1 ∨ p.1 = 2
  len : ks.length ≤ 100
theorem TcK.le {B B' : FM} {tc : Addr} {ks : List (Int × Int)} (x : TcK B tc ks) (h : B.le B') : TcK B' tc ks :=
  ⟨let ⟨ka, kvs, n, b, c, d⟩ := x.h; ⟨ka, kvs, n, b.le h, h _ _ c, d.le h⟩, x.col, x.len⟩
theorem Reps.last {B : FM} {vs : List Value} {ks : List Row} (h : Reps B vs (ks.map Row.d)) {l : Row} (e : ks.getLast? = some l) : ∃ x, vs.getLast? = some x ∧ Rep B x l.d := by
  rw [List.getLast?_eq_getElem?] at e
  obtain ⟨x, e1, e2⟩ := h.get (i := ks.length - 1) (d := l.d) (by rw [List.getElem?_map, e]; rfl)
  refine ⟨x, ?_, e2⟩
  rw [List.getLast?_eq_getElem?, h.length, List.length_map]; exact e1
theorem Reps.dropLast {B : FM} {vs : List Value} {ks : List Row} (h : Reps B vs (ks.map Row.d)) : Reps B vs.dropLast (ks.dropLast.map Row.d) := by
  rw [List.dropLast_eq_take, List.dropLast_eq_take, List.map_take, h.length, List.length_map]
  exact h.take _
section
variable {w : World} {P : Params} {f g : Bool} {s₀ s : Shared} {B₀ B : FM} {mu : MU} {A : Around} {E : Value → Shared → Prop} {env : Env} {Q : Value → Shared → Prop}
theorem ev_neg1 {pos p2 : Pos} {k : Nat} {Q : Value → Shared → Prop} (h : ∀ t tk, Q (.int (-1) t) { s with toks := tk }) : wpAny (model prg w) A (eval (.UnaryOp .USub (.Constant (.int 1) k p2) pos) env) Q E s :=
  wpAny_UnaryOp (eI fun t tk => PySem.P.neg_int (h _ _))

theorem merge_spec {fm tc kl : Addr} {ks : List (Int × Int)} {vs : List Value} {m : Nat} {kept : List Row} {rv : Value} {r : Row} (S : Sit P false g B s.heap s.gens) (hA : AOk 20 A) (M : MgB B fm tc) (T : TcK B tc ks)
    (hl : B kl = some (lstO vs m)) (hvs : Reps B vs (kept.map Row.d)) (hr : Rep B rv r.d) (ok : ∀ x ∈ kept, RowOk x) (okr : RowOk r) (hlen : kept.length ≤ 100)
    (k : ∀ D vs' m' s' B', Mv B B' s s' → Sit P false g B' s'.heap s'.gens → B' D = some (lstO vs' m') → Reps B' vs' ((mergeZ ks kept r).map Row.d) → Q (.ref D) s') : wpAny (model prg w) A (call (.ref fm) [.ref kl, rv]) Q E s := by
  obtain ⟨cm, cc, oc, dM, hcc, hoc⟩ := M
  obtain ⟨⟨ka, kvs, n, hT, hka, hks⟩, hcol, hkl⟩ := T
  refine call_def S hA dM (bind_pure (binds := [("kept", .ref kl), ("row", rv)]) (by rfl)) (.loc rfl (.loc rfl .nil)) fun h' tk cx => ?_
  generalize s.heap.objs.size = L at cx ⊢
  have hA1 : AOk 19 (A.deeper (envD mgQ mgSc [("comp", cc)] fm cm L)) := hA.deeper
  have cx1 : Cx P false g s B B [(L, NsP [("kept", .ref kl), ("row", rv)])] h' s.gens s.os := cx
  clear cx
  have hvl : vs.length = kept.length := by rw [hvs.length, List.length_map]
  have tail : ∀ h4 tk4 B4 gs4 os4 dr4, B.le B4 → Cx P false g s B B4 [(L, NsP [("kept", .ref kl), ("row", rv)])] h4 gs4 os4 → mergeZ ks kept r = kept ++ [r] → (∀ v s', Q v s' → Q v s') →
      wpAny (model prg w) (A.deeper (envD mgQ mgSc [("comp", cc)] fm cm L)) (execs (mgBody.drop 1) (envD mgQ mgSc [("comp", cc)] fm cm L)) (fun fl s' => Q (retv fl) s') (fun _ _ => False) ⟨h4, gs4, dr4, tk4, os4⟩ := fun h4 tk4 B4 gs4 os4 dr4 hle4 cx4 hm _ => by
    refine wpAny_execs_cons (wpAny_Return_some (wpAny_BinOp (ld_local (s := ⟨h4, gs4, dr4, tk4, os4⟩) cx4 (.head _) rfl ?_)))
    refine ev_list rfl (ld_local (s := ⟨h4, gs4, dr4, tk4, os4⟩) cx4 (.head _) rfl ?_)
    refine nLst cx4 (by simp) fun b h5 B5 hle5 hb cx5 => ?_
    refine addL cx5 (hle5 _ _ (hle4 _ _ hl)) hb (by simp; omega) fun c h6 B6 hle6 hc cx6 => ?_
    have hle := hle4.trans (hle5.trans hle6)
    refine k c _ _ _ B6 (Cx.mv (s' := ⟨h6, gs4, dr4, tk4, os4⟩) cx6) cx6.sit hc ?_
    rw [hm, List.map_append]
    exact (hvs.le hle).app (.cons (hr.le hle) .nil)
  refine wpAny_execs_cons (wpAny_If (wpAny_isTrue_BoolOp (wpAny_allTrue_And_cons (wpAny_isTrue_value (ld_local (s := { s with heap := h', toks := tk }) cx1 (.head _) rfl ?_)))))
  refine wpAny_truthy_list (s := { s with heap := h', toks := tk }) (items := vs.toArray) (isList_of cx1.sit.inB hl) (by rw [List.size_toArray]; omega) ?_
  cases hlast : kept.getLast? with
  | none =>
    have hk0 : kept = [] := List.getLast?_eq_none_iff.mp hlast
    have hv0 : vs = [] := List.eq_nil_of_length_eq_zero (by rw [hvl, hk0]; rfl)
    subst hv0
    refine wpAny_execs_nil ?_
    exact tail h' _ B _ _ _ (FM.le.refl _) cx1 (by unfold mergeZ; rw [hlast]) fun _ _ q => q
  | some l =>
    obtain ⟨x, hx, hxl⟩ := hvs.last hlast
    have hvn : vs ≠ [] := by rintro rfl; cases hx
    have okl : RowOk l := ok l (List.mem_of_getLast? hlast)
    have hne : (!vs.toArray.isEmpty) = true := by cases vs with | nil => exact absurd rfl hvn | cons _ _ => rfl
    rw [hne]
    refine wpAny_allTrue_And_cons (wpAny_isTrue_Compare1 ?_)
    refine ev_cmp (ld_freeB (c := cc) (s := { s with heap := h', toks := _ }) cx1.sit (by rfl) hcc hoc ?_) rfl
    refine ⟨tc, _, P, false, g, B, rfl, cx1.sit, hT, ?_⟩
    refine sub_last rfl (ld_local (s := { s with heap := h', toks := _ }) cx1 (.head _) rfl (ev_neg1 fun t1 tk1 => ⟨kl, vs, t1, x, rfl, rfl, isList_of cx1.sit.inB hl, hvn, hx, ?_⟩))
    refine ld_local (s := { s with heap := h', toks := tk1 }) cx1 (.head _) rfl ⟨⟨P, false, g, B, cx1.sit⟩, wpAny_call ?_⟩
    refine compare_code (s := { s with heap := h', toks := tk1 }) cx1.sit (hA1.less (by decide)) hT hka hks hcol hkl (rowC_of hxl) (rowC_of hr) (by rw [okl.c2, okr.c2]) fun t2 s2 B2 mv2 S2 => ?_
    have cx2 := cx1.call (s := { s with heap := h', toks := tk1 }) mv2 S2
    refine eI fun t3 tk3 => PySem.P.eq_int (wpAny_truthy_bool ?_)
    cases hz : (cmpZ ks l r == 0) with
    | false =>
      have hz' : cmpZ ks l r ≠ 0 := by simpa using hz
      first | refine ifF ?_ | refine wpAny_ite_false rfl ?_ | rw [if_neg (by decide)]
      refine wpAny_execs_nil ?_
      exact tail s2.heap tk3 B2 s2.gens s2.os s2.drawn mv2.le cx2 (by unfold mergeZ; rw [hlast]; exact if_neg hz') fun _ _ q => q
    | true =>
      have hz' : cmpZ ks l r = 0 := by simpa using hz
      first | refine ifT ?_ | refine wpAny_ite_true rfl ?_ | rw [if_pos rfl]
      refine wpAny_allTrue_And_nil ?_
      have hm : mergeZ ks kept r = kept.dropLast ++ [{ l with e := addE l.e r.e }] := by unfold mergeZ; rw [hlast]; exact if_pos hz'
      rw [hm] at k
      obtain ⟨a0, w0, w1, w2, w3, n0, rfl, hB0, r0, r1, r2, r3⟩ := rowC_of hxl
      obtain ⟨b0, y0, y1, y2, y3, m0, rfl, hC0, q0, q1, q2, q3⟩ := rowC_of hr
      refine wpAny_execs_cons (wpAny_Return_some (absQ fun KQ hQ => wpAny_BinOp ?_))
      refine subS (ld_local (s := { s2 with toks := tk3 }) cx2 (.head _) rfl ?_)
      refine wpAny_pure (ev_neg1 fun t4 tk4 => wpAny_pure ⟨kl, vs, none, some (-1), none, rfl, cx2, isList_of cx2.sit.inB (mv2.le _ _ hl), by omega, .none, .int _ _, .none, by simp, fun D5 h5 B5 hle5 hD5 cx5 => ?_⟩)
      have hpick : (slicePick vs.toArray none (some (-1)) none).toList = vs.dropLast := by
        have := slicePick_butLast vs.toArray 1 (by decide)
        rw [show ((-((1 : Nat) : Int))) = -1 from rfl] at this
        rw [this]; simp [List.dropLast_eq_take]
      rw [hpick] at hD5
      have l25 : B.le B5 := mv2.le.trans hle5
      refine ev_list rfl (wpAny_BinOp ?_)
      refine sub_tto (s := { s2 with heap := h5, toks := _ }) (sub_last rfl (ld_local (s := { s2 with heap := h5, toks := _ }) cx5 (.head _) rfl (ev_neg1 fun t6 tk6 => ⟨kl, vs, t6, _, rfl, rfl, isList_of cx5.sit.inB (l25 _ _ hl), hvn, hx, ?_⟩)))
      refine eI fun t7 tk7 => ⟨a0, [w0, w1, w2, w3], n0, 3, t7, rfl, rfl, cx5, l25 _ _ hB0, by simp, by simp, fun D8 h8 B8 hle8 hD8 cx8 => ?_⟩
      have l28 : B.le B8 := l25.trans hle8
      refine ev_tuple rfl (ev_call rfl rfl (ldG (s := { s2 with heap := h8, toks := tk7 }) cx8.sit (glob_afs P) ?_))
      refine subT rfl (sub_last rfl (ld_local (s := { s2 with heap := h8, toks := tk7 }) cx8 (.head _) rfl (ev_neg1 fun t9 tk9 => ⟨kl, vs, t9, _, rfl, rfl, isList_of cx8.sit.inB (l28 _ _ hl), hvn, hx, ?_⟩)))
      refine eI fun t10 tk10 => ⟨a0, [w0, w1, w2, w3], 3, t10, w3, rfl, rfl, isTup_of cx8.sit.inB (l28 _ _ hB0), by decide, by decide, rfl, ?_⟩
      refine subT rfl (ld_local (s := { s2 with heap := h8, toks := tk10 }) cx8 (.head _) rfl (eI fun t11 tk11 => ⟨b0, [y0, y1, y2, y3], 3, t11, y3, rfl, rfl, isTup_of cx8.sit.inB (l28 _ _ hC0), by decide, by decide, rfl, ?_⟩))
      refine ⟨keep_fn (cx8.sit.at (a := 49) (o := k1o P 49) (by kernel_rfl) (notTab rfl)) (fd := fdOf P 49) (by kernel_rfl), ?_⟩
      refine afs_spec (s := { s2 with heap := h8, toks := tk11 }) cx8.sit (hA1.less (by decide)) (r3.le l28) (q3.le l28) okl.e okr.e okl.cs okr.cs fun D12 s12 B12 mv12 S12 hD12 => ?_
      have cx12 := cx8.call (s := { s2 with heap := h8, toks := tk11 }) mv12 S12
      refine nTup cx12 (by simp) fun T13 h13 B13 hle13 hT13 cx13 => ?_
      refine addT cx13 (hle13 _ _ (mv12.le _ _ hD8)) hT13 (by simp) (by simp) (by simp) fun c14 h14 B14 hle14 hc14 cx14 => ?_
      refine nLst cx14 (by simp) fun b15 h15 B15 hle15 hb15 cx15 => ?_
      have l8_15 : B8.le B15 := mv12.le.trans (hle13.trans (hle14.trans hle15))
      have hlvd : vs.dropLast.length ≤ 100 := by rw [List.length_dropLast]; omega
      refine addL cx15 (l8_15 _ _ (hle8 _ _ hD5)) hb15 (by simp; omega) fun c16 h16 B16 hle16 hc16 cx16 => ?_
      have lall : B.le B16 := l28.trans (l8_15.trans hle16)
      refine hQ _ _ (k c16 _ _ _ B16 (Cx.mv (s' := { s12 with heap := h16 }) cx16) cx16.sit hc16 ?_)
      rw [List.map_append]
      refine (hvs.dropLast.le lall).app (.cons ?_ .nil)
      exact .tup (hle16 _ _ (hle15 _ _ hc14)) (.cons (r0.le lall) (.cons (r1.le lall) (.cons (r2.le lall) (.cons (hD12.le (hle13.trans (hle14.trans (hle15.trans hle16)))) .nil))))
end
end Mine
end
section
open PySem PySem.W PyProof.Rows
set_option Elab.async false
set_option maxRecDepth 100000
set_option maxHeartbeats 4000000
set_option linter.unusedVariables false
namespace Mine
local macro_rules | `(tactic| walk_at "mqlk") => `(tactic| first | assumption | exact lk_same _ _ _ | (refine lk_other (by decide) ?_; walk_at "mqlk") | rfl)
section
variable {w : World} {P : Params} {f g : Bool} {s₀ s : Shared} {B₀ B : FM} {mu : MU} {A : Around} {E : Value → Shared → Prop} {env : Env} {Q : Value → Shared → Prop}
theorem call_iter {a : Addr} {vs : List Value} {n : Nat} (cx : Cx P f g s₀ B₀ B mu s.heap s.gens s.os) (hh : A.handled = none) (hB : B a = some (lstO vs n))
    (k : ∀ I st h', Src w A B I vs.length (fun i v => vs[i]? = some v) st → Cx P f g s₀ B₀ B ((I, st 0) :: mu) h' s.gens s.os → Q (.ref I) { s with heap := h' }) : wpAny (model prg w) A (call (.builtin "iter") [.ref a]) Q E s := by
  have hl := isList_of cx.sit.inB hB
  refine Calls.call_function_entry (by decide +kernel) (by decide +kernel) kdk_entry_iter (kdk_args_iter _) ?_
  unfold Builtin.«iter»
  refine wpAny_bind (m := someArgs "iter" 1 2 _) (wpAny_of_eq (a := [Value.ref a]) (by first | rfl | kernel_rfl!) ?_)
  refine wpAny_bind (m := pyIter (.ref a)) (wpAny_pyIter_list hl (wpAny_pure ⟨_, rfl, ?_⟩))
  have hI : B s.heap.objs.size = none := cx.sit.none_of (get_size _)
  have hne : a ≠ s.heap.objs.size := fun q => by rw [q, hI] at hB; cases hB
  have W := src_of_walks (B := B) (Walks.list (prog := prg) (w := w) hh s.heap.objs.size a hne vs.toArray) hI (fun b hb => by
    rcases List.mem_cons.mp hb with h | h
    · exact .inl h
    · rw [List.mem_singleton.mp h]; exact .inr ⟨_, hB⟩) (fun i h ⟨⟨o, ho, hc, _⟩, _⟩ => ⟨o, _, ho, hc, by decide⟩)
  have e1 : vs.toArray.size = vs.length := by simp
  rw [e1] at W
  have W' : Src w A B s.heap.objs.size vs.length (fun i v => vs[i]? = some v) _ := ⟨fun i s' Q' E' a1 a2 a3 a4 => W.item i s' Q' E' a1 a2 a3 fun v h' tk hv => a4 v h' tk (by simpa using hv), W.done, W.self, W.goes⟩
  refine k _ _ _ W' (cx.pushMu ⟨⟨_, Heap.get?_push_size s.heap rfl, ⟨_, Heap.get?_push_size _ rfl, rfl, rfl⟩, hl.push _⟩, fun h e hb => ⟨⟨_, e, rfl, rfl⟩, isList_of hb hB⟩⟩)

theorem k1_65 (P : Params) : (K1 P).lookup 65 = some (tupO [.ref 64] 0) := by kernel_rfl
theorem k1_64 (P : Params) : (K1 P).lookup 64 = some (k1o P 64) := by kernel_rfl
theorem k1_64c (P : Params) : (k1o P 64).cls = .type "object" := by kernel_rfl
theorem bind_reduce {a b c : Value} {Q' : List (Str × Value) → Shared → Prop} {E' : Value → Shared → Prop} (S : Sit P f g B s.heap s.gens) (q : Q' [("function", a), ("sequence", b), ("initial", c)] s) :
    wpAny (model prg w) A (bindArgs (sigD (nameAt 7) (parAt 7) (.ref 65)) ⟨[a, b, c], []⟩) Q' E' s := by
  show wpAny _ _ (seqItems? (.ref 65) >>= _) _ _ _
  refine wpAny_bind (wpAny_seqItems (S.at (k1_65 P) (notTab rfl)) rfl ?_)
  exact wpAny_of_eq (a := [(("function" : Str), a), ("sequence", b), ("initial", c)]) (by kernel_rfl) q
theorem merge_len (ks : List (Int × Int)) (kept : List Row) (r : Row) : (mergeZ ks kept r).length ≤ kept.length + 1 := by
  unfold mergeZ
  cases kept.getLast? with
  | none => simp
  | some l =>
    dsimp only
    split
    · simp only [List.length_append, List.length_dropLast, List.length_cons, List.length_nil]; omega
    · simp
theorem mfold_len (ks : List (Int × Int)) (rows : List Row) : ∀ kept : List Row, (rows.foldl (mergeZ ks) kept).length ≤ kept.length + rows.length := by
  induction rows with
  | nil => intro kept; simp
  | cons r l ih => intro kept; have := ih (mergeZ ks kept r); have h2 := merge_len ks kept r; simp only [List.foldl_cons, List.length_cons]; omega
theorem glob_im' (P : Params) : GlobIs P "_initial_missing" (.ref 64) := glob_im P

theorem reduce_spec {fm tc sl il : Addr} {ks : List (Int × Int)} {vs : List Value} {n m : Nat} {rows : List Row} (S : Sit P false g B s.heap s.gens) (hA : AOk 24 A) (M : MgB B fm tc) (T : TcK B tc ks)
    (hl : B sl = some (lstO vs n)) (hvs : Reps B vs (rows.map Row.d)) (hi : B il = some (lstO [] m)) (ok : ∀ i, ∀ x ∈ (rows.take i).foldl (mergeZ ks) [], RowOk x) (okr : ∀ x ∈ rows, RowOk x) (hlen : rows.length ≤ 50)
    (k : ∀ D vs' m' s' B', Mv B B' s s' → Sit P false g B' s'.heap s'.gens → B' D = some (lstO vs' m') → Reps B' vs' ((rows.foldl (mergeZ ks) []).map Row.d) → Q (.ref D) s') : wpAny (model prg w) A (call (.ref 72) [.ref fm, .ref sl, .ref il]) Q E s := by
  refine call_def S hA (def_reduce S.stat) (binds := [("function", .ref fm), ("sequence", .ref sl), ("initial", .ref il)]) (fun Q' E' q => bind_reduce S q) (.loc rfl (.loc rfl (.loc rfl .nil))) fun h' tk cx => ?_
  generalize s.heap.objs.size = L at cx ⊢
  have hA1 : AOk 23 (A.deeper (envD (nameAt 7) (scAt 7) [] 72 71 L)) := hA.deeper
  have cx1 : Cx P false g s B B [(L, NsP [("function", .ref fm), ("sequence", .ref sl), ("initial", .ref il)])] h' s.gens s.os := cx
  clear cx
  have hvl : vs.length = rows.length := by rw [hvs.length, List.length_map]
  refine wpAny_execs_cons (wpAny_Assign_Name (ev_call rfl rfl (ldB (s := { s with heap := h', toks := tk }) cx1.sit (blt_iter P) (ld_local (s := { s with heap := h', toks := tk }) cx1 (.head _) rfl ⟨keep_builtin _, ?_⟩))))
  refine call_iter (s := { s with heap := h', toks := tk }) cx1 hA1.handled hl fun I st h2 W cx2 => ?_
  refine stL (cx2.perm (List.Perm.swap ..)) rfl fun h3 tk3 cx3 => ?_
  refine wpAny_execs_cons (wpAny_If (wpAny_isTrue_Compare1 (ld_local (s := { s with heap := h3, toks := tk3 }) cx3 (.head _) (by walk_at "mqlk") (ldG (s := { s with heap := h3, toks := tk3 }) cx3.sit (glob_im P) ?_))))
  have o64 := cx3.sit.at (k1_64 P) (notTab rfl)
  have oil := cx3.sit.inB _ _ hi
  have ne64 : il ≠ 64 := fun q => by
    rw [q, o64] at oil
    have := k1_64c P
    rw [Option.some.inj oil] at this; simp at this
  refine wpAny_is_ref_other ne64 oil o64 (by simp) (wpAny_truthy_bool ?_)
  refine wpAny_execs_cons (wpAny_Assign_Name (ld_local (s := { s with heap := h3, toks := tk3 }) cx3 (.head _) (by walk_at "mqlk") ?_))
  refine stL cx3 rfl fun h4 tk4 cx4 => wpAny_execs_nil ?_
  refine wpAny_execs_cons (wpAny_For (ld_local (s := { s with heap := h4, toks := tk4 }) cx4 (.head _) (by walk_at "mqlk") ?_))
  have cx5 := cx4.perm (List.Perm.swap ..)
  refine W.self 0 { s with heap := h4, toks := tk4 } _ _ cx4.sit.inB (cx5.mus _ (.head _)) ?_
  refine for_cx (s := { s with heap := h4, toks := tk4 }) W (fun i B' mu => B.le B' ∧ ∃ l D vs' m', mu = [(L, NsP l)] ∧ has l "function" (.ref fm) ∧ has l "value" (.ref D) ∧ B' D = some (lstO vs' m') ∧ Reps B' vs' (((rows.take i).foldl (mergeZ ks) []).map Row.d)) (FM.le.refl _) cx5
    ⟨FM.le.refl _, _, il, [], m, rfl, ?_, ?_, hi, .nil⟩ ?_ ?_
  · show List.lookup _ _ = _; walk_at "mqlk"
  · show List.lookup _ _ = _; walk_at "mqlk"
  · intro i v B6 mu st' s6 hi6 hv hy6 _ cx6
    refine absF fun K1 hK1 => ?_
    obtain ⟨hle6, l, D, vs', m', rfl, hl1, hl2, hD, hR⟩ := hy6
    obtain ⟨r, hr1⟩ : ∃ r, rows[i]? = some r := ⟨_, List.getElem?_eq_getElem (by omega)⟩
    obtain ⟨v', hv', hrep⟩ := hvs.get (i := i) (d := r.d) (by rw [List.getElem?_map, hr1]; rfl)
    rw [hv] at hv'
    cases hv'
    have cx7 : Cx P false g s B B6 [(L, NsP l), (I, st')] s6.heap s6.gens s6.os := cx6.perm (List.Perm.swap ..)
    refine wpAny_assign_Name (stL cx7 rfl fun h8 tk8 cx8 => ?_)
    refine wpAny_execs_cons (wpAny_Assign_Name (ev_call rfl rfl (ld_local (s := { s6 with heap := h8, toks := tk8 }) cx8 (.head _) (by walk_at "mqlk") ?_)))
    refine ld_local (s := { s6 with heap := h8, toks := tk8 }) cx8 (.head _) (by walk_at "mqlk") (ld_local (s := { s6 with heap := h8, toks := tk8 }) cx8 (.head _) (by walk_at "mqlk") ?_)
    have M8 := M.le hle6
    have kp : KeepOk (model prg w) (.ref fm) h8 := by
      obtain ⟨cm, cc, oc, ⟨fd, ⟨⟨o, e1, e2, e3⟩, _⟩, _⟩, _⟩ := M8
      exact keep_fn (cx8.sit.inB _ _ e1) e3
    refine ⟨kp, ?_⟩
    have hkl : ((rows.take i).foldl (mergeZ ks) []).length ≤ 100 := by
      have := mfold_len ks (rows.take i) []
      rw [List.length_take] at this
      simp only [List.length_nil] at this; omega
    refine merge_spec (s := { s6 with heap := h8, toks := tk8 }) cx8.sit (hA1.less (by decide)) M8 (T.le hle6) hD hR (hrep.le hle6) (ok i) (okr r (List.mem_of_getElem? hr1)) hkl fun D9 vs9 m9 s9 B9 mv9 S9 hD9 hR9 => ?_
    have cx9 := cx8.call (s := { s6 with heap := h8, toks := tk8 }) mv9 S9
    refine stL cx9 rfl fun h10 tk10 cx10 => ?_
    refine wpAny_execs_nil (hK1 _ _ ⟨B9, [(L, NsP _)], ⟨hle6.trans mv9.le, _, D9, vs9, m9, rfl, ?_, ?_, hD9, ?_⟩, mv9.le, cx10.perm (List.Perm.swap ..)⟩)
    · show List.lookup _ _ = _; walk_at "mqlk"
    · show List.lookup _ _ = _; walk_at "mqlk"
    · rw [take_foldA _ _ _ hr1]; exact hR9
  · rintro B6 mu s6 ⟨hle6, l, D, vs', m', rfl, hl1, hl2, hD, hR⟩ _ cx6
    rw [hvl, List.take_length] at hR
    refine wpAny_execs_cons (wpAny_Return_some (ld_local cx6 (.head _) hl2 ?_))
    exact k D vs' m' s6 B6 cx6.mv cx6.sit hD hR
end
end Mine
end
section
open PySem PySem.W PyProof.Rows
set_option Elab.async false
set_option maxRecDepth 100000
set_option maxHeartbeats 4000000
set_option linter.unusedVariables false
namespace Mine
section
variable {w : World} {P : Params} {f g : Bool} {s₀ s : Shared} {B₀ B : FM} {mu : MU} {A : Around} {E : Value → Shared → Prop} {env : Env} {Q : Value → Shared → Prop}
/-- a call with one argument and one keyword -/
theorem ev_call_key {func e ke : Expr} {name : Str} {pos kp : Pos} {M : Model} (hf : notAttr func = true)
    (h : wpAny M A (eval func env) (fun fv s₁ => wpAny M A (eval e env) (fun v s₂ => wpAny M A (eval ke env) (fun kv s₃ => KeepOk M fv s₃.heap ∧ wpAny M A (call fv [v] [(name, kv)]) Q E s₃) E s₂) E s₁) E s)
    (hn : noStar [e] = true := by rfl) :
    wpAny M A (eval (.Call func [e] [⟨some name, ke, kp⟩] pos) env) Q E s := by
  rw [eval_call hf]
  refine wpAny_bind (wpAny_mono h (fun fv s₁ h₁ => ?_) fun _ _ x => x)
  have hs : starEach [e] env = (false, eval e env) :: starEach [] env := by cases e <;> first | rfl | cases hn
  have h2 : wpAny M A (spliced (backTo pos (starEach [e] env))) (fun vs s₂ => wpAny M A (evalAll ((backToKw pos (keywordEach [⟨some name, ke, kp⟩] env)).map (·.2))) (fun ks s₃ => KeepOk M fv s₃.heap ∧ wpAny M A (call fv ([] ++ vs) (((backToKw pos (keywordEach [⟨some name, ke, kp⟩] env)).filterMap (·.1)).zip ks)) Q E s₃) E s₂) E s₁ := by
    refine spliced_all hn (wpAny_mono h₁ (fun v s₂ h₂ => ?_) fun _ _ x => x)
    exact kwAll_cons (wpAny_mono h₂ (fun kv s₃ h₃ => kwAll_nil h₃) fun _ _ x => x)
  refine callWith_of (P := fun h => KeepOk M fv h) (by rw [hs]; rfl) (fun _ x => x) ?_
  exact evalArgs_kw2 (by rfl) h2 hs
/-- x.attr for any x that is no super() -/
theorem ev_attr {o : Expr} {attr : Str} {pos : Pos} (h : wpAny (model prg w) A (eval o env) (fun ov s₁ => wpAny (model prg w) A (getAttr ov attr true) Q E s₁) E s) (hbase : attributeBase o attr env (eval o env) = eval o env := by rfl) :
    wpAny (model prg w) A (eval (.Attribute o attr pos) env) Q E s := by
  rw [arm_eval_Attribute, hbase]
  refine wpAny_bind (wpAny_mono h (fun ov s₁ h₁ => wpAny_bind (wpAny_standAt (wpAny_bind (wpAny_holding (wpAny_mono h₁ (fun r s₂ h₂ => ?_) fun _ _ x => x))))) fun _ _ x => x)
  exact wpAny_bind (wpAny_letTemporaryGo (wpAny_pure h₂))
/-- list(tuple) -/
theorem call_list_t {a : Addr} {vs : List Value} {n : Nat} (cx : Cx P f g s₀ B₀ B mu s.heap s.gens s.os) (hB : B a = some (tupO vs n)) (hz : vs.length ≤ 1000)
    (k : ∀ D c h' tk B', B.le B' → B' D = some (lstO vs c) → Cx P f g s₀ B₀ B' mu h' s.gens s.os → Q (.ref D) { s with heap := h', toks := tk }) : wpAny (model prg w) A (call (.type "list") [.ref a]) Q E s := by
  refine call_list_seq a (T := "tuple") (.inr rfl) (cx.sit.inB _ _ hB) rfl rfl (fun h' c' hk hD => ?_) (by rw [List.size_toArray, sizeLine_eq]; omega)
  exact k _ c' h' s.toks _ (FM.le_put (cx.sit.none_of (get_size _))) (FM.put_self ..) (cx.newB (get_size _) hk hD)

/-- all that is new is frozen -/
def FM.plus (B : FM) (h h' : Heap) : FM := fun a => match B a with
  | some o => some o
  | none => if h.get? a = none then h'.get? a else none
theorem plus_old {B : FM} {h h' : Heap} {a : Addr} {o : Obj} (e : B a = some o) : B.plus h h' a = some o := by unfold FM.plus; rw [e]
theorem plus_new {B : FM} {h h' : Heap} {a : Addr} (e : B a = none) (e2 : h.get? a = none) : B.plus h h' a = h'.get? a := by unfold FM.plus; rw [e, if_pos e2]
theorem plus_cases {B : FM} {h h' : Heap} {a : Addr} {o : Obj} (e : B.plus h h' a = some o) : B a = some o ∨ (B a = none ∧ h.get? a = none ∧ h'.get? a = some o) := by
  unfold FM.plus at e
  cases q : B a with
  | some o' => rw [q] at e; exact .inl e
  | none =>
    rw [q] at e
    by_cases h2 : h.get? a = none
    · exact .inr ⟨rfl, h2, by simpa [h2] using e⟩
    · simp [h2] at e
theorem Cx.growB {h h' : Heap} {gs : Array GenState} {os : OsState} (x : Cx P f g s₀ B₀ B mu h gs os) (k : ∀ b o, h.get? b = some o → h'.get? b = some o) : B.le (B.plus h h') ∧ Cx P f g s₀ B₀ (B.plus h h') mu h' gs os := by
  have hle : B.le (B.plus h h') := fun a o e => plus_old e
  have y := x.grow k
  refine ⟨hle, ⟨fun a o e => ?_, x.sit.stat.le hle, y.sit.tabs.keep hle fun _ _ _ e => e, fun a t => ?_, x.sit.bare⟩, y.ext, x.le.trans hle, fun a ha o e => ?_, x.os, x.tab0, y.mus, x.nd, fun p hp => ⟨(x.fresh p hp).1, ?_⟩⟩
  · rcases plus_cases e with e | ⟨_, _, e⟩
    · exact y.sit.inB a o e
    · exact e
  · obtain ⟨o, e⟩ := x.sit.tabs.there t
    cases q : B.plus h h' a with
    | none => rfl
    | some o' =>
      rcases plus_cases q with e2 | ⟨_, e2, _⟩
      · rw [x.sit.tabB a t] at e2; cases e2
      · rw [e] at e2; cases e2
  · rcases plus_cases e with e | ⟨_, e2, _⟩
    · exact x.new a ha o e
    · exact x.old_none e2
  · obtain ⟨o, e, _⟩ := x.mus p hp
    cases q : B.plus h h' p.1 with
    | none => rfl
    | some o' =>
      rcases plus_cases q with e2 | ⟨_, e2, _⟩
      · rw [(x.fresh p hp).2] at e2; cases e2
      · rw [e] at e2; cases e2

theorem pairs_rep {B' : FM} {as : List Addr} {kvs : List (Int × Value)} {T : Tab4} (hK : RepK B' kvs (tabD T)) (hl : as.length = kvs.length)
    (hp : ∀ (j : Nat) (a : Addr), as[j]? = some a → ∃ k t x, kvs[j]? = some (k, x) ∧ B' a = some (tupO [.int k t, x] 0)) : Reps B' (as.map Value.ref) (T.map fun p => D.tup [.int p.1, fourD p.2]) := by
  induction T generalizing kvs as with
  | nil =>
    cases hK
    have : as = [] := List.eq_nil_of_length_eq_zero hl
    subst this; exact .nil
  | cons p T ih =>
    cases hK with
    | cons hx r =>
      cases as with
      | nil => simp at hl
      | cons a as =>
        obtain ⟨k, t, x, e1, e2⟩ := hp 0 a rfl
        cases e1
        exact .cons (.tup e2 (.cons (.int ..) (.cons hx .nil))) (ih r (by simpa using hl) fun j b hb => hp (j + 1) b hb)

/-- list(d.items()) -/
theorem list_items {o : Expr} {apos pos : Pos} {d : Addr} {T : Tab4} (cx : Cx P f g s₀ B₀ B mu s.heap s.gens s.os) (hh : A.handled = none) (hd : Rep B (.ref d) (.dct (tabD T))) (hz : T.length ≤ 1000)
    (hx : ∀ Q' : Value → Shared → Prop, (∀ tk, Q' (.ref d) { s with toks := tk }) → wpAny (model prg w) A (eval o env) Q' E s)
    (k : ∀ D c h' tk B' vs, B.le B' → B' D = some (lstO vs c) → Reps B' vs (T.map fun p => Mine.D.tup [.int p.1, fourD p.2]) → Cx P f g s₀ B₀ B' mu h' s.gens s.os → Q (.ref D) { s with heap := h', toks := tk })
    (hbase : attributeBase o "items" env (eval o env) = eval o env := by rfl) (hline : (apos.endLine == pos.line) = true := by rfl) :
    wpAny (model prg w) A (eval (.Call (.Attribute o "items" apos) [] [] pos) env) (fun r s₁ => wpAny (model prg w) A (call (.type "list") [r]) Q E s₁) E s := by
  cases hd with
  | dct hB hD hK hN =>
  rename_i od kvs
  have ho := cx.sit.inB _ _ hB
  obtain ⟨es, ep, r1, r2, r3, r4, r5⟩ := hD.h prg w
  have hm : s.heap.DictAt (intKind prg w) d kvs ep := ⟨od, es, ho, r1, r2, r3, r4, r5⟩
  have hkl : kvs.length = T.length := by have := hK.length; rw [tabD, List.length_map] at this; exact this
  refine ev_meth "dict" "dict.items" (hx _ fun tk => ⟨⟨d, od, rfl, ho, r1.1, r1.2.1⟩, ?_⟩) PySem.F.plainAttrs_dict PySem.F.slot_dict_items PySem.F.type_dict_items rfl hbase (by rfl) hline
  have hT : Shared.TypeIs { s with toks := tk } (.ref d) "dict" := hm.dictOf.typeIs
  refine wpAny_call_entry PySem.F.slot_dict_items hT PySem.F.entry_dict_items ?_ (PySem.F.args_dict_items_1 _)
  unfold Builtin.«dict.items»
  refine wpAny_bind ?_
  unfold Builtin.Dict.noArgs
  refine wpAny_bind (wpAny_notOrdered_dict hT ?_)
  show wpAny _ _ (pure d) _ _ _
  refine wpAny_pure ?_
  show wpAny _ _ (Builtin.Dict.showsAll d >>= _) _ _ _
  unfold Builtin.Dict.showsAll
  rw [if_neg (by rw [hN]; exact Bool.false_ne_true)]
  refine wpAny_bind (wpAny_pure (wpAny_bind (wpAny_newObj_type (wpAny_pure ⟨_, rfl, ?_⟩))))
  have c1 := cx.push { cls := .type "dict_items", data := .fields #[.ref d] }
  refine kdx_call (s := { s with heap := s.heap.push { cls := .type "dict_items", data := .fields #[.ref d] }, toks := tk }) (knd := intKind prg w) (d := d) (kvs := kvs) (ep := ep) hh ⟨_, Heap.get?_push_size _ rfl, rfl, rfl⟩ (hm.push _) (by rw [hkl, sizeLine_eq]; omega) fun h' tk2 acc c as hk hS hl hG hacc => ?_
  obtain ⟨hle, cx2⟩ := c1.growB hk
  have eacc : ({ cls := .type "list", dict := none, data := .seq acc c, slots := #[] } : Obj) = lstO (as.map Value.ref) c := by rw [← hacc]
  have nw : ∀ a, (s.heap.push { cls := .type "dict_items", data := .fields #[.ref d] }).objs.size ≤ a → ∀ o, h'.get? a = some o → B.plus (s.heap.push { cls := .type "dict_items", data := .fields #[.ref d] }) h' a = some o := fun a ha o e => by
    have h0 := Heap.get?_none_of_le (h := s.heap.push { cls := .type "dict_items", data := .fields #[.ref d] }) ha
    rw [plus_new (c1.sit.none_of h0) h0]; exact e
  refine k _ c h' tk2 _ (as.map Value.ref) hle (nw _ (Nat.le_refl _) _ (by rw [← eacc]; exact hS)) (pairs_rep (hK.le hle) hl fun j a hj => ?_) cx2
  obtain ⟨key, ky, x, e1, e2, e3⟩ := hG.pairs j a hj
  obtain ⟨t, rfl⟩ := Value.isInt_shape e2
  exact ⟨ky, t, x, e1, nw a (Nat.le_of_lt (hG.above a (List.mem_of_getElem? hj))) _ e3⟩
end
end Mine
end
section
open PySem PySem.W PyProof.Rows
set_option Elab.async false
set_option maxRecDepth 100000
set_option maxHeartbeats 4000000
set_option linter.unusedVariables false
namespace Mine
def row0 : Row := ⟨0, "", [], ⟨[], []⟩⟩
def rowAt (rows : List Row) (i : Nat) : Row := rows.getD i row0
def ltR (ks : List (Int × Int)) (rows : List Row) (i j : Nat) : Bool := decide (cmpZ ks (rowAt rows i) (rowAt rows j) < 0)
def orderZ (ks : List (Int × Int)) (rows : List Row) : List Nat := (runT (ltR ks rows) (kas_sort rows.length)).toList
def sortZ (ks : List (Int × Int)) (rows : List Row) : List Row := (orderZ ks rows).map (rowAt rows)
theorem reps_pick {B : FM} {vs : List Value} {rows : List Row} (h : Reps B vs (rows.map Row.d)) : ∀ (l : List Nat), (∀ i ∈ l, i < rows.length) → Reps B (l.map fun i => vs.getD i .none) ((l.map (rowAt rows)).map Row.d)
  | [], _ => .nil
  | i :: l, hl => by
    refine .cons ?_ (reps_pick h l fun j hj => hl j (.tail _ hj))
    have hi := hl i (.head _)
    obtain ⟨v, e1, e2⟩ := h.get (i := i) (d := (rowAt rows i).d) (by
      unfold rowAt
      rw [List.getElem?_map, List.getElem?_eq_getElem hi, List.getD_eq_getElem?_getD, List.getElem?_eq_getElem hi]; rfl)
    show Rep B (vs.getD i .none) _
    rw [List.getD_eq_getElem?_getD, e1]; exact e2
section
variable {w : World} {P : Params} {f g : Bool} {s₀ s : Shared} {B₀ B : FM} {mu : MU} {A : Around} {E : Value → Shared → Prop} {env : Env} {Q : Value → Shared → Prop}
theorem keep_tc (S : Sit P f g B s.heap s.gens) : KeepOk (model prg w) (.ref 38) s.heap := keeps_K (K := kN P) (f := .ref 38) (by kernel_rfl) _ S.kn
theorem looks_kin {M : Model} {B' : FM} {h : Heap} {x C : Addr} {v : Value} (hB : B'.inn h) (hx : KIn B' x C v) : Looks M h (typeOf (.ref x)) (.ref C) := by
  obtain ⟨dx, I⟩ := hx.at hB
  exact I.type

/-- sorted(rows, key=K) -/
theorem sort_rows {L C q rl : Addr} {n : Nat} {vs : List Value} {l : List (Str × Value)} {ks : List (Int × Int)} {rows : List Row} (cx : Cx P f g s₀ B₀ B ((L, NsP l) :: mu) s.heap s.gens s.os) (hA : AOk 12 A) (kw : KClsB B C q) (cq : CmpQ B q ks)
    (hl : B rl = some (lstO vs n)) (hvs : Reps B vs (rows.map Row.d)) (h8 : rows.length = 8) (hc2 : ∀ r ∈ rows, r.c2.length = 2) (hT : Tot (ltR ks rows))
    (k : ∀ D c s' B' vs', B.le B' → B' D = some (lstO vs' c) → Reps B' vs' ((sortZ ks rows).map Row.d) → Cx P f g s₀ B₀ B' ((L, NsP l) :: mu) s'.heap s'.gens s'.os → Q (.ref D) s') :
    wpAny (model prg w) A (call (.builtin "sorted") [.ref rl] [("key", .ref C)]) Q E s := by
  have hvl : vs.length = rows.length := by rw [hvs.length, List.length_map]
  have run := sort_run hT (N := rows.length) (by omega)
  have hin : ∀ i ∈ orderZ ks rows, i < rows.length := fun i hi => List.mem_range.mp ((G.at run).1.mem_iff.mp hi)
  have at_ : ∀ i, i < vs.length → RowC B (vs.getD i .none) (rowAt rows i) ∧ (rowAt rows i).c2.length = 2 := fun i hi => by
    have hi' : i < rows.length := by omega
    obtain ⟨v, e1, e2⟩ := hvs.get (i := i) (d := (rowAt rows i).d) (by
      unfold rowAt
      rw [List.getElem?_map, List.getElem?_eq_getElem hi', List.getD_eq_getElem?_getD, List.getElem?_eq_getElem hi']; rfl)
    refine ⟨by rw [List.getD_eq_getElem?_getD, e1]; exact rowC_of e2, ?_⟩
    unfold rowAt
    rw [List.getD_eq_getElem?_getD, List.getElem?_eq_getElem hi']
    exact hc2 _ (List.getElem_mem hi')
  refine sorted_key (KR := fun B k v => ∃ x, k = .ref x ∧ KIn B x C v) (lt := ltR ks rows) (T := .ref C) cx hl (by omega) (by omega) (fun B B' k v hle ⟨x, e, h⟩ => ⟨x, e, h.le hle⟩) (by rw [hvl]; exact run.run) ?_ (by simp) (by simp) ?_ ?_ ?_
  · rintro B' h k v hB ⟨x, rfl, hx⟩
    exact looks_kin hB hx
  · intro v hv s1 B1 hle1 S1
    refine k_make (kw.le hle1).work S1 (hA.in1.in1.less (by decide)) fun x s2 B2 mv2 S2 hx => ⟨B2, mv2, S2, x, rfl, hx⟩
  · rintro i j hi hj s1 B1 ki kj hle1 ⟨x, rfl, hx⟩ ⟨y, rfl, hy⟩ S1 Q' hQ
    obtain ⟨r1, c1⟩ := at_ i hi
    obtain ⟨r2, c2⟩ := at_ j hj
    exact k_lt (kw.le hle1).work (cq.le hle1) S1 (hA.in1.in1.less (by decide)) hx hy (r1.le hle1) (r2.le hle1) (by rw [c1, c2]) fun s2 B2 mv2 S2 => hQ s2 B2 mv2 S2
  · intro D c s1 B1 hle1 cx1
    obtain ⟨_, ⟨rfl⟩, _, nD, cx2⟩ := cx1.freeze
    have hle2 := FM.le_put (o := lstO ((runT (ltR ks rows) (kas_sort vs.length)).toList.map fun i => vs.getD i .none) c) nD
    refine k D c s1 _ _ (hle1.trans hle2) (FM.put_self ..) ?_ cx2
    have e : orderZ ks rows = (runT (ltR ks rows) (kas_sort vs.length)).toList := by unfold orderZ; rw [hvl]
    have := reps_pick (hvs.le (hle1.trans hle2)) (orderZ ks rows) hin
    unfold sortZ
    rw [e] at this ⊢
    exact this
end
end Mine
end
section
open PySem PySem.W PyProof.Rows
set_option Elab.async false
set_option maxRecDepth 100000
set_option maxHeartbeats 4000000
set_option linter.unusedVariables false
namespace Mine
local macro_rules | `(tactic| walk_at "mqlk") => `(tactic| first | assumption | exact lk_same _ _ _ | (refine lk_other (by decide) ?_; walk_at "mqlk") | rfl)
def entD (e : Ent) : D := .lst [.lst (e.four.map D.int), .lst (e.cs.map fun p => D.tup [.int p.1, fourD p.2])]
def stageD (l : List Row) : D := .lst (l.map fun r => entD r.e)
def mrgAll (ks : List (Int × Int)) (n : Nat) (left : List Row) : List Row := left.foldl (mergeZ (ks.take n)) []
def stepS (ks : List (Int × Int)) (st : List Row × List (List Row)) (n : Nat) : List Row × List (List Row) := (mrgAll ks n st.1, st.2 ++ [mrgAll ks n st.1])
abbrev sizes : List Nat := [3, 2, 1, 0]
def stAt (ks : List (Int × Int)) (left : List Row) (i : Nat) : List Row × List (List Row) := (sizes.take i).foldl (stepS ks) (left, [])
def toldZ (ks : List (Int × Int)) (left : List Row) : List (List Row) := (sizes.foldl (stepS ks) (left, [])).2
structure OkSt (ks : List (Int × Int)) (left : List Row) : Prop where
  h : ∀ i n, sizes[i]? = some n → (stAt ks left i).1.length ≤ 50 ∧ (∀ x ∈ (stAt ks left i).1, RowOk x) ∧ ∀ j, ∀ x ∈ ((stAt ks left i).1.take j).foldl (mergeZ (ks.take n)) [], RowOk x
def sgBody : List Stmt := match ((bodyAt 13)[2]? : Option Stmt) with
  | some (.For _ _ b _ _) => b
  | _ => []
section
variable {w : World} {P : Params} {f g : Bool} {s₀ s : Shared} {B₀ B : FM} {mu : MU} {A : Around} {E : Value → Shared → Prop} {env : Env} {Q : Value → Shared → Prop}
theorem keepG {a : Addr} {M : Model} (S : Sit P f g B s.heap s.gens) (e : (K1 P).lookup a = some (k1o P a)) (t : (a == 51 || a == 58 || a == 91 || a == 108) = false) (d : (k1o P a).data = .func (fdOf P a)) : KeepOk M (.ref a) s.heap := keep_fn (S.at e (notTab t)) d
theorem rep_ent {B : FM} {e : Ent} {a b : Addr} {vs us : List Value} {c1 c2 c3 : Nat} {ab : Addr} (h1 : B a = some (lstO vs c1)) (r1 : IntsAre vs e.four) (h2 : B b = some (lstO us c2)) (r2 : Reps B us (e.cs.map fun p => D.tup [.int p.1, fourD p.2])) (h3 : B ab = some (lstO [.ref a, .ref b] c3)) :
    Rep B (.ref ab) (entD e) := .lst h3 (.cons (.lst h1 (reps_ints r1)) (.cons (.lst h2 r2) .nil))
theorem merge_last {B : FM} {vs : List Value} {rs : List Row} (h : Reps B vs (rs.map fun r => entD r.e)) : True := trivial

theorem stages_loop {L D kl la : Addr} {kvs lv : List Value} {m n : Nat} {ks : List (Int × Int)} {left : List Row} {l : List (Str × Value)} {R : Result → Shared → Prop} {sv : List Value} {I : Addr} {st : Nat → Obj → Prop}
    (hA : AOk 30 A) (he : env = envD (nameAt 13) (scAt 13) [] 101 100 L) (hk : B kl = some (lstO kvs m)) (hks : Reps B kvs (ks.map keyD)) (hcol : ∀ p ∈ ks, p.1 = 0 ∨ p.1 = 1 ∨ p.1 = 2) (hlk : ks.length ≤ 100) (ok : OkSt ks left)
    (W : Src w A B I sv.length (fun i v => sv[i]? = some v) st) (hsv : IntsAre sv (sizes.map fun n : Nat => (n : Int)))
    (cx : Cx P false g s₀ B₀ B [(I, st 0), (L, NsP l), (D, LstP [])] s.heap s.gens s.os) (h1 : has l "keys" (.ref kl)) (h2 : has l "stages" (.ref D)) (h3 : has l "left" (.ref la)) (hla : B la = some (lstO lv n)) (hlv : Reps B lv (left.map Row.d))
    (done : ∀ B' zs l' s', B.le B' → Reps B' zs ((toldZ ks left).map stageD) → has l' "stages" (.ref D) → Cx P false g s₀ B₀ B' [(L, NsP l'), (D, LstP zs)] s'.heap s'.gens s'.os → R (.ok .next) s')
    {p : Pos} : codeAny (model prg w) A (.forLoop (.Name "size" p) (.ref I) sgBody [] env) R s := by
  subst he
  have hlen : sv.length = 4 := hsv.length
  refine for_cx W (fun i B' mu => B.le B' ∧ ∃ l la lv ln zs, mu = [(L, NsP l), (D, LstP zs)] ∧ has l "keys" (.ref kl) ∧ has l "stages" (.ref D) ∧ has l "left" (.ref la) ∧ B' la = some (lstO lv ln) ∧ Reps B' lv ((stAt ks left i).1.map Row.d) ∧ Reps B' zs ((stAt ks left i).2.map stageD)) (FM.le.refl _) cx
    ⟨FM.le.refl _, l, la, lv, n, [], rfl, h1, h2, h3, hla, hlv, .nil⟩ ?_ ?_
  · intro i v B6 mu st' s6 hi6 hv hy6 _ cx6
    refine absF fun K1 hK1 => ?_
    obtain ⟨hle6, l, la, lv, ln, zs, rfl, k1, k2, k3, hB, hR, hZ⟩ := hy6
    obtain ⟨sz, hsz⟩ : ∃ sz, sizes[i]? = some sz := ⟨_, List.getElem?_eq_getElem (by simp; omega)⟩
    obtain ⟨tz, hz⟩ := hsv.get i (sz : Nat) (by rw [List.getElem?_map, hsz]; rfl)
    rw [hv] at hz
    cases hz
    obtain ⟨o1, o2, o3⟩ := ok.h i sz hsz
    have est : stAt ks left (i + 1) = stepS ks (stAt ks left i) sz := by unfold stAt; rw [take_foldA _ _ _ hsz]
    have cx7 : Cx P false g s₀ B₀ B6 ((L, NsP l) :: [(D, LstP zs), (I, st')]) s6.heap s6.gens s6.os := cx6.perm (List.perm_append_comm (l₁ := [_]) (l₂ := [_, _]))
    refine wpAny_assign_Name (stL (env := envD (nameAt 13) (scAt 13) [] 101 100 L) cx7 rfl (fun h8 tk8 cx8 => ?_) rfl)
    refine wpAny_execs_cons (wpAny_Assign_Name (absQ fun KQ1 hQ1 => ?_))
    refine ev_call rfl rfl (ldG (s := { s6 with heap := h8, toks := tk8 }) cx8.sit (glob_reduce P) ?_)
    refine ev_call rfl rfl (ldG (s := { s6 with heap := h8, toks := tk8 }) cx8.sit (glob_merger P) ?_)
    refine ev_call rfl rfl (ldG (s := { s6 with heap := h8, toks := tk8 }) cx8.sit (glob_tc P) ?_)
    refine subS (ld_local (s := { s6 with heap := h8, toks := tk8 }) cx8 (.head _) (by walk_at "mqlk") (wpAny_pure ?_))
    refine ld_local (s := { s6 with heap := h8, toks := tk8 }) cx8 (.head _) (by walk_at "mqlk") (wpAny_pure ?_)
    have hkl : kvs.length = ks.length := by rw [hks.length, List.length_map]
    refine ⟨kl, kvs, none, some (sz : Nat), none, rfl, cx8, isList_of cx8.sit.inB (hle6 _ _ hk), by omega, .none, .int _ _, .none, by simp, fun D9 h9 B9 hle9 hD9 cx9 => ?_⟩
    have hpick : (slicePick kvs.toArray none (some ((sz : Nat) : Int)) none).toList = kvs.take sz := by rw [slicePick_upto' kvs.toArray sz]
    rw [hpick] at hD9
    refine ⟨keep_tc (s := { s6 with heap := h9, toks := tk8 }) cx9.sit, ?_⟩
    refine tc_make (s := { s6 with heap := h9, toks := tk8 }) cx9.sit (hA.less (by decide)) fun x s10 B10 mv10 S10 hx => ?_
    have cx10 := cx9.call (s := { s6 with heap := h9, toks := tk8 }) mv10 S10
    refine ⟨keepG S10 (by kernel_rfl) rfl (by kernel_rfl), ?_⟩
    refine merger_spec S10 (hA.less (by decide)) fun fm s11 B11 mv11 S11 hfm => ?_
    have cx11 := cx10.call mv11 S11
    refine ld_local cx11 (.head _) (by walk_at "mqlk") ?_
    refine ev_list rfl (nLst cx11 (by simp) fun il h12 B12 hle12 hil cx12 => ?_)
    have l6_12 : B6.le B12 := hle9.trans (mv10.le.trans (mv11.le.trans hle12))
    refine ⟨keepG (s := { s11 with heap := h12 }) cx12.sit (by kernel_rfl) rfl (by kernel_rfl), ?_⟩
    have tk : TcK B12 x (ks.take sz) := ⟨⟨D9, kvs.take sz, 0, hx.le (mv11.le.trans hle12), (mv10.le.trans (mv11.le.trans hle12)) _ _ hD9, by rw [List.map_take]; exact (hks.le (hle6.trans l6_12)).take sz⟩, fun p hp => hcol p (List.mem_of_mem_take hp), by rw [List.length_take]; omega⟩
    refine reduce_spec (s := { s11 with heap := h12 }) cx12.sit (hA.less (by decide)) (hfm.le hle12) tk (l6_12 _ _ hB) (hR.le l6_12) hil o3 o2 o1 fun D13 vs13 m13 s13 B13 mv13 S13 hD13 hR13 => ?_
    have cx13 := cx12.call (s := { s11 with heap := h12 }) mv13 S13
    have l6_13 : B6.le B13 := l6_12.trans mv13.le
    refine hQ1 _ _ ?_
    refine stL (env := envD (nameAt 13) (scAt 13) [] 101 100 L) cx13 rfl (fun h14 tk14 cx14 => ?_) rfl
    have okn : ∀ y ∈ mrgAll ks sz (stAt ks left i).1, RowOk y := by
      have := o3 (stAt ks left i).1.length
      rw [List.take_length] at this
      exact this
    have lenn : (mrgAll ks sz (stAt ks left i).1).length ≤ 50 := by
      have := mfold_len (ks.take sz) (stAt ks left i).1 []
      simp only [List.length_nil, Nat.zero_add] at this
      unfold mrgAll; omega
    have hR14 : Reps B13 vs13 ((mrgAll ks sz (stAt ks left i).1).map Row.d) := hR13
    generalize hmr : mrgAll ks sz (stAt ks left i).1 = mr at okn lenn hR14
    have hv13 : vs13.length = mr.length := by rw [hR14.length, List.length_map]
    refine wpAny_execs_cons (wpAny_Expr_any (absQ fun KQ2 hQ2 => ?_))
    refine mApp 1 (D := D) (ys := zs) (fun Q' q => ld_local (s := { s13 with heap := h14, toks := tk14 }) cx14 (.head _) (by walk_at "mqlk") q) (cx14.mus (D, LstP zs) (.tail _ (.head _))) ?_
    refine absQ fun KQ3 hQ3 => ?_
    refine wpAny_comprehension_free (cl := []) rfl (fun _ => rfl) rfl rfl (by decide) ?_
    refine ld_local (s := { s13 with heap := h14, toks := tk14 }) cx14 (.head _) (by walk_at "mqlk") ?_
    refine itL cx14 hA.handled hD13 fun I2 st2 h15 W2 cx15 => ?_
    refine comp_name (s := { s13 with heap := h15, toks := tk14 }) W2 (by omega) (fun j B' ys => B13.le B' ∧ Reps B' ys ((mr.take j).map fun r => entD r.e)) (FM.le.refl _) cx15 ⟨FM.le.refl _, .nil⟩ ?_ ?_
    · intro C D2 j v2 B16 ys st3 s16 hj hv2 hy16 _ cx16
      refine absC fun K K0 hK hK0 => ?_
      obtain ⟨hle16, hys⟩ := hy16
      obtain ⟨r, hr⟩ : ∃ r, mr[j]? = some r := ⟨_, List.getElem?_eq_getElem (by omega)⟩
      obtain ⟨v', hv', hrep⟩ := hR14.get (i := j) (d := r.d) (by rw [List.getElem?_map, hr]; rfl)
      rw [hv2] at hv'
      cases hv'
      have okr := okn r (List.mem_of_getElem? hr)
      obtain ⟨a0, w0, w1, w2, w3, n0, rfl, hB0, r0, r1, r2, r3⟩ := rowC_of (hrep.le hle16)
      obtain ⟨ea, t1, t2, t3, t4, td, ne, z1, z2, z3, z4, rfl, e4, heB, hdt⟩ := ent_open r3 okr.e
      refine noTests ?_
      refine ev_list rfl (ev_call rfl rfl (ldB cx16.sit (blt_list P) ?_))
      refine sub_tto (subT rfl (ld_local cx16 (.head _) rfl (eI fun tt ttk => ⟨a0, [w0, w1, w2, .ref ea], 3, tt, .ref ea, rfl, rfl, isTup_of cx16.sit.inB hB0, by decide, by decide, rfl, ?_⟩)))
      refine eI fun t5 tk5 => ⟨ea, _, ne, 4, t5, rfl, rfl, cx16, heB, by simp, by simp, fun D17 h17 B17 hle17 hD17 cx17 => ?_⟩
      refine ⟨keep_type _, ?_⟩
      refine call_list_t (s := { s16 with heap := h17, toks := tk5 }) cx17 hD17 (by simp) fun D18 c18 h18 tk18 B18 hle18 hD18 cx18 => ?_
      refine ev_call rfl rfl (ldB (s := { s16 with heap := h18, toks := tk18 }) cx18.sit (blt_list P) ?_)
      have l16_18 := hle17.trans hle18
      refine wpAny_mono (list_items (s := { s16 with heap := h18, toks := tk18 }) (T := r.e.cs) (d := td) (Q := fun v s' => ∃ (D : Addr) (c : Nat) (B' : FM) (vs : List Value), v = Value.ref D ∧ B18.le B' ∧ B' D = some (lstO vs c) ∧ Reps B' vs (r.e.cs.map fun p => Mine.D.tup [.int p.1, fourD p.2]) ∧ Cx P false g s₀ B₀ B' _ s'.heap s'.gens s'.os) cx18 hA.handled (hdt.le l16_18) (by have := okr.cs; omega) (fun Q' hq => ?_) (fun D19 c19 h19 tk19 B19 vs19 hle19 hD19 hr19 cx19 => ⟨D19, c19, B19, vs19, rfl, hle19, hD19, hr19, cx19⟩)) (fun r' s' hr' => ⟨keep_type _, ?_⟩) fun _ _ x => x
      · refine subT rfl (subT rfl (ld_local (s := { s16 with heap := h18, toks := tk18 }) cx18 (.head _) rfl (eI fun tt ttk => ⟨a0, [w0, w1, w2, .ref ea], 3, tt, .ref ea, rfl, rfl, isTup_of cx18.sit.inB (l16_18 _ _ hB0), by decide, by decide, rfl, ?_⟩)))
        exact eI fun tt ttk => ⟨ea, _, 4, tt, .ref td, rfl, rfl, isTup_of cx18.sit.inB (l16_18 _ _ heB), by decide, by decide, rfl, hq _⟩
      · refine wpAny_mono hr' (fun v s'' hv'' => ?_) fun _ _ x => x
        obtain ⟨D19, c19, B19, vs19, rfl, hle19, hD19, hr19, cx19⟩ := hv''
        refine nLst cx19 (by simp) fun ab h20 B20 hle20 hab cx20 => ?_
        have l18_20 := hle19.trans hle20
        refine hK _ _ ⟨B20, ⟨hle16.trans (l16_18.trans l18_20), ?_⟩, l16_18.trans l18_20, cx20⟩
        rw [List.take_add_one, hr, List.map_append]
        refine (hys.le (l16_18.trans l18_20)).app (.cons ?_ .nil)
        refine rep_ent (l18_20 _ _ hD18) ?_ (hle20 _ _ hD19) (hr19.le hle20) hab
        rw [e4]
        exact .cons _ _ (.cons _ _ (.cons _ _ (.cons _ _ .nil)))
    · rintro D2 B16 ys m16 s16 ⟨hle16, hys⟩ _ hD2 cx16
      rw [hv13, List.take_length] at hys
      have hle17 := FM.le_put (o := lstO ys m16) hD2
      have zl : zs.length ≤ 1000 := by
        have := hZ.length
        have h2 : (stAt ks left i).2.length ≤ 4 := by
          have : ∀ (l : List Nat) (st : List Row × List (List Row)), (l.foldl (stepS ks) st).2.length = st.2.length + l.length := by
            intro l
            induction l with
            | nil => intro st; rfl
            | cons a l ih => intro st; rw [List.foldl_cons, ih]; simp [stepS]; omega
          unfold stAt; rw [this]; simp; omega
        rw [List.length_map] at this; omega
      refine hQ3 _ _ ⟨cx16, rfl, zl, fun h21 cx21 => hQ2 _ _ ?_⟩
      refine wpAny_execs_nil (hK1 _ _ ⟨B16.put D2 (lstO ys m16), [(L, NsP _), (D, LstP _)], ⟨hle6.trans (l6_13.trans (hle16.trans hle17)), _, D13, vs13, m13, _, rfl, ?_, ?_, ?_, (hle16.trans hle17) _ _ hD13, ?_, ?_⟩, l6_13.trans (hle16.trans hle17), cx21.perm (List.perm_append_comm (l₁ := [_]) (l₂ := [_, _])).symm⟩)
      · show List.lookup _ _ = _; walk_at "mqlk"
      · show List.lookup _ _ = _; walk_at "mqlk"
      · show List.lookup _ _ = _; walk_at "mqlk"
      · rw [est]; unfold stepS; dsimp only; rw [hmr]; exact hR14.le (hle16.trans hle17)
      · rw [est]; unfold stepS; dsimp only; rw [hmr, List.map_append]
        refine (hZ.le (l6_13.trans (hle16.trans hle17))).app (.cons ?_ .nil)
        exact .lst (FM.put_self ..) (hys.le hle17)
  · rintro B6 mu s6 ⟨hle6, l, la, lv, ln, zs, rfl, k1, k2, k3, hB, hR, hZ⟩ _ cx6
    rw [hlen] at hZ
    exact done B6 zs l s6 hle6 hZ k2 cx6
end
end Mine
end
section
open PySem PySem.W PyProof.Rows
set_option Elab.async false
set_option maxRecDepth 100000
set_option maxHeartbeats 4000000
set_option linter.unusedVariables false
namespace Mine
local macro_rules | `(tactic| walk_at "mqlk") => `(tactic| first | assumption | exact lk_same _ _ _ | (refine lk_other (by decide) ?_; walk_at "mqlk") | rfl)
section
variable {w : World} {P : Params} {f g : Bool} {s₀ s : Shared} {B₀ B : FM} {mu : MU} {A : Around} {E : Value → Shared → Prop} {env : Env} {Q : Value → Shared → Prop}
theorem stages_spec {rl kl : Addr} {vs kvs : List Value} {n m : Nat} {rows : List Row} {ks : List (Int × Int)} (S : Sit P true g B s.heap s.gens) (hA : AOk 120 A) (hl : B rl = some (lstO vs n)) (hvs : Reps B vs (rows.map Row.d)) (h8 : rows.length = 8) (hok : ∀ r ∈ rows, r.c2.length = 2)
    (hk : B kl = some (lstO kvs m)) (hks : Reps B kvs (ks.map keyD)) (hcol : ∀ p ∈ ks, p.1 = 0 ∨ p.1 = 1 ∨ p.1 = 2) (hlk : ks.length ≤ 100) (hT : Tot (ltR ks rows)) (ok : OkSt ks (sortZ ks rows))
    (k : ∀ D zs c s' B', Mv B B' s s' → Sit P false g B' s'.heap s'.gens → B' D = some (lstO zs c) → Reps B' zs ((toldZ ks (sortZ ks rows)).map stageD) → Q (.ref D) s') : wpAny (model prg w) A (call (.ref 101) [.ref rl, .ref kl]) Q E s := by
  refine call_def S hA (def_stages S.stat) (bind_pure (binds := [("rows", .ref rl), ("keys", .ref kl)]) (by rfl)) (.loc rfl (.loc rfl .nil)) fun h' tk cx => ?_
  generalize s.heap.objs.size = L at cx ⊢
  have hA1 : AOk 119 (A.deeper (envD (nameAt 13) (scAt 13) [] 101 100 L)) := hA.deeper
  have cx1 : Cx P true g s B B [(L, NsP [("rows", .ref rl), ("keys", .ref kl)])] h' s.gens s.os := cx
  clear cx
  refine wpAny_execs_cons (wpAny_Assign_Name (ev_call_key rfl (ldB (s := { s with heap := h', toks := tk }) cx1.sit (blt_sorted P) (ld_local (s := { s with heap := h', toks := tk }) cx1 (.head _) rfl ?_))))
  refine ev_call rfl rfl (ldG (s := { s with heap := h', toks := tk }) cx1.sit (glob_ctk P) (ev_attr (ev_call rfl rfl (ldG (s := { s with heap := h', toks := tk }) cx1.sit (glob_tc P) (ld_local (s := { s with heap := h', toks := tk }) cx1 (.head _) rfl ⟨keep_tc (s := { s with heap := h', toks := tk }) cx1.sit, ?_⟩)))))
  refine tc_make (s := { s with heap := h', toks := tk }) cx1.sit (hA1.less (by decide)) fun x s2 B2 mv2 S2 hx => ?_
  have cx2 := cx1.call (s := { s with heap := h', toks := tk }) mv2 S2
  refine get_cmp cx2 hx fun q h3 tk3 B3 hle3 hq cx3 => ?_
  refine ⟨keepG (s := { s2 with heap := h3, toks := tk3 }) cx3.sit (by kernel_rfl) rfl (by kernel_rfl), ?_⟩
  refine ctk_spec (s := { s2 with heap := h3, toks := tk3 }) cx3.sit (hA1.less (by decide)) fun C s4 B4 mv4 S4 hC => ?_
  have cx4 := cx3.call (s := { s2 with heap := h3, toks := tk3 }) mv4 S4
  refine ⟨keep_builtin _, ?_⟩
  have l3 : B.le B3 := mv2.le.trans hle3
  have l4 : B.le B4 := l3.trans mv4.le
  have cq : CmpQ B4 q ks := ⟨⟨x, kl, kvs, m, mv4.le _ _ hq, hx.le (hle3.trans mv4.le), l4 _ _ hk, hks.le l4⟩, hcol, hlk⟩
  refine sort_rows cx4 (hA1.less (by decide)) hC cq (l4 _ _ hl) (hvs.le l4) h8 hok hT fun D5 c5 s5 B5 vs5 hle5 hD5 hR5 cx5 => ?_
  have l5 := l4.trans hle5
  refine stL (env := envD (nameAt 13) (scAt 13) [] 101 100 L) cx5 rfl (fun h6 tk6 cx6 => ?_) rfl
  refine wpAny_execs_cons (wpAny_Assign_Name (ev_list rfl (nMu cx6 (by simp) fun D h7 cx7 => ?_)))
  refine stL (env := envD (nameAt 13) (scAt 13) [] 101 100 L) (cx7.perm (List.Perm.swap ..)) rfl (fun h8 tk8 cx8 => ?_) rfl
  refine wpAny_execs_cons (wpAny_For (ev_list rfl (eI fun t1 k1 => eI fun t2 k2 => eI fun t3 k3 => eI fun t4 k4 => ?_)))
  refine nLst cx8 (by simp) fun b h9 B9 hle9 hb cx9 => ?_
  refine itL cx9 hA1.handled hb fun I st h10 W cx10 => ?_
  have l9 := l5.trans hle9
  refine stages_loop (s := { s5 with heap := h10, toks := k4 }) (ks := ks) (left := sortZ ks rows) (hA1.less (by decide)) rfl (l9 _ _ hk) (hks.le l9) hcol hlk ok W ?_ cx10 ?_ ?_ ?_ (hle9 _ _ hD5) (hR5.le hle9) fun B11 zs l11 s11 hle11 hZ hst cx11 => ?_
  · exact .cons _ _ (.cons _ _ (.cons _ _ (.cons _ _ .nil)))
  · show List.lookup _ _ = _; walk_at "mqlk"
  · show List.lookup _ _ = _; walk_at "mqlk"
  · show List.lookup _ _ = _; walk_at "mqlk"
  · refine wpAny_execs_cons (wpAny_Return_some (ld_local (env := envD (nameAt 13) (scAt 13) [] 101 100 L) cx11 (.head _) hst ?_))
    obtain ⟨oD, ⟨c, rfl⟩, _, nB, cx12⟩ := (cx11.tail rfl).freeze
    exact k D zs c s11 _ cx12.mv cx12.sit (FM.put_self ..) (hZ.le (FM.le_put nB))
end
end Mine
end
section
open PySem PySem.W PyProof.Rows
set_option Elab.async false
set_option maxRecDepth 100000
set_option maxHeartbeats 4000000
set_option linter.unusedVariables false
namespace Mine
section
variable {w : World} {P : Params} {f g : Bool} {s₀ s : Shared} {B₀ B : FM} {mu : MU} {A : Around} {E : Value → Shared → Prop} {env : Env} {Q : Value → Shared → Prop}
theorem iter_dict {d : Addr} {T : Tab4} (cx : Cx P f g s₀ B₀ B mu s.heap s.gens s.os) (hh : A.handled = none) (hd : Rep B (.ref d) (.dct (tabD T)))
    (k : ∀ I st h', Src w A B I T.length (fun i v => ∃ t p, T[i]? = some p ∧ v = Value.int p.1 t) st → Cx P f g s₀ B₀ B ((I, st 0) :: mu) h' s.gens s.os → Q (.ref I) { s with heap := h' }) : wpAny (model prg w) A (pyIter (.ref d)) Q E s := by
  cases hd with
  | dct hB hD hK hN =>
  rename_i od kvs
  have ho := cx.sit.inB _ _ hB
  obtain ⟨es, ep, r1, r2, r3, r4, r5⟩ := hD.h prg w
  have hm : s.heap.DictAt (intKind prg w) d kvs ep := ⟨od, es, ho, r1, r2, r3, r4, r5⟩
  refine wpAny_pyIter_dict (knd := intKind prg w) hN hm ?_
  have hI : B s.heap.objs.size = none := cx.sit.none_of (get_size _)
  have hne : d ≠ s.heap.objs.size := fun q => by rw [q, hI] at hB; cases hB
  have W := src_of_walks (B := B) (Walks.dictKeys (knd := intKind prg w) (A := A) hh s.heap.objs.size d hne kvs ep) hI (fun b hb => by
    rcases List.mem_cons.mp hb with h | h
    · exact .inl h
    · rw [List.mem_singleton.mp h]; exact .inr ⟨_, hB⟩) (fun i h ⟨⟨o, ho, hc, _⟩, _⟩ => ⟨o, _, ho, hc, by decide⟩)
  have e1 : kvs.length = T.length := by have := hK.length; rw [tabD, List.length_map] at this; exact this
  rw [e1] at W
  have W' : Src w A B s.heap.objs.size T.length (fun i v => ∃ t p, T[i]? = some p ∧ v = Value.int p.1 t) _ := ⟨fun i s' Q' E' a1 a2 a3 a4 => W.item i s' Q' E' a1 a2 a3 fun v h' tk ⟨ky, x, hv, hi⟩ => a4 v h' tk (by
    obtain ⟨t, rfl⟩ := Value.isInt_shape hi
    obtain ⟨q, hq, _⟩ := tab_item hK hv
    exact ⟨t, (ky, q), hq, rfl⟩), W.done, W.self, W.goes⟩
  refine k _ _ _ W' (cx.pushMu ⟨⟨_, Heap.get?_push_size s.heap rfl, ⟨_, Heap.get?_push_size _ rfl, rfl, by rw [e1]; rfl⟩, hm.push _⟩, fun h e hb => ?_⟩)
  refine ⟨⟨_, e, rfl, by rw [e1]; rfl⟩, ?_⟩
  exact ⟨od, es, hb _ _ hB, r1, r2, r3, r4, r5⟩

/-- tuple(list) -/
theorem call_tuple_l {a : Addr} {vs : List Value} {n : Nat} (cx : Cx P f g s₀ B₀ B mu s.heap s.gens s.os) (hB : B a = some (lstO vs n)) (hz : vs.length ≤ 1000)
    (k : ∀ D h' tk B', B.le B' → B' D = some (tupO vs 0) → Cx P f g s₀ B₀ B' mu h' s.gens s.os → Q (.ref D) { s with heap := h', toks := tk }) : wpAny (model prg w) A (call (.type "tuple") [.ref a]) Q E s := by
  have hl := isList_of cx.sit.inB hB
  refine callType_codes (Q₁ := fun obj s₁ => s₁.TypeIs obj "tuple" ∧ Q obj s₁) PySem.F.called_tuple (PySem.F.typeCall_tuple_1 _) PySem.F.entry_object_init ?_ fun obj s₁ h₁ => ?_
  · refine codeAny_of_tree ?_
    show wpAny _ A.in1.in1 (do checkBuiltinCall "tuple.__new__" ⟨[.type "tuple", .ref a], []⟩; again (.builtin "tuple.__new__" ⟨[.type "tuple", .ref a], []⟩)) _ _ s
    refine wpAny_bind (wpAny_of_eq (PySem.F.newCall_tuple_1 _) (wpAny_pure ⟨plainId_quiet PySem.F.plain_tuple_new _, codeAny_builtin PySem.F.entry_tuple_new ?_⟩))
    rw [Around.under_plainId PySem.F.plain_tuple_new _]
    have hsub := sub_tuple_self
    have hinit := init_tuple_lookup
    have hmh := madeHere_tuple
    have hTI : s.TypeIs (.ref a) "list" := hl.typeIs
    have hz' : vs.length ≤ sizeLine := by rw [sizeLine_eq]; omega
    wp_walk using wpAny_typeOf hTI, collect_list (hsz := hz') hl
    have keep : ∀ b o, s.heap.get? b = some o → ((s.heap.push (seqObj "list" #[] 0)).update s.heap.objs.size (Obj.mapSeq fun x => x ++ vs.toArray)).get? b = some o := fun b o e => by
      rw [Heap.get?_update_ne _ _ _ _ (Nat.ne_of_lt (Heap.lt_size e))]; exact Heap.get?_push_of_some _ e
    have c1 := cx.grow keep
    exact ⟨⟨_, Heap.get?_push_size _ rfl, rfl⟩, k _ _ s.toks _ (FM.le_put (c1.sit.none_of (get_size _))) (FM.put_self ..) (c1.pushB _)⟩
  · exact ⟨h₁.1, PySem.F.args_object_init_2 obj _, object_init_meets PySem.F.called_tuple.init.lookup PySem.F.called_tuple.made (by decide) prg w A.in1 _ s₁ ⟨h₁.1, rfl, h₁.2⟩⟩
end
end Mine
end
section
open PySem PySem.W PyProof.Rows
set_option Elab.async false
set_option maxRecDepth 100000
set_option maxHeartbeats 4000000
set_option linter.unusedVariables false
namespace Mine
def colsZ (qs : List (List Int)) : List Int := (List.range 4).map fun k => (qs.map fun q => q.getD k 0).sum
structure ColsOk (B : FM) (vs : List Value) (qs : List (List Int)) : Prop where
  len : vs.length = qs.length
  h : ∀ (j : Nat) (v : Value), vs[j]? = some v → ∃ a ws n q, v = .ref a ∧ B a = some (tupO ws n) ∧ qs[j]? = some q ∧ ∀ k, k < 4 → ∃ t, ws[k]? = some (Value.int (q.getD k 0) t)
theorem ColsOk.le {B B' : FM} {vs : List Value} {qs : List (List Int)} (x : ColsOk B vs qs) (h : B.le B') : ColsOk B' vs qs :=
  ⟨x.len, fun j v e => let ⟨a, ws, n, q, e1, e2, r⟩ := x.h j v e; ⟨a, ws, n, q, e1, h _ _ e2, r⟩⟩
theorem cols_take (qs : List (List Int)) (i : Nat) (hi : i < 4) : (colsZ qs).take (i + 1) = (colsZ qs).take i ++ [(qs.map fun q => q.getD i 0).sum] := by
  have h1 : (colsZ qs)[i]? = some (qs.map fun q => q.getD i 0).sum := by unfold colsZ; rw [List.getElem?_map, List.getElem?_range hi]; rfl
  rw [List.take_add_one, h1]; rfl
section
variable {w : World} {P : Params} {f g : Bool} {s₀ s : Shared} {B₀ B : FM} {mu : MU} {A : Around} {E : Value → Shared → Prop} {env : Env} {Q : Value → Shared → Prop}


theorem cols_four {L fl : Addr} {fv : List Value} {n : Nat} {qs : List (List Int)} {p1 p2 p3 p4 p5 p6 p7 p8 p9 p10 p11 ipos opos : Pos} {kk : Nat} (cx : Cx P f g s₀ B₀ B mu s.heap s.gens s.os) (hA : AOk 5 A) (he : env = envD (nameAt 14) (scAt 14) [] 106 105 L)
    (hm : (L + 1 + 1 + 1 + 1, CellP (some (.ref fl))) ∈ mu) (hfl : B fl = some (lstO fv n)) (hq : ColsOk B fv qs) (hlen : fv.length ≤ 100)
    (k : ∀ D c s' ys B', B.le B' → B' D = some (lstO ys c) → IntsAre ys (colsZ qs) → Cx P f g s₀ B₀ B' mu s'.heap s'.gens s'.os → Q (.ref D) s') :
    wpAny (model prg w) A (eval (.ListComp (.Call (.Name "sum" p1) [.ListComp (.Subscript (.Name "four" p2) (.Name "k" p3) p4) [⟨.Name "four" p5, .Name "fours" p6, [], 0⟩]
      { kind := .function, names := [(".0", .local), ("four", .local), ("k", .free)], isGenerator := false, isCoroutine := false, more := [] } ipos] [] p7) [⟨.Name "k" p8, .Call (.Name "range" p9) [.Constant (.int 4) kk p11] [] p10, [], 0⟩]
      { kind := .function, names := [(".0", .local), ("k", .cell), ("sum", .globalImplicit), ("fours", .free)], isGenerator := false, isCoroutine := false, more := [] } opos) env) Q E s := by
  subst he
  refine absQ fun KQ hKQ => ?_
  refine wpAny_comprehension_free (cl := [("fours", L + 1 + 1 + 1 + 1)]) rfl (fun _ => rfl) rfl rfl (by decide) ?_
  refine ev_call rfl rfl (ldB cx.sit (blt_range P) (eI fun t4 k4 => ⟨keep_type _, ?_⟩))
  refine itR (n := 4) cx hA.handled (by omega) fun I st h2 tk2 W cx2 => ?_
  refine comp_cell (s := { s with heap := h2, toks := tk2 }) W (by omega) (fun i B' ys => B.le B' ∧ IntsAre ys ((colsZ qs).take i)) (FM.le.refl _) cx2 ⟨FM.le.refl _, .nil⟩ ?_ ?_
  · intro C D i v B1 ys st' s1 hi hv1 hy1 hB1 cx3
    refine absC fun K K0 hK hK0 => ?_
    obtain ⟨t1, rfl⟩ := hv1
    obtain ⟨hle, hys⟩ := hy1
    refine noTests ?_
    refine ev_call rfl rfl (ldB cx3.sit (blt_sum P) (absQ fun KQ2 hKQ2 => ?_))
    refine wpAny_comprehension_free (cl := [("k", C + 1)]) rfl (fun _ => rfl) rfl rfl (by decide) ?_
    refine ld_cell (c := L + 1 + 1 + 1 + 1) cx3 rfl (.tail _ (.tail _ (.tail _ (.tail _ hm)))) ?_
    refine itL cx3 hA.handled (hle _ _ hfl) fun I2 st2 h4 W2 cx4 => ?_
    refine comp_name (s := { s1 with heap := h4 }) W2 (by omega) (fun j B' ys2 => B1.le B' ∧ IntsAre ys2 ((qs.map fun q => q.getD i 0).take j)) (FM.le.refl _) cx4 ⟨FM.le.refl _, .nil⟩ ?_ ?_
    · intro C2 D2 j v2 B2 ys2 st3 s2 hj hv2 hy2 hB2 cx5
      refine absC fun K2 K20 hK2 hK20 => ?_
      obtain ⟨hle2, hys2⟩ := hy2
      obtain ⟨a, ws, na, q, rfl, hBa, hqj, hw⟩ := hq.h j v2 hv2
      obtain ⟨tw, hwt⟩ := hw i (by omega)
      refine noTests ?_
      refine subT rfl (ld_local cx5 (.head _) rfl (ld_cell (c := C + 1) cx5 rfl (.tail _ (.tail _ (.tail _ (.tail _ (.head _))))) ⟨a, ws, i, t1, _, rfl, rfl, isTup_of cx5.sit.inB ((hle.trans hle2) _ _ hBa), by omega, by omega, by simpa using hwt, ?_⟩))
      refine hK2 _ _ ⟨B2, ⟨hle2, ?_⟩, FM.le.refl _, cx5⟩
      rw [List.take_add_one, List.getElem?_map, hqj]
      exact ints_snoc hys2
    · rintro D2 B2 ys2 m2 s2 ⟨hle2, hys2⟩ hB2 hD2 cx5
      rw [hq.len, List.take_of_length_le (by simp)] at hys2
      have hle3 := FM.le_put (o := lstO ys2 m2) hD2
      refine hKQ2 _ _ ⟨keep_builtin _, sumL cx5 hA.handled (isList_of cx5.sit.inB (FM.put_self ..)) hys2 fun t6 h6 tk6 cx6 => ?_⟩
      refine hK _ _ ⟨B2.put D2 (lstO ys2 m2), ⟨hle.trans (hle2.trans hle3), ?_⟩, hle2.trans hle3, cx6⟩
      rw [cols_take qs i (by omega)]
      exact ints_snoc hys
  · rintro D B1 ys m1 s1 ⟨hle, hys⟩ hB1 hD cx3
    have e1 : (colsZ qs).take 4 = colsZ qs := List.take_of_length_le (by unfold colsZ; simp)
    rw [e1] at hys
    exact hKQ _ _ (k D m1 s1 ys _ (hle.trans (FM.le_put hD)) (FM.put_self ..) hys cx3)


theorem cols_entry {L fl : Addr} {fv : List Value} {n : Nat} {qs : List (List Int)} {p1 p2 p3 p4 p5 p6 p7 p8 p9 p10 p11 ipos opos : Pos} {kk : Nat} (cx : Cx P f g s₀ B₀ B mu s.heap s.gens s.os) (hA : AOk 5 A) (he : env = envD (nameAt 14) (scAt 14) [] 106 105 L)
    (hm : (L + 1, CellP (some (.ref fl))) ∈ mu) (hfl : B fl = some (lstO fv n)) (hq : ColsOk B fv qs) (hlen : fv.length ≤ 100)
    (k : ∀ D c s' ys B', B.le B' → B' D = some (lstO ys c) → IntsAre ys (colsZ qs) → Cx P f g s₀ B₀ B' mu s'.heap s'.gens s'.os → Q (.ref D) s') :
    wpAny (model prg w) A (eval (.ListComp (.Call (.Name "sum" p1) [.ListComp (.Subscript (.Name "entry" p2) (.Name "k" p3) p4) [⟨.Name "entry" p5, .Name "entries" p6, [], 0⟩]
      { kind := .function, names := [(".0", .local), ("entry", .local), ("k", .free)], isGenerator := false, isCoroutine := false, more := [] } ipos] [] p7) [⟨.Name "k" p8, .Call (.Name "range" p9) [.Constant (.int 4) kk p11] [] p10, [], 0⟩]
      { kind := .function, names := [(".0", .local), ("k", .cell), ("sum", .globalImplicit), ("entries", .free)], isGenerator := false, isCoroutine := false, more := [] } opos) env) Q E s := by
  subst he
  refine absQ fun KQ hKQ => ?_
  refine wpAny_comprehension_free (cl := [("entries", L + 1)]) rfl (fun _ => rfl) rfl rfl (by decide) ?_
  refine ev_call rfl rfl (ldB cx.sit (blt_range P) (eI fun t4 k4 => ⟨keep_type _, ?_⟩))
  refine itR (n := 4) cx hA.handled (by omega) fun I st h2 tk2 W cx2 => ?_
  refine comp_cell (s := { s with heap := h2, toks := tk2 }) W (by omega) (fun i B' ys => B.le B' ∧ IntsAre ys ((colsZ qs).take i)) (FM.le.refl _) cx2 ⟨FM.le.refl _, .nil⟩ ?_ ?_
  · intro C D i v B1 ys st' s1 hi hv1 hy1 hB1 cx3
    refine absC fun K K0 hK hK0 => ?_
    obtain ⟨t1, rfl⟩ := hv1
    obtain ⟨hle, hys⟩ := hy1
    refine noTests ?_
    refine ev_call rfl rfl (ldB cx3.sit (blt_sum P) (absQ fun KQ2 hKQ2 => ?_))
    refine wpAny_comprehension_free (cl := [("k", C + 1)]) rfl (fun _ => rfl) rfl rfl (by decide) ?_
    refine ld_cell (c := L + 1) cx3 rfl (.tail _ (.tail _ (.tail _ (.tail _ hm)))) ?_
    refine itL cx3 hA.handled (hle _ _ hfl) fun I2 st2 h4 W2 cx4 => ?_
    refine comp_name (s := { s1 with heap := h4 }) W2 (by omega) (fun j B' ys2 => B1.le B' ∧ IntsAre ys2 ((qs.map fun q => q.getD i 0).take j)) (FM.le.refl _) cx4 ⟨FM.le.refl _, .nil⟩ ?_ ?_
    · intro C2 D2 j v2 B2 ys2 st3 s2 hj hv2 hy2 hB2 cx5
      refine absC fun K2 K20 hK2 hK20 => ?_
      obtain ⟨hle2, hys2⟩ := hy2
      obtain ⟨a, ws, na, q, rfl, hBa, hqj, hw⟩ := hq.h j v2 hv2
      obtain ⟨tw, hwt⟩ := hw i (by omega)
      refine noTests ?_
      refine subT rfl (ld_local cx5 (.head _) rfl (ld_cell (c := C + 1) cx5 rfl (.tail _ (.tail _ (.tail _ (.tail _ (.head _))))) ⟨a, ws, i, t1, _, rfl, rfl, isTup_of cx5.sit.inB ((hle.trans hle2) _ _ hBa), by omega, by omega, by simpa using hwt, ?_⟩))
      refine hK2 _ _ ⟨B2, ⟨hle2, ?_⟩, FM.le.refl _, cx5⟩
      rw [List.take_add_one, List.getElem?_map, hqj]
      exact ints_snoc hys2
    · rintro D2 B2 ys2 m2 s2 ⟨hle2, hys2⟩ hB2 hD2 cx5
      rw [hq.len, List.take_of_length_le (by simp)] at hys2
      have hle3 := FM.le_put (o := lstO ys2 m2) hD2
      refine hKQ2 _ _ ⟨keep_builtin _, sumL cx5 hA.handled (isList_of cx5.sit.inB (FM.put_self ..)) hys2 fun t6 h6 tk6 cx6 => ?_⟩
      refine hK _ _ ⟨B2.put D2 (lstO ys2 m2), ⟨hle.trans (hle2.trans hle3), ?_⟩, hle2.trans hle3, cx6⟩
      rw [cols_take qs i (by omega)]
      exact ints_snoc hys
  · rintro D B1 ys m1 s1 ⟨hle, hys⟩ hB1 hD cx3
    have e1 : (colsZ qs).take 4 = colsZ qs := List.take_of_length_le (by unfold colsZ; simp)
    rw [e1] at hys
    exact hKQ _ _ (k D m1 s1 ys _ (hle.trans (FM.le_put hD)) (FM.put_self ..) hys cx3)

end
end Mine
end
section
open PySem PySem.W PyProof.Rows
set_option Elab.async false
set_option maxRecDepth 100000
set_option maxHeartbeats 4000000
set_option linter.unusedVariables false
namespace Mine
local macro_rules | `(tactic| walk_at "mqlk") => `(tactic| first | assumption | exact lk_same _ _ _ | (refine lk_other (by decide) ?_; walk_at "mqlk") | rfl)
def callStep (cs : List Int) (e : Ent) : List Int := cs ++ (e.cs.map (·.1)).filter (fun c => !(cs.any (· == c)))
def callersZ (ents : List Ent) : List Int := ents.foldl callStep []
def foursZ (c : Int) (ents : List Ent) : List (List Int) := ents.filterMap fun e => atZ c e.cs
def sumsE (ents : List Ent) : Ent := ⟨colsZ (ents.map (·.four)), (callersZ ents).map fun c => (c, colsZ (foursZ c ents))⟩
theorem ents_cols {B : FM} {vs : List Value} {ents : List Ent} (h : Reps B vs (ents.map Ent.d)) (ok : ∀ e ∈ ents, EntOk e) : ColsOk B vs (ents.map (·.four)) := by
  refine ⟨by rw [h.length, List.length_map, List.length_map], fun j v hv => ?_⟩
  obtain ⟨d, hd, hr⟩ := h.item hv
  rw [List.getElem?_map] at hd
  obtain ⟨e, he, rfl⟩ := Option.map_eq_some_iff.mp hd
  obtain ⟨a, t1, t2, t3, t4, td, n, z1, z2, z3, z4, rfl, e4, hB, _⟩ := ent_open hr (ok e (List.mem_of_getElem? he))
  refine ⟨a, _, n, e.four, rfl, hB, by rw [List.getElem?_map, he]; rfl, fun k hk => ?_⟩
  rw [e4]
  match k, hk with
  | 0, _ => exact ⟨t1, rfl⟩
  | 1, _ => exact ⟨t2, rfl⟩
  | 2, _ => exact ⟨t3, rfl⟩
  | 3, _ => exact ⟨t4, rfl⟩
theorem ints_app : ∀ {vs us : List Value} {ns ms : List Int}, IntsAre vs ns → IntsAre us ms → IntsAre (vs ++ us) (ns ++ ms)
  | _, _, _, _, .nil, y => y
  | _, _, _, _, .cons n t x, y => .cons n t (ints_app x y)
section
variable {w : World} {P : Params} {f g : Bool} {s₀ s : Shared} {B₀ B : FM} {mu : MU} {A : Around} {E : Value → Shared → Prop} {env : Env} {Q : Value → Shared → Prop}
theorem sums_spec {el : Addr} {ev : List Value} {n : Nat} {ents : List Ent} (S : Sit P false g B s.heap s.gens) (hA : AOk 10 A) (hel : B el = some (lstO ev n)) (hev : Reps B ev (ents.map Ent.d)) (ok : ∀ e ∈ ents, EntOk e) (ok2 : ∀ e ∈ ents, e.cs.length ≤ 100) (hlen : ents.length ≤ 50) (hcl : ∀ i, (callersZ (ents.take i)).length ≤ 300)
    (k : ∀ D s' B', Mv B B' s s' → Sit P false g B' s'.heap s'.gens → Rep B' (.ref D) (entD (sumsE ents)) → Q (.ref D) s') : wpAny (model prg w) A (call (.ref 106) [.ref el]) Q E s := by
  have hvl : ev.length = ents.length := by rw [hev.length, List.length_map]
  refine call_def S hA (def_sums S.stat) (bind_pure (binds := [("entries", .ref el)]) (by rfl)) (.cell (i := 3) rfl rfl rfl .nil) fun h' tk cx => ?_
  generalize s.heap.objs.size = L at cx ⊢
  have hA1 : AOk 9 (A.deeper (envD (nameAt 14) (scAt 14) [] 106 105 L)) := hA.deeper
  have cx1 : Cx P false g s B B [(L, NsP []), (L + 1 + 1 + 1 + 1, CellP none), (L + 1 + 1 + 1, CellP none), (L + 1 + 1, CellP none), (L + 1, CellP (some (.ref el)))] h' s.gens s.os := cx
  clear cx
  refine wpAny_execs_cons (wpAny_Assign_Name (ev_list rfl (nLst cx1 (by simp) fun c0 h2 B2 hle2 hc0 cx2 => ?_)))
  refine stC (c := L + 1 + 1) 3 cx2 rfl rfl rfl (fun h3 cx3 => ?_)
  refine wpAny_execs_cons (wpAny_For (ld_cell (s := { s with heap := h3, toks := tk }) (c := L + 1) cx3 rfl (.tail _ (.tail _ (.tail _ (.tail _ (.head _))))) ?_))
  refine itL cx3 hA1.handled (hle2 _ _ hel) fun I st h4 W cx4 => ?_
  refine for_cx (s := { s with heap := h4, toks := tk }) W (fun i B' mu => B2.le B' ∧ ∃ l ca cv cn, mu = [(L, NsP l), (L + 1 + 1 + 1 + 1, CellP none), (L + 1 + 1 + 1, CellP none), (L + 1 + 1, CellP (some (.ref ca))), (L + 1, CellP (some (.ref el)))] ∧ B' ca = some (lstO cv cn) ∧ IntsAre cv (callersZ (ents.take i))) (FM.le.refl _) cx4
    ⟨FM.le.refl _, _, c0, [], 0, rfl, hc0, .nil⟩ ?_ ?_
  · intro i v B5 mu st' s5 hi5 hv hy1 _ cx5
    refine absF fun K1 hK1 => ?_
    obtain ⟨hle5, l, ca, cv, cn, rfl, hca, hcv⟩ := hy1
    obtain ⟨e, he⟩ : ∃ e, ents[i]? = some e := ⟨_, List.getElem?_eq_getElem (by omega)⟩
    obtain ⟨v', hv', hrep⟩ := hev.get (i := i) (d := e.d) (by rw [List.getElem?_map, he]; rfl)
    rw [hv] at hv'
    cases hv'
    have l05 := hle2.trans hle5
    obtain ⟨ea, t1, t2, t3, t4, td, ne, z1, z2, z3, z4, rfl, e4, heB, hdt⟩ := ent_open (hrep.le l05) (ok e (List.mem_of_getElem? he))
    have cx6 : Cx P false g s B B5 ((L, NsP l) :: [(L + 1 + 1 + 1 + 1, CellP none), (L + 1 + 1 + 1, CellP none), (L + 1 + 1, CellP (some (.ref ca))), (L + 1, CellP (some (.ref el))), (I, st')]) s5.heap s5.gens s5.os := cx5.perm (List.perm_append_comm (l₁ := [_]) (l₂ := [_, _, _, _, _]))
    refine wpAny_assign_Name (stL (env := envD (nameAt 14) (scAt 14) [] 106 105 L) cx6 rfl (fun h7 tk7 cx7 => ?_) rfl)
    refine wpAny_execs_cons (wpAny_Assign_Name (absQ fun KQ1 hQ1 => wpAny_BinOp (ld_cell (s := { s5 with heap := h7, toks := tk7 }) (c := L + 1 + 1) cx7 rfl (.tail _ (.tail _ (.tail _ (.head _)))) ?_)))
    refine wpAny_comprehension_free (cl := [("callers", L + 1 + 1)]) rfl (fun _ => rfl) rfl rfl (by decide) ?_
    refine subT rfl (ld_local (s := { s5 with heap := h7, toks := tk7 }) (env := envD (nameAt 14) (scAt 14) [] 106 105 L) cx7 (.head _) (by walk_at "mqlk") (eI fun tt tk8 => ⟨ea, _, 4, tt, .ref td, rfl, rfl, isTup_of cx7.sit.inB heB, by decide, by decide, rfl, ?_⟩))
    refine iter_dict (s := { s5 with heap := h7, toks := tk8 }) cx7 hA1.handled hdt fun I2 st2 h9 W2 cx9 => ?_
    have hcs := ok2 e (List.mem_of_getElem? he)
    refine comp_name (s := { s5 with heap := h9, toks := tk8 }) W2 (by omega) (fun j B' ys => B5.le B' ∧ IntsAre ys (((e.cs.map (·.1)).take j).filter fun c => !((callersZ (ents.take i)).any (· == c)))) (FM.le.refl _) cx9 ⟨FM.le.refl _, .nil⟩ ?_ ?_
    · intro C D j v2 B10 ys st3 s10 hj hv10 hy10 _ cx10
      refine absC fun K K0 hK hK0 => ?_
      obtain ⟨tc, p, hp, rfl⟩ := hv10
      obtain ⟨hle10, hys⟩ := hy10
      have hp1 : (e.cs.map (·.1))[j]? = some p.1 := by rw [List.getElem?_map, hp]; rfl
      refine wpAny_tests_one (wpAny_isTrue_Compare1 (ld_local cx10 (.head _) rfl (ld_cell (c := L + 1 + 1) cx10 rfl (.tail _ (.tail _ (.tail _ (.tail _ (.tail _ (.tail _ (.head _))))))) (notin_list_ints (isList_of cx10.sit.inB (hle10 _ _ hca)) hcv (wpAny_truthy_bool ?_)))))
      have e20 := take_filter_snoc (fun c => !((callersZ (ents.take i)).any (· == c))) (e.cs.map (·.1)) j p.1 hp1
      cases hne : (!((callersZ (ents.take i)).any (· == p.1))) with
      | false =>
        first | refine ifF ?_ | refine wpAny_ite_false rfl ?_ | rw [if_neg (by decide)]
        refine hK0 _ ⟨B10, ⟨hle10, ?_⟩, FM.le.refl _, cx10⟩
        rw [e20, hne]; simpa using hys
      | true =>
        first | refine ifT ?_ | refine wpAny_ite_true rfl ?_ | rw [if_pos rfl]
        refine ld_local cx10 (.head _) rfl (hK _ _ ⟨B10, ⟨hle10, ?_⟩, FM.le.refl _, cx10⟩)
        rw [e20, hne]; exact ints_snoc hys
    · rintro D B10 ys m10 s10 ⟨hle10, hys⟩ _ hD cx10
      rw [show e.cs.length = (e.cs.map (·.1)).length from by simp, List.take_length] at hys
      have hle11 := FM.le_put (o := lstO ys m10) hD
      have b1 : cv.length ≤ 300 := by rw [hcv.length]; exact hcl i
      have b2 : ys.length ≤ 100 := by rw [hys.length]; refine Nat.le_trans (List.length_filter_le _ _) (by simpa using hcs)
      refine addL cx10 ((hle10.trans hle11) _ _ hca) (FM.put_self ..) (by omega) fun c12 h12 B12 hle12 hc12 cx12 => hQ1 _ _ ?_
      have l5_12 := hle10.trans (hle11.trans hle12)
      refine stC (c := L + 1 + 1) 3 cx12 rfl rfl rfl (fun h13 cx13 => ?_)
      refine wpAny_execs_nil (hK1 _ _ ⟨B12, [(L, NsP _), (L + 1 + 1 + 1 + 1, CellP none), (L + 1 + 1 + 1, CellP none), (L + 1 + 1, CellP (some (.ref c12))), (L + 1, CellP (some (.ref el)))], ⟨hle5.trans l5_12, _, c12, _, _, rfl, hc12, ?_⟩, l5_12, cx13.perm (List.perm_append_comm (l₁ := [_]) (l₂ := [_, _, _, _, _])).symm⟩)
      unfold callersZ
      rw [take_foldA _ _ _ he]
      exact ints_app hcv hys
  · rintro B5 mu s5 ⟨hle5, l, ca, cv, cn, rfl, hca, hcv⟩ _ cx5
    rw [hvl, List.take_length] at hcv
    have l05 := hle2.trans hle5
    have clen : (callersZ ents).length ≤ 300 := by have := hcl ents.length; rw [List.take_length] at this; exact this
    refine wpAny_execs_cons (wpAny_Assign_Name (ev_list rfl (nMu cx5 (by simp) fun T h6 cx6 => ?_)))
    have cx6' : Cx P false g s B B5 ((L, NsP l) :: [(L + 1 + 1 + 1 + 1, CellP none), (L + 1 + 1 + 1, CellP none), (L + 1 + 1, CellP (some (.ref ca))), (L + 1, CellP (some (.ref el))), (T, LstP [])]) h6 s5.gens s5.os := cx6.perm (List.perm_append_comm (l₁ := [_]) (l₂ := [_, _, _, _, _]))
    refine stL (env := envD (nameAt 14) (scAt 14) [] 106 105 L) cx6' rfl (fun h7 tk7 cx7 => ?_) rfl
    refine wpAny_execs_cons (wpAny_For (ld_cell (s := { s5 with heap := h7, toks := tk7 }) (c := L + 1 + 1) cx7 rfl (.tail _ (.tail _ (.tail _ (.head _)))) ?_))
    refine itL cx7 hA1.handled hca fun I st h8 W cx8 => ?_
    have hcvl : cv.length = (callersZ ents).length := hcv.length
    refine for_cx (s := { s5 with heap := h8, toks := tk7 }) W (fun i B' mu => B5.le B' ∧ ∃ l v1 v2 ts, mu = [(L, NsP l), (L + 1 + 1 + 1 + 1, CellP v1), (L + 1 + 1 + 1, CellP v2), (L + 1 + 1, CellP (some (.ref ca))), (L + 1, CellP (some (.ref el))), (T, LstP ts)] ∧ has l "table" (.ref T) ∧ Reps B' ts (((callersZ ents).take i).map fun c => D.tup [.int c, fourD (colsZ (foursZ c ents))])) (FM.le.refl _) cx8
      ⟨FM.le.refl _, _, none, none, [], rfl, ?_, .nil⟩ ?_ ?_
    · show List.lookup _ _ = _; walk_at "mqlk"
    · intro i v B9 mu st' s9 hi9 hv hy9 _ cx9
      refine absF fun K2 hK2 => ?_
      obtain ⟨hle9, l, v1, v2, ts, rfl, hlT, hts⟩ := hy9
      obtain ⟨c, hc⟩ : ∃ c, (callersZ ents)[i]? = some c := ⟨_, List.getElem?_eq_getElem (by omega)⟩
      obtain ⟨tc, hcv1⟩ := hcv.get i c hc
      rw [hv] at hcv1
      cases hcv1
      have l09 := l05.trans hle9
      have cx10 : Cx P false g s B B9 ((L, NsP l) :: [(L + 1 + 1 + 1 + 1, CellP v1), (L + 1 + 1 + 1, CellP v2), (L + 1 + 1, CellP (some (.ref ca))), (L + 1, CellP (some (.ref el))), (T, LstP ts), (I, st')]) s9.heap s9.gens s9.os := cx9.perm (List.perm_append_comm (l₁ := [_]) (l₂ := [_, _, _, _, _, _]))
      refine wpAny_assign_Name (stC (env := envD (nameAt 14) (scAt 14) [] 106 105 L) (c := L + 1 + 1 + 1) 2 cx10 rfl rfl rfl (fun h11 cx11 => ?_))
      refine wpAny_execs_cons (wpAny_Assign_Name (absQ fun KQ2 hQ2 => ?_))
      refine wpAny_comprehension_free (cl := [("caller", L + 1 + 1 + 1)]) rfl (fun _ => rfl) rfl rfl (by decide) ?_
      refine ld_cell (s := { s9 with heap := h11 }) (c := L + 1) cx11 rfl (.tail _ (.tail _ (.tail _ (.tail _ (.head _))))) ?_
      refine itL cx11 hA1.handled (l09 _ _ hel) fun I2 st2 h12 W2 cx12 => ?_
      refine comp_name (s := { s9 with heap := h12 }) W2 (by omega) (fun j B' ys => B9.le B' ∧ ColsOk B' ys (foursZ c (ents.take j))) (FM.le.refl _) cx12 ⟨FM.le.refl _, ⟨rfl, fun j v h => by simp at h⟩⟩ ?_ ?_
      · intro C2 D2 j v3 B13 ys st3 s13 hj hv3 hy13 _ cx13
        refine absC fun K K0 hK hK0 => ?_
        obtain ⟨hle13, hys⟩ := hy13
        obtain ⟨e, he⟩ : ∃ e, ents[j]? = some e := ⟨_, List.getElem?_eq_getElem (by omega)⟩
        obtain ⟨v', hv', hrep⟩ := hev.get (i := j) (d := e.d) (by rw [List.getElem?_map, he]; rfl)
        rw [hv3] at hv'
        cases hv'
        obtain ⟨ea, t1, t2, t3, t4, td, ne, z1, z2, z3, z4, rfl, e4, heB, hdt⟩ := ent_open (hrep.le (l09.trans hle13)) (ok e (List.mem_of_getElem? he))
        have efz : foursZ c (ents.take (j + 1)) = foursZ c (ents.take j) ++ (match atZ c e.cs with | some q => [q] | none => []) := by
          unfold foursZ
          rw [List.take_add_one, he, List.filterMap_append]
          show _ ++ List.filterMap _ [e] = _
          rw [List.filterMap_cons]
          cases atZ c e.cs <;> rfl
        have hdt0 := hdt
        cases hdt0 with
        | dct hdB hdD hdK hdN =>
        have hat := hdK.at c
        rw [atZ_D] at hat
        refine wpAny_tests_one (wpAny_isTrue_Compare1 (ld_cell (c := L + 1 + 1 + 1) cx13 rfl (.tail _ (.tail _ (.tail _ (.tail _ (.tail _ (.head _)))))) ?_))
        refine subT rfl (ld_local cx13 (.head _) rfl (eI fun tt tk14 => ⟨ea, _, 4, tt, .ref td, rfl, rfl, isTup_of cx13.sit.inB heB, by decide, by decide, rfl, ?_⟩))
        refine in_dict (s := { s13 with toks := tk14 }) (cx13.sit.inB _ _ hdB) hdD hdN fun tk15 => wpAny_truthy_bool ?_
        rcases hat with ⟨a1, a2⟩ | ⟨d, v4, a1, a2, r4⟩
        · have a3 : atZ c e.cs = none := by
            cases hh : atZ c e.cs with
            | none => rfl
            | some o => rw [hh] at a1; cases a1
          rw [a2, Option.isSome_none, if_neg (by decide)]
          refine hK0 _ ⟨B13, ⟨hle13, ?_⟩, FM.le.refl _, cx13⟩
          rw [efz, a3, List.append_nil]; exact hys
        · obtain ⟨o, a3, rfl⟩ : ∃ o, atZ c e.cs = some o ∧ fourD o = d := by
            cases hh : atZ c e.cs with
            | none => rw [hh] at a1; cases a1
            | some o => rw [hh] at a1; exact ⟨o, rfl, Option.some.inj a1⟩
          obtain ⟨ca4, ws4, n4, rfl, hca4, hi4⟩ := four_tup r4
          have ho4 : o.length = 4 := by
            obtain ⟨p, hp, _, e3⟩ := atZ_mem a3
            rw [← e3]; exact (ok e (List.mem_of_getElem? he)).cs p hp
          rw [a2, Option.isSome_some, if_pos rfl]
          refine sub_dict rfl (subT rfl (ld_local (s := { s13 with toks := tk15 }) cx13 (.head _) rfl (eI fun tt tk16 => ⟨ea, _, 4, tt, .ref td, rfl, rfl, isTup_of cx13.sit.inB heB, by decide, by decide, rfl, ?_⟩)))
          refine ld_cell (s := { s13 with toks := tk16 }) (c := L + 1 + 1 + 1) cx13 rfl (.tail _ (.tail _ (.tail _ (.tail _ (.tail _ (.head _)))))) ⟨td, _, _, c, tc, _, rfl, rfl, cx13.sit.inB _ _ hdB, hdD, a2, fun tk17 => ?_⟩
          refine hK _ _ ⟨B13, ⟨hle13, ?_⟩, FM.le.refl _, cx13⟩
          rw [efz, a3]
          refine ⟨by rw [List.length_append, List.length_append, hys.len]; rfl, fun jj vv hjj => ?_⟩
          by_cases hjl : jj < ys.length
          · rw [List.getElem?_append_left hjl] at hjj
            obtain ⟨a, ws, nn, q, b1, b2, b3, b4⟩ := hys.h jj vv hjj
            exact ⟨a, ws, nn, q, b1, b2, by rw [List.getElem?_append_left (by rw [← hys.len]; exact hjl)]; exact b3, b4⟩
          · rw [List.getElem?_append_right (by omega)] at hjj
            have hj0 : jj - ys.length = 0 := by
              cases hq : jj - ys.length with
              | zero => rfl
              | succ m => rw [hq] at hjj; simp at hjj
            rw [hj0] at hjj
            cases hjj
            refine ⟨ca4, ws4, n4, o, rfl, hca4, ?_, fun kk hkk => ?_⟩
            · rw [List.getElem?_append_right (by rw [← hys.len]; omega), ← hys.len, hj0]; rfl
            · have hko : kk < o.length := by omega
              obtain ⟨t5, ht5⟩ := hi4.get kk o[kk] (List.getElem?_eq_getElem hko)
              exact ⟨t5, by rw [ht5, List.getD_eq_getElem?_getD, List.getElem?_eq_getElem hko]; rfl⟩
      · rintro D2 B13 ys m2 s13 ⟨hle13, hys⟩ _ hD2 cx13
        refine hQ2 _ _ ?_
        refine stC (env := envD (nameAt 14) (scAt 14) [] 106 105 L) (c := L + 1 + 1 + 1 + 1) 1 cx13 rfl rfl rfl (fun h14 cx14 => ?_)
        rw [hvl, List.take_length] at hys
        have hle14 := FM.le_put (o := lstO ys m2) hD2
        have l9_14 := hle13.trans hle14
        refine wpAny_execs_cons (wpAny_Expr_any ?_)
        refine mApp 5 (D := T) (ys := ts) (fun Q' q => ld_local (s := { s13 with heap := h14 }) (env := envD (nameAt 14) (scAt 14) [] 106 105 L) cx14 (.head _) (by walk_at "mqlk") q) (cx14.mus (T, LstP ts) (.tail _ (.tail _ (.tail _ (.tail _ (.tail _ (.head _))))))) ?_
        refine ev_tuple rfl (ld_cell (s := { s13 with heap := h14 }) (c := L + 1 + 1 + 1) cx14 rfl (.tail _ (.tail _ (.head _))) ?_)
        refine ev_call rfl rfl (ldB (s := { s13 with heap := h14 }) cx14.sit (blt_tuple P) ?_)
        have yl : ys.length ≤ 100 := by
          rw [hys.len]; exact Nat.le_trans (List.length_filterMap_le _ _) (by omega)
        refine cols_four (s := { s13 with heap := h14 }) (fl := D2) (L := L) cx14 (hA1.less (by decide)) rfl (.tail _ (.head _)) (FM.put_self ..) (hys.le hle14) yl fun D15 c15 s15 ys15 B15 hle15 hD15 hi15 cx15 => ?_
        refine ⟨keep_type _, ?_⟩
        have y15 : ys15.length = 4 := by rw [hi15.length]; unfold colsZ; simp
        refine call_tuple_l cx15 hD15 (by omega) fun D16 h16 tk16 B16 hle16 hD16 cx16 => ?_
        refine nTup cx16 (by simp) fun T17 h17 B17 hle17 hT17 cx17 => ?_
        have tsl : ts.length ≤ 1000 := by have := hts.length; rw [List.length_map, List.length_take] at this; omega
        refine ⟨cx17, rfl, tsl, fun h18 cx18 => ?_⟩
        have l14_17 := hle15.trans (hle16.trans hle17)
        refine wpAny_execs_nil (hK2 _ _ ⟨B17, [(L, NsP _), (L + 1 + 1 + 1 + 1, CellP _), (L + 1 + 1 + 1, CellP _), (L + 1 + 1, CellP _), (L + 1, CellP _), (T, LstP _)], ⟨hle9.trans (l9_14.trans l14_17), _, _, _, _, rfl, hlT, ?_⟩, l9_14.trans l14_17, cx18.perm (List.perm_append_comm (l₁ := [_]) (l₂ := [_, _, _, _, _, _])).symm⟩)
        rw [List.take_add_one, hc, List.map_append]
        refine (hts.le (l9_14.trans l14_17)).app (.cons ?_ .nil)
        exact .tup hT17 (.cons (.int ..) (.cons (.tup (hle17 _ _ hD16) (reps_ints hi15)) .nil))
    · rintro B9 mu s9 ⟨hle9, l, v1, v2, ts, rfl, hlT, hts⟩ _ cx9
      rw [hcvl, List.take_length] at hts
      have l09 := l05.trans hle9
      refine wpAny_execs_cons (wpAny_Return_some (ev_list rfl ?_))
      refine cols_entry (L := L) cx9 (hA1.less (by decide)) rfl (.tail _ (.tail _ (.tail _ (.tail _ (.head _))))) (l09 _ _ hel) (ents_cols (hev.le l09) ok) (by omega) fun D10 c10 s10 ys10 B10 hle10 hD10 hi10 cx10 => ?_
      refine ld_local (env := envD (nameAt 14) (scAt 14) [] 106 105 L) cx10 (.head _) hlT ?_
      have cx11 : Cx P false g s B B10 ((T, LstP ts) :: []) s10.heap s10.gens s10.os := cx10.sub (by
        refine List.Sublist.cons _ (List.Sublist.cons _ (List.Sublist.cons _ (List.Sublist.cons _ (List.Sublist.cons _ (List.Sublist.refl _)))))
        )
      obtain ⟨oT, ⟨cT, rfl⟩, _, nT, cx12⟩ := cx11.freeze
      have hle12 := FM.le_put (o := lstO ts cT) nT
      refine nLst cx12 (by simp) fun R13 h13 B13 hle13 hR13 cx13 => ?_
      refine k R13 _ B13 (Cx.mv (s' := { s10 with heap := h13 }) cx13) cx13.sit ?_
      refine rep_ent ((hle12.trans hle13) _ _ hD10) hi10 (hle13 _ _ (FM.put_self ..)) ?_ hR13
      have e5 : (sumsE ents).cs.map (fun p => D.tup [.int p.1, fourD p.2]) = (callersZ ents).map fun c => D.tup [.int c, fourD (colsZ (foursZ c ents))] := by
        unfold sumsE; dsimp only; rw [List.map_map]; rfl
      rw [e5]
      exact hts.le (hle10.trans (hle12.trans hle13))
end
end Mine
end
section
open PySem PySem.W PyProof.Rows PySem.Builtin
set_option Elab.async false
set_option maxRecDepth 100000
set_option maxHeartbeats 4000000
set_option linter.unusedVariables false
namespace Mine
section
variable {w : World} {P : Params} {f g : Bool} {s₀ s : Shared} {B₀ B : FM} {mu : MU} {h h' : Heap} {gs : Array GenState} {os : OsState} {A : Around} {E : Value → Shared → Prop} {env : Env} {KR : FM → Value → Value → Prop}
theorem collect_rng {r : Addr} {n : Nat} {t u v : Tok} {R : List Value → Shared → Prop} (hh : A.handled = none) (hr : IsRange s.heap r 0 n 1 t u v) (hn : n ≤ 1000)
    (h : ∀ (h' : Heap) (tk : Nat) (vs : List Value), (∀ b o, s.heap.get? b = some o → h'.get? b = some o) → vs.length = n → (∀ (i : Nat) (v : Value), vs[i]? = some v → ∃ t, v = Value.int i t) → R vs { s with heap := h', toks := tk }) :
    wpAny (model prg w) A (collect (.ref r)) R E s := by
  have hsz : Builtin.Range.rangeSize 0 (n : Int) 1 = (n : Int) := by
    unfold Builtin.Range.rangeSize
    rw [if_pos (by decide)]
    split
    · rw [Int.ediv_one]; omega
    · omega
  have hsmall : Builtin.Range.small 0 (n : Int) 1 = true := by
    unfold Builtin.Range.small Builtin.Range.rangeFitsLong
    rw [hsz]
    simp; omega
  unfold collect
  refine wpAny_bind (wpAny_runValue (codeAny_builtin entry_proto_collect' ?_))
  rw [Around.under_plainId PySem.F.plain_proto_collect _]
  show wpAny _ A.in1 (newList [] >>= fun l => again (.builtin "list.__iadd__" ⟨[l, .ref r], []⟩)) _ _ s
  refine wpAny_bind (wpAny_newObj_type ?_)
  refine wpAny_pure ⟨plainId_quiet PySem.F.plain_list_iadd _, codeAny_builtin entry_list_iadd' ?_⟩
  rw [Around.under_plainId PySem.F.plain_list_iadd _]
  have hS₁ : (s.heap.push { cls := .type "list", data := .seq ([] : List Value).toArray }).get? s.heap.objs.size = some { cls := .type "list", data := .seq #[] } := Heap.get?_push_size _ rfl
  show wpAny _ A.in1 (Builtin.List.listExtendWith (.ref s.heap.objs.size) (.ref r) (.ref s.heap.objs.size)) _ _ _
  have hr1 : IsRange (s.heap.push { cls := .type "list", data := .seq ([] : List Value).toArray }) r 0 n 1 t u v := Heap.get?_push_of_some _ hr
  have key := wpAny_extend_range (prog := prg) (w := w) (A := A) (s := { s with heap := s.heap.push { cls := .type "list", data := .seq ([] : List Value).toArray } })
    (R := fun (q : Result) (s' : Shared) => ∃ (h' : Heap) (tk : Nat) (acc' : Array Value) (c' : Nat), q = .ok (.ret (.ref s.heap.objs.size)) ∧ s' = { s with heap := h', toks := tk } ∧
      (∀ b o, s.heap.get? b = some o → h'.get? b = some o) ∧ h'.get? s.heap.objs.size = some { cls := .type "list", dict := none, data := .seq acc' c', slots := #[] } ∧ ItemsOf (fun i v => ∃ t, v = .int (0 + i * 1) t) acc' n)
    hh hr1 hsmall hsz (by omega) s.heap.objs.size (.ref s.heap.objs.size) 0 hS₁
    (fun h' tk acc' c' hk hS' hacc => ⟨h', tk, acc', c', rfl, rfl, fun b o e => hk b o (Nat.ne_of_lt (Heap.lt_size e)) (Heap.get?_push_of_some _ e), hS', hacc⟩)
  have fin : ∀ h' tk (acc' : Array Value) c', (∀ b o, s.heap.get? b = some o → h'.get? b = some o) → h'.get? s.heap.objs.size = some { cls := .type "list", dict := none, data := .seq acc' c', slots := #[] } → ItemsOf (fun i v => ∃ t, v = .int (0 + i * 1) t) acc' n →
      R acc'.toList { s with heap := h', toks := tk } := fun h' tk acc' c' hk hS' hacc => h h' tk acc'.toList hk (by rw [Array.length_toList]; exact hacc.1) fun i v hv => by
    obtain ⟨t, ht⟩ := hacc.2 i v (by simpa using hv)
    exact ⟨t, by rw [ht, Int.zero_add, Int.mul_one]⟩
  refine wpAny_mono key (fun fin' s' x => ?_) fun e s' x => ?_
  · cases fin' with
    | done f =>
      obtain ⟨h', tk, acc', c', e, rfl, hk, hS', hacc⟩ := x
      cases e
      show wpAny _ A (load s.heap.objs.size >>= _) _ _ _
      exact wpAny_bind (wpAny_load hS' (wpAny_pure (fin h' tk acc' c' hk hS' hacc)))
    | again c₁ =>
      refine ⟨x.1, codeAny_mono x.2 fun q s₂ y => ?_⟩
      obtain ⟨h', tk, acc', c', rfl, rfl, hk, hS', hacc⟩ := y
      show wpAny _ A (load s.heap.objs.size >>= _) _ _ _
      exact wpAny_bind (wpAny_load hS' (wpAny_pure (fin h' tk acc' c' hk hS' hacc)))
  · obtain ⟨_, _, _, _, e', _⟩ := x
    cases e'
end
end Mine
end
section
open PySem PySem.W PyProof.Rows PySem.Calls PySem.Builtin
set_option Elab.async false
set_option maxRecDepth 100000
set_option maxHeartbeats 4000000
set_option linter.unusedVariables false
namespace Mine
section
variable {w : World} {P : Params} {f g : Bool} {s₀ s : Shared} {B₀ B : FM} {mu : MU} {h h' : Heap} {gs : Array GenState} {os : OsState} {A : Around} {E : Value → Shared → Prop} {env : Env} {KR : FM → Value → Value → Prop}
theorem sorted_rng {r fn L : Addr} {N : Nat} {t u v : Tok} {l : List (Str × Value)} {T : Value} {lt : Nat → Nat → Bool} {Q : Value → Shared → Prop} (cx : Cx P f g s₀ B₀ B ((L, NsP l) :: mu) s.heap s.gens s.os) (hh : A.handled = none)
    (hr : IsRange s.heap r 0 N 1 t u v) (h2 : 2 ≤ N) (h64 : N < 64) (hm : ∀ B B' k v, FM.le B B' → KR B k v → KR B' k v) (asks : G lt N (kas_sort N) (fun a => a = runT lt (kas_sort N))) (hin : ∀ i ∈ (runT lt (kas_sort N)).toList, i < N)
    (hT : ∀ B' h k v, B'.inn h → KR B' k v → Looks (model prg w) h (typeOf k) T) (hT1 : (T != Value.type "tuple") = true) (hT2 : (T == T) = true)
    (hcall : ∀ (i : Nat) t, i < N → ∀ s B', B.le B' → Sit P f g B' s.heap s.gens → wpAny (model prg w) A.in1.in1 (call (.ref fn) [.int i t]) (fun k s' => ∃ B2, Mv B' B2 s s' ∧ Sit P f g B2 s'.heap s'.gens ∧ KR B2 k (.int i t)) (fun _ _ => False) s)
    (hlt : ∀ (i j : Nat), i < N → j < N → ∀ ti tj s B' ki kj, B.le B' → KR B' ki (.int i ti) → KR B' kj (.int j tj) → Sit P f g B' s.heap s.gens → ∀ Q : Bool → Shared → Prop, (∀ s' B'', Mv B' B'' s s' → Sit P f g B'' s'.heap s'.gens → Q (lt i j) s') → wpAny (model prg w) A.in1.in1 (keyLt' oneType' ki kj) Q (fun _ _ => False) s)
    (k : ∀ D c s' B' vs', B.le B' → IntsAre vs' ((runT lt (kas_sort N)).toList.map fun i : Nat => (i : Int)) → Cx P f g s₀ B₀ B' ((D, EqP (lstO vs' c)) :: (L, NsP l) :: mu) s'.heap s'.gens s'.os → Q (.ref D) s') :
    wpAny (model prg w) A (call (.builtin "sorted") [.ref r] [("key", .ref fn)]) Q E s := by
  refine call_function_entry_kw kind_sorted plain_sorted entry_sorted (ksk_s1 _ _) ?_
  unfold Builtin.«sorted»
  refine wpAny_bind (m := checkCount "sorted" 1 1 _) (wpAny_pure ?_)
  refine wpAny_bind (collect_rng hh hr (by omega) fun h1 tk1 vs keep1 hvl hvs => ?_)
  have cx1 := cx.grow keep1
  refine wpAny_bind (wpAny_newList ?_ (by rw [sizeLine_eq]; omega))
  have cx2 := cx1.pushMu (p := EqP (seqObj "list" vs.toArray 0)) (o := seqObj "list" vs.toArray 0) ⟨rfl⟩
  have hoL : (h1.push (seqObj "list" vs.toArray 0)).get? h1.objs.size = some (seqObj "list" vs.toArray 0) := Heap.get?_push_size _ rfl
  refine wpAny_bind (wpAny_holding (wpAny_call_entry_kw slot_list_sort ⟨_, hoL, rfl⟩ entry_list_sort ?body (ksk_l1 _ _)))
  case body =>
    show wpAny (model prg w) A.in1.in1 (Builtin.«list.sort» ⟨[.ref h1.objs.size], [(Str.ofString "key", .ref fn)]⟩) _ _ _
    rw [ksk_t1]
    generalize hDD : h1.objs.size = D at *
    generalize hgg : h1.push (seqObj "list" vs.toArray 0) = h2 at *
    have hL : (L, NsP l) ∈ (L, NsP l) :: mu := .head _
    obtain ⟨m1, m2, m3⟩ := cx2.news hL
    refine kat_keyed (s := { s with heap := h2, toks := tk1 }) (h₀ := H0) (L := L) (m := fun n => l.lookup n) (news := allBut h2 [D, L]) (b := false) (vs := vs) (fr0 (cx2.nsAt (.tail _ (.head _)))) (fun p hp => m1 p (.tail _ hp)) hoL m2 rfl (fun p hp => ?_) (by omega) (by omega) fun kS e1 h3 F3 N3 l0 l1 => ?_
    · obtain ⟨b, ob⟩ := p
      obtain ⟨q1, q2⟩ := mem_allBut.mp hp
      exact fun z => q1 (by rw [show b = D from z]; simp)
    · have kfresh : h2.get? kS = none := by
        cases q : h2.get? kS with
        | none => rfl
        | some o =>
          have hkL : kS ≠ L := (N3 _ (.head _)).2.1
          by_cases hkD : kS = D
          · rw [hkD] at l0; exact absurd l0 (Nat.lt_irrefl _)
          · exact absurd (l1 (kS, o) (mem_allBut.mpr ⟨by simp [hkD, hkL], q⟩)) (Nat.lt_irrefl _)
      have cx3 : Cx P f g s₀ B₀ B ([(kS, EqP (seqObj "list" #[] 0))] ++ ((D, EqP (seqObj "list" #[] e1)) :: (L, NsP l) :: mu)) h3 s.gens s.os := by
        refine cx2.remakeN rfl (fun b o hb e => ?_) (fun p hp => ?_) (by simp) fun p hp => ?_
        · exact (N3 (b, o) (.tail _ (.tail _ (mem_allBut.mpr ⟨fun z => hb (by simp at z; rcases z with z | z <;> simp [z]), e⟩)))).1
        · rw [List.mem_singleton.mp hp]; exact kfresh
        · simp only [List.cons_append, List.nil_append, List.mem_cons] at hp
          rcases hp with rfl | rfl | rfl | hp
          · exact ⟨_, (N3 _ (.head _)).1, ⟨rfl⟩⟩
          · exact ⟨_, (N3 _ (.tail _ (.head _))).1, ⟨rfl⟩⟩
          · exact nsP_of F3.ns fun _ => rfl
          · obtain ⟨ob, e, rr⟩ := cx2.mus p (.tail _ (.tail _ hp))
            exact ⟨ob, (N3 (p.1, ob) (.tail _ (.tail _ (mem_allBut.mpr ⟨by simp [cx2.headNe (.tail _ hp), (cx2.tail rfl).headNe hp], e⟩)))).1, rr⟩
      have cx4 : Cx P f g s₀ B₀ B ((kS, EqP (seqObj "list" (List.toArray []) 0)) :: (D, EqP (seqObj "list" #[] e1)) :: (L, NsP l) :: mu) h3 s.gens s.os := cx3
      refine key_loop (KR := KR) hm vs [] [] 0 { s with heap := h3, toks := tk1 } B cx4 .nil (fun v hv s' B' hB' S' => ?_) fun ks e s' B' hB' cx5 hk => ?_
      · obtain ⟨i, hi⟩ := List.mem_iff_getElem?.mp hv
        obtain ⟨t', rfl⟩ := hvs i v hi
        exact hcall i t' (by have := (List.getElem?_eq_some_iff.mp hi).1; omega) s' B' hB' S'
      · rw [List.nil_append] at hk
        have hlen := hk.len
        refine kas_kind (by omega) (fun v hv => let ⟨v', _, r⟩ := hk.mem hv; hT B' _ _ _ cx5.sit.inB r) hT1 hT2 ?_
        rw [hvl]
        refine kas_pure (n := N) (lt := lt) (I := fun s' => ∃ B', B.le B' ∧ Cx P f g s₀ B₀ B' ((kS, EqP (seqObj "list" ks.toArray e)) :: (D, EqP (seqObj "list" #[] e1)) :: (L, NsP l) :: mu) s'.heap s'.gens s'.os ∧ KRs KR B' ks vs) ?_ _ _ _ asks ⟨B', hB', cx5, hk⟩ ?_
        · rintro i j s4 C hi hj ⟨B4, hB4, cx6, hk4⟩ hC
          have gi : ∃ t, vs.getD i .none = Value.int i t := by
            have : i < vs.length := by omega
            obtain ⟨t', e'⟩ := hvs i vs[i] (List.getElem?_eq_getElem this)
            exact ⟨t', by rw [List.getD_eq_getElem?_getD, List.getElem?_eq_getElem this]; exact e'⟩
          have gj : ∃ t, vs.getD j .none = Value.int j t := by
            have : j < vs.length := by omega
            obtain ⟨t', e'⟩ := hvs j vs[j] (List.getElem?_eq_getElem this)
            exact ⟨t', by rw [List.getD_eq_getElem?_getD, List.getElem?_eq_getElem this]; exact e'⟩
          obtain ⟨ti, ei⟩ := gi
          obtain ⟨tj, ej⟩ := gj
          have ki := hk4.at (i := i) (by omega)
          have kj := hk4.at (i := j) (by omega)
          rw [ei] at ki
          rw [ej] at kj
          exact hlt i j hi hj ti tj s4 B4 _ _ hB4 ki kj cx6.sit _ fun s5 B5 mv5 S5 => hC s5 ⟨B5, hB4.trans mv5.le, cx6.call mv5 S5, hk4.le fun k v => hm _ _ k v mv5.le⟩
        · rintro a s4 rfl ⟨B4, hB4, cx6, hk4⟩
          have hL : (L, NsP l) ∈ (D, EqP (seqObj "list" #[] e1)) :: (L, NsP l) :: mu := .tail _ (.head _)
          obtain ⟨n1, n2, n3⟩ := cx6.news hL
          refine KatFin.intro (fr0 (cx6.nsAt (.tail _ hL))) n1 n3 fun h5 c5 F5 N5 => ?_
          have cx7 := ((cx6.one hL F5 N5).perm (List.Perm.swap ..))
          have hL5 : (L, NsP l) ∈ (kS, EqP (seqObj "list" #[] c5)) :: (L, NsP l) :: mu := .tail _ (.head _)
          obtain ⟨k1, k2, k3⟩ := cx7.news hL5
          refine KasFin.intro (fr0 (cx7.nsAt (.tail _ hL5))) k1 k3 fun h6 c6 F6 N6 => ?_
          have cx8 := cx7.one hL5 F6 N6
          have out : IntsAre ((runT lt (kas_sort N)).toList.map fun i => vs.getD i Value.none) ((runT lt (kas_sort N)).toList.map fun i : Nat => (i : Int)) := by
            generalize (runT lt (kas_sort N)).toList = ol at hin
            induction ol with
            | nil => exact .nil
            | cons i ol ih =>
              have hi : i < vs.length := by have := hin i (.head _); omega
              obtain ⟨t', e'⟩ := hvs i vs[i] (List.getElem?_eq_getElem hi)
              have : vs.getD i Value.none = Value.int i t' := by rw [List.getD_eq_getElem?_getD, List.getElem?_eq_getElem hi]; exact e'
              rw [List.map_cons, List.map_cons, this]
              exact .cons _ _ (ih fun j hj => hin j (.tail _ hj))
          exact ⟨_, rfl, wpAny_pure ⟨_, rfl, k D c6 { s4 with heap := h6 } B4 _ hB4 out ((cx8.perm (List.Perm.swap ..)).tail rfl)⟩⟩
end
end Mine
end
section
open PySem PySem.W PyProof.Rows
set_option Elab.async false
set_option maxRecDepth 100000
set_option maxHeartbeats 4000000
set_option linter.unusedVariables false
namespace Mine
structure LamB (B : FM) (fa c : Addr) (name : Str) (pars : Arguments) (body : Expr) (scope : Scope) (clo : List (Str × Addr)) : Prop where
  h : ∃ fd, FnB B fa fd ∧ fd.qualname = name ∧ fd.params = pars ∧ fd.body = .expr body ∧ fd.scope = scope ∧ fd.globals = mainGlobals ∧ fd.closure = clo ∧ fd.defaults = .none ∧ fd.kwdefaults = .none ∧ fd.code = .ref c ∧ fd.builtins = builtinsNs
theorem LamB.le {B B' : FM} {fa c : Addr} {name : Str} {pars : Arguments} {body : Expr} {scope : Scope} {clo : List (Str × Addr)} (x : LamB B fa c name pars body scope clo) (h : B.le B') : LamB B' fa c name pars body scope clo :=
  let ⟨fd, a, r⟩ := x.h; ⟨fd, a.le h, r⟩
section
variable {w : World} {P : Params} {f g : Bool} {s₀ s : Shared} {B₀ B : FM} {mu : MU} {h h' : Heap} {gs : Array GenState} {os : OsState} {A : Around} {E : Value → Shared → Prop} {env : Env} {Q : Value → Shared → Prop}
theorem ld_cellB {M : Model} {x : Str} {pos : Pos} {v : Value} {c : Addr} {o : Obj} {Q : Value → Shared → Prop} (S : Sit P f g B s.heap s.gens) (hc : env.cells.lookup x = some c) (hB : B c = some o) (ho : o.data = .cell (some v)) (h : Q v s)
    (hk : env.scope.kind = .function := by rfl) (hl : env.kindOf x = some .cell := by rfl) (hd : (x == ("__debug__" : Str)) = false := by decide) : wpAny M A (eval (.Name x pos) env) Q E s :=
  wpAny_Name (wpAny_loadName_cell hk hl hc ⟨o, S.inB _ _ hB, ho⟩ h) hd
theorem TabOk.set108 {h h' : Heap} {ps : Array Value} (x : TabOk false g B h) (hs : Heap.ExtBut 108 h h') (e : h'.get? 108 = some (tabObj ps)) : TabOk false false B h' where
  t51 := let ⟨ps, e, r, q⟩ := x.t51; ⟨ps, hs _ _ (by decide) e, r, q⟩
  t58 := let ⟨ps, e, r⟩ := x.t58; ⟨ps, hs _ _ (by decide) e, r⟩
  t91 := let ⟨ps, e, r, q⟩ := x.t91; ⟨ps, hs _ _ (by decide) e, r, q⟩
  t108 := ⟨_, e, (fun z => nomatch z), fun z => nomatch z⟩
theorem mklam {name qual : Str} {params : Arguments} {body : Expr} {scope : Scope} {cl : List (Str × Addr)} {pos : Pos} {firstLine : Nat} (cx : Cx P false true s₀ B₀ B mu s.heap s.gens s.os)
    (hcl : closureFor scope env = pure cl) (hgl : env.globals = mainGlobals) (hcode : env.code = .ref 110)
    (k : ∀ fa c' h' tk B', B.le B' → LamB B' fa c' qual params body scope cl → Cx P false false s₀ B₀ B' mu h' s.gens s.os → Q (.ref fa) { s with heap := h', toks := tk }) :
    wpAny (model prg w) A (makeFunction name qual params (.expr body) scope env [] [] [] pos firstLine) Q E s := by
  obtain ⟨ps, hps, _, h0⟩ := cx.sit.tabs.t108
  have := h0 rfl
  subst this
  have C := (code_due cx.sit.stat).hd cx.sit.inB
  refine kla_makeFunction hcl hgl cx.sit.glob hcode C hps trivial rfl (by decide) (cx.sit.bm (by decide)) fun c' ctv h1 tk hx hge hlt hrec hP' => ?_
  have hc0 : s.heap.get? c' = none := get_none_ge hge
  obtain ⟨cc, oc, vs, t, e, hoc, hdc, hq⟩ := hrec
  cases e
  have hle := FM.le_put (o := oc) (cx.sit.none_of hc0)
  obtain ⟨hle1, c1⟩ := cx.tabNew (f' := false) (g' := false) (.inr (.inr (.inr rfl))) hx hc0 hoc (TabOk.set108 (h := s.heap) (cx.sit.tabs.keep hle fun _ _ _ e => e) hx hP')
  have hf0 := get_size h1
  have c3 := c1.pushB (kla_obj name qual params body scope cl ((nsFind (esOf P 3) "__name__").getD .none) c' ctv)
  have hle2 := FM.le_put (o := kla_obj name qual params body scope cl ((nsFind (esOf P 3) "__name__").getD .none) c' ctv) (c1.sit.none_of hf0)
  exact k _ c' _ tk _ (hle1.trans hle2) ⟨_, ⟨⟨_, FM.put_self .., rfl, rfl⟩, ⟨c', oc, vs, t, rfl, hle2 _ _ (FM.put_self ..), hdc, hq⟩⟩, rfl, rfl, rfl, rfl, rfl, rfl, rfl, rfl, rfl, rfl⟩ c3
theorem call_lam {fa c : Addr} {name : Str} {pars : Arguments} {body : Expr} {scope : Scope} {clo : List (Str × Addr)} {args : List Value} {binds l' : List (Str × Value)} {mu' : MU} {n : Nat}
    (S : Sit P f g B s.heap s.gens) (hA : AOk n A) (F : LamB B fa c name pars body scope clo) (hbind : bindArgs (sigD name pars .none) ⟨args, []⟩ = pure binds)
    (hb : Bound (envD name scope clo fa c s.heap.objs.size) binds [] (cellMu (cellsFrom (s.heap.objs.size + 1) scope.names [])) l' mu')
    (k : ∀ h' tk, Cx P f g s B B ((s.heap.objs.size, NsP l') :: mu') h' s.gens s.os → wpAny (model prg w) (A.deeper (envD name scope clo fa c s.heap.objs.size)) (eval body (envD name scope clo fa c s.heap.objs.size)) Q (fun _ _ => False) { s with heap := h', toks := tk })
    (hsk : (scope.kind, scope.isCoroutine, scope.isGenerator) = (.function, false, false) := by rfl) :
    wpAny (model prg w) A (call (.ref fa) args) Q E s := by
  obtain ⟨fd, FB, q1, q2, q3, q4, q5, q6, q7, q8, q9, q10⟩ := F.h
  obtain ⟨o, ho, _, hod⟩ := FB.fn
  obtain ⟨c, oc, vs, t, hc, hoc, hdc, hq⟩ := FB.code
  have h1 : fd.scope.kind = .function := by rw [q4]; exact congrArg (·.1) hsk
  have h2 : fd.scope.isCoroutine = false := by rw [q4]; exact congrArg (·.2.1) hsk
  have h3 : fd.scope.isGenerator = false := by rw [q4]; exact congrArg (·.2.2) hsk
  refine wpAny_call (kla_callFunE hA.room (S.inB _ _ ho) hod h2 h3 q3 ⟨c, oc, vs, t, hc, S.inB _ _ hoc, hdc, hq⟩ ?_)
  rw [bind_sig q1 q2 q7 q8, hbind]
  refine wpAny_pure (newEnv_cx (Cx.start S) h1 (envD name scope clo fa _ s.heap.objs.size) (by rw [q1, q4, q5, q6, q9, q10]) (by rw [List.append_nil, q4]; exact hb) fun h' tk cx => ⟨cx.sit.nolimit, ?_⟩)
  exact kla_codeExpr (wpAny_mono (k h' tk cx) (fun v s' q => q) fun _ _ x => x.elim)
end
end Mine
end
section
open PySem PySem.W PyProof.Rows
set_option Elab.async false
set_option maxRecDepth 100000
set_option maxHeartbeats 4000000
set_option linter.unusedVariables false
namespace Mine
/-- a frozen list of ints -/
def IL (B : FM) (v : Value) (z : List Int) : Prop := ∃ a ws n, v = .ref a ∧ B a = some (lstO ws n) ∧ IntsAre ws z
theorem IL.le {B B' : FM} {v : Value} {z : List Int} (x : IL B v z) (h : B.le B') : IL B' v z := let ⟨a, ws, n, e, b, c⟩ := x; ⟨a, ws, n, e, h _ _ b, c⟩
theorem ints_uniq : ∀ {ws : List Value} {x y : List Int}, IntsAre ws x → IntsAre ws y → x = y
  | _, _, _, .nil, .nil => rfl
  | _, _, _, .cons n t h, .cons _ _ h' => by rw [ints_uniq h h']
theorem IL.uniq {B : FM} {v : Value} {x y : List Int} (h : IL B v x) (h' : IL B v y) : x = y := by
  obtain ⟨a, ws, n, rfl, b, c⟩ := h
  obtain ⟨a', ws', n', e, b', c'⟩ := h'
  cases e
  rw [b] at b'
  have e2 : ws = ws' := by
    have := congrArg Obj.data (Option.some.inj b')
    simp only [lstO, Data.seq.injEq] at this
    have h3 := congrArg Array.toList this.1
    simpa using h3
  subst e2
  exact ints_uniq c c'
theorem all_eq : ∀ (x y : List Int), x.length = y.length → (List.range x.length).all (fun j => decide (x.getD j 0 = y.getD j 0)) = decide (x = y)
  | [], [], _ => by simp
  | a :: x, b :: y, h => by
    have ih := all_eq x y (by simpa using h)
    rw [List.length_cons, List.range_succ_eq_map, List.all_cons, List.all_map]
    have : ((fun j => decide ((a :: x).getD j 0 = (b :: y).getD j 0)) ∘ Nat.succ) = fun j => decide (x.getD j 0 = y.getD j 0) := by
      funext j; simp
    rw [this, ih]
    simp
section
variable {w : World} {P : Params} {f g : Bool} {s₀ s : Shared} {B₀ B : FM} {mu : MU} {A : Around} {E : Value → Shared → Prop} {env : Env} {Q : Value → Shared → Prop}
theorem rc_il {B : FM} {A : Around} {s : Shared} {a b : Addr} {x y : List Int} (hB : B.inn s.heap) (h1 : IL B (.ref a) x) (h2 : IL B (.ref b) y) (hl : x.length = y.length) (hu : A.units < cLine) : SeqAt.RcAt A s (.ref a) (.ref b) (decide (x = y)) := by
  obtain ⟨a', us, n, e1, b1, c1⟩ := h1
  obtain ⟨b', vs, m, e2, b2, c2⟩ := h2
  cases e1; cases e2
  have := SeqAt.RcAt.lists (A := A) (e := fun j => decide (x.getD j 0 = y.getD j 0)) (isList_of hB b1) (isList_of hB b2) (by simp [c1.length, c2.length, hl]) hu fun j h1 h2 => by
    have hj1 : j < x.length := by rw [← c1.length]; simpa using h1
    have hj2 : j < y.length := by rw [← c2.length]; simpa using h2
    obtain ⟨t1, e1⟩ := c1.get j _ (List.getElem?_eq_getElem hj1)
    obtain ⟨t2, e2⟩ := c2.get j _ (List.getElem?_eq_getElem hj2)
    have g1 : us.toArray[j] = Value.int x[j] t1 := by
      have := (List.getElem?_eq_some_iff.mp e1).2; simpa using this
    have g2 : vs.toArray[j] = Value.int y[j] t2 := by
      have := (List.getElem?_eq_some_iff.mp e2).2; simpa using this
    rw [g1, g2, List.getD_eq_getElem?_getD, List.getD_eq_getElem?_getD, List.getElem?_eq_getElem hj1, List.getElem?_eq_getElem hj2]
    intro p w E Q hq
    refine wpAny_eqBool_int ?_
    rw [show (x[j] == y[j]) = decide (x[j] = y[j]) from rfl]
    simpa using hq
  rw [List.size_toArray, c1.length, all_eq x y hl] at this
  exact this
theorem eq_il {u v : Value} {x y : List Int} (hB : B.inn s.heap) (h1 : IL B u x) (h2 : IL B v y) (hl : x.length = y.length) (hu : A.units < cLine) (h : Q (.bool (decide (x = y))) s) : wpAny (model prg w) A (compareOp .Eq u v) Q E s := by
  obtain ⟨a, us, n, rfl, b1, c1⟩ := id h1
  obtain ⟨b, vs, m, rfl, b2, c2⟩ := id h2
  exact rc_il hB h1 h2 hl hu prg w E Q h
inductive ILs (B : FM) : List Value → List (List Int) → Prop
  | nil : ILs B [] []
  | cons {v z vs zs} : IL B v z → ILs B vs zs → ILs B (v :: vs) (z :: zs)
theorem ILs.le {B B' : FM} {vs : List Value} {zs : List (List Int)} (x : ILs B vs zs) (h : B.le B') : ILs B' vs zs := by
  induction x with
  | nil => exact .nil
  | cons a _ ih => exact .cons (a.le h) ih
theorem ILs.snoc {vs : List Value} {zs : List (List Int)} {v : Value} {z : List Int} (x : ILs B vs zs) (y : IL B v z) : ILs B (vs ++ [v]) (zs ++ [z]) := by
  induction x with
  | nil => exact .cons y .nil
  | cons a _ ih => exact .cons a ih
theorem ILs.len {vs : List Value} {zs : List (List Int)} (x : ILs B vs zs) : vs.length = zs.length := by
  induction x with
  | nil => rfl
  | cons _ _ ih => simp [ih]
theorem ILs.get {vs : List Value} {zs : List (List Int)} (x : ILs B vs zs) : ∀ {i : Nat} {z : List Int}, zs[i]? = some z → ∃ v, vs[i]? = some v ∧ IL B v z := by
  induction x with
  | nil => intro i z h; simp at h
  | cons a _ ih =>
    intro i z h
    cases i with
    | zero => simp at h; subst h; exact ⟨_, rfl, a⟩
    | succ i => simpa using ih (by simpa using h)
theorem ILs.mem {vs : List Value} {zs : List (List Int)} (x : ILs B vs zs) : ∀ {v : Value}, v ∈ vs → ∃ z ∈ zs, IL B v z := by
  induction x with
  | nil => intro v h; cases h
  | cons a _ ih =>
    intro v h
    rcases List.mem_cons.mp h with rfl | h
    · exact ⟨_, .head _, a⟩
    · obtain ⟨z, hz, r⟩ := ih h; exact ⟨z, .tail _ hz, r⟩
noncomputable def ilOf (B : FM) (z : List Int) (v : Value) : Bool := @decide (IL B v z) (Classical.propDecidable _)
theorem ILs.any {vs : List Value} {zs : List (List Int)} (x : ILs B vs zs) (z : List Int) : vs.any (ilOf B z) = zs.any (· == z) := by
  induction x with
  | nil => rfl
  | @cons v y vs zs a _ ih =>
    rw [List.any_cons, List.any_cons, ih]
    congr 1
    unfold ilOf
    by_cases h : y = z
    · subst h; simp [a]
    · have : ¬ IL B v z := fun q => h (a.uniq q)
      simp [this, h]
theorem notin_il {l : Addr} {vs : List Value} {zs : List (List Int)} {v : Value} {z : List Int} (hB : B.inn s.heap) (hl : s.heap.IsList l vs.toArray) (hv : ILs B vs zs) (h1 : IL B v z) (hz : ∀ y ∈ zs, y.length = z.length) (hu : A.units + 1 < cLine) (h : Q (.bool (!(zs.any (· == z)))) s) :
    wpAny (model prg w) A (compareOp .NotIn v (.ref l)) Q E s := by
  refine SeqAt.notIn_listAt (ilOf B z) hl (fun y hy => ?_) (by rw [← Array.any_toList]; show Q (.bool (!(vs.any (ilOf B z)))) s; rw [hv.any z]; exact h)
  obtain ⟨zy, hzy, hi⟩ := hv.mem (by simpa using hy)
  have e : ilOf B z y = decide (zy = z) := by
    unfold ilOf
    by_cases q : zy = z
    · subst q; simp [hi]
    · have : ¬ IL B y z := fun q' => q (hi.uniq q')
      simp [this, q]
  rw [e]
  obtain ⟨a, us, n, rfl, b1, c1⟩ := id hi
  obtain ⟨b, ws, m, rfl, b2, c2⟩ := id h1
  by_cases q : a = b
  · subst q
    have := hi.uniq h1
    subst this
    simpa using SeqAt.EqAt.same _
  · exact .of_refs q (rc_il hB hi h1 (hz _ hzy) (by rw [units_in1]; exact hu))
theorem key_lt_il {u v : Value} {x y : List Int} {Q : Bool → Shared → Prop} (hB : B.inn s.heap) (h1 : IL B u x) (h2 : IL B v y) (hl : x.length = y.length) (hu : A.units < cLine) (h : Q (ltL x y) s) : wpAny (model prg w) A (keyLt' oneType' u v) Q E s := by
  obtain ⟨a, us, n, rfl, b1, c1⟩ := id h1
  obtain ⟨b, vs, m, rfl, b2, c2⟩ := id h2
  rw [keyLt'_oneType, oneLt'_eq]
  simp only [if_true]
  refine wpAny_bind (wpAny_cRoomFor hu ?_)
  have hT : s.TypeIs (.ref a) "list" := ⟨_, hB _ _ b1, rfl⟩
  refine wpAny_bind (wpAny_callSpecialIfBound?_slot hT PySem.F.slot_list_lt (call_meets PySem.F.slot_list_lt hT PySem.F.entry_list_lt (PySem.F.args_list_lt_2 _ _) (list_ltAt a b us vs x y n m c1 c2 (by rw [c1.length, c2.length, hl])) ⟨hB _ _ b1, hB _ _ b2, ?_⟩))
  exact wpAny_truthy_bool h
end
end Mine
end
section
open PySem PySem.W PyProof.Rows
set_option Elab.async false
set_option maxRecDepth 100000
set_option maxHeartbeats 4000000
set_option linter.unusedVariables false
namespace Mine
local macro_rules | `(tactic| walk_at "mqlk") => `(tactic| first | assumption | exact lk_same _ _ _ | (refine lk_other (by decide) ?_; walk_at "mqlk") | rfl)
def lessZ (rows : List Row) (c : Int) (r : Row) : Nat := (rows.filter fun o => ltL (colZ c o) (colZ c r)).length
def markZ (rows : List Row) (ks : List (Int × Int)) (r : Row) : List Int := ks.map fun p => p.2 * (lessZ rows p.1 r : Int)
def marksZ (rows : List Row) (ks : List (Int × Int)) : List (List Int) := rows.map (markZ rows ks)
def dmBody : List Stmt := match ((bodyAt 15)[1]? : Option Stmt) with
  | some (.For _ _ b _ _) => b
  | _ => []
def dmComp : Expr := match (dmBody[0]? : Option Stmt) with
  | some (.Expr (.Call _ [e] _ _) _) => e
  | _ => .Name "x" ⟨0, 0, 0, 0⟩
section
variable {w : World} {P : Params} {f g : Bool} {s₀ s : Shared} {B₀ B : FM} {mu : MU} {A : Around} {E : Value → Shared → Prop} {env : Env} {Q : Value → Shared → Prop}
theorem mark_row {L rl kl : Addr} {rv : Value} {vs kvs : List Value} {n m : Nat} {rows : List Row} {ks : List (Int × Int)} {r : Row} {l : List (Str × Value)} (cx : Cx P f g s₀ B₀ B mu s.heap s.gens s.os) (hA : AOk 5 A) (he : env = envD (nameAt 15) (scAt 15) [] 111 110 L)
    (hL : (L, NsP l) ∈ mu) (hk : has l "keys" (.ref kl)) (hm1 : (L + 1, CellP (some (.ref rl))) ∈ mu) (hm2 : (L + 1 + 1, CellP (some rv)) ∈ mu) (hkl : B kl = some (lstO kvs m)) (hks : Reps B kvs (ks.map keyD)) (hcol : ∀ p ∈ ks, p.1 = 0 ∨ p.1 = 1 ∨ p.1 = 2) (hlk : ks.length ≤ 100)
    (hrl : B rl = some (lstO vs n)) (hvs : Reps B vs (rows.map Row.d)) (hr : Rep B rv r.d) (hc2 : ∀ x ∈ rows, x.c2.length = 2) (hr2 : r.c2.length = 2) (hlen : rows.length ≤ 100)
    (k : ∀ D c s' ys B', B.le B' → B' D = some (lstO ys c) → IntsAre ys (markZ rows ks r) → Cx P f g s₀ B₀ B' mu s'.heap s'.gens s'.os → Q (.ref D) s') :
    wpAny (model prg w) A (eval dmComp env) Q E s := by
  subst he
  have hkl' : kvs.length = ks.length := by rw [hks.length, List.length_map]
  have hvl : vs.length = rows.length := by rw [hvs.length, List.length_map]
  refine absQ fun KQ hKQ => ?_
  refine wpAny_comprehension_free (cl := [("rows", L + 1), ("row", L + 1 + 1)]) rfl (fun _ => rfl) rfl rfl (by decide) ?_
  refine ld_local (env := envD (nameAt 15) (scAt 15) [] 111 110 L) cx hL hk ?_
  refine itL cx hA.handled hkl fun I st h2 W cx2 => ?_
  refine comp_cx (s := { s with heap := h2 }) W (by omega) (fun C i B' ys l cc => B.le B' ∧ IntsAre ys ((markZ rows ks r).take i) ∧ ∃ u, cc = [(C + 1, CellP u)]) (FM.le.refl _) rfl cx2 (fun C => ⟨FM.le.refl _, .nil, none, rfl⟩) ?_ ?_
  · intro C D i v B1 ys l1 cc st' s1 hi hv hy1 hB1 cx3
    refine absA fun K K0 hK hK0 => ?_
    obtain ⟨hle, hys, u, rfl⟩ := hy1
    obtain ⟨⟨c, d⟩, hcd⟩ : ∃ q, ks[i]? = some q := ⟨_, List.getElem?_eq_getElem (by omega)⟩
    obtain ⟨v', hv', hrep⟩ := hks.get (i := i) (d := keyD (c, d)) (by rw [List.getElem?_map, hcd]; rfl)
    rw [hv] at hv'
    cases hv'
    have hc := hcol _ (List.mem_of_getElem? hcd)
    dsimp only at hc
    obtain ⟨aT, nT, t0, t1, rfl, eT⟩ := key_inv hrep
    refine wpAny_assign_Tuple hA.handled (items := #[.int c t0, .int d t1]) ⟨_, cx3.sit.inB _ _ (hle _ _ eT), rfl, _, rfl⟩ rfl rfl fun g1 hx1 => ?_
    have c1 := cx3.grow fun b o e => hx1 b o (Nat.ne_of_lt (Heap.lt_size e)) e
    refine wpAny_bind (wpAny_holding (wpAny_assign_Name (stC (c := C + 1) 1 c1 rfl rfl rfl (fun g2 c2 => ?_) rfl)))
    refine wpAny_bind (wpAny_holding (wpAny_assign_Name (stL c2 rfl (fun g3 t3 c3 => ?_) rfl)))
    refine wpAny_pure (wpAny_pure ?_)
    first | refine ifT ?_ | refine wpAny_ite_true rfl ?_ | rw [if_pos rfl]
    refine wpAny_BinOp (ld_local (s := { s1 with heap := g3, toks := t3 }) c3 (.head _) (by walk_at "mqlk") ?_)
    refine ev_call rfl rfl (ldB (s := { s1 with heap := g3, toks := t3 }) c3.sit (blt_len P) (absQ fun KQ2 hQ2 => ?_))
    refine wpAny_comprehension_free (cl := [("row", L + 1 + 1), ("column", C + 1)]) rfl (fun _ => rfl) rfl rfl (by decide) ?_
    refine ld_cell (s := { s1 with heap := g3, toks := t3 }) (c := L + 1) c3 rfl (.tail _ (.tail _ (.tail _ (.tail _ hm1)))) ?_
    refine itL c3 hA.handled (hle _ _ hrl) fun I2 st2 h4 W2 cx4 => ?_
    refine comp_name (s := { s1 with heap := h4, toks := t3 }) W2 (by omega) (fun j B' ys2 => B1.le B' ∧ ys2.length = lessZ (rows.take j) c r) (FM.le.refl _) cx4 ⟨FM.le.refl _, rfl⟩ ?_ ?_
    · intro C2 D2 j v2 B2 ys2 st3 s2 hj hv2 hy2 hB2 cx5
      refine absC fun K2 K20 hK2 hK20 => ?_
      obtain ⟨hle2, hys2⟩ := hy2
      obtain ⟨o, ho⟩ : ∃ o, rows[j]? = some o := ⟨_, List.getElem?_eq_getElem (by omega)⟩
      obtain ⟨v', hv', hrep2⟩ := hvs.get (i := j) (d := o.d) (by rw [List.getElem?_map, ho]; rfl)
      rw [hv2] at hv'
      cases hv'
      have l2 := hle.trans hle2
      have elz : lessZ (rows.take (j + 1)) c r = lessZ (rows.take j) c r + (if ltL (colZ c o) (colZ c r) = true then 1 else 0) := by
        unfold lessZ
        rw [List.take_add_one, ho]
        show (List.filter _ (_ ++ [o])).length = _
        rw [List.filter_append, List.length_append]
        by_cases hq : ltL (colZ c o) (colZ c r) = true
        · simp [hq]
        · simp [hq]
      refine wpAny_tests_one (wpAny_isTrue_Compare1 ?_)
      refine row_sub rfl (ld_local cx5 (.head _) rfl (ld_cell (c := C + 1) cx5 rfl (.tail _ (.tail _ (.tail _ (.tail _ (.head _))))) ⟨B2, o, c, t0, cx5.sit.inB, rowC_of (hrep2.le l2), rfl, hc, fun x hx => ?_⟩))
      refine row_sub rfl (ld_cell (c := L + 1 + 1) cx5 rfl (.tail _ (.tail _ (.tail _ (.tail _ (.tail _ (.tail _ (.tail _ hm2))))))) (ld_cell (c := C + 1) cx5 rfl (.tail _ (.tail _ (.tail _ (.tail _ (.head _))))) ⟨B2, r, c, t0, cx5.sit.inB, rowC_of (hr.le l2), rfl, hc, fun y hy => ?_⟩))
      refine lt_col cx5.sit.inB hc hx hy (by rw [hc2 o (List.mem_of_getElem? ho), hr2]) hA.line (wpAny_truthy_bool ?_)
      cases hq : ltL (colZ c o) (colZ c r) with
      | false =>
        first | refine ifF ?_ | refine wpAny_ite_false rfl ?_ | rw [if_neg (by decide)]
        refine hK20 _ ⟨B2, ⟨hle2, ?_⟩, FM.le.refl _, cx5⟩
        rw [elz, hq, hys2]; rfl
      | true =>
        first | refine ifT ?_ | refine wpAny_ite_true rfl ?_ | rw [if_pos rfl]
        refine ld_local cx5 (.head _) rfl (hK2 _ _ ⟨B2, ⟨hle2, ?_⟩, FM.le.refl _, cx5⟩)
        rw [elz, hq, List.length_append, hys2]; rfl
    · rintro D2 B2 ys2 m2 s2 ⟨hle2, hys2⟩ hB2 hD2 cx5
      rw [hvl, List.take_length] at hys2
      have hle3 := FM.le_put (o := lstO ys2 m2) hD2
      have hlz : lessZ rows c r ≤ 100 := Nat.le_trans (List.length_filter_le _ _) hlen
      refine hQ2 _ _ ⟨keep_builtin _, lenL (isList_of cx5.sit.inB (FM.put_self ..)) (by omega) fun t6 tk6 => ?_⟩
      refine PySem.P.mul_int (hK _ _ ⟨B2.put D2 (lstO ys2 m2), _, _, ⟨hle.trans (hle2.trans hle3), ?_, _, rfl⟩, hle2.trans hle3, cx5⟩)
      have : (markZ rows ks r).take (i + 1) = (markZ rows ks r).take i ++ [d * (lessZ rows c r : Int)] := by
        have h1 : (markZ rows ks r)[i]? = some (d * (lessZ rows c r : Int)) := by unfold markZ; rw [List.getElem?_map, hcd]; rfl
        rw [List.take_add_one, h1]; rfl
      rw [this, ← hys2]
      exact ints_snoc hys
  · rintro C D B1 ys l1 cc m1 s1 ⟨hle, hys, _⟩ hB1 hD cx3
    rw [List.take_of_length_le (by unfold markZ; rw [List.length_map]; omega)] at hys
    exact hKQ _ _ (k D m1 s1 ys _ (hle.trans (FM.le_put hD)) (FM.put_self ..) hys cx3)
end
end Mine
end
section
open PySem PySem.W PyProof.Rows
set_option Elab.async false
set_option maxRecDepth 100000
set_option maxHeartbeats 4000000
set_option linter.unusedVariables false
namespace Mine
def preZ (marks : List (List Int)) (sz p : Nat) : List Int := (marks.getD p []).take sz
def groupZ (rows : List Row) (marks : List (List Int)) (order : List Nat) (sz : Nat) (h : List Int) : List Ent := (order.filter fun p => decide (preZ marks sz p = h)).map fun p => (rowAt rows p).e
theorem callers_len {ents : List Ent} (h : ∀ e ∈ ents, e.cs.length ≤ 1) : (callersZ ents).length ≤ ents.length := by
  have : ∀ (l : List Ent) (cs : List Int), (∀ e ∈ l, e.cs.length ≤ 1) → (l.foldl callStep cs).length ≤ cs.length + l.length := by
    intro l
    induction l with
    | nil => intro cs _; simp
    | cons e l ih =>
      intro cs h
      have h1 := ih (callStep cs e) fun x hx => h x (.tail _ hx)
      have h2 : (callStep cs e).length ≤ cs.length + 1 := by
        unfold callStep
        rw [List.length_append]
        have := List.length_filter_le (fun c => !(cs.any (· == c))) (e.cs.map (·.1))
        rw [List.length_map] at this
        have := h e (.head _)
        omega
      rw [List.foldl_cons, List.length_cons]
      omega
  have h2 := this ents [] h
  rw [List.length_nil, Nat.zero_add] at h2
  exact h2
def dgComp : Expr := match ((bodyAt 15)[4]? : Option Stmt) with
  | some (.For _ _ b _ _) => (match (b[2]? : Option Stmt) with
    | some (.Expr (.Call _ [e] _ _) _) => e
    | _ => .Name "x" ⟨0, 0, 0, 0⟩)
  | _ => .Name "x" ⟨0, 0, 0, 0⟩
section
variable {w : World} {P : Params} {f g : Bool} {s₀ s : Shared} {B₀ B : FM} {mu : MU} {A : Around} {E : Value → Shared → Prop} {env : Env} {Q : Value → Shared → Prop}
/-- what the frame of _law_due holds once the order is known -/
structure DueF (B : FM) (mu : MU) (L rl ol ml : Addr) (vs ov mv : List Value) (rows : List Row) (order : List Nat) (marks : List (List Int)) : Prop where
  m1 : (L + 1, CellP (some (.ref rl))) ∈ mu
  m3 : (L + 1 + 1 + 1, CellP (some (.ref ol))) ∈ mu
  mkc : ∃ o, B (L + 1 + 1 + 1 + 1 + 1) = some o ∧ o.data = .cell (some (.ref ml))
  rl : ∃ n, B rl = some (lstO vs n)
  ol : ∃ n, B ol = some (lstO ov n)
  ml : ∃ n, B ml = some (lstO mv n)
  rr : Reps B vs (rows.map Row.d)
  oo : IntsAre ov (order.map fun i : Nat => (i : Int))
  mm : ILs B mv marks
  len : marks.length = rows.length
  lt : ∀ p ∈ order, p < rows.length
  ok : ∀ r ∈ rows, EntOk r.e ∧ r.e.cs.length ≤ 1
  lo : order.length ≤ 50
  lr : rows.length ≤ 50
  w : ∀ m ∈ marks, m.length = 3
theorem DueF.le {B B' : FM} {L rl ol ml : Addr} {vs ov mv : List Value} {rows : List Row} {order : List Nat} {marks : List (List Int)} (x : DueF B mu L rl ol ml vs ov mv rows order marks) (h : B.le B') : DueF B' mu L rl ol ml vs ov mv rows order marks :=
  ⟨x.m1, x.m3, let ⟨o, a, b⟩ := x.mkc; ⟨o, h _ _ a, b⟩, let ⟨n, a⟩ := x.rl; ⟨n, h _ _ a⟩, let ⟨n, a⟩ := x.ol; ⟨n, h _ _ a⟩, let ⟨n, a⟩ := x.ml; ⟨n, h _ _ a⟩, x.rr.le h, x.oo, x.mm.le h, x.len, x.lt, x.ok, x.lo, x.lr, x.w⟩
theorem DueF.mono {mu' : MU} {L rl ol ml : Addr} {vs ov mv : List Value} {rows : List Row} {order : List Nat} {marks : List (List Int)} (x : DueF B mu L rl ol ml vs ov mv rows order marks) (h : ∀ p ∈ mu, p ∈ mu') : DueF B mu' L rl ol ml vs ov mv rows order marks :=
  ⟨h _ x.m1, h _ x.m3, x.mkc, x.rl, x.ol, x.ml, x.rr, x.oo, x.mm, x.len, x.lt, x.ok, x.lo, x.lr, x.w⟩

theorem due_group {L rl ol ml hl : Addr} {vs ov mv hv : List Value} {rows : List Row} {order : List Nat} {marks heads : List (List Int)} {l : List (Str × Value)} {sz hn : Nat} {tz : Tok} (cx : Cx P false g s₀ B₀ B mu s.heap s.gens s.os) (hA : AOk 14 A) (he : env = envD (nameAt 15) (scAt 15) [] 111 110 L)
    (X : DueF B mu L rl ol ml vs ov mv rows order marks) (hsz : (L + 1 + 1 + 1 + 1, CellP (some (.int (sz : Int) tz))) ∈ mu) (hz3 : sz ≤ 3) (hL : (L, NsP l) ∈ mu) (hh : has l "heads" (.ref hl)) (hhl : B hl = some (lstO hv hn)) (hhv : ILs B hv heads) (hhz : ∀ h ∈ heads, h.length = sz) (hlen : heads.length ≤ 100)
    (k : ∀ D c s' ys B', B.le B' → B' D = some (lstO ys c) → Reps B' ys (heads.map fun h => entD (sumsE (groupZ rows marks order sz h))) → Cx P false g s₀ B₀ B' mu s'.heap s'.gens s'.os → Q (.ref D) s') :
    wpAny (model prg w) A (eval dgComp env) Q E s := by
  subst he
  have hvl : hv.length = heads.length := hhv.len
  refine absQ fun KQ hKQ => ?_
  refine wpAny_comprehension_free (cl := [("size", L + 1 + 1 + 1 + 1), ("rows", L + 1), ("order", L + 1 + 1 + 1), ("marks", L + 1 + 1 + 1 + 1 + 1)]) rfl (fun _ => rfl) rfl rfl (by decide) ?_
  refine ld_local (env := envD (nameAt 15) (scAt 15) [] 111 110 L) cx hL hh ?_
  refine itL cx hA.handled hhl fun I st h2 W cx2 => ?_
  refine comp_cell (s := { s with heap := h2 }) W (by omega) (fun i B' ys => B.le B' ∧ Reps B' ys ((heads.take i).map fun h => entD (sumsE (groupZ rows marks order sz h)))) (FM.le.refl _) cx2 ⟨FM.le.refl _, .nil⟩ ?_ ?_
  · intro C D i v B1 ys st' s1 hi hv1 hy1 hB1 cx3
    refine absC fun K K0 hK hK0 => ?_
    obtain ⟨hle, hys⟩ := hy1
    obtain ⟨h, hh1⟩ : ∃ h, heads[i]? = some h := ⟨_, List.getElem?_eq_getElem (by omega)⟩
    obtain ⟨v', hv', hil⟩ := hhv.get hh1
    rw [hv1] at hv'
    cases hv'
    have X1 := X.le hle
    obtain ⟨omk, hmk, hmkd⟩ := X1.mkc
    obtain ⟨nr, hrl⟩ := X1.rl
    obtain ⟨no, hol⟩ := X1.ol
    obtain ⟨nm, hml⟩ := X1.ml
    have olen : ov.length = order.length := by rw [X.oo.length, List.length_map]
    have hlh : h.length = sz := hhz h (List.mem_of_getElem? hh1)
    refine noTests ?_
    refine ev_call rfl rfl (ldG cx3.sit (glob_sums P) (absQ fun KQ2 hQ2 => ?_))
    refine wpAny_comprehension_free (cl := [("size", L + 1 + 1 + 1 + 1), ("rows", L + 1), ("marks", L + 1 + 1 + 1 + 1 + 1), ("head", C + 1)]) rfl (fun _ => rfl) rfl rfl (by decide) ?_
    refine ld_cell (c := L + 1 + 1 + 1) cx3 rfl (.tail _ (.tail _ (.tail _ (.tail _ X.m3)))) ?_
    refine itL cx3 hA.handled hol fun I2 st2 h4 W2 cx4 => ?_
    refine comp_name (s := { s1 with heap := h4 }) W2 (by have := X.lo; omega) (fun j B' ys2 => B1.le B' ∧ Reps B' ys2 ((groupZ rows marks (order.take j) sz h).map Ent.d)) (FM.le.refl _) cx4 ⟨FM.le.refl _, .nil⟩ ?_ ?_
    · intro C2 D2 j v2 B2 ys2 st3 s2 hj hv2 hy2 hB2 cx5
      refine absC fun K2 K20 hK2 hK20 => ?_
      obtain ⟨hle2, hys2⟩ := hy2
      obtain ⟨p, hp⟩ : ∃ p, order[j]? = some p := ⟨_, List.getElem?_eq_getElem (by omega)⟩
      obtain ⟨tp, hpv⟩ := X.oo.get j (p : Int) (by rw [List.getElem?_map, hp]; rfl)
      rw [hv2] at hpv
      cases hpv
      have hpl : p < rows.length := X.lt p (List.mem_of_getElem? hp)
      have X2 := X1.le hle2
      obtain ⟨mz, hmz⟩ : ∃ m, marks[p]? = some m := ⟨_, List.getElem?_eq_getElem (by have := X.len; omega)⟩
      obtain ⟨mvv, hmv, ma, mws, mn, rfl, hma, hmi⟩ := X2.mm.get hmz
      have hm3 : mz.length = 3 := X.w mz (List.mem_of_getElem? hmz)
      have epre : preZ marks sz p = mz.take sz := by unfold preZ; rw [List.getD_eq_getElem?_getD, hmz]; rfl
      have egz : groupZ rows marks (order.take (j + 1)) sz h = groupZ rows marks (order.take j) sz h ++ (if mz.take sz = h then [(rowAt rows p).e] else []) := by
        unfold groupZ
        rw [List.take_add_one, hp]
        show List.map _ (List.filter _ (_ ++ [p])) = _
        rw [List.filter_append, List.map_append]
        by_cases hq : mz.take sz = h
        · simp [epre, hq]
        · simp [epre, hq]
      refine wpAny_tests_one (wpAny_isTrue_Compare1 ?_)
      refine subS (subL rfl (ld_cellB (c := L + 1 + 1 + 1 + 1 + 1) cx5.sit rfl (hle2 _ _ hmk) hmkd (ld_local cx5 (.head _) rfl ⟨ml, mv, p, tp, _, rfl, rfl, isList_of cx5.sit.inB (hle2 _ _ hml), by omega, by have := X.lr; omega, by simpa using hmv, ?_⟩)))
      refine wpAny_pure (ld_cell (c := L + 1 + 1 + 1 + 1) cx5 rfl (.tail _ (.tail _ (.tail _ (.tail _ (.tail _ (.tail _ (.tail _ hsz))))))) (wpAny_pure ?_))
      have hmws : mws.length = 3 := by rw [hmi.length, hm3]
      refine ⟨ma, mws, none, some (sz : Int), none, rfl, cx5, isList_of cx5.sit.inB hma, by omega, .none, .int _ _, .none, by simp, fun D6 h6 B6 hle6 hD6 cx6 => ?_⟩
      have hpick : (slicePick mws.toArray none (some ((sz : Nat) : Int)) none).toList = mws.take sz := by rw [slicePick_upto' mws.toArray sz]
      rw [hpick] at hD6
      have il6 : IL B6 (.ref D6) (mz.take sz) := ⟨D6, _, 0, rfl, hD6, hmi.take sz⟩
      refine ld_cell (s := { s2 with heap := h6 }) (c := C + 1) cx6 rfl (.tail _ (.tail _ (.tail _ (.tail _ (.head _))))) ?_
      refine eq_il (s := { s2 with heap := h6 }) cx6.sit.inB il6 (hil.le (hle.trans (hle2.trans hle6))) (by rw [List.length_take, hm3, hlh]; omega) hA.line (wpAny_truthy_bool ?_)
      cases hq : decide (mz.take sz = h) with
      | false =>
        have hq' : ¬ mz.take sz = h := by simpa using hq
        first | refine ifF ?_ | refine wpAny_ite_false rfl ?_ | rw [if_neg (by decide)]
        refine hK20 _ ⟨B6, ⟨hle2.trans hle6, ?_⟩, hle6, cx6⟩
        rw [egz, if_neg hq', List.append_nil]; exact hys2.le hle6
      | true =>
        have hq' : mz.take sz = h := by simpa using hq
        first | refine ifT ?_ | refine wpAny_ite_true rfl ?_ | rw [if_pos rfl]
        obtain ⟨rv, hrv, hrep⟩ := X2.rr.get (i := p) (d := (rowAt rows p).d) (by unfold rowAt; rw [List.getElem?_map, List.getElem?_eq_getElem hpl, List.getD_eq_getElem?_getD, List.getElem?_eq_getElem hpl]; rfl)
        obtain ⟨a0, w0, w1, w2, w3, n0, rfl, hB0, r0, r1, r2, r3⟩ := rowC_of hrep
        refine subT rfl (subL rfl (ld_cell (s := { s2 with heap := h6 }) (c := L + 1) cx6 rfl (.tail _ (.tail _ (.tail _ (.tail _ (.tail _ (.tail _ (.tail _ X.m1))))))) (ld_local (s := { s2 with heap := h6 }) cx6 (.head _) rfl ⟨rl, vs, p, tp, _, rfl, rfl, isList_of cx6.sit.inB (hle6 _ _ (hle2 _ _ hrl)), by omega, by have := X.lr; omega, by simpa using hrv, ?_⟩)))
        refine eI fun t7 tk7 => ⟨a0, [w0, w1, w2, w3], 3, t7, w3, rfl, rfl, isTup_of cx6.sit.inB (hle6 _ _ hB0), by decide, by decide, rfl, ?_⟩
        refine hK2 _ _ ⟨B6, ⟨hle2.trans hle6, ?_⟩, hle6, cx6⟩
        rw [egz, if_pos hq', List.map_append]
        exact (hys2.le hle6).app (.cons (r3.le hle6) .nil)
    · rintro D2 B2 ys2 m2 s2 ⟨hle2, hys2⟩ hB2 hD2 cx5
      rw [olen, List.take_length] at hys2
      have hle3 := FM.le_put (o := lstO ys2 m2) hD2
      have gmem : ∀ e ∈ groupZ rows marks order sz h, ∃ r ∈ rows, r.e = e := by
        intro e he
        unfold groupZ at he
        obtain ⟨p, hp, rfl⟩ := List.mem_map.mp he
        have hpl : p < rows.length := X.lt p (List.mem_filter.mp hp).1
        refine ⟨rowAt rows p, ?_, rfl⟩
        unfold rowAt
        rw [List.getD_eq_getElem?_getD, List.getElem?_eq_getElem hpl]
        exact List.getElem_mem hpl
      have glen : (groupZ rows marks order sz h).length ≤ 50 := by
        unfold groupZ; rw [List.length_map]; exact Nat.le_trans (List.length_filter_le _ _) X.lo
      refine hQ2 _ _ ⟨keepG cx5.sit (by kernel_rfl) rfl (by kernel_rfl), ?_⟩
      refine sums_spec cx5.sit (hA.less (by decide)) (FM.put_self ..) (hys2.le hle3) (fun e he => ?_) (fun e he => ?_) glen (fun i => ?_) fun D6 s6 B6 mv6 S6 hD6 => ?_
      · obtain ⟨r, hr, rfl⟩ := gmem e he; exact (X.ok r hr).1
      · obtain ⟨r, hr, rfl⟩ := gmem e he; have := (X.ok r hr).2; omega
      · have := callers_len (ents := (groupZ rows marks order sz h).take i) fun e he => by
          obtain ⟨r, hr, rfl⟩ := gmem e (List.mem_of_mem_take he); exact (X.ok r hr).2
        rw [List.length_take] at this; omega
      · have cx6 := cx5.call mv6 S6
        have l6 := hle2.trans (hle3.trans mv6.le)
        refine hK _ _ ⟨B6, ⟨hle.trans l6, ?_⟩, l6, cx6⟩
        rw [List.take_add_one, hh1, List.map_append]
        exact (hys.le l6).app (.cons hD6 .nil)
  · rintro D B1 ys m1 s1 ⟨hle, hys⟩ hB1 hD cx3
    rw [hvl, List.take_length] at hys
    exact hKQ _ _ (k D m1 s1 ys _ (hle.trans (FM.le_put hD)) (FM.put_self ..) (hys.le (FM.le_put hD)) cx3)
end
end Mine
end
section
open PySem PySem.W PyProof.Rows
set_option Elab.async false
set_option maxRecDepth 100000
set_option maxHeartbeats 4000000
set_option linter.unusedVariables false
namespace Mine
local macro_rules | `(tactic| walk_at "mqlk") => `(tactic| first | assumption | exact lk_same _ _ _ | (refine lk_other (by decide) ?_; walk_at "mqlk") | rfl)
def headS (marks : List (List Int)) (sz : Nat) (hs : List (List Int)) (p : Nat) : List (List Int) := if hs.any (· == preZ marks sz p) then hs else hs ++ [preZ marks sz p]
def headsZ (marks : List (List Int)) (order : List Nat) (sz : Nat) : List (List Int) := order.foldl (headS marks sz) []
def dueBody : List Stmt := match ((bodyAt 15)[4]? : Option Stmt) with
  | some (.For _ _ b _ _) => b
  | _ => []
def dhBody : List Stmt := match (dueBody[1]? : Option Stmt) with
  | some (.For _ _ b _ _) => b
  | _ => []
theorem heads_len {marks : List (List Int)} {sz : Nat} (hw : ∀ m ∈ marks, m.length = 3) (hz : sz ≤ 3) : ∀ (order : List Nat) (hs : List (List Int)), (∀ p ∈ order, p < marks.length) → (∀ h ∈ hs, h.length = sz) → (∀ h ∈ order.foldl (headS marks sz) hs, h.length = sz) ∧ (order.foldl (headS marks sz) hs).length ≤ hs.length + order.length
  | [], hs, _, h => ⟨h, by simp⟩
  | p :: order, hs, hp, h => by
    have h1 : ∀ x ∈ headS marks sz hs p, x.length = sz := by
      intro x hx
      unfold headS at hx
      split at hx
      · exact h x hx
      · rcases List.mem_append.mp hx with hx | hx
        · exact h x hx
        · rw [List.mem_singleton.mp hx]
          have hl := hp p (.head _)
          unfold preZ
          rw [List.getD_eq_getElem?_getD, List.getElem?_eq_getElem hl, List.length_take]
          have := hw _ (List.getElem_mem hl)
          show min sz marks[p].length = sz
          omega
    have h2 : (headS marks sz hs p).length ≤ hs.length + 1 := by
      unfold headS
      split
      · omega
      · simp
    obtain ⟨a, b⟩ := heads_len hw hz order (headS marks sz hs p) (fun q hq => hp q (.tail _ hq)) h1
    refine ⟨a, ?_⟩
    rw [List.foldl_cons, List.length_cons]
    omega
section
variable {w : World} {P : Params} {f g : Bool} {s₀ s : Shared} {B₀ B : FM} {mu : MU} {A : Around} {E : Value → Shared → Prop} {env : Env} {Q : Value → Shared → Prop}
theorem due_heads {L rl ol ml H D : Addr} {vs ov mv : List Value} {rows : List Row} {order : List Nat} {marks : List (List Int)} {l : List (Str × Value)} {sz : Nat} {tz : Tok} {R : Result → Shared → Prop} {I : Addr} {st : Nat → Obj → Prop}
    (hA : AOk 14 A) (he : env = envD (nameAt 15) (scAt 15) [] 111 110 L)
    (X : DueF B mu L rl ol ml vs ov mv rows order marks) (hsz : (L + 1 + 1 + 1 + 1, CellP (some (.int (sz : Int) tz))) ∈ mu) (hz3 : sz ≤ 3)
    (W : Src w A B I order.length (fun i v => ov[i]? = some v) st) (cx : Cx P false g s₀ B₀ B ((I, st 0) :: (L, NsP l) :: (H, LstP []) :: mu) s.heap s.gens s.os)
    (hh : has l "heads" (.ref H)) (hst : has l "stages" (.ref D))
    (done : ∀ B' hv l' s', B.le B' → ILs B' hv (headsZ marks order sz) → has l' "heads" (.ref H) → has l' "stages" (.ref D) → Cx P false g s₀ B₀ B' ((L, NsP l') :: (H, LstP hv) :: mu) s'.heap s'.gens s'.os → R (.ok .next) s')
    {p : Pos} : codeAny (model prg w) A (.forLoop (.Name "place" p) (.ref I) dhBody [] env) R s := by
  subst he
  have hml := X.len
  have hbound : ∀ q ∈ order, q < marks.length := fun q hq => by have := X.lt q hq; omega
  have hlo := X.lo
  have hlr := X.lr
  refine for_cx W (fun i B' mu' => B.le B' ∧ ∃ l hv, mu' = (L, NsP l) :: (H, LstP hv) :: mu ∧ has l "heads" (.ref H) ∧ has l "stages" (.ref D) ∧ ILs B' hv ((order.take i).foldl (headS marks sz) [])) (FM.le.refl _) cx
    ⟨FM.le.refl _, l, [], rfl, hh, hst, .nil⟩ ?_ ?_
  · intro i v B6 mu' st' s6 hi6 hv hy6 _ cx6
    refine absF fun K1 hK1 => ?_
    obtain ⟨hle6, l, zs, rfl, k1, k2, hZ⟩ := hy6
    obtain ⟨p, hp⟩ : ∃ p, order[i]? = some p := ⟨_, List.getElem?_eq_getElem hi6⟩
    obtain ⟨tp, hpv⟩ := X.oo.get i (p : Int) (by rw [List.getElem?_map, hp]; rfl)
    rw [hv] at hpv
    cases hpv
    have hpl : p < rows.length := X.lt p (List.mem_of_getElem? hp)
    obtain ⟨mz, hmz⟩ : ∃ m, marks[p]? = some m := ⟨_, List.getElem?_eq_getElem (by omega)⟩
    have epre : preZ marks sz p = mz.take sz := by unfold preZ; rw [List.getD_eq_getElem?_getD, hmz]; rfl
    have hm3 : mz.length = 3 := X.w mz (List.mem_of_getElem? hmz)
    obtain ⟨hw1, hw2⟩ := heads_len X.w hz3 (order.take i) [] (fun q hq => hbound q (List.mem_of_mem_take hq)) (fun h hh => by cases hh)
    have hzl : zs.length ≤ 50 := by
      rw [hZ.len]; rw [List.length_take, List.length_nil] at hw2; omega
    have est : (order.take (i + 1)).foldl (headS marks sz) [] = headS marks sz ((order.take i).foldl (headS marks sz) []) p := take_foldA _ _ _ hp
    generalize hacc : (order.take i).foldl (headS marks sz) [] = acc at hZ hw1 est
    have X2 := X.le hle6
    obtain ⟨omk, hmk, hmkd⟩ := X2.mkc
    obtain ⟨nm, hmlst⟩ := X2.ml
    obtain ⟨mvv, hmv, ma, mws, mn, rfl, hma, hmi⟩ := X2.mm.get hmz
    have hmws : mws.length = 3 := by rw [hmi.length, hm3]
    have hpick : (slicePick mws.toArray none (some ((sz : Nat) : Int)) none).toList = mws.take sz := by rw [slicePick_upto' mws.toArray sz]
    have cx7 : Cx P false g s₀ B₀ B6 ((L, NsP l) :: ((H, LstP zs) :: mu ++ [(I, st')])) s6.heap s6.gens s6.os := cx6.perm (List.perm_append_comm (l₁ := [_]) (l₂ := (L, NsP l) :: (H, LstP zs) :: mu))
    refine wpAny_assign_Name (stL (env := envD (nameAt 15) (scAt 15) [] 111 110 L) cx7 rfl (fun h8 tk8 cx8 => ?_) rfl)
    refine wpAny_execs_cons (wpAny_If (wpAny_isTrue_Compare1 ?_))
    refine subS (subL rfl (ld_cellB (s := { s6 with heap := h8, toks := tk8 }) (c := L + 1 + 1 + 1 + 1 + 1) cx8.sit rfl hmk hmkd (ld_local (s := { s6 with heap := h8, toks := tk8 }) cx8 (.head _) (by walk_at "mqlk") ⟨ml, mv, p, tp, _, rfl, rfl, isList_of cx8.sit.inB hmlst, by omega, by omega, by simpa using hmv, ?_⟩)))
    refine wpAny_pure (ld_cell (s := { s6 with heap := h8, toks := tk8 }) (c := L + 1 + 1 + 1 + 1) cx8 rfl (.tail _ (.tail _ (List.mem_append_left _ hsz))) (wpAny_pure ?_))
    refine ⟨ma, mws, none, some (sz : Int), none, rfl, cx8, isList_of cx8.sit.inB hma, by omega, .none, .int _ _, .none, by simp, fun D9 h9 B9 hle9 hD9 cx9 => ?_⟩
    rw [hpick] at hD9
    have il9 : IL B9 (.ref D9) (mz.take sz) := ⟨D9, _, 0, rfl, hD9, hmi.take sz⟩
    have hzlen : (mz.take sz).length = sz := by rw [List.length_take, hm3]; omega
    refine ld_local (s := { s6 with heap := h9, toks := tk8 }) cx9 (.head _) (by walk_at "mqlk") ?_
    refine notin_il (s := { s6 with heap := h9, toks := tk8 }) cx9.sit.inB (cx9.lstAt (.tail _ (.head _))) (hZ.le hle9) il9 (fun y hy => by rw [hw1 y hy, hzlen]) hA.in1.line (wpAny_truthy_bool ?_)
    have back : ∀ {h : Heap} {gs os} {B' l' zs'}, Cx P false g s₀ B₀ B' ((L, NsP l') :: ((H, LstP zs') :: mu ++ [(I, st')])) h gs os → Cx P false g s₀ B₀ B' ((I, st') :: (L, NsP l') :: (H, LstP zs') :: mu) h gs os :=
      fun c => c.perm (List.perm_append_comm (l₁ := [_]) (l₂ := (L, NsP _) :: (H, LstP _) :: mu)).symm
    cases hq : acc.any (· == mz.take sz) with
    | true =>
      refine wpAny_execs_nil (wpAny_execs_nil (hK1 _ _ ⟨B9, _, ⟨hle6.trans hle9, _, zs, rfl, ?_, ?_, ?_⟩, hle9, back cx9⟩))
      · show List.lookup _ _ = _; walk_at "mqlk"
      · show List.lookup _ _ = _; walk_at "mqlk"
      · rw [est]; unfold headS; rw [epre, hq, if_pos rfl]; exact hZ.le hle9
    | false =>
      refine wpAny_execs_cons (wpAny_Expr_any (absQ fun KQ2 hQ2 => ?_))
      refine mApp 1 (D := H) (ys := zs) (fun Q' q => ld_local (s := { s6 with heap := h9, toks := tk8 }) cx9 (.head _) (by walk_at "mqlk") q) (cx9.mus (H, LstP zs) (.tail _ (.head _))) ?_
      refine subS (subL rfl (ld_cellB (s := { s6 with heap := h9, toks := tk8 }) (c := L + 1 + 1 + 1 + 1 + 1) cx9.sit rfl (hle9 _ _ hmk) hmkd (ld_local (s := { s6 with heap := h9, toks := tk8 }) cx9 (.head _) (by walk_at "mqlk") ⟨ml, mv, p, tp, _, rfl, rfl, isList_of cx9.sit.inB (hle9 _ _ hmlst), by omega, by omega, by simpa using hmv, ?_⟩)))
      refine wpAny_pure (ld_cell (s := { s6 with heap := h9, toks := tk8 }) (c := L + 1 + 1 + 1 + 1) cx9 rfl (.tail _ (.tail _ (List.mem_append_left _ hsz))) (wpAny_pure ?_))
      refine ⟨ma, mws, none, some (sz : Int), none, rfl, cx9, isList_of cx9.sit.inB (hle9 _ _ hma), by omega, .none, .int _ _, .none, by simp, fun D10 h10 B10 hle10 hD10 cx10 => ?_⟩
      rw [hpick] at hD10
      have il10 : IL B10 (.ref D10) (mz.take sz) := ⟨D10, _, 0, rfl, hD10, hmi.take sz⟩
      refine ⟨cx10, rfl, by omega, fun h11 cx11 => hQ2 _ _ ?_⟩
      have cx12 : Cx P false g s₀ B₀ B10 ((L, NsP (putA "place" (.int p tp) l)) :: ((H, LstP (zs ++ [.ref D10])) :: mu ++ [(I, st')])) h11 s6.gens s6.os := cx11
      refine wpAny_execs_nil (wpAny_execs_nil (hK1 _ _ ⟨B10, _, ⟨hle6.trans (hle9.trans hle10), _, zs ++ [.ref D10], rfl, ?_, ?_, ?_⟩, hle9.trans hle10, back cx12⟩))
      · show List.lookup _ _ = _; walk_at "mqlk"
      · show List.lookup _ _ = _; walk_at "mqlk"
      · rw [est]; unfold headS; rw [epre, hq, if_neg (by decide)]; exact (hZ.le (hle9.trans hle10)).snoc il10
  · rintro B6 mu' s6 ⟨hle6, l, zs, rfl, k1, k2, hZ⟩ _ cx6
    rw [List.take_length] at hZ
    exact done B6 zs l s6 hle6 hZ k1 k2 cx6
end
end Mine
end
section
open PySem PySem.W PyProof.Rows
set_option Elab.async false
set_option maxRecDepth 100000
set_option maxHeartbeats 4000000
set_option linter.unusedVariables false
namespace Mine
local macro_rules | `(tactic| walk_at "mqlk") => `(tactic| first | assumption | exact lk_same _ _ _ | (refine lk_other (by decide) ?_; walk_at "mqlk") | rfl)
def dueStage (rows : List Row) (marks : List (List Int)) (order : List Nat) (sz : Nat) : List Ent := (headsZ marks order sz).map fun h => sumsE (groupZ rows marks order sz h)
def dueZ (rows : List Row) (marks : List (List Int)) (order : List Nat) : List (List Ent) := sizes.map (dueStage rows marks order)
section
variable {w : World} {P : Params} {f g : Bool} {s₀ s : Shared} {B₀ B : FM} {mu : MU} {A : Around} {E : Value → Shared → Prop} {env : Env} {Q : Value → Shared → Prop}
theorem due_loop {L rl ol ml D : Addr} {vs ov mv sv : List Value} {rows : List Row} {order : List Nat} {marks : List (List Int)} {l : List (Str × Value)} {R : Result → Shared → Prop} {I : Addr} {st : Nat → Obj → Prop} {u2 u4 : Option Value}
    (hA : AOk 15 A) (he : env = envD (nameAt 15) (scAt 15) [] 111 110 L)
    (X : DueF B [(L + 1, CellP (some (.ref rl))), (L + 1 + 1 + 1, CellP (some (.ref ol)))] L rl ol ml vs ov mv rows order marks)
    (W : Src w A B I sv.length (fun i v => sv[i]? = some v) st) (hsv : IntsAre sv (sizes.map fun n : Nat => (n : Int)))
    (cx : Cx P false g s₀ B₀ B ((I, st 0) :: (L, NsP l) :: (D, LstP []) :: (L + 1, CellP (some (.ref rl))) :: (L + 1 + 1, CellP u2) :: (L + 1 + 1 + 1, CellP (some (.ref ol))) :: [(L + 1 + 1 + 1 + 1, CellP u4)]) s.heap s.gens s.os)
    (hst : has l "stages" (.ref D))
    (done : ∀ B' zs l' s' mu', B.le B' → Reps B' zs ((dueZ rows marks order).map fun es => Mine.D.lst (es.map entD)) → has l' "stages" (.ref D) → Cx P false g s₀ B₀ B' ((L, NsP l') :: (D, LstP zs) :: mu') s'.heap s'.gens s'.os → R (.ok .next) s')
    {p : Pos} : codeAny (model prg w) A (.forLoop (.Name "size" p) (.ref I) dueBody [] env) R s := by
  subst he
  have hslen : sv.length = 4 := hsv.length
  refine for_cx W (fun i B' mu' => B.le B' ∧ ∃ l u zs, mu' = (L, NsP l) :: (D, LstP zs) :: (L + 1, CellP (some (.ref rl))) :: (L + 1 + 1, CellP u2) :: (L + 1 + 1 + 1, CellP (some (.ref ol))) :: [(L + 1 + 1 + 1 + 1, CellP u)] ∧ has l "stages" (.ref D) ∧ Reps B' zs (((sizes.take i).map (dueStage rows marks order)).map fun es => Mine.D.lst (es.map entD))) (FM.le.refl _) cx
    ⟨FM.le.refl _, l, u4, [], rfl, hst, .nil⟩ ?_ ?_
  · intro i v B6 mu' st' s6 hi6 hv hy6 _ cx6
    refine absF fun K1 hK1 => ?_
    obtain ⟨hle6, l, u, zs, rfl, k1, hZ⟩ := hy6
    obtain ⟨sz, hsz⟩ : ∃ sz, sizes[i]? = some sz := ⟨_, List.getElem?_eq_getElem (by simp; omega)⟩
    have hsz3 : sz ≤ 3 := by
      have := List.mem_of_getElem? hsz
      simp [sizes] at this; omega
    obtain ⟨tz, hz⟩ := hsv.get i (sz : Nat) (by rw [List.getElem?_map, hsz]; rfl)
    rw [hv] at hz
    cases hz
    have zl : zs.length ≤ 4 := by rw [hZ.length, List.length_map, List.length_map, List.length_take]; exact Nat.min_le_right _ _
    have olen : ov.length = order.length := by rw [X.oo.length, List.length_map]
    have cx7 : Cx P false g s₀ B₀ B6 ((L, NsP l) :: (D, LstP zs) :: (L + 1, CellP (some (.ref rl))) :: (L + 1 + 1, CellP u2) :: (L + 1 + 1 + 1, CellP (some (.ref ol))) :: (L + 1 + 1 + 1 + 1, CellP u) :: [(I, st')]) s6.heap s6.gens s6.os := cx6.perm (List.perm_append_comm (l₁ := [_]) (l₂ := [_, _, _, _, _, _]))
    refine wpAny_assign_Name (stC (c := L + 1 + 1 + 1 + 1) 5 cx7 rfl rfl rfl (fun h8 cx8 => ?_) rfl)
    refine wpAny_execs_cons (wpAny_Assign_Name ?_)
    refine ev_list rfl (nMu cx8 (by simp) fun H h9 cx9 => ?_)
    refine stL (env := envD (nameAt 15) (scAt 15) [] 111 110 L) (cx9.perm (List.Perm.swap ..)) rfl (fun h10 tk10 cx10 => ?_) rfl
    have hm : ∀ p ∈ [(L + 1, CellP (some (.ref rl))), (L + 1 + 1 + 1, CellP (some (.ref ol)))], p ∈ ((D, LstP zs) :: (L + 1, CellP (some (.ref rl))) :: (L + 1 + 1, CellP u2) :: (L + 1 + 1 + 1, CellP (some (.ref ol))) :: (L + 1 + 1 + 1 + 1, CellP (some (.int (sz : Int) tz))) :: [(I, st')] : MU) := by
      intro p hp
      rcases List.mem_cons.mp hp with rfl | hp
      · exact .tail _ (.head _)
      · rw [List.mem_singleton.mp hp]; exact .tail _ (.tail _ (.tail _ (.head _)))
    have X6 := (X.le hle6).mono hm
    obtain ⟨no, hol⟩ := X6.ol
    have cx10' : Cx P false g s₀ B₀ B6 ((L, NsP (putA "heads" (.ref H) l)) :: (H, LstP []) :: (D, LstP zs) :: (L + 1, CellP (some (.ref rl))) :: (L + 1 + 1, CellP u2) :: (L + 1 + 1 + 1, CellP (some (.ref ol))) :: (L + 1 + 1 + 1 + 1, CellP (some (.int (sz : Int) tz))) :: [(I, st')]) h10 s6.gens s6.os := cx10
    refine wpAny_execs_cons (wpAny_For ?_)
    refine ld_cell (s := { s6 with heap := h10, toks := tk10 }) (c := L + 1 + 1 + 1) cx10' rfl (.tail _ (.tail _ (.tail _ (.tail _ (.tail _ (.head _)))))) ?_
    refine itL cx10' hA.handled hol fun I2 st2 h11 W2 cx11 => ?_
    rw [olen] at W2
    refine due_heads (s := { s6 with heap := h11, toks := tk10 }) (D := D) (hA.less (by decide)) rfl X6 (.tail _ (.tail _ (.tail _ (.tail _ (.head _))))) hsz3 W2 cx11 ?_ ?_ fun B12 hvv l12 s12 hle12 hH kh ks cx12 => ?_
    · show List.lookup _ _ = _; walk_at "mqlk"
    · show List.lookup _ _ = _; walk_at "mqlk"
    obtain ⟨oH, ⟨cH, rfl⟩, _, nB, cx13⟩ := (cx12.perm (List.Perm.swap ..)).freeze
    have hle13 := FM.le_put (o := lstO hvv cH) nB
    have X13 := X6.le (hle12.trans hle13)
    obtain ⟨hw1, hw2⟩ := heads_len X.w hsz3 order [] (fun q hq => by have := X.lt q hq; have := X.len; omega) (fun h hh => by cases hh)
    refine wpAny_execs_cons (wpAny_Expr_any ?_)
    refine mApp 1 (D := D) (ys := zs) (fun Q' q => ld_local (env := envD (nameAt 15) (scAt 15) [] 111 110 L) cx13 (.head _) ks q) (cx13.mus (D, LstP zs) (.tail _ (.head _))) ?_
    refine due_group (hl := H) cx13 (hA.less (by decide)) rfl (X13.mono fun p hp => .tail _ hp) (.tail _ (.tail _ (.tail _ (.tail _ (.tail _ (.head _)))))) hsz3 (.head _) kh (FM.put_self ..) (hH.le hle13) hw1 (by have := X.lo; simp only [List.length_nil] at hw2; unfold headsZ; omega) fun D14 c14 s14 ys14 B14 hle14 hD14 hys14 cx14 => ?_
    refine ⟨cx14, rfl, by omega, fun h15 cx15 => ?_⟩
    have l14 : B6.le B14 := hle12.trans (hle13.trans hle14)
    have cx16 : Cx P false g s₀ B₀ B14 ((L, NsP l12) :: (D, LstP (zs ++ [.ref D14])) :: (L + 1, CellP (some (.ref rl))) :: (L + 1 + 1, CellP u2) :: (L + 1 + 1 + 1, CellP (some (.ref ol))) :: (L + 1 + 1 + 1 + 1, CellP (some (.int (sz : Int) tz))) :: [(I, st')]) h15 s14.gens s14.os := cx15
    refine wpAny_execs_nil (hK1 _ _ ⟨B14, _, ⟨hle6.trans l14, l12, _, _, rfl, ks, ?_⟩, l14, cx16.perm (List.perm_append_comm (l₁ := [_]) (l₂ := [_, _, _, _, _, _])).symm⟩)
    rw [List.take_add_one, hsz, List.map_append, List.map_append]
    refine (hZ.le l14).app (.cons (.lst hD14 ?_) .nil)
    have : (dueStage rows marks order sz).map entD = (headsZ marks order sz).map fun h => entD (sumsE (groupZ rows marks order sz h)) := by unfold dueStage; rw [List.map_map]; rfl
    rw [this]; exact hys14
  · rintro B6 mu' s6 ⟨hle6, l, u, zs, rfl, k1, hZ⟩ _ cx6
    rw [hslen] at hZ
    exact done B6 zs l s6 _ hle6 hZ k1 cx6
end
end Mine
end
section
open PySem PySem.W PyProof.Rows
set_option Elab.async false
set_option maxRecDepth 100000
set_option maxHeartbeats 4000000
set_option linter.unusedVariables false
namespace Mine
/-- the frame of _law_due while the marks are made -/
def dueMu (L rl M : Addr) (l : List (Str × Value)) (mv : List Value) (u : Option Value) : MU :=
  (L, NsP l) :: (M, LstP mv) :: (L + 1, CellP (some (.ref rl))) :: (L + 1 + 1, CellP u) :: (L + 1 + 1 + 1, CellP none) :: (L + 1 + 1 + 1 + 1, CellP none) :: [(L + 1 + 1 + 1 + 1 + 1, CellP (some (.ref M)))]
section
variable {w : World} {P : Params} {f g : Bool} {s₀ s : Shared} {B₀ B : FM} {mu : MU} {A : Around} {E : Value → Shared → Prop} {env : Env} {Q : Value → Shared → Prop}
theorem marks_loop {L rl kl M : Addr} {vs kvs : List Value} {n m : Nat} {rows : List Row} {ks : List (Int × Int)} {l : List (Str × Value)} {R : Result → Shared → Prop} {I : Addr} {st : Nat → Obj → Prop} {u : Option Value}
    (hA : AOk 5 A) (he : env = envD (nameAt 15) (scAt 15) [] 111 110 L)
    (hkl : B kl = some (lstO kvs m)) (hks : Reps B kvs (ks.map keyD)) (hcol : ∀ p ∈ ks, p.1 = 0 ∨ p.1 = 1 ∨ p.1 = 2) (hlk : ks.length ≤ 100)
    (hrl : B rl = some (lstO vs n)) (hvs : Reps B vs (rows.map Row.d)) (hc2 : ∀ x ∈ rows, x.c2.length = 2) (hlen : rows.length ≤ 100)
    (W : Src w A B I vs.length (fun i v => vs[i]? = some v) st) (cx : Cx P f g s₀ B₀ B ((I, st 0) :: dueMu L rl M l [] u) s.heap s.gens s.os)
    (hk : has l "keys" (.ref kl))
    (done : ∀ B' mv u' s', B.le B' → ILs B' mv (marksZ rows ks) → Cx P f g s₀ B₀ B' (dueMu L rl M l mv u') s'.heap s'.gens s'.os → R (.ok .next) s')
    {p : Pos} : codeAny (model prg w) A (.forLoop (.Name "row" p) (.ref I) dmBody [] env) R s := by
  subst he
  have hvl : vs.length = rows.length := by rw [hvs.length, List.length_map]
  refine for_cx W (fun i B' mu' => B.le B' ∧ ∃ mv u, mu' = dueMu L rl M l mv u ∧ ILs B' mv ((rows.take i).map (markZ rows ks))) (FM.le.refl _) cx ⟨FM.le.refl _, [], u, rfl, .nil⟩ ?_ ?_
  · intro i v B6 mu' st' s6 hi6 hv hy6 _ cx6
    refine absF fun K1 hK1 => ?_
    obtain ⟨hle6, mv, u, rfl, hM⟩ := hy6
    obtain ⟨r, hr⟩ : ∃ r, rows[i]? = some r := ⟨_, List.getElem?_eq_getElem (by omega)⟩
    obtain ⟨v', hv', hrep⟩ := hvs.get (i := i) (d := r.d) (by rw [List.getElem?_map, hr]; rfl)
    rw [hv] at hv'
    cases hv'
    have cx7 : Cx P f g s₀ B₀ B6 ((L, NsP l) :: (M, LstP mv) :: (L + 1, CellP (some (.ref rl))) :: (L + 1 + 1, CellP u) :: (L + 1 + 1 + 1, CellP none) :: (L + 1 + 1 + 1 + 1, CellP none) :: (L + 1 + 1 + 1 + 1 + 1, CellP (some (.ref M))) :: [(I, st')]) s6.heap s6.gens s6.os := cx6.perm (List.perm_append_comm (l₁ := [_]) (l₂ := [_, _, _, _, _, _, _]))
    refine wpAny_assign_Name (stC (c := L + 1 + 1) 3 cx7 rfl rfl rfl (fun h8 cx8 => ?_) rfl)
    have cx9 : Cx P f g s₀ B₀ B6 ((L, NsP l) :: (M, LstP mv) :: (L + 1, CellP (some (.ref rl))) :: (L + 1 + 1, CellP (some v)) :: (L + 1 + 1 + 1, CellP none) :: (L + 1 + 1 + 1 + 1, CellP none) :: (L + 1 + 1 + 1 + 1 + 1, CellP (some (.ref M))) :: [(I, st')]) h8 s6.gens s6.os := cx8
    clear cx8
    have mvl : mv.length ≤ 100 := by rw [hM.len, List.length_map, List.length_take]; omega
    refine wpAny_execs_cons (wpAny_Expr_any ?_)
    refine mApp 1 (D := M) (ys := mv) (fun Q' q => ld_cell (env := envD (nameAt 15) (scAt 15) [] 111 110 L) (s := { s6 with heap := h8 }) (c := L + 1 + 1 + 1 + 1 + 1) cx9 rfl (.tail _ (.tail _ (.tail _ (.tail _ (.tail _ (.tail _ (.head _))))))) q) (cx9.mus (M, LstP mv) (.tail _ (.head _))) ?_
    refine mark_row (s := { s6 with heap := h8 }) (ks := ks) (rows := rows) (r := r) cx9 hA rfl (.head _) hk (.tail _ (.tail _ (.head _))) (.tail _ (.tail _ (.tail _ (.head _)))) (hle6 _ _ hkl) (hks.le hle6) hcol hlk (hle6 _ _ hrl) (hvs.le hle6) (hrep.le hle6) hc2 (hc2 r (List.mem_of_getElem? hr)) hlen fun D c s10 ys B10 hle10 hD hys cx10 => ?_
    refine ⟨cx10, rfl, by omega, fun h11 cx11 => ?_⟩
    have cx12 : Cx P f g s₀ B₀ B10 ((L, NsP l) :: (M, LstP (mv ++ [.ref D])) :: (L + 1, CellP (some (.ref rl))) :: (L + 1 + 1, CellP (some v)) :: (L + 1 + 1 + 1, CellP none) :: (L + 1 + 1 + 1 + 1, CellP none) :: (L + 1 + 1 + 1 + 1 + 1, CellP (some (.ref M))) :: [(I, st')]) h11 s10.gens s10.os := cx11
    refine wpAny_execs_nil (hK1 _ _ ⟨B10, _, ⟨hle6.trans hle10, _, _, rfl, ?_⟩, hle10, cx12.perm (List.perm_append_comm (l₁ := [_]) (l₂ := [_, _, _, _, _, _, _])).symm⟩)
    rw [List.take_add_one, hr, List.map_append]
    exact (hM.le hle10).snoc ⟨D, ys, c, rfl, hD, hys⟩
  · rintro B6 mu' s6 ⟨hle6, mv, u, rfl, hM⟩ _ cx6
    rw [hvl, List.take_length] at hM
    exact done B6 mv u s6 hle6 hM cx6
end
end Mine
end
section
open PySem PySem.W PyProof.Rows
set_option Elab.async false
set_option maxRecDepth 100000
set_option maxHeartbeats 4000000
set_option linter.unusedVariables false
namespace Mine
local macro_rules | `(tactic| walk_at "mqlk") => `(tactic| first | assumption | exact lk_same _ _ _ | (refine lk_other (by decide) ?_; walk_at "mqlk") | rfl)
def ltM (marks : List (List Int)) (i j : Nat) : Bool := ltL (marks.getD i []) (marks.getD j [])
def ordM (marks : List (List Int)) : List Nat := (runT (ltM marks) (kas_sort marks.length)).toList
section
variable {w : World} {P : Params} {f g : Bool} {s₀ s : Shared} {B₀ B : FM} {mu : MU} {A : Around} {E : Value → Shared → Prop} {env : Env} {Q : Value → Shared → Prop}
theorem looks_il {M : Model} {B' : FM} {h : Heap} {k : Value} {z : List Int} (hB : B'.inn h) (hx : IL B' k z) : Looks M h (typeOf k) (.type "list") := by
  obtain ⟨a, ws, n, rfl, b, _⟩ := hx
  exact (Looks.ld (hB _ _ b)).andThen .now
theorem due_spec {rl kl : Addr} {vs kvs : List Value} {n m : Nat} {rows : List Row} {ks : List (Int × Int)} (S : Sit P false true B s.heap s.gens) (hA : AOk 40 A) (hl : B rl = some (lstO vs n)) (hvs : Reps B vs (rows.map Row.d)) (h8 : rows.length = 8) (hc2 : ∀ r ∈ rows, r.c2.length = 2)
    (hok : ∀ r ∈ rows, EntOk r.e ∧ r.e.cs.length ≤ 1) (hk : B kl = some (lstO kvs m)) (hks : Reps B kvs (ks.map keyD)) (hcol : ∀ p ∈ ks, p.1 = 0 ∨ p.1 = 1 ∨ p.1 = 2) (hlk : ks.length = 3) (hT : Tot (ltM (marksZ rows ks)))
    (k : ∀ D zs c s' B', Mv B B' s s' → Sit P false false B' s'.heap s'.gens → B' D = some (lstO zs c) → Reps B' zs ((dueZ rows (marksZ rows ks) (ordM (marksZ rows ks))).map fun es => Mine.D.lst (es.map entD)) → Q (.ref D) s') : wpAny (model prg w) A (call (.ref 111) [.ref rl, .ref kl]) Q E s := by
  refine call_def S hA (def_due S.stat) (bind_pure (binds := [("rows", .ref rl), ("keys", .ref kl)]) (by rfl)) (.cell (i := 4) rfl rfl rfl (.loc rfl .nil)) fun h' tk cx => ?_
  generalize s.heap.objs.size = L at cx ⊢
  have hA1 : AOk 39 (A.deeper (envD (nameAt 15) (scAt 15) [] 111 110 L)) := hA.deeper
  have cx1 : Cx P false true s B B [(L, NsP [("keys", .ref kl)]), (L + 1 + 1 + 1 + 1 + 1, CellP none), (L + 1 + 1 + 1 + 1, CellP none), (L + 1 + 1 + 1, CellP none), (L + 1 + 1, CellP none), (L + 1, CellP (some (.ref rl)))] h' s.gens s.os := cx
  clear cx
  refine wpAny_execs_cons (wpAny_Assign_Name (ev_list rfl (nMu cx1 (by simp) fun M h2 cx2 => ?_)))
  refine stC (c := L + 1 + 1 + 1 + 1 + 1) 2 cx2 rfl rfl rfl (fun h3 cx3 => ?_) rfl
  have cx4 : Cx P false true s B B (dueMu L rl M [("keys", .ref kl)] [] none) h3 s.gens s.os := cx3.perm ((List.Perm.swap ..).trans (.cons _ (.cons _ (List.reverse_perm [(L + 1, CellP (some (.ref rl))), (L + 1 + 1, CellP none), (L + 1 + 1 + 1, CellP none), (L + 1 + 1 + 1 + 1, CellP none), (L + 1 + 1 + 1 + 1 + 1, CellP (some (.ref M)))]))))
  refine wpAny_execs_cons (wpAny_For (ld_cell (s := { s with heap := h3, toks := tk }) (c := L + 1) cx4 rfl (.tail _ (.tail _ (.head _))) ?_))
  refine itL cx4 hA1.handled hl fun I st h5 W cx5 => ?_
  refine marks_loop (s := { s with heap := h5, toks := tk }) (hA1.less (by decide)) rfl hk hks hcol (by omega) hl hvs hc2 (by omega) W cx5 rfl fun B6 mv u s6 hle6 hM cx6 => ?_
  obtain ⟨oM, ⟨cM, rfl⟩, _, nM, cx7⟩ := (cx6.perm (List.Perm.swap ..)).freeze
  have hle7 := FM.le_put (o := lstO mv cM) nM
  obtain ⟨oC, ⟨hC⟩, _, nC, cx8⟩ := (cx7.perm (List.perm_append_comm (l₁ := [_, _, _, _, _]) (l₂ := [_]))).freeze
  have hle8 := FM.le_put (o := oC) nC
  have hMM : B6.put M (lstO mv cM) M = some (lstO mv cM) := FM.put_self ..
  have hml := hM.len
  have mlen : (marksZ rows ks).length = 8 := by unfold marksZ; rw [List.length_map, h8]
  generalize hmk : marksZ rows ks = marks at hM hT mlen hml ⊢
  have mw : ∀ x ∈ marks, x.length = 3 := by
    intro x hx
    rw [← hmk] at hx
    obtain ⟨r, _, rfl⟩ := List.mem_map.mp hx
    unfold markZ; rw [List.length_map, hlk]
  have mat : ∀ i, i < 8 → ∃ v, mv[i]? = some v ∧ IL B6 v (marks.getD i []) := fun i hi => by
    obtain ⟨v, e1, e2⟩ := hM.get (i := i) (z := marks.getD i []) (by rw [List.getElem?_eq_getElem (by omega), List.getD_eq_getElem?_getD, List.getElem?_eq_getElem (by omega)]; rfl)
    exact ⟨v, e1, e2⟩
  have run := sort_run hT (N := marks.length) (by omega)
  have hin : ∀ i ∈ ordM marks, i < marks.length := fun i hi => List.mem_range.mp ((G.at run).1.mem_iff.mp hi)
  have holn : (ordM marks).length = 8 := by
    have := (G.at run).1.length_eq
    rw [List.length_range, mlen] at this
    unfold ordM; rw [mlen]; exact this
  refine wpAny_execs_cons (wpAny_Assign_Name (ev_call_key rfl (ldB cx8.sit (blt_sorted P) (ev_call rfl rfl (ldB cx8.sit (blt_range P) (eI fun t1 k1 => ⟨keep_type _, call_range_1 ?_⟩))))))
  have hR0 := get_size s6.heap
  have cx9 := cx8.pushB { cls := .type "range", data := .fields #[.int 0 k1, .int 8 t1, .int 1 (k1 + 1)] }
  have hle9 := FM.le_put (o := { cls := .type "range", data := .fields #[.int 0 k1, .int 8 t1, .int 1 (k1 + 1)] }) (cx8.sit.none_of hR0)
  refine kla_eval rfl (mklam (s := { s6 with heap := s6.heap.push { cls := .type "range", data := .fields #[.int 0 k1, .int 8 t1, .int 1 (k1 + 1)] }, toks := k1 + 1 + 1 }) (cl := [("marks", L + 1 + 1 + 1 + 1 + 1)]) cx9 rfl rfl rfl fun fa c' h10 tk10 B10 hle10 hF cx10 => ?_)
  refine ⟨keep_builtin _, ?_⟩
  have hRB : B10 s6.heap.objs.size = some { cls := .type "range", data := .fields #[.int 0 k1, .int 8 t1, .int 1 (k1 + 1)] } := hle10 _ _ (FM.put_self ..)
  have hleC : B6.le B10 := hle7.trans (hle8.trans (hle9.trans hle10))
  have hCB : B10 (L + 1 + 1 + 1 + 1 + 1) = some oC := hle10 _ _ (hle9 _ _ (FM.put_self ..))
  have hMB : B10 M = some (lstO mv cM) := hle10 _ _ (hle9 _ _ (hle8 _ _ hMM))
  refine sorted_rng (N := 8) (lt := ltM marks) (T := .type "list") (KR := fun B k v => ∃ (i : Nat) (t : Tok), v = .int (i : Int) t ∧ IL B k (marks.getD i [])) (s := { s6 with heap := h10, toks := tk10 }) cx10 hA1.handled (cx10.sit.inB _ _ hRB) (by decide) (by decide) (fun B B' k v hle ⟨i, t, e, x⟩ => ⟨i, t, e, x.le hle⟩) (by rw [mlen] at run; exact run.run) (fun i hi => by have := hin i (by unfold ordM; rw [mlen]; exact hi); omega) ?_ (by simp) (by simp) ?_ ?_ ?_
  · rintro B' h k v hB ⟨i, t, _, x⟩
    exact looks_il hB x
  · intro i t hi s11 B11 hle11 S11
    refine call_lam (binds := [("place", .int i t)]) S11 (hA1.in1.in1.less (m := 5) (by decide)) (hF.le hle11) (by rfl) (.loc rfl .nil) fun h12 tk12 cx12 => ?_
    obtain ⟨v, e1, e2⟩ := mat i hi
    have hleD := hleC.trans hle11
    refine subL rfl (ld_freeB (s := { s11 with heap := h12, toks := tk12 }) (c := L + 1 + 1 + 1 + 1 + 1) cx12.sit rfl (hle11 _ _ hCB) hC (ld_local (s := { s11 with heap := h12, toks := tk12 }) cx12 (.head _) rfl ⟨M, mv, i, t, _, rfl, rfl, isList_of cx12.sit.inB (hle11 _ _ hMB), by omega, by omega, by simpa using e1, ?_⟩))
    exact ⟨B11, cx12.mv, cx12.sit, i, t, rfl, e2.le hleD⟩
  · rintro i j hi hj ti tj s11 B11 ki kj hle11 ⟨i', t1', ei, xi⟩ ⟨j', t2', ej, xj⟩ S11 Q' hQ
    have hii : i' = i := by injection ei with h1 h2; omega
    have hjj : j' = j := by injection ej with h1 h2; omega
    subst hii; subst hjj
    have l3 : ∀ q, q < 8 → (marks.getD q []).length = 3 := fun q hq => by
      rw [List.getD_eq_getElem?_getD, List.getElem?_eq_getElem (by omega)]
      exact mw _ (List.getElem_mem (by omega))
    exact key_lt_il S11.inB xi xj (by rw [l3 _ hi, l3 _ hj]) (hA1.in1.in1.less (m := 1) (by decide)).line (hQ s11 B11 (Mv.refl ..) S11)
  · intro D c s11 B11 vs11 hle11 hI cx11
    obtain ⟨_, ⟨rfl⟩, _, nD, cx12⟩ := cx11.freeze
    have hle12 := FM.le_put (o := lstO vs11 c) nD
    refine stC (c := L + 1 + 1 + 1) 3 cx12 rfl rfl rfl (fun h13 cx13 => ?_) rfl
    refine wpAny_execs_cons (wpAny_Assign_Name (ev_list rfl (nMu cx13 (by simp) fun D2 h14 cx14 => ?_)))
    refine stL (env := envD (nameAt 15) (scAt 15) [] 111 110 L) (cx14.perm (List.Perm.swap ..)) rfl (fun h15 tk15 cx15 => ?_) rfl
    have hleE : B6.le (B11.put D (lstO vs11 c)) := hleC.trans (hle11.trans hle12)
    have l10 : B10.le (B11.put D (lstO vs11 c)) := hle11.trans hle12
    refine wpAny_execs_cons (wpAny_For (ev_list rfl (eI fun t1 k1 => eI fun t2 k2 => eI fun t3 k3 => eI fun t4 k4 => ?_)))
    refine nLst cx15 (by simp) fun b h16 B16 hle16 hb cx16 => ?_
    refine itL cx16 hA1.handled hb fun I st h17 W cx17 => ?_
    have l16 := hleE.trans hle16
    have oeq : (runT (ltM marks) (kas_sort 8)).toList = ordM marks := by unfold ordM; rw [mlen]
    rw [oeq] at hI
    have X : DueF B16 [(L + 1, CellP (some (.ref rl))), (L + 1 + 1 + 1, CellP (some (.ref D)))] L rl D M vs vs11 mv rows (ordM marks) marks :=
      { m1 := .head _, m3 := .tail _ (.head _), mkc := ⟨oC, hle16 _ _ (l10 _ _ hCB), hC⟩, rl := ⟨n, l16 _ _ (hle6 _ _ hl)⟩, ol := ⟨c, hle16 _ _ (FM.put_self ..)⟩, ml := ⟨cM, hle16 _ _ (l10 _ _ hMB)⟩,
        rr := hvs.le (hle6.trans l16), oo := hI, mm := hM.le l16, len := by rw [mlen, h8], lt := fun p hp => by have := hin p hp; omega, ok := hok, lo := by omega, lr := by omega, w := mw }
    refine due_loop (s := { s11 with heap := h17, toks := k4 }) (D := D2) (hA1.less (by decide)) rfl X W ?_ cx17 ?_ fun B18 zs l18 s18 mu18 hle18 hZ hst cx18 => ?_
    · exact .cons _ _ (.cons _ _ (.cons _ _ (.cons _ _ .nil)))
    · show List.lookup _ _ = _; walk_at "mqlk"
    refine wpAny_execs_cons (wpAny_Return_some (ld_local (env := envD (nameAt 15) (scAt 15) [] 111 110 L) cx18 (.head _) hst ?_))
    obtain ⟨oD, ⟨c2, rfl⟩, _, nB, cx19⟩ := (cx18.tail rfl).freeze
    exact k D2 zs c2 s18 _ cx19.mv cx19.sit (FM.put_self ..) (by rw [hmk]; exact hZ.le (FM.le_put nB))
end
end Mine
end
section
open PySem PySem.W PyProof.Rows
set_option Elab.async false
set_option maxRecDepth 100000
set_option maxHeartbeats 4000000
set_option linter.unusedVariables false
namespace Mine
local macro_rules | `(tactic| walk_at "mqlk") => `(tactic| first | assumption | exact lk_same _ _ _ | (refine lk_other (by decide) ?_; walk_at "mqlk") | rfl)
def toldD (ks : List (Int × Int)) (rows : List Row) : D := .lst ((toldZ ks (sortZ ks rows)).map stageD)
def dueD (ks : List (Int × Int)) (rows : List Row) : D := .lst ((dueZ rows (marksZ rows ks) (ordM (marksZ rows ks))).map fun es => Mine.D.lst (es.map entD))
def rowsD (rows : List Row) : D := .lst (rows.map Row.d)
/-- what the pure part must show of the rows and the keys -/
structure Pure (rows : List Row) (ks : List (Int × Int)) : Prop where
  n8 : rows.length = 8
  c2 : ∀ r ∈ rows, r.c2.length = 2
  ok : ∀ r ∈ rows, EntOk r.e ∧ r.e.cs.length ≤ 1
  col : ∀ p ∈ ks, p.1 = 0 ∨ p.1 = 1 ∨ p.1 = 2
  k3 : ks.length = 3
  tR : Tot (ltR ks rows)
  tM : Tot (ltM (marksZ rows ks))
  st : OkSt ks (sortZ ks rows)
  same : toldD ks rows = dueD ks rows
  d1 : (dueD ks rows).dep ≤ 100
  d2 : (rowsD rows).dep ≤ 100
section
variable {w : World} {P : Params} {f g : Bool} {s₀ s : Shared} {B₀ B : FM} {mu : MU} {A : Around} {E : Value → Shared → Prop} {env : Env} {Q : Value → Shared → Prop}
theorem eq_lst {B : FM} {s : Shared} (hB : B.inn s.heap) {a b : Addr} {d : List D} {A : Around} {E : Value → Shared → Prop} {Q : Value → Shared → Prop} (h1 : Rep B (.ref a) (.lst d)) (h2 : Rep B (.ref b) (.lst d)) (hu : A.units + (Mine.D.lst d).dep < cLine) (h : Q (.bool true) s) : wpAny (model prg w) A (compareOp .Eq (.ref a) (.ref b)) Q E s := by
  cases h1 with
  | lst e r => cases h2 with
    | lst e' r' =>
      have := SeqAt.RcAt.lists (A := A) (e := fun _ => true) (isList_of hB e) (isList_of hB e') (by simp [r.length, r'.length]) (by omega) (eqs_rep hB r r' (A := A.in1) (by rw [units_in1]; unfold D.dep at hu; omega))
      have h3 : SeqAt.RcAt A s (.ref a) (.ref b) true := by simpa [r.length, r'.length, -List.all_eq_true, all_true] using this
      exact h3 prg w E Q h
theorem law_spec {a : Addr} {vs : List Value} {n : Nat} {ns : List Int} (S : Sit P true true B s.heap s.gens) (hA : AOk 200 A) (ha : B a = some (lstO vs n)) (hi : IntsAre vs ns) (hn : ns.length ≤ 63) (X : Pure (rowsZ ns) (keysZ ns))
    (k : ∀ s' B', Mv B B' s s' → Sit P false false B' s'.heap s'.gens → Q (.bool true) s') : wpAny (model prg w) A (call (.ref 118) [.ref a]) Q E s := by
  refine call_def S hA (def_law S.stat) (bind_pure (binds := [("script", .ref a)]) (by rfl)) (.loc rfl .nil) fun h' tk cx => ?_
  generalize s.heap.objs.size = L at cx ⊢
  have hA1 : AOk 199 (A.deeper (envD (nameAt 16) (scAt 16) [] 118 117 L)) := hA.deeper
  have cx1 : Cx P true true s B B [(L, NsP [("script", .ref a)])] h' s.gens s.os := cx
  clear cx
  refine wpAny_execs_cons (wpAny_Assign_Name (ev_call rfl rfl (ldG (s := { s with heap := h', toks := tk }) cx1.sit (glob_rows P) (ld_local (s := { s with heap := h', toks := tk }) cx1 (.head _) rfl ⟨keepG (s := { s with heap := h', toks := tk }) cx1.sit (by kernel_rfl) rfl (by kernel_rfl), ?_⟩))))
  refine rows_spec (s := { s with heap := h', toks := tk }) cx1.sit (hA1.less (by decide)) ha hi hn fun c2 ys2 j2 s2 B2 mv2 S2 hc2 hr2 => ?_
  have cx2 := cx1.call (s := { s with heap := h', toks := tk }) mv2 S2
  refine stL (env := envD (nameAt 16) (scAt 16) [] 118 117 L) cx2 rfl (fun h3 tk3 cx3 => ?_) rfl
  refine wpAny_execs_cons (wpAny_Assign_Name (ev_call rfl rfl (ldG (s := { s2 with heap := h3, toks := tk3 }) cx3.sit (glob_keys P) (ld_local (s := { s2 with heap := h3, toks := tk3 }) cx3 (.head _) (by walk_at "mqlk") ⟨keepG (s := { s2 with heap := h3, toks := tk3 }) cx3.sit (by kernel_rfl) rfl (by kernel_rfl), ?_⟩))))
  refine keys_spec (s := { s2 with heap := h3, toks := tk3 }) cx3.sit (hA1.less (by decide)) (mv2.le _ _ ha) hi hn fun c4 ys4 j4 s4 B4 mv4 S4 hc4 hr4 => ?_
  have cx4 := cx3.call (s := { s2 with heap := h3, toks := tk3 }) mv4 S4
  refine stL (env := envD (nameAt 16) (scAt 16) [] 118 117 L) cx4 rfl (fun h5 tk5 cx5 => ?_) rfl
  refine wpAny_execs_cons (wpAny_Assign_Name (ev_call rfl rfl (ldG (s := { s4 with heap := h5, toks := tk5 }) cx5.sit (glob_stages P) (ld_local (s := { s4 with heap := h5, toks := tk5 }) cx5 (.head _) (by walk_at "mqlk") (ld_local (s := { s4 with heap := h5, toks := tk5 }) cx5 (.head _) (by walk_at "mqlk") ⟨keepG (s := { s4 with heap := h5, toks := tk5 }) cx5.sit (by kernel_rfl) rfl (by kernel_rfl), ?_⟩)))))
  refine stages_spec (s := { s4 with heap := h5, toks := tk5 }) cx5.sit (hA1.less (by decide)) (mv4.le _ _ hc2) (hr2.le mv4.le) X.n8 X.c2 hc4 hr4 X.col (by rw [X.k3]; decide) X.tR X.st fun D6 zs6 c6 s6 B6 mv6 S6 hD6 hZ6 => ?_
  have cx6 := cx5.call (s := { s4 with heap := h5, toks := tk5 }) mv6 S6
  refine stL (env := envD (nameAt 16) (scAt 16) [] 118 117 L) cx6 rfl (fun h7 tk7 cx7 => ?_) rfl
  refine wpAny_execs_cons (wpAny_Assign_Name (ev_call rfl rfl (ldG (s := { s6 with heap := h7, toks := tk7 }) cx7.sit (glob_rows P) (ld_local (s := { s6 with heap := h7, toks := tk7 }) cx7 (.head _) (by walk_at "mqlk") ⟨keepG (s := { s6 with heap := h7, toks := tk7 }) cx7.sit (by kernel_rfl) rfl (by kernel_rfl), ?_⟩))))
  refine rows_spec (s := { s6 with heap := h7, toks := tk7 }) cx7.sit (hA1.less (by decide)) (mv6.le _ _ (mv4.le _ _ (mv2.le _ _ ha))) hi hn fun c8 ys8 j8 s8 B8 mv8 S8 hc8 hr8 => ?_
  have cx8 := cx7.call (s := { s6 with heap := h7, toks := tk7 }) mv8 S8
  refine stL (env := envD (nameAt 16) (scAt 16) [] 118 117 L) cx8 rfl (fun h9 tk9 cx9 => ?_) rfl
  refine wpAny_execs_cons (wpAny_Return_some (wpAny_And2 (wpAny_Compare1 ?_)))
  refine ld_local (s := { s8 with heap := h9, toks := tk9 }) cx9 (.head _) (by walk_at "mqlk") ?_
  refine ev_call rfl rfl (ldG (s := { s8 with heap := h9, toks := tk9 }) cx9.sit (glob_due P) (ld_local (s := { s8 with heap := h9, toks := tk9 }) cx9 (.head _) (by walk_at "mqlk") (ld_local (s := { s8 with heap := h9, toks := tk9 }) cx9 (.head _) (by walk_at "mqlk") ⟨keepG (s := { s8 with heap := h9, toks := tk9 }) cx9.sit (by kernel_rfl) rfl (by kernel_rfl), ?_⟩)))
  refine due_spec (s := { s8 with heap := h9, toks := tk9 }) cx9.sit (hA1.less (by decide)) hc8 hr8 X.n8 X.c2 X.ok (mv8.le _ _ (mv6.le _ _ hc4)) (hr4.le (mv6.le.trans mv8.le)) X.col X.k3 X.tM fun D10 zs10 c10 s10 B10 mv10 S10 hD10 hZ10 => ?_
  have cx10 := cx9.call (s := { s8 with heap := h9, toks := tk9 }) mv10 S10
  have rT : Rep B10 (.ref D6) (dueD (keysZ ns) (rowsZ ns)) := by
    rw [← X.same]; exact .lst ((mv8.le.trans mv10.le) _ _ hD6) (hZ6.le (mv8.le.trans mv10.le))
  have rD : Rep B10 (.ref D10) (dueD (keysZ ns) (rowsZ ns)) := .lst hD10 hZ10
  have hu := (hA1.less (m := 0) (by decide)).units
  refine eq_lst cx10.sit.inB rT rD (by have := X.d1; unfold dueD at this; show _ < 9900; omega) (wpAny_truthy_bool ?_)
  first | refine ifT ?_ | refine wpAny_ite_true rfl ?_ | rw [if_pos rfl]
  refine wpAny_Compare1 (ld_local cx10 (.head _) (by walk_at "mqlk") (ld_local cx10 (.head _) (by walk_at "mqlk") ?_))
  have r1 : Rep B10 (.ref c2) (rowsD (rowsZ ns)) := .lst ((mv4.le.trans (mv6.le.trans (mv8.le.trans mv10.le))) _ _ hc2) (hr2.le (mv4.le.trans (mv6.le.trans (mv8.le.trans mv10.le))))
  have r2 : Rep B10 (.ref c8) (rowsD (rowsZ ns)) := .lst (mv10.le _ _ hc8) (hr8.le mv10.le)
  refine eq_lst cx10.sit.inB r1 r2 (by have := X.d2; unfold rowsD at this; show _ < 9900; omega) ?_
  exact k s10 B10 cx10.mv cx10.sit
end
end Mine
end
section
open PySem PySem.W PyProof.Rows
set_option Elab.async false
set_option maxRecDepth 100000
set_option maxHeartbeats 4000000
set_option linter.unusedVariables false
namespace Mine
theorem ltL_as : ∀ (a b : List Int), ltL a b = true → ltL b a = false
  | [], [], h => by simp [ltL] at h
  | [], _ :: _, _ => rfl
  | _ :: _, [], h => by simp [ltL] at h
  | a :: x, b :: y, h => by
    unfold ltL at h ⊢
    by_cases e : a = b
    · subst e; rw [if_pos rfl] at h ⊢; exact ltL_as x y h
    · rw [if_neg e] at h; rw [if_neg fun q => e q.symm]
      have := of_decide_eq_true h
      exact decide_eq_false (by omega)
theorem ltL_tr : ∀ (a b c : List Int), ltL b a = false → ltL c b = false → ltL c a = false
  | [], [], c, h1, h2 => h2
  | [], _ :: _, [], h1, h2 => by simp [ltL] at h2
  | [], _ :: _, _ :: _, h1, h2 => by simp [ltL]
  | _ :: _, [], _, h1, h2 => by simp [ltL] at h1
  | _ :: _, _ :: _, [], h1, h2 => by simp [ltL] at h2
  | a :: x, b :: y, c :: z, h1, h2 => by
    unfold ltL at h1 h2 ⊢
    by_cases e1 : b = a
    · subst e1
      by_cases e2 : c = b
      · subst e2; rw [if_pos rfl] at *; exact ltL_tr x y z h1 h2
      · rw [if_neg e2] at h2 ⊢; exact h2
    · rw [if_neg e1] at h1
      have h1 := of_decide_eq_false h1
      by_cases e2 : c = b
      · subst e2; rw [if_neg e1]; exact decide_eq_false h1
      · rw [if_neg e2] at h2
        have h2 := of_decide_eq_false h2
        rw [if_neg (by omega)]; exact decide_eq_false (by omega)
theorem ltM_tot (marks : List (List Int)) : Tot (ltM marks) := ⟨fun a b => ltL_as _ _, fun a b c => ltL_tr _ _ _⟩
theorem rows_n8 (ns : List Int) : (rowsZ ns).length = 8 := by simp [rowsZ, rowsOf, heapsZ]
theorem rows_mem {ns : List Int} {r : Row} (h : r ∈ rowsZ ns) : ∃ (p : Nat) (n : Int), r = rowZ p n := by
  obtain ⟨p, _, rfl⟩ := List.mem_map.mp h
  exact ⟨p, _, rfl⟩
theorem rows_c2 {ns : List Int} : ∀ r ∈ rowsZ ns, r.c2.length = 2 := fun r h => by
  obtain ⟨p, n, rfl⟩ := rows_mem h; rfl
theorem rows_ok {ns : List Int} : ∀ r ∈ rowsZ ns, EntOk r.e ∧ r.e.cs.length ≤ 1 := fun r h => by
  obtain ⟨p, n, rfl⟩ := rows_mem h
  exact ⟨⟨rfl, fun q hq => by rw [List.mem_singleton.mp hq]; rfl⟩, Nat.le_refl _⟩
theorem depL_le {k : Nat} : ∀ (l : List D), (∀ d ∈ l, d.dep ≤ k) → D.dep.depL l ≤ k
  | [], _ => Nat.zero_le _
  | d :: l, h => by
    have h1 := h d (.head _)
    have h2 := depL_le l fun x hx => h x (.tail _ hx)
    show max _ _ ≤ k; omega
theorem ints_dep (q : List Int) : D.dep.depL (q.map D.int) ≤ 0 := depL_le _ fun d hd => by
  obtain ⟨x, _, rfl⟩ := List.mem_map.mp hd; exact Nat.le_refl _
theorem four_dep (q : List Int) : (fourD q).dep ≤ 1 := by
  have := ints_dep q
  show 1 + D.dep.depL _ ≤ 1; omega
theorem depK_le {k : Nat} : ∀ (l : List (Int × D)), (∀ d ∈ l, d.2.dep ≤ k) → D.dep.depK l ≤ k
  | [], _ => Nat.zero_le _
  | d :: l, h => by
    have h1 := h d (.head _)
    have h2 := depK_le l fun x hx => h x (.tail _ hx)
    show max _ _ ≤ k; omega
theorem entd_dep (e : Ent) : e.d.dep ≤ 3 := by
  show 1 + D.dep.depL (e.four.map D.int ++ [_]) ≤ 3
  have : D.dep.depL (e.four.map D.int ++ [.dct (e.cs.map fun p => (p.1, fourD p.2))]) ≤ 2 := depL_le _ fun d hd => by
    rcases List.mem_append.mp hd with h | h
    · obtain ⟨x, _, rfl⟩ := List.mem_map.mp h; exact Nat.zero_le _
    · rw [List.mem_singleton.mp h]
      have : D.dep.depK (e.cs.map fun p => (p.1, fourD p.2)) ≤ 1 := depK_le _ fun d hd => by
        obtain ⟨x, _, rfl⟩ := List.mem_map.mp hd; exact four_dep _
      show 1 + D.dep.depK _ ≤ 2; omega
  omega
theorem entD_dep (e : Ent) : (entD e).dep ≤ 4 := by
  have h1 := ints_dep e.four
  have h2 : D.dep.depL (e.cs.map fun p => D.tup [.int p.1, fourD p.2]) ≤ 2 := depL_le _ fun d hd => by
    obtain ⟨x, _, rfl⟩ := List.mem_map.mp hd
    have := four_dep x.2
    show 1 + max 0 (max (fourD x.2).dep 0) ≤ 2; omega
  show 1 + max (1 + D.dep.depL _) (max (1 + D.dep.depL _) 0) ≤ 4; omega
theorem due_dep (ks : List (Int × Int)) (rows : List Row) : (dueD ks rows).dep ≤ 100 := by
  have : D.dep.depL ((dueZ rows (marksZ rows ks) (ordM (marksZ rows ks))).map fun es => Mine.D.lst (es.map entD)) ≤ 5 := depL_le _ fun d hd => by
    obtain ⟨x, _, rfl⟩ := List.mem_map.mp hd
    have : D.dep.depL (x.map entD) ≤ 4 := depL_le _ fun d hd => by
      obtain ⟨y, _, rfl⟩ := List.mem_map.mp hd; exact entD_dep y
    show 1 + D.dep.depL _ ≤ 5; omega
  show 1 + D.dep.depL _ ≤ 100; omega
theorem rows_dep (rows : List Row) : (rowsD rows).dep ≤ 100 := by
  have : D.dep.depL (rows.map Row.d) ≤ 10 := depL_le _ fun d hd => by
    obtain ⟨x, _, rfl⟩ := List.mem_map.mp hd
    have h1 := entd_dep x.e
    have h2 := ints_dep x.c2
    show 1 + max 0 (max 0 (max (1 + D.dep.depL (x.c2.map D.int)) (max x.e.d.dep 0))) ≤ 10; omega
  show 1 + D.dep.depL _ ≤ 100; omega
/-- the ways are not nought -/
def WayOk (ks : List (Int × Int)) : Prop := ∀ p ∈ ks, p.2 ≠ 0
def ltC (ks : List (Int × Int)) (a b : Row) : Bool := decide (cmpZ ks a b < 0)
theorem ltC_cons {c d : Int} {ks : List (Int × Int)} {a b : Row} (hd : d ≠ 0) : ltC ((c, d) :: ks) a b = if 0 < d then (ltL (colZ c a) (colZ c b) || (!ltL (colZ c b) (colZ c a) && ltC ks a b)) else (ltL (colZ c b) (colZ c a) || (!ltL (colZ c a) (colZ c b) && ltC ks a b)) := by
  unfold ltC
  rw [cmpZ]
  have as := ltL_as (colZ c a) (colZ c b)
  by_cases hp : 0 < d
  · rw [if_pos hp]
    have e1 : decide (-d < 0) = true := decide_eq_true (by omega)
    have e2 : decide (d < 0) = false := decide_eq_false (by omega)
    cases h1 : ltL (colZ c a) (colZ c b) <;> cases h2 : ltL (colZ c b) (colZ c a) <;> simp_all
  · rw [if_neg hp]
    have e1 : decide (-d < 0) = false := decide_eq_false (by omega)
    have e2 : decide (d < 0) = true := decide_eq_true (by omega)
    cases h1 : ltL (colZ c a) (colZ c b) <;> cases h2 : ltL (colZ c b) (colZ c a) <;> simp_all
theorem ltC_as : ∀ (ks : List (Int × Int)) (a b : Row), WayOk ks → ltC ks a b = true → ltC ks b a = false
  | [], a, b, _, h => by simp [ltC, cmpZ] at h
  | (c, d) :: ks, a, b, w, h => by
    have ih := ltC_as ks a b fun p hp => w p (.tail _ hp)
    have hd : d ≠ 0 := w _ (.head _)
    rw [ltC_cons hd] at h ⊢
    have as := ltL_as (colZ c a) (colZ c b)
    have as2 := ltL_as (colZ c b) (colZ c a)
    by_cases hp : 0 < d
    · rw [if_pos hp] at h ⊢
      cases h1 : ltL (colZ c a) (colZ c b) <;> cases h2 : ltL (colZ c b) (colZ c a) <;> simp_all
    · rw [if_neg hp] at h ⊢
      cases h1 : ltL (colZ c a) (colZ c b) <;> cases h2 : ltL (colZ c b) (colZ c a) <;> simp_all
theorem bool_tr : ∀ (ba ab cb bc ca ac r1 r2 r3 : Bool), (ba = false → cb = false → ca = false) → (bc = false → ab = false → ac = false) → (ab = false → ca = false → cb = false) → (cb = false → ac = false → ab = false) →
    (ca = false → bc = false → ba = false) → (ac = false → ba = false → bc = false) → (r1 = false → r2 = false → r3 = false) → (ba || (!ab && r1)) = false → (cb || (!bc && r2)) = false → (ca || (!ac && r3)) = false := by decide +kernel
theorem ltC_tr (ks : List (Int × Int)) (a b c : Row) (w : WayOk ks) : ltC ks b a = false → ltC ks c b = false → ltC ks c a = false := by
  induction ks with
  | nil => intro _ _; rfl
  | cons k ks ih =>
    obtain ⟨q, d⟩ := k
    intro h1 h2
    have ih := ih fun p hp => w p (.tail _ hp)
    have hd : d ≠ 0 := w _ (.head _)
    rw [ltC_cons hd] at h1 h2 ⊢
    have t1 := ltL_tr (colZ q a) (colZ q b) (colZ q c)
    have t2 := ltL_tr (colZ q c) (colZ q b) (colZ q a)
    have t3 := ltL_tr (colZ q b) (colZ q a) (colZ q c)
    have t4 := ltL_tr (colZ q b) (colZ q c) (colZ q a)
    have t5 := ltL_tr (colZ q a) (colZ q c) (colZ q b)
    have t6 := ltL_tr (colZ q c) (colZ q a) (colZ q b)
    by_cases hp : 0 < d
    · rw [if_pos hp] at h1 h2 ⊢
      exact bool_tr _ _ _ _ _ _ _ _ _ t1 t2 t3 t4 t5 t6 ih h1 h2
    · rw [if_neg hp] at h1 h2 ⊢
      exact bool_tr _ _ _ _ _ _ _ _ _ (fun x y => t2 y x) (fun x y => t1 y x) (fun x y => t6 y x) (fun x y => t5 y x) (fun x y => t4 y x) (fun x y => t3 y x) ih h1 h2
theorem ltR_tot {ks : List (Int × Int)} (rows : List Row) (w : WayOk ks) : Tot (ltR ks rows) := ⟨fun a b => ltC_as ks _ _ w, fun a b c => ltC_tr ks _ _ _ w⟩
end Mine
end
section
open PySem PySem.W PyProof.Rows
set_option Elab.async false
set_option maxRecDepth 100000
set_option maxHeartbeats 4000000
set_option linter.unusedVariables false
namespace Mine
def C3 (c : Int) : Prop := c = 0 ∨ c = 1 ∨ c = 2
theorem way_ne (i : Int) : wayZ i ≠ 0 := by unfold wayZ; split; decide; split; decide; split <;> decide
theorem keys_fold : ∀ (l : List Int) (st : List (Int × Int) × List Int), (∀ p ∈ st.1, C3 p.1 ∧ p.2 ≠ 0) → (∀ x ∈ st.2, C3 x) →
    (∀ p ∈ (l.foldl keysStep st).1, C3 p.1 ∧ p.2 ≠ 0) ∧ (l.foldl keysStep st).1.length = st.1.length + l.length
  | [], st, h, _ => ⟨h, rfl⟩
  | n :: l, st, h, h2 => by
    obtain ⟨a, b⟩ := keys_fold l (keysStep st n) (fun p hp => by
      rcases List.mem_append.mp hp with hp | hp
      · exact h p hp
      · rw [List.mem_singleton.mp hp]
        refine ⟨?_, way_ne _⟩
        show C3 (st.2.getD _ 0)
        rw [List.getD_eq_getElem?_getD]
        cases e : st.2[(n.fmod st.2.length).toNat]? with
        | none => exact .inl rfl
        | some x => exact h2 x (List.mem_of_getElem? e)) (fun x hx => h2 x (List.mem_filter.mp hx).1)
    refine ⟨a, ?_⟩
    rw [List.foldl_cons, b, List.length_cons]
    unfold keysStep
    rw [List.length_append, List.length_singleton]
    omega
theorem keys_all (ns : List Int) : (∀ p ∈ keysZ ns, C3 p.1 ∧ p.2 ≠ 0) ∧ (keysZ ns).length = 3 := by
  obtain ⟨a, b⟩ := keys_fold (heapsZ ns [7, 2, 12]) ([], [0, 1, 2]) (fun p hp => by cases hp) (fun x hx => by simpa [C3] using hx)
  refine ⟨a, ?_⟩
  unfold keysZ
  rw [b]
  simp [heapsZ]
theorem keys_col (ns : List Int) : ∀ p ∈ keysZ ns, p.1 = 0 ∨ p.1 = 1 ∨ p.1 = 2 := fun p hp => ((keys_all ns).1 p hp).1
theorem keys_way (ns : List Int) : WayOk (keysZ ns) := fun p hp => ((keys_all ns).1 p hp).2
/-- what is left of the pure law -/
theorem pure_of {ns : List Int} (st : OkSt (keysZ ns) (sortZ (keysZ ns) (rowsZ ns))) (same : toldD (keysZ ns) (rowsZ ns) = dueD (keysZ ns) (rowsZ ns)) : Pure (rowsZ ns) (keysZ ns) where
  n8 := rows_n8 ns
  c2 := rows_c2
  ok := rows_ok
  col := keys_col ns
  k3 := (keys_all ns).2
  tR := ltR_tot _ (keys_way ns)
  tM := ltM_tot _
  st := st
  same := same
  d1 := due_dep _ _
  d2 := rows_dep _
/-! the marks rank the rows as the compare does -/
theorem less_mono {rows : List Row} {c : Int} {a b : Row} (h : ltL (colZ c b) (colZ c a) = false) : lessZ rows c a ≤ lessZ rows c b := by
  unfold lessZ
  induction rows with
  | nil => exact Nat.le_refl _
  | cons o rows ih =>
    rw [List.filter_cons, List.filter_cons]
    cases h1 : ltL (colZ c o) (colZ c a) with
    | false =>
      rw [if_neg (by decide)]
      split
      · rw [List.length_cons]; omega
      · exact ih
    | true =>
      have : ltL (colZ c o) (colZ c b) = true := by
        cases h2 : ltL (colZ c o) (colZ c b) with
        | true => rfl
        | false =>
          have := ltL_tr (colZ c a) (colZ c b) (colZ c o) h h2
          rw [h1] at this; cases this
      rw [if_pos rfl, this, if_pos rfl, List.length_cons, List.length_cons]; omega
theorem less_lt {rows : List Row} {c : Int} {a b : Row} (ha : a ∈ rows) (h : ltL (colZ c a) (colZ c b) = true) : lessZ rows c a < lessZ rows c b := by
  have hba := ltL_as _ _ h
  have ir : ltL (colZ c a) (colZ c a) = false := by
    cases q : ltL (colZ c a) (colZ c a) with
    | false => rfl
    | true => have := ltL_as _ _ q; rw [q] at this; cases this
  unfold lessZ
  induction rows with
  | nil => cases ha
  | cons o rows ih =>
    rw [List.filter_cons, List.filter_cons]
    rcases List.mem_cons.mp ha with rfl | ha
    · rw [ir, h, if_neg (by decide), if_pos rfl, List.length_cons]
      have := less_mono (rows := rows) hba
      unfold lessZ at this; omega
    · have := ih ha
      cases h1 : ltL (colZ c o) (colZ c a) with
      | false =>
        rw [if_neg (by decide)]
        split
        · rw [List.length_cons]; omega
        · exact this
      | true =>
        have : ltL (colZ c o) (colZ c b) = true := by
          cases h2 : ltL (colZ c o) (colZ c b) with
          | true => rfl
          | false =>
            have := ltL_tr (colZ c a) (colZ c b) (colZ c o) hba h2
            rw [h1] at this; cases this
        rw [if_pos rfl, this, if_pos rfl, List.length_cons, List.length_cons]; omega
/-- the compare by sign, against the marks -/
theorem cmp_marks {rows : List Row} {a b : Row} (ha : a ∈ rows) (hb : b ∈ rows) : ∀ (ks : List (Int × Int)), WayOk ks → (decide (cmpZ ks a b < 0) = ltL (markZ rows ks a) (markZ rows ks b) ∧ (cmpZ ks a b = 0 ↔ markZ rows ks a = markZ rows ks b))
  | [], _ => ⟨rfl, by simp [cmpZ, markZ]⟩
  | (c, d) :: ks, w => by
    obtain ⟨i1, i2⟩ := cmp_marks ha hb ks fun p hp => w p (.tail _ hp)
    have hd : d ≠ 0 := w _ (.head _)
    have e1 : markZ rows ((c, d) :: ks) a = (d * (lessZ rows c a : Int)) :: markZ rows ks a := rfl
    have e2 : markZ rows ((c, d) :: ks) b = (d * (lessZ rows c b : Int)) :: markZ rows ks b := rfl
    rw [e1, e2, cmpZ, ltL]
    cases h1 : ltL (colZ c a) (colZ c b) with
    | true =>
      have hl := less_lt (rows := rows) ha h1
      rw [if_pos rfl]
      have hne : ¬ d * (lessZ rows c a : Int) = d * (lessZ rows c b : Int) := fun q => by
        have := Int.eq_of_mul_eq_mul_left hd q; omega
      rw [if_neg hne]
      refine ⟨?_, ?_⟩
      · rw [decide_eq_decide]
        constructor
        · intro h; exact Int.mul_lt_mul_of_pos_left (by omega) (by omega)
        · intro h
          by_cases hp : 0 < d
          · omega
          · have : d * (lessZ rows c b : Int) < d * (lessZ rows c a : Int) := Int.mul_lt_mul_of_neg_left (by omega) (by omega)
            omega
      · constructor
        · intro h; omega
        · intro h; injection h with h1 _; exact absurd h1 hne
    | false =>
      rw [if_neg (by decide)]
      cases h2 : ltL (colZ c b) (colZ c a) with
      | true =>
        have hl := less_lt (rows := rows) hb h2
        rw [if_pos rfl]
        have hne : ¬ d * (lessZ rows c a : Int) = d * (lessZ rows c b : Int) := fun q => by
          have := Int.eq_of_mul_eq_mul_left hd q; omega
        rw [if_neg hne]
        refine ⟨?_, ?_⟩
        · rw [decide_eq_decide]
          constructor
          · intro h; exact Int.mul_lt_mul_of_neg_left (by omega) h
          · intro h
            by_cases hp : 0 < d
            · have : d * (lessZ rows c b : Int) < d * (lessZ rows c a : Int) := Int.mul_lt_mul_of_pos_left (by omega) hp
              omega
            · omega
        · constructor
          · intro h; omega
          · intro h; injection h with h1 _; exact absurd h1 hne
      | false =>
        have l1 := less_mono (rows := rows) h1
        have l2 := less_mono (rows := rows) h2
        have le : lessZ rows c a = lessZ rows c b := by omega
        rw [if_neg (by decide), le, if_pos rfl]
        exact ⟨i1, by simp [i2]⟩
end Mine
end
section
open PySem PySem.W PyProof.Rows
set_option Elab.async false
set_option maxRecDepth 100000
set_option maxHeartbeats 4000000
set_option linter.unusedVariables false
namespace Mine
theorem runT_congr {α : Type} {lt lt' : Nat → Nat → Bool} {n : Nat} {Φ : α → Prop} (h : ∀ i j, i < n → j < n → lt i j = lt' i j) : ∀ {t : KasT α}, G lt n t Φ → runT lt t = runT lt' t
  | .ret _, _ => rfl
  | .ask i j k, g => by
    obtain ⟨hi, hj, g2⟩ := g
    show runT lt (k (lt i j)) = runT lt' (k (lt' i j))
    rw [← h i j hi hj]
    exact runT_congr h g2
theorem rowAt_mem {rows : List Row} {i : Nat} (h : i < rows.length) : rowAt rows i ∈ rows := by
  unfold rowAt
  rw [List.getD_eq_getElem?_getD, List.getElem?_eq_getElem h]
  exact List.getElem_mem h
theorem marks_at {rows : List Row} {ks : List (Int × Int)} {i : Nat} (h : i < rows.length) : (marksZ rows ks).getD i [] = markZ rows ks (rowAt rows i) := by
  unfold marksZ rowAt
  rw [List.getD_eq_getElem?_getD, List.getElem?_map, List.getElem?_eq_getElem h, List.getD_eq_getElem?_getD, List.getElem?_eq_getElem h]
  rfl
theorem order_eq {rows : List Row} {ks : List (Int × Int)} (w : WayOk ks) (h1 : 1 ≤ rows.length) : orderZ ks rows = ordM (marksZ rows ks) := by
  unfold orderZ ordM
  have e : (marksZ rows ks).length = rows.length := by unfold marksZ; rw [List.length_map]
  rw [e, runT_congr (lt' := ltM (marksZ rows ks)) (fun i j hi hj => ?_) (sort_run (ltR_tot rows w) h1)]
  show decide _ = ltL _ _
  rw [marks_at hi, marks_at hj]
  exact (cmp_marks (rowAt_mem hi) (rowAt_mem hj) ks w).1
theorem order_sorted {marks : List (List Int)} (h1 : 1 ≤ marks.length) : (∀ p ∈ ordM marks, p < marks.length) ∧ (ordM marks).length = marks.length ∧ (ordM marks).Pairwise fun i j => ltM marks j i = false := by
  have run := (sort_run (ltM_tot marks) h1).at
  refine ⟨fun p hp => List.mem_range.mp (run.1.mem_iff.mp hp), by have := run.1.length_eq; rw [List.length_range] at this; exact this, ?_⟩
  rw [List.pairwise_iff_getElem]
  intro i j hi hj hij
  have := run.2 i j hij (by have := run.1.length_eq; rw [List.length_range] at this; unfold ordM at hj; omega)
  unfold ordM at hi hj ⊢
  rw [getD_q, getD_q] at this
  have e : ∀ q (hq : q < (runT (ltM marks) (kas_sort marks.length)).toList.length), ((runT (ltM marks) (kas_sort marks.length))[q]?).getD 0 = (runT (ltM marks) (kas_sort marks.length)).toList[q] := fun q hq => by
    rw [← Array.getElem?_toList, List.getElem?_eq_getElem hq]; rfl
  rw [e i hi, e j hj] at this
  exact this
theorem ltL_anti : ∀ (a b : List Int), ltL a b = false → ltL b a = false → a = b
  | [], [], _, _ => rfl
  | [], _ :: _, h, _ => by simp [ltL] at h
  | _ :: _, [], _, h => by simp [ltL] at h
  | a :: x, b :: y, h1, h2 => by
    unfold ltL at h1 h2
    by_cases e : a = b
    · subst e; rw [if_pos rfl] at h1 h2; rw [ltL_anti x y h1 h2]
    · rw [if_neg e] at h1; rw [if_neg fun q => e q.symm] at h2
      have h1 := of_decide_eq_false h1
      have h2 := of_decide_eq_false h2
      omega
theorem ltL_take : ∀ (n : Nat) (a b : List Int), a.length = b.length → ltL a b = false → ltL (a.take n) (b.take n) = false
  | 0, a, b, _, _ => rfl
  | n + 1, [], [], _, _ => rfl
  | n + 1, a :: x, b :: y, hl, h => by
    rw [List.take_succ_cons, List.take_succ_cons]
    unfold ltL at h ⊢
    by_cases e : a = b
    · rw [if_pos e] at h ⊢; exact ltL_take n x y (by simpa using hl) h
    · rw [if_neg e] at h ⊢; exact h
end Mine
end
section
open PySem PySem.W PyProof.Rows
set_option Elab.async false
set_option maxRecDepth 100000
set_option maxHeartbeats 4000000
set_option linter.unusedVariables false
namespace Mine
section
variable (κ : Nat → List Int)
def headK (hs : List (List Int)) (p : Nat) : List (List Int) := if hs.any (· == κ p) then hs else hs ++ [κ p]
def headsK (l : List Nat) : List (List Int) := l.foldl (headK κ) []
def grpK (l : List Nat) : List (List Nat) := (headsK κ l).map fun h => l.filter fun p => decide (κ p = h)
def mergeK (kept : List (List Nat)) (b : List Nat) : List (List Nat) := match kept.getLast? with
  | some l => if κ (l.headD 0) = κ (b.headD 0) then kept.dropLast ++ [l ++ b] else kept ++ [b]
  | none => kept ++ [b]
def SortK (l : List Nat) : Prop := l.Pairwise fun i j => ltL (κ j) (κ i) = false
theorem heads_snoc (l : List Nat) (p : Nat) : headsK κ (l ++ [p]) = headK κ (headsK κ l) p := by unfold headsK; rw [List.foldl_append]; rfl
theorem any_mem {hs : List (List Int)} {h : List Int} : hs.any (· == h) = true ↔ h ∈ hs := by
  rw [List.any_eq_true]
  constructor
  · rintro ⟨x, hx, e⟩; rw [← eq_of_beq e]; exact hx
  · intro hx; exact ⟨h, hx, by simp⟩
theorem heads_mem (l : List Nat) (h : List Int) : h ∈ headsK κ l ↔ ∃ p ∈ l, κ p = h := by
  have : ∀ (l : List Nat) (hs : List (List Int)), h ∈ l.foldl (headK κ) hs ↔ h ∈ hs ∨ ∃ p ∈ l, κ p = h := by
    intro l
    induction l with
    | nil => intro hs; simp
    | cons p l ih =>
      intro hs
      rw [List.foldl_cons, ih]
      unfold headK
      by_cases q : hs.any (· == κ p) = true
      · rw [if_pos q]
        have := any_mem.mp q
        constructor
        · rintro (h1 | ⟨x, hx, e⟩)
          · exact .inl h1
          · exact .inr ⟨x, .tail _ hx, e⟩
        · rintro (h1 | ⟨x, hx, e⟩)
          · exact .inl h1
          · rcases List.mem_cons.mp hx with rfl | hx
            · exact .inl (e ▸ this)
            · exact .inr ⟨x, hx, e⟩
      · rw [if_neg q]
        constructor
        · rintro (h1 | ⟨x, hx, e⟩)
          · rcases List.mem_append.mp h1 with h1 | h1
            · exact .inl h1
            · exact .inr ⟨p, .head _, (List.mem_singleton.mp h1).symm⟩
          · exact .inr ⟨x, .tail _ hx, e⟩
        · rintro (h1 | ⟨x, hx, e⟩)
          · exact .inl (List.mem_append_left _ h1)
          · rcases List.mem_cons.mp hx with rfl | hx
            · exact .inl (List.mem_append_right _ (e ▸ .head _))
            · exact .inr ⟨x, hx, e⟩
  simpa [headsK] using this l []
/-- a block's heads: none new, or one -/
theorem heads_block (l : List Nat) (h : List Int) : ∀ (b : List Nat), b ≠ [] → (∀ p ∈ b, κ p = h) → headsK κ (l ++ b) = if h ∈ headsK κ l then headsK κ l else headsK κ l ++ [h] := by
  have stay : ∀ (b : List Nat) (hs : List (List Int)), h ∈ hs → (∀ p ∈ b, κ p = h) → b.foldl (headK κ) hs = hs := by
    intro b
    induction b with
    | nil => intros; rfl
    | cons p b ih =>
      intro hs hm hb
      rw [List.foldl_cons]
      have : headK κ hs p = hs := by unfold headK; rw [hb p (.head _), if_pos (any_mem.mpr hm)]
      rw [this]
      exact ih hs hm fun q hq => hb q (.tail _ hq)
  intro b hb hk
  cases b with
  | nil => exact absurd rfl hb
  | cons p b =>
    unfold headsK
    rw [List.foldl_append, List.foldl_cons]
    generalize l.foldl (headK κ) [] = hl
    have e : headK κ hl p = if h ∈ hl then hl else hl ++ [h] := by
      unfold headK
      rw [hk p (.head _)]
      by_cases q : h ∈ hl
      · rw [if_pos q, if_pos (any_mem.mpr q)]
      · rw [if_neg q, if_neg (fun z => q (any_mem.mp z))]
    rw [e]
    refine stay b _ ?_ fun q hq => hk q (.tail _ hq)
    split
    · assumption
    · exact List.mem_append_right _ (.head _)
end
end Mine
end
section
open PySem PySem.W PyProof.Rows
set_option Elab.async false
set_option maxRecDepth 100000
set_option maxHeartbeats 4000000
set_option linter.unusedVariables false
namespace Mine
section
variable (κ : Nat → List Int)
theorem heads_last : ∀ (n : Nat) (l : List Nat) (z : Nat), l.length = n → SortK κ (l ++ [z]) → ∃ H, headsK κ (l ++ [z]) = H ++ [κ z]
  | 0, l, z, hn, _ => by
    rw [List.eq_nil_of_length_eq_zero hn]; exact ⟨[], rfl⟩
  | n + 1, l, z, hn, hs => by
    rw [heads_snoc]
    unfold headK
    by_cases q : (headsK κ l).any (· == κ z) = true
    · rw [if_pos q]
      obtain ⟨p, hp, e⟩ := (heads_mem κ l _).mp (any_mem.mp q)
      rcases List.eq_nil_or_concat l with rfl | ⟨l', y, rfl⟩
      · cases hp
      · rw [List.concat_eq_append] at *
        have s1 := (List.pairwise_append.mp hs).1
        have hyz : ltL (κ z) (κ y) = false := (List.pairwise_append.mp hs).2.2 y (by simp) z (by simp)
        have e2 : κ y = κ z := by
          rcases List.mem_append.mp hp with hp | hp
          · have hpy : ltL (κ y) (κ p) = false := (List.pairwise_append.mp s1).2.2 p hp y (by simp)
            rw [e] at hpy
            exact ltL_anti _ _ hpy hyz
          · rw [List.mem_singleton.mp hp] at e; exact e
        obtain ⟨H, hH⟩ := heads_last n l' y (by simpa using hn) s1
        exact ⟨H, by rw [hH, e2]⟩
    · rw [if_neg q]; exact ⟨_, rfl⟩
theorem heads_nodup (l : List Nat) : (headsK κ l).Nodup := by
  have : ∀ (l : List Nat) (hs : List (List Int)), hs.Nodup → (l.foldl (headK κ) hs).Nodup := by
    intro l
    induction l with
    | nil => intro hs h; exact h
    | cons p l ih =>
      intro hs h
      rw [List.foldl_cons]
      refine ih _ ?_
      unfold headK
      by_cases q : hs.any (· == κ p) = true
      · rw [if_pos q]; exact h
      · rw [if_neg q]
        rw [List.nodup_append]
        exact ⟨h, by simp, fun a ha b hb => by
          rw [List.mem_singleton.mp hb]; exact fun e => q (any_mem.mpr (e ▸ ha))⟩
  exact this l [] List.nodup_nil
theorem filter_none {b : List Nat} {x h : List Int} (hk : ∀ p ∈ b, κ p = h) (hx : x ≠ h) : b.filter (fun p => decide (κ p = x)) = [] := by
  rw [List.filter_eq_nil_iff]
  intro p hp
  rw [hk p hp]
  simpa using fun e => hx e.symm
theorem filter_all {b : List Nat} {h : List Int} (hk : ∀ p ∈ b, κ p = h) : b.filter (fun p => decide (κ p = h)) = b := by
  rw [List.filter_eq_self]
  intro p hp
  simpa using hk p hp
theorem merge_step {l b : List Nat} (hb : b ≠ []) (hk : ∀ p ∈ b, κ p = κ (b.headD 0)) (hs : SortK κ (l ++ b)) : mergeK κ (grpK κ l) b = grpK κ (l ++ b) := by
  have hblock := heads_block κ l (κ (b.headD 0)) b hb hk
  generalize hh : κ (b.headD 0) = h at hk hblock
  unfold grpK
  rw [hblock]
  have fapp : ∀ x, (l ++ b).filter (fun p => decide (κ p = x)) = l.filter (fun p => decide (κ p = x)) ++ b.filter (fun p => decide (κ p = x)) := fun x => List.filter_append ..
  have fold : ∀ x, x ≠ h → (l ++ b).filter (fun p => decide (κ p = x)) = l.filter (fun p => decide (κ p = x)) := fun x hx => by
    rw [fapp, filter_none κ hk hx, List.append_nil]
  rcases List.eq_nil_or_concat l with rfl | ⟨l', z, rfl⟩
  · rw [if_neg (by simp [headsK])]
    simp [headsK, mergeK, filter_all κ hk]
  · rw [List.concat_eq_append] at *
    obtain ⟨H, hH⟩ := heads_last κ _ l' z rfl (List.pairwise_append.mp hs).1
    have hfirst : κ (((l' ++ [z]).filter fun p => decide (κ p = κ z)).headD 0) = κ z := by
      have hm : z ∈ (l' ++ [z]).filter fun p => decide (κ p = κ z) := List.mem_filter.mpr ⟨by simp, by simp⟩
      cases e : (l' ++ [z]).filter fun p => decide (κ p = κ z) with
      | nil => rw [e] at hm; cases hm
      | cons a r =>
        have : a ∈ (l' ++ [z]).filter fun p => decide (κ p = κ z) := by rw [e]; exact .head _
        simpa using (List.mem_filter.mp this).2
    have nd := heads_nodup κ (l' ++ [z])
    by_cases q : h ∈ headsK κ (l' ++ [z])
    · rw [if_pos q]
      have hz : h = κ z := by
        obtain ⟨p, hp, e⟩ := (heads_mem κ _ _).mp q
        rcases List.mem_append.mp hp with hp | hp
        · obtain ⟨c, r, rfl⟩ : ∃ c r, b = c :: r := by cases b with | nil => exact absurd rfl hb | cons c r => exact ⟨c, r, rfl⟩
          have hc : κ c = h := hk c (.head _)
          have h1 : ltL (κ c) (κ z) = false := (List.pairwise_append.mp hs).2.2 z (by simp) c (.head _)
          have h2 : ltL (κ z) (κ p) = false := (List.pairwise_append.mp (List.pairwise_append.mp hs).1).2.2 p hp z (by simp)
          rw [hc] at h1; rw [e] at h2
          exact (ltL_anti _ _ h2 h1).symm
        · rw [List.mem_singleton.mp hp] at e; exact e.symm
      rw [hH] at nd ⊢
      rw [List.map_append, List.map_append]
      unfold mergeK
      simp only [List.map_cons, List.map_nil, List.getLast?_concat]
      rw [hh, hfirst, if_pos hz.symm, List.dropLast_concat]
      congr 1
      · refine List.map_congr_left fun x hx => (fold x ?_).symm
        have := (List.nodup_append.mp nd).2.2 x hx (κ z) (by simp)
        rw [hz]; exact this
      · rw [fapp, ← hz, filter_all κ hk]
    · rw [if_neg q]
      have hz : κ z ≠ h := fun e => q ((heads_mem κ _ _).mpr ⟨z, by simp, e⟩)
      have e2 : (headsK κ (l' ++ [z]) ++ [h]).map (fun x => (l' ++ [z] ++ b).filter fun p => decide (κ p = x)) = (headsK κ (l' ++ [z])).map (fun x => (l' ++ [z]).filter fun p => decide (κ p = x)) ++ [b] := by
        rw [List.map_append]
        congr 1
        · exact List.map_congr_left fun x hx => fold x fun e => q (e ▸ hx)
        · have : (l' ++ [z]).filter (fun p => decide (κ p = h)) = [] := by
            rw [List.filter_eq_nil_iff]
            intro p hp hq
            exact q ((heads_mem κ _ _).mpr ⟨p, hp, by simpa using hq⟩)
          rw [List.map_cons, List.map_nil, fapp, this, List.nil_append, filter_all κ hk]
      rw [e2]
      unfold mergeK
      rw [hH, List.map_append]
      simp only [List.map_cons, List.map_nil, List.getLast?_concat]
      rw [hh, hfirst, if_neg hz]
theorem merge_blocks : ∀ (bs : List (List Nat)) (l : List Nat), (∀ b ∈ bs, b ≠ [] ∧ ∀ p ∈ b, κ p = κ (b.headD 0)) → SortK κ (l ++ bs.flatten) → bs.foldl (mergeK κ) (grpK κ l) = grpK κ (l ++ bs.flatten)
  | [], l, _, _ => by simp
  | b :: bs, l, h, hs => by
    obtain ⟨h1, h2⟩ := h b (.head _)
    rw [List.flatten_cons, ← List.append_assoc] at hs
    rw [List.foldl_cons, merge_step κ h1 h2 (List.pairwise_append.mp hs).1, merge_blocks bs (l ++ b) (fun c hc => h c (.tail _ hc)) hs, List.flatten_cons, List.append_assoc]
end
end Mine
end
section
open PySem PySem.W PyProof.Rows
set_option Elab.async false
set_option maxRecDepth 100000
set_option maxHeartbeats 4000000
set_option linter.unusedVariables false
namespace Mine
theorem cols_append (xs ys : List (List Int)) : List.zipWith (· + ·) (colsZ ys) (colsZ xs) = colsZ (xs ++ ys) := by
  simp [colsZ, List.range_succ, Int.add_comm]
theorem cols_one {q : List Int} (h : q.length = 4) : colsZ [q] = q := by
  match q, h with
  | [a, b, c, d], _ => simp [colsZ, List.range_succ]
theorem fours_append (c : Int) (xs ys : List Ent) : foursZ c (xs ++ ys) = foursZ c xs ++ foursZ c ys := by unfold foursZ; rw [List.filterMap_append]
theorem calls_append (xs ys : List Ent) : callersZ (xs ++ ys) = ys.foldl callStep (callersZ xs) := by unfold callersZ; rw [List.foldl_append]
theorem any_int {cs : List Int} {c : Int} : cs.any (· == c) = true ↔ c ∈ cs := by
  rw [List.any_eq_true]
  constructor
  · rintro ⟨x, hx, e⟩; rw [← eq_of_beq e]; exact hx
  · intro hx; exact ⟨c, hx, by simp⟩
theorem put_new {k : Int} {v : List Int} {T : Tab4} (h : k ∉ T.map (·.1)) : putZ k v T = T ++ [(k, v)] := by
  unfold putZ
  rw [if_neg]
  intro q
  obtain ⟨x, hx, e⟩ := List.any_eq_true.mp q
  exact h (List.mem_map.mpr ⟨x, hx, by simpa using e⟩)
theorem copy_nodup : ∀ (t acc : Tab4), ((acc ++ t).map (·.1)).Nodup → t.foldl cpS acc = acc ++ t
  | [], acc, _ => by simp
  | p :: t, acc, h => by
    have hp : p.1 ∉ acc.map (·.1) := by
      rw [List.map_append, List.nodup_append] at h
      intro q
      exact h.2.2 _ q _ (by simp) rfl
    rw [List.foldl_cons]
    have : cpS acc p = acc ++ [p] := put_new hp
    rw [this, copy_nodup t (acc ++ [p]) (by rw [List.append_assoc]; exact h), List.append_assoc]; rfl
end Mine
end
section
open PySem PySem.W PyProof.Rows
set_option Elab.async false
set_option maxRecDepth 100000
set_option maxHeartbeats 4000000
set_option linter.unusedVariables false
namespace Mine
def notIn (X : List Int) (c : Int) : Bool := !(X.any (· == c))
theorem notIn_iff {X : List Int} {c : Int} : notIn X c = true ↔ c ∉ X := by
  unfold notIn
  rw [Bool.not_eq_true', ← Bool.not_eq_true, any_int]
theorem calls_cat (X : List Int) : ∀ (ys : List Ent) (Y : List Int), ys.foldl callStep (X ++ Y.filter (notIn X)) = X ++ (ys.foldl callStep Y).filter (notIn X)
  | [], Y => rfl
  | e :: ys, Y => by
    rw [List.foldl_cons, List.foldl_cons, ← calls_cat X ys (callStep Y e)]
    congr 1
    unfold callStep
    rw [List.filter_append, List.append_assoc, List.filter_filter]
    congr 2
    refine List.filter_congr fun c _ => ?_
    show notIn _ c = (notIn X c && notIn Y c)
    rw [Bool.eq_iff_iff, Bool.and_eq_true, notIn_iff, notIn_iff, notIn_iff, List.mem_append, List.mem_filter, notIn_iff]
    constructor
    · intro h; exact ⟨fun a => h (.inl a), fun b => h (.inr ⟨b, fun a => h (.inl a)⟩)⟩
    · rintro ⟨a, b⟩ (h | ⟨h, _⟩)
      · exact a h
      · exact b h
theorem calls_two (xs ys : List Ent) : callersZ (xs ++ ys) = callersZ xs ++ (callersZ ys).filter (notIn (callersZ xs)) := by
  rw [calls_append]
  have := calls_cat (callersZ xs) ys []
  rw [List.filter_nil, List.append_nil] at this
  exact this
theorem calls_mem (ys : List Ent) (c : Int) : c ∈ callersZ ys ↔ ∃ e ∈ ys, c ∈ e.cs.map (·.1) := by
  have : ∀ (ys : List Ent) (Y : List Int), c ∈ ys.foldl callStep Y ↔ c ∈ Y ∨ ∃ e ∈ ys, c ∈ e.cs.map (·.1) := by
    intro ys
    induction ys with
    | nil => intro Y; simp
    | cons e ys ih =>
      intro Y
      rw [List.foldl_cons, ih]
      have h1 : c ∈ callStep Y e ↔ c ∈ Y ∨ c ∈ e.cs.map (·.1) := by
        unfold callStep
        rw [List.mem_append, List.mem_filter]
        show _ ∨ (_ ∧ notIn Y c = true) ↔ _
        rw [notIn_iff]
        constructor
        · rintro (h | h)
          · exact .inl h
          · exact .inr h.1
        · rintro (h | h)
          · exact .inl h
          · by_cases q : c ∈ Y
            · exact .inl q
            · exact .inr ⟨h, q⟩
      rw [h1]
      constructor
      · rintro ((h | h) | ⟨x, hx, h⟩)
        · exact .inl h
        · exact .inr ⟨e, .head _, h⟩
        · exact .inr ⟨x, .tail _ hx, h⟩
      · rintro (h | ⟨x, hx, h⟩)
        · exact .inl (.inl h)
        · rcases List.mem_cons.mp hx with rfl | hx
          · exact .inl (.inr h)
          · exact .inr ⟨x, hx, h⟩
  simpa [callersZ] using this ys []
end Mine
end
section
open PySem PySem.W PyProof.Rows
set_option Elab.async false
set_option maxRecDepth 100000
set_option maxHeartbeats 4000000
set_option linter.unusedVariables false
namespace Mine
def tabK (K : List Int) (val : Int → List Int) : Tab4 := K.map fun c => (c, val c)
theorem tabK_keys (K : List Int) (val : Int → List Int) : (tabK K val).map (·.1) = K := by unfold tabK; rw [List.map_map]; exact List.map_id' K
theorem at_tabK {K : List Int} {val : Int → List Int} {c : Int} : atZ c (tabK K val) = if c ∈ K then some (val c) else none := by
  unfold atZ tabK
  induction K with
  | nil => rfl
  | cons k K ih =>
    rw [List.map_cons, List.find?_cons]
    by_cases e : k = c
    · subst e; simp
    · have : decide ((k, val k).1 = c) = false := by simpa using e
      rw [this]
      simp only [List.mem_cons, show ¬ c = k from fun q => e q.symm, false_or]
      exact ih
theorem put_tabK {K : List Int} {val : Int → List Int} {c : Int} {v : List Int} : putZ c v (tabK K val) = tabK (if c ∈ K then K else K ++ [c]) (fun x => if x = c then v else val x) := by
  by_cases h : c ∈ K
  · rw [if_pos h]
    unfold putZ
    rw [if_pos (by
      rw [List.any_eq_true]
      exact ⟨(c, val c), List.mem_map.mpr ⟨c, h, rfl⟩, by simp⟩)]
    unfold tabK
    rw [List.map_map]
    refine List.map_congr_left fun x _ => ?_
    by_cases e : x = c
    · simp [e]
    · simp [e]
  · rw [if_neg h, put_new (by rw [tabK_keys]; exact h)]
    unfold tabK
    rw [List.map_append]
    congr 1
    · refine List.map_congr_left fun x hx => ?_
      have : x ≠ c := fun e => h (by rw [← e]; exact hx)
      dsimp only
      rw [if_neg this]
    · simp
theorem addS_tabK {K : List Int} {val : Int → List Int} {c : Int} {q : List Int} : addS (tabK K val) (c, q) = tabK (if c ∈ K then K else K ++ [c]) (fun x => if x = c then (if c ∈ K then List.zipWith (· + ·) q (val c) else q) else val x) := by
  unfold addS
  rw [at_tabK]
  by_cases h : c ∈ K
  · rw [if_pos h]; dsimp only; rw [put_tabK, if_pos h, if_pos h]
  · rw [if_neg h]; dsimp only; rw [put_tabK, if_neg h, if_neg h]
end Mine
end
section
open PySem PySem.W PyProof.Rows
set_option Elab.async false
set_option maxRecDepth 100000
set_option maxHeartbeats 4000000
set_option linter.unusedVariables false
namespace Mine
theorem tabK_congr {K : List Int} {v v' : Int → List Int} (h : ∀ c ∈ K, v c = v' c) : tabK K v = tabK K v' := by
  unfold tabK
  exact List.map_congr_left fun c hc => by rw [h c hc]
theorem addS_fold (K : List Int) (val v2 : Int → List Int) : ∀ (K2 done : List Int), (done ++ K2).Nodup →
    (tabK K2 v2).foldl addS (tabK (K ++ done.filter (notIn K)) fun c => if c ∈ done then (if c ∈ K then List.zipWith (· + ·) (v2 c) (val c) else v2 c) else val c) =
    tabK (K ++ (done ++ K2).filter (notIn K)) fun c => if c ∈ done ++ K2 then (if c ∈ K then List.zipWith (· + ·) (v2 c) (val c) else v2 c) else val c
  | [], done, _ => by simp [tabK]
  | k :: K2, done, h => by
    have hk : k ∉ done := by
      rw [List.nodup_append] at h
      exact fun q => h.2.2 k q k (.head _) rfl
    have ih := addS_fold K val v2 K2 (done ++ [k]) (by rw [List.append_assoc]; exact h)
    rw [List.append_assoc, List.singleton_append] at ih
    rw [← ih]
    show List.foldl addS (addS _ (k, v2 k)) (tabK K2 v2) = _
    congr 1
    rw [addS_tabK]
    have hin : k ∈ K ++ done.filter (notIn K) ↔ k ∈ K := by
      rw [List.mem_append, List.mem_filter]
      constructor
      · rintro (a | ⟨b, _⟩)
        · exact a
        · exact absurd b hk
      · exact .inl
    have ekeys : (if k ∈ K ++ done.filter (notIn K) then K ++ done.filter (notIn K) else K ++ done.filter (notIn K) ++ [k]) = K ++ (done ++ [k]).filter (notIn K) := by
      rw [List.filter_append, ← List.append_assoc]
      by_cases q : k ∈ K
      · rw [if_pos (hin.mpr q)]
        have : notIn K k = false := by cases e : notIn K k with | false => rfl | true => exact absurd q (notIn_iff.mp e)
        simp [this]
      · rw [if_neg fun z => q (hin.mp z)]
        simp [notIn_iff.mpr q]
    rw [ekeys]
    refine tabK_congr fun c _ => ?_
    by_cases e : c = k
    · subst e
      simp only [if_neg hk, List.mem_append, List.mem_singleton, or_true, if_true, hin]
    · simp [e]
end Mine
end
section
open PySem PySem.W PyProof.Rows
set_option Elab.async false
set_option maxRecDepth 100000
set_option maxHeartbeats 4000000
set_option linter.unusedVariables false
namespace Mine
theorem calls_nodup (ys : List Ent) (h : ∀ e ∈ ys, (e.cs.map (·.1)).Nodup) : (callersZ ys).Nodup := by
  have : ∀ (ys : List Ent) (Y : List Int), Y.Nodup → (∀ e ∈ ys, (e.cs.map (·.1)).Nodup) → (ys.foldl callStep Y).Nodup := by
    intro ys
    induction ys with
    | nil => intro Y h _; exact h
    | cons e ys ih =>
      intro Y hY h
      rw [List.foldl_cons]
      refine ih _ ?_ fun x hx => h x (.tail _ hx)
      unfold callStep
      rw [List.nodup_append]
      refine ⟨hY, (h e (.head _)).filter _, fun a ha b hb q => ?_⟩
      have := notIn_iff.mp (List.mem_filter.mp hb).2
      exact this (q ▸ ha)
  exact this ys [] List.nodup_nil h
theorem fours_none {c : Int} {ys : List Ent} (h : c ∉ callersZ ys) : foursZ c ys = [] := by
  unfold foursZ
  rw [List.filterMap_eq_nil_iff]
  intro e he
  cases q : atZ c e.cs with
  | none => rfl
  | some v =>
    obtain ⟨p, hp, e1, _⟩ := atZ_mem q
    exact absurd ((calls_mem ys c).mpr ⟨e, he, List.mem_map.mpr ⟨p, hp, e1⟩⟩) h
theorem addE_sums {xs ys : List Ent} (hx : ∀ e ∈ xs, (e.cs.map (·.1)).Nodup) (hy : ∀ e ∈ ys, (e.cs.map (·.1)).Nodup) : addE (sumsE xs) (sumsE ys) = sumsE (xs ++ ys) := by
  have nx := calls_nodup xs hx
  have ny := calls_nodup ys hy
  unfold addE sumsE
  dsimp only
  congr 1
  · rw [List.map_append, cols_append]
  · unfold addC copyC
    rw [copy_nodup _ [] (by rw [List.nil_append, List.map_map]; exact (List.map_id' _).symm ▸ nx), List.nil_append]
    have := addS_fold (callersZ xs) (fun c => colsZ (foursZ c xs)) (fun c => colsZ (foursZ c ys)) (callersZ ys) [] (by simpa using ny)
    simp only [List.filter_nil, List.append_nil, List.nil_append, List.not_mem_nil, if_false] at this
    refine Eq.trans this ?_
    rw [calls_two]
    refine tabK_congr fun c hc => ?_
    rw [fours_append]
    by_cases q : c ∈ callersZ ys
    · rw [if_pos q]
      by_cases q2 : c ∈ callersZ xs
      · rw [if_pos q2, cols_append]
      · rw [if_neg q2, fours_none q2, List.nil_append]
    · rw [if_neg q, fours_none q, List.append_nil]
end Mine
end
section
open PySem PySem.W PyProof.Rows
set_option Elab.async false
set_option maxRecDepth 100000
set_option maxHeartbeats 4000000
set_option linter.unusedVariables false
namespace Mine
def rowB (rows : List Row) (b : List Nat) : Row := { rowAt rows (b.headD 0) with e := sumsE (b.map fun p => (rowAt rows p).e) }
theorem cmp_cols : ∀ (ks : List (Int × Int)) (a b : Row) (x y : Ent), cmpZ ks { a with e := x } { b with e := y } = cmpZ ks a b
  | [], _, _, _, _ => rfl
  | (c, d) :: ks, a, b, x, y => by
    unfold cmpZ
    rw [cmp_cols ks a b x y]
    rfl
theorem mark_take (rows : List Row) (ks : List (Int × Int)) (n : Nat) (r : Row) : markZ rows (ks.take n) r = (markZ rows ks r).take n := by unfold markZ; rw [List.map_take]
theorem way_take {ks : List (Int × Int)} (w : WayOk ks) (n : Nat) : WayOk (ks.take n) := fun p hp => w p (List.mem_of_mem_take hp)
theorem cmp_pre {rows : List Row} {ks : List (Int × Int)} (w : WayOk ks) (n : Nat) {p q : Nat} (hp : p < rows.length) (hq : q < rows.length) : cmpZ (ks.take n) (rowAt rows p) (rowAt rows q) = 0 ↔ preZ (marksZ rows ks) n p = preZ (marksZ rows ks) n q := by
  unfold preZ
  rw [marks_at hp, marks_at hq, ← mark_take, ← mark_take]
  exact (cmp_marks (rowAt_mem hp) (rowAt_mem hq) _ (way_take w n)).2
theorem nodup_row {rows : List Row} (h1 : ∀ r ∈ rows, r.e.cs.length ≤ 1) {b : List Nat} (hb : ∀ p ∈ b, p < rows.length) : ∀ e ∈ b.map (fun p => (rowAt rows p).e), (e.cs.map (·.1)).Nodup := by
  intro e he
  obtain ⟨p, hp, rfl⟩ := List.mem_map.mp he
  have := h1 _ (rowAt_mem (hb p hp))
  match (rowAt rows p).e.cs, this with
  | [], _ => simp
  | [x], _ => simp
theorem mergeZ_B {rows : List Row} {ks : List (Int × Int)} (w : WayOk ks) (h1 : ∀ r ∈ rows, r.e.cs.length ≤ 1) (n : Nat) {kept : List (List Nat)} {b : List Nat} (hk : ∀ a ∈ kept, a ≠ [] ∧ ∀ p ∈ a, p < rows.length) (hb : b ≠ [] ∧ ∀ p ∈ b, p < rows.length) :
    mergeZ (ks.take n) (kept.map (rowB rows)) (rowB rows b) = (mergeK (preZ (marksZ rows ks) n) kept b).map (rowB rows) := by
  have hd : ∀ {a : List Nat}, (a ≠ [] ∧ ∀ p ∈ a, p < rows.length) → a.headD 0 < rows.length := fun {a} h => by
    cases a with
    | nil => exact absurd rfl h.1
    | cons x r => exact h.2 x (.head _)
  rcases List.eq_nil_or_concat kept with rfl | ⟨K, l, rfl⟩
  · rfl
  · rw [List.concat_eq_append] at *
    have hl := hk l (by simp)
    unfold mergeZ mergeK
    rw [List.map_append, List.map_cons, List.map_nil, List.getLast?_concat, List.getLast?_concat]
    dsimp only
    have e : cmpZ (ks.take n) (rowB rows l) (rowB rows b) = 0 ↔ preZ (marksZ rows ks) n (l.headD 0) = preZ (marksZ rows ks) n (b.headD 0) := by
      rw [← cmp_pre w n (hd hl) (hd hb)]
      unfold rowB
      rw [cmp_cols]
    by_cases q : cmpZ (ks.take n) (rowB rows l) (rowB rows b) = 0
    · rw [if_pos q, if_pos (e.mp q), List.dropLast_concat, List.dropLast_concat, List.map_append]
      congr 1
      rw [List.map_cons, List.map_nil]
      congr 1
      unfold rowB
      dsimp only
      rw [addE_sums (nodup_row h1 hl.2) (nodup_row h1 hb.2), ← List.map_append]
      have : (l ++ b).headD 0 = l.headD 0 := by
        cases l with
        | nil => exact absurd rfl hl.1
        | cons x r => rfl
      rw [this]
    · rw [if_neg q, if_neg fun z => q (e.mpr z), List.map_append, List.map_append]; rfl
end Mine
end
section
open PySem PySem.W PyProof.Rows
set_option Elab.async false
set_option maxRecDepth 100000
set_option maxHeartbeats 4000000
set_option linter.unusedVariables false
namespace Mine
theorem merge_flat (κ : Nat → List Int) (kept : List (List Nat)) (b : List Nat) : (mergeK κ kept b).flatten = kept.flatten ++ b := by
  rcases List.eq_nil_or_concat kept with rfl | ⟨K, l, rfl⟩
  · simp [mergeK]
  · rw [List.concat_eq_append]
    unfold mergeK
    rw [List.getLast?_concat]
    dsimp only
    split
    · rw [List.dropLast_concat]; simp
    · simp
theorem fold_flat (κ : Nat → List Int) : ∀ (bs kept : List (List Nat)), (bs.foldl (mergeK κ) kept).flatten = kept.flatten ++ bs.flatten
  | [], kept => by simp
  | b :: bs, kept => by rw [List.foldl_cons, fold_flat κ bs, merge_flat, List.flatten_cons, List.append_assoc]
theorem merge_ne (κ : Nat → List Int) {kept : List (List Nat)} {b : List Nat} (hk : ∀ a ∈ kept, a ≠ []) (hb : b ≠ []) : ∀ a ∈ mergeK κ kept b, a ≠ [] := by
  rcases List.eq_nil_or_concat kept with rfl | ⟨K, l, rfl⟩
  · intro a ha; rw [show mergeK κ [] b = [b] from rfl] at ha; rw [List.mem_singleton.mp ha]; exact hb
  · rw [List.concat_eq_append] at *
    unfold mergeK
    rw [List.getLast?_concat]
    dsimp only
    intro a ha
    split at ha
    · rw [List.dropLast_concat] at ha
      rcases List.mem_append.mp ha with ha | ha
      · exact hk a (by simp [ha])
      · rw [List.mem_singleton.mp ha]; simp [hb]
    · rcases List.mem_append.mp ha with ha | ha
      · exact hk a ha
      · rw [List.mem_singleton.mp ha]; exact hb
theorem fold_ne (κ : Nat → List Int) : ∀ (bs kept : List (List Nat)), (∀ a ∈ kept, a ≠ []) → (∀ a ∈ bs, a ≠ []) → ∀ a ∈ bs.foldl (mergeK κ) kept, a ≠ []
  | [], kept, hk, _ => hk
  | b :: bs, kept, hk, hb => by
    rw [List.foldl_cons]
    exact fold_ne κ bs _ (merge_ne κ hk (hb b (.head _))) fun a ha => hb a (.tail _ ha)
theorem mem_flat {bs : List (List Nat)} {P : Nat → Prop} (h : ∀ p ∈ bs.flatten, P p) : ∀ b ∈ bs, ∀ p ∈ b, P p := fun b hb p hp => h p (List.mem_flatten.mpr ⟨b, hb, hp⟩)
/-- a run of merges over block rows -/
theorem fold_B {rows : List Row} {ks : List (Int × Int)} (w : WayOk ks) (h1 : ∀ r ∈ rows, r.e.cs.length ≤ 1) (n : Nat) : ∀ (bs kept : List (List Nat)), (∀ a ∈ kept, a ≠ []) → (∀ p ∈ kept.flatten, p < rows.length) → (∀ a ∈ bs, a ≠ []) → (∀ p ∈ bs.flatten, p < rows.length) →
    (bs.map (rowB rows)).foldl (mergeZ (ks.take n)) (kept.map (rowB rows)) = (bs.foldl (mergeK (preZ (marksZ rows ks) n)) kept).map (rowB rows)
  | [], kept, _, _, _, _ => rfl
  | b :: bs, kept, k1, k2, b1, b2 => by
    have hb : b ≠ [] ∧ ∀ p ∈ b, p < rows.length := ⟨b1 b (.head _), mem_flat b2 b (.head _)⟩
    rw [List.map_cons, List.foldl_cons, List.foldl_cons, mergeZ_B w h1 n (fun a ha => ⟨k1 a ha, mem_flat k2 a ha⟩) hb]
    refine fold_B w h1 n bs _ (merge_ne _ k1 hb.1) (fun p hp => ?_) (fun a ha => b1 a (.tail _ ha)) fun p hp => b2 p (by rw [List.flatten_cons]; exact List.mem_append_right _ hp)
    rw [merge_flat] at hp
    rcases List.mem_append.mp hp with hp | hp
    · exact k2 p hp
    · exact hb.2 p hp
end Mine
end
section
open PySem PySem.W PyProof.Rows
set_option Elab.async false
set_option maxRecDepth 100000
set_option maxHeartbeats 4000000
set_option linter.unusedVariables false
namespace Mine
/-- the blocks of a stage: all the places, in order, none empty, each alike in the key -/
structure Blk (o : List Nat) (κ : Nat → List Int) (bs : List (List Nat)) : Prop where
  flat : bs.flatten = o
  ne : ∀ b ∈ bs, b ≠ []
  cst : ∀ b ∈ bs, ∀ p ∈ b, κ p = κ (b.headD 0)
theorem Blk.step {o : List Nat} {κ κ' : Nat → List Int} {bs : List (List Nat)} (x : Blk o κ bs) (hs : SortK κ o) (hd : ∀ p q, κ p = κ q → κ' p = κ' q) : bs.foldl (mergeK κ) [] = grpK κ o ∧ Blk o κ' (grpK κ o) := by
  have e : bs.foldl (mergeK κ) [] = grpK κ o := by
    have := merge_blocks κ bs [] (fun b hb => ⟨x.ne b hb, x.cst b hb⟩) (by rw [x.flat]; exact hs)
    rw [x.flat] at this
    exact this
  refine ⟨e, ⟨?_, ?_, ?_⟩⟩
  · rw [← e, fold_flat, x.flat]; rfl
  · rw [← e]; exact fold_ne κ bs [] (fun a ha => by cases ha) x.ne
  · intro b hb p hp
    obtain ⟨h, hh, rfl⟩ := List.mem_map.mp hb
    refine hd _ _ ?_
    have e1 : κ p = h := by simpa using (List.mem_filter.mp hp).2
    cases q : o.filter (fun p => decide (κ p = h)) with
    | nil => rw [q] at hp; cases hp
    | cons a r =>
      have : a ∈ o.filter (fun p => decide (κ p = h)) := by rw [q]; exact .head _
      have e2 : κ a = h := by simpa using (List.mem_filter.mp this).2
      show κ p = κ a
      rw [e1, e2]
theorem sums_one {e : Ent} (ok : EntOk e) (h1 : e.cs.length ≤ 1) : sumsE [e] = e := by
  obtain ⟨four, cs⟩ := e
  obtain ⟨hf, hc⟩ := ok
  unfold sumsE
  congr 1
  · exact cols_one hf
  · match cs, h1, hc with
    | [], _, _ => rfl
    | [(c, q)], _, hc =>
      have hq : q.length = 4 := hc (c, q) (.head _)
      have e1 : callersZ [⟨four, [(c, q)]⟩] = [c] := rfl
      have e2 : foursZ c [⟨four, [(c, q)]⟩] = [q] := by simp [foursZ, atZ]
      rw [e1, List.map_cons, List.map_nil, e2, cols_one hq]
theorem sort_rowB {rows : List Row} {o : List Nat} (hok : ∀ r ∈ rows, EntOk r.e ∧ r.e.cs.length ≤ 1) (ho : ∀ p ∈ o, p < rows.length) : o.map (rowAt rows) = (o.map fun p => [p]).map (rowB rows) := by
  rw [List.map_map]
  refine List.map_congr_left fun p hp => ?_
  obtain ⟨a, b⟩ := hok _ (rowAt_mem (ho p hp))
  show rowAt rows p = { rowAt rows p with e := sumsE [(rowAt rows p).e] }
  rw [sums_one a b]
theorem pre_mono {marks : List (List Int)} {m n : Nat} (h : m ≤ n) (p q : Nat) (e : preZ marks n p = preZ marks n q) : preZ marks m p = preZ marks m q := by
  unfold preZ at *
  have := congrArg (List.take m) e
  rwa [List.take_take, List.take_take, Nat.min_eq_left h] at this
end Mine
end
section
open PySem PySem.W PyProof.Rows
set_option Elab.async false
set_option maxRecDepth 100000
set_option maxHeartbeats 4000000
set_option linter.unusedVariables false
namespace Mine
theorem heads_is (marks : List (List Int)) (o : List Nat) (n : Nat) : headsK (preZ marks n) o = headsZ marks o n := rfl
theorem flat_len : ∀ (bs : List (List Nat)), (∀ b ∈ bs, b ≠ []) → bs.length ≤ bs.flatten.length
  | [], _ => Nat.le_refl _
  | b :: bs, h => by
    have := flat_len bs fun x hx => h x (.tail _ hx)
    have hb : b.length ≠ 0 := fun q => h b (.head _) (List.eq_nil_of_length_eq_zero q)
    rw [List.length_cons, List.flatten_cons, List.length_append]
    omega
theorem blk_len {b : List Nat} : ∀ {bs : List (List Nat)}, b ∈ bs → b.length ≤ bs.flatten.length
  | c :: bs, h => by
    rw [List.flatten_cons, List.length_append]
    rcases List.mem_cons.mp h with rfl | h
    · omega
    · have := blk_len h; omega
theorem cols_len (qs : List (List Int)) : (colsZ qs).length = 4 := by unfold colsZ; rw [List.length_map, List.length_range]
theorem sums_ok (es : List Ent) : EntOk (sumsE es) where
  four := cols_len _
  cs := fun p hp => by
    obtain ⟨c, _, rfl⟩ := List.mem_map.mp hp
    exact cols_len _
/-- what is asked of the rows and keys here -/
structure Base (rows : List Row) (ks : List (Int × Int)) : Prop where
  n8 : rows.length = 8
  c2 : ∀ r ∈ rows, r.c2.length = 2
  ok : ∀ r ∈ rows, EntOk r.e ∧ r.e.cs.length ≤ 1
  way : WayOk ks
  k3 : ks.length = 3
section
variable {rows : List Row} {ks : List (Int × Int)}
theorem rowB_ok (X : Base rows ks) {b : List Nat} (hne : b ≠ []) (hb : ∀ p ∈ b, p < rows.length) (hl : b.length ≤ 50) : RowOk (rowB rows b) where
  c2 := by
    cases b with
    | nil => exact absurd rfl hne
    | cons x r => exact X.c2 (rowAt rows x) (rowAt_mem (hb x (.head _)))
  e := sums_ok _
  cs := by
    have h1 : ∀ e ∈ b.map (fun p => (rowAt rows p).e), e.cs.length ≤ 1 := by
      intro e he
      obtain ⟨p, hp, rfl⟩ := List.mem_map.mp he
      exact (X.ok _ (rowAt_mem (hb p hp))).2
    have := callers_len h1
    rw [List.length_map] at this
    show ((callersZ _).map _).length ≤ 100
    rw [List.length_map]; omega
theorem Base.mlen (X : Base rows ks) : (marksZ rows ks).length = 8 := by unfold marksZ; rw [List.length_map, X.n8]
theorem Base.ord (X : Base rows ks) : (∀ p ∈ ordM (marksZ rows ks), p < rows.length) ∧ (ordM (marksZ rows ks)).length = 8 := by
  have := order_sorted (marks := marksZ rows ks) (by rw [X.mlen]; decide)
  refine ⟨fun p hp => ?_, by rw [this.2.1, X.mlen]⟩
  have h := this.1 p hp
  rw [X.mlen] at h; rw [X.n8]; exact h
theorem Base.sorted (X : Base rows ks) (n : Nat) : SortK (preZ (marksZ rows ks) n) (ordM (marksZ rows ks)) := by
  have hs := (order_sorted (marks := marksZ rows ks) (by rw [X.mlen]; decide)).2.2
  have hin := X.ord.1
  unfold SortK
  refine List.Pairwise.imp_of_mem ?_ hs
  intro i j hi hj h
  unfold preZ
  unfold ltM at h
  refine ltL_take n _ _ ?_ h
  rw [marks_at (hin i hi), marks_at (hin j hj)]
  unfold markZ
  rw [List.length_map, List.length_map]
theorem Base.start (X : Base rows ks) (n : Nat) : sortZ ks rows = ((ordM (marksZ rows ks)).map fun p => [p]).map (rowB rows) ∧ Blk (ordM (marksZ rows ks)) (preZ (marksZ rows ks) n) ((ordM (marksZ rows ks)).map fun p => [p]) := by
  refine ⟨?_, ⟨?_, ?_, ?_⟩⟩
  · unfold sortZ
    rw [order_eq X.way (by rw [X.n8]; decide)]
    exact sort_rowB X.ok X.ord.1
  · generalize ordM (marksZ rows ks) = o
    induction o with
    | nil => rfl
    | cons p o ih => rw [List.map_cons, List.flatten_cons, ih]; rfl
  · intro b hb
    obtain ⟨p, _, rfl⟩ := List.mem_map.mp hb
    simp
  · intro b hb q hq
    obtain ⟨p, _, rfl⟩ := List.mem_map.mp hb
    rw [List.mem_singleton.mp hq]; rfl
theorem Base.stage (X : Base rows ks) {n m : Nat} (h : m ≤ n) {bs : List (List Nat)} (hb : Blk (ordM (marksZ rows ks)) (preZ (marksZ rows ks) n) bs) :
    mrgAll ks n (bs.map (rowB rows)) = (grpK (preZ (marksZ rows ks) n) (ordM (marksZ rows ks))).map (rowB rows) ∧ Blk (ordM (marksZ rows ks)) (preZ (marksZ rows ks) m) (grpK (preZ (marksZ rows ks) n) (ordM (marksZ rows ks))) := by
  obtain ⟨e, b2⟩ := hb.step (κ' := preZ (marksZ rows ks) m) (X.sorted n) fun p q => pre_mono h p q
  refine ⟨?_, b2⟩
  unfold mrgAll
  have := fold_B X.way (fun r hr => (X.ok r hr).2) n bs [] (fun a ha => by cases ha) (fun p hp => by cases hp) hb.ne (fun p hp => X.ord.1 p (hb.flat ▸ hp))
  rw [List.map_nil] at this
  rw [this, e]
theorem Base.okst (X : Base rows ks) {n κn : Nat} {bs : List (List Nat)} (hb : Blk (ordM (marksZ rows ks)) (preZ (marksZ rows ks) κn) bs) :
    (bs.map (rowB rows)).length ≤ 50 ∧ (∀ x ∈ bs.map (rowB rows), RowOk x) ∧ ∀ j, ∀ x ∈ ((bs.map (rowB rows)).take j).foldl (mergeZ (ks.take n)) [], RowOk x := by
  have hl : bs.flatten.length = 8 := by rw [hb.flat]; exact X.ord.2
  have hin : ∀ p ∈ bs.flatten, p < rows.length := fun p hp => X.ord.1 p (hb.flat ▸ hp)
  refine ⟨?_, ?_, ?_⟩
  · have := flat_len bs hb.ne
    rw [List.length_map]; omega
  · intro x hx
    obtain ⟨b, hbm, rfl⟩ := List.mem_map.mp hx
    exact rowB_ok X (hb.ne b hbm) (mem_flat hin b hbm) (by have := blk_len hbm; omega)
  · intro j x hx
    have tin : ∀ p ∈ (bs.take j).flatten, p < rows.length := fun p hp => by
      obtain ⟨b, h1, h2⟩ := List.mem_flatten.mp hp
      exact hin p (List.mem_flatten.mpr ⟨b, List.mem_of_mem_take h1, h2⟩)
    have tne : ∀ b ∈ bs.take j, b ≠ [] := fun b h => hb.ne b (List.mem_of_mem_take h)
    have e := fold_B X.way (fun r hr => (X.ok r hr).2) n (bs.take j) [] (fun a ha => by cases ha) (fun p hp => by cases hp) tne tin
    rw [List.map_nil] at e
    rw [← List.map_take, e] at hx
    obtain ⟨b, hbm, rfl⟩ := List.mem_map.mp hx
    have fl := fold_flat (preZ (marksZ rows ks) n) (bs.take j) []
    rw [List.flatten_nil, List.nil_append] at fl
    have tl : (bs.take j).flatten.length ≤ 8 := by
      have : (bs.take j ++ bs.drop j).flatten.length = 8 := by rw [List.take_append_drop]; exact hl
      rw [List.flatten_append, List.length_append] at this; omega
    refine rowB_ok X (fold_ne _ _ _ (fun a ha => by cases ha) tne b hbm) (mem_flat (fun p hp => tin p (by rw [fl] at hp; exact hp)) b hbm) ?_
    have := blk_len hbm
    rw [fl] at this; omega
theorem stageD_grp (n : Nat) : stageD ((grpK (preZ (marksZ rows ks) n) (ordM (marksZ rows ks))).map (rowB rows)) = Mine.D.lst ((dueStage rows (marksZ rows ks) (ordM (marksZ rows ks)) n).map entD) := by
  unfold stageD dueStage grpK
  rw [List.map_map, List.map_map, List.map_map, heads_is]
  rfl
theorem Base.all (X : Base rows ks) : OkSt ks (sortZ ks rows) ∧ toldD ks rows = dueD ks rows := by
  obtain ⟨e0, b0⟩ := X.start 3
  obtain ⟨e1, b1⟩ := X.stage (n := 3) (m := 2) (by decide) b0
  obtain ⟨e2, b2⟩ := X.stage (n := 2) (m := 1) (by decide) b1
  obtain ⟨e3, b3⟩ := X.stage (n := 1) (m := 0) (by decide) b2
  obtain ⟨e4, _⟩ := X.stage (n := 0) (m := 0) (by decide) b3
  rw [← e0] at e1
  have s0 : (stAt ks (sortZ ks rows) 0).1 = sortZ ks rows := rfl
  have s1 : (stAt ks (sortZ ks rows) 1).1 = mrgAll ks 3 (sortZ ks rows) := rfl
  have s2 : (stAt ks (sortZ ks rows) 2).1 = mrgAll ks 2 (mrgAll ks 3 (sortZ ks rows)) := rfl
  have s3 : (stAt ks (sortZ ks rows) 3).1 = mrgAll ks 1 (mrgAll ks 2 (mrgAll ks 3 (sortZ ks rows))) := rfl
  have st : toldZ ks (sortZ ks rows) = [mrgAll ks 3 (sortZ ks rows), mrgAll ks 2 (mrgAll ks 3 (sortZ ks rows)), mrgAll ks 1 (mrgAll ks 2 (mrgAll ks 3 (sortZ ks rows))), mrgAll ks 0 (mrgAll ks 1 (mrgAll ks 2 (mrgAll ks 3 (sortZ ks rows))))] := rfl
  refine ⟨⟨fun i n hi => ?_⟩, ?_⟩
  · match i, hi with
    | 0, _ => rw [s0, e0]; exact X.okst b0
    | 1, _ => rw [s1, e1]; exact X.okst b1
    | 2, _ => rw [s2, e1, e2]; exact X.okst b2
    | 3, _ => rw [s3, e1, e2, e3]; exact X.okst b3
    | i + 4, hi => exact absurd hi (by simp)
  · unfold toldD dueD dueZ
    rw [st, e1, e2, e3, e4]
    simp only [List.map_cons, List.map_nil, stageD_grp]
end
theorem pure_all (ns : List Int) : Pure (rowsZ ns) (keysZ ns) := by
  have X : Base (rowsZ ns) (keysZ ns) := ⟨rows_n8 ns, rows_c2, rows_ok, keys_way ns, (keys_all ns).2⟩
  exact pure_of X.all.1 X.all.2
end Mine
end
section
open PySem PySem.W PyProof.Rows
set_option Elab.async false
set_option maxRecDepth 100000
set_option maxHeartbeats 4000000
set_option linter.unusedVariables false
namespace Mine
def tabb (a : Nat) : Bool := a == 51 || a == 58 || a == 91 || a == 108
theorem tabb_iff {a : Nat} : tabb a = true ↔ Tab a := by
  unfold tabb Tab
  simp [Bool.or_eq_true, or_assoc]
def topB (h : Heap) : FM := fun a => if tabb a then none else h.get? a
theorem topB_at {h : Heap} {a : Nat} (t : ¬ Tab a) : topB h a = h.get? a := by
  unfold topB
  rw [if_neg fun q => t (tabb_iff.mp q)]
noncomputable def fvOf (P : Params) (a : Addr) : Array Value := match (k1o P a).data with | .fields vs => vs | _ => #[]
section
variable {P : Params} {h : Heap}
theorem k1_51 (P : Params) : (K1 P).lookup 51 = some (tabObj #[]) := by kernel_rfl
theorem k1_58 (P : Params) : (K1 P).lookup 58 = some (tabObj #[]) := by kernel_rfl
theorem k1_91 (P : Params) : (K1 P).lookup 91 = some (tabObj #[]) := by kernel_rfl
theorem k1_108 (P : Params) : (K1 P).lookup 108 = some (tabObj #[]) := by kernel_rfl
theorem top_sit (KX : (K1 P).In h) {gs : Array GenState} (hg : gs = #[]) : Sit P true true (topB h) h gs where
  inB := fun a o e => by
    unfold topB at e
    by_cases q : tabb a = true
    · rw [if_pos q] at e; cases e
    · rw [if_neg q] at e; exact e
  stat := fun a o e t => by rw [topB_at t]; exact KX a o e
  tabs := ⟨⟨_, KX _ _ (k1_51 P), fun _ => rfl, .inl rfl⟩, ⟨_, KX _ _ (k1_58 P), fun _ => rfl⟩, ⟨_, KX _ _ (k1_91 P), fun _ => rfl, .inl rfl⟩, ⟨_, KX _ _ (k1_108 P), fun _ => rfl, fun _ => rfl⟩⟩
  tabB := fun a t => by unfold topB; rw [if_pos (tabb_iff.mpr t)]
  bare := AllBare.of_eq hg
theorem top_code (KX : (K1 P).In h) {c a : Nat} (h1 : (K1 P).lookup c = some (k1o P c)) (h2 : (k1o P c).cls = .type "code") (h3 : (k1o P c).data = .fields (fvOf P c)) (h4 : (fvOf P c)[11]? = some (.ref a)) : isCodeTable h a :=
  ⟨c, _, _, KX _ _ h1, h2, h3, h4⟩
theorem code_51 (KX : (K1 P).In h) : isCodeTable h 51 := top_code KX (c := 55) (by kernel_rfl) (by kernel_rfl) (by kernel_rfl) (by kernel_rfl)
theorem code_58 (KX : (K1 P).In h) : isCodeTable h 58 := top_code KX (c := 62) (by kernel_rfl) (by kernel_rfl) (by kernel_rfl) (by kernel_rfl)
theorem code_91 (KX : (K1 P).In h) : isCodeTable h 91 := top_code KX (c := 95) (by kernel_rfl) (by kernel_rfl) (by kernel_rfl) (by kernel_rfl)
theorem code_108 (KX : (K1 P).In h) : isCodeTable h 108 := top_code KX (c := 110) (by kernel_rfl) (by kernel_rfl) (by kernel_rfl) (by kernel_rfl)
theorem was_tab {h h' : Heap} {a : Addr} {o : Obj} {ps : Array Value} (c : isCodeTable h a) (e : h.get? a = some (tabObj #[])) (e' : h'.get? a = some (tabObj ps)) (ho : h.get? a = some o) : asItWas h h' a o := by
  rw [e] at ho
  cases ho
  exact .inr (.inl ⟨c, rfl, #[], ps, rfl, by rw [e', Array.empty_append]⟩)
theorem top_old {B B' : FM} {s s' : Shared} {f g : Bool} (KX : (K1 P).In s.heap) (mv : Mv B B' s s') (S : Sit P f g B' s'.heap s'.gens) : OldK s.heap s'.heap where
  old := fun b o e => by
    by_cases t : Tab b
    · rcases t with rfl | rfl | rfl | rfl
      · obtain ⟨ps, e', _⟩ := S.tabs.t51
        exact was_tab (code_51 KX) (KX _ _ (k1_51 P)) e' e
      · obtain ⟨ps, e', _⟩ := S.tabs.t58
        exact was_tab (code_58 KX) (KX _ _ (k1_58 P)) e' e
      · obtain ⟨ps, e', _⟩ := S.tabs.t91
        exact was_tab (code_91 KX) (KX _ _ (k1_91 P)) e' e
      · obtain ⟨ps, e', _⟩ := S.tabs.t108
        exact was_tab (code_108 KX) (KX _ _ (k1_108 P)) e' e
    · exact .inl (mv.ext b o t e)
  there := fun b o e => by
    by_cases t : Tab b
    · exact S.tabs.there t
    · exact ⟨o, mv.ext b o t e⟩
end
theorem top : PySem.Challenge.rw_mq0160_01.Holds := by
  refine own_hd ?_
  intro w s₀ s₁ mg mb G y fa o pm cd doc dV kV ho hd' hcd hD hmg hg args vals as L hpre hlay hrd hwl hlo
  have f0 := fun e => PySem.W.X.z_facts (K := K1) e y
  have f := f0 (fun P => by kernel_rfl)
  refine Ground.open G ?_
  intro T B D TE TW
  wrow_args hpre hlay hrd hwl hlo
  obtain ⟨hat, hsz⟩ := PySem.W.X.script_at L
  rw [f.2.2.1] at hat hsz
  subst hat
  have KX : (K1 w.params).In s₁.heap := InK.keeps w _ _ f.2.1 L.keeps
  have hfa : fa = 118 := by
    have := mg_of KX T.g (n := Str.ofString "law") (v := .ref 118) (by kernel_rfl)
    have e : hLaw.name = Str.ofString "law" := by kernel_rfl
    rw [← e, hmg] at this
    injection this with this
    injection this
  subst hfa
  clear y D TE TW hd' hD hcd ho hmg T B f f0
  rename Heap.IsList _ _ _ => hL
  rename IntsAre _ _ => hI
  have hl := PySem.W.X.script_obj L hL
  have S := top_sit KX hg
  show wpAny (model prg w) callerA (call (.ref 118) [.ref 119]) _ _ _
  refine law_spec S ⟨rfl, by decide, by decide⟩ (n := 0) ((topB_at (notTab (by decide))).trans hl) hI (by omega) (pure_all _) fun s' B' mv S' => ?_
  exact ⟨.inl ⟨_, _, [], rfl, fun _ => rfl, ReadsW.bool true, (by kernel_rfl), fun _ => ⟨List.nodup_nil, fun _ hm => (nomatch hm)⟩⟩, top_old KX mv S', mv.os, S'.bare⟩
end Mine
end
theorem PySem.Challenge.cw_mq0160_01_holds : PySem.Challenge.rw_mq0160_01.Holds :=
  Mine.top
