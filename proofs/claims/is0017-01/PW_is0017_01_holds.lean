import PyProof.Rows.All
import PyProof.Methods
import PyProof.PlainList
import PyProof.NeKinds
import PyProof.RangeIter
import PyProof.RangeFor
import PyProof.LetGo
import PyProof.Rows.TupAssign
import PyProof.Rows.NewsSeq
import PyProof.WalksPairs
import PyProof.Rows.StrJoin2
import PyProof.Rows.CatFin
import PyProof.Rows.StrInSeq3
import PyProof.SliceMore
import PyProof.Rows.StrComp
import PyProof.Rows.MaxTwoN
import PyProof.Rows.SeqMore
import PyProof.Rows.EqBoolInt
import PyProof.Rows.Range3
import Wide.RegSB
import KE.FramesApart
import Wide.FinOn
import OpenK.AllK
import Wide.All
import Lean
import PySem.Challenge.RW_is0017_01
open PySem PySem.W PySem.Calls PyProof.Rows
set_option Elab.async false
set_option maxRecDepth 100000
set_option maxHeartbeats 0
set_option linter.unusedVariables false
set_option compiler.extract_closed false
namespace Mine
section
noncomputable abbrev pw : Program := PySem.Challenge.pw_is0017_01
noncomputable def nthS : List Stmt → Nat → Stmt
 | [], _ => .Pass ⟨0, 0, 0, 0⟩
 | a :: _, 0 => a
 | _ :: l, n + 1 => nthS l n
noncomputable def nthE : List PySem.Expr → Nat → PySem.Expr
 | [], _ => .Name (PySem.Str.mk #[]) ⟨0, 0, 0, 0⟩
 | a :: _, 0 => a
 | _ :: l, n + 1 => nthE l n
noncomputable def stm (i : Nat) : Stmt := nthS pw.main.body i
noncomputable def clsBody : Stmt → List Stmt
 | .ClassDef _ _ _ b .. => b
 | _ => []
noncomputable def clsScope : Stmt → Scope
 | .ClassDef _ _ _ _ _ _ sc .. => sc
 | _ => pw.main.scope
noncomputable def cst (i j : Nat) : Stmt := nthS (clsBody (stm i)) j
noncomputable def defName : Stmt → PySem.Str
 | .FunctionDef n .. => n
 | _ => PySem.Str.mk #[]
noncomputable def defArgs : Stmt → PySem.Arguments
 | .FunctionDef _ a .. => a
 | _ => ⟨[], [], none, [], [], none, []⟩
noncomputable def defBody : Stmt → List Stmt
 | .FunctionDef _ _ b .. => b
 | _ => []
noncomputable def defScope : Stmt → Scope
 | .FunctionDef _ _ _ _ _ _ sc .. => sc
 | _ => pw.main.scope
noncomputable def elts : Stmt → List PySem.Expr
 | .Assign _ (.List es _) _ => es
 | _ => []
noncomputable abbrev S (s : String) : PySem.Str := PySem.Str.ofString s
noncomputable abbrev vR (a : Nat) : Value := .ref a
noncomputable abbrev vS (s : String) (t : Nat) : Value := .str (PySem.Str.ofString s) t
noncomputable abbrev vI (i : Int) (t : Nat) : Value := .int i t
noncomputable abbrev vT (s : String) : Value := .type s
noncomputable abbrev vB (s : String) : Value := .builtin s
noncomputable abbrev sq (l : List Value) (n : Nat) : Data := .seq (Array.mk l) n
noncomputable abbrev dc (l : List DictEntry) (n : Nat) : Data := .dict (Array.mk l) n
noncomputable abbrev fl (l : List Value) : Data := .fields (Array.mk l)
noncomputable abbrev en (P : Params) (k : String) (t : Nat) (v : Value) : DictEntry := ⟨PyData.keyHash P (PySem.Str.ofString k), .str (PySem.Str.ofString k) t, v⟩
noncomputable abbrev ob (c : Value) (d : Data) : Obj := ⟨c, none, d, Array.mk []⟩
noncomputable abbrev obD (c : Value) (dd : Nat) (d : Data) : Obj := ⟨c, some dd, d, Array.mk []⟩
noncomputable abbrev obS (c : Value) (dd : Option Nat) (d : Data) (s : List (Option Value)) : Obj := ⟨c, dd, d, Array.mk s⟩
noncomputable abbrev fA (st : Stmt) (q : String) : Data := .func { name := defName st, qualname := PySem.Str.ofString q, params := defArgs st, body := .stmts (defBody st), scope := defScope st, globals := 0, closure := [], defaults := .none, kwdefaults := .none }
noncomputable abbrev fB (st : Stmt) (q : String) (pm cd : Value) : Data := .func { name := defName st, qualname := PySem.Str.ofString q, params := defArgs st, body := .stmts (defBody st), scope := defScope st, globals := 3, closure := [], defaults := .none, kwdefaults := .none, pyModule := pm, code := cd, builtins := 0 }
noncomputable abbrev N (o : Obj) (l r : BT) : BT := .node o l r
noncomputable abbrev E : BT := .nil
noncomputable def up (T : BT) (l c : List (Nat × Obj)) : BT := c.foldl (fun t p => t.set p.1 (fun _ => p.2)) (l.foldl (fun t p => t.ins p.1 p.2) T)
noncomputable abbrev st (T : BT) (n tk : Nat) (os : OsState) : SharedT := ⟨T, n, {}, Array.mk [], {}, tk, os⟩
noncomputable abbrev mbody : List Stmt := behindTheImports pw
noncomputable def menv : Env := { scope := pw.main.scope, locals := mainNs, globals := mainNs, cells := [], code := .ref 13, frame := some 14 }
noncomputable def mcode : Code := .body mbody menv
noncomputable abbrev ann : Option Value := some (.ref 6)
noncomputable abbrev B0 : List Frame := [topFrame ⟨0, 0, 0, 0⟩]
noncomputable abbrev goT (w : World) (n : Nat) (s : SharedT) (t : Thread) : Option (SharedT × Thread) := segGoT treeTable pw w 11 ann 0 n s t

noncomputable def cenv : Env := { scope := clsScope (stm 6), locals := 227, globals := mainNs, cells := [], qual := PySem.Str.ofString "RomanianStemmer.", code := .ref 230, frame := some 231, builtins := 0 }
noncomputable def ccode : Code := .body (clsBody (stm 6)) cenv
noncomputable abbrev fr (k : Result → Sem Fin) (l : List Value) : List Frame := [.ret k none false l mcode ⟨215, 0, 567, 106⟩ [], topFrame ⟨0, 0, 0, 0⟩]
structure Am where
 n : Nat
 t : Nat
 u : Nat
 s : String
 a : Int
 b : Int
noncomputable def amA (P : Params) (x : Am) : Obj := ob (vT "dict") (dc [en P "s" (x.u + 5) (vS x.s x.t), en P "substring_i" (x.u + 7) (vI x.a (x.u - 2)), en P "result" (x.u + 9) (vI x.b (x.u - 1))] 3)
noncomputable def amB (n : Nat) : Obj := obD (vR 220) n .plain
noncomputable def amC (P : Params) (x : Am) : Obj := ob (vT "frame") (dc [en P "self" x.u (vR (x.n + 1)), en P "s" (x.u + 1) (vS x.s x.t), en P "substring_i" (x.u + 2) (vI x.a (x.u - 2)), en P "result" (x.u + 3) (vI x.b (x.u - 1))] 4)
noncomputable def amIns (P : Params) (T : BT) (x : Am) : BT := ((T.ins x.n (amA P x)).ins (x.n + 1) (amB x.n)).ins (x.n + 2) (amC P x)
noncomputable def amT (P : Params) (T : BT) (l : List Am) : BT := l.foldl (amIns P) T
noncomputable def lay0 (led : Bool) : Data := .set (Array.mk []) 0 (SetTable.fresh 0 0 led)
noncomputable def addD (h : Int) (v : Value) : Data → Data
 | .set es n t =>
  let L := layNew t es h v
  let t1 : SetTable := if L.2.1.plain = true then { L.2.1 with plain := false } else L.2.1
  if (!L.2.2.1 && t1.tooFull) = true then .set (relayAll t1 L.1 (SetTable.grown L.1.size)).1 (n + 2) (relayAll t1 L.1 (SetTable.grown L.1.size)).2.1 else .set L.1 (n + 1) t1
 | d => d
noncomputable def unledD : Data → Data
 | .set es n t => .set es (n + 1) { t with led := false }
 | d => d
noncomputable def vows : List (String × Nat) := [("a", 487), ("e", 488), ("i", 489), ("o", 490), ("u", 491), ("â", 492), ("î", 493), ("ă", 494)]
noncomputable def Xd (P : Params) : Data := unledD (vows.foldl (fun d x => addD (PyData.keyHash P (PySem.Str.ofString x.1)) (vS x.1 x.2) d) (lay0 (!P.followText "set-order")))
noncomputable def xE (P : Params) : Array (Int × Value) := match Xd P with
 | .set es _ _ => es
 | _ => Array.mk []
noncomputable def xN (P : Params) : Nat := match Xd P with
 | .set _ n _ => n
 | _ => 0
noncomputable def xT (P : Params) : SetTable := match Xd P with
 | .set _ _ t => t
 | _ => SetTable.fresh 0 0 false
noncomputable def elP (w : World) (k : Result → Sem Fin) (l : List Value) (S S' : SharedT) (e : PySem.Expr) (c v : Nat) (p p' : Pos) : Prop :=
 ∀ (K : Value → Sem Fin) (H : Value → Sem Fin) (lv : List Value → List Value), goT w c S ⟨(eval e cenv).wrap K H id lv, ccode, p, fr k l⟩ = some (S', ⟨K (.ref v), ccode, p', fr k l⟩)
noncomputable def asgT : Stmt → List PySem.Expr
 | .Assign ts _ _ => ts
 | _ => []
noncomputable def asgV : Stmt → PySem.Expr
 | .Assign _ v _ => v
 | s => .Name (PySem.Str.mk #[]) s.pos
noncomputable def stmtPos : Stmt → Pos := Stmt.pos
noncomputable abbrev asgR (s : Stmt) (v : Value) : Sem Flow := assignAll v ((assignEach (asgT s) cenv).map (·.2)) >>= fun _ => (pure .next : Sem Flow)

noncomputable abbrev TP := Params → BT
noncomputable abbrev Na (o : Params → Obj) (l r : TP) : TP := fun P => .node (o P) (l P) (r P)
noncomputable abbrev Nb (o : Obj) (l r : TP) : TP := fun P => .node o (l P) (r P)
noncomputable abbrev Nc (o : Params → Obj) : TP := fun P => .node (o P) .nil .nil
noncomputable abbrev Nd (o : Obj) : TP := fun _ => .node o .nil .nil
noncomputable abbrev Ne : TP := fun _ => .nil
noncomputable abbrev Ma (x : Am) (l r : TP) : TP := fun P => .node (amA P x) (l P) (r P)
noncomputable abbrev Mb (n : Nat) (l r : TP) : TP := fun P => .node (amB n) (l P) (r P)
noncomputable abbrev Mc (x : Am) (l r : TP) : TP := fun P => .node (amC P x) (l P) (r P)
noncomputable abbrev Mx (x : Am) : TP := fun P => .node (amA P x) .nil .nil
noncomputable abbrev My (n : Nat) : TP := fun P => .node (amB n) .nil .nil
noncomputable abbrev Mz (x : Am) : TP := fun P => .node (amC P x) .nil .nil
noncomputable abbrev cd (f : String) (t : Nat) (q : String) (u v : Nat) (l n : Int) (k : Int) (a : Nat) (b : Value) (c : Nat) (x y z d : Value) (g : Int) (h : Nat) : Obj := ob (vT "code") (fl [vS f t, vS q u, vS "/claim/cut.py" v, vI l 0, vI n 0, vI 0 0, vI 0 0, vI k 0, vR a, b, vI 181 0, vR c, x, y, z, d, vI g 0, vI l 0, vS "/claim/cut.py" h])
variable (P : Params)
noncomputable def o11 := ob (vT "tuple") (sq [] 0)
noncomputable def o12 := ob .none (fl [])
noncomputable def o13 := cd "<module>" 182 "<module>" 183 184 1 0 0 11 (.bool false) 12 .none .none .none .none 185 186
noncomputable def o14 := obS (vT "frame") none .plain [some (vR 13), some (vR 3), some (vR 3), none, some (vS "__main__" 164), none, some (vR 0)]
noncomputable def A0 : TP := Na boot_o_0 (Na boot_o_1 (Na boot_o_3 (Nc boot_o_7) (Nd o11)) (Na boot_o_5 (Nc boot_o_9) (Nd o13))) (Na boot_o_2 (Na boot_o_4 (Nc boot_o_8) (Nd o12)) (Na boot_o_6 (Nc boot_o_10) (Nd o14)))
noncomputable def a0 (P : Params) (os : OsState) : SharedT := st (A0 P) 15 187 os
noncomputable def o3v1 := ob (vT "dict") (dc [en P "__name__" 165 (vS "__main__" 164), en P "__doc__" 166 .none, en P "__package__" 167 .none, en P "__loader__" 168 (vB "__main__.__loader__#opaque"), en P "__spec__" 169 .none, en P "__annotations__" 170 (vR 6), en P "__builtins__" 171 (vR 4), en P "__file__" 173 (vS "/claim/cut.py" 172), en P "__cached__" 174 .none, en P "_wall" 193 (vR 21)] 10)
noncomputable def h9 (t : List Value) : List Value := vI 1 0 :: vI 0 0 :: vR 20 :: t
noncomputable def o12v1 := ob .none (fl (h9 []))
noncomputable def o15 := ob (vT "tuple") (sq [] 0)
noncomputable def o16 := ob .none (fl [])
noncomputable def o17 := ob (vT "tuple") (sq [vS "k" 190] 0)
noncomputable def o18 := ob (vT "tuple") (sq [] 0)
noncomputable def o19 := ob .none (fA (stm 0) "_wall")
noncomputable def o20 := cd "_wall" 187 "_wall" 188 189 1 1 3 15 (.bool true) 16 .none (vR 17) (vR 18) (vR 19) 191 192
noncomputable def o21 := ob (vT "function") (fB (stm 0) "_wall" (vS "__main__" 164) (vR 20))
noncomputable def t1 := Na boot_o_5 (Na boot_o_9 (Nd o17) Ne) (Nb o13 (Nd o21) Ne)
noncomputable def t2 := Na boot_o_2 (Na boot_o_4 (Na boot_o_8 (Nd o16) Ne) (Nb o12v1 (Nd o20) Ne)) (Na boot_o_6 (Na boot_o_10 (Nd o18) Ne) (Nd o14))
noncomputable def A1 : TP := Na boot_o_0 (Na boot_o_1 (Na o3v1 (Na boot_o_7 (Nd o15) Ne) (Nb o11 (Nd o19) Ne)) t1) t2
noncomputable def a1 (P : Params) (os : OsState) : SharedT := st (A1 P) 22 194 os
noncomputable def h1 (t : List DictEntry) : List DictEntry := en P "__name__" 165 (vS "snowballstemmer.basestemmer" 194) :: en P "__doc__" 166 .none :: en P "__package__" 167 .none :: en P "__loader__" 168 (vB "__main__.__loader__#opaque") :: en P "__spec__" 169 .none :: en P "__annotations__" 170 (vR 6) :: en P "__builtins__" 171 (vR 4) :: en P "__file__" 173 (vS "/claim/cut.py" 172) :: en P "__cached__" 174 .none :: en P "_wall" 193 (vR 21) :: t
noncomputable def o3v2 := ob (vT "dict") (dc (h1 P []) 10)
noncomputable def A2 : TP := Na boot_o_0 (Na boot_o_1 (Na o3v2 (Na boot_o_7 (Nd o15) Ne) (Nb o11 (Nd o19) Ne)) t1) t2
noncomputable def a2 (P : Params) (os : OsState) : SharedT := st (A2 P) 22 196 os
noncomputable def o3v3 := ob (vT "dict") (dc (h1 P [en P "BaseStemmer" 437 (vR 199)]) 11)
noncomputable def h10 (t : List Value) : List Value := h9 (vI 5 0 :: vI 0 0 :: vR 27 :: t)
noncomputable def o12v3 := ob .none (fl (h10 []))
noncomputable def o22 := ob (vT "tuple") (sq [] 0)
noncomputable def o23 := ob (vT "builtin_function_or_method") (fl [vB "type.__prepare__", vT "type"])
noncomputable def o24 := ob (vT "dict") (dc [en P "__module__" 203 (vS "snowballstemmer.basestemmer" 194), en P "__qualname__" 205 (vS "BaseStemmer" 204), en P "__firstlineno__" 207 (vI 5 206), en P "__init__" 214 (vR 35), en P "set_current" 222 (vR 42), en P "get_current" 229 (vR 49), en P "copy_from" 237 (vR 56), en P "in_grouping" 245 (vR 63), en P "go_in_grouping" 253 (vR 70), en P "in_grouping_b" 261 (vR 77), en P "go_in_grouping_b" 269 (vR 84), en P "out_grouping" 277 (vR 91), en P "go_out_grouping" 285 (vR 98), en P "out_grouping_b" 293 (vR 105), en P "go_out_grouping_b" 301 (vR 112), en P "eq_s" 309 (vR 119), en P "eq_s_b" 317 (vR 126), en P "find_among" 337 (vR 133), en P "find_among_b" 357 (vR 140), en P "replace_s" 368 (vR 147), en P "slice_from" 376 (vR 154), en P "slice_del" 383 (vR 161), en P "insert" 393 (vR 168), en P "slice_to" 400 (vR 175), en P "assign_to" 407 (vR 182), en P "stemWord" 415 (vR 189), en P "stemWords" 423 (vR 196), en P "__static_attributes__" 430 (vR 197)] 28)
noncomputable def o25 := ob (vT "tuple") (sq [] 0)
noncomputable def o26 := ob .none (fl [vI 7 0, vI 4 0, vR 34, vI 10 0, vI 4 0, vR 41, vI 18 0, vI 4 0, vR 48, vI 21 0, vI 4 0, vR 55, vI 24 0, vI 4 0, vR 62, vI 32 0, vI 4 0, vR 69, vI 39 0, vI 4 0, vR 76, vI 42 0, vI 4 0, vR 83, vI 45 0, vI 4 0, vR 90, vI 53 0, vI 4 0, vR 97, vI 60 0, vI 4 0, vR 104, vI 68 0, vI 4 0, vR 111, vI 71 0, vI 4 0, vR 118, vI 74 0, vI 4 0, vR 125, vI 80 0, vI 4 0, vR 132, vI 125 0, vI 4 0, vR 139, vI 170 0, vI 4 0, vR 146, vI 180 0, vI 4 0, vR 153, vI 188 0, vI 4 0, vR 160, vI 191 0, vI 4 0, vR 167, vI 194 0, vI 4 0, vR 174, vI 197 0, vI 4 0, vR 181, vI 200 0, vI 4 0, vR 188, vI 205 0, vI 4 0, vR 195])
noncomputable def o27 := cd "BaseStemmer" 198 "BaseStemmer" 199 200 5 0 0 25 (.bool false) 26 .none .none .none .none 201 202
noncomputable def o28 := obS (vT "frame") none .plain [some (vR 27), some (vR 3), some (vR 24), none, some (vS "snowballstemmer.basestemmer" 194), none, some (vR 0)]
noncomputable def o29 := ob (vT "tuple") (sq [] 0)
noncomputable def o30 := ob .none (fl [])
noncomputable def o31 := ob (vT "tuple") (sq [vS "self" 211] 0)
noncomputable def o32 := ob (vT "tuple") (sq [] 0)
noncomputable def o33 := ob .none (fA (cst 2 0) "BaseStemmer.__init__")
noncomputable def o34 := cd "__init__" 208 "BaseStemmer.__init__" 209 210 7 1 3 29 (.bool true) 30 .none (vR 31) (vR 32) (vR 33) 212 213
noncomputable def o35 := ob (vT "function") (fB (cst 2 0) "BaseStemmer.__init__" (vS "snowballstemmer.basestemmer" 194) (vR 34))
noncomputable def o36 := ob (vT "tuple") (sq [] 0)
noncomputable def o37 := ob .none (fl [])
noncomputable def o38 := ob (vT "tuple") (sq [vS "self" 218, vS "value" 219] 0)
noncomputable def o39 := ob (vT "tuple") (sq [] 0)
noncomputable def o40 := ob .none (fA (cst 2 1) "BaseStemmer.set_current")
noncomputable def o41 := cd "set_current" 215 "BaseStemmer.set_current" 216 217 10 2 3 36 (.bool true) 37 .none (vR 38) (vR 39) (vR 40) 220 221
noncomputable def o42 := ob (vT "function") (fB (cst 2 1) "BaseStemmer.set_current" (vS "snowballstemmer.basestemmer" 194) (vR 41))
noncomputable def o43 := ob (vT "tuple") (sq [] 0)
noncomputable def o44 := ob .none (fl [])
noncomputable def o45 := ob (vT "tuple") (sq [vS "self" 226] 0)
noncomputable def o46 := ob (vT "tuple") (sq [] 0)
noncomputable def o47 := ob .none (fA (cst 2 2) "BaseStemmer.get_current")
noncomputable def o48 := cd "get_current" 223 "BaseStemmer.get_current" 224 225 18 1 3 43 (.bool true) 44 .none (vR 45) (vR 46) (vR 47) 227 228
noncomputable def o49 := ob (vT "function") (fB (cst 2 2) "BaseStemmer.get_current" (vS "snowballstemmer.basestemmer" 194) (vR 48))
noncomputable def o50 := ob (vT "tuple") (sq [] 0)
noncomputable def o51 := ob .none (fl [])
noncomputable def o52 := ob (vT "tuple") (sq [vS "self" 233, vS "other" 234] 0)
noncomputable def o53 := ob (vT "tuple") (sq [] 0)
noncomputable def o54 := ob .none (fA (cst 2 3) "BaseStemmer.copy_from")
noncomputable def o55 := cd "copy_from" 230 "BaseStemmer.copy_from" 231 232 21 2 3 50 (.bool true) 51 .none (vR 52) (vR 53) (vR 54) 235 236
noncomputable def o56 := ob (vT "function") (fB (cst 2 3) "BaseStemmer.copy_from" (vS "snowballstemmer.basestemmer" 194) (vR 55))
noncomputable def o57 := ob (vT "tuple") (sq [] 0)
noncomputable def o58 := ob .none (fl [])
noncomputable def o59 := ob (vT "tuple") (sq [vS "self" 241, vS "s" 242] 0)
noncomputable def o60 := ob (vT "tuple") (sq [] 0)
noncomputable def o61 := ob .none (fA (cst 2 4) "BaseStemmer.in_grouping")
noncomputable def o62 := cd "in_grouping" 238 "BaseStemmer.in_grouping" 239 240 24 2 3 57 (.bool true) 58 .none (vR 59) (vR 60) (vR 61) 243 244
noncomputable def o63 := ob (vT "function") (fB (cst 2 4) "BaseStemmer.in_grouping" (vS "snowballstemmer.basestemmer" 194) (vR 62))
noncomputable def o64 := ob (vT "tuple") (sq [] 0)
noncomputable def o65 := ob .none (fl [])
noncomputable def o66 := ob (vT "tuple") (sq [vS "self" 249, vS "s" 250] 0)
noncomputable def o67 := ob (vT "tuple") (sq [] 0)
noncomputable def o68 := ob .none (fA (cst 2 5) "BaseStemmer.go_in_grouping")
noncomputable def o69 := cd "go_in_grouping" 246 "BaseStemmer.go_in_grouping" 247 248 32 2 3 64 (.bool true) 65 .none (vR 66) (vR 67) (vR 68) 251 252
noncomputable def o70 := ob (vT "function") (fB (cst 2 5) "BaseStemmer.go_in_grouping" (vS "snowballstemmer.basestemmer" 194) (vR 69))
noncomputable def o71 := ob (vT "tuple") (sq [] 0)
noncomputable def o72 := ob .none (fl [])
noncomputable def o73 := ob (vT "tuple") (sq [vS "self" 257, vS "s" 258] 0)
noncomputable def o74 := ob (vT "tuple") (sq [] 0)
noncomputable def o75 := ob .none (fA (cst 2 6) "BaseStemmer.in_grouping_b")
noncomputable def o76 := cd "in_grouping_b" 254 "BaseStemmer.in_grouping_b" 255 256 39 2 3 71 (.bool true) 72 .none (vR 73) (vR 74) (vR 75) 259 260
noncomputable def o77 := ob (vT "function") (fB (cst 2 6) "BaseStemmer.in_grouping_b" (vS "snowballstemmer.basestemmer" 194) (vR 76))
noncomputable def o78 := ob (vT "tuple") (sq [] 0)
noncomputable def o79 := ob .none (fl [])
noncomputable def o80 := ob (vT "tuple") (sq [vS "self" 265, vS "s" 266] 0)
noncomputable def o81 := ob (vT "tuple") (sq [] 0)
noncomputable def o82 := ob .none (fA (cst 2 7) "BaseStemmer.go_in_grouping_b")
noncomputable def o83 := cd "go_in_grouping_b" 262 "BaseStemmer.go_in_grouping_b" 263 264 42 2 3 78 (.bool true) 79 .none (vR 80) (vR 81) (vR 82) 267 268
noncomputable def o84 := ob (vT "function") (fB (cst 2 7) "BaseStemmer.go_in_grouping_b" (vS "snowballstemmer.basestemmer" 194) (vR 83))
noncomputable def o85 := ob (vT "tuple") (sq [] 0)
noncomputable def o86 := ob .none (fl [])
noncomputable def o87 := ob (vT "tuple") (sq [vS "self" 273, vS "s" 274] 0)
noncomputable def o88 := ob (vT "tuple") (sq [] 0)
noncomputable def o89 := ob .none (fA (cst 2 8) "BaseStemmer.out_grouping")
noncomputable def o90 := cd "out_grouping" 270 "BaseStemmer.out_grouping" 271 272 45 2 3 85 (.bool true) 86 .none (vR 87) (vR 88) (vR 89) 275 276
noncomputable def o91 := ob (vT "function") (fB (cst 2 8) "BaseStemmer.out_grouping" (vS "snowballstemmer.basestemmer" 194) (vR 90))
noncomputable def o92 := ob (vT "tuple") (sq [] 0)
noncomputable def o93 := ob .none (fl [])
noncomputable def o94 := ob (vT "tuple") (sq [vS "self" 281, vS "s" 282] 0)
noncomputable def o95 := ob (vT "tuple") (sq [] 0)
noncomputable def o96 := ob .none (fA (cst 2 9) "BaseStemmer.go_out_grouping")
noncomputable def o97 := cd "go_out_grouping" 278 "BaseStemmer.go_out_grouping" 279 280 53 2 3 92 (.bool true) 93 .none (vR 94) (vR 95) (vR 96) 283 284
noncomputable def o98 := ob (vT "function") (fB (cst 2 9) "BaseStemmer.go_out_grouping" (vS "snowballstemmer.basestemmer" 194) (vR 97))
noncomputable def o99 := ob (vT "tuple") (sq [] 0)
noncomputable def o100 := ob .none (fl [])
noncomputable def o101 := ob (vT "tuple") (sq [vS "self" 289, vS "s" 290] 0)
noncomputable def o102 := ob (vT "tuple") (sq [] 0)
noncomputable def o103 := ob .none (fA (cst 2 10) "BaseStemmer.out_grouping_b")
noncomputable def o104 := cd "out_grouping_b" 286 "BaseStemmer.out_grouping_b" 287 288 60 2 3 99 (.bool true) 100 .none (vR 101) (vR 102) (vR 103) 291 292
noncomputable def o105 := ob (vT "function") (fB (cst 2 10) "BaseStemmer.out_grouping_b" (vS "snowballstemmer.basestemmer" 194) (vR 104))
noncomputable def o106 := ob (vT "tuple") (sq [] 0)
noncomputable def o107 := ob .none (fl [])
noncomputable def o108 := ob (vT "tuple") (sq [vS "self" 297, vS "s" 298] 0)
noncomputable def o109 := ob (vT "tuple") (sq [] 0)
noncomputable def o110 := ob .none (fA (cst 2 11) "BaseStemmer.go_out_grouping_b")
noncomputable def o111 := cd "go_out_grouping_b" 294 "BaseStemmer.go_out_grouping_b" 295 296 68 2 3 106 (.bool true) 107 .none (vR 108) (vR 109) (vR 110) 299 300
noncomputable def o112 := ob (vT "function") (fB (cst 2 11) "BaseStemmer.go_out_grouping_b" (vS "snowballstemmer.basestemmer" 194) (vR 111))
noncomputable def o113 := ob (vT "tuple") (sq [] 0)
noncomputable def o114 := ob .none (fl [])
noncomputable def o115 := ob (vT "tuple") (sq [vS "self" 305, vS "s" 306] 0)
noncomputable def o116 := ob (vT "tuple") (sq [] 0)
noncomputable def o117 := ob .none (fA (cst 2 12) "BaseStemmer.eq_s")
noncomputable def o118 := cd "eq_s" 302 "BaseStemmer.eq_s" 303 304 71 2 3 113 (.bool true) 114 .none (vR 115) (vR 116) (vR 117) 307 308
noncomputable def o119 := ob (vT "function") (fB (cst 2 12) "BaseStemmer.eq_s" (vS "snowballstemmer.basestemmer" 194) (vR 118))
noncomputable def o120 := ob (vT "tuple") (sq [] 0)
noncomputable def o121 := ob .none (fl [])
noncomputable def o122 := ob (vT "tuple") (sq [vS "self" 313, vS "s" 314] 0)
noncomputable def o123 := ob (vT "tuple") (sq [] 0)
noncomputable def o124 := ob .none (fA (cst 2 13) "BaseStemmer.eq_s_b")
noncomputable def o125 := cd "eq_s_b" 310 "BaseStemmer.eq_s_b" 311 312 74 2 3 120 (.bool true) 121 .none (vR 122) (vR 123) (vR 124) 315 316
noncomputable def o126 := ob (vT "function") (fB (cst 2 13) "BaseStemmer.eq_s_b" (vS "snowballstemmer.basestemmer" 194) (vR 125))
noncomputable def o127 := ob (vT "tuple") (sq [] 0)
noncomputable def o128 := ob .none (fl [])
noncomputable def o129 := ob (vT "tuple") (sq [vS "self" 321, vS "v" 322, vS "i" 323, vS "j" 324, vS "c" 325, vS "l" 326, vS "common_i" 327, vS "common_j" 328, vS "first_key_inspected" 329, vS "k" 330, vS "diff" 331, vS "common" 332, vS "w" 333, vS "i2" 334] 0)
noncomputable def o130 := ob (vT "tuple") (sq [] 0)
noncomputable def o131 := ob .none (fA (cst 2 14) "BaseStemmer.find_among")
noncomputable def o132 := cd "find_among" 318 "BaseStemmer.find_among" 319 320 80 2 3 127 (.bool true) 128 .none (vR 129) (vR 130) (vR 131) 335 336
noncomputable def o133 := ob (vT "function") (fB (cst 2 14) "BaseStemmer.find_among" (vS "snowballstemmer.basestemmer" 194) (vR 132))
noncomputable def o134 := ob (vT "tuple") (sq [] 0)
noncomputable def o135 := ob .none (fl [])
noncomputable def o136 := ob (vT "tuple") (sq [vS "self" 341, vS "v" 342, vS "i" 343, vS "j" 344, vS "c" 345, vS "lb" 346, vS "common_i" 347, vS "common_j" 348, vS "first_key_inspected" 349, vS "k" 350, vS "diff" 351, vS "common" 352, vS "w" 353, vS "i2" 354] 0)
noncomputable def o137 := ob (vT "tuple") (sq [] 0)
noncomputable def o138 := ob .none (fA (cst 2 15) "BaseStemmer.find_among_b")
noncomputable def o139 := cd "find_among_b" 338 "BaseStemmer.find_among_b" 339 340 125 2 3 134 (.bool true) 135 .none (vR 136) (vR 137) (vR 138) 355 356
noncomputable def o140 := ob (vT "function") (fB (cst 2 15) "BaseStemmer.find_among_b" (vS "snowballstemmer.basestemmer" 194) (vR 139))
noncomputable def o141 := ob (vT "tuple") (sq [] 0)
noncomputable def o142 := ob .none (fl [])
noncomputable def o143 := ob (vT "tuple") (sq [vS "self" 361, vS "c_bra" 362, vS "c_ket" 363, vS "s" 364, vS "adjustment" 365] 0)
noncomputable def o144 := ob (vT "tuple") (sq [] 0)
noncomputable def o145 := ob .none (fA (cst 2 16) "BaseStemmer.replace_s")
noncomputable def o146 := cd "replace_s" 358 "BaseStemmer.replace_s" 359 360 170 4 3 141 (.bool true) 142 .none (vR 143) (vR 144) (vR 145) 366 367
noncomputable def o147 := ob (vT "function") (fB (cst 2 16) "BaseStemmer.replace_s" (vS "snowballstemmer.basestemmer" 194) (vR 146))
noncomputable def o148 := ob (vT "tuple") (sq [] 0)
noncomputable def o149 := ob .none (fl [])
noncomputable def o150 := ob (vT "tuple") (sq [vS "self" 372, vS "s" 373] 0)
noncomputable def o151 := ob (vT "tuple") (sq [] 0)
noncomputable def o152 := ob .none (fA (cst 2 17) "BaseStemmer.slice_from")
noncomputable def o153 := cd "slice_from" 369 "BaseStemmer.slice_from" 370 371 180 2 3 148 (.bool true) 149 .none (vR 150) (vR 151) (vR 152) 374 375
noncomputable def o154 := ob (vT "function") (fB (cst 2 17) "BaseStemmer.slice_from" (vS "snowballstemmer.basestemmer" 194) (vR 153))
noncomputable def o155 := ob (vT "tuple") (sq [] 0)
noncomputable def o156 := ob .none (fl [])
noncomputable def o157 := ob (vT "tuple") (sq [vS "self" 380] 0)
noncomputable def o158 := ob (vT "tuple") (sq [] 0)
noncomputable def o159 := ob .none (fA (cst 2 18) "BaseStemmer.slice_del")
noncomputable def o160 := cd "slice_del" 377 "BaseStemmer.slice_del" 378 379 188 1 3 155 (.bool true) 156 .none (vR 157) (vR 158) (vR 159) 381 382
noncomputable def o161 := ob (vT "function") (fB (cst 2 18) "BaseStemmer.slice_del" (vS "snowballstemmer.basestemmer" 194) (vR 160))
noncomputable def o162 := ob (vT "tuple") (sq [] 0)
noncomputable def o163 := ob .none (fl [])
noncomputable def o164 := ob (vT "tuple") (sq [vS "self" 387, vS "c_bra" 388, vS "c_ket" 389, vS "s" 390] 0)
noncomputable def o165 := ob (vT "tuple") (sq [] 0)
noncomputable def o166 := ob .none (fA (cst 2 19) "BaseStemmer.insert")
noncomputable def o167 := cd "insert" 384 "BaseStemmer.insert" 385 386 191 4 3 162 (.bool true) 163 .none (vR 164) (vR 165) (vR 166) 391 392
noncomputable def o168 := ob (vT "function") (fB (cst 2 19) "BaseStemmer.insert" (vS "snowballstemmer.basestemmer" 194) (vR 167))
noncomputable def o169 := ob (vT "tuple") (sq [] 0)
noncomputable def o170 := ob .none (fl [])
noncomputable def o171 := ob (vT "tuple") (sq [vS "self" 397] 0)
noncomputable def o172 := ob (vT "tuple") (sq [] 0)
noncomputable def o173 := ob .none (fA (cst 2 20) "BaseStemmer.slice_to")
noncomputable def o174 := cd "slice_to" 394 "BaseStemmer.slice_to" 395 396 194 1 3 169 (.bool true) 170 .none (vR 171) (vR 172) (vR 173) 398 399
noncomputable def o175 := ob (vT "function") (fB (cst 2 20) "BaseStemmer.slice_to" (vS "snowballstemmer.basestemmer" 194) (vR 174))
noncomputable def o176 := ob (vT "tuple") (sq [] 0)
noncomputable def o177 := ob .none (fl [])
noncomputable def o178 := ob (vT "tuple") (sq [vS "self" 404] 0)
noncomputable def o179 := ob (vT "tuple") (sq [] 0)
noncomputable def o180 := ob .none (fA (cst 2 21) "BaseStemmer.assign_to")
noncomputable def o181 := cd "assign_to" 401 "BaseStemmer.assign_to" 402 403 197 1 3 176 (.bool true) 177 .none (vR 178) (vR 179) (vR 180) 405 406
noncomputable def o182 := ob (vT "function") (fB (cst 2 21) "BaseStemmer.assign_to" (vS "snowballstemmer.basestemmer" 194) (vR 181))
noncomputable def o183 := ob (vT "tuple") (sq [] 0)
noncomputable def o184 := ob .none (fl [])
noncomputable def o185 := ob (vT "tuple") (sq [vS "self" 411, vS "word" 412] 0)
noncomputable def o186 := ob (vT "tuple") (sq [] 0)
noncomputable def o187 := ob .none (fA (cst 2 22) "BaseStemmer.stemWord")
noncomputable def o188 := cd "stemWord" 408 "BaseStemmer.stemWord" 409 410 200 2 3 183 (.bool true) 184 .none (vR 185) (vR 186) (vR 187) 413 414
noncomputable def o189 := ob (vT "function") (fB (cst 2 22) "BaseStemmer.stemWord" (vS "snowballstemmer.basestemmer" 194) (vR 188))
noncomputable def o190 := ob (vT "tuple") (sq [] 0)
noncomputable def o191 := ob .none (fl [])
noncomputable def o192 := ob (vT "tuple") (sq [vS "self" 419, vS "words" 420] 0)
noncomputable def o193 := ob (vT "tuple") (sq [] 0)
noncomputable def o194 := ob .none (fA (cst 2 23) "BaseStemmer.stemWords")
noncomputable def o195 := cd "stemWords" 416 "BaseStemmer.stemWords" 417 418 205 2 3 190 (.bool true) 191 .none (vR 192) (vR 193) (vR 194) 421 422
noncomputable def o196 := ob (vT "function") (fB (cst 2 23) "BaseStemmer.stemWords" (vS "snowballstemmer.basestemmer" 194) (vR 195))
noncomputable def o197 := ob (vT "tuple") (sq [vS "bra" 424, vS "current" 425, vS "cursor" 426, vS "ket" 427, vS "limit" 428, vS "limit_backward" 429] 0)
noncomputable def o198 := ob (vT "dict") (dc [en P "__module__" 203 (vS "snowballstemmer.basestemmer" 194), en P "__firstlineno__" 207 (vI 5 206), en P "__init__" 214 (vR 35), en P "set_current" 222 (vR 42), en P "get_current" 229 (vR 49), en P "copy_from" 237 (vR 56), en P "in_grouping" 245 (vR 63), en P "go_in_grouping" 253 (vR 70), en P "in_grouping_b" 261 (vR 77), en P "go_in_grouping_b" 269 (vR 84), en P "out_grouping" 277 (vR 91), en P "go_out_grouping" 285 (vR 98), en P "out_grouping_b" 293 (vR 105), en P "go_out_grouping_b" 301 (vR 112), en P "eq_s" 309 (vR 119), en P "eq_s_b" 317 (vR 126), en P "find_among" 337 (vR 133), en P "find_among_b" 357 (vR 140), en P "replace_s" 368 (vR 147), en P "slice_from" 376 (vR 154), en P "slice_del" 383 (vR 161), en P "insert" 393 (vR 168), en P "slice_to" 400 (vR 175), en P "assign_to" 407 (vR 182), en P "stemWord" 415 (vR 189), en P "stemWords" 423 (vR 196), en P "__static_attributes__" 430 (vR 197), en P "__dict__" 432 (vR 200), en P "__weakref__" 434 (vR 201), en P "__doc__" 435 .none] 4)
noncomputable def o199 := obS (vT "type") none (.cls { name := S "BaseStemmer", bases := [vT "object"], mro := [vR 199, vT "object"], ns := 198, qualname := S "BaseStemmer", hasDict := true, slotNames := [], subclasses := [], abstract := false, collection := none, hasDel := false }) [none, none, some (vS "BaseStemmer" 196), some (vS "BaseStemmer" 204), some (vB "object.__new__"), some (.bool true)]
noncomputable def o200 := ob (vT "getset_descriptor") (fl [vS "__dict__" 431, vR 199, vB "function.__dict__", vB "function.__dict__#set"])
noncomputable def o201 := ob (vT "getset_descriptor") (fl [vS "__weakref__" 433, vR 199, vB "ExceptionGroup.__weakref__", .none])
noncomputable def o202 := ob (vT "super") (fl [vR 199, vR 199, vR 199])
noncomputable def o203 := ob (vT "builtin_function_or_method") (fl [vB "object.__init_subclass__", vR 199])
noncomputable def t3 := Nb o63 (Nd o127) (Nd o191)
noncomputable def t4 := Nb o71 (Nd o135) (Nd o199)
noncomputable def t5 := Nb o39 t4 (Nb o103 (Nd o167) Ne)
noncomputable def t6 := Na boot_o_7 (Nb o15 (Nb o31 t3 (Nb o95 (Nd o159) Ne)) (Nb o47 (Nb o79 (Nd o143) Ne) (Nb o111 (Nd o175) Ne))) (Nb o23 t5 (Nb o55 (Nb o87 (Nd o151) Ne) (Nb o119 (Nd o183) Ne)))
noncomputable def t7 := Nb o67 (Nd o131) (Nd o195)
noncomputable def t8 := Nb o35 t7 (Nb o99 (Nd o163) Ne)
noncomputable def t9 := Nb o43 (Nb o75 (Nd o139) (Nd o203)) (Nb o107 (Nd o171) Ne)
noncomputable def t10 := Nb o11 (Nb o19 t8 (Nb o51 (Nb o83 (Nd o147) Ne) (Nb o115 (Nd o179) Ne))) (Nb o27 t9 (Nb o59 (Nb o91 (Nd o155) Ne) (Nb o123 (Nd o187) Ne)))
noncomputable def t11 := Nb o65 (Nd o129) (Nd o193)
noncomputable def t12 := Nb o33 t11 (Nb o97 (Nd o161) Ne)
noncomputable def t13 := Nb o41 (Nb o73 (Nd o137) (Nd o201)) (Nb o105 (Nd o169) Ne)
noncomputable def t14 := Nb o69 (Nd o133) (Nd o197)
noncomputable def t15 := Nb o37 t14 (Nb o101 (Nd o165) Ne)
noncomputable def t16 := Na boot_o_5 (Na boot_o_9 (Nb o17 t12 (Nb o49 (Nb o81 (Nd o145) Ne) (Nb o113 (Nd o177) Ne))) (Nb o25 t13 (Nb o57 (Nb o89 (Nd o153) Ne) (Nb o121 (Nd o185) Ne)))) (Nb o13 (Nb o21 t15 (Nb o53 (Nb o85 (Nd o149) Ne) (Nb o117 (Nd o181) Ne))) (Nb o29 (Nb o45 (Nb o77 (Nd o141) Ne) (Nb o109 (Nd o173) Ne)) (Nb o61 (Nb o93 (Nd o157) Ne) (Nb o125 (Nd o189) Ne))))
noncomputable def t17 := Nb o64 (Nd o128) (Nd o192)
noncomputable def t18 := Nb o72 (Nd o136) (Nd o200)
noncomputable def t19 := Nb o40 t18 (Nb o104 (Nd o168) Ne)
noncomputable def t20 := Nb o68 (Nd o132) (Nd o196)
noncomputable def t21 := Nb o36 t20 (Nb o100 (Nd o164) Ne)
noncomputable def t22 := Nb o66 (Nd o130) (Nd o194)
noncomputable def t23 := Nb o34 t22 (Nb o98 (Nd o162) Ne)
noncomputable def t24 := Nb o42 (Nb o74 (Nd o138) (Nd o202)) (Nb o106 (Nd o170) Ne)
noncomputable def t25 := Nb o70 (Nd o134) (Nc o198)
noncomputable def t26 := Nb o38 t25 (Nb o102 (Nd o166) Ne)
noncomputable def t27 := Na boot_o_2 (Na boot_o_4 (Na boot_o_8 (Nb o16 (Nb o32 t17 (Nb o96 (Nd o160) Ne)) (Nb o48 (Nb o80 (Nd o144) Ne) (Nb o112 (Nd o176) Ne))) (Na o24 t19 (Nb o56 (Nb o88 (Nd o152) Ne) (Nb o120 (Nd o184) Ne)))) (Nb o12v3 (Nb o20 t21 (Nb o52 (Nb o84 (Nd o148) Ne) (Nb o116 (Nd o180) Ne))) (Nb o28 (Nb o44 (Nb o76 (Nd o140) Ne) (Nb o108 (Nd o172) Ne)) (Nb o60 (Nb o92 (Nd o156) Ne) (Nb o124 (Nd o188) Ne))))) (Na boot_o_6 (Na boot_o_10 (Nb o18 t23 (Nb o50 (Nb o82 (Nd o146) Ne) (Nb o114 (Nd o178) Ne))) (Nb o26 t24 (Nb o58 (Nb o90 (Nd o154) Ne) (Nb o122 (Nd o186) Ne)))) (Nb o14 (Nb o22 t26 (Nb o54 (Nb o86 (Nd o150) Ne) (Nb o118 (Nd o182) Ne))) (Nb o30 (Nb o46 (Nb o78 (Nd o142) Ne) (Nb o110 (Nd o174) Ne)) (Nb o62 (Nb o94 (Nd o158) Ne) (Nb o126 (Nd o190) Ne)))))
noncomputable def A3 : TP := Na boot_o_0 (Na boot_o_1 (Na o3v3 t6 t10) t16) t27
noncomputable def a3 (P : Params) (os : OsState) : SharedT := st (A3 P) 204 438 os
noncomputable def h2 (t : List DictEntry) : List DictEntry := en P "__name__" 165 (vS "snowballstemmer.among" 438) :: en P "__doc__" 166 .none :: en P "__package__" 167 .none :: en P "__loader__" 168 (vB "__main__.__loader__#opaque") :: en P "__spec__" 169 .none :: en P "__annotations__" 170 (vR 6) :: en P "__builtins__" 171 (vR 4) :: en P "__file__" 173 (vS "/claim/cut.py" 172) :: en P "__cached__" 174 .none :: en P "_wall" 193 (vR 21) :: en P "BaseStemmer" 437 (vR 199) :: t
noncomputable def o3v4 := ob (vT "dict") (dc (h2 P []) 11)
noncomputable def A4 : TP := Na boot_o_0 (Na boot_o_1 (Na o3v4 t6 t10) t16) t27
noncomputable def a4 (P : Params) (os : OsState) : SharedT := st (A4 P) 204 440 os
noncomputable def o3v5 := ob (vT "dict") (dc (h2 P [en P "Among" 472 (vR 220)]) 12)
noncomputable def h11 (t : List Value) : List Value := h10 (vI 208 0 :: vI 0 0 :: vR 209 :: t)
noncomputable def o12v5 := ob .none (fl (h11 []))
noncomputable def o204 := ob (vT "tuple") (sq [] 0)
noncomputable def o205 := ob (vT "builtin_function_or_method") (fl [vB "type.__prepare__", vT "type"])
noncomputable def o206 := ob (vT "dict") (dc [en P "__module__" 447 (vS "snowballstemmer.among" 438), en P "__qualname__" 449 (vS "Among" 448), en P "__firstlineno__" 451 (vI 208 450), en P "__init__" 461 (vR 217), en P "__static_attributes__" 465 (vR 218)] 5)
noncomputable def o207 := ob (vT "tuple") (sq [] 0)
noncomputable def o208 := ob .none (fl [vI 210 0, vI 4 0, vR 216])
noncomputable def o209 := cd "Among" 442 "Among" 443 444 208 0 0 207 (.bool false) 208 .none .none .none .none 445 446
noncomputable def o210 := obS (vT "frame") none .plain [some (vR 209), some (vR 3), some (vR 206), none, some (vS "snowballstemmer.among" 438), none, some (vR 0)]
noncomputable def o211 := ob (vT "tuple") (sq [] 0)
noncomputable def o212 := ob .none (fl [])
noncomputable def o213 := ob (vT "tuple") (sq [vS "self" 455, vS "s" 456, vS "substring_i" 457, vS "result" 458] 0)
noncomputable def o214 := ob (vT "tuple") (sq [] 0)
noncomputable def o215 := ob .none (fA (cst 4 0) "Among.__init__")
noncomputable def o216 := cd "__init__" 452 "Among.__init__" 453 454 210 4 3 211 (.bool true) 212 .none (vR 213) (vR 214) (vR 215) 459 460
noncomputable def o217 := ob (vT "function") (fB (cst 4 0) "Among.__init__" (vS "snowballstemmer.among" 438) (vR 216))
noncomputable def o218 := ob (vT "tuple") (sq [vS "result" 462, vS "s" 463, vS "substring_i" 464] 0)
noncomputable def o219 := ob (vT "dict") (dc [en P "__module__" 447 (vS "snowballstemmer.among" 438), en P "__firstlineno__" 451 (vI 208 450), en P "__init__" 461 (vR 217), en P "__static_attributes__" 465 (vR 218), en P "__dict__" 467 (vR 221), en P "__weakref__" 469 (vR 222), en P "__doc__" 470 .none] 4)
noncomputable def o220 := obS (vT "type") none (.cls { name := S "Among", bases := [vT "object"], mro := [vR 220, vT "object"], ns := 219, qualname := S "Among", hasDict := true, slotNames := [], subclasses := [], abstract := false, collection := none, hasDel := false }) [none, none, some (vS "Among" 440), some (vS "Among" 448), some (vB "object.__new__"), some (.bool true)]
noncomputable def o221 := ob (vT "getset_descriptor") (fl [vS "__dict__" 466, vR 220, vB "function.__dict__", vB "function.__dict__#set"])
noncomputable def o222 := ob (vT "getset_descriptor") (fl [vS "__weakref__" 468, vR 220, vB "ExceptionGroup.__weakref__", .none])
noncomputable def o223 := ob (vT "super") (fl [vR 220, vR 220, vR 220])
noncomputable def o224 := ob (vT "builtin_function_or_method") (fl [vB "object.__init_subclass__", vR 220])
noncomputable def t28 := Nb o15 (Nb o31 t3 (Nb o95 (Nd o159) (Nd o223))) (Nb o47 (Nb o79 (Nd o143) (Nd o207)) (Nb o111 (Nd o175) Ne))
noncomputable def t29 := Nb o55 (Nb o87 (Nd o151) (Nd o215)) (Nb o119 (Nd o183) Ne)
noncomputable def t30 := Na boot_o_7 t28 (Nb o23 t5 t29)
noncomputable def t31 := Nb o51 (Nb o83 (Nd o147) (Nd o211)) (Nb o115 (Nd o179) Ne)
noncomputable def t32 := Nb o27 t9 (Nb o59 (Nb o91 (Nd o155) (Nc o219)) (Nb o123 (Nd o187) Ne))
noncomputable def t33 := Nb o11 (Nb o19 t8 t31) t32
noncomputable def t34 := Nb o49 (Nb o81 (Nd o145) (Nd o209)) (Nb o113 (Nd o177) Ne)
noncomputable def t35 := Nb o25 t13 (Nb o57 (Nb o89 (Nd o153) (Nd o217)) (Nb o121 (Nd o185) Ne))
noncomputable def t36 := Nb o53 (Nb o85 (Nd o149) (Nd o213)) (Nb o117 (Nd o181) Ne)
noncomputable def t37 := Nb o29 (Nb o45 (Nb o77 (Nd o141) (Nd o205)) (Nb o109 (Nd o173) Ne)) (Nb o61 (Nb o93 (Nd o157) (Nd o221)) (Nb o125 (Nd o189) Ne))
noncomputable def t38 := Na boot_o_5 (Na boot_o_9 (Nb o17 t12 t34) t35) (Nb o13 (Nb o21 t15 t36) t37)
noncomputable def t39 := Nb o16 (Nb o32 t17 (Nb o96 (Nd o160) (Nd o224))) (Nb o48 (Nb o80 (Nd o144) (Nd o208)) (Nb o112 (Nd o176) Ne))
noncomputable def t40 := Nb o56 (Nb o88 (Nd o152) (Nd o216)) (Nb o120 (Nd o184) Ne)
noncomputable def t41 := Na boot_o_8 t39 (Na o24 t19 t40)
noncomputable def t42 := Nb o52 (Nb o84 (Nd o148) (Nd o212)) (Nb o116 (Nd o180) Ne)
noncomputable def t43 := Nb o28 (Nb o44 (Nb o76 (Nd o140) (Nd o204)) (Nb o108 (Nd o172) Ne)) (Nb o60 (Nb o92 (Nd o156) (Nd o220)) (Nb o124 (Nd o188) Ne))
noncomputable def t44 := Nb o50 (Nb o82 (Nd o146) (Nd o210)) (Nb o114 (Nd o178) Ne)
noncomputable def t45 := Nb o26 t24 (Nb o58 (Nb o90 (Nd o154) (Nd o218)) (Nb o122 (Nd o186) Ne))
noncomputable def t46 := Nb o54 (Nb o86 (Nd o150) (Nd o214)) (Nb o118 (Nd o182) Ne)
noncomputable def t47 := Nb o30 (Nb o46 (Nb o78 (Nd o142) (Nc o206)) (Nb o110 (Nd o174) Ne)) (Nb o62 (Nb o94 (Nd o158) (Nd o222)) (Nb o126 (Nd o190) Ne))
noncomputable def t48 := Na boot_o_2 (Na boot_o_4 t41 (Nb o12v5 (Nb o20 t21 t42) t43)) (Na boot_o_6 (Na boot_o_10 (Nb o18 t23 t44) t45) (Nb o14 (Nb o22 t26 t46) t47))
noncomputable def A5 : TP := Na boot_o_0 (Na boot_o_1 (Na o3v5 t30 t33) t38) t48
noncomputable def a5 (P : Params) (os : OsState) : SharedT := st (A5 P) 225 473 os
noncomputable def h3 (t : List DictEntry) : List DictEntry := en P "__name__" 165 (vS "snowballstemmer.romanian_stemmer" 473) :: en P "__doc__" 166 .none :: en P "__package__" 167 .none :: en P "__loader__" 168 (vB "__main__.__loader__#opaque") :: en P "__spec__" 169 .none :: en P "__annotations__" 170 (vR 6) :: en P "__builtins__" 171 (vR 4) :: en P "__file__" 173 (vS "/claim/cut.py" 172) :: en P "__cached__" 174 .none :: en P "_wall" 193 (vR 21) :: en P "BaseStemmer" 437 (vR 199) :: en P "Among" 472 (vR 220) :: t
noncomputable def o3v6 := ob (vT "dict") (dc (h3 P []) 12)
noncomputable def A6 : TP := Na boot_o_0 (Na boot_o_1 (Na o3v6 t30 t33) t38) t48
noncomputable def a6 (P : Params) (os : OsState) : SharedT := st (A6 P) 225 475 os
noncomputable def h12 (t : List Value) : List Value := h11 (vI 215 0 :: vI 0 0 :: vR 230 :: t)
noncomputable def o12v7 := ob .none (fl (h12 []))
noncomputable def o225 := ob (vT "tuple") (sq [vR 199] 0)
noncomputable def o226 := ob (vT "builtin_function_or_method") (fl [vB "type.__prepare__", vT "type"])
noncomputable def o227 := ob (vT "dict") (dc [en P "__module__" 482 (vS "snowballstemmer.romanian_stemmer" 473), en P "__qualname__" 484 (vS "RomanianStemmer" 483), en P "__firstlineno__" 486 (vI 215 485)] 3)
noncomputable def o228 := ob (vT "tuple") (sq [] 0)
noncomputable def o229 := ob .none (fl [])
noncomputable def o230 := cd "RomanianStemmer" 477 "RomanianStemmer" 478 479 215 0 0 228 (.bool false) 229 .none .none .none .none 480 481
noncomputable def o231 := obS (vT "frame") none .plain [some (vR 230), some (vR 3), some (vR 227), none, some (vS "snowballstemmer.romanian_stemmer" 473), none, some (vR 0)]
noncomputable def t49 := Na boot_o_7 t28 (Nb o23 (Nb o39 t4 (Nb o103 (Nd o167) (Nd o231))) t29)
noncomputable def t50 := Na boot_o_5 (Na boot_o_9 (Nb o17 (Nb o33 t11 (Nb o97 (Nd o161) (Nd o225))) t34) t35) (Nb o13 (Nb o21 (Nb o37 t14 (Nb o101 (Nd o165) (Nd o229))) t36) t37)
noncomputable def t51 := Nb o12v7 (Nb o20 (Nb o36 t20 (Nb o100 (Nd o164) (Nd o228))) t42) t43
noncomputable def t52 := Na boot_o_6 (Na boot_o_10 (Nb o18 (Nb o34 t22 (Nb o98 (Nd o162) (Nd o226))) t44) t45) (Nb o14 (Nb o22 (Nb o38 t25 (Nb o102 (Nd o166) (Nd o230))) t46) t47)
noncomputable def C0 : TP := Na boot_o_0 (Na boot_o_1 (Na o3v6 t49 (Nb o11 (Nb o19 (Nb o35 t7 (Nb o99 (Nd o163) (Nc o227))) t31) t32)) t50) (Na boot_o_2 (Na boot_o_4 t41 t51) t52)
noncomputable def c0 (P : Params) (os : OsState) : SharedT := st (C0 P) 232 487 os
noncomputable def h21 (t : List DictEntry) : List DictEntry := en P "__module__" 482 (vS "snowballstemmer.romanian_stemmer" 473) :: en P "__qualname__" 484 (vS "RomanianStemmer" 483) :: en P "__firstlineno__" 486 (vI 215 485) :: en P "g_v" 503 (vR 232) :: t
noncomputable def o227v8 := ob (vT "dict") (dc (h21 P []) 4)
noncomputable def o232 := ob (vT "set") (.set (xE P) (xN P) (xT P))
noncomputable def t53 := Na boot_o_2 (Na boot_o_4 (Na boot_o_8 t39 (Na o24 (Nb o40 t18 (Nb o104 (Nd o168) (Nc o232))) t40)) t51) t52
noncomputable def C1 : TP := Na boot_o_0 (Na boot_o_1 (Na o3v6 t49 (Nb o11 (Nb o19 (Nb o35 t7 (Nb o99 (Nd o163) (Nc o227v8))) t31) t32)) t50) t53
noncomputable def c1 (P : Params) (os : OsState) : SharedT := st (C1 P) 233 504 os
noncomputable def o227v9 := ob (vT "dict") (dc (h21 P [en P "B_standard_suffix_removed" 504 (.bool false)]) 5)
noncomputable def C2 := up (C1 P) [] [(227, o227v9 P)]
noncomputable def c2 (P : Params) (os : OsState) : SharedT := st (C2 P) 233 505 os
noncomputable def o227v10 := ob (vT "dict") (dc (h21 P [en P "B_standard_suffix_removed" 504 (.bool false), en P "I_p2" 506 (vI 0 505)]) 6)
noncomputable def C3 := up (C2 P) [] [(227, o227v10 P)]
noncomputable def c3 (P : Params) (os : OsState) : SharedT := st (C3 P) 233 507 os
noncomputable def h22 (t : List DictEntry) : List DictEntry := h21 P (en P "B_standard_suffix_removed" 504 (.bool false) :: en P "I_p2" 506 (vI 0 505) :: en P "I_p1" 508 (vI 0 507) :: t)
noncomputable def o227v11 := ob (vT "dict") (dc (h22 P []) 7)
noncomputable def C4 := up (C3 P) [] [(227, o227v11 P)]
noncomputable def c4 (P : Params) (os : OsState) : SharedT := st (C4 P) 233 509 os
noncomputable def o227v12 := ob (vT "dict") (dc (h22 P [en P "I_pV" 510 (vI 0 509)]) 8)
noncomputable def C5 : TP := Na boot_o_0 (Na boot_o_1 (Na o3v6 t49 (Nb o11 (Nb o19 (Nb o35 t7 (Nb o99 (Nd o163) (Nc o227v12))) t31) t32)) t50) t53
noncomputable def c5 (P : Params) (os : OsState) : SharedT := st (C5 P) 233 511 os
noncomputable def o227v13 := ob (vT "dict") (dc (h22 P [en P "I_pV" 510 (vI 0 509), en P "r_norm" 521 (vR 239)]) 9)
noncomputable def h30 (t : List Value) : List Value := vI 222 0 :: vI 4 0 :: vR 238 :: t
noncomputable def o229v13 := ob .none (fl (h30 []))
noncomputable def o233 := ob (vT "tuple") (sq [] 0)
noncomputable def o234 := ob .none (fl [])
noncomputable def o235 := ob (vT "tuple") (sq [vS "self" 514, vS "v_1" 515, vS "v_2" 516, vS "v_3" 517, vS "among_var" 518] 0)
noncomputable def o236 := ob (vT "tuple") (sq [] 0)
noncomputable def o237 := ob .none (fA (cst 6 5) "RomanianStemmer.r_norm")
noncomputable def o238 := cd "r_norm" 511 "RomanianStemmer.r_norm" 512 513 222 1 3 233 (.bool true) 234 .none (vR 235) (vR 236) (vR 237) 519 520
noncomputable def o239 := ob (vT "function") (fB (cst 6 5) "RomanianStemmer.r_norm" (vS "snowballstemmer.romanian_stemmer" 473) (vR 238))
noncomputable def C6 := up (C5 P) [(233, o233), (234, o234), (235, o235), (236, o236), (237, o237), (238, o238), (239, o239)] [(227, o227v13 P), (229, o229v13)]
noncomputable def c6 (P : Params) (os : OsState) : SharedT := st (C6 P) 240 522 os
noncomputable def h23 (t : List DictEntry) : List DictEntry := h22 P (en P "I_pV" 510 (vI 0 509) :: en P "r_norm" 521 (vR 239) :: en P "r_prelude" 531 (vR 246) :: t)
noncomputable def o227v14 := ob (vT "dict") (dc (h23 P []) 10)
noncomputable def h31 (t : List Value) : List Value := h30 (vI 255 0 :: vI 4 0 :: vR 245 :: t)
noncomputable def o229v14 := ob .none (fl (h31 []))
noncomputable def o240 := ob (vT "tuple") (sq [] 0)
noncomputable def o241 := ob .none (fl [])
noncomputable def o242 := ob (vT "tuple") (sq [vS "self" 525, vS "v_1" 526, vS "v_2" 527, vS "v_3" 528] 0)
noncomputable def o243 := ob (vT "tuple") (sq [] 0)
noncomputable def o244 := ob .none (fA (cst 6 6) "RomanianStemmer.r_prelude")
noncomputable def o245 := cd "r_prelude" 522 "RomanianStemmer.r_prelude" 523 524 255 1 3 240 (.bool true) 241 .none (vR 242) (vR 243) (vR 244) 529 530
noncomputable def o246 := ob (vT "function") (fB (cst 6 6) "RomanianStemmer.r_prelude" (vS "snowballstemmer.romanian_stemmer" 473) (vR 245))
noncomputable def C7 := up (C6 P) [(240, o240), (241, o241), (242, o242), (243, o243), (244, o244), (245, o245), (246, o246)] [(227, o227v14 P), (229, o229v14)]
noncomputable def c7 (P : Params) (os : OsState) : SharedT := st (C7 P) 247 532 os
noncomputable def o227v15 := ob (vT "dict") (dc (h23 P [en P "r_mark_regions" 543 (vR 253)]) 11)
noncomputable def h32 (t : List Value) : List Value := h31 (vI 302 0 :: vI 4 0 :: vR 252 :: t)
noncomputable def o229v15 := ob .none (fl (h32 []))
noncomputable def o247 := ob (vT "tuple") (sq [] 0)
noncomputable def o248 := ob .none (fl [])
noncomputable def o249 := ob (vT "tuple") (sq [vS "self" 535, vS "v_1" 536, vS "v_2" 537, vS "v_3" 538, vS "v_4" 539, vS "v_5" 540] 0)
noncomputable def o250 := ob (vT "tuple") (sq [] 0)
noncomputable def o251 := ob .none (fA (cst 6 7) "RomanianStemmer.r_mark_regions")
noncomputable def o252 := cd "r_mark_regions" 532 "RomanianStemmer.r_mark_regions" 533 534 302 1 3 247 (.bool true) 248 .none (vR 249) (vR 250) (vR 251) 541 542
noncomputable def o253 := ob (vT "function") (fB (cst 6 7) "RomanianStemmer.r_mark_regions" (vS "snowballstemmer.romanian_stemmer" 473) (vR 252))
noncomputable def C8 := up (C7 P) [(247, o247), (248, o248), (249, o249), (250, o250), (251, o251), (252, o252), (253, o253)] [(227, o227v15 P), (229, o229v15)]
noncomputable def c8 (P : Params) (os : OsState) : SharedT := st (C8 P) 254 544 os
noncomputable def o227v16 := ob (vT "dict") (dc (h23 P [en P "r_mark_regions" 543 (vR 253), en P "r_postlude" 552 (vR 260)]) 12)
noncomputable def h33 (t : List Value) : List Value := h32 (vI 381 0 :: vI 4 0 :: vR 259 :: t)
noncomputable def o229v16 := ob .none (fl (h33 []))
noncomputable def o254 := ob (vT "tuple") (sq [] 0)
noncomputable def o255 := ob .none (fl [])
noncomputable def o256 := ob (vT "tuple") (sq [vS "self" 547, vS "v_1" 548, vS "among_var" 549] 0)
noncomputable def o257 := ob (vT "tuple") (sq [] 0)
noncomputable def o258 := ob .none (fA (cst 6 8) "RomanianStemmer.r_postlude")
noncomputable def o259 := cd "r_postlude" 544 "RomanianStemmer.r_postlude" 545 546 381 1 3 254 (.bool true) 255 .none (vR 256) (vR 257) (vR 258) 550 551
noncomputable def o260 := ob (vT "function") (fB (cst 6 8) "RomanianStemmer.r_postlude" (vS "snowballstemmer.romanian_stemmer" 473) (vR 259))
noncomputable def C9 := up (C8 P) [(254, o254), (255, o255), (256, o256), (257, o257), (258, o258), (259, o259), (260, o260)] [(227, o227v16 P), (229, o229v16)]
noncomputable def c9 (P : Params) (os : OsState) : SharedT := st (C9 P) 261 553 os
noncomputable def h24 (t : List DictEntry) : List DictEntry := h23 P (en P "r_mark_regions" 543 (vR 253) :: en P "r_postlude" 552 (vR 260) :: en P "r_R1" 559 (vR 267) :: t)
noncomputable def o227v17 := ob (vT "dict") (dc (h24 P []) 13)
noncomputable def h34 (t : List Value) : List Value := h33 (vI 403 0 :: vI 4 0 :: vR 266 :: t)
noncomputable def o229v17 := ob .none (fl (h34 []))
noncomputable def o261 := ob (vT "tuple") (sq [] 0)
noncomputable def o262 := ob .none (fl [])
noncomputable def o263 := ob (vT "tuple") (sq [vS "self" 556] 0)
noncomputable def o264 := ob (vT "tuple") (sq [] 0)
noncomputable def o265 := ob .none (fA (cst 6 9) "RomanianStemmer.r_R1")
noncomputable def o266 := cd "r_R1" 553 "RomanianStemmer.r_R1" 554 555 403 1 3 261 (.bool true) 262 .none (vR 263) (vR 264) (vR 265) 557 558
noncomputable def o267 := ob (vT "function") (fB (cst 6 9) "RomanianStemmer.r_R1" (vS "snowballstemmer.romanian_stemmer" 473) (vR 266))
noncomputable def C10 := up (C9 P) [(261, o261), (262, o262), (263, o263), (264, o264), (265, o265), (266, o266), (267, o267)] [(227, o227v17 P), (229, o229v17)]
noncomputable def c10 (P : Params) (os : OsState) : SharedT := st (C10 P) 268 560 os
noncomputable def o227v18 := ob (vT "dict") (dc (h24 P [en P "r_step_0" 567 (vR 274)]) 14)
noncomputable def h35 (t : List Value) : List Value := h34 (vI 406 0 :: vI 4 0 :: vR 273 :: t)
noncomputable def o229v18 := ob .none (fl (h35 []))
noncomputable def o268 := ob (vT "tuple") (sq [] 0)
noncomputable def o269 := ob .none (fl [])
noncomputable def o270 := ob (vT "tuple") (sq [vS "self" 563, vS "among_var" 564] 0)
noncomputable def o271 := ob (vT "tuple") (sq [] 0)
noncomputable def o272 := ob .none (fA (cst 6 10) "RomanianStemmer.r_step_0")
noncomputable def o273 := cd "r_step_0" 560 "RomanianStemmer.r_step_0" 561 562 406 1 3 268 (.bool true) 269 .none (vR 270) (vR 271) (vR 272) 565 566
noncomputable def o274 := ob (vT "function") (fB (cst 6 10) "RomanianStemmer.r_step_0" (vS "snowballstemmer.romanian_stemmer" 473) (vR 273))
noncomputable def C11 := up (C10 P) [(268, o268), (269, o269), (270, o270), (271, o271), (272, o272), (273, o273), (274, o274)] [(227, o227v18 P), (229, o229v18)]
noncomputable def c11 (P : Params) (os : OsState) : SharedT := st (C11 P) 275 568 os
noncomputable def o227v19 := ob (vT "dict") (dc (h24 P [en P "r_step_0" 567 (vR 274), en P "r_combo_suffix" 576 (vR 281)]) 15)
noncomputable def h36 (t : List Value) : List Value := h35 (vI 436 0 :: vI 4 0 :: vR 280 :: t)
noncomputable def o229v19 := ob .none (fl (h36 []))
noncomputable def o275 := ob (vT "tuple") (sq [] 0)
noncomputable def o276 := ob .none (fl [])
noncomputable def o277 := ob (vT "tuple") (sq [vS "self" 571, vS "v_1" 572, vS "among_var" 573] 0)
noncomputable def o278 := ob (vT "tuple") (sq [] 0)
noncomputable def o279 := ob .none (fA (cst 6 11) "RomanianStemmer.r_combo_suffix")
noncomputable def o280 := cd "r_combo_suffix" 568 "RomanianStemmer.r_combo_suffix" 569 570 436 1 3 275 (.bool true) 276 .none (vR 277) (vR 278) (vR 279) 574 575
noncomputable def o281 := ob (vT "function") (fB (cst 6 11) "RomanianStemmer.r_combo_suffix" (vS "snowballstemmer.romanian_stemmer" 473) (vR 280))
noncomputable def C12 := up (C11 P) [(275, o275), (276, o276), (277, o277), (278, o278), (279, o279), (280, o280), (281, o281)] [(227, o227v19 P), (229, o229v19)]
noncomputable def c12 (P : Params) (os : OsState) : SharedT := st (C12 P) 282 577 os
noncomputable def h25 (t : List DictEntry) : List DictEntry := h24 P (en P "r_step_0" 567 (vR 274) :: en P "r_combo_suffix" 576 (vR 281) :: en P "r_standard_suffix" 585 (vR 288) :: t)
noncomputable def o227v20 := ob (vT "dict") (dc (h25 P []) 16)
noncomputable def h37 (t : List Value) : List Value := h36 (vI 450 0 :: vI 4 0 :: vR 287 :: t)
noncomputable def o229v20 := ob .none (fl (h37 []))
noncomputable def o282 := ob (vT "tuple") (sq [] 0)
noncomputable def o283 := ob .none (fl [])
noncomputable def o284 := ob (vT "tuple") (sq [vS "self" 580, vS "v_1" 581, vS "among_var" 582] 0)
noncomputable def o285 := ob (vT "tuple") (sq [] 0)
noncomputable def o286 := ob .none (fA (cst 6 12) "RomanianStemmer.r_standard_suffix")
noncomputable def o287 := cd "r_standard_suffix" 577 "RomanianStemmer.r_standard_suffix" 578 579 450 1 3 282 (.bool true) 283 .none (vR 284) (vR 285) (vR 286) 583 584
noncomputable def o288 := ob (vT "function") (fB (cst 6 12) "RomanianStemmer.r_standard_suffix" (vS "snowballstemmer.romanian_stemmer" 473) (vR 287))
noncomputable def C13 := up (C12 P) [(282, o282), (283, o283), (284, o284), (285, o285), (286, o286), (287, o287), (288, o288)] [(227, o227v20 P), (229, o229v20)]
noncomputable def c13 (P : Params) (os : OsState) : SharedT := st (C13 P) 289 586 os
noncomputable def o227v21 := ob (vT "dict") (dc (h25 P [en P "r_verb_suffix" 594 (vR 295)]) 17)
noncomputable def h38 (t : List Value) : List Value := h37 (vI 482 0 :: vI 4 0 :: vR 294 :: t)
noncomputable def o229v21 := ob .none (fl (h38 []))
noncomputable def o289 := ob (vT "tuple") (sq [] 0)
noncomputable def o290 := ob .none (fl [])
noncomputable def o291 := ob (vT "tuple") (sq [vS "self" 589, vS "v_2" 590, vS "among_var" 591] 0)
noncomputable def o292 := ob (vT "tuple") (sq [] 0)
noncomputable def o293 := ob .none (fA (cst 6 13) "RomanianStemmer.r_verb_suffix")
noncomputable def o294 := cd "r_verb_suffix" 586 "RomanianStemmer.r_verb_suffix" 587 588 482 1 3 289 (.bool true) 290 .none (vR 291) (vR 292) (vR 293) 592 593
noncomputable def o295 := ob (vT "function") (fB (cst 6 13) "RomanianStemmer.r_verb_suffix" (vS "snowballstemmer.romanian_stemmer" 473) (vR 294))
noncomputable def C14 := up (C13 P) [(289, o289), (290, o290), (291, o291), (292, o292), (293, o293), (294, o294), (295, o295)] [(227, o227v21 P), (229, o229v21)]
noncomputable def c14 (P : Params) (os : OsState) : SharedT := st (C14 P) 296 595 os
noncomputable def o227v22 := ob (vT "dict") (dc (h25 P [en P "r_verb_suffix" 594 (vR 295), en P "r_vowel_suffix" 601 (vR 302)]) 18)
noncomputable def h39 (t : List Value) : List Value := h38 (vI 512 0 :: vI 4 0 :: vR 301 :: t)
noncomputable def o229v22 := ob .none (fl (h39 []))
noncomputable def o296 := ob (vT "tuple") (sq [] 0)
noncomputable def o297 := ob .none (fl [])
noncomputable def o298 := ob (vT "tuple") (sq [vS "self" 598] 0)
noncomputable def o299 := ob (vT "tuple") (sq [] 0)
noncomputable def o300 := ob .none (fA (cst 6 14) "RomanianStemmer.r_vowel_suffix")
noncomputable def o301 := cd "r_vowel_suffix" 595 "RomanianStemmer.r_vowel_suffix" 596 597 512 1 3 296 (.bool true) 297 .none (vR 298) (vR 299) (vR 300) 599 600
noncomputable def o302 := ob (vT "function") (fB (cst 6 14) "RomanianStemmer.r_vowel_suffix" (vS "snowballstemmer.romanian_stemmer" 473) (vR 301))
noncomputable def C15 := up (C14 P) [(296, o296), (297, o297), (298, o298), (299, o299), (300, o300), (301, o301), (302, o302)] [(227, o227v22 P), (229, o229v22)]
noncomputable def c15 (P : Params) (os : OsState) : SharedT := st (C15 P) 303 602 os
noncomputable def h26 (t : List DictEntry) : List DictEntry := h25 P (en P "r_verb_suffix" 594 (vR 295) :: en P "r_vowel_suffix" 601 (vR 302) :: en P "_stem" 614 (vR 309) :: t)
noncomputable def o227v23 := ob (vT "dict") (dc (h26 P []) 19)
noncomputable def o229v23 := ob .none (fl (h39 [vI 522 0, vI 4 0, vR 308]))
noncomputable def o303 := ob (vT "tuple") (sq [] 0)
noncomputable def o304 := ob .none (fl [])
noncomputable def o305 := ob (vT "tuple") (sq [vS "self" 605, vS "v_1" 606, vS "v_2" 607, vS "v_3" 608, vS "v_4" 609, vS "v_5" 610, vS "v_6" 611] 0)
noncomputable def o306 := ob (vT "tuple") (sq [] 0)
noncomputable def o307 := ob .none (fA (cst 6 15) "RomanianStemmer._stem")
noncomputable def o308 := cd "_stem" 602 "RomanianStemmer._stem" 603 604 522 1 3 303 (.bool true) 304 .none (vR 305) (vR 306) (vR 307) 612 613
noncomputable def o309 := ob (vT "function") (fB (cst 6 15) "RomanianStemmer._stem" (vS "snowballstemmer.romanian_stemmer" 473) (vR 308))
noncomputable def C16 : TP := Na boot_o_0 (Na boot_o_1 (Na o3v6 (Na boot_o_7 (Nb o15 (Nb o31 (Nb o63 (Nb o127 (Nd o255) Ne) (Nd o191)) (Nb o95 (Nb o159 (Nd o287) Ne) (Nd o223))) (Nb o47 (Nb o79 (Nb o143 (Nd o271) Ne) (Nd o207)) (Nb o111 (Nb o175 (Nd o303) Ne) (Nd o239)))) (Nb o23 (Nb o39 (Nb o71 (Nb o135 (Nd o263) Ne) (Nd o199)) (Nb o103 (Nb o167 (Nd o295) Ne) (Nd o231))) (Nb o55 (Nb o87 (Nb o151 (Nd o279) Ne) (Nd o215)) (Nb o119 (Nd o183) (Nd o247))))) (Nb o11 (Nb o19 (Nb o35 (Nb o67 (Nb o131 (Nd o259) Ne) (Nd o195)) (Nb o99 (Nb o163 (Nd o291) Ne) (Nc o227v23))) (Nb o51 (Nb o83 (Nb o147 (Nd o275) Ne) (Nd o211)) (Nb o115 (Nb o179 (Nd o307) Ne) (Nd o243)))) (Nb o27 (Nb o43 (Nb o75 (Nb o139 (Nd o267) Ne) (Nd o203)) (Nb o107 (Nb o171 (Nd o299) Ne) (Nd o235))) (Nb o59 (Nb o91 (Nb o155 (Nd o283) Ne) (Nc o219)) (Nb o123 (Nd o187) (Nd o251)))))) (Na boot_o_5 (Na boot_o_9 (Nb o17 (Nb o33 (Nb o65 (Nb o129 (Nd o257) Ne) (Nd o193)) (Nb o97 (Nb o161 (Nd o289) Ne) (Nd o225))) (Nb o49 (Nb o81 (Nb o145 (Nd o273) Ne) (Nd o209)) (Nb o113 (Nb o177 (Nd o305) Ne) (Nd o241)))) (Nb o25 (Nb o41 (Nb o73 (Nb o137 (Nd o265) Ne) (Nd o201)) (Nb o105 (Nb o169 (Nd o297) Ne) (Nd o233))) (Nb o57 (Nb o89 (Nb o153 (Nd o281) Ne) (Nd o217)) (Nb o121 (Nd o185) (Nd o249))))) (Nb o13 (Nb o21 (Nb o37 (Nb o69 (Nb o133 (Nd o261) Ne) (Nd o197)) (Nb o101 (Nb o165 (Nd o293) Ne) (Nd o229v23))) (Nb o53 (Nb o85 (Nb o149 (Nd o277) Ne) (Nd o213)) (Nb o117 (Nb o181 (Nd o309) Ne) (Nd o245)))) (Nb o29 (Nb o45 (Nb o77 (Nb o141 (Nd o269) Ne) (Nd o205)) (Nb o109 (Nb o173 (Nd o301) Ne) (Nd o237))) (Nb o61 (Nb o93 (Nb o157 (Nd o285) Ne) (Nd o221)) (Nb o125 (Nd o189) (Nd o253))))))) (Na boot_o_2 (Na boot_o_4 (Na boot_o_8 (Nb o16 (Nb o32 (Nb o64 (Nb o128 (Nd o256) Ne) (Nd o192)) (Nb o96 (Nb o160 (Nd o288) Ne) (Nd o224))) (Nb o48 (Nb o80 (Nb o144 (Nd o272) Ne) (Nd o208)) (Nb o112 (Nb o176 (Nd o304) Ne) (Nd o240)))) (Na o24 (Nb o40 (Nb o72 (Nb o136 (Nd o264) Ne) (Nd o200)) (Nb o104 (Nb o168 (Nd o296) Ne) (Nc o232))) (Nb o56 (Nb o88 (Nb o152 (Nd o280) Ne) (Nd o216)) (Nb o120 (Nd o184) (Nd o248))))) (Nb o12v7 (Nb o20 (Nb o36 (Nb o68 (Nb o132 (Nd o260) Ne) (Nd o196)) (Nb o100 (Nb o164 (Nd o292) Ne) (Nd o228))) (Nb o52 (Nb o84 (Nb o148 (Nd o276) Ne) (Nd o212)) (Nb o116 (Nb o180 (Nd o308) Ne) (Nd o244)))) (Nb o28 (Nb o44 (Nb o76 (Nb o140 (Nd o268) Ne) (Nd o204)) (Nb o108 (Nb o172 (Nd o300) Ne) (Nd o236))) (Nb o60 (Nb o92 (Nb o156 (Nd o284) Ne) (Nd o220)) (Nb o124 (Nd o188) (Nd o252)))))) (Na boot_o_6 (Na boot_o_10 (Nb o18 (Nb o34 (Nb o66 (Nb o130 (Nd o258) Ne) (Nd o194)) (Nb o98 (Nb o162 (Nd o290) Ne) (Nd o226))) (Nb o50 (Nb o82 (Nb o146 (Nd o274) Ne) (Nd o210)) (Nb o114 (Nb o178 (Nd o306) Ne) (Nd o242)))) (Nb o26 (Nb o42 (Nb o74 (Nb o138 (Nd o266) Ne) (Nd o202)) (Nb o106 (Nb o170 (Nd o298) Ne) (Nd o234))) (Nb o58 (Nb o90 (Nb o154 (Nd o282) Ne) (Nd o218)) (Nb o122 (Nd o186) (Nd o250))))) (Nb o14 (Nb o22 (Nb o38 (Nb o70 (Nb o134 (Nd o262) Ne) (Nc o198)) (Nb o102 (Nb o166 (Nd o294) Ne) (Nd o230))) (Nb o54 (Nb o86 (Nb o150 (Nd o278) Ne) (Nd o214)) (Nb o118 (Nd o182) (Nd o246)))) (Nb o30 (Nb o46 (Nb o78 (Nb o142 (Nd o270) Ne) (Nc o206)) (Nb o110 (Nb o174 (Nd o302) Ne) (Nd o238))) (Nb o62 (Nb o94 (Nb o158 (Nd o286) Ne) (Nd o222)) (Nb o126 (Nd o190) (Nd o254)))))))
noncomputable def c16 (P : Params) (os : OsState) : SharedT := st (C16 P) 310 615 os
noncomputable def o227v24 := ob (vT "dict") (dc (h26 P [en P "a_0" 643 (vR 316)]) 20)
noncomputable def m310 : Am := ⟨310, 615, 619, "ş", -1, 1⟩
noncomputable def m313 : Am := ⟨313, 629, 633, "ţ", -1, 2⟩
noncomputable def o316 := ob (vT "list") (sq [vR 311, vR 314] 0)
noncomputable def C17 := up (C16 P) [(310, amA P m310), (311, amB 310), (312, amC P m310), (313, amA P m313), (314, amB 313), (315, amC P m313), (316, o316)] [(227, o227v24 P)]
noncomputable def c17 (P : Params) (os : OsState) : SharedT := st (C17 P) 317 644 os
noncomputable def sp16 := [m310, m313]
noncomputable def E16 (k : Nat) (P : Params) : BT := amT P (C16 P) (sp16.take k)
noncomputable def o227v25 := ob (vT "dict") (dc (h26 P [en P "a_0" 643 (vR 316), en P "as_0" 646 (vR 317)]) 21)
noncomputable def o317 := ob (vT "tuple") (sq [vS "ș" 644, vS "ț" 645] 0)
noncomputable def C18 := up (C17 P) [(317, o317)] [(227, o227v25 P)]
noncomputable def c18 (P : Params) (os : OsState) : SharedT := st (C18 P) 318 647 os
noncomputable def h27 (t : List DictEntry) : List DictEntry := h26 P (en P "a_0" 643 (vR 316) :: en P "as_0" 646 (vR 317) :: en P "a_1" 687 (vR 327) :: t)
noncomputable def o227v26 := ob (vT "dict") (dc (h27 P []) 22)
noncomputable def m318 : Am := ⟨318, 647, 651, "", -1, 3⟩
noncomputable def m321 : Am := ⟨321, 661, 664, "I", 0, 1⟩
noncomputable def m324 : Am := ⟨324, 674, 677, "U", 0, 2⟩
noncomputable def o327 := ob (vT "list") (sq [vR 319, vR 322, vR 325] 0)
noncomputable def C19 := up (C18 P) [(318, amA P m318), (319, amB 318), (320, amC P m318), (321, amA P m321), (322, amB 321), (323, amC P m321), (324, amA P m324), (325, amB 324), (326, amC P m324), (327, o327)] [(227, o227v26 P)]
noncomputable def c19 (P : Params) (os : OsState) : SharedT := st (C19 P) 328 688 os
noncomputable def sp18 := [m318, m321, m324]
noncomputable def E18 (k : Nat) (P : Params) : BT := amT P (C18 P) (sp18.take k)
noncomputable def o227v27 := ob (vT "dict") (dc (h27 P [en P "a_2" 910 (vR 376)]) 23)
noncomputable def m328 : Am := ⟨328, 688, 692, "ea", -1, 3⟩
noncomputable def m331 : Am := ⟨331, 702, 706, "ația", -1, 7⟩
noncomputable def m334 : Am := ⟨334, 716, 720, "aua", -1, 2⟩
noncomputable def m337 : Am := ⟨337, 730, 734, "iua", -1, 4⟩
noncomputable def m340 : Am := ⟨340, 744, 748, "ație", -1, 7⟩
noncomputable def m343 : Am := ⟨343, 758, 762, "ele", -1, 3⟩
noncomputable def m346 : Am := ⟨346, 772, 776, "ile", -1, 5⟩
noncomputable def m349 : Am := ⟨349, 786, 789, "iile", 6, 4⟩
noncomputable def m352 : Am := ⟨352, 799, 803, "iei", -1, 4⟩
noncomputable def m355 : Am := ⟨355, 813, 817, "atei", -1, 6⟩
noncomputable def m358 : Am := ⟨358, 827, 831, "ii", -1, 4⟩
noncomputable def m361 : Am := ⟨361, 841, 845, "ului", -1, 1⟩
noncomputable def m364 : Am := ⟨364, 855, 859, "ul", -1, 1⟩
noncomputable def m367 : Am := ⟨367, 869, 873, "elor", -1, 3⟩
noncomputable def m370 : Am := ⟨370, 883, 887, "ilor", -1, 4⟩
noncomputable def m373 : Am := ⟨373, 897, 900, "iilor", 14, 4⟩
noncomputable def o376 := ob (vT "list") (sq [vR 329, vR 332, vR 335, vR 338, vR 341, vR 344, vR 347, vR 350, vR 353, vR 356, vR 359, vR 362, vR 365, vR 368, vR 371, vR 374] 0)
noncomputable def C20 : TP := Na boot_o_0 (Na boot_o_1 (Na o3v6 (Na boot_o_7 (Nb o15 (Nb o31 (Nb o63 (Nb o127 (Nd o255) Ne) (Nb o191 (My 318) Ne)) (Nb o95 (Nb o159 (Nd o287) Ne) (Nb o223 (Mz m349) Ne))) (Nb o47 (Nb o79 (Nb o143 (Nd o271) Ne) (Nb o207 (My 334) Ne)) (Nb o111 (Nb o175 (Nd o303) Ne) (Nb o239 (Mx m367) Ne)))) (Nb o23 (Nb o39 (Nb o71 (Nb o135 (Nd o263) Ne) (Nb o199 (Nd o327) Ne)) (Nb o103 (Nb o167 (Nd o295) Ne) (Nb o231 (My 358) Ne))) (Nb o55 (Nb o87 (Nb o151 (Nd o279) Ne) (Nb o215 (Mx m343) Ne)) (Nb o119 (Nb o183 (My 310) Ne) (Nb o247 (Mz m373) Ne))))) (Nb o11 (Nb o19 (Nb o35 (Nb o67 (Nb o131 (Nd o259) Ne) (Nb o195 (Mz m321) Ne)) (Nb o99 (Nb o163 (Nd o291) Ne) (Na o227v27 (Mx m355) Ne))) (Nb o51 (Nb o83 (Nb o147 (Nd o275) Ne) (Nb o211 (Mz m337) Ne)) (Nb o115 (Nb o179 (Nd o307) Ne) (Nb o243 (My 370) Ne)))) (Nb o27 (Nb o43 (Nb o75 (Nb o139 (Nd o267) Ne) (Nb o203 (Mx m331) Ne)) (Nb o107 (Nb o171 (Nd o299) Ne) (Nb o235 (Mz m361) Ne))) (Nb o59 (Nb o91 (Nb o155 (Nd o283) Ne) (Na o219 (My 346) Ne)) (Nb o123 (Nb o187 (Mz m313) Ne) (Nd o251)))))) (Na boot_o_5 (Na boot_o_9 (Nb o17 (Nb o33 (Nb o65 (Nb o129 (Nd o257) Ne) (Nb o193 (Mx m321) Ne)) (Nb o97 (Nb o161 (Nd o289) Ne) (Nb o225 (My 352) Ne))) (Nb o49 (Nb o81 (Nb o145 (Nd o273) Ne) (Nb o209 (Mx m337) Ne)) (Nb o113 (Nb o177 (Nd o305) Ne) (Nb o241 (Mz m367) Ne)))) (Nb o25 (Nb o41 (Nb o73 (Nb o137 (Nd o265) Ne) (Nb o201 (My 328) Ne)) (Nb o105 (Nb o169 (Nd o297) Ne) (Nb o233 (Mx m361) Ne))) (Nb o57 (Nb o89 (Nb o153 (Nd o281) Ne) (Nb o217 (Mz m343) Ne)) (Nb o121 (Nb o185 (Mx m313) Ne) (Nd o249))))) (Nb o13 (Nb o21 (Nb o37 (Nb o69 (Nb o133 (Nd o261) Ne) (Nb o197 (My 324) Ne)) (Nb o101 (Nb o165 (Nd o293) Ne) (Nb o229v23 (Mz m355) Ne))) (Nb o53 (Nb o85 (Nb o149 (Nd o277) Ne) (Nb o213 (My 340) Ne)) (Nb o117 (Nb o181 (Nd o309) Ne) (Nb o245 (Mx m373) Ne)))) (Nb o29 (Nb o45 (Nb o77 (Nb o141 (Nd o269) Ne) (Nb o205 (Mz m331) Ne)) (Nb o109 (Nb o173 (Nd o301) Ne) (Nb o237 (My 364) Ne))) (Nb o61 (Nb o93 (Nb o157 (Nd o285) Ne) (Nb o221 (Mx m349) Ne)) (Nb o125 (Nb o189 (Nd o317) Ne) (Nd o253))))))) (Na boot_o_2 (Na boot_o_4 (Na boot_o_8 (Nb o16 (Nb o32 (Nb o64 (Nb o128 (Nd o256) Ne) (Nb o192 (Mz m318) Ne)) (Nb o96 (Nb o160 (Nd o288) Ne) (Nb o224 (Mx m352) Ne))) (Nb o48 (Nb o80 (Nb o144 (Nd o272) Ne) (Nb o208 (Mz m334) Ne)) (Nb o112 (Nb o176 (Nd o304) Ne) (Nb o240 (My 367) Ne)))) (Na o24 (Nb o40 (Nb o72 (Nb o136 (Nd o264) Ne) (Nb o200 (Mx m328) Ne)) (Nb o104 (Nb o168 (Nd o296) Ne) (Na o232 (Mz m358) Ne))) (Nb o56 (Nb o88 (Nb o152 (Nd o280) Ne) (Nb o216 (My 343) Ne)) (Nb o120 (Nb o184 (Mz m310) Ne) (Nb o248 (Nd o376) Ne))))) (Nb o12v7 (Nb o20 (Nb o36 (Nb o68 (Nb o132 (Nd o260) Ne) (Nb o196 (Mx m324) Ne)) (Nb o100 (Nb o164 (Nd o292) Ne) (Nb o228 (My 355) Ne))) (Nb o52 (Nb o84 (Nb o148 (Nd o276) Ne) (Nb o212 (Mx m340) Ne)) (Nb o116 (Nb o180 (Nd o308) Ne) (Nb o244 (Mz m370) Ne)))) (Nb o28 (Nb o44 (Nb o76 (Nb o140 (Nd o268) Ne) (Nb o204 (My 331) Ne)) (Nb o108 (Nb o172 (Nd o300) Ne) (Nb o236 (Mx m364) Ne))) (Nb o60 (Nb o92 (Nb o156 (Nd o284) Ne) (Nb o220 (Mz m346) Ne)) (Nb o124 (Nb o188 (Nd o316) Ne) (Nd o252)))))) (Na boot_o_6 (Na boot_o_10 (Nb o18 (Nb o34 (Nb o66 (Nb o130 (Nd o258) Ne) (Nb o194 (My 321) Ne)) (Nb o98 (Nb o162 (Nd o290) Ne) (Nb o226 (Mz m352) Ne))) (Nb o50 (Nb o82 (Nb o146 (Nd o274) Ne) (Nb o210 (My 337) Ne)) (Nb o114 (Nb o178 (Nd o306) Ne) (Nb o242 (Mx m370) Ne)))) (Nb o26 (Nb o42 (Nb o74 (Nb o138 (Nd o266) Ne) (Nb o202 (Mz m328) Ne)) (Nb o106 (Nb o170 (Nd o298) Ne) (Nb o234 (My 361) Ne))) (Nb o58 (Nb o90 (Nb o154 (Nd o282) Ne) (Nb o218 (Mx m346) Ne)) (Nb o122 (Nb o186 (My 313) Ne) (Nd o250))))) (Nb o14 (Nb o22 (Nb o38 (Nb o70 (Nb o134 (Nd o262) Ne) (Na o198 (Mz m324) Ne)) (Nb o102 (Nb o166 (Nd o294) Ne) (Nb o230 (Mx m358) Ne))) (Nb o54 (Nb o86 (Nb o150 (Nd o278) Ne) (Nb o214 (Mz m340) Ne)) (Nb o118 (Nb o182 (Mx m310) Ne) (Nb o246 (My 373) Ne)))) (Nb o30 (Nb o46 (Nb o78 (Nb o142 (Nd o270) Ne) (Na o206 (Mx m334) Ne)) (Nb o110 (Nb o174 (Nd o302) Ne) (Nb o238 (Mz m364) Ne))) (Nb o62 (Nb o94 (Nb o158 (Nd o286) Ne) (Nb o222 (My 349) Ne)) (Nb o126 (Nb o190 (Mx m318) Ne) (Nd o254)))))))
noncomputable def c20 (P : Params) (os : OsState) : SharedT := st (C20 P) 377 911 os
noncomputable def sp19 := [m328, m331, m334, m337, m340, m343, m346, m349, m352, m355, m358, m361, m364, m367, m370, m373]
noncomputable def E19 (k : Nat) (P : Params) : BT := amT P (C19 P) (sp19.take k)
noncomputable def o227v28 := ob (vT "dict") (dc (h27 P [en P "a_2" 910 (vR 376), en P "a_3" 1553 (vR 515)]) 24)
noncomputable def m377 : Am := ⟨377, 911, 915, "icala", -1, 4⟩
noncomputable def m380 : Am := ⟨380, 925, 929, "iciva", -1, 4⟩
noncomputable def m383 : Am := ⟨383, 939, 943, "ativa", -1, 5⟩
noncomputable def m386 : Am := ⟨386, 953, 957, "itiva", -1, 6⟩
noncomputable def m389 : Am := ⟨389, 967, 971, "icale", -1, 4⟩
noncomputable def m392 : Am := ⟨392, 981, 985, "ațiune", -1, 5⟩
noncomputable def m395 : Am := ⟨395, 995, 999, "ițiune", -1, 6⟩
noncomputable def m398 : Am := ⟨398, 1009, 1013, "atoare", -1, 5⟩
noncomputable def m401 : Am := ⟨401, 1023, 1027, "itoare", -1, 6⟩
noncomputable def m404 : Am := ⟨404, 1037, 1041, "ătoare", -1, 5⟩
noncomputable def m407 : Am := ⟨407, 1051, 1055, "icitate", -1, 4⟩
noncomputable def m410 : Am := ⟨410, 1065, 1069, "abilitate", -1, 1⟩
noncomputable def m413 : Am := ⟨413, 1079, 1083, "ibilitate", -1, 2⟩
noncomputable def m416 : Am := ⟨416, 1093, 1097, "ivitate", -1, 3⟩
noncomputable def m419 : Am := ⟨419, 1107, 1111, "icive", -1, 4⟩
noncomputable def m422 : Am := ⟨422, 1121, 1125, "ative", -1, 5⟩
noncomputable def m425 : Am := ⟨425, 1135, 1139, "itive", -1, 6⟩
noncomputable def m428 : Am := ⟨428, 1149, 1153, "icali", -1, 4⟩
noncomputable def m431 : Am := ⟨431, 1163, 1167, "atori", -1, 5⟩
noncomputable def m434 : Am := ⟨434, 1177, 1180, "icatori", 18, 4⟩
noncomputable def m437 : Am := ⟨437, 1190, 1194, "itori", -1, 6⟩
noncomputable def m440 : Am := ⟨440, 1204, 1208, "ători", -1, 5⟩
noncomputable def m443 : Am := ⟨443, 1218, 1222, "icitati", -1, 4⟩
noncomputable def m446 : Am := ⟨446, 1232, 1236, "abilitati", -1, 1⟩
noncomputable def m449 : Am := ⟨449, 1246, 1250, "ivitati", -1, 3⟩
noncomputable def m452 : Am := ⟨452, 1260, 1264, "icivi", -1, 4⟩
noncomputable def m455 : Am := ⟨455, 1274, 1278, "ativi", -1, 5⟩
noncomputable def m458 : Am := ⟨458, 1288, 1292, "itivi", -1, 6⟩
noncomputable def m461 : Am := ⟨461, 1302, 1306, "icităi", -1, 4⟩
noncomputable def m464 : Am := ⟨464, 1316, 1320, "abilităi", -1, 1⟩
noncomputable def m467 : Am := ⟨467, 1330, 1334, "ivităi", -1, 3⟩
noncomputable def m470 : Am := ⟨470, 1344, 1348, "icități", -1, 4⟩
noncomputable def m473 : Am := ⟨473, 1358, 1362, "abilități", -1, 1⟩
noncomputable def m476 : Am := ⟨476, 1372, 1376, "ivități", -1, 3⟩
noncomputable def m479 : Am := ⟨479, 1386, 1390, "ical", -1, 4⟩
noncomputable def m482 : Am := ⟨482, 1400, 1404, "ator", -1, 5⟩
noncomputable def m485 : Am := ⟨485, 1414, 1417, "icator", 35, 4⟩
noncomputable def m488 : Am := ⟨488, 1427, 1431, "itor", -1, 6⟩
noncomputable def m491 : Am := ⟨491, 1441, 1445, "ător", -1, 5⟩
noncomputable def m494 : Am := ⟨494, 1455, 1459, "iciv", -1, 4⟩
noncomputable def m497 : Am := ⟨497, 1469, 1473, "ativ", -1, 5⟩
noncomputable def m500 : Am := ⟨500, 1483, 1487, "itiv", -1, 6⟩
noncomputable def m503 : Am := ⟨503, 1497, 1501, "icală", -1, 4⟩
noncomputable def m506 : Am := ⟨506, 1511, 1515, "icivă", -1, 4⟩
noncomputable def m509 : Am := ⟨509, 1525, 1529, "ativă", -1, 5⟩
noncomputable def m512 : Am := ⟨512, 1539, 1543, "itivă", -1, 6⟩
noncomputable def o515 := ob (vT "list") (sq [vR 378, vR 381, vR 384, vR 387, vR 390, vR 393, vR 396, vR 399, vR 402, vR 405, vR 408, vR 411, vR 414, vR 417, vR 420, vR 423, vR 426, vR 429, vR 432, vR 435, vR 438, vR 441, vR 444, vR 447, vR 450, vR 453, vR 456, vR 459, vR 462, vR 465, vR 468, vR 471, vR 474, vR 477, vR 480, vR 483, vR 486, vR 489, vR 492, vR 495, vR 498, vR 501, vR 504, vR 507, vR 510, vR 513] 0)
noncomputable def C21 : TP := Na boot_o_0 (Na boot_o_1 (Na o3v6 (Na boot_o_7 (Nb o15 (Nb o31 (Nb o63 (Nb o127 (Nb o255 (Mz m509) Ne) (Mx m383)) (Nb o191 (My 318) (My 446))) (Nb o95 (Nb o159 (Nd o287) (Mz m413)) (Nb o223 (Mz m349) (Mx m479)))) (Nb o47 (Nb o79 (Nb o143 (Nd o271) (My 398)) (Nb o207 (My 334) (Mz m461))) (Nb o111 (Nb o175 (Nd o303) (Mx m431)) (Nb o239 (Mx m367) (My 494))))) (Nb o23 (Nb o39 (Nb o71 (Nb o135 (Nd o263) (Mz m389)) (Nb o199 (Nd o327) (Mx m455))) (Nb o103 (Nb o167 (Nd o295) (My 422)) (Nb o231 (My 358) (Mz m485)))) (Nb o55 (Nb o87 (Nb o151 (Nd o279) (Mx m407)) (Nb o215 (Mx m343) (My 470))) (Nb o119 (Nb o183 (My 310) (Mz m437)) (Nb o247 (Mz m373) (Mx m503)))))) (Nb o11 (Nb o19 (Nb o35 (Nb o67 (Nb o131 (Nb o259 (Nd o515) Ne) (My 386)) (Nb o195 (Mz m321) (Mz m449))) (Nb o99 (Nb o163 (Nd o291) (Mx m419)) (Na o227v28 (Mx m355) (My 482)))) (Nb o51 (Nb o83 (Nb o147 (Nd o275) (Mz m401)) (Nb o211 (Mz m337) (Mx m467))) (Nb o115 (Nb o179 (Nd o307) (My 434)) (Nb o243 (My 370) (Mz m497))))) (Nb o27 (Nb o43 (Nb o75 (Nb o139 (Nd o267) (Mx m395)) (Nb o203 (Mx m331) (My 458))) (Nb o107 (Nb o171 (Nd o299) (Mz m425)) (Nb o235 (Mz m361) (Mx m491)))) (Nb o59 (Nb o91 (Nb o155 (Nd o283) (My 410)) (Na o219 (My 346) (Mz m473))) (Nb o123 (Nb o187 (Mz m313) (Mx m443)) (Nb o251 (Mz m377) (My 506))))))) (Na boot_o_5 (Na boot_o_9 (Nb o17 (Nb o33 (Nb o65 (Nb o129 (Nb o257 (My 512) Ne) (Mz m383)) (Nb o193 (Mx m321) (Mx m449))) (Nb o97 (Nb o161 (Nd o289) (My 416)) (Nb o225 (My 352) (Mz m479)))) (Nb o49 (Nb o81 (Nb o145 (Nd o273) (Mx m401)) (Nb o209 (Mx m337) (My 464))) (Nb o113 (Nb o177 (Nd o305) (Mz m431)) (Nb o241 (Mz m367) (Mx m497))))) (Nb o25 (Nb o41 (Nb o73 (Nb o137 (Nd o265) (My 392)) (Nb o201 (My 328) (Mz m455))) (Nb o105 (Nb o169 (Nd o297) (Mx m425)) (Nb o233 (Mx m361) (My 488)))) (Nb o57 (Nb o89 (Nb o153 (Nd o281) (Mz m407)) (Nb o217 (Mz m343) (Mx m473))) (Nb o121 (Nb o185 (Mx m313) (My 440)) (Nb o249 (Mx m377) (Mz m503)))))) (Nb o13 (Nb o21 (Nb o37 (Nb o69 (Nb o133 (Nd o261) (Mx m389)) (Nb o197 (My 324) (My 452))) (Nb o101 (Nb o165 (Nd o293) (Mz m419)) (Nb o229v23 (Mz m355) (Mx m485)))) (Nb o53 (Nb o85 (Nb o149 (Nd o277) (My 404)) (Nb o213 (My 340) (Mz m467))) (Nb o117 (Nb o181 (Nd o309) (Mx m437)) (Nb o245 (Mx m373) (My 500))))) (Nb o29 (Nb o45 (Nb o77 (Nb o141 (Nd o269) (Mz m395)) (Nb o205 (Mz m331) (Mx m461))) (Nb o109 (Nb o173 (Nd o301) (My 428)) (Nb o237 (My 364) (Mz m491)))) (Nb o61 (Nb o93 (Nb o157 (Nd o285) (Mx m413)) (Nb o221 (Mx m349) (My 476))) (Nb o125 (Nb o189 (Nd o317) (Mz m443)) (Nb o253 (My 380) (Mx m509)))))))) (Na boot_o_2 (Na boot_o_4 (Na boot_o_8 (Nb o16 (Nb o32 (Nb o64 (Nb o128 (Nb o256 (Mx m512) Ne) (My 383)) (Nb o192 (Mz m318) (Mz m446))) (Nb o96 (Nb o160 (Nd o288) (Mx m416)) (Nb o224 (Mx m352) (My 479)))) (Nb o48 (Nb o80 (Nb o144 (Nd o272) (Mz m398)) (Nb o208 (Mz m334) (Mx m464))) (Nb o112 (Nb o176 (Nd o304) (My 431)) (Nb o240 (My 367) (Mz m494))))) (Na o24 (Nb o40 (Nb o72 (Nb o136 (Nd o264) (Mx m392)) (Nb o200 (Mx m328) (My 455))) (Nb o104 (Nb o168 (Nd o296) (Mz m422)) (Na o232 (Mz m358) (Mx m488)))) (Nb o56 (Nb o88 (Nb o152 (Nd o280) (My 407)) (Nb o216 (My 343) (Mz m470))) (Nb o120 (Nb o184 (Mz m310) (Mx m440)) (Nb o248 (Nd o376) (My 503)))))) (Nb o12v7 (Nb o20 (Nb o36 (Nb o68 (Nb o132 (Nd o260) (Mz m386)) (Nb o196 (Mx m324) (Mx m452))) (Nb o100 (Nb o164 (Nd o292) (My 419)) (Nb o228 (My 355) (Mz m482)))) (Nb o52 (Nb o84 (Nb o148 (Nd o276) (Mx m404)) (Nb o212 (Mx m340) (My 467))) (Nb o116 (Nb o180 (Nd o308) (Mz m434)) (Nb o244 (Mz m370) (Mx m500))))) (Nb o28 (Nb o44 (Nb o76 (Nb o140 (Nd o268) (My 395)) (Nb o204 (My 331) (Mz m458))) (Nb o108 (Nb o172 (Nd o300) (Mx m428)) (Nb o236 (Mx m364) (My 491)))) (Nb o60 (Nb o92 (Nb o156 (Nd o284) (Mz m410)) (Nb o220 (Mz m346) (Mx m476))) (Nb o124 (Nb o188 (Nd o316) (My 443)) (Nb o252 (Mx m380) (Mz m506))))))) (Na boot_o_6 (Na boot_o_10 (Nb o18 (Nb o34 (Nb o66 (Nb o130 (Nb o258 (Mz m512) Ne) (Mx m386)) (Nb o194 (My 321) (My 449))) (Nb o98 (Nb o162 (Nd o290) (Mz m416)) (Nb o226 (Mz m352) (Mx m482)))) (Nb o50 (Nb o82 (Nb o146 (Nd o274) (My 401)) (Nb o210 (My 337) (Mz m464))) (Nb o114 (Nb o178 (Nd o306) (Mx m434)) (Nb o242 (Mx m370) (My 497))))) (Nb o26 (Nb o42 (Nb o74 (Nb o138 (Nd o266) (Mz m392)) (Nb o202 (Mz m328) (Mx m458))) (Nb o106 (Nb o170 (Nd o298) (My 425)) (Nb o234 (My 361) (Mz m488)))) (Nb o58 (Nb o90 (Nb o154 (Nd o282) (Mx m410)) (Nb o218 (Mx m346) (My 473))) (Nb o122 (Nb o186 (My 313) (Mz m440)) (Nb o250 (My 377) (Mx m506)))))) (Nb o14 (Nb o22 (Nb o38 (Nb o70 (Nb o134 (Nd o262) (My 389)) (Na o198 (Mz m324) (Mz m452))) (Nb o102 (Nb o166 (Nd o294) (Mx m422)) (Nb o230 (Mx m358) (My 485)))) (Nb o54 (Nb o86 (Nb o150 (Nd o278) (Mz m404)) (Nb o214 (Mz m340) (Mx m470))) (Nb o118 (Nb o182 (Mx m310) (My 437)) (Nb o246 (My 373) (Mz m500))))) (Nb o30 (Nb o46 (Nb o78 (Nb o142 (Nd o270) (Mx m398)) (Na o206 (Mx m334) (My 461))) (Nb o110 (Nb o174 (Nd o302) (Mz m428)) (Nb o238 (Mz m364) (Mx m494)))) (Nb o62 (Nb o94 (Nb o158 (Nd o286) (My 413)) (Nb o222 (My 349) (Mz m476))) (Nb o126 (Nb o190 (Mx m318) (Mx m446)) (Nb o254 (Mz m380) (My 509))))))))
noncomputable def c21 (P : Params) (os : OsState) : SharedT := st (C21 P) 516 1554 os
noncomputable def sp20 := [m377, m380, m383, m386, m389, m392, m395, m398, m401, m404, m407, m410, m413, m416, m419, m422, m425, m428, m431, m434, m437, m440, m443, m446, m449, m452, m455, m458, m461, m464, m467, m470, m473, m476, m479, m482, m485, m488, m491, m494, m497, m500, m503, m506, m509, m512]
noncomputable def E20 (k : Nat) (P : Params) : BT := amT P (C20 P) (sp20.take k)
noncomputable def h28 (t : List DictEntry) : List DictEntry := h27 P (en P "a_2" 910 (vR 376) :: en P "a_3" 1553 (vR 515) :: en P "as_3" 1560 (vR 516) :: t)
noncomputable def o227v29 := ob (vT "dict") (dc (h28 P []) 25)
noncomputable def o516 := ob (vT "tuple") (sq [vS "abil" 1554, vS "ibil" 1555, vS "iv" 1556, vS "ic" 1557, vS "at" 1558, vS "it" 1559] 0)
noncomputable def C22 := up (C21 P) [(516, o516)] [(227, o227v29 P)]
noncomputable def c22 (P : Params) (os : OsState) : SharedT := st (C22 P) 517 1561 os
noncomputable def o227v30 := ob (vT "dict") (dc (h28 P [en P "a_4" 2427 (vR 703)]) 26)
noncomputable def m517 : Am := ⟨517, 1561, 1565, "ica", -1, 1⟩
noncomputable def m520 : Am := ⟨520, 1575, 1579, "abila", -1, 1⟩
noncomputable def m523 : Am := ⟨523, 1589, 1593, "ibila", -1, 1⟩
noncomputable def m526 : Am := ⟨526, 1603, 1607, "oasa", -1, 1⟩
noncomputable def m529 : Am := ⟨529, 1617, 1621, "ata", -1, 1⟩
noncomputable def m532 : Am := ⟨532, 1631, 1635, "ita", -1, 1⟩
noncomputable def m535 : Am := ⟨535, 1645, 1649, "anta", -1, 1⟩
noncomputable def m538 : Am := ⟨538, 1659, 1663, "ista", -1, 3⟩
noncomputable def m541 : Am := ⟨541, 1673, 1677, "uta", -1, 1⟩
noncomputable def m544 : Am := ⟨544, 1687, 1691, "iva", -1, 1⟩
noncomputable def m547 : Am := ⟨547, 1701, 1705, "ic", -1, 1⟩
noncomputable def m550 : Am := ⟨550, 1715, 1719, "ice", -1, 1⟩
noncomputable def m553 : Am := ⟨553, 1729, 1733, "abile", -1, 1⟩
noncomputable def m556 : Am := ⟨556, 1743, 1747, "ibile", -1, 1⟩
noncomputable def m559 : Am := ⟨559, 1757, 1761, "isme", -1, 3⟩
noncomputable def m562 : Am := ⟨562, 1771, 1775, "iune", -1, 2⟩
noncomputable def m565 : Am := ⟨565, 1785, 1789, "oase", -1, 1⟩
noncomputable def m568 : Am := ⟨568, 1799, 1803, "ate", -1, 1⟩
noncomputable def m571 : Am := ⟨571, 1813, 1816, "itate", 17, 1⟩
noncomputable def m574 : Am := ⟨574, 1826, 1830, "ite", -1, 1⟩
noncomputable def m577 : Am := ⟨577, 1840, 1844, "ante", -1, 1⟩
noncomputable def m580 : Am := ⟨580, 1854, 1858, "iste", -1, 3⟩
noncomputable def m583 : Am := ⟨583, 1868, 1872, "ute", -1, 1⟩
noncomputable def m586 : Am := ⟨586, 1882, 1886, "ive", -1, 1⟩
noncomputable def m589 : Am := ⟨589, 1896, 1900, "ici", -1, 1⟩
noncomputable def m592 : Am := ⟨592, 1910, 1914, "abili", -1, 1⟩
noncomputable def m595 : Am := ⟨595, 1924, 1928, "ibili", -1, 1⟩
noncomputable def m598 : Am := ⟨598, 1938, 1942, "iuni", -1, 2⟩
noncomputable def m601 : Am := ⟨601, 1952, 1956, "atori", -1, 1⟩
noncomputable def m604 : Am := ⟨604, 1966, 1970, "osi", -1, 1⟩
noncomputable def m607 : Am := ⟨607, 1980, 1984, "ati", -1, 1⟩
noncomputable def m610 : Am := ⟨610, 1994, 1997, "itati", 30, 1⟩
noncomputable def m613 : Am := ⟨613, 2007, 2011, "iti", -1, 1⟩
noncomputable def m616 : Am := ⟨616, 2021, 2025, "anti", -1, 1⟩
noncomputable def m619 : Am := ⟨619, 2035, 2039, "isti", -1, 3⟩
noncomputable def m622 : Am := ⟨622, 2049, 2053, "uti", -1, 1⟩
noncomputable def m625 : Am := ⟨625, 2063, 2067, "iști", -1, 3⟩
noncomputable def m628 : Am := ⟨628, 2077, 2081, "ivi", -1, 1⟩
noncomputable def m631 : Am := ⟨631, 2091, 2095, "ităi", -1, 1⟩
noncomputable def m634 : Am := ⟨634, 2105, 2109, "oși", -1, 1⟩
noncomputable def m637 : Am := ⟨637, 2119, 2123, "ități", -1, 1⟩
noncomputable def m640 : Am := ⟨640, 2133, 2137, "abil", -1, 1⟩
noncomputable def m643 : Am := ⟨643, 2147, 2151, "ibil", -1, 1⟩
noncomputable def m646 : Am := ⟨646, 2161, 2165, "ism", -1, 3⟩
noncomputable def m649 : Am := ⟨649, 2175, 2179, "ator", -1, 1⟩
noncomputable def m652 : Am := ⟨652, 2189, 2193, "os", -1, 1⟩
noncomputable def m655 : Am := ⟨655, 2203, 2207, "at", -1, 1⟩
noncomputable def m658 : Am := ⟨658, 2217, 2221, "it", -1, 1⟩
noncomputable def m661 : Am := ⟨661, 2231, 2235, "ant", -1, 1⟩
noncomputable def m664 : Am := ⟨664, 2245, 2249, "ist", -1, 3⟩
noncomputable def m667 : Am := ⟨667, 2259, 2263, "ut", -1, 1⟩
noncomputable def m670 : Am := ⟨670, 2273, 2277, "iv", -1, 1⟩
noncomputable def m673 : Am := ⟨673, 2287, 2291, "ică", -1, 1⟩
noncomputable def m676 : Am := ⟨676, 2301, 2305, "abilă", -1, 1⟩
noncomputable def m679 : Am := ⟨679, 2315, 2319, "ibilă", -1, 1⟩
noncomputable def m682 : Am := ⟨682, 2329, 2333, "oasă", -1, 1⟩
noncomputable def m685 : Am := ⟨685, 2343, 2347, "ată", -1, 1⟩
noncomputable def m688 : Am := ⟨688, 2357, 2361, "ită", -1, 1⟩
noncomputable def m691 : Am := ⟨691, 2371, 2375, "antă", -1, 1⟩
noncomputable def m694 : Am := ⟨694, 2385, 2389, "istă", -1, 3⟩
noncomputable def m697 : Am := ⟨697, 2399, 2403, "ută", -1, 1⟩
noncomputable def m700 : Am := ⟨700, 2413, 2417, "ivă", -1, 1⟩
noncomputable def o703 := ob (vT "list") (sq [vR 518, vR 521, vR 524, vR 527, vR 530, vR 533, vR 536, vR 539, vR 542, vR 545, vR 548, vR 551, vR 554, vR 557, vR 560, vR 563, vR 566, vR 569, vR 572, vR 575, vR 578, vR 581, vR 584, vR 587, vR 590, vR 593, vR 596, vR 599, vR 602, vR 605, vR 608, vR 611, vR 614, vR 617, vR 620, vR 623, vR 626, vR 629, vR 632, vR 635, vR 638, vR 641, vR 644, vR 647, vR 650, vR 653, vR 656, vR 659, vR 662, vR 665, vR 668, vR 671, vR 674, vR 677, vR 680, vR 683, vR 686, vR 689, vR 692, vR 695, vR 698, vR 701] 0)
noncomputable def C23 : TP := Na boot_o_0 (Na boot_o_1 (Na o3v6 (Na boot_o_7 (Nb o15 (Nb o31 (Nb o63 (Nb o127 (Nb o255 (Mz m509) Ne) (Ma m383 (Mz m637) Ne)) (Nb o191 (Mb 318 (My 574) Ne) (Mb 446 (Nd o703) Ne))) (Nb o95 (Nb o159 (Nb o287 (Mz m541) Ne) (Mc m413 (My 670) Ne)) (Nb o223 (Mc m349 (Mx m607) Ne) (Mx m479)))) (Nb o47 (Nb o79 (Nb o143 (Nb o271 (My 526) Ne) (Mb 398 (Mx m655) Ne)) (Nb o207 (Mb 334 (Mz m589) Ne) (Mz m461))) (Nb o111 (Nb o175 (Nb o303 (Mx m559) Ne) (Ma m431 (Mz m685) Ne)) (Nb o239 (Ma m367 (My 622) Ne) (My 494))))) (Nb o23 (Nb o39 (Nb o71 (Nb o135 (Nb o263 (Mz m517) Ne) (Mc m389 (My 646) Ne)) (Nb o199 (Nb o327 (Mx m583) Ne) (Mx m455))) (Nb o103 (Nb o167 (Nb o295 (My 550) Ne) (Mb 422 (Mx m679) Ne)) (Nb o231 (Mb 358 (Mz m613) Ne) (Mz m485)))) (Nb o55 (Nb o87 (Nb o151 (Nb o279 (Mx m535) Ne) (Ma m407 (Mz m661) Ne)) (Nb o215 (Ma m343 (My 598) Ne) (My 470))) (Nb o119 (Nb o183 (Mb 310 (Mz m565) Ne) (Mc m437 (My 694) Ne)) (Nb o247 (Mc m373 (Mx m631) Ne) (Mx m503)))))) (Nb o11 (Nb o19 (Nb o35 (Nb o67 (Nb o131 (Nb o259 (Nd o515) Ne) (Mb 386 (Mx m643) Ne)) (Nb o195 (Mc m321 (Mz m577) Ne) (Mz m449))) (Nb o99 (Nb o163 (Nb o291 (Mx m547) Ne) (Ma m419 (Mz m673) Ne)) (Na o227v30 (Ma m355 (My 610) Ne) (My 482)))) (Nb o51 (Nb o83 (Nb o147 (Nb o275 (Mz m529) Ne) (Mc m401 (My 658) Ne)) (Nb o211 (Mc m337 (Mx m595) Ne) (Mx m467))) (Nb o115 (Nb o179 (Nb o307 (My 562) Ne) (Mb 434 (Mx m691) Ne)) (Nb o243 (Mb 370 (Mz m625) Ne) (Mz m497))))) (Nb o27 (Nb o43 (Nb o75 (Nb o139 (Nb o267 (Mx m523) Ne) (Ma m395 (Mz m649) Ne)) (Nb o203 (Ma m331 (My 586) Ne) (My 458))) (Nb o107 (Nb o171 (Nb o299 (Mz m553) Ne) (Mc m425 (My 682) Ne)) (Nb o235 (Mc m361 (Mx m619) Ne) (Mx m491)))) (Nb o59 (Nb o91 (Nb o155 (Nb o283 (My 538) Ne) (Mb 410 (Mx m667) Ne)) (Na o219 (Mb 346 (Mz m601) Ne) (Mz m473))) (Nb o123 (Nb o187 (Mc m313 (Mx m571) Ne) (Ma m443 (Mz m697) Ne)) (Nb o251 (Mc m377 (My 634) Ne) (My 506))))))) (Na boot_o_5 (Na boot_o_9 (Nb o17 (Nb o33 (Nb o65 (Nb o129 (Nb o257 (My 512) Ne) (Mc m383 (My 640) Ne)) (Nb o193 (Ma m321 (Mx m577) Ne) (Mx m449))) (Nb o97 (Nb o161 (Nb o289 (My 544) Ne) (Mb 416 (Mx m673) Ne)) (Nb o225 (Mb 352 (Mz m607) Ne) (Mz m479)))) (Nb o49 (Nb o81 (Nb o145 (Nb o273 (Mx m529) Ne) (Ma m401 (Mz m655) Ne)) (Nb o209 (Ma m337 (My 592) Ne) (My 464))) (Nb o113 (Nb o177 (Nb o305 (Mz m559) Ne) (Mc m431 (My 688) Ne)) (Nb o241 (Mc m367 (Mx m625) Ne) (Mx m497))))) (Nb o25 (Nb o41 (Nb o73 (Nb o137 (Nb o265 (My 520) Ne) (Mb 392 (Mx m649) Ne)) (Nb o201 (Mb 328 (Mz m583) Ne) (Mz m455))) (Nb o105 (Nb o169 (Nb o297 (Mx m553) Ne) (Ma m425 (Mz m679) Ne)) (Nb o233 (Ma m361 (My 616) Ne) (My 488)))) (Nb o57 (Nb o89 (Nb o153 (Nb o281 (Mz m535) Ne) (Mc m407 (My 664) Ne)) (Nb o217 (Mc m343 (Mx m601) Ne) (Mx m473))) (Nb o121 (Nb o185 (Ma m313 (My 568) Ne) (Mb 440 (Mx m697) Ne)) (Nb o249 (Ma m377 (Mz m631) Ne) (Mz m503)))))) (Nb o13 (Nb o21 (Nb o37 (Nb o69 (Nb o133 (Nb o261 (Mx m517) Ne) (Ma m389 (Mz m643) Ne)) (Nb o197 (Mb 324 (My 580) Ne) (My 452))) (Nb o101 (Nb o165 (Nb o293 (Mz m547) Ne) (Mc m419 (My 676) Ne)) (Nb o229v23 (Mc m355 (Mx m613) Ne) (Mx m485)))) (Nb o53 (Nb o85 (Nb o149 (Nb o277 (My 532) Ne) (Mb 404 (Mx m661) Ne)) (Nb o213 (Mb 340 (Mz m595) Ne) (Mz m467))) (Nb o117 (Nb o181 (Nb o309 (Mx m565) Ne) (Ma m437 (Mz m691) Ne)) (Nb o245 (Ma m373 (My 628) Ne) (My 500))))) (Nb o29 (Nb o45 (Nb o77 (Nb o141 (Nb o269 (Mz m523) Ne) (Mc m395 (My 652) Ne)) (Nb o205 (Mc m331 (Mx m589) Ne) (Mx m461))) (Nb o109 (Nb o173 (Nb o301 (My 556) Ne) (Mb 428 (Mx m685) Ne)) (Nb o237 (Mb 364 (Mz m619) Ne) (Mz m491)))) (Nb o61 (Nb o93 (Nb o157 (Nb o285 (Mx m541) Ne) (Ma m413 (Mz m667) Ne)) (Nb o221 (Ma m349 (My 604) Ne) (My 476))) (Nb o125 (Nb o189 (Nb o317 (Mz m571) Ne) (Mc m443 (My 700) Ne)) (Nb o253 (Mb 380 (Mx m637) Ne) (Mx m509)))))))) (Na boot_o_2 (Na boot_o_4 (Na boot_o_8 (Nb o16 (Nb o32 (Nb o64 (Nb o128 (Nb o256 (Mx m512) Ne) (Mb 383 (Mx m640) Ne)) (Nb o192 (Mc m318 (Mz m574) Ne) (Mz m446))) (Nb o96 (Nb o160 (Nb o288 (Mx m544) Ne) (Ma m416 (Mz m670) Ne)) (Nb o224 (Ma m352 (My 607) Ne) (My 479)))) (Nb o48 (Nb o80 (Nb o144 (Nb o272 (Mz m526) Ne) (Mc m398 (My 655) Ne)) (Nb o208 (Mc m334 (Mx m592) Ne) (Mx m464))) (Nb o112 (Nb o176 (Nb o304 (My 559) Ne) (Mb 431 (Mx m688) Ne)) (Nb o240 (Mb 367 (Mz m622) Ne) (Mz m494))))) (Na o24 (Nb o40 (Nb o72 (Nb o136 (Nb o264 (Mx m520) Ne) (Ma m392 (Mz m646) Ne)) (Nb o200 (Ma m328 (My 583) Ne) (My 455))) (Nb o104 (Nb o168 (Nb o296 (Mz m550) Ne) (Mc m422 (My 679) Ne)) (Na o232 (Mc m358 (Mx m616) Ne) (Mx m488)))) (Nb o56 (Nb o88 (Nb o152 (Nb o280 (My 535) Ne) (Mb 407 (Mx m664) Ne)) (Nb o216 (Mb 343 (Mz m598) Ne) (Mz m470))) (Nb o120 (Nb o184 (Mc m310 (Mx m568) Ne) (Ma m440 (Mz m694) Ne)) (Nb o248 (Nb o376 (My 631) Ne) (My 503)))))) (Nb o12v7 (Nb o20 (Nb o36 (Nb o68 (Nb o132 (Nb o260 (Nd o516) Ne) (Mc m386 (My 643) Ne)) (Nb o196 (Ma m324 (Mx m580) Ne) (Mx m452))) (Nb o100 (Nb o164 (Nb o292 (My 547) Ne) (Mb 419 (Mx m676) Ne)) (Nb o228 (Mb 355 (Mz m610) Ne) (Mz m482)))) (Nb o52 (Nb o84 (Nb o148 (Nb o276 (Mx m532) Ne) (Ma m404 (Mz m658) Ne)) (Nb o212 (Ma m340 (My 595) Ne) (My 467))) (Nb o116 (Nb o180 (Nb o308 (Mz m562) Ne) (Mc m434 (My 691) Ne)) (Nb o244 (Mc m370 (Mx m628) Ne) (Mx m500))))) (Nb o28 (Nb o44 (Nb o76 (Nb o140 (Nb o268 (My 523) Ne) (Mb 395 (Mx m652) Ne)) (Nb o204 (Mb 331 (Mz m586) Ne) (Mz m458))) (Nb o108 (Nb o172 (Nb o300 (Mx m556) Ne) (Ma m428 (Mz m682) Ne)) (Nb o236 (Ma m364 (My 619) Ne) (My 491)))) (Nb o60 (Nb o92 (Nb o156 (Nb o284 (Mz m538) Ne) (Mc m410 (My 667) Ne)) (Nb o220 (Mc m346 (Mx m604) Ne) (Mx m476))) (Nb o124 (Nb o188 (Nb o316 (My 571) Ne) (Mb 443 (Mx m700) Ne)) (Nb o252 (Ma m380 (Mz m634) Ne) (Mz m506))))))) (Na boot_o_6 (Na boot_o_10 (Nb o18 (Nb o34 (Nb o66 (Nb o130 (Nb o258 (Mz m512) Ne) (Ma m386 (Mz m640) Ne)) (Nb o194 (Mb 321 (My 577) Ne) (My 449))) (Nb o98 (Nb o162 (Nb o290 (Mz m544) Ne) (Mc m416 (My 673) Ne)) (Nb o226 (Mc m352 (Mx m610) Ne) (Mx m482)))) (Nb o50 (Nb o82 (Nb o146 (Nb o274 (My 529) Ne) (Mb 401 (Mx m658) Ne)) (Nb o210 (Mb 337 (Mz m592) Ne) (Mz m464))) (Nb o114 (Nb o178 (Nb o306 (Mx m562) Ne) (Ma m434 (Mz m688) Ne)) (Nb o242 (Ma m370 (My 625) Ne) (My 497))))) (Nb o26 (Nb o42 (Nb o74 (Nb o138 (Nb o266 (Mz m520) Ne) (Mc m392 (My 649) Ne)) (Nb o202 (Mc m328 (Mx m586) Ne) (Mx m458))) (Nb o106 (Nb o170 (Nb o298 (My 553) Ne) (Mb 425 (Mx m682) Ne)) (Nb o234 (Mb 361 (Mz m616) Ne) (Mz m488)))) (Nb o58 (Nb o90 (Nb o154 (Nb o282 (Mx m538) Ne) (Ma m410 (Mz m664) Ne)) (Nb o218 (Ma m346 (My 601) Ne) (My 473))) (Nb o122 (Nb o186 (Mb 313 (Mz m568) Ne) (Mc m440 (My 697) Ne)) (Nb o250 (Mb 377 (Mx m634) Ne) (Mx m506)))))) (Nb o14 (Nb o22 (Nb o38 (Nb o70 (Nb o134 (Nb o262 (My 517) Ne) (Mb 389 (Mx m646) Ne)) (Na o198 (Mc m324 (Mz m580) Ne) (Mz m452))) (Nb o102 (Nb o166 (Nb o294 (Mx m550) Ne) (Ma m422 (Mz m676) Ne)) (Nb o230 (Ma m358 (My 613) Ne) (My 485)))) (Nb o54 (Nb o86 (Nb o150 (Nb o278 (Mz m532) Ne) (Mc m404 (My 661) Ne)) (Nb o214 (Mc m340 (Mx m598) Ne) (Mx m470))) (Nb o118 (Nb o182 (Ma m310 (My 565) Ne) (Mb 437 (Mx m694) Ne)) (Nb o246 (Mb 373 (Mz m628) Ne) (Mz m500))))) (Nb o30 (Nb o46 (Nb o78 (Nb o142 (Nb o270 (Mx m526) Ne) (Ma m398 (Mz m652) Ne)) (Na o206 (Ma m334 (My 589) Ne) (My 461))) (Nb o110 (Nb o174 (Nb o302 (Mz m556) Ne) (Mc m428 (My 685) Ne)) (Nb o238 (Mc m364 (Mx m622) Ne) (Mx m494)))) (Nb o62 (Nb o94 (Nb o158 (Nb o286 (My 541) Ne) (Mb 413 (Mx m670) Ne)) (Nb o222 (Mb 349 (Mz m604) Ne) (Mz m476))) (Nb o126 (Nb o190 (Ma m318 (Mx m574) Ne) (Ma m446 (Mz m700) Ne)) (Nb o254 (Mc m380 (My 637) Ne) (My 509))))))))
noncomputable def c23 (P : Params) (os : OsState) : SharedT := st (C23 P) 704 2428 os
noncomputable def sp22 := [m517, m520, m523, m526, m529, m532, m535, m538, m541, m544, m547, m550, m553, m556, m559, m562, m565, m568, m571, m574, m577, m580, m583, m586, m589, m592, m595, m598, m601, m604, m607, m610, m613, m616, m619, m622, m625, m628, m631, m634, m637, m640, m643, m646, m649, m652, m655, m658, m661, m664, m667, m670, m673, m676, m679, m682, m685, m688, m691, m694, m697, m700]
noncomputable def E22 (k : Nat) (P : Params) : BT := amT P (C22 P) (sp22.take k)
noncomputable def o227v31 := ob (vT "dict") (dc (h28 P [en P "a_4" 2427 (vR 703), en P "a_5" 3701 (vR 986)]) 27)
noncomputable def m704 : Am := ⟨704, 2428, 2432, "ea", -1, 1⟩
noncomputable def m707 : Am := ⟨707, 2442, 2446, "ia", -1, 1⟩
noncomputable def m710 : Am := ⟨710, 2456, 2460, "esc", -1, 1⟩
noncomputable def m713 : Am := ⟨713, 2470, 2474, "ăsc", -1, 1⟩
noncomputable def m716 : Am := ⟨716, 2484, 2488, "ind", -1, 1⟩
noncomputable def m719 : Am := ⟨719, 2498, 2502, "ând", -1, 1⟩
noncomputable def m722 : Am := ⟨722, 2512, 2516, "are", -1, 1⟩
noncomputable def m725 : Am := ⟨725, 2526, 2530, "ere", -1, 1⟩
noncomputable def m728 : Am := ⟨728, 2540, 2544, "ire", -1, 1⟩
noncomputable def m731 : Am := ⟨731, 2554, 2558, "âre", -1, 1⟩
noncomputable def m734 : Am := ⟨734, 2568, 2572, "se", -1, 2⟩
noncomputable def m737 : Am := ⟨737, 2582, 2585, "ase", 10, 1⟩
noncomputable def m740 : Am := ⟨740, 2595, 2598, "sese", 10, 2⟩
noncomputable def m743 : Am := ⟨743, 2608, 2611, "ise", 10, 1⟩
noncomputable def m746 : Am := ⟨746, 2621, 2624, "use", 10, 1⟩
noncomputable def m749 : Am := ⟨749, 2634, 2637, "âse", 10, 1⟩
noncomputable def m752 : Am := ⟨752, 2647, 2651, "ește", -1, 1⟩
noncomputable def m755 : Am := ⟨755, 2661, 2665, "ăște", -1, 1⟩
noncomputable def m758 : Am := ⟨758, 2675, 2679, "eze", -1, 1⟩
noncomputable def m761 : Am := ⟨761, 2689, 2693, "ai", -1, 1⟩
noncomputable def m764 : Am := ⟨764, 2703, 2706, "eai", 19, 1⟩
noncomputable def m767 : Am := ⟨767, 2716, 2719, "iai", 19, 1⟩
noncomputable def m770 : Am := ⟨770, 2729, 2733, "sei", -1, 2⟩
noncomputable def m773 : Am := ⟨773, 2743, 2747, "ești", -1, 1⟩
noncomputable def m776 : Am := ⟨776, 2757, 2761, "ăști", -1, 1⟩
noncomputable def m779 : Am := ⟨779, 2771, 2775, "ui", -1, 1⟩
noncomputable def m782 : Am := ⟨782, 2785, 2789, "ezi", -1, 1⟩
noncomputable def m785 : Am := ⟨785, 2799, 2803, "âi", -1, 1⟩
noncomputable def m788 : Am := ⟨788, 2813, 2817, "ași", -1, 1⟩
noncomputable def m791 : Am := ⟨791, 2827, 2831, "seși", -1, 2⟩
noncomputable def m794 : Am := ⟨794, 2841, 2844, "aseși", 29, 1⟩
noncomputable def m797 : Am := ⟨797, 2854, 2857, "seseși", 29, 2⟩
noncomputable def m800 : Am := ⟨800, 2867, 2870, "iseși", 29, 1⟩
noncomputable def m803 : Am := ⟨803, 2880, 2883, "useși", 29, 1⟩
noncomputable def m806 : Am := ⟨806, 2893, 2896, "âseși", 29, 1⟩
noncomputable def m809 : Am := ⟨809, 2906, 2910, "iși", -1, 1⟩
noncomputable def m812 : Am := ⟨812, 2920, 2924, "uși", -1, 1⟩
noncomputable def m815 : Am := ⟨815, 2934, 2938, "âși", -1, 1⟩
noncomputable def m818 : Am := ⟨818, 2948, 2952, "ați", -1, 2⟩
noncomputable def m821 : Am := ⟨821, 2962, 2965, "eați", 38, 1⟩
noncomputable def m824 : Am := ⟨824, 2975, 2978, "iați", 38, 1⟩
noncomputable def m827 : Am := ⟨827, 2988, 2992, "eți", -1, 2⟩
noncomputable def m830 : Am := ⟨830, 3002, 3006, "iți", -1, 2⟩
noncomputable def m833 : Am := ⟨833, 3016, 3020, "âți", -1, 2⟩
noncomputable def m836 : Am := ⟨836, 3030, 3034, "arăți", -1, 1⟩
noncomputable def m839 : Am := ⟨839, 3044, 3048, "serăți", -1, 2⟩
noncomputable def m842 : Am := ⟨842, 3058, 3061, "aserăți", 45, 1⟩
noncomputable def m845 : Am := ⟨845, 3071, 3074, "seserăți", 45, 2⟩
noncomputable def m848 : Am := ⟨848, 3084, 3087, "iserăți", 45, 1⟩
noncomputable def m851 : Am := ⟨851, 3097, 3100, "userăți", 45, 1⟩
noncomputable def m854 : Am := ⟨854, 3110, 3113, "âserăți", 45, 1⟩
noncomputable def m857 : Am := ⟨857, 3123, 3127, "irăți", -1, 1⟩
noncomputable def m860 : Am := ⟨860, 3137, 3141, "urăți", -1, 1⟩
noncomputable def m863 : Am := ⟨863, 3151, 3155, "ârăți", -1, 1⟩
noncomputable def m866 : Am := ⟨866, 3165, 3169, "am", -1, 1⟩
noncomputable def m869 : Am := ⟨869, 3179, 3182, "eam", 54, 1⟩
noncomputable def m872 : Am := ⟨872, 3192, 3195, "iam", 54, 1⟩
noncomputable def m875 : Am := ⟨875, 3205, 3209, "em", -1, 2⟩
noncomputable def m878 : Am := ⟨878, 3219, 3222, "asem", 57, 1⟩
noncomputable def m881 : Am := ⟨881, 3232, 3235, "sesem", 57, 2⟩
noncomputable def m884 : Am := ⟨884, 3245, 3248, "isem", 57, 1⟩
noncomputable def m887 : Am := ⟨887, 3258, 3261, "usem", 57, 1⟩
noncomputable def m890 : Am := ⟨890, 3271, 3274, "âsem", 57, 1⟩
noncomputable def m893 : Am := ⟨893, 3284, 3288, "im", -1, 2⟩
noncomputable def m896 : Am := ⟨896, 3298, 3302, "âm", -1, 2⟩
noncomputable def m899 : Am := ⟨899, 3312, 3316, "ăm", -1, 2⟩
noncomputable def m902 : Am := ⟨902, 3326, 3329, "arăm", 65, 1⟩
noncomputable def m905 : Am := ⟨905, 3339, 3342, "serăm", 65, 2⟩
noncomputable def m908 : Am := ⟨908, 3352, 3355, "aserăm", 67, 1⟩
noncomputable def m911 : Am := ⟨911, 3365, 3368, "seserăm", 67, 2⟩
noncomputable def m914 : Am := ⟨914, 3378, 3381, "iserăm", 67, 1⟩
noncomputable def m917 : Am := ⟨917, 3391, 3394, "userăm", 67, 1⟩
noncomputable def m920 : Am := ⟨920, 3404, 3407, "âserăm", 67, 1⟩
noncomputable def m923 : Am := ⟨923, 3417, 3420, "irăm", 65, 1⟩
noncomputable def m926 : Am := ⟨926, 3430, 3433, "urăm", 65, 1⟩
noncomputable def m929 : Am := ⟨929, 3443, 3446, "ârăm", 65, 1⟩
noncomputable def m932 : Am := ⟨932, 3456, 3460, "au", -1, 1⟩
noncomputable def m935 : Am := ⟨935, 3470, 3473, "eau", 76, 1⟩
noncomputable def m938 : Am := ⟨938, 3483, 3486, "iau", 76, 1⟩
noncomputable def m941 : Am := ⟨941, 3496, 3500, "indu", -1, 1⟩
noncomputable def m944 : Am := ⟨944, 3510, 3514, "ându", -1, 1⟩
noncomputable def m947 : Am := ⟨947, 3524, 3528, "ez", -1, 1⟩
noncomputable def m950 : Am := ⟨950, 3538, 3542, "ească", -1, 1⟩
noncomputable def m953 : Am := ⟨953, 3552, 3556, "ară", -1, 1⟩
noncomputable def m956 : Am := ⟨956, 3566, 3570, "seră", -1, 2⟩
noncomputable def m959 : Am := ⟨959, 3580, 3583, "aseră", 84, 1⟩
noncomputable def m962 : Am := ⟨962, 3593, 3596, "seseră", 84, 2⟩
noncomputable def m965 : Am := ⟨965, 3606, 3609, "iseră", 84, 1⟩
noncomputable def m968 : Am := ⟨968, 3619, 3622, "useră", 84, 1⟩
noncomputable def m971 : Am := ⟨971, 3632, 3635, "âseră", 84, 1⟩
noncomputable def m974 : Am := ⟨974, 3645, 3649, "iră", -1, 1⟩
noncomputable def m977 : Am := ⟨977, 3659, 3663, "ură", -1, 1⟩
noncomputable def m980 : Am := ⟨980, 3673, 3677, "âră", -1, 1⟩
noncomputable def m983 : Am := ⟨983, 3687, 3691, "ează", -1, 1⟩
noncomputable def o986 := ob (vT "list") (sq [vR 705, vR 708, vR 711, vR 714, vR 717, vR 720, vR 723, vR 726, vR 729, vR 732, vR 735, vR 738, vR 741, vR 744, vR 747, vR 750, vR 753, vR 756, vR 759, vR 762, vR 765, vR 768, vR 771, vR 774, vR 777, vR 780, vR 783, vR 786, vR 789, vR 792, vR 795, vR 798, vR 801, vR 804, vR 807, vR 810, vR 813, vR 816, vR 819, vR 822, vR 825, vR 828, vR 831, vR 834, vR 837, vR 840, vR 843, vR 846, vR 849, vR 852, vR 855, vR 858, vR 861, vR 864, vR 867, vR 870, vR 873, vR 876, vR 879, vR 882, vR 885, vR 888, vR 891, vR 894, vR 897, vR 900, vR 903, vR 906, vR 909, vR 912, vR 915, vR 918, vR 921, vR 924, vR 927, vR 930, vR 933, vR 936, vR 939, vR 942, vR 945, vR 948, vR 951, vR 954, vR 957, vR 960, vR 963, vR 966, vR 969, vR 972, vR 975, vR 978, vR 981, vR 984] 0)
noncomputable def t54 := Nb o63 (Nb o127 (Nb o255 (Mz m509) (Mx m767)) (Ma m383 (Mz m637) (Mz m893))) (Nb o191 (Mb 318 (My 574) (My 830)) (Mb 446 (Nd o703) (Mx m959)))
noncomputable def t55 := Nb o159 (Nb o287 (Mz m541) (Mz m797)) (Mc m413 (My 670) (My 926))
noncomputable def t56 := Mc m349 (Mx m607) (Mx m863)
noncomputable def t57 := Nb o79 (Nb o143 (Nb o271 (My 526) (My 782)) (Mb 398 (Mx m655) (Mx m911))) (Nb o207 (Mb 334 (Mz m589) (Mz m845)) (Mc m461 (Mx m719) (My 974)))
noncomputable def t58 := Nb o175 (Nb o303 (Mx m559) (Mx m815)) (Ma m431 (Mz m685) (Mz m941))
noncomputable def t59 := Ma m367 (My 622) (My 878)
noncomputable def t60 := Nb o47 t57 (Nb o111 t58 (Nb o239 t59 (Mb 494 (Mz m749) Ne)))
noncomputable def t61 := Nb o135 (Nb o263 (Mz m517) (Mz m773)) (Mc m389 (My 646) (My 902))
noncomputable def t62 := Nb o327 (Mx m583) (Mx m839)
noncomputable def t63 := Ma m455 (My 710) (Mz m965)
noncomputable def t64 := Nb o71 t61 (Nb o199 t62 t63)
noncomputable def t65 := Nb o167 (Nb o295 (My 550) (My 806)) (Mb 422 (Mx m679) (Mx m935))
noncomputable def t66 := Mb 358 (Mz m613) (Mz m869)
noncomputable def t67 := Nb o55 (Nb o87 (Nb o151 (Nb o279 (Mx m535) (Mx m791)) (Ma m407 (Mz m661) (Mz m917))) (Nb o215 (Ma m343 (My 598) (My 854)) (Mb 470 (Mz m725) (Mx m983)))) (Nb o119 (Nb o183 (Mb 310 (Mz m565) (Mz m821)) (Mc m437 (My 694) (My 950))) (Nb o247 (Mc m373 (Mx m631) (Mx m887)) (Ma m503 (My 758) Ne)))
noncomputable def t68 := Nb o67 (Nb o131 (Nb o259 (Nd o515) (My 770)) (Mb 386 (Mx m643) (Mx m899))) (Nb o195 (Mc m321 (Mz m577) (Mz m833)) (Mc m449 (Mx m707) (My 962)))
noncomputable def t69 := Nb o163 (Nb o291 (Mx m547) (Mx m803)) (Ma m419 (Mz m673) (Mz m929))
noncomputable def t70 := Ma m355 (My 610) (My 866)
noncomputable def t71 := Nb o51 (Nb o83 (Nb o147 (Nb o275 (Mz m529) (Mz m785)) (Mc m401 (My 658) (My 914))) (Nb o211 (Mc m337 (Mx m595) (Mx m851)) (Ma m467 (My 722) (Mz m977)))) (Nb o115 (Nb o179 (Nb o307 (My 562) (My 818)) (Mb 434 (Mx m691) (Mx m947))) (Nb o243 (Mb 370 (Mz m625) (Mz m881)) (Mc m497 (Mx m755) Ne)))
noncomputable def t72 := Nb o75 (Nb o139 (Nb o267 (Mx m523) (Mx m779)) (Ma m395 (Mz m649) (Mz m905))) (Nb o203 (Ma m331 (My 586) (My 842)) (Mb 458 (Mz m713) (Mx m971)))
noncomputable def t73 := Nb o171 (Nb o299 (Mz m553) (Mz m809)) (Mc m425 (My 682) (My 938))
noncomputable def t74 := Mc m361 (Mx m619) (Mx m875)
noncomputable def t75 := Nb o43 t72 (Nb o107 t73 (Nb o235 t74 (Ma m491 (My 746) Ne)))
noncomputable def t76 := Nb o155 (Nb o283 (My 538) (My 794)) (Mb 410 (Mx m667) (Mx m923))
noncomputable def t77 := Mb 346 (Mz m601) (Mz m857)
noncomputable def t78 := Nb o123 (Nb o187 (Mc m313 (Mx m571) (Mx m827)) (Ma m443 (Mz m697) (Mz m953))) (Nb o251 (Mc m377 (My 634) (My 890)) (Mb 506 (Mz m761) Ne))
noncomputable def t79 := Nb o65 (Nb o129 (Nb o257 (My 512) (Mz m767)) (Mc m383 (My 640) (My 896))) (Nb o193 (Ma m321 (Mx m577) (Mx m833)) (Ma m449 (My 704) (Mz m959)))
noncomputable def t80 := Nb o161 (Nb o289 (My 544) (My 800)) (Mb 416 (Mx m673) (Mx m929))
noncomputable def t81 := Mb 352 (Mz m607) (Mz m863)
noncomputable def t82 := Nb o49 (Nb o81 (Nb o145 (Nb o273 (Mx m529) (Mx m785)) (Ma m401 (Mz m655) (Mz m911))) (Nb o209 (Ma m337 (My 592) (My 848)) (Mb 464 (Mz m719) (Mx m977)))) (Nb o113 (Nb o177 (Nb o305 (Mz m559) (Mz m815)) (Mc m431 (My 688) (My 944))) (Nb o241 (Mc m367 (Mx m625) (Mx m881)) (Ma m497 (My 752) Ne)))
noncomputable def t83 := Nb o73 (Nb o137 (Nb o265 (My 520) (My 776)) (Mb 392 (Mx m649) (Mx m905))) (Nb o201 (Mb 328 (Mz m583) (Mz m839)) (Mc m455 (Mx m713) (My 968)))
noncomputable def t84 := Nb o169 (Nb o297 (Mx m553) (Mx m809)) (Ma m425 (Mz m679) (Mz m935))
noncomputable def t85 := Ma m361 (My 616) (My 872)
noncomputable def t86 := Nb o57 (Nb o89 (Nb o153 (Nb o281 (Mz m535) (Mz m791)) (Mc m407 (My 664) (My 920))) (Nb o217 (Mc m343 (Mx m601) (Mx m857)) (Ma m473 (My 728) (Mz m983)))) (Nb o121 (Nb o185 (Ma m313 (My 568) (My 824)) (Mb 440 (Mx m697) (Mx m953))) (Nb o249 (Ma m377 (Mz m631) (Mz m887)) (Mc m503 (Mx m761) Ne)))
noncomputable def t87 := Nb o69 (Nb o133 (Nb o261 (Mx m517) (Mx m773)) (Ma m389 (Mz m643) (Mz m899))) (Nb o197 (Mb 324 (My 580) (My 836)) (Mb 452 (Mz m707) (Mx m965)))
noncomputable def t88 := Nb o165 (Nb o293 (Mz m547) (Mz m803)) (Mc m419 (My 676) (My 932))
noncomputable def t89 := Mc m355 (Mx m613) (Mx m869)
noncomputable def t90 := Nb o53 (Nb o85 (Nb o149 (Nb o277 (My 532) (My 788)) (Mb 404 (Mx m661) (Mx m917))) (Nb o213 (Mb 340 (Mz m595) (Mz m851)) (Mc m467 (Mx m725) (My 980)))) (Nb o117 (Nb o181 (Nb o309 (Mx m565) (Mx m821)) (Ma m437 (Mz m691) (Mz m947))) (Nb o245 (Ma m373 (My 628) (My 884)) (Mb 500 (Mz m755) Ne)))
noncomputable def t91 := Nb o77 (Nb o141 (Nb o269 (Mz m523) (Mz m779)) (Mc m395 (My 652) (My 908))) (Nb o205 (Mc m331 (Mx m589) (Mx m845)) (Ma m461 (My 716) (Mz m971)))
noncomputable def t92 := Nb o173 (Nb o301 (My 556) (My 812)) (Mb 428 (Mx m685) (Mx m941))
noncomputable def t93 := Mb 364 (Mz m619) (Mz m875)
noncomputable def t94 := Nb o45 t91 (Nb o109 t92 (Nb o237 t93 (Mc m491 (Mx m749) Ne)))
noncomputable def t95 := Nb o157 (Nb o285 (Mx m541) (Mx m797)) (Ma m413 (Mz m667) (Mz m923))
noncomputable def t96 := Ma m349 (My 604) (My 860)
noncomputable def t97 := Nb o125 (Nb o189 (Nb o317 (Mz m571) (Mz m827)) (Mc m443 (My 700) (My 956))) (Nb o253 (Mb 380 (Mx m637) (Mx m893)) (Ma m509 (My 764) Ne))
noncomputable def t98 := Nb o64 (Nb o128 (Nb o256 (Mx m512) (My 767)) (Mb 383 (Mx m640) (Mx m896))) (Nb o192 (Mc m318 (Mz m574) (Mz m830)) (Mc m446 (Mx m704) (My 959)))
noncomputable def t99 := Nb o160 (Nb o288 (Mx m544) (Mx m800)) (Ma m416 (Mz m670) (Mz m926))
noncomputable def t100 := Ma m352 (My 607) (My 863)
noncomputable def t101 := Nb o48 (Nb o80 (Nb o144 (Nb o272 (Mz m526) (Mz m782)) (Mc m398 (My 655) (My 911))) (Nb o208 (Mc m334 (Mx m592) (Mx m848)) (Ma m464 (My 719) (Mz m974)))) (Nb o112 (Nb o176 (Nb o304 (My 559) (My 815)) (Mb 431 (Mx m688) (Mx m944))) (Nb o240 (Mb 367 (Mz m622) (Mz m878)) (Mc m494 (Mx m752) Ne)))
noncomputable def t102 := Nb o72 (Nb o136 (Nb o264 (Mx m520) (Mx m776)) (Ma m392 (Mz m646) (Mz m902))) (Nb o200 (Ma m328 (My 583) (My 839)) (Mb 455 (Mz m710) (Mx m968)))
noncomputable def t103 := Nb o168 (Nb o296 (Mz m550) (Mz m806)) (Mc m422 (My 679) (My 935))
noncomputable def t104 := Mc m358 (Mx m616) (Mx m872)
noncomputable def t105 := Nb o56 (Nb o88 (Nb o152 (Nb o280 (My 535) (My 791)) (Mb 407 (Mx m664) (Mx m920))) (Nb o216 (Mb 343 (Mz m598) (Mz m854)) (Mc m470 (Mx m728) (My 983)))) (Nb o120 (Nb o184 (Mc m310 (Mx m568) (Mx m824)) (Ma m440 (Mz m694) (Mz m950))) (Nb o248 (Nb o376 (My 631) (My 887)) (Mb 503 (Mz m758) Ne)))
noncomputable def t106 := Nb o68 (Nb o132 (Nb o260 (Nd o516) (Mz m770)) (Mc m386 (My 643) (My 899))) (Nb o196 (Ma m324 (Mx m580) (Mx m836)) (Ma m452 (My 707) (Mz m962)))
noncomputable def t107 := Nb o164 (Nb o292 (My 547) (My 803)) (Mb 419 (Mx m676) (Mx m932))
noncomputable def t108 := Mb 355 (Mz m610) (Mz m866)
noncomputable def t109 := Nb o52 (Nb o84 (Nb o148 (Nb o276 (Mx m532) (Mx m788)) (Ma m404 (Mz m658) (Mz m914))) (Nb o212 (Ma m340 (My 595) (My 851)) (Mb 467 (Mz m722) (Mx m980)))) (Nb o116 (Nb o180 (Nb o308 (Mz m562) (Mz m818)) (Mc m434 (My 691) (My 947))) (Nb o244 (Mc m370 (Mx m628) (Mx m884)) (Ma m500 (My 755) Ne)))
noncomputable def t110 := Nb o76 (Nb o140 (Nb o268 (My 523) (My 779)) (Mb 395 (Mx m652) (Mx m908))) (Nb o204 (Mb 331 (Mz m586) (Mz m842)) (Mc m458 (Mx m716) (My 971)))
noncomputable def t111 := Nb o172 (Nb o300 (Mx m556) (Mx m812)) (Ma m428 (Mz m682) (Mz m938))
noncomputable def t112 := Ma m364 (My 619) (My 875)
noncomputable def t113 := Nb o44 t110 (Nb o108 t111 (Nb o236 t112 (Mb 491 (Mz m746) Ne)))
noncomputable def t114 := Nb o156 (Nb o284 (Mz m538) (Mz m794)) (Mc m410 (My 667) (My 923))
noncomputable def t115 := Mc m346 (Mx m604) (Mx m860)
noncomputable def t116 := Nb o124 (Nb o188 (Nb o316 (My 571) (My 827)) (Mb 443 (Mx m700) (Mx m956))) (Nb o252 (Ma m380 (Mz m634) (Mz m890)) (Mc m506 (Mx m764) Ne))
noncomputable def t117 := Nb o66 (Nb o130 (Nb o258 (Mz m512) (Mx m770)) (Ma m386 (Mz m640) (Mz m896))) (Nb o194 (Mb 321 (My 577) (My 833)) (Mb 449 (Mz m704) (Mx m962)))
noncomputable def t118 := Nb o162 (Nb o290 (Mz m544) (Mz m800)) (Mc m416 (My 673) (My 929))
noncomputable def t119 := Mc m352 (Mx m610) (Mx m866)
noncomputable def t120 := Nb o50 (Nb o82 (Nb o146 (Nb o274 (My 529) (My 785)) (Mb 401 (Mx m658) (Mx m914))) (Nb o210 (Mb 337 (Mz m592) (Mz m848)) (Mc m464 (Mx m722) (My 977)))) (Nb o114 (Nb o178 (Nb o306 (Mx m562) (Mx m818)) (Ma m434 (Mz m688) (Mz m944))) (Nb o242 (Ma m370 (My 625) (My 881)) (Mb 497 (Mz m752) Ne)))
noncomputable def t121 := Nb o74 (Nb o138 (Nb o266 (Mz m520) (Mz m776)) (Mc m392 (My 649) (My 905))) (Nb o202 (Mc m328 (Mx m586) (Mx m842)) (Ma m458 (My 713) (Mz m968)))
noncomputable def t122 := Nb o170 (Nb o298 (My 553) (My 809)) (Mb 425 (Mx m682) (Mx m938))
noncomputable def t123 := Mb 361 (Mz m616) (Mz m872)
noncomputable def t124 := Nb o58 (Nb o90 (Nb o154 (Nb o282 (Mx m538) (Mx m794)) (Ma m410 (Mz m664) (Mz m920))) (Nb o218 (Ma m346 (My 601) (My 857)) (Mb 473 (Mz m728) (Nd o986)))) (Nb o122 (Nb o186 (Mb 313 (Mz m568) (Mz m824)) (Mc m440 (My 697) (My 953))) (Nb o250 (Mb 377 (Mx m634) (Mx m890)) (Ma m506 (My 761) Ne)))
noncomputable def t125 := Nb o70 (Nb o134 (Nb o262 (My 517) (My 773)) (Mb 389 (Mx m646) (Mx m902))) (Na o198 (Mc m324 (Mz m580) (Mz m836)) (Mc m452 (Mx m710) (My 965)))
noncomputable def t126 := Nb o166 (Nb o294 (Mx m550) (Mx m806)) (Ma m422 (Mz m676) (Mz m932))
noncomputable def t127 := Ma m358 (My 613) (My 869)
noncomputable def t128 := Nb o54 (Nb o86 (Nb o150 (Nb o278 (Mz m532) (Mz m788)) (Mc m404 (My 661) (My 917))) (Nb o214 (Mc m340 (Mx m598) (Mx m854)) (Ma m470 (My 725) (Mz m980)))) (Nb o118 (Nb o182 (Ma m310 (My 565) (My 821)) (Mb 437 (Mx m694) (Mx m950))) (Nb o246 (Mb 373 (Mz m628) (Mz m884)) (Mc m500 (Mx m758) Ne)))
noncomputable def t129 := Nb o78 (Nb o142 (Nb o270 (Mx m526) (Mx m782)) (Ma m398 (Mz m652) (Mz m908))) (Na o206 (Ma m334 (My 589) (My 845)) (Mb 461 (Mz m716) (Mx m974)))
noncomputable def t130 := Nb o174 (Nb o302 (Mz m556) (Mz m812)) (Mc m428 (My 685) (My 941))
noncomputable def t131 := Mc m364 (Mx m622) (Mx m878)
noncomputable def t132 := Nb o46 t129 (Nb o110 t130 (Nb o238 t131 (Ma m494 (My 749) Ne)))
noncomputable def t133 := Nb o158 (Nb o286 (My 541) (My 797)) (Mb 413 (Mx m670) (Mx m926))
noncomputable def t134 := Mb 349 (Mz m604) (Mz m860)
noncomputable def t135 := Nb o126 (Nb o190 (Ma m318 (Mx m574) (Mx m830)) (Ma m446 (Mz m700) (Mz m956))) (Nb o254 (Mc m380 (My 637) (My 893)) (Mb 509 (Mz m764) Ne))
noncomputable def C24 : TP := Na boot_o_0 (Na boot_o_1 (Na o3v6 (Na boot_o_7 (Nb o15 (Nb o31 t54 (Nb o95 t55 (Nb o223 t56 (Ma m479 (My 734) Ne)))) t60) (Nb o23 (Nb o39 t64 (Nb o103 t65 (Nb o231 t66 (Mc m485 (Mx m743) Ne)))) t67)) (Nb o11 (Nb o19 (Nb o35 t68 (Nb o99 t69 (Na o227v31 t70 (Mb 482 (Mz m737) Ne)))) t71) (Nb o27 t75 (Nb o59 (Nb o91 t76 (Na o219 t77 (Mc m473 (Mx m731) Ne))) t78)))) (Na boot_o_5 (Na boot_o_9 (Nb o17 (Nb o33 t79 (Nb o97 t80 (Nb o225 t81 (Mc m479 (Mx m737) Ne)))) t82) (Nb o25 (Nb o41 t83 (Nb o105 t84 (Nb o233 t85 (Mb 488 (Mz m743) Ne)))) t86)) (Nb o13 (Nb o21 (Nb o37 t87 (Nb o101 t88 (Nb o229v23 t89 (Ma m485 (My 740) Ne)))) t90) (Nb o29 t94 (Nb o61 (Nb o93 t95 (Nb o221 t96 (Mb 476 (Mz m731) Ne))) t97))))) (Na boot_o_2 (Na boot_o_4 (Na boot_o_8 (Nb o16 (Nb o32 t98 (Nb o96 t99 (Nb o224 t100 (Mb 479 (Mz m734) Ne)))) t101) (Na o24 (Nb o40 t102 (Nb o104 t103 (Na o232 t104 (Ma m488 (My 743) Ne)))) t105)) (Nb o12v7 (Nb o20 (Nb o36 t106 (Nb o100 t107 (Nb o228 t108 (Mc m482 (Mx m740) Ne)))) t109) (Nb o28 t113 (Nb o60 (Nb o92 t114 (Nb o220 t115 (Ma m476 (My 731) Ne))) t116)))) (Na boot_o_6 (Na boot_o_10 (Nb o18 (Nb o34 t117 (Nb o98 t118 (Nb o226 t119 (Ma m482 (My 737) Ne)))) t120) (Nb o26 (Nb o42 t121 (Nb o106 t122 (Nb o234 t123 (Mc m488 (Mx m746) Ne)))) t124)) (Nb o14 (Nb o22 (Nb o38 t125 (Nb o102 t126 (Nb o230 t127 (Mb 485 (Mz m740) Ne)))) t128) (Nb o30 t132 (Nb o62 (Nb o94 t133 (Nb o222 t134 (Mc m476 (Mx m734) Ne))) t135)))))
noncomputable def c24 (P : Params) (os : OsState) : SharedT := st (C24 P) 987 3702 os
noncomputable def sp23 := [m704, m707, m710, m713, m716, m719, m722, m725, m728, m731, m734, m737, m740, m743, m746, m749, m752, m755, m758, m761, m764, m767, m770, m773, m776, m779, m782, m785, m788, m791, m794, m797, m800, m803, m806, m809, m812, m815, m818, m821, m824, m827, m830, m833, m836, m839, m842, m845, m848, m851, m854, m857, m860, m863, m866, m869, m872, m875, m878, m881, m884, m887, m890, m893, m896, m899, m902, m905, m908, m911, m914, m917, m920, m923, m926, m929, m932, m935, m938, m941, m944, m947, m950, m953, m956, m959, m962, m965, m968, m971, m974, m977, m980, m983]
noncomputable def E23 (k : Nat) (P : Params) : BT := amT P (C23 P) (sp23.take k)
noncomputable def h29 (t : List DictEntry) : List DictEntry := h28 P (en P "a_4" 2427 (vR 703) :: en P "a_5" 3701 (vR 986) :: en P "a_6" 3771 (vR 1002) :: t)
noncomputable def o227v32 := ob (vT "dict") (dc (h29 P []) 28)
noncomputable def m987 : Am := ⟨987, 3702, 3706, "a", -1, 1⟩
noncomputable def m990 : Am := ⟨990, 3716, 3720, "e", -1, 1⟩
noncomputable def m993 : Am := ⟨993, 3730, 3733, "ie", 1, 1⟩
noncomputable def m996 : Am := ⟨996, 3743, 3747, "i", -1, 1⟩
noncomputable def m999 : Am := ⟨999, 3757, 3761, "ă", -1, 1⟩
noncomputable def o1002 := ob (vT "list") (sq [vR 988, vR 991, vR 994, vR 997, vR 1000] 0)
noncomputable def t136 := Nb o31 t54 (Nb o95 t55 (Nb o223 t56 (Ma m479 (My 734) (My 990))))
noncomputable def t137 := Nb o103 t65 (Nb o231 t66 (Mc m485 (Mx m743) (Mx m999)))
noncomputable def t138 := Mb 482 (Mz m737) (Mz m993)
noncomputable def t139 := Nb o59 (Nb o91 t76 (Na o219 t77 (Mc m473 (Mx m731) (Mx m987)))) t78
noncomputable def t140 := Na boot_o_9 (Nb o17 (Nb o33 t79 (Nb o97 t80 (Nb o225 t81 (Mc m479 (Mx m737) (Mx m993))))) t82) (Nb o25 (Nb o41 t83 (Nb o105 t84 (Nb o233 t85 (Mb 488 (Mz m743) (Mz m999))))) t86)
noncomputable def t141 := Nb o21 (Nb o37 t87 (Nb o101 t88 (Nb o229v23 t89 (Ma m485 (My 740) (My 996))))) t90
noncomputable def t142 := Nb o61 (Nb o93 t95 (Nb o221 t96 (Mb 476 (Mz m731) (Mz m987)))) t97
noncomputable def t143 := Na boot_o_8 (Nb o16 (Nb o32 t98 (Nb o96 t99 (Nb o224 t100 (Mb 479 (Mz m734) (Mz m990))))) t101) (Na o24 (Nb o40 t102 (Nb o104 t103 (Na o232 t104 (Ma m488 (My 743) (My 999))))) t105)
noncomputable def t144 := Nb o20 (Nb o36 t106 (Nb o100 t107 (Nb o228 t108 (Mc m482 (Mx m740) (Mx m996))))) t109
noncomputable def t145 := Nb o60 (Nb o92 t114 (Nb o220 t115 (Ma m476 (My 731) (My 987)))) t116
noncomputable def t146 := Na boot_o_10 (Nb o18 (Nb o34 t117 (Nb o98 t118 (Nb o226 t119 (Ma m482 (My 737) (My 993))))) t120) (Nb o26 (Nb o42 t121 (Nb o106 t122 (Nb o234 t123 (Mc m488 (Mx m746) (Nd o1002))))) t124)
noncomputable def t147 := Nb o22 (Nb o38 t125 (Nb o102 t126 (Nb o230 t127 (Mb 485 (Mz m740) (Mz m996))))) t128
noncomputable def t148 := Nb o62 (Nb o94 t133 (Nb o222 t134 (Mc m476 (Mx m734) (Mx m990)))) t135
noncomputable def C25 : TP := Na boot_o_0 (Na boot_o_1 (Na o3v6 (Na boot_o_7 (Nb o15 t136 t60) (Nb o23 (Nb o39 t64 t137) t67)) (Nb o11 (Nb o19 (Nb o35 t68 (Nb o99 t69 (Na o227v32 t70 t138))) t71) (Nb o27 t75 t139))) (Na boot_o_5 t140 (Nb o13 t141 (Nb o29 t94 t142)))) (Na boot_o_2 (Na boot_o_4 t143 (Nb o12v7 t144 (Nb o28 t113 t145))) (Na boot_o_6 t146 (Nb o14 t147 (Nb o30 t132 t148))))
noncomputable def c25 (P : Params) (os : OsState) : SharedT := st (C25 P) 1003 3772 os
noncomputable def sp24 := [m987, m990, m993, m996, m999]
noncomputable def E24 (k : Nat) (P : Params) : BT := amT P (C24 P) (sp24.take k)
noncomputable def o3v33 := ob (vT "dict") (dc (h3 P [en P "RomanianStemmer" 3783 (vR 1005)]) 13)
noncomputable def o199v33 := obS (vT "type") none (.cls { name := S "BaseStemmer", bases := [vT "object"], mro := [vR 199, vT "object"], ns := 198, qualname := S "BaseStemmer", hasDict := true, slotNames := [], subclasses := [vR 1005], abstract := false, collection := none, hasDel := false }) [none, none, some (vS "BaseStemmer" 196), some (vS "BaseStemmer" 204), some (vB "object.__new__"), some (.bool true)]
noncomputable def o227v33 := ob (vT "dict") (dc (h29 P [en P "__static_attributes__" 3780 (vR 1003)]) 29)
noncomputable def o1003 := ob (vT "tuple") (sq [vS "B_standard_suffix_removed" 3772, vS "I_p1" 3773, vS "I_p2" 3774, vS "I_pV" 3775, vS "bra" 3776, vS "cursor" 3777, vS "ket" 3778, vS "limit_backward" 3779] 0)
noncomputable def o1004 := ob (vT "dict") (dc [en P "__module__" 482 (vS "snowballstemmer.romanian_stemmer" 473), en P "__firstlineno__" 486 (vI 215 485), en P "g_v" 503 (vR 232), en P "B_standard_suffix_removed" 504 (.bool false), en P "I_p2" 506 (vI 0 505), en P "I_p1" 508 (vI 0 507), en P "I_pV" 510 (vI 0 509), en P "r_norm" 521 (vR 239), en P "r_prelude" 531 (vR 246), en P "r_mark_regions" 543 (vR 253), en P "r_postlude" 552 (vR 260), en P "r_R1" 559 (vR 267), en P "r_step_0" 567 (vR 274), en P "r_combo_suffix" 576 (vR 281), en P "r_standard_suffix" 585 (vR 288), en P "r_verb_suffix" 594 (vR 295), en P "r_vowel_suffix" 601 (vR 302), en P "_stem" 614 (vR 309), en P "a_0" 643 (vR 316), en P "as_0" 646 (vR 317), en P "a_1" 687 (vR 327), en P "a_2" 910 (vR 376), en P "a_3" 1553 (vR 515), en P "as_3" 1560 (vR 516), en P "a_4" 2427 (vR 703), en P "a_5" 3701 (vR 986), en P "a_6" 3771 (vR 1002), en P "__static_attributes__" 3780 (vR 1003), en P "__doc__" 3781 .none] 2)
noncomputable def o1005 := obS (vT "type") none (.cls { name := S "RomanianStemmer", bases := [vR 199], mro := [vR 1005, vR 199, vT "object"], ns := 1004, qualname := S "RomanianStemmer", hasDict := true, slotNames := [], subclasses := [], abstract := false, collection := none, hasDel := false }) [some (vR 225), none, some (vS "RomanianStemmer" 475), some (vS "RomanianStemmer" 483), some (vB "object.__new__"), some (.bool true)]
noncomputable def o1006 := ob (vT "super") (fl [vR 1005, vR 1005, vR 1005])
noncomputable def o1007 := ob (vT "builtin_function_or_method") (fl [vB "object.__init_subclass__", vR 1005])
noncomputable def A7 : TP := Na boot_o_0 (Na boot_o_1 (Na o3v33 (Na boot_o_7 (Nb o15 t136 (Nb o47 t57 (Nb o111 t58 (Nb o239 t59 (Mb 494 (Mz m749) (Nd o1007)))))) (Nb o23 (Nb o39 (Nb o71 t61 (Nb o199v33 t62 t63)) t137) t67)) (Nb o11 (Nb o19 (Nb o35 t68 (Nb o99 t69 (Na o227v33 t70 t138))) t71) (Nb o27 (Nb o43 t72 (Nb o107 t73 (Nb o235 t74 (Ma m491 (My 746) (Nd o1003))))) t139))) (Na boot_o_5 t140 (Nb o13 t141 (Nb o29 (Nb o45 t91 (Nb o109 t92 (Nb o237 t93 (Mc m491 (Mx m749) (Nd o1005))))) t142)))) (Na boot_o_2 (Na boot_o_4 t143 (Nb o12v7 t144 (Nb o28 (Nb o44 t110 (Nb o108 t111 (Nb o236 t112 (Mb 491 (Mz m746) (Nc o1004))))) t145))) (Na boot_o_6 t146 (Nb o14 t147 (Nb o30 (Nb o46 t129 (Nb o110 t130 (Nb o238 t131 (Ma m494 (My 749) (Nd o1006))))) t148))))
noncomputable def a7 (P : Params) (os : OsState) : SharedT := st (A7 P) 1008 3784 os
noncomputable def o2v34 := ob .none (dc [en P "type.__subclasses__.Exception.0" 3800 (vI 1017 0), en P "type.__subclasses__.Exception.n" 3801 (vI 1 0)] 2)
noncomputable def o3v34 := ob (vT "dict") (dc (h3 P [en P "RomanianStemmer" 3783 (vR 1005), en P "lab0" 3803 (vR 1017)]) 14)
noncomputable def h13 (t : List Value) : List Value := h12 (vI 568 0 :: vI 0 0 :: vR 1013 :: t)
noncomputable def o12v34 := ob .none (fl (h13 []))
noncomputable def o1008 := ob (vT "tuple") (sq [vT "Exception"] 0)
noncomputable def o1009 := ob (vT "builtin_function_or_method") (fl [vB "type.__prepare__", vT "type"])
noncomputable def o1010 := ob (vT "dict") (dc [en P "__module__" 3791 (vS "snowballstemmer.romanian_stemmer" 473), en P "__qualname__" 3793 (vS "lab0" 3792), en P "__firstlineno__" 3795 (vI 568 3794), en P "__static_attributes__" 3796 (vR 1015)] 4)
noncomputable def o1011 := ob (vT "tuple") (sq [] 0)
noncomputable def o1012 := ob .none (fl [])
noncomputable def o1013 := cd "lab0" 3786 "lab0" 3787 3788 568 0 0 1011 (.bool false) 1012 .none .none .none .none 3789 3790
noncomputable def o1014 := obS (vT "frame") none .plain [some (vR 1013), some (vR 3), some (vR 1010), none, some (vS "snowballstemmer.romanian_stemmer" 473), none, some (vR 0)]
noncomputable def o1015 := ob (vT "tuple") (sq [] 0)
noncomputable def o1016 := ob (vT "dict") (dc [en P "__module__" 3791 (vS "snowballstemmer.romanian_stemmer" 473), en P "__firstlineno__" 3795 (vI 568 3794), en P "__static_attributes__" 3796 (vR 1015), en P "__weakref__" 3798 (vR 1018), en P "__doc__" 3799 .none] 3)
noncomputable def o1017 := obS (vT "type") none (.cls { name := S "lab0", bases := [vT "Exception"], mro := [vR 1017, vT "Exception", vT "BaseException", vT "object"], ns := 1016, qualname := S "lab0", hasDict := true, slotNames := [], subclasses := [], abstract := false, collection := none, hasDel := false }) [some (vR 1008), none, some (vS "lab0" 3784), some (vS "lab0" 3792), some (vB "Exception.__new__"), some (.bool true)]
noncomputable def o1018 := ob (vT "getset_descriptor") (fl [vS "__weakref__" 3797, vR 1017, vB "ExceptionGroup.__weakref__", .none])
noncomputable def o1019 := ob (vT "super") (fl [vR 1017, vR 1017, vR 1017])
noncomputable def o1020 := ob (vT "builtin_function_or_method") (fl [vB "object.__init_subclass__", vR 1017])
noncomputable def A8 := up (A7 P) [(1008, o1008), (1009, o1009), (1010, o1010 P), (1011, o1011), (1012, o1012), (1013, o1013), (1014, o1014), (1015, o1015), (1016, o1016 P), (1017, o1017), (1018, o1018), (1019, o1019), (1020, o1020)] [(2, o2v34 P), (3, o3v34 P), (12, o12v34)]
noncomputable def a8 (P : Params) (os : OsState) : SharedT := st (A8 P) 1021 3804 os
noncomputable def o2v35 := ob .none (dc [en P "type.__subclasses__.Exception.0" 3800 (vI 1017 0), en P "type.__subclasses__.Exception.n" 3801 (vI 2 0), en P "type.__subclasses__.Exception.1" 3820 (vI 1030 0)] 3)
noncomputable def h4 (t : List DictEntry) : List DictEntry := h3 P (en P "RomanianStemmer" 3783 (vR 1005) :: en P "lab0" 3803 (vR 1017) :: en P "lab1" 3823 (vR 1030) :: t)
noncomputable def o3v35 := ob (vT "dict") (dc (h4 P []) 15)
noncomputable def h14 (t : List Value) : List Value := h13 (vI 570 0 :: vI 0 0 :: vR 1026 :: t)
noncomputable def o12v35 := ob .none (fl (h14 []))
noncomputable def o1021 := ob (vT "tuple") (sq [vT "Exception"] 0)
noncomputable def o1022 := ob (vT "builtin_function_or_method") (fl [vB "type.__prepare__", vT "type"])
noncomputable def o1023 := ob (vT "dict") (dc [en P "__module__" 3811 (vS "snowballstemmer.romanian_stemmer" 473), en P "__qualname__" 3813 (vS "lab1" 3812), en P "__firstlineno__" 3815 (vI 570 3814), en P "__static_attributes__" 3816 (vR 1028)] 4)
noncomputable def o1024 := ob (vT "tuple") (sq [] 0)
noncomputable def o1025 := ob .none (fl [])
noncomputable def o1026 := cd "lab1" 3806 "lab1" 3807 3808 570 0 0 1024 (.bool false) 1025 .none .none .none .none 3809 3810
noncomputable def o1027 := obS (vT "frame") none .plain [some (vR 1026), some (vR 3), some (vR 1023), none, some (vS "snowballstemmer.romanian_stemmer" 473), none, some (vR 0)]
noncomputable def o1028 := ob (vT "tuple") (sq [] 0)
noncomputable def o1029 := ob (vT "dict") (dc [en P "__module__" 3811 (vS "snowballstemmer.romanian_stemmer" 473), en P "__firstlineno__" 3815 (vI 570 3814), en P "__static_attributes__" 3816 (vR 1028), en P "__weakref__" 3818 (vR 1031), en P "__doc__" 3819 .none] 3)
noncomputable def o1030 := obS (vT "type") none (.cls { name := S "lab1", bases := [vT "Exception"], mro := [vR 1030, vT "Exception", vT "BaseException", vT "object"], ns := 1029, qualname := S "lab1", hasDict := true, slotNames := [], subclasses := [], abstract := false, collection := none, hasDel := false }) [some (vR 1021), none, some (vS "lab1" 3804), some (vS "lab1" 3812), some (vB "Exception.__new__"), some (.bool true)]
noncomputable def o1031 := ob (vT "getset_descriptor") (fl [vS "__weakref__" 3817, vR 1030, vB "ExceptionGroup.__weakref__", .none])
noncomputable def o1032 := ob (vT "super") (fl [vR 1030, vR 1030, vR 1030])
noncomputable def o1033 := ob (vT "builtin_function_or_method") (fl [vB "object.__init_subclass__", vR 1030])
noncomputable def A9 := up (A8 P) [(1021, o1021), (1022, o1022), (1023, o1023 P), (1024, o1024), (1025, o1025), (1026, o1026), (1027, o1027), (1028, o1028), (1029, o1029 P), (1030, o1030), (1031, o1031), (1032, o1032), (1033, o1033)] [(2, o2v35 P), (3, o3v35 P), (12, o12v35)]
noncomputable def a9 (P : Params) (os : OsState) : SharedT := st (A9 P) 1034 3824 os
noncomputable def o2v36 := ob .none (dc [en P "type.__subclasses__.Exception.0" 3800 (vI 1017 0), en P "type.__subclasses__.Exception.n" 3801 (vI 3 0), en P "type.__subclasses__.Exception.1" 3820 (vI 1030 0), en P "type.__subclasses__.Exception.2" 3840 (vI 1043 0)] 4)
noncomputable def o3v36 := ob (vT "dict") (dc (h4 P [en P "lab2" 3843 (vR 1043)]) 16)
noncomputable def h15 (t : List Value) : List Value := h14 (vI 572 0 :: vI 0 0 :: vR 1039 :: t)
noncomputable def o12v36 := ob .none (fl (h15 []))
noncomputable def o1034 := ob (vT "tuple") (sq [vT "Exception"] 0)
noncomputable def o1035 := ob (vT "builtin_function_or_method") (fl [vB "type.__prepare__", vT "type"])
noncomputable def o1036 := ob (vT "dict") (dc [en P "__module__" 3831 (vS "snowballstemmer.romanian_stemmer" 473), en P "__qualname__" 3833 (vS "lab2" 3832), en P "__firstlineno__" 3835 (vI 572 3834), en P "__static_attributes__" 3836 (vR 1041)] 4)
noncomputable def o1037 := ob (vT "tuple") (sq [] 0)
noncomputable def o1038 := ob .none (fl [])
noncomputable def o1039 := cd "lab2" 3826 "lab2" 3827 3828 572 0 0 1037 (.bool false) 1038 .none .none .none .none 3829 3830
noncomputable def o1040 := obS (vT "frame") none .plain [some (vR 1039), some (vR 3), some (vR 1036), none, some (vS "snowballstemmer.romanian_stemmer" 473), none, some (vR 0)]
noncomputable def o1041 := ob (vT "tuple") (sq [] 0)
noncomputable def o1042 := ob (vT "dict") (dc [en P "__module__" 3831 (vS "snowballstemmer.romanian_stemmer" 473), en P "__firstlineno__" 3835 (vI 572 3834), en P "__static_attributes__" 3836 (vR 1041), en P "__weakref__" 3838 (vR 1044), en P "__doc__" 3839 .none] 3)
noncomputable def o1043 := obS (vT "type") none (.cls { name := S "lab2", bases := [vT "Exception"], mro := [vR 1043, vT "Exception", vT "BaseException", vT "object"], ns := 1042, qualname := S "lab2", hasDict := true, slotNames := [], subclasses := [], abstract := false, collection := none, hasDel := false }) [some (vR 1034), none, some (vS "lab2" 3824), some (vS "lab2" 3832), some (vB "Exception.__new__"), some (.bool true)]
noncomputable def o1044 := ob (vT "getset_descriptor") (fl [vS "__weakref__" 3837, vR 1043, vB "ExceptionGroup.__weakref__", .none])
noncomputable def o1045 := ob (vT "super") (fl [vR 1043, vR 1043, vR 1043])
noncomputable def o1046 := ob (vT "builtin_function_or_method") (fl [vB "object.__init_subclass__", vR 1043])
noncomputable def A10 := up (A9 P) [(1034, o1034), (1035, o1035), (1036, o1036 P), (1037, o1037), (1038, o1038), (1039, o1039), (1040, o1040), (1041, o1041), (1042, o1042 P), (1043, o1043), (1044, o1044), (1045, o1045), (1046, o1046)] [(2, o2v36 P), (3, o3v36 P), (12, o12v36)]
noncomputable def a10 (P : Params) (os : OsState) : SharedT := st (A10 P) 1047 3844 os
noncomputable def h5 (t : List DictEntry) : List DictEntry := en P "__name__" 165 (vS "law_is0017_01" 3844) :: en P "__doc__" 166 .none :: en P "__package__" 167 .none :: en P "__loader__" 168 (vB "__main__.__loader__#opaque") :: en P "__spec__" 169 .none :: en P "__annotations__" 170 (vR 6) :: en P "__builtins__" 171 (vR 4) :: en P "__file__" 173 (vS "/claim/cut.py" 172) :: en P "__cached__" 174 .none :: en P "_wall" 193 (vR 21) :: en P "BaseStemmer" 437 (vR 199) :: en P "Among" 472 (vR 220) :: en P "RomanianStemmer" 3783 (vR 1005) :: en P "lab0" 3803 (vR 1017) :: en P "lab1" 3823 (vR 1030) :: en P "lab2" 3843 (vR 1043) :: t
noncomputable def o3v37 := ob (vT "dict") (dc (h5 P []) 16)
noncomputable def A11 := up (A10 P) [] [(3, o3v37 P)]
noncomputable def a11 (P : Params) (os : OsState) : SharedT := st (A11 P) 1047 3846 os
noncomputable def o3v38 := ob (vT "dict") (dc (h5 P [en P "_law_letters" 3847 (vS "aeiouăâîbcdfghjklmnpqrstvwxyzșțşţIU-" 3846)]) 17)
noncomputable def A12 := up (A11 P) [] [(3, o3v38 P)]
noncomputable def a12 (P : Params) (os : OsState) : SharedT := st (A12 P) 1047 3848 os
noncomputable def o3v39 := ob (vT "dict") (dc (h5 P [en P "_law_letters" 3847 (vS "aeiouăâîbcdfghjklmnpqrstvwxyzșțşţIU-" 3846), en P "_law_articles" 3870 (vR 1059)]) 18)
noncomputable def o1047 := ob (vT "list") (sq [vS "ul" 3849, vS "ului" 3850] 0)
noncomputable def o1048 := ob (vT "tuple") (sq [vS "" 3848, vR 1047] 0)
noncomputable def o1049 := ob (vT "list") (sq [vS "aua" 3852] 0)
noncomputable def o1050 := ob (vT "tuple") (sq [vS "a" 3851, vR 1049] 0)
noncomputable def o1051 := ob (vT "list") (sq [vS "ea" 3854, vS "ele" 3855, vS "elor" 3856] 0)
noncomputable def o1052 := ob (vT "tuple") (sq [vS "e" 3853, vR 1051] 0)
noncomputable def o1053 := ob (vT "list") (sq [vS "ii" 3858, vS "iua" 3859, vS "iei" 3860, vS "iile" 3861, vS "iilor" 3862, vS "ilor" 3863, vS "ile" 3864] 0)
noncomputable def o1054 := ob (vT "tuple") (sq [vS "i" 3857, vR 1053] 0)
noncomputable def o1055 := ob (vT "list") (sq [vS "atei" 3866] 0)
noncomputable def o1056 := ob (vT "tuple") (sq [vS "at" 3865, vR 1055] 0)
noncomputable def o1057 := ob (vT "list") (sq [vS "ație" 3868, vS "ația" 3869] 0)
noncomputable def o1058 := ob (vT "tuple") (sq [vS "ați" 3867, vR 1057] 0)
noncomputable def o1059 := ob (vT "list") (sq [vR 1048, vR 1050, vR 1052, vR 1054, vR 1056, vR 1058] 0)
noncomputable def A13 := up (A12 P) [(1047, o1047), (1048, o1048), (1049, o1049), (1050, o1050), (1051, o1051), (1052, o1052), (1053, o1053), (1054, o1054), (1055, o1055), (1056, o1056), (1057, o1057), (1058, o1058), (1059, o1059)] [(3, o3v39 P)]
noncomputable def a13 (P : Params) (os : OsState) : SharedT := st (A13 P) 1060 3871 os
noncomputable def h6 (t : List DictEntry) : List DictEntry := h5 P (en P "_law_letters" 3847 (vS "aeiouăâîbcdfghjklmnpqrstvwxyzșțşţIU-" 3846) :: en P "_law_articles" 3870 (vR 1059) :: en P "_law_compound" 3923 (vR 1072) :: t)
noncomputable def o3v40 := ob (vT "dict") (dc (h6 P []) 19)
noncomputable def o1060 := ob (vT "list") (sq [vS "abilitate" 3872, vS "abilitati" 3873, vS "abilităi" 3874, vS "abilități" 3875] 0)
noncomputable def o1061 := ob (vT "tuple") (sq [vS "abil" 3871, vR 1060] 0)
noncomputable def o1062 := ob (vT "list") (sq [vS "ibilitate" 3877] 0)
noncomputable def o1063 := ob (vT "tuple") (sq [vS "ibil" 3876, vR 1062] 0)
noncomputable def o1064 := ob (vT "list") (sq [vS "ivitate" 3879, vS "ivitati" 3880, vS "ivităi" 3881, vS "ivități" 3882] 0)
noncomputable def o1065 := ob (vT "tuple") (sq [vS "iv" 3878, vR 1064] 0)
noncomputable def o1066 := ob (vT "list") (sq [vS "icitate" 3884, vS "icitati" 3885, vS "icităi" 3886, vS "icități" 3887, vS "icator" 3888, vS "icatori" 3889, vS "iciv" 3890, vS "iciva" 3891, vS "icive" 3892, vS "icivi" 3893, vS "icivă" 3894, vS "ical" 3895, vS "icala" 3896, vS "icale" 3897, vS "icali" 3898, vS "icală" 3899] 0)
noncomputable def o1067 := ob (vT "tuple") (sq [vS "ic" 3883, vR 1066] 0)
noncomputable def o1068 := ob (vT "list") (sq [vS "ativ" 3901, vS "ativa" 3902, vS "ative" 3903, vS "ativi" 3904, vS "ativă" 3905, vS "ațiune" 3906, vS "atoare" 3907, vS "ator" 3908, vS "atori" 3909, vS "ătoare" 3910, vS "ător" 3911, vS "ători" 3912] 0)
noncomputable def o1069 := ob (vT "tuple") (sq [vS "at" 3900, vR 1068] 0)
noncomputable def o1070 := ob (vT "list") (sq [vS "itiv" 3914, vS "itiva" 3915, vS "itive" 3916, vS "itivi" 3917, vS "itivă" 3918, vS "ițiune" 3919, vS "itoare" 3920, vS "itor" 3921, vS "itori" 3922] 0)
noncomputable def o1071 := ob (vT "tuple") (sq [vS "it" 3913, vR 1070] 0)
noncomputable def o1072 := ob (vT "list") (sq [vR 1061, vR 1063, vR 1065, vR 1067, vR 1069, vR 1071] 0)
noncomputable def A14 := up (A13 P) [(1060, o1060), (1061, o1061), (1062, o1062), (1063, o1063), (1064, o1064), (1065, o1065), (1066, o1066), (1067, o1067), (1068, o1068), (1069, o1069), (1070, o1070), (1071, o1071), (1072, o1072)] [(3, o3v40 P)]
noncomputable def a14 (P : Params) (os : OsState) : SharedT := st (A14 P) 1073 3924 os
noncomputable def o3v41 := ob (vT "dict") (dc (h6 P [en P "_law_plain" 3989 (vR 1079)]) 20)
noncomputable def o1073 := ob (vT "list") (sq [vS "at" 3925, vS "ata" 3926, vS "ată" 3927, vS "ati" 3928, vS "ate" 3929, vS "ut" 3930, vS "uta" 3931, vS "ută" 3932, vS "uti" 3933, vS "ute" 3934, vS "it" 3935, vS "ita" 3936, vS "ită" 3937, vS "iti" 3938, vS "ite" 3939, vS "ic" 3940, vS "ica" 3941, vS "ice" 3942, vS "ici" 3943, vS "ică" 3944, vS "abil" 3945, vS "abila" 3946, vS "abile" 3947, vS "abili" 3948, vS "abilă" 3949, vS "ibil" 3950, vS "ibila" 3951, vS "ibile" 3952, vS "ibili" 3953, vS "ibilă" 3954, vS "oasa" 3955, vS "oasă" 3956, vS "oase" 3957, vS "os" 3958, vS "osi" 3959, vS "oși" 3960, vS "ant" 3961, vS "anta" 3962, vS "ante" 3963, vS "anti" 3964, vS "antă" 3965, vS "ator" 3966, vS "atori" 3967, vS "itate" 3968, vS "itati" 3969, vS "ităi" 3970, vS "ități" 3971, vS "iv" 3972, vS "iva" 3973, vS "ive" 3974, vS "ivi" 3975, vS "ivă" 3976] 0)
noncomputable def o1074 := ob (vT "tuple") (sq [vS "" 3924, vR 1073] 0)
noncomputable def o1075 := ob (vT "list") (sq [vS "iune" 3978, vS "iuni" 3979] 0)
noncomputable def o1076 := ob (vT "tuple") (sq [vS "t" 3977, vR 1075] 0)
noncomputable def o1077 := ob (vT "list") (sq [vS "ism" 3981, vS "isme" 3982, vS "ist" 3983, vS "ista" 3984, vS "iste" 3985, vS "isti" 3986, vS "istă" 3987, vS "iști" 3988] 0)
noncomputable def o1078 := ob (vT "tuple") (sq [vS "ist" 3980, vR 1077] 0)
noncomputable def o1079 := ob (vT "list") (sq [vR 1074, vR 1076, vR 1078] 0)
noncomputable def A15 := up (A14 P) [(1073, o1073), (1074, o1074), (1075, o1075), (1076, o1076), (1077, o1077), (1078, o1078), (1079, o1079)] [(3, o3v41 P)]
noncomputable def a15 (P : Params) (os : OsState) : SharedT := st (A15 P) 1080 3990 os
noncomputable def o3v42 := ob (vT "dict") (dc (h6 P [en P "_law_plain" 3989 (vR 1079), en P "_law_verbal" 4086 (vR 1084)]) 21)
noncomputable def o1080 := ob (vT "list") (sq [vS "are" 3991, vS "ere" 3992, vS "ire" 3993, vS "âre" 3994, vS "ind" 3995, vS "ând" 3996, vS "indu" 3997, vS "ându" 3998, vS "eze" 3999, vS "ească" 4000, vS "ez" 4001, vS "ezi" 4002, vS "ează" 4003, vS "esc" 4004, vS "ești" 4005, vS "ește" 4006, vS "ăsc" 4007, vS "ăști" 4008, vS "ăște" 4009, vS "am" 4010, vS "ai" 4011, vS "au" 4012, vS "eam" 4013, vS "eai" 4014, vS "ea" 4015, vS "eați" 4016, vS "eau" 4017, vS "iam" 4018, vS "iai" 4019, vS "ia" 4020, vS "iați" 4021, vS "iau" 4022, vS "ui" 4023, vS "ași" 4024, vS "arăm" 4025, vS "arăți" 4026, vS "ară" 4027, vS "uși" 4028, vS "urăm" 4029, vS "urăți" 4030, vS "ură" 4031, vS "iși" 4032, vS "irăm" 4033, vS "irăți" 4034, vS "iră" 4035, vS "âi" 4036, vS "âși" 4037, vS "ârăm" 4038, vS "ârăți" 4039, vS "âră" 4040, vS "asem" 4041, vS "aseși" 4042, vS "ase" 4043, vS "aserăm" 4044, vS "aserăți" 4045, vS "aseră" 4046, vS "isem" 4047, vS "iseși" 4048, vS "ise" 4049, vS "iserăm" 4050, vS "iserăți" 4051, vS "iseră" 4052, vS "âsem" 4053, vS "âseși" 4054, vS "âse" 4055, vS "âserăm" 4056, vS "âserăți" 4057, vS "âseră" 4058, vS "usem" 4059, vS "useși" 4060, vS "use" 4061, vS "userăm" 4062, vS "userăți" 4063, vS "useră" 4064] 0)
noncomputable def o1081 := ob (vT "tuple") (sq [vS "behind" 3990, vR 1080] 0)
noncomputable def o1082 := ob (vT "list") (sq [vS "ăm" 4066, vS "ați" 4067, vS "em" 4068, vS "eți" 4069, vS "im" 4070, vS "iți" 4071, vS "âm" 4072, vS "âți" 4073, vS "seși" 4074, vS "serăm" 4075, vS "serăți" 4076, vS "seră" 4077, vS "sei" 4078, vS "se" 4079, vS "sesem" 4080, vS "seseși" 4081, vS "sese" 4082, vS "seserăm" 4083, vS "seserăți" 4084, vS "seseră" 4085] 0)
noncomputable def o1083 := ob (vT "tuple") (sq [vS "any" 4065, vR 1082] 0)
noncomputable def o1084 := ob (vT "list") (sq [vR 1081, vR 1083] 0)
noncomputable def A16 := up (A15 P) [(1080, o1080), (1081, o1081), (1082, o1082), (1083, o1083), (1084, o1084)] [(3, o3v42 P)]
noncomputable def a16 (P : Params) (os : OsState) : SharedT := st (A16 P) 1085 4087 os
noncomputable def h7 (t : List DictEntry) : List DictEntry := h6 P (en P "_law_plain" 3989 (vR 1079) :: en P "_law_verbal" 4086 (vR 1084) :: en P "_law_last" 4093 (vR 1087) :: t)
noncomputable def o3v43 := ob (vT "dict") (dc (h7 P []) 22)
noncomputable def o1085 := ob (vT "list") (sq [vS "a" 4088, vS "e" 4089, vS "i" 4090, vS "ie" 4091, vS "ă" 4092] 0)
noncomputable def o1086 := ob (vT "tuple") (sq [vS "" 4087, vR 1085] 0)
noncomputable def o1087 := ob (vT "list") (sq [vR 1086] 0)
noncomputable def A17 := up (A16 P) [(1085, o1085), (1086, o1086), (1087, o1087)] [(3, o3v43 P)]
noncomputable def a17 (P : Params) (os : OsState) : SharedT := st (A17 P) 1088 4094 os
noncomputable def o3v44 := ob (vT "dict") (dc (h7 P [en P "_law_vowel" 4100 (vR 1094)]) 23)
noncomputable def h16 (t : List Value) : List Value := h15 (vI 581 0 :: vI 0 0 :: vR 1093 :: t)
noncomputable def o12v44 := ob .none (fl (h16 []))
noncomputable def o1088 := ob (vT "tuple") (sq [] 0)
noncomputable def o1089 := ob .none (fl [])
noncomputable def o1090 := ob (vT "tuple") (sq [vS "sign" 4097] 0)
noncomputable def o1091 := ob (vT "tuple") (sq [] 0)
noncomputable def o1092 := ob .none (fA (stm 17) "_law_vowel")
noncomputable def o1093 := cd "_law_vowel" 4094 "_law_vowel" 4095 4096 581 1 3 1088 (.bool true) 1089 .none (vR 1090) (vR 1091) (vR 1092) 4098 4099
noncomputable def o1094 := ob (vT "function") (fB (stm 17) "_law_vowel" (vS "law_is0017_01" 3844) (vR 1093))
noncomputable def A18 := up (A17 P) [(1088, o1088), (1089, o1089), (1090, o1090), (1091, o1091), (1092, o1092), (1093, o1093), (1094, o1094)] [(3, o3v44 P), (12, o12v44)]
noncomputable def a18 (P : Params) (os : OsState) : SharedT := st (A18 P) 1095 4101 os
noncomputable def o3v45 := ob (vT "dict") (dc (h7 P [en P "_law_vowel" 4100 (vR 1094), en P "_law_past" 4109 (vR 1101)]) 24)
noncomputable def h17 (t : List Value) : List Value := h16 (vI 583 0 :: vI 0 0 :: vR 1100 :: t)
noncomputable def o12v45 := ob .none (fl (h17 []))
noncomputable def o1095 := ob (vT "tuple") (sq [] 0)
noncomputable def o1096 := ob .none (fl [])
noncomputable def o1097 := ob (vT "tuple") (sq [vS "word" 4104, vS "place" 4105, vS "vowel" 4106] 0)
noncomputable def o1098 := ob (vT "tuple") (sq [] 0)
noncomputable def o1099 := ob .none (fA (stm 18) "_law_past")
noncomputable def o1100 := cd "_law_past" 4101 "_law_past" 4102 4103 583 3 3 1095 (.bool true) 1096 .none (vR 1097) (vR 1098) (vR 1099) 4107 4108
noncomputable def o1101 := ob (vT "function") (fB (stm 18) "_law_past" (vS "law_is0017_01" 3844) (vR 1100))
noncomputable def A19 := up (A18 P) [(1095, o1095), (1096, o1096), (1097, o1097), (1098, o1098), (1099, o1099), (1100, o1100), (1101, o1101)] [(3, o3v45 P), (12, o12v45)]
noncomputable def a19 (P : Params) (os : OsState) : SharedT := st (A19 P) 1102 4110 os
noncomputable def h8 (t : List DictEntry) : List DictEntry := h7 P (en P "_law_vowel" 4100 (vR 1094) :: en P "_law_past" 4109 (vR 1101) :: en P "_law_longest" 4122 (vR 1108) :: t)
noncomputable def o3v46 := ob (vT "dict") (dc (h8 P []) 25)
noncomputable def h18 (t : List Value) : List Value := h17 (vI 587 0 :: vI 0 0 :: vR 1107 :: t)
noncomputable def o12v46 := ob .none (fl (h18 []))
noncomputable def o1102 := ob (vT "tuple") (sq [] 0)
noncomputable def o1103 := ob .none (fl [])
noncomputable def o1104 := ob (vT "tuple") (sq [vS "word" 4113, vS "rows" 4114, vS "size" 4115, vS "put" 4116, vS "done" 4117, vS "ends" 4118, vS "end" 4119] 0)
noncomputable def o1105 := ob (vT "tuple") (sq [] 0)
noncomputable def o1106 := ob .none (fA (stm 19) "_law_longest")
noncomputable def o1107 := cd "_law_longest" 4110 "_law_longest" 4111 4112 587 2 3 1102 (.bool true) 1103 .none (vR 1104) (vR 1105) (vR 1106) 4120 4121
noncomputable def o1108 := ob (vT "function") (fB (stm 19) "_law_longest" (vS "law_is0017_01" 3844) (vR 1107))
noncomputable def A20 := up (A19 P) [(1102, o1102), (1103, o1103), (1104, o1104), (1105, o1105), (1106, o1106), (1107, o1107), (1108, o1108)] [(3, o3v46 P), (12, o12v46)]
noncomputable def a20 (P : Params) (os : OsState) : SharedT := st (A20 P) 1109 4123 os
noncomputable def o3v47 := ob (vT "dict") (dc (h8 P [en P "_law_marked" 4128 (vR 1113)]) 26)
noncomputable def h19 (t : List Value) : List Value := h18 (vI 596 0 :: vI 0 0 :: vR 1112 :: t)
noncomputable def o12v47 := ob .none (fl (h19 []))
noncomputable def o1109 := ob (vT "tuple") (sq [] 0)
noncomputable def o1110 := ob .none (fl [])
noncomputable def o1111 := ob .none (fA (stm 20) "_law_marked")
noncomputable def o1112 := cd "_law_marked" 4123 "_law_marked" 4124 4125 596 1 3 1109 (.bool true) 1110 .none .none .none (vR 1111) 4126 4127
noncomputable def o1113 := ob (vT "function") (fB (stm 20) "_law_marked" (vS "law_is0017_01" 3844) (vR 1112))
noncomputable def A21 := up (A20 P) [(1109, o1109), (1110, o1110), (1111, o1111), (1112, o1112), (1113, o1113)] [(3, o3v47 P), (12, o12v47)]
noncomputable def a21 (P : Params) (os : OsState) : SharedT := st (A21 P) 1114 4129 os
noncomputable def o3v48 := ob (vT "dict") (dc (h8 P [en P "_law_marked" 4128 (vR 1113), en P "_law_stem" 4134 (vR 1118)]) 27)
noncomputable def h20 (t : List Value) : List Value := h19 (vI 605 0 :: vI 0 0 :: vR 1117 :: t)
noncomputable def o12v48 := ob .none (fl (h20 []))
noncomputable def o1114 := ob (vT "tuple") (sq [] 0)
noncomputable def o1115 := ob .none (fl [])
noncomputable def o1116 := ob .none (fA (stm 21) "_law_stem")
noncomputable def o1117 := cd "_law_stem" 4129 "_law_stem" 4130 4131 605 1 3 1114 (.bool true) 1115 .none .none .none (vR 1116) 4132 4133
noncomputable def o1118 := ob (vT "function") (fB (stm 21) "_law_stem" (vS "law_is0017_01" 3844) (vR 1117))
noncomputable def A22 := up (A21 P) [(1114, o1114), (1115, o1115), (1116, o1116), (1117, o1117), (1118, o1118)] [(3, o3v48 P), (12, o12v48)]
noncomputable def a22 (P : Params) (os : OsState) : SharedT := st (A22 P) 1119 4135 os
noncomputable def o3v49 := ob (vT "dict") (dc (h8 P [en P "_law_marked" 4128 (vR 1113), en P "_law_stem" 4134 (vR 1118), en P "law" 4148 (vR 1125)]) 28)
noncomputable def o12v49 := ob .none (fl (h20 [vI 640 0, vI 0 0, vR 1124]))
noncomputable def o1119 := ob (vT "tuple") (sq [] 0)
noncomputable def o1120 := ob .none (fl [])
noncomputable def o1121 := ob (vT "tuple") (sq [vS "script" 4138, vS "ends" 4139, vS "rows" 4140, vS "put" 4141, vS "row" 4142, vS "word" 4143, vS "number" 4144, vS "k" 4145] 0)
noncomputable def o1122 := ob (vT "tuple") (sq [] 0)
noncomputable def o1123 := ob .none (fA (stm 22) "law")
noncomputable def o1124 := cd "law" 4135 "law" 4136 4137 640 1 3 1119 (.bool true) 1120 .none (vR 1121) (vR 1122) (vR 1123) 4146 4147
noncomputable def o1125 := ob (vT "function") (fB (stm 22) "law" (vS "law_is0017_01" 3844) (vR 1124))
noncomputable def A23 := up (A22 P) [(1119, o1119), (1120, o1120), (1121, o1121), (1122, o1122), (1123, o1123), (1124, o1124), (1125, o1125)] [(3, o3v49 P), (12, o12v49)]
noncomputable def a23 (P : Params) (os : OsState) : SharedT := st (A23 P) 1126 4149 os
noncomputable def Mt (x : Am) (t : List Obj) := amA P x :: amB x.n :: amC P x :: t
noncomputable def fin := boot_o_0 P :: boot_o_1 P :: o2v36 P :: o3v49 P :: boot_o_4 P :: boot_o_5 P :: boot_o_6 P :: boot_o_7 P :: boot_o_8 P :: boot_o_9 P :: boot_o_10 P :: o11 :: o12v49 :: o13 :: o14 :: o15 :: o16 :: o17 :: o18 :: o19 :: o20 :: o21 :: o22 :: o23 :: o24 P :: o25 :: o26 :: o27 :: o28 :: o29 :: o30 :: o31 :: o32 :: o33 :: o34 :: o35 :: o36 :: o37 :: o38 :: o39 :: o40 :: o41 :: o42 :: o43 :: o44 :: o45 :: o46 :: o47 :: o48 :: o49 :: o50 :: o51 :: o52 :: o53 :: o54 :: o55 :: o56 :: o57 :: o58 :: o59 :: o60 :: o61 :: o62 :: o63 :: o64 :: o65 :: o66 :: o67 :: o68 :: o69 :: o70 :: o71 :: o72 :: o73 :: o74 :: o75 :: o76 :: o77 :: o78 :: o79 :: o80 :: o81 :: o82 :: o83 :: o84 :: o85 :: o86 :: o87 :: o88 :: o89 :: o90 :: o91 :: o92 :: o93 :: o94 :: o95 :: o96 :: o97 :: o98 :: o99 :: o100 :: o101 :: o102 :: o103 :: o104 :: o105 :: o106 :: o107 :: o108 :: o109 :: o110 :: o111 :: o112 :: o113 :: o114 :: o115 :: o116 :: o117 :: o118 :: o119 :: o120 :: o121 :: o122 :: o123 :: o124 :: o125 :: o126 :: o127 :: o128 :: o129 :: o130 :: o131 :: o132 :: o133 :: o134 :: o135 :: o136 :: o137 :: o138 :: o139 :: o140 :: o141 :: o142 :: o143 :: o144 :: o145 :: o146 :: o147 :: o148 :: o149 :: o150 :: o151 :: o152 :: o153 :: o154 :: o155 :: o156 :: o157 :: o158 :: o159 :: o160 :: o161 :: o162 :: o163 :: o164 :: o165 :: o166 :: o167 :: o168 :: o169 :: o170 :: o171 :: o172 :: o173 :: o174 :: o175 :: o176 :: o177 :: o178 :: o179 :: o180 :: o181 :: o182 :: o183 :: o184 :: o185 :: o186 :: o187 :: o188 :: o189 :: o190 :: o191 :: o192 :: o193 :: o194 :: o195 :: o196 :: o197 :: o198 P :: o199v33 :: o200 :: o201 :: o202 :: o203 :: o204 :: o205 :: o206 P :: o207 :: o208 :: o209 :: o210 :: o211 :: o212 :: o213 :: o214 :: o215 :: o216 :: o217 :: o218 :: o219 P :: o220 :: o221 :: o222 :: o223 :: o224 :: o225 :: o226 :: o227v33 P :: o228 :: o229v23 :: o230 :: o231 :: o232 P :: o233 :: o234 :: o235 :: o236 :: o237 :: o238 :: o239 :: o240 :: o241 :: o242 :: o243 :: o244 :: o245 :: o246 :: o247 :: o248 :: o249 :: o250 :: o251 :: o252 :: o253 :: o254 :: o255 :: o256 :: o257 :: o258 :: o259 :: o260 :: o261 :: o262 :: o263 :: o264 :: o265 :: o266 :: o267 :: o268 :: o269 :: o270 :: o271 :: o272 :: o273 :: o274 :: o275 :: o276 :: o277 :: o278 :: o279 :: o280 :: o281 :: o282 :: o283 :: o284 :: o285 :: o286 :: o287 :: o288 :: o289 :: o290 :: o291 :: o292 :: o293 :: o294 :: o295 :: o296 :: o297 :: o298 :: o299 :: o300 :: o301 :: o302 :: o303 :: o304 :: o305 :: o306 :: o307 :: o308 :: o309 :: (Mt P m310 <| Mt P m313 <| o316 :: o317 :: (Mt P m318 <| Mt P m321 <| Mt P m324 <| o327 :: (Mt P m328 <| Mt P m331 <| Mt P m334 <| Mt P m337 <| Mt P m340 <| Mt P m343 <| Mt P m346 <| Mt P m349 <| Mt P m352 <| Mt P m355 <| Mt P m358 <| Mt P m361 <| Mt P m364 <| Mt P m367 <| Mt P m370 <| Mt P m373 <| o376 :: (Mt P m377 <| Mt P m380 <| Mt P m383 <| Mt P m386 <| Mt P m389 <| Mt P m392 <| Mt P m395 <| Mt P m398 <| Mt P m401 <| Mt P m404 <| Mt P m407 <| Mt P m410 <| Mt P m413 <| Mt P m416 <| Mt P m419 <| Mt P m422 <| Mt P m425 <| Mt P m428 <| Mt P m431 <| Mt P m434 <| Mt P m437 <| Mt P m440 <| Mt P m443 <| Mt P m446 <| Mt P m449 <| Mt P m452 <| Mt P m455 <| Mt P m458 <| Mt P m461 <| Mt P m464 <| Mt P m467 <| Mt P m470 <| Mt P m473 <| Mt P m476 <| Mt P m479 <| Mt P m482 <| Mt P m485 <| Mt P m488 <| Mt P m491 <| Mt P m494 <| Mt P m497 <| Mt P m500 <| Mt P m503 <| Mt P m506 <| Mt P m509 <| Mt P m512 <| o515 :: o516 :: (Mt P m517 <| Mt P m520 <| Mt P m523 <| Mt P m526 <| Mt P m529 <| Mt P m532 <| Mt P m535 <| Mt P m538 <| Mt P m541 <| Mt P m544 <| Mt P m547 <| Mt P m550 <| Mt P m553 <| Mt P m556 <| Mt P m559 <| Mt P m562 <| Mt P m565 <| Mt P m568 <| Mt P m571 <| Mt P m574 <| Mt P m577 <| Mt P m580 <| Mt P m583 <| Mt P m586 <| Mt P m589 <| Mt P m592 <| Mt P m595 <| Mt P m598 <| Mt P m601 <| Mt P m604 <| Mt P m607 <| Mt P m610 <| Mt P m613 <| Mt P m616 <| Mt P m619 <| Mt P m622 <| Mt P m625 <| Mt P m628 <| Mt P m631 <| Mt P m634 <| Mt P m637 <| Mt P m640 <| Mt P m643 <| Mt P m646 <| Mt P m649 <| Mt P m652 <| Mt P m655 <| Mt P m658 <| Mt P m661 <| Mt P m664 <| Mt P m667 <| Mt P m670 <| Mt P m673 <| Mt P m676 <| Mt P m679 <| Mt P m682 <| Mt P m685 <| Mt P m688 <| Mt P m691 <| Mt P m694 <| Mt P m697 <| Mt P m700 <| o703 :: (Mt P m704 <| Mt P m707 <| Mt P m710 <| Mt P m713 <| Mt P m716 <| Mt P m719 <| Mt P m722 <| Mt P m725 <| Mt P m728 <| Mt P m731 <| Mt P m734 <| Mt P m737 <| Mt P m740 <| Mt P m743 <| Mt P m746 <| Mt P m749 <| Mt P m752 <| Mt P m755 <| Mt P m758 <| Mt P m761 <| Mt P m764 <| Mt P m767 <| Mt P m770 <| Mt P m773 <| Mt P m776 <| Mt P m779 <| Mt P m782 <| Mt P m785 <| Mt P m788 <| Mt P m791 <| Mt P m794 <| Mt P m797 <| Mt P m800 <| Mt P m803 <| Mt P m806 <| Mt P m809 <| Mt P m812 <| Mt P m815 <| Mt P m818 <| Mt P m821 <| Mt P m824 <| Mt P m827 <| Mt P m830 <| Mt P m833 <| Mt P m836 <| Mt P m839 <| Mt P m842 <| Mt P m845 <| Mt P m848 <| Mt P m851 <| Mt P m854 <| Mt P m857 <| Mt P m860 <| Mt P m863 <| Mt P m866 <| Mt P m869 <| Mt P m872 <| Mt P m875 <| Mt P m878 <| Mt P m881 <| Mt P m884 <| Mt P m887 <| Mt P m890 <| Mt P m893 <| Mt P m896 <| Mt P m899 <| Mt P m902 <| Mt P m905 <| Mt P m908 <| Mt P m911 <| Mt P m914 <| Mt P m917 <| Mt P m920 <| Mt P m923 <| Mt P m926 <| Mt P m929 <| Mt P m932 <| Mt P m935 <| Mt P m938 <| Mt P m941 <| Mt P m944 <| Mt P m947 <| Mt P m950 <| Mt P m953 <| Mt P m956 <| Mt P m959 <| Mt P m962 <| Mt P m965 <| Mt P m968 <| Mt P m971 <| Mt P m974 <| Mt P m977 <| Mt P m980 <| Mt P m983 <| o986 :: (Mt P m987 <| Mt P m990 <| Mt P m993 <| Mt P m996 <| Mt P m999 <| o1002 :: o1003 :: o1004 P :: o1005 :: o1006 :: o1007 :: o1008 :: o1009 :: o1010 P :: o1011 :: o1012 :: o1013 :: o1014 :: o1015 :: o1016 P :: o1017 :: o1018 :: o1019 :: o1020 :: o1021 :: o1022 :: o1023 P :: o1024 :: o1025 :: o1026 :: o1027 :: o1028 :: o1029 P :: o1030 :: o1031 :: o1032 :: o1033 :: o1034 :: o1035 :: o1036 P :: o1037 :: o1038 :: o1039 :: o1040 :: o1041 :: o1042 P :: o1043 :: o1044 :: o1045 :: o1046 :: o1047 :: o1048 :: o1049 :: o1050 :: o1051 :: o1052 :: o1053 :: o1054 :: o1055 :: o1056 :: o1057 :: o1058 :: o1059 :: o1060 :: o1061 :: o1062 :: o1063 :: o1064 :: o1065 :: o1066 :: o1067 :: o1068 :: o1069 :: o1070 :: o1071 :: o1072 :: o1073 :: o1074 :: o1075 :: o1076 :: o1077 :: o1078 :: o1079 :: o1080 :: o1081 :: o1082 :: o1083 :: o1084 :: o1085 :: o1086 :: o1087 :: o1088 :: o1089 :: o1090 :: o1091 :: o1092 :: o1093 :: o1094 :: o1095 :: o1096 :: o1097 :: o1098 :: o1099 :: o1100 :: o1101 :: o1102 :: o1103 :: o1104 :: o1105 :: o1106 :: o1107 :: o1108 :: o1109 :: o1110 :: o1111 :: o1112 :: o1113 :: o1114 :: o1115 :: o1116 :: o1117 :: o1118 :: o1119 :: o1120 :: o1121 :: o1122 :: o1123 :: o1124 :: o1125 :: [])))))))
end
section
theorem goT_add {w : World} : ∀ {n m : Nat} {s s' : SharedT} {t t' : Thread} {r : Option (SharedT × Thread)}, goT w n s t = some (s', t') → goT w m s' t' = r → goT w (n + m) s t = r
 | 0, m, s, s', t, t', r, h, k => by
  obtain ⟨rfl, rfl⟩ : s = s' ∧ t = t' := by simpa [goT, segGoT] using h
  rw [Nat.zero_add]; exact k
 | n + 1, m, s, s', t, t', r, h, k => by
  rw [show n + 1 + m = n + m + 1 by lia]
  unfold goT segGoT at h ⊢
  cases he : endAt 0 t with
  | some x => rw [he] at h; cases h
  | none =>
   rw [he] at h
   cases hk : stepOk 11 ann t with
   | false => rw [hk] at h; cases h
   | true =>
    rw [hk] at h
    cases hs : stepT (denote treeTable) pw w s t with
    | none => rw [hs] at h; cases h
    | some q => obtain ⟨s₂, t₂⟩ := q; rw [hs] at h; exact goT_add h k
noncomputable def Lw (w : World) (b : Nat) {α : Type} (m : Sem α) (p p' : Pos) (Q : α → SharedT → Prop) (S : SharedT) : Prop :=
 ∀ (k : Result → Sem Fin) (l : List Value) (K : α → Sem Fin) (H : Value → Sem Fin) (gd : Bool → Bool) (lv : List Value → List Value),
  ∃ n, n ≤ b ∧ ∃ a S', goT w n S ⟨m.wrap K H gd lv, ccode, p, fr k l⟩ = some (S', ⟨K a, ccode, p', fr k l⟩) ∧ Q a S'
section
variable {w : World} {α β : Type} {p p' p₁ : Pos} {S : SharedT}
theorem Lw_pure {a : α} {Q : α → SharedT → Prop} (h : Q a S) : Lw w 0 (pure a : Sem α) p p Q S := fun k l K H gd lv => ⟨0, Nat.le_refl _, a, S, rfl, h⟩
theorem Lw_mono {b b' : Nat} {m : Sem α} {Q Q' : α → SharedT → Prop} (h : Lw w b m p p' Q S) (hb : b ≤ b') (hq : ∀ a S', Q a S' → Q' a S') : Lw w b' m p p' Q' S := fun k l K H gd lv =>
 let ⟨n, hn, a, S', e, q⟩ := h k l K H gd lv
 ⟨n, Nat.le_trans hn hb, a, S', e, hq a S' q⟩
theorem Lw_bind {b₁ b₂ : Nat} {m : Sem α} {f : α → Sem β} {Q : β → SharedT → Prop} (h : Lw w b₁ m p p₁ (fun a S₁ => Lw w b₂ (f a) p₁ p' Q S₁) S) : Lw w (b₁ + b₂) (m >>= f) p p' Q S := fun k l K H gd lv => by
 obtain ⟨n, hn, a, S₁, e, h'⟩ := h k l (fun a => (f a).wrap K H gd lv) H gd lv
 obtain ⟨n', hn', a', S', e', q⟩ := h' k l K H gd lv
 refine ⟨n + n', Nat.add_le_add hn hn', a', S', ?_, q⟩
 rw [Sem.bind_eq_wrap', Sem.wrap_wrap]
 exact goT_add e e'
theorem Lw_keep {b : Nat} {m : Sem α} {vs : List Value} {Q : α → SharedT → Prop} (h : Lw w b m p p' Q S) : Lw w b (m.keep vs) p p' Q S := fun k l K H gd lv => by
 rw [Sem.keep_eq_wrap, Sem.wrap_wrap]
 exact h k l K H gd (fun l => lv (vs ++ l))
theorem Lw_holding {b : Nat} {m : Sem α} {vs : List Value} {Q : α → SharedT → Prop} (h : Lw w b m p p' Q S) : Lw w b (holding vs m) p p' Q S := by
 rw [holding_eq_keep]; exact Lw_keep h
theorem Lw_of {n : Nat} {m : Sem α} {a : α} {S' : SharedT} {Q : α → SharedT → Prop} (h : ∀ (k : Result → Sem Fin) (l : List Value) (K : α → Sem Fin) (H : Value → Sem Fin) (gd : Bool → Bool) (lv : List Value → List Value),
  goT w n S ⟨m.wrap K H gd lv, ccode, p, fr k l⟩ = some (S', ⟨K a, ccode, p', fr k l⟩)) (q : Q a S') : Lw w n m p p' Q S := fun k l K H gd lv => ⟨n, Nat.le_refl _, a, S', h k l K H gd lv, q⟩
theorem Lw_rule {t : String} {Q : Unit → SharedT → Prop} (q : Q () S) : Lw w 1 (rule t) p p Q S := Lw_of (fun _ _ _ _ _ _ => rfl) q
end
section
variable {w : World} {p p' : Pos} {T : BT} {n tk : Nat} {os : OsState} {a : Nat} {c : Value} {d : Option Addr} {sl : Array (Option Value)} {es : Array (Int × Value)} {ep : Nat} {t : SetTable}
theorem goT_one {S S' : SharedT} {th th' : Thread} (h1 : endAt 0 th = none) (h2 : stepOk 11 ann th = true) (h3 : stepT (denote treeTable) pw w S th = some (S', th')) : goT w 1 S th = some (S', th') := by
 unfold goT segGoT
 rw [h1, h2, h3]
 rfl
theorem Lw_load {o : Obj} {Q : Obj → SharedT → Prop} (hn : Nat.blt a n = true) (g : T.get a = some o) (al : alive o = some o) (q : Q o (st T n tk os)) : Lw w 1 (load a) p p Q (st T n tk os) := by
 refine Lw_of (fun k l K H gd lv => ?_) q
 refine goT_one rfl rfl ?_
 show (match Nat.blt a n with
   | true => match T.get a with
    | some o => match alive o with
     | some o' => some ((st T n tk os, ⟨K o', ccode, p, fr k l⟩) : SharedT × Thread)
     | none => none
    | none => none
   | false => none) = _
 rw [hn, g]
 dsimp only
 rw [al]
theorem Lw_update {f : Obj → Obj} {o : Obj} {Q : Unit → SharedT → Prop} (h11 : Nat.ble 11 a = true) (hn : Nat.blt a n = true) (g : T.get a = some o) (al : alive o = some o) (q : Q () (st (T.set a f) n tk os)) : Lw w 1 (update a f) p p Q (st T n tk os) := by
 refine Lw_of (fun k l K H gd lv => ?_) q
 refine goT_one rfl ?_ ?_
 ·show (true && (Nat.ble 11 a || a == mainNs || a == cStatics || ann == some (.ref a))) = true
  rw [h11]; rfl
 show (match Nat.blt a n with
   | true => match T.get a with
    | some o => match alive o with
     | some o' => some ((st (T.set a f) n tk os, ⟨K (), ccode, p, fr k l⟩) : SharedT × Thread)
     | none => none
    | none => none
   | false => none) = _
 rw [hn, g]
 dsimp only
 rw [al]
noncomputable abbrev setO (es : Array (Int × Value)) (ep : Nat) (t : SetTable) : Obj := ob (vT "set") (.set es ep t)
theorem Lw_setState {Q : (Array (Int × Value) × Nat × SetTable) → SharedT → Prop} (hn : Nat.blt a n = true) (g : T.get a = some (setO es ep t)) (hf : t.fits es.size = true) (q : Q (es, ep, t) (st T n tk os)) : Lw w 1 (setState a) p p Q (st T n tk os) := by
 have hc : (t.place.size != es.size || decide (t.fill > t.mask)) = false := by
  simp only [SetTable.fits, Bool.and_eq_true, beq_iff_eq, decide_eq_true_eq] at hf
  simp [hf.1, Nat.not_lt.mpr hf.2]
 unfold setState
 refine Lw_bind (b₁ := 1) (b₂ := 0) (Lw_load hn g rfl ?_)
 dsimp only
 rw [hc]
 simp only [Bool.false_eq_true, ↓reduceIte]
 exact Lw_pure q
theorem Lw_storeSet {es' : Array (Int × Value)} {t' : SetTable} {Q : Unit → SharedT → Prop} (h11 : Nat.ble 11 a = true) (hn : Nat.blt a n = true) (g : T.get a = some (setO es ep t)) (hz : es'.size ≤ sizeLine)
  (q : ∀ T', (∀ i, T'.get i = if i = a then some (setO es' (ep + 1) t') else T.get i) → Q () (st T' n tk os)) : Lw w 2 (storeSet a es' t') p p Q (st T n tk os) := by
 unfold storeSet
 refine Lw_bind (b₁ := 1) (b₂ := 1) (Lw_load hn g rfl ?_)
 dsimp only
 rw [if_neg (Nat.not_lt.mpr hz)]
 refine Lw_update h11 hn g rfl (q _ fun i => ?_)
 rw [BT.get_set]
 by_cases e : i = a
 ·rw [if_pos e, if_pos e, g]; rfl
 ·rw [if_neg e, if_neg e]
theorem Lw_gave {b : Bool} {Q : Unit → SharedT → Prop} {S : SharedT} (q : Q () S) : Lw w 1 (match b with | true => rule "set.scan.the-table-gave-way" | false => pure ()) p p Q S := by
 cases b
 ·exact Lw_mono (Lw_pure q) (Nat.zero_le _) fun _ _ h => h
 ·exact Lw_rule q
noncomputable abbrev KS (w : World) := strKind pw w
theorem Lw_tail {es1 : Array (Int × Value)} {t2 : SetTable} {wasDummy : Bool} {g : Bool → Sem Unit} (hg : ∀ (b : Bool) (S : SharedT) (Q' : Unit → SharedT → Prop), Q' () S → Lw w 1 (g b) p p Q' S)
  (h11 : Nat.ble 11 a = true) (hn : Nat.blt a n = true) (g0 : T.get a = some (setO es ep t)) (hz : es1.size ≤ sizeLine) {Q : Option Bool → SharedT → Prop}
  (q : ∀ T', (∀ i, T'.get i = if i = a then some (ob (vT "set") (if (!wasDummy && t2.tooFull) = true then .set (relayAll t2 es1 (SetTable.grown es1.size)).1 (ep + 2) (relayAll t2 es1 (SetTable.grown es1.size)).2.1 else .set es1 (ep + 1) t2)) else T.get i) → Q (some true) (st T' n tk os)) :
  Lw w 5 (do
    storeSet a es1 t2
    if (!wasDummy && t2.tooFull) = true then do
      g (relayAll t2 es1 (SetTable.grown es1.size)).2.2
      storeSet a (relayAll t2 es1 (SetTable.grown es1.size)).1 (relayAll t2 es1 (SetTable.grown es1.size)).2.1
      pure (some true)
     else pure (some true)) p p Q (st T n tk os) := by
 refine Lw_bind (b₁ := 2) (b₂ := 3) (Lw_storeSet h11 hn g0 hz fun T' hT => ?_)
 by_cases hc : (!wasDummy && t2.tooFull) = true
 ·rw [if_pos hc]
  refine Lw_bind (b₁ := 1) (b₂ := 2) (hg _ _ _ ?_)
  have hsz : (relayAll t2 es1 (SetTable.grown es1.size)).1.size ≤ sizeLine := by
   have hp := relayAll_perm t2 es1 (SetTable.grown es1.size)
   rw [← Array.length_toList, hp.length_eq, Array.length_toList]; exact hz
  refine Lw_bind (b₁ := 2) (b₂ := 0) (Lw_storeSet h11 hn ((hT a).trans (if_pos rfl)) hsz fun T'' hT' => ?_)
  refine Lw_pure (q _ fun i => ?_)
  rw [hT' i, hT i, if_pos hc]
  by_cases e : i = a
  ·rw [if_pos e, if_pos e]
  ·rw [if_neg e, if_neg e, if_neg e]
 ·rw [if_neg hc]
  refine Lw_mono (Lw_pure (q _ fun i => ?_)) (Nat.zero_le _) fun _ _ h => h
  rw [hT i, if_neg hc]
theorem Lw_scan {x : PySem.Str} {tk' : Nat} {Q : ScanMet → SharedT → Prop} {S : SharedT} (hel : ElemsOf (KS w) es.toList) (hnew : ∀ e ∈ es.toList, (KS w).is x e.2 = false) (hex : es.all (fun e => isExactStrKey e.2) = true)
  (q : Q .absent S) {h : Int} : Lw w 0 (setScan a (.str x tk') h true es) p p Q S := by
 unfold setScan
 dsimp only
 rw [if_pos hex]
 unfold setScanStrs
 have hidx : es.findIdx? (fun e => e.2.isStr x) = none := by
  rw [Array.findIdx?_eq_none_iff]
  intro e he
  have := hnew e (Array.mem_toList_iff.mpr he)
  rw [← (KS w).strs x x 0 e.2 (strKind_is pw w x 0)]; exact this
 rw [hidx]
 exact Lw_pure q
theorem exact_of {l : List (Int × Value)} (hel : ElemsOf (KS w) l) : ∀ e ∈ l, isExactStrKey e.2 = true := fun e he => by
 obtain ⟨⟨k, hk, _⟩, _⟩ := hel e he
 obtain ⟨h, v⟩ := e
 cases v <;> first | rfl | exact absurd hk (by intro q; cases q)
theorem Lw_add {x : PySem.Str} {tk' : Nat} {Q : Bool → SharedT → Prop} (h11 : Nat.ble 11 a = true) (hn : Nat.blt a n = true) (g0 : T.get a = some (setO es ep t)) (hf : t.fits es.size = true)
  (hel : ElemsOf (KS w) es.toList) (hnew : ∀ e ∈ es.toList, (KS w).is x e.2 = false) (hb : es.size + 1 < scanBound)
  (q : ∀ T', (∀ i, T'.get i = if i = a then some (ob (vT "set") (addD (PyData.keyHash w.params x) (.str x tk') (.set es ep t))) else T.get i) → Q true (st T' n tk os)) :
  Lw w 9 (setAddHashed a (.str x tk') (PyData.keyHash w.params x)) p p Q (st T n tk os) := by
 unfold setAddHashed setAddHashedIn
 refine Lw_holding (Lw_bind (b₁ := 1) (b₂ := 8) (Lw_setState hn g0 hf ?_))
 dsimp only
 rw [byScan_of (knd := KS w) rfl (by lia) hel]
 simp only [↓reduceIte]
 unfold setAddByScan
 refine Lw_bind (p₁ := p) (b₁ := 8) (b₂ := 0) ?_
 refine Lw_bind (p₁ := p) (b₁ := 1) (b₂ := 7) (Lw_rule ?_)
 refine Lw_bind (b₁ := 0) (b₂ := 7) (Lw_scan hel hnew (by rw [← Array.all_toList, List.all_eq_true]; exact exact_of hel) ?_)
 dsimp only
 have hperm := layNew_perm t es (PyData.keyHash w.params x) (.str x tk')
 have hszl : (layNew t es (PyData.keyHash w.params x) (.str x tk')).1.size ≤ sizeLine := by
  rw [← Array.length_toList, hperm.length_eq, Array.toList_push, List.length_append, Array.length_toList]
  exact fits_of_scanBound (by simpa using hb)
 simp only [addD] at q
 generalize hL : layNew t es (PyData.keyHash w.params x) (.str x tk') = L at hszl q ⊢
 obtain ⟨es1, t1, wasDummy, gave⟩ := L
 dsimp only at hszl q ⊢
 refine Lw_bind (p₁ := p) (b₁ := 1) (b₂ := 6) ?_
 have hg : ∀ (b : Bool) (S : SharedT) (Q' : Unit → SharedT → Prop), Q' () S → Lw w 1 (match b with | true => rule "set.scan.the-table-gave-way" | false => pure ()) p p Q' S := fun b S Q' h => Lw_gave h
 refine hg _ _ _ ?_
 have fin : ∀ T', Q true (st T' n tk os) → Lw w 0 (match (some true : Option Bool) with
   | some added => pure added
   | none => setAddHashedIn a (.str x tk') (PyData.keyHash w.params x) 99999) p p Q (st T' n tk os) := fun T' h => Lw_pure h
 by_cases hp : t1.plain = true
 ·rw [if_pos hp] at q ⊢
  refine Lw_bind (p₁ := p) (b₁ := 0) (b₂ := 6) ?_
  rw [hashByValue_scannable 8 rfl]
  refine Lw_pure ?_
  refine Lw_mono (Lw_tail hg h11 hn g0 hszl fun T' hT => fin T' (q T' hT)) (by lia) fun _ _ h => h
 ·rw [if_neg hp] at q ⊢
  refine Lw_bind (p₁ := p) (b₁ := 0) (b₂ := 6) (Lw_pure ?_)
  refine Lw_mono (Lw_tail hg h11 hn g0 hszl fun T' hT => fin T' (q T' hT)) (by lia) fun _ _ h => h
end

noncomputable def Good (w : World) (d : Data) (D : List PySem.Str) : Prop :=
 ∃ es ep t, d = .set es ep t ∧ t.fits es.size = true ∧ ElemsOf (KS w) es.toList ∧ (∀ k, k ∈ D ↔ ∃ e ∈ es.toList, (KS w).is k e.2 = true) ∧ es.size = D.length
theorem good0 (w : World) (led : Bool) : Good w (lay0 led) [] := ⟨_, _, _, rfl, by rfl, fun e he => by simp at he, fun k => by simp, rfl⟩
theorem good_add {w : World} {d : Data} {D : List PySem.Str} (x : PySem.Str) (tk : Nat) (g : Good w d D) : Good w (addD (PyData.keyHash w.params x) (.str x tk) d) (D ++ [x]) := by
 obtain ⟨es, ep, t, rfl, hf, hel, hm, hs⟩ := g
 have hperm := layNew_perm t es (PyData.keyHash w.params x) (.str x tk)
 have hfits := layNew_fits t es (PyData.keyHash w.params x) (.str x tk)
 simp only [addD]
 generalize layNew t es (PyData.keyHash w.params x) (.str x tk) = L at hperm hfits ⊢
 obtain ⟨es1, t1, wd, gv⟩ := L
 dsimp only at hperm hfits ⊢
 rw [Array.toList_push] at hperm
 have hkey : (KS w).is x (.str x tk) = true := strKind_is pw w x tk
 have hel1 : ElemsOf (KS w) es1.toList := (hel.push hkey rfl).perm hperm
 have hm1 : ∀ k, k ∈ D ++ [x] ↔ ∃ e ∈ es1.toList, (KS w).is k e.2 = true := fun k => by
  have := mem_push_iff (S := fun k => decide (k ∈ D)) hkey (fun k' => by rw [decide_eq_true_eq]; exact hm k') hperm k
  rw [← this]; simp
 have hs1 : es1.size = (D ++ [x]).length := by rw [← Array.length_toList, hperm.length_eq, List.length_append, Array.length_toList, hs]; simp
 have hf2 : (if t1.plain = true then { t1 with plain := false } else t1 : SetTable).fits es1.size = true := by
  split
  ·exact SetTable.fits_plain_off hfits
  ·exact hfits
 generalize (if t1.plain = true then { t1 with plain := false } else t1 : SetTable) = t2 at hf2
 split
 ·have hp := relayAll_perm t2 es1 (SetTable.grown es1.size)
  refine ⟨_, _, _, rfl, relayAll_fits _ _ _, hel1.perm hp, fun k => (hm1 k).trans ⟨fun ⟨e, he, q⟩ => ⟨e, hp.mem_iff.mpr he, q⟩, fun ⟨e, he, q⟩ => ⟨e, hp.mem_iff.mp he, q⟩⟩, ?_⟩
  rw [← Array.length_toList, hp.length_eq, Array.length_toList, hs1]
 ·exact ⟨_, _, _, rfl, hf2, hel1, hm1, hs1⟩
theorem good_unled {w : World} {d : Data} {D : List PySem.Str} (g : Good w d D) : Good w (unledD d) D := by
 obtain ⟨es, ep, t, rfl, hf, hel, hm, hs⟩ := g
 exact ⟨_, _, _, rfl, by cases t; exact hf, hel, hm, hs⟩
theorem good_fold {w : World} (L : List (String × Nat)) : ∀ (d : Data) (D : List PySem.Str), Good w d D →
  Good w (L.foldl (fun d x => addD (PyData.keyHash w.params (PySem.Str.ofString x.1)) (vS x.1 x.2) d) d) (D ++ L.map fun x => PySem.Str.ofString x.1) := by
 induction L with
 | nil => intro d D g; simpa using g
 | cons x L ih =>
  intro d D g
  have := ih _ _ (good_add (PySem.Str.ofString x.1) x.2 g)
  rw [List.foldl_cons, List.map_cons]
  rwa [List.append_assoc] at this
theorem good_Xd (w : World) : Good w (Xd w.params) (vows.map fun x => PySem.Str.ofString x.1) := by
 have := good_unled (good_fold (w := w) vows (lay0 (!w.params.followText "set-order")) [] (good0 w _))
 rwa [List.nil_append] at this
theorem Xd_set (w : World) : Xd w.params = .set (xE w.params) (xN w.params) (xT w.params) := by
 obtain ⟨es, ep, t, e, _⟩ := good_Xd w
 unfold xE xN xT
 rw [e]
theorem hash_run (w : World) (T : BT) (n tk : Nat) (os : OsState) (x : PySem.Str) (t : Nat) (p : Pos) (k : Result → Sem Fin) (l : List Value) (K : Int → Sem Fin) (H : Value → Sem Fin) (gd : Bool → Bool) (lv : List Value → List Value) :
  goT w 7 (st T n tk os) ⟨(pyHash (.str x t)).wrap K H gd lv, ccode, p, fr k l⟩ = some (st T n (tk + 1) os, ⟨K (PyData.keyHash w.params x), ccode, p, fr k l⟩) := by
 refine byRow2 "special-get-raises" (P := fun w => goT w 7 (st T n tk os) ⟨(pyHash (.str x t)).wrap K H gd lv, ccode, p, fr k l⟩ = some (st T n (tk + 1) os, ⟨K (PyData.keyHash w.params x), ccode, p, fr k l⟩)) ?_ ?_ w
 ·intro w; kernel_rfl
 ·intro w; kernel_rfl

section
variable {w : World} {p p' : Pos} {n : Nat} {os : OsState}
theorem Lw_setAdd {T : BT} {tk a : Nat} {d : Data} {D : List PySem.Str} {x : PySem.Str} {t : Nat} {Q : Bool → SharedT → Prop} (h11 : Nat.ble 11 a = true) (hn : Nat.blt a n = true) (G : Good w d D) (hx : x ∉ D) (hD : D.length < 1000) (g0 : T.get a = some (ob (vT "set") d))
  (q : ∀ T', (∀ i, T'.get i = if i = a then some (ob (vT "set") (addD (PyData.keyHash w.params x) (.str x t) d)) else T.get i) → Q true (st T' n (tk + 1) os)) : Lw w 16 (setAdd a (.str x t)) p p Q (st T n tk os) := by
 obtain ⟨es, ep, tb, rfl, hf, hel, hm, hs⟩ := G
 unfold setAdd
 refine Lw_holding (Lw_bind (p₁ := p) (b₁ := 7) (b₂ := 9) (Lw_of (hash_run w T n tk os x t p) ?_))
 refine Lw_add h11 hn g0 hf hel (fun e he => ?_) (by have h1 : scanBound = 4096 := rfl; rw [h1, hs]; lia) q
 cases hq : (KS w).is x e.2 with
 | false => rfl
 | true => exact absurd ((hm x).mpr ⟨e, he, hq⟩) hx
theorem Lw_loop {a : Nat} {f : Value → PUnit → Sem (ForInStep PUnit)} (hf : ∀ v, f v PUnit.unit = (setAdd a v >>= fun _ => pure (ForInStep.yield PUnit.unit))) (h11 : Nat.ble 11 a = true) (hn : Nat.blt a n = true) :
  ∀ (L : List (String × Nat)) (d : Data) (D : List PySem.Str) (T : BT) (tk : Nat) (Q : PUnit → SharedT → Prop), Good w d D → T.get a = some (ob (vT "set") d) → D.length + L.length < 1000 → (D ++ L.map fun x => PySem.Str.ofString x.1).Nodup →
  (∀ T', (∀ i, T'.get i = if i = a then some (ob (vT "set") (L.foldl (fun d x => addD (PyData.keyHash w.params (PySem.Str.ofString x.1)) (vS x.1 x.2) d) d)) else T.get i) → Q PUnit.unit (st T' n (tk + L.length) os)) →
  Lw w (16 * L.length) (forIn (L.map fun x => vS x.1 x.2) PUnit.unit f) p p Q (st T n tk os)
 | [], d, D, T, tk, Q, G, g0, hl, hd, q => by
  rw [List.map_nil, List.forIn_nil]
  refine Lw_pure (q T fun i => ?_)
  by_cases e : i = a
  ·rw [if_pos e, e, g0]; rfl
  ·rw [if_neg e]
 | x :: L, d, D, T, tk, Q, G, g0, hl, hd, q => by
  rw [List.map_cons, List.forIn_cons, hf]
  have hx : PySem.Str.ofString x.1 ∉ D := fun h => by
   rw [List.map_cons, List.nodup_append] at hd
   exact hd.2.2 _ h _ (.head _) rfl
  rw [show 16 * (x :: L).length = (16 + 0) + 16 * L.length by rw [List.length_cons]; lia]
  refine Lw_bind (p₁ := p) (Lw_bind (p₁ := p) (Lw_setAdd h11 hn G hx (by simp only [List.length_cons] at hl; lia) g0 fun T' hT => Lw_pure ?_))
  dsimp only
  refine Lw_loop hf h11 hn L _ _ T' (tk + 1) Q (good_add _ x.2 G) ((hT a).trans (if_pos rfl)) (by simp only [List.length_append, List.length_cons, List.length_nil] at hl ⊢; lia) (by rw [List.append_assoc]; exact hd) fun T'' hT' => ?_
  rw [show tk + 1 + L.length = tk + (x :: L).length by rw [List.length_cons]; lia]
  refine q T'' fun i => ?_
  rw [hT' i, hT i]
  by_cases e : i = a
  ·rw [if_pos e, if_pos e]; rfl
  ·rw [if_neg e, if_neg e, if_neg e]
theorem Lw_unled {T : BT} {tk a : Nat} {d : Data} {D : List PySem.Str} {Q : Unit → SharedT → Prop} (h11 : Nat.ble 11 a = true) (hn : Nat.blt a n = true) (G : Good w d D) (hD : D.length < 1000) (g0 : T.get a = some (ob (vT "set") d))
  (q : ∀ T', (∀ i, T'.get i = if i = a then some (ob (vT "set") (unledD d)) else T.get i) → Q () (st T' n tk os)) : Lw w 3 (setUnled a) p p Q (st T n tk os) := by
 obtain ⟨es, ep, tb, rfl, hf, hel, hm, hs⟩ := G
 unfold setUnled
 refine Lw_bind (p₁ := p) (b₁ := 1) (b₂ := 2) (Lw_setState hn g0 hf ?_)
 dsimp only
 exact Lw_storeSet h11 hn g0 (fits_of_scanBound (by have h1 : scanBound = 4096 := rfl; rw [h1, hs]; lia)) q
end
noncomputable def setEs : PySem.Expr → List PySem.Expr
 | .Set es _ _ => es
 | _ => []
noncomputable abbrev gvE : List PySem.Expr := setEs (asgV (cst 6 0))
noncomputable abbrev p3 : Pos := ⟨216, 4, 216, 53⟩
noncomputable abbrev p2 : Pos := ⟨216, 10, 216, 53⟩
noncomputable abbrev gvR (v : Value) : Sem Flow := asgR (cst 6 0) v
theorem exec_gv : exec (cst 6 0) cenv = ((standAt p3 >>= fun _ => eval (asgV (cst 6 0)) cenv) >>= gvR) := by kernel_rfl
noncomputable abbrev gvT : List (Bool × Sem Value) := (starEach gvE cenv).map fun (x : Bool × Sem Value) => (x.1, (x.2 >>= fun v => standAt p2 >>= fun _ => pure v))
theorem eval_gv : eval (asgV (cst 6 0)) cenv = (standAt p2 >>= fun _ => inMainModule cenv >>= fun m => setDisplay .unsure m gvT) := by kernel_rfl
noncomputable abbrev c0a (P : Params) (os : OsState) : SharedT := st ((C0 P).ins 232 (ob (vT "set") (lay0 (!P.followText "set-order")))) 233 487 os
noncomputable abbrev c0b (P : Params) (os : OsState) : SharedT := st ((C0 P).ins 232 (ob (vT "set") (lay0 (!P.followText "set-order")))) 233 495 os
theorem gv_main (w : World) (os : OsState) (k : Result → Sem Fin) (l : List Value) (K : Bool → Sem Fin) (H : Value → Sem Fin) (gd : Bool → Bool) (lv : List Value → List Value) :
  goT w 2 (c0 w.params os) ⟨(inMainModule cenv).wrap K H gd lv, ccode, p2, fr k l⟩ = some (c0 w.params os, ⟨K true, ccode, p2, fr k l⟩) := by kernel_rfl
theorem gv_new (w : World) (os : OsState) (k : Result → Sem Fin) (l : List Value) (K : Value → Sem Fin) (H : Value → Sem Fin) (gd : Bool → Bool) (lv : List Value → List Value) :
  goT w 2 (c0 w.params os) ⟨(newSet (.type "set")).wrap K H gd lv, ccode, p2, fr k l⟩ = some (c0a w.params os, ⟨K (.ref 232), ccode, p2, fr k l⟩) := by kernel_rfl
theorem gv_els (w : World) (os : OsState) (k : Result → Sem Fin) (l : List Value) (K : List Value → Sem Fin) (H : Value → Sem Fin) (gd : Bool → Bool) (lv : List Value → List Value) :
  goT w 16 (c0a w.params os) ⟨(evalAll (gvT.map (·.2))).wrap K H gd lv, ccode, p2, fr k l⟩ = some (c0b w.params os, ⟨K (vows.map fun x => vS x.1 x.2), ccode, p2, fr k l⟩) := by kernel_rfl
theorem gv_store (w : World) (os : OsState) (k : Result → Sem Fin) (l : List Value) (K : Flow → Sem Fin) (H : Value → Sem Fin) (gd : Bool → Bool) (lv : List Value → List Value) :
  goT w 8 (st ((C0 w.params).ins 232 (o232 w.params)) 233 503 os) ⟨(assignAll (.ref 232) ((assignEach (asgT (cst 6 0)) cenv).map (·.2)) >>= fun _ => (pure .next : Sem Flow)).wrap K H gd lv, ccode, p2, fr k l⟩ = some (c1 w.params os, ⟨K .next, ccode, ⟨216, 4, 216, 7⟩, fr k l⟩) := by kernel_rfl

theorem Lw_standAt {w : World} {p p' : Pos} {S : SharedT} {Q : Unit → SharedT → Prop} (q : Q () S) : Lw w 1 (standAt p') p p' Q S := Lw_of (fun _ _ _ _ _ _ => rfl) q
theorem gv_value (w : World) (os : OsState) (p : Pos) : Lw w 200 (standAt p3 >>= fun _ => eval (asgV (cst 6 0)) cenv) p p2
  (fun v S' => v = .ref 232 ∧ ∃ T', S' = st T' 233 503 os ∧ ∀ i, T'.get i = ((C0 w.params).ins 232 (o232 w.params)).get i) (c0 w.params os) := by
 rw [eval_gv]
 refine Lw_bind (p₁ := p3) (b₁ := 1) (b₂ := 199) (Lw_standAt ?_)
 refine Lw_bind (p₁ := p2) (b₁ := 1) (b₂ := 198) (Lw_standAt ?_)
 refine Lw_bind (p₁ := p2) (b₁ := 2) (b₂ := 196) (Lw_of (gv_main w os) ?_)
 have g32 : ∀ o : Obj, ((C0 w.params).ins 232 o).get 232 = some o := fun o => by kernel_rfl
 have gins : ∀ (o : Obj) (i : Nat), ((C0 w.params).ins 232 o).get i = if i = 232 then some o else (C0 w.params).get i := fun o i => BT.get_ins o _ 232 (by rw [g32]; rfl) i
 unfold setDisplay
 refine Lw_bind (p₁ := p2) (b₁ := 2) (b₂ := 194) (Lw_of (gv_new w os) ?_)
 dsimp only
 have hn : (if gvT.length > 30 then 0 else (gvT.findIdx? (·.1)).getD gvT.length) = gvT.length := by kernel_rfl
 rw [hn, List.take_length, List.drop_length]
 refine Lw_bind (p₁ := p2) (b₁ := 194) (b₂ := 0) (Lw_holding ?_)
 refine Lw_bind (p₁ := p2) (b₁ := 16) (b₂ := 178) (Lw_of (gv_els w os) ?_)
 refine Lw_bind (p₁ := p2) (b₁ := 178) (b₂ := 0) (Lw_holding ?_)
 refine Lw_bind (p₁ := p2) (b₁ := 16 * vows.length) (b₂ := 50) ?_
 refine Lw_loop (fun v => rfl) rfl rfl vows _ [] _ 495 _ (good0 w _) (g32 _) (by decide) (by decide +kernel) fun T' hT => ?_
 have hg : Good w (vows.foldl (fun d x => addD (PyData.keyHash w.params (PySem.Str.ofString x.1)) (vS x.1 x.2) d) (lay0 (!w.params.followText "set-order"))) (vows.map fun x => PySem.Str.ofString x.1) := by
  have := good_fold (w := w) vows (lay0 (!w.params.followText "set-order")) [] (good0 w _)
  rwa [List.nil_append] at this
 rw [if_pos (by rfl)]
 refine Lw_bind (p₁ := p2) (b₁ := 1) (b₂ := 49) (Lw_rule ?_)
 refine Lw_mono (b := 3) (Lw_unled rfl rfl hg (by decide) ((hT 232).trans (if_pos rfl)) fun T'' hT' => ?_) (by lia) fun _ _ h => h
 rw [List.forIn_nil]
 refine Lw_bind (p₁ := p2) (b₁ := 0) (b₂ := 0) (Lw_pure ?_)
 refine Lw_pure (Lw_pure ⟨rfl, T'', rfl, fun i => ?_⟩)
 rw [hT' i, hT i, gins, gins]
 by_cases e : i = 232
 ·rw [if_pos e, if_pos e]
  show some (ob (vT "set") (Xd w.params)) = _
  rw [Xd_set]
  rfl
 ·rw [if_neg e, if_neg e, if_neg e, if_neg e]
end
noncomputable abbrev thC (K : Flow → Sem Fin) (H : Value → Sem Fin) : Thread := ⟨(exec (stm 6) menv).wrap K H id id, mcode, ⟨214, 0, 214, 8⟩, B0⟩
noncomputable def stackOf : Option (SharedT × Thread) → List Frame
 | some (_, t) => t.stack
 | none => []
noncomputable def headF : List Frame → Frame
 | f :: _ => f
 | [] => topFrame ⟨0, 0, 0, 0⟩
noncomputable def retK : Frame → Result → Sem Fin
 | .ret k _ _ _ _ _ _ => k
 | .gen .. => fun _ => .unsupported ""
noncomputable def retL : Frame → List Value
 | .ret _ _ _ l _ _ _ => l
 | .gen .. => []
noncomputable def frm (w : World) (os : OsState) (K : Flow → Sem Fin) (H : Value → Sem Fin) : Frame := headF (stackOf (goT w 64 (a6 w.params os) (thC K H)))
theorem pre6 (w : World) (os : OsState) (K : Flow → Sem Fin) (H : Value → Sem Fin) : goT w 64 (a6 w.params os) (thC K H) =
  some (c0 w.params os, ⟨denote treeTable ccode, ccode, ⟨215, 0, 567, 106⟩, fr (retK (frm w os K H)) (retL (frm w os K H))⟩) := by
 kernel_rfl
theorem post6 (w : World) (os : OsState) (K : Flow → Sem Fin) (H : Value → Sem Fin) : goT w 177 (c25 w.params os) ⟨doneF .next, ccode, ⟨567, 4, 567, 7⟩, fr (retK (frm w os K H)) (retL (frm w os K H))⟩ =
  some (a7 w.params os, ⟨K .next, mcode, ⟨215, 0, 567, 106⟩, B0⟩) := by
 kernel_rfl
section
theorem through_of (t : Thread) : endAt 0 t = none → through t = false := by
 obtain ⟨cur, code, pos, stack⟩ := t
 cases stack with
 | cons => exact fun _ => rfl
 | nil =>
  cases cur <;> first | exact fun _ => rfl | skip
  rename_i f
  cases f <;> first | exact fun _ => rfl | exact fun q => Option.noConfusion rfl (heq_of_eq q)
theorem topGo_of_seg {tb : String → Option Builtin} {p : Program} {w : World} {n₀ : Nat} {an : Option Value} {n : Nat} {s : Shared} {t : Thread} {r : Shared × Thread} (h : segGo tb p w n₀ an 0 n s t = some r) : topGo tb p w n₀ an n s t = some r := by
 induction n generalizing s t with
 | zero => exact h
 | succ n ih =>
  unfold segGo at h
  unfold topGo
  cases he : endAt 0 t with
  | some x => rw [he] at h; cases h
  | none =>
   rw [he] at h
   rw [through_of t he]
   cases hk : stepOk n₀ an t with
   | false => rw [hk] at h; cases h
   | true =>
    rw [hk] at h
    cases hs : step (denote tb) p w s t with
    | halt o s₂ => rw [hs] at h; cases h
    | go s₂ t₂ => rw [hs] at h; exact ih h
theorem topGo_add {tb : String → Option Builtin} {p : Program} {w : World} {n₀ : Nat} {an : Option Value} : ∀ {n m : Nat} {s s' : Shared} {t t' : Thread} {r : Option (Shared × Thread)}, topGo tb p w n₀ an n s t = some (s', t') → topGo tb p w n₀ an m s' t' = r → topGo tb p w n₀ an (n + m) s t = r
 | 0, m, s, s', t, t', r, h, k => by
  obtain ⟨rfl, rfl⟩ : s = s' ∧ t = t' := by simpa [topGo] using h
  rw [Nat.zero_add]; exact k
 | n + 1, m, s, s', t, t', r, h, k => by
  rw [show n + 1 + m = n + m + 1 by lia]
  unfold topGo at h ⊢
  cases ht : through t with
  | true => rw [ht] at h; cases h
  | false =>
   rw [ht] at h
   cases hk : stepOk n₀ an t with
   | false => rw [hk] at h; cases h
   | true =>
    rw [hk] at h
    cases hs : step (denote tb) p w s t with
    | halt o s₂ => rw [hs] at h; cases h
    | go s₂ t₂ => rw [hs] at h; exact topGo_add h k
noncomputable def Lead (w : World) (b : Nat) (s : Shared) (t : Thread) (s' : Shared) (t' : Thread) : Prop := ∃ n, n ≤ b ∧ topGo treeTable pw w 11 ann n s t = some (s', t')
section
variable {w : World} {s s' s'' : Shared} {t t' t'' : Thread} {a b n : Nat} {S S' : SharedT}
theorem Lead.refl : Lead w 0 s t s t := ⟨0, Nat.le_refl _, rfl⟩
theorem Lead.trans (h : Lead w a s t s' t') (k : Lead w b s' t' s'' t'') : Lead w (a + b) s t s'' t'' := by
 obtain ⟨n, hn, e⟩ := h
 obtain ⟨m, hm, e'⟩ := k
 exact ⟨n + m, Nat.add_le_add hn hm, topGo_add e e'⟩
theorem Lead.of (h : goT w n S t = some (S', t')) : Lead w n S.abs t S'.abs t' := ⟨n, Nat.le_refl _, topGo_of_seg (segGo_of h)⟩
theorem Lead.le (h : Lead w a s t s' t') (hb : a ≤ b) : Lead w b s t s' t' := let ⟨n, hn, e⟩ := h; ⟨n, Nat.le_trans hn hb, e⟩
variable {env : Env} {code : Code} {p p' : Pos} {B : List Frame} {K : Flow → Sem Fin} {H : Value → Sem Fin}
theorem lead_stmt {x : Stmt} {rest : List Stmt} (h : ∀ (K : Flow → Sem Fin) (H : Value → Sem Fin), Lead w n s ⟨(exec x env).wrap K H id id, code, p, B⟩ s' ⟨K .next, code, p', B⟩) :
  Lead w n s ⟨(execs (x :: rest) env).wrap K H id id, code, p, B⟩ s' ⟨(execs rest env).wrap K H id id, code, p', B⟩ := by
 rw [execs_cons_wrap]
 exact h _ _
end
section
variable {w : World} {k : Result → Sem Fin} {l : List Value} {os : OsState}
inductive Els (w : World) (k : Result → Sem Fin) (l : List Value) : List PySem.Expr → SharedT → Pos → List Value → SharedT → Pos → Prop
 | nil {S : SharedT} {p : Pos} : Els w k l [] S p [] S p
 | cons {e : PySem.Expr} {es : List PySem.Expr} {S S₁ S' : SharedT} {p p₁ p' : Pos} {v c : Nat} {vs : List Value} : elP w k l S S₁ e c v p p₁ → Nat.ble c 170 = true → Els w k l es S₁ p₁ vs S' p' → Els w k l (e :: es) S p (.ref v :: vs) S' p'
theorem Els.append {es es' : List PySem.Expr} {S S₁ S' : SharedT} {p p₁ p' : Pos} {vs vs' : List Value} (h : Els w k l es S p vs S₁ p₁) (h' : Els w k l es' S₁ p₁ vs' S' p') : Els w k l (es ++ es') S p (vs ++ vs') S' p' := by
 induction h with
 | nil => exact h'
 | cons a b _ ih => exact .cons a b (ih h')
theorem lead_spliced {q : Pos} {es : List PySem.Expr} {S S' : SharedT} {p p' : Pos} {vs : List Value} (h : Els w k l es S p vs S' p') : es.all kdsPlain = true → ∀ (K : List Value → Sem Fin) (H : Value → Sem Fin) (lv : List Value → List Value),
  Lead w (170 * es.length) S.abs ⟨(spliced (backTo q (starEach es cenv))).wrap K H id lv, ccode, p, fr k l⟩ S'.abs ⟨K vs, ccode, p', fr k l⟩ := by
 induction h with
 | nil => intro _ K H lv; exact Lead.refl
 | @cons e es S S₁ S' p p₁ p' v c vs a b _ ih =>
  intro ha K H lv
  rw [List.all_cons, Bool.and_eq_true] at ha
  have hs : starEach (e :: es) cenv = (false, eval e cenv) :: starEach es cenv := by
   have := ha.1
   cases e <;> first | rfl | exact absurd this (by simp [kdsPlain])
  rw [hs]
  have e2 : (spliced (backTo q ((false, eval e cenv) :: starEach es cenv))).wrap K H id lv =
    (eval e cenv).wrap (fun x => ((holding [x] (spliced (backTo q (starEach es cenv)))) >>= fun r => (pure ([x] ++ r) : Sem (List Value))).wrap K H id lv) H id lv := by
   show (eval e cenv >>= fun x => (pure [x] : Sem (List Value)) >>= fun here => holding here (spliced (backTo q (starEach es cenv))) >>= fun r => (pure (here ++ r) : Sem (List Value))).wrap K H id lv = _
   rw [Sem.bind_eq_wrap', Sem.wrap_wrap]
   rfl
  rw [e2, List.length_cons, show 170 * (es.length + 1) = 170 + 170 * es.length by lia]
  refine Lead.trans ((Lead.of (a _ H lv)).le (Nat.le_of_ble_eq_true b)) ?_
  have e3 : ((holding [.ref v] (spliced (backTo q (starEach es cenv)))) >>= fun r => (pure ([.ref v] ++ r) : Sem (List Value))).wrap K H id lv =
    (spliced (backTo q (starEach es cenv))).wrap (fun r => K (.ref v :: r)) H id (fun l => lv ([.ref v] ++ l)) := by
   show (((spliced (backTo q (starEach es cenv))).keep [.ref v]) >>= fun r => (pure ([.ref v] ++ r) : Sem (List Value))).wrap K H id lv = _
   rw [Sem.bind_eq_wrap', Sem.wrap_wrap, Sem.keep_eq_wrap, Sem.wrap_wrap]
   rfl
  rw [e3]
  exact ih ha.2 _ _ _
theorem lead_list {x : Stmt} {S S' S'' : SharedT} {p p₁ q' : Pos} {vs : List Value} {c b : Nat} (hx : exec x cenv = (standAt (stmtPos x) >>= fun _ => standAt (asgV x).pos >>= fun _ => spliced (backTo (asgV x).pos (starEach (elts x) cenv)) >>= fun vs => newList vs >>= asgR x))
  (h : Els w k l (elts x) S (asgV x).pos vs S' p₁) (ha : (elts x).all kdsPlain = true)
  (hs : ∀ (K : Flow → Sem Fin) (H : Value → Sem Fin), goT w c S' ⟨(newList vs >>= asgR x).wrap K H id id, ccode, p₁, fr k l⟩ = some (S'', ⟨K .next, ccode, q', fr k l⟩)) (hb : Nat.ble (2 + 170 * (elts x).length + c) b = true)
  (K : Flow → Sem Fin) (H : Value → Sem Fin) : Lead w b S.abs ⟨(exec x cenv).wrap K H id id, ccode, p, fr k l⟩ S''.abs ⟨K .next, ccode, q', fr k l⟩ := by
 rw [hx]
 refine Lead.le ?_ (Nat.le_of_ble_eq_true hb)
 refine Lead.trans (Lead.trans (s' := S.abs) (t' := ⟨(spliced (backTo (asgV x).pos (starEach (elts x) cenv)) >>= fun vs => newList vs >>= asgR x).wrap K H id id, ccode, (asgV x).pos, fr k l⟩) ?_ ?_) (Lead.of (hs K H))
 ·exact Lead.of (n := 2) rfl
 ·rw [Sem.bind_eq_wrap', Sem.wrap_wrap]
  exact lead_spliced h ha _ _ _
end
theorem absHeap_ext {T T' : BT} {n : Nat} {life : Life} (h : ∀ i, T.get i = T'.get i) : absHeap T n life = absHeap T' n life := by
 unfold absHeap BT.list
 rw [show (fun i => (T.get i).getD default) = fun i => (T'.get i).getD default from funext fun i => by rw [h i]]
theorem lead_gv (w : World) (os : OsState) (k : Result → Sem Fin) (l : List Value) (p : Pos) (K : Flow → Sem Fin) (H : Value → Sem Fin) :
  Lead w 208 (c0 w.params os).abs ⟨(exec (cst 6 0) cenv).wrap K H id id, ccode, p, fr k l⟩ (c1 w.params os).abs ⟨K .next, ccode, ⟨216, 4, 216, 7⟩, fr k l⟩ := by
 rw [exec_gv, Sem.bind_eq_wrap', Sem.wrap_wrap]
 obtain ⟨n, hn, a, S', e, rfl, T', rfl, hT⟩ := gv_value w os p k l (fun v => (gvR v).wrap K H id id) H id id
 refine Lead.trans (a := 200) (b := 8) (Lead.le (Lead.of e) hn) ?_
 have e2 : (st T' 233 503 os).abs = (st ((C0 w.params).ins 232 (o232 w.params)) 233 503 os).abs := by
  show Shared.mk _ _ _ _ _ = Shared.mk _ _ _ _ _
  rw [absHeap_ext hT]
 rw [e2]
 exact Lead.of (gv_store w os k l K H id id)
end
theorem l0_0 (w : World) (os : OsState) (K : Flow → Sem Fin) (H : Value → Sem Fin) : goT w 29 (a0 w.params os) ⟨(exec (stm 0) menv).wrap K H id id, mcode, ⟨0, 0, 0, 0⟩, B0⟩ = some (a1 w.params os, ⟨K .next, mcode, ⟨1, 0, 3, 12⟩, B0⟩) := by
 unfold goT; rw [PySem.W.Fast.te10295753902157049106, PySem.W.Fast.te14364793385576792824]; kernel_rfl
theorem l0_1 (w : World) (os : OsState) (K : Flow → Sem Fin) (H : Value → Sem Fin) : goT w 9 (a1 w.params os) ⟨(exec (stm 1) menv).wrap K H id id, mcode, ⟨1, 0, 3, 12⟩, B0⟩ = some (a2 w.params os, ⟨K .next, mcode, ⟨4, 0, 4, 8⟩, B0⟩) := by
 unfold goT; rw [PySem.W.Fast.te10295753902157049106, PySem.W.Fast.te14364793385576792824]; kernel_rfl
theorem l0_2 (w : World) (os : OsState) (K : Flow → Sem Fin) (H : Value → Sem Fin) : goT w 987 (a2 w.params os) ⟨(exec (stm 2) menv).wrap K H id id, mcode, ⟨4, 0, 4, 8⟩, B0⟩ = some (a3 w.params os, ⟨K .next, mcode, ⟨5, 0, 206, 16⟩, B0⟩) := by
 unfold goT; rw [PySem.W.Fast.te10295753902157049106, PySem.W.Fast.te14364793385576792824]; kernel_rfl
theorem l0_3 (w : World) (os : OsState) (K : Flow → Sem Fin) (H : Value → Sem Fin) : goT w 9 (a3 w.params os) ⟨(exec (stm 3) menv).wrap K H id id, mcode, ⟨5, 0, 206, 16⟩, B0⟩ = some (a4 w.params os, ⟨K .next, mcode, ⟨207, 0, 207, 8⟩, B0⟩) := by
 unfold goT; rw [PySem.W.Fast.te10295753902157049106, PySem.W.Fast.te14364793385576792824]; kernel_rfl
theorem l0_4 (w : World) (os : OsState) (K : Flow → Sem Fin) (H : Value → Sem Fin) : goT w 226 (a4 w.params os) ⟨(exec (stm 4) menv).wrap K H id id, mcode, ⟨207, 0, 207, 8⟩, B0⟩ = some (a5 w.params os, ⟨K .next, mcode, ⟨208, 0, 213, 28⟩, B0⟩) := by
 unfold goT; rw [PySem.W.Fast.te10295753902157049106, PySem.W.Fast.te14364793385576792824]; kernel_rfl
theorem l0_5 (w : World) (os : OsState) (K : Flow → Sem Fin) (H : Value → Sem Fin) : goT w 9 (a5 w.params os) ⟨(exec (stm 5) menv).wrap K H id id, mcode, ⟨208, 0, 213, 28⟩, B0⟩ = some (a6 w.params os, ⟨K .next, mcode, ⟨214, 0, 214, 8⟩, B0⟩) := by
 unfold goT; rw [PySem.W.Fast.te10295753902157049106, PySem.W.Fast.te14364793385576792824]; kernel_rfl
theorem l2_1 (w : World) (os : OsState) (k : Result → Sem Fin) (l : List Value) (K : Flow → Sem Fin) (H : Value → Sem Fin) : goT w 9 (c1 w.params os) ⟨(exec (cst 6 1) cenv).wrap K H id id, ccode, ⟨216, 4, 216, 7⟩, fr k l⟩ = some (c2 w.params os, ⟨K .next, ccode, ⟨217, 4, 217, 29⟩, fr k l⟩) := by
 unfold goT; rw [PySem.W.Fast.te10295753902157049106, PySem.W.Fast.te14364793385576792824]; kernel_rfl
theorem l2_2 (w : World) (os : OsState) (k : Result → Sem Fin) (l : List Value) (K : Flow → Sem Fin) (H : Value → Sem Fin) : goT w 10 (c2 w.params os) ⟨(exec (cst 6 2) cenv).wrap K H id id, ccode, ⟨217, 4, 217, 29⟩, fr k l⟩ = some (c3 w.params os, ⟨K .next, ccode, ⟨218, 4, 218, 8⟩, fr k l⟩) := by
 unfold goT; rw [PySem.W.Fast.te10295753902157049106, PySem.W.Fast.te14364793385576792824]; kernel_rfl
theorem l2_3 (w : World) (os : OsState) (k : Result → Sem Fin) (l : List Value) (K : Flow → Sem Fin) (H : Value → Sem Fin) : goT w 10 (c3 w.params os) ⟨(exec (cst 6 3) cenv).wrap K H id id, ccode, ⟨218, 4, 218, 8⟩, fr k l⟩ = some (c4 w.params os, ⟨K .next, ccode, ⟨219, 4, 219, 8⟩, fr k l⟩) := by
 unfold goT; rw [PySem.W.Fast.te10295753902157049106, PySem.W.Fast.te14364793385576792824]; kernel_rfl
theorem l2_4 (w : World) (os : OsState) (k : Result → Sem Fin) (l : List Value) (K : Flow → Sem Fin) (H : Value → Sem Fin) : goT w 10 (c4 w.params os) ⟨(exec (cst 6 4) cenv).wrap K H id id, ccode, ⟨219, 4, 219, 8⟩, fr k l⟩ = some (c5 w.params os, ⟨K .next, ccode, ⟨220, 4, 220, 8⟩, fr k l⟩) := by
 unfold goT; rw [PySem.W.Fast.te10295753902157049106, PySem.W.Fast.te14364793385576792824]; kernel_rfl
theorem l2_5 (w : World) (os : OsState) (k : Result → Sem Fin) (l : List Value) (K : Flow → Sem Fin) (H : Value → Sem Fin) : goT w 34 (c5 w.params os) ⟨(exec (cst 6 5) cenv).wrap K H id id, ccode, ⟨220, 4, 220, 8⟩, fr k l⟩ = some (c6 w.params os, ⟨K .next, ccode, ⟨222, 4, 253, 19⟩, fr k l⟩) := by
 unfold goT; rw [PySem.W.Fast.te10295753902157049106, PySem.W.Fast.te14364793385576792824]; kernel_rfl
theorem l2_6 (w : World) (os : OsState) (k : Result → Sem Fin) (l : List Value) (K : Flow → Sem Fin) (H : Value → Sem Fin) : goT w 33 (c6 w.params os) ⟨(exec (cst 6 6) cenv).wrap K H id id, ccode, ⟨222, 4, 253, 19⟩, fr k l⟩ = some (c7 w.params os, ⟨K .next, ccode, ⟨255, 4, 300, 19⟩, fr k l⟩) := by
 unfold goT; rw [PySem.W.Fast.te10295753902157049106, PySem.W.Fast.te14364793385576792824]; kernel_rfl
theorem l2_7 (w : World) (os : OsState) (k : Result → Sem Fin) (l : List Value) (K : Flow → Sem Fin) (H : Value → Sem Fin) : goT w 35 (c7 w.params os) ⟨(exec (cst 6 7) cenv).wrap K H id id, ccode, ⟨255, 4, 300, 19⟩, fr k l⟩ = some (c8 w.params os, ⟨K .next, ccode, ⟨302, 4, 379, 19⟩, fr k l⟩) := by
 unfold goT; rw [PySem.W.Fast.te10295753902157049106, PySem.W.Fast.te14364793385576792824]; kernel_rfl
theorem l2_8 (w : World) (os : OsState) (k : Result → Sem Fin) (l : List Value) (K : Flow → Sem Fin) (H : Value → Sem Fin) : goT w 32 (c8 w.params os) ⟨(exec (cst 6 8) cenv).wrap K H id id, ccode, ⟨302, 4, 379, 19⟩, fr k l⟩ = some (c9 w.params os, ⟨K .next, ccode, ⟨381, 4, 401, 19⟩, fr k l⟩) := by
 unfold goT; rw [PySem.W.Fast.te10295753902157049106, PySem.W.Fast.te14364793385576792824]; kernel_rfl
theorem l2_9 (w : World) (os : OsState) (k : Result → Sem Fin) (l : List Value) (K : Flow → Sem Fin) (H : Value → Sem Fin) : goT w 30 (c9 w.params os) ⟨(exec (cst 6 9) cenv).wrap K H id id, ccode, ⟨381, 4, 401, 19⟩, fr k l⟩ = some (c10 w.params os, ⟨K .next, ccode, ⟨403, 4, 404, 39⟩, fr k l⟩) := by
 unfold goT; rw [PySem.W.Fast.te10295753902157049106, PySem.W.Fast.te14364793385576792824]; kernel_rfl
theorem l2_10 (w : World) (os : OsState) (k : Result → Sem Fin) (l : List Value) (K : Flow → Sem Fin) (H : Value → Sem Fin) : goT w 31 (c10 w.params os) ⟨(exec (cst 6 10) cenv).wrap K H id id, ccode, ⟨403, 4, 404, 39⟩, fr k l⟩ = some (c11 w.params os, ⟨K .next, ccode, ⟨406, 4, 434, 19⟩, fr k l⟩) := by
 unfold goT; rw [PySem.W.Fast.te10295753902157049106, PySem.W.Fast.te14364793385576792824]; kernel_rfl
theorem l2_11 (w : World) (os : OsState) (k : Result → Sem Fin) (l : List Value) (K : Flow → Sem Fin) (H : Value → Sem Fin) : goT w 32 (c11 w.params os) ⟨(exec (cst 6 11) cenv).wrap K H id id, ccode, ⟨406, 4, 434, 19⟩, fr k l⟩ = some (c12 w.params os, ⟨K .next, ccode, ⟨436, 4, 448, 19⟩, fr k l⟩) := by
 unfold goT; rw [PySem.W.Fast.te10295753902157049106, PySem.W.Fast.te14364793385576792824]; kernel_rfl
theorem l2_12 (w : World) (os : OsState) (k : Result → Sem Fin) (l : List Value) (K : Flow → Sem Fin) (H : Value → Sem Fin) : goT w 32 (c12 w.params os) ⟨(exec (cst 6 12) cenv).wrap K H id id, ccode, ⟨436, 4, 448, 19⟩, fr k l⟩ = some (c13 w.params os, ⟨K .next, ccode, ⟨450, 4, 480, 19⟩, fr k l⟩) := by
 unfold goT; rw [PySem.W.Fast.te10295753902157049106, PySem.W.Fast.te14364793385576792824]; kernel_rfl
theorem l2_13 (w : World) (os : OsState) (k : Result → Sem Fin) (l : List Value) (K : Flow → Sem Fin) (H : Value → Sem Fin) : goT w 32 (c13 w.params os) ⟨(exec (cst 6 13) cenv).wrap K H id id, ccode, ⟨450, 4, 480, 19⟩, fr k l⟩ = some (c14 w.params os, ⟨K .next, ccode, ⟨482, 4, 510, 19⟩, fr k l⟩) := by
 unfold goT; rw [PySem.W.Fast.te10295753902157049106, PySem.W.Fast.te14364793385576792824]; kernel_rfl
theorem l2_14 (w : World) (os : OsState) (k : Result → Sem Fin) (l : List Value) (K : Flow → Sem Fin) (H : Value → Sem Fin) : goT w 30 (c14 w.params os) ⟨(exec (cst 6 14) cenv).wrap K H id id, ccode, ⟨482, 4, 510, 19⟩, fr k l⟩ = some (c15 w.params os, ⟨K .next, ccode, ⟨512, 4, 520, 19⟩, fr k l⟩) := by
 unfold goT; rw [PySem.W.Fast.te10295753902157049106, PySem.W.Fast.te14364793385576792824]; kernel_rfl
theorem l2_15 (w : World) (os : OsState) (k : Result → Sem Fin) (l : List Value) (K : Flow → Sem Fin) (H : Value → Sem Fin) : goT w 36 (c15 w.params os) ⟨(exec (cst 6 15) cenv).wrap K H id id, ccode, ⟨512, 4, 520, 19⟩, fr k l⟩ = some (c16 w.params os, ⟨K .next, ccode, ⟨522, 4, 558, 19⟩, fr k l⟩) := by
 unfold goT; rw [PySem.W.Fast.te10295753902157049106, PySem.W.Fast.te14364793385576792824]; kernel_rfl
theorem l2_17 (w : World) (os : OsState) (k : Result → Sem Fin) (l : List Value) (K : Flow → Sem Fin) (H : Value → Sem Fin) : goT w 13 (c17 w.params os) ⟨(exec (cst 6 17) cenv).wrap K H id id, ccode, ⟨559, 4, 559, 7⟩, fr k l⟩ = some (c18 w.params os, ⟨K .next, ccode, ⟨560, 4, 560, 8⟩, fr k l⟩) := by
 unfold goT; rw [PySem.W.Fast.te10295753902157049106, PySem.W.Fast.te14364793385576792824]; kernel_rfl
theorem l2_21 (w : World) (os : OsState) (k : Result → Sem Fin) (l : List Value) (K : Flow → Sem Fin) (H : Value → Sem Fin) : goT w 17 (c21 w.params os) ⟨(exec (cst 6 21) cenv).wrap K H id id, ccode, ⟨563, 4, 563, 7⟩, fr k l⟩ = some (c22 w.params os, ⟨K .next, ccode, ⟨564, 4, 564, 8⟩, fr k l⟩) := by
 unfold goT; rw [PySem.W.Fast.te10295753902157049106, PySem.W.Fast.te14364793385576792824]; kernel_rfl
theorem l0_7 (w : World) (os : OsState) (K : Flow → Sem Fin) (H : Value → Sem Fin) : goT w 196 (a7 w.params os) ⟨(exec (stm 7) menv).wrap K H id id, mcode, ⟨215, 0, 567, 106⟩, B0⟩ = some (a8 w.params os, ⟨K .next, mcode, ⟨568, 0, 569, 8⟩, B0⟩) := by
 unfold goT; rw [PySem.W.Fast.te10295753902157049106, PySem.W.Fast.te14364793385576792824]; kernel_rfl
theorem l0_8 (w : World) (os : OsState) (K : Flow → Sem Fin) (H : Value → Sem Fin) : goT w 196 (a8 w.params os) ⟨(exec (stm 8) menv).wrap K H id id, mcode, ⟨568, 0, 569, 8⟩, B0⟩ = some (a9 w.params os, ⟨K .next, mcode, ⟨570, 0, 571, 8⟩, B0⟩) := by
 unfold goT; rw [PySem.W.Fast.te10295753902157049106, PySem.W.Fast.te14364793385576792824]; kernel_rfl
theorem l0_9 (w : World) (os : OsState) (K : Flow → Sem Fin) (H : Value → Sem Fin) : goT w 196 (a9 w.params os) ⟨(exec (stm 9) menv).wrap K H id id, mcode, ⟨570, 0, 571, 8⟩, B0⟩ = some (a10 w.params os, ⟨K .next, mcode, ⟨572, 0, 573, 8⟩, B0⟩) := by
 unfold goT; rw [PySem.W.Fast.te10295753902157049106, PySem.W.Fast.te14364793385576792824]; kernel_rfl
theorem l0_10 (w : World) (os : OsState) (K : Flow → Sem Fin) (H : Value → Sem Fin) : goT w 9 (a10 w.params os) ⟨(exec (stm 10) menv).wrap K H id id, mcode, ⟨572, 0, 573, 8⟩, B0⟩ = some (a11 w.params os, ⟨K .next, mcode, ⟨574, 0, 574, 8⟩, B0⟩) := by
 unfold goT; rw [PySem.W.Fast.te10295753902157049106, PySem.W.Fast.te14364793385576792824]; kernel_rfl
theorem l0_11 (w : World) (os : OsState) (K : Flow → Sem Fin) (H : Value → Sem Fin) : goT w 9 (a11 w.params os) ⟨(exec (stm 11) menv).wrap K H id id, mcode, ⟨574, 0, 574, 8⟩, B0⟩ = some (a12 w.params os, ⟨K .next, mcode, ⟨575, 0, 575, 12⟩, B0⟩) := by
 unfold goT; rw [PySem.W.Fast.te10295753902157049106, PySem.W.Fast.te14364793385576792824]; kernel_rfl
theorem l0_12 (w : World) (os : OsState) (K : Flow → Sem Fin) (H : Value → Sem Fin) : goT w 56 (a12 w.params os) ⟨(exec (stm 12) menv).wrap K H id id, mcode, ⟨575, 0, 575, 12⟩, B0⟩ = some (a13 w.params os, ⟨K .next, mcode, ⟨576, 0, 576, 13⟩, B0⟩) := by
 unfold goT; rw [PySem.W.Fast.te10295753902157049106, PySem.W.Fast.te14364793385576792824]; kernel_rfl
theorem l0_13 (w : World) (os : OsState) (K : Flow → Sem Fin) (H : Value → Sem Fin) : goT w 86 (a13 w.params os) ⟨(exec (stm 13) menv).wrap K H id id, mcode, ⟨576, 0, 576, 13⟩, B0⟩ = some (a14 w.params os, ⟨K .next, mcode, ⟨577, 0, 577, 13⟩, B0⟩) := by
 unfold goT; rw [PySem.W.Fast.te10295753902157049106, PySem.W.Fast.te14364793385576792824]; kernel_rfl
theorem l0_14 (w : World) (os : OsState) (K : Flow → Sem Fin) (H : Value → Sem Fin) : goT w 87 (a14 w.params os) ⟨(exec (stm 14) menv).wrap K H id id, mcode, ⟨577, 0, 577, 13⟩, B0⟩ = some (a15 w.params os, ⟨K .next, mcode, ⟨578, 0, 578, 10⟩, B0⟩) := by
 unfold goT; rw [PySem.W.Fast.te10295753902157049106, PySem.W.Fast.te14364793385576792824]; kernel_rfl
theorem l0_15 (w : World) (os : OsState) (K : Flow → Sem Fin) (H : Value → Sem Fin) : goT w 114 (a15 w.params os) ⟨(exec (stm 15) menv).wrap K H id id, mcode, ⟨578, 0, 578, 10⟩, B0⟩ = some (a16 w.params os, ⟨K .next, mcode, ⟨579, 0, 579, 11⟩, B0⟩) := by
 unfold goT; rw [PySem.W.Fast.te10295753902157049106, PySem.W.Fast.te14364793385576792824]; kernel_rfl
theorem l0_16 (w : World) (os : OsState) (K : Flow → Sem Fin) (H : Value → Sem Fin) : goT w 20 (a16 w.params os) ⟨(exec (stm 16) menv).wrap K H id id, mcode, ⟨579, 0, 579, 11⟩, B0⟩ = some (a17 w.params os, ⟨K .next, mcode, ⟨580, 0, 580, 9⟩, B0⟩) := by
 unfold goT; rw [PySem.W.Fast.te10295753902157049106, PySem.W.Fast.te14364793385576792824]; kernel_rfl
theorem l0_17 (w : World) (os : OsState) (K : Flow → Sem Fin) (H : Value → Sem Fin) : goT w 29 (a17 w.params os) ⟨(exec (stm 17) menv).wrap K H id id, mcode, ⟨580, 0, 580, 9⟩, B0⟩ = some (a18 w.params os, ⟨K .next, mcode, ⟨581, 0, 582, 62⟩, B0⟩) := by
 unfold goT; rw [PySem.W.Fast.te10295753902157049106, PySem.W.Fast.te14364793385576792824]; kernel_rfl
theorem l0_18 (w : World) (os : OsState) (K : Flow → Sem Fin) (H : Value → Sem Fin) : goT w 31 (a18 w.params os) ⟨(exec (stm 18) menv).wrap K H id id, mcode, ⟨581, 0, 582, 62⟩, B0⟩ = some (a19 w.params os, ⟨K .next, mcode, ⟨583, 0, 586, 36⟩, B0⟩) := by
 unfold goT; rw [PySem.W.Fast.te10295753902157049106, PySem.W.Fast.te14364793385576792824]; kernel_rfl
theorem l0_19 (w : World) (os : OsState) (K : Flow → Sem Fin) (H : Value → Sem Fin) : goT w 35 (a19 w.params os) ⟨(exec (stm 19) menv).wrap K H id id, mcode, ⟨583, 0, 586, 36⟩, B0⟩ = some (a20 w.params os, ⟨K .next, mcode, ⟨587, 0, 595, 22⟩, B0⟩) := by
 unfold goT; rw [PySem.W.Fast.te10295753902157049106, PySem.W.Fast.te14364793385576792824]; kernel_rfl
theorem l0_20 (w : World) (os : OsState) (K : Flow → Sem Fin) (H : Value → Sem Fin) : goT w 26 (a20 w.params os) ⟨(exec (stm 20) menv).wrap K H id id, mcode, ⟨587, 0, 595, 22⟩, B0⟩ = some (a21 w.params os, ⟨K .next, mcode, ⟨596, 0, 604, 25⟩, B0⟩) := by
 unfold goT; rw [PySem.W.Fast.te10295753902157049106, PySem.W.Fast.te14364793385576792824]; kernel_rfl
theorem l0_21 (w : World) (os : OsState) (K : Flow → Sem Fin) (H : Value → Sem Fin) : goT w 26 (a21 w.params os) ⟨(exec (stm 21) menv).wrap K H id id, mcode, ⟨596, 0, 604, 25⟩, B0⟩ = some (a22 w.params os, ⟨K .next, mcode, ⟨605, 0, 639, 91⟩, B0⟩) := by
 unfold goT; rw [PySem.W.Fast.te10295753902157049106, PySem.W.Fast.te14364793385576792824]; kernel_rfl
theorem l0_22 (w : World) (os : OsState) (K : Flow → Sem Fin) (H : Value → Sem Fin) : goT w 36 (a22 w.params os) ⟨(exec (stm 22) menv).wrap K H id id, mcode, ⟨605, 0, 639, 91⟩, B0⟩ = some (a23 w.params os, ⟨K .next, mcode, ⟨640, 0, 650, 62⟩, B0⟩) := by
 unfold goT; rw [PySem.W.Fast.te10295753902157049106, PySem.W.Fast.te14364793385576792824]; kernel_rfl
noncomputable def vl16 : List Value := [.ref 311, .ref 314]
theorem lst_16 (w : World) (os : OsState) (k : Result → Sem Fin) (l : List Value) (K : Flow → Sem Fin) (H : Value → Sem Fin) : goT w 9 (st (E16 2 w.params) 316 643 os) ⟨(newList vl16 >>= asgR (cst 6 16)).wrap K H id id, ccode, ⟨559, 31, 559, 49⟩, fr k l⟩ = some (c17 w.params os, ⟨K .next, ccode, ⟨559, 4, 559, 7⟩, fr k l⟩) := by
 kernel_rfl
theorem exl_16 : exec (cst 6 16) cenv = (standAt (stmtPos (cst 6 16)) >>= fun _ => standAt (asgV (cst 6 16)).pos >>= fun _ => spliced (backTo (asgV (cst 6 16)).pos (starEach (elts (cst 6 16)) cenv)) >>= fun vs => newList vs >>= asgR (cst 6 16)) := by
 have h : exec (cst 6 16) cenv = (standAt (stmtPos (cst 6 16)) >>= fun _ => (standAt (asgV (cst 6 16)).pos >>= fun _ => (spliced (backTo (asgV (cst 6 16)).pos (starEach (elts (cst 6 16)) cenv)) >>= newList)) >>= asgR (cst 6 16)) := by kernel_rfl
 rw [h]; simp only [bind_assoc]
noncomputable def vl18 : List Value := [.ref 319, .ref 322, .ref 325]
theorem lst_18 (w : World) (os : OsState) (k : Result → Sem Fin) (l : List Value) (K : Flow → Sem Fin) (H : Value → Sem Fin) : goT w 9 (st (E18 3 w.params) 327 687 os) ⟨(newList vl18 >>= asgR (cst 6 18)).wrap K H id id, ccode, ⟨561, 47, 561, 63⟩, fr k l⟩ = some (c19 w.params os, ⟨K .next, ccode, ⟨561, 4, 561, 7⟩, fr k l⟩) := by
 kernel_rfl
theorem exl_18 : exec (cst 6 18) cenv = (standAt (stmtPos (cst 6 18)) >>= fun _ => standAt (asgV (cst 6 18)).pos >>= fun _ => spliced (backTo (asgV (cst 6 18)).pos (starEach (elts (cst 6 18)) cenv)) >>= fun vs => newList vs >>= asgR (cst 6 18)) := by
 have h : exec (cst 6 18) cenv = (standAt (stmtPos (cst 6 18)) >>= fun _ => (standAt (asgV (cst 6 18)).pos >>= fun _ => (spliced (backTo (asgV (cst 6 18)).pos (starEach (elts (cst 6 18)) cenv)) >>= newList)) >>= asgR (cst 6 18)) := by kernel_rfl
 rw [h]; simp only [bind_assoc]
noncomputable def vl19 : List Value := [.ref 329, .ref 332, .ref 335, .ref 338, .ref 341, .ref 344, .ref 347, .ref 350, .ref 353, .ref 356, .ref 359, .ref 362, .ref 365, .ref 368, .ref 371, .ref 374]
theorem lst_19 (w : World) (os : OsState) (k : Result → Sem Fin) (l : List Value) (K : Flow → Sem Fin) (H : Value → Sem Fin) : goT w 9 (st (E19 16 w.params) 376 910 os) ⟨(newList vl19 >>= asgR (cst 6 19)).wrap K H id id, ccode, ⟨562, 331, 562, 352⟩, fr k l⟩ = some (c20 w.params os, ⟨K .next, ccode, ⟨562, 4, 562, 7⟩, fr k l⟩) := by
 kernel_rfl
theorem exl_19 : exec (cst 6 19) cenv = (standAt (stmtPos (cst 6 19)) >>= fun _ => standAt (asgV (cst 6 19)).pos >>= fun _ => spliced (backTo (asgV (cst 6 19)).pos (starEach (elts (cst 6 19)) cenv)) >>= fun vs => newList vs >>= asgR (cst 6 19)) := by
 have h : exec (cst 6 19) cenv = (standAt (stmtPos (cst 6 19)) >>= fun _ => (standAt (asgV (cst 6 19)).pos >>= fun _ => (spliced (backTo (asgV (cst 6 19)).pos (starEach (elts (cst 6 19)) cenv)) >>= newList)) >>= asgR (cst 6 19)) := by kernel_rfl
 rw [h]; simp only [bind_assoc]
noncomputable def vl20 : List Value := [.ref 378, .ref 381, .ref 384, .ref 387, .ref 390, .ref 393, .ref 396, .ref 399, .ref 402, .ref 405, .ref 408, .ref 411, .ref 414, .ref 417, .ref 420, .ref 423, .ref 426, .ref 429, .ref 432, .ref 435, .ref 438, .ref 441, .ref 444, .ref 447, .ref 450, .ref 453, .ref 456, .ref 459, .ref 462, .ref 465, .ref 468, .ref 471, .ref 474, .ref 477, .ref 480, .ref 483, .ref 486, .ref 489, .ref 492, .ref 495, .ref 498, .ref 501, .ref 504, .ref 507, .ref 510, .ref 513]
theorem lst_20 (w : World) (os : OsState) (k : Result → Sem Fin) (l : List Value) (K : Flow → Sem Fin) (H : Value → Sem Fin) : goT w 9 (st (E20 46 w.params) 515 1553 os) ⟨(newList vl20 >>= asgR (cst 6 20)).wrap K H id id, ccode, ⟨563, 1097, 563, 1119⟩, fr k l⟩ = some (c21 w.params os, ⟨K .next, ccode, ⟨563, 4, 563, 7⟩, fr k l⟩) := by
 kernel_rfl
theorem exl_20 : exec (cst 6 20) cenv = (standAt (stmtPos (cst 6 20)) >>= fun _ => standAt (asgV (cst 6 20)).pos >>= fun _ => spliced (backTo (asgV (cst 6 20)).pos (starEach (elts (cst 6 20)) cenv)) >>= fun vs => newList vs >>= asgR (cst 6 20)) := by
 have h : exec (cst 6 20) cenv = (standAt (stmtPos (cst 6 20)) >>= fun _ => (standAt (asgV (cst 6 20)).pos >>= fun _ => (spliced (backTo (asgV (cst 6 20)).pos (starEach (elts (cst 6 20)) cenv)) >>= newList)) >>= asgR (cst 6 20)) := by kernel_rfl
 rw [h]; simp only [bind_assoc]
noncomputable def vl22 : List Value := [.ref 518, .ref 521, .ref 524, .ref 527, .ref 530, .ref 533, .ref 536, .ref 539, .ref 542, .ref 545, .ref 548, .ref 551, .ref 554, .ref 557, .ref 560, .ref 563, .ref 566, .ref 569, .ref 572, .ref 575, .ref 578, .ref 581, .ref 584, .ref 587, .ref 590, .ref 593, .ref 596, .ref 599, .ref 602, .ref 605, .ref 608, .ref 611, .ref 614, .ref 617, .ref 620, .ref 623, .ref 626, .ref 629, .ref 632, .ref 635, .ref 638, .ref 641, .ref 644, .ref 647, .ref 650, .ref 653, .ref 656, .ref 659, .ref 662, .ref 665, .ref 668, .ref 671, .ref 674, .ref 677, .ref 680, .ref 683, .ref 686, .ref 689, .ref 692, .ref 695, .ref 698, .ref 701]
theorem lst_22 (w : World) (os : OsState) (k : Result → Sem Fin) (l : List Value) (K : Flow → Sem Fin) (H : Value → Sem Fin) : goT w 9 (st (E22 62 w.params) 703 2427 os) ⟨(newList vl22 >>= asgR (cst 6 22)).wrap K H id id, ccode, ⟨565, 1343, 565, 1363⟩, fr k l⟩ = some (c23 w.params os, ⟨K .next, ccode, ⟨565, 4, 565, 7⟩, fr k l⟩) := by
 kernel_rfl
theorem exl_22 : exec (cst 6 22) cenv = (standAt (stmtPos (cst 6 22)) >>= fun _ => standAt (asgV (cst 6 22)).pos >>= fun _ => spliced (backTo (asgV (cst 6 22)).pos (starEach (elts (cst 6 22)) cenv)) >>= fun vs => newList vs >>= asgR (cst 6 22)) := by
 have h : exec (cst 6 22) cenv = (standAt (stmtPos (cst 6 22)) >>= fun _ => (standAt (asgV (cst 6 22)).pos >>= fun _ => (spliced (backTo (asgV (cst 6 22)).pos (starEach (elts (cst 6 22)) cenv)) >>= newList)) >>= asgR (cst 6 22)) := by kernel_rfl
 rw [h]; simp only [bind_assoc]
noncomputable def vl23 : List Value := [.ref 705, .ref 708, .ref 711, .ref 714, .ref 717, .ref 720, .ref 723, .ref 726, .ref 729, .ref 732, .ref 735, .ref 738, .ref 741, .ref 744, .ref 747, .ref 750, .ref 753, .ref 756, .ref 759, .ref 762, .ref 765, .ref 768, .ref 771, .ref 774, .ref 777, .ref 780, .ref 783, .ref 786, .ref 789, .ref 792, .ref 795, .ref 798, .ref 801, .ref 804, .ref 807, .ref 810, .ref 813, .ref 816, .ref 819, .ref 822, .ref 825, .ref 828, .ref 831, .ref 834, .ref 837, .ref 840, .ref 843, .ref 846, .ref 849, .ref 852, .ref 855, .ref 858, .ref 861, .ref 864, .ref 867, .ref 870, .ref 873, .ref 876, .ref 879, .ref 882, .ref 885, .ref 888, .ref 891, .ref 894, .ref 897, .ref 900, .ref 903, .ref 906, .ref 909, .ref 912, .ref 915, .ref 918, .ref 921, .ref 924, .ref 927, .ref 930, .ref 933, .ref 936, .ref 939, .ref 942, .ref 945, .ref 948, .ref 951, .ref 954, .ref 957, .ref 960, .ref 963, .ref 966, .ref 969, .ref 972, .ref 975, .ref 978, .ref 981, .ref 984]
theorem lst_23 (w : World) (os : OsState) (k : Result → Sem Fin) (l : List Value) (K : Flow → Sem Fin) (H : Value → Sem Fin) : goT w 9 (st (E23 94 w.params) 986 3701 os) ⟨(newList vl23 >>= asgR (cst 6 23)).wrap K H id id, ccode, ⟨566, 2127, 566, 2148⟩, fr k l⟩ = some (c24 w.params os, ⟨K .next, ccode, ⟨566, 4, 566, 7⟩, fr k l⟩) := by
 kernel_rfl
theorem exl_23 : exec (cst 6 23) cenv = (standAt (stmtPos (cst 6 23)) >>= fun _ => standAt (asgV (cst 6 23)).pos >>= fun _ => spliced (backTo (asgV (cst 6 23)).pos (starEach (elts (cst 6 23)) cenv)) >>= fun vs => newList vs >>= asgR (cst 6 23)) := by
 have h : exec (cst 6 23) cenv = (standAt (stmtPos (cst 6 23)) >>= fun _ => (standAt (asgV (cst 6 23)).pos >>= fun _ => (spliced (backTo (asgV (cst 6 23)).pos (starEach (elts (cst 6 23)) cenv)) >>= newList)) >>= asgR (cst 6 23)) := by kernel_rfl
 rw [h]; simp only [bind_assoc]
noncomputable def vl24 : List Value := [.ref 988, .ref 991, .ref 994, .ref 997, .ref 1000]
theorem lst_24 (w : World) (os : OsState) (k : Result → Sem Fin) (l : List Value) (K : Flow → Sem Fin) (H : Value → Sem Fin) : goT w 9 (st (E24 5 w.params) 1002 3771 os) ⟨(newList vl24 >>= asgR (cst 6 24)).wrap K H id id, ccode, ⟨567, 87, 567, 105⟩, fr k l⟩ = some (c25 w.params os, ⟨K .next, ccode, ⟨567, 4, 567, 7⟩, fr k l⟩) := by
 kernel_rfl
theorem exl_24 : exec (cst 6 24) cenv = (standAt (stmtPos (cst 6 24)) >>= fun _ => standAt (asgV (cst 6 24)).pos >>= fun _ => spliced (backTo (asgV (cst 6 24)).pos (starEach (elts (cst 6 24)) cenv)) >>= fun vs => newList vs >>= asgR (cst 6 24)) := by
 have h : exec (cst 6 24) cenv = (standAt (stmtPos (cst 6 24)) >>= fun _ => (standAt (asgV (cst 6 24)).pos >>= fun _ => (spliced (backTo (asgV (cst 6 24)).pos (starEach (elts (cst 6 24)) cenv)) >>= newList)) >>= asgR (cst 6 24)) := by kernel_rfl
 rw [h]; simp only [bind_assoc]
noncomputable def goF (w : World) (n : Nat) (s : SharedT) (t : Thread) : Option (SharedT × Thread) := PySem.W.Fast.tw10295753902157049106 PySem.W.Fast.tw14364793385576792824 pw w 11 ann 0 n s t
theorem goF_eq (w : World) (n : Nat) (s : SharedT) (t : Thread) : goT w n s t = goF w n s t := by
 unfold goT goF
 rw [PySem.W.Fast.te10295753902157049106, PySem.W.Fast.te14364793385576792824]
noncomputable def AllN : Nat → (Nat → Prop) → Prop
 | 0, _ => True
 | n + 1, P => AllN n P ∧ P n
theorem AllN.succ {n : Nat} {P : Nat → Prop} (h : AllN n P) (g : P n) : AllN (n + 1) P := ⟨h, g⟩
theorem AllN.join {P : Nat → Prop} {m : Nat} (h : AllN m P) : ∀ {n : Nat}, AllN n (fun i => P (m + i)) → AllN (m + n) P
 | 0, _ => h
 | n + 1, g => ⟨AllN.join h g.1, g.2⟩
theorem AllN.get {P : Nat → Prop} : ∀ {n : Nat}, AllN n P → ∀ i, i < n → P i
 | 0, _, i, hi => absurd hi (Nat.not_lt_zero i)
 | n + 1, h, i, hi => if e : i = n then e ▸ h.2 else AllN.get h.1 i (Nat.lt_of_le_of_ne (Nat.le_of_lt_succ hi) e)
structure Em where
 c : Nat
 t : Nat
 a : Nat
 b : Nat
structure Tb where
 E : Nat → Params → BT
 X : List Em
 n : Nat
 r : Nat
 es : List PySem.Expr
noncomputable def Tb.at (T : Tb) (i : Nat) : Em := T.X.getD i ⟨0, 0, 0, 0⟩
noncomputable def Tb.st (T : Tb) (w : World) (os : OsState) (i : Nat) : SharedT := Mine.st (T.E i w.params) (T.n + 3 * i) (T.at i).t os
noncomputable def Tb.ps (T : Tb) (i : Nat) : Pos := ⟨T.r, (T.at i).a, T.r, (T.at i).b⟩
noncomputable def Tb.lhs (T : Tb) (w : World) (os : OsState) (k : Result → Sem Fin) (l : List Value) (i : Nat) : (Value → Sem Fin) → (Value → Sem Fin) → (List Value → List Value) → Option (SharedT × Thread) := fun K H lv =>
 goF w (T.at i).c (T.st w os i) ⟨(eval (nthE T.es i) cenv).wrap K H id lv, ccode, T.ps i, fr k l⟩
noncomputable def Tb.rhs (T : Tb) (w : World) (os : OsState) (k : Result → Sem Fin) (l : List Value) (i : Nat) : (Value → Sem Fin) → (Value → Sem Fin) → (List Value → List Value) → Option (SharedT × Thread) := fun K H lv =>
 some (T.st w os (i + 1), ⟨K (.ref (T.n + 3 * i + 1)), ccode, T.ps (i + 1), fr k l⟩)
noncomputable def Tb.vs (T : Tb) : Nat → Nat → List Value
 | 0, _ => []
 | m + 1, i => .ref (T.n + 3 * i + 1) :: T.vs m (i + 1)
noncomputable def Tb.el (T : Tb) : Nat → Nat → List PySem.Expr
 | 0, _ => []
 | m + 1, i => nthE T.es i :: T.el m (i + 1)
theorem Tb.els (T : Tb) {w : World} {os : OsState} {k : Result → Sem Fin} {l : List Value} : ∀ (m i : Nat), (∀ j, j < i + m → Nat.ble (T.at j).c 170 = true) → (∀ j, j < i + m → T.lhs w os k l j = T.rhs w os k l j) →
  Els w k l (T.el m i) (T.st w os i) (T.ps i) (T.vs m i) (T.st w os (i + m)) (T.ps (i + m))
 | 0, i, _, _ => .nil
 | m + 1, i, hc, h => by
  have e : i + (m + 1) = i + 1 + m := by lia
  rw [e] at hc h ⊢
  exact .cons (fun K H lv => (goF_eq _ _ _ _).trans (congrFun (congrFun (congrFun (h i (by lia)) K) H) lv)) (hc i (by lia)) (T.els m (i + 1) hc h)
theorem Els.cast {w : World} {k : Result → Sem Fin} {l : List Value} {es es' : List PySem.Expr} {S S' R R' : SharedT} {p p' q q' : Pos} {vs vs' : List Value} (h : Els w k l es S p vs R q) (a : es = es') (b : S = S') (c : p = p') (d : vs = vs') (e : R = R') (f : q = q') : Els w k l es' S' p' vs' R' q' := by
 subst a b c d e f
 exact h
theorem em_ble {T : Tb} (h : (T.X.all fun x => Nat.ble x.c 170) = true) (j : Nat) : Nat.ble (T.at j).c 170 = true := by
 unfold Tb.at
 rw [List.getD_eq_getElem?_getD]
 cases e : T.X[j]? with
 | none => rfl
 | some x => exact List.all_eq_true.mp h x (List.mem_of_getElem? e)
noncomputable def Tb16 : Tb := ⟨E16, [⟨170, 615, 10, 50⟩, ⟨170, 629, 11, 29⟩, ⟨0, 643, 31, 49⟩], 310, 559, elts (cst 6 16)⟩
theorem eld16_0 (w : World) (os : OsState) (k : Result → Sem Fin) (l : List Value) : AllN 2 (fun i => Tb16.lhs w os k l i = Tb16.rhs w os k l i) := by
 iterate 2 (refine AllN.succ ?_ (by kernel_rfl))
 exact trivial
theorem elb16 : (Tb16.X.all fun x => Nat.ble x.c 170) = true := by kernel_rfl
theorem ele16 (w : World) (os : OsState) (k : Result → Sem Fin) (l : List Value) : Els w k l (Tb16.el 2 0) (Tb16.st w os 0) (Tb16.ps 0) (Tb16.vs 2 0) (Tb16.st w os 2) (Tb16.ps 2) := by
 have h := Tb16.els (w := w) (os := os) (k := k) (l := l) 2 0 (fun j _ => em_ble elb16 j) (AllN.get (by rw [Nat.zero_add]; exact (eld16_0 w os k l)))
 rw [Nat.zero_add] at h
 exact h
noncomputable def Tb18 : Tb := ⟨E18, [⟨170, 647, 10, 64⟩, ⟨165, 661, 11, 27⟩, ⟨165, 674, 29, 45⟩, ⟨0, 687, 47, 63⟩], 318, 561, elts (cst 6 18)⟩
theorem eld18_0 (w : World) (os : OsState) (k : Result → Sem Fin) (l : List Value) : AllN 3 (fun i => Tb18.lhs w os k l i = Tb18.rhs w os k l i) := by
 iterate 3 (refine AllN.succ ?_ (by kernel_rfl))
 exact trivial
theorem elb18 : (Tb18.X.all fun x => Nat.ble x.c 170) = true := by kernel_rfl
theorem ele18 (w : World) (os : OsState) (k : Result → Sem Fin) (l : List Value) : Els w k l (Tb18.el 3 0) (Tb18.st w os 0) (Tb18.ps 0) (Tb18.vs 3 0) (Tb18.st w os 3) (Tb18.ps 3) := by
 have h := Tb18.els (w := w) (os := os) (k := k) (l := l) 3 0 (fun j _ => em_ble elb18 j) (AllN.get (by rw [Nat.zero_add]; exact (eld18_0 w os k l)))
 rw [Nat.zero_add] at h
 exact h
noncomputable def Tb19 : Tb := ⟨E19, [⟨170, 688, 10, 353⟩, ⟨170, 702, 11, 29⟩, ⟨170, 716, 31, 52⟩, ⟨170, 730, 54, 73⟩, ⟨170, 744, 75, 94⟩, ⟨170, 758, 96, 117⟩, ⟨170, 772, 119, 138⟩, ⟨165, 786, 140, 159⟩, ⟨170, 799, 161, 180⟩, ⟨170, 813, 182, 201⟩, ⟨170, 827, 203, 223⟩, ⟨170, 841, 225, 243⟩, ⟨170, 855, 245, 265⟩, ⟨170, 869, 267, 285⟩, ⟨170, 883, 287, 307⟩, ⟨165, 897, 309, 329⟩, ⟨0, 910, 331, 352⟩], 328, 562, elts (cst 6 19)⟩
theorem eld19_0 (w : World) (os : OsState) (k : Result → Sem Fin) (l : List Value) : AllN 16 (fun i => Tb19.lhs w os k l i = Tb19.rhs w os k l i) := by
 iterate 16 (refine AllN.succ ?_ (by kernel_rfl))
 exact trivial
theorem elb19 : (Tb19.X.all fun x => Nat.ble x.c 170) = true := by kernel_rfl
theorem ele19 (w : World) (os : OsState) (k : Result → Sem Fin) (l : List Value) : Els w k l (Tb19.el 16 0) (Tb19.st w os 0) (Tb19.ps 0) (Tb19.vs 16 0) (Tb19.st w os 16) (Tb19.ps 16) := by
 have h := Tb19.els (w := w) (os := os) (k := k) (l := l) 16 0 (fun j _ => em_ble elb19 j) (AllN.get (by rw [Nat.zero_add]; exact (eld19_0 w os k l)))
 rw [Nat.zero_add] at h
 exact h
noncomputable def Tb20 : Tb := ⟨E20, [⟨170, 911, 10, 1120⟩, ⟨170, 925, 11, 32⟩, ⟨170, 939, 34, 55⟩, ⟨170, 953, 57, 78⟩, ⟨170, 967, 80, 101⟩, ⟨170, 981, 103, 124⟩, ⟨170, 995, 126, 149⟩, ⟨170, 1009, 151, 174⟩, ⟨170, 1023, 176, 198⟩, ⟨170, 1037, 200, 222⟩, ⟨170, 1051, 224, 247⟩, ⟨170, 1065, 249, 272⟩, ⟨170, 1079, 274, 299⟩, ⟨170, 1093, 301, 326⟩, ⟨170, 1107, 328, 351⟩, ⟨170, 1121, 353, 374⟩, ⟨170, 1135, 376, 397⟩, ⟨170, 1149, 399, 420⟩, ⟨170, 1163, 422, 443⟩, ⟨165, 1177, 445, 466⟩, ⟨170, 1190, 468, 491⟩, ⟨170, 1204, 493, 514⟩, ⟨170, 1218, 516, 538⟩, ⟨170, 1232, 540, 563⟩, ⟨170, 1246, 565, 590⟩, ⟨170, 1260, 592, 615⟩, ⟨170, 1274, 617, 638⟩, ⟨170, 1288, 640, 661⟩, ⟨170, 1302, 663, 684⟩, ⟨170, 1316, 686, 709⟩, ⟨170, 1330, 711, 736⟩, ⟨170, 1344, 738, 761⟩, ⟨170, 1358, 763, 788⟩, ⟨170, 1372, 790, 817⟩, ⟨170, 1386, 819, 844⟩, ⟨170, 1400, 846, 866⟩, ⟨165, 1414, 868, 888⟩, ⟨170, 1427, 890, 912⟩, ⟨170, 1441, 914, 934⟩, ⟨170, 1455, 936, 957⟩, ⟨170, 1469, 959, 979⟩, ⟨170, 1483, 981, 1001⟩, ⟨170, 1497, 1003, 1023⟩, ⟨170, 1511, 1025, 1047⟩, ⟨170, 1525, 1049, 1071⟩, ⟨170, 1539, 1073, 1095⟩, ⟨0, 1553, 1097, 1119⟩], 377, 563, elts (cst 6 20)⟩
theorem eld20_0 (w : World) (os : OsState) (k : Result → Sem Fin) (l : List Value) : AllN 46 (fun i => Tb20.lhs w os k l i = Tb20.rhs w os k l i) := by
 iterate 46 (refine AllN.succ ?_ (by kernel_rfl))
 exact trivial
theorem elb20 : (Tb20.X.all fun x => Nat.ble x.c 170) = true := by kernel_rfl
theorem ele20 (w : World) (os : OsState) (k : Result → Sem Fin) (l : List Value) : Els w k l (Tb20.el 46 0) (Tb20.st w os 0) (Tb20.ps 0) (Tb20.vs 46 0) (Tb20.st w os 46) (Tb20.ps 46) := by
 have h := Tb20.els (w := w) (os := os) (k := k) (l := l) 46 0 (fun j _ => em_ble elb20 j) (AllN.get (by rw [Nat.zero_add]; exact (eld20_0 w os k l)))
 rw [Nat.zero_add] at h
 exact h
noncomputable def Tb22 : Tb := ⟨E22, [⟨170, 1561, 10, 1364⟩, ⟨170, 1575, 11, 30⟩, ⟨170, 1589, 32, 53⟩, ⟨170, 1603, 55, 76⟩, ⟨170, 1617, 78, 98⟩, ⟨170, 1631, 100, 119⟩, ⟨170, 1645, 121, 140⟩, ⟨170, 1659, 142, 162⟩, ⟨170, 1673, 164, 184⟩, ⟨170, 1687, 186, 205⟩, ⟨170, 1701, 207, 226⟩, ⟨170, 1715, 228, 246⟩, ⟨170, 1729, 248, 267⟩, ⟨170, 1743, 269, 290⟩, ⟨170, 1757, 292, 313⟩, ⟨170, 1771, 315, 335⟩, ⟨170, 1785, 337, 357⟩, ⟨170, 1799, 359, 379⟩, ⟨165, 1813, 381, 400⟩, ⟨170, 1826, 402, 423⟩, ⟨170, 1840, 425, 444⟩, ⟨170, 1854, 446, 466⟩, ⟨170, 1868, 468, 488⟩, ⟨170, 1882, 490, 509⟩, ⟨170, 1896, 511, 530⟩, ⟨170, 1910, 532, 551⟩, ⟨170, 1924, 553, 574⟩, ⟨170, 1938, 576, 597⟩, ⟨170, 1952, 599, 619⟩, ⟨170, 1966, 621, 642⟩, ⟨170, 1980, 644, 663⟩, ⟨165, 1994, 665, 684⟩, ⟨170, 2007, 686, 707⟩, ⟨170, 2021, 709, 728⟩, ⟨170, 2035, 730, 750⟩, ⟨170, 2049, 752, 772⟩, ⟨170, 2063, 774, 793⟩, ⟨170, 2077, 795, 816⟩, ⟨170, 2091, 818, 837⟩, ⟨170, 2105, 839, 860⟩, ⟨170, 2119, 862, 882⟩, ⟨170, 2133, 884, 907⟩, ⟨170, 2147, 909, 929⟩, ⟨170, 2161, 931, 951⟩, ⟨170, 2175, 953, 972⟩, ⟨170, 2189, 974, 994⟩, ⟨170, 2203, 996, 1014⟩, ⟨170, 2217, 1016, 1034⟩, ⟨170, 2231, 1036, 1054⟩, ⟨170, 2245, 1056, 1075⟩, ⟨170, 2259, 1077, 1096⟩, ⟨170, 2273, 1098, 1116⟩, ⟨170, 2287, 1118, 1136⟩, ⟨170, 2301, 1138, 1158⟩, ⟨170, 2315, 1160, 1182⟩, ⟨170, 2329, 1184, 1206⟩, ⟨170, 2343, 1208, 1229⟩, ⟨170, 2357, 1231, 1251⟩, ⟨170, 2371, 1253, 1273⟩, ⟨170, 2385, 1275, 1296⟩, ⟨170, 2399, 1298, 1319⟩, ⟨170, 2413, 1321, 1341⟩, ⟨0, 2427, 1343, 1363⟩], 517, 565, elts (cst 6 22)⟩
theorem eld22_0 (w : World) (os : OsState) (k : Result → Sem Fin) (l : List Value) : AllN 31 (fun i => Tb22.lhs w os k l i = Tb22.rhs w os k l i) := by
 iterate 31 (refine AllN.succ ?_ (by kernel_rfl))
 exact trivial
theorem eld22_31 (w : World) (os : OsState) (k : Result → Sem Fin) (l : List Value) : AllN 31 (fun i => Tb22.lhs w os k l (31 + i) = Tb22.rhs w os k l (31 + i)) := by
 iterate 31 (refine AllN.succ ?_ (by kernel_rfl))
 exact trivial
theorem elb22 : (Tb22.X.all fun x => Nat.ble x.c 170) = true := by kernel_rfl
theorem ele22 (w : World) (os : OsState) (k : Result → Sem Fin) (l : List Value) : Els w k l (Tb22.el 62 0) (Tb22.st w os 0) (Tb22.ps 0) (Tb22.vs 62 0) (Tb22.st w os 62) (Tb22.ps 62) := by
 have h := Tb22.els (w := w) (os := os) (k := k) (l := l) 62 0 (fun j _ => em_ble elb22 j) (AllN.get (by rw [Nat.zero_add]; exact (AllN.join (P := fun i => Tb22.lhs w os k l i = Tb22.rhs w os k l i) (eld22_0 w os k l) (eld22_31 w os k l))))
 rw [Nat.zero_add] at h
 exact h
noncomputable def Tb23 : Tb := ⟨E23, [⟨170, 2428, 10, 2149⟩, ⟨170, 2442, 11, 29⟩, ⟨170, 2456, 31, 49⟩, ⟨170, 2470, 51, 70⟩, ⟨170, 2484, 72, 92⟩, ⟨170, 2498, 94, 113⟩, ⟨170, 2512, 115, 135⟩, ⟨170, 2526, 137, 156⟩, ⟨170, 2540, 158, 177⟩, ⟨170, 2554, 179, 198⟩, ⟨170, 2568, 200, 220⟩, ⟨165, 2582, 222, 240⟩, ⟨165, 2595, 242, 261⟩, ⟨165, 2608, 263, 283⟩, ⟨165, 2621, 285, 304⟩, ⟨165, 2634, 306, 325⟩, ⟨170, 2647, 327, 347⟩, ⟨170, 2661, 349, 370⟩, ⟨170, 2675, 372, 394⟩, ⟨170, 2689, 396, 415⟩, ⟨165, 2703, 417, 435⟩, ⟨165, 2716, 437, 456⟩, ⟨170, 2729, 458, 477⟩, ⟨170, 2743, 479, 498⟩, ⟨170, 2757, 500, 521⟩, ⟨170, 2771, 523, 545⟩, ⟨170, 2785, 547, 565⟩, ⟨170, 2799, 567, 586⟩, ⟨170, 2813, 588, 607⟩, ⟨170, 2827, 609, 629⟩, ⟨165, 2841, 631, 652⟩, ⟨165, 2854, 654, 676⟩, ⟨165, 2867, 678, 701⟩, ⟨165, 2880, 703, 725⟩, ⟨165, 2893, 727, 749⟩, ⟨170, 2906, 751, 774⟩, ⟨170, 2920, 776, 796⟩, ⟨170, 2934, 798, 818⟩, ⟨170, 2948, 820, 841⟩, ⟨165, 2962, 843, 863⟩, ⟨165, 2975, 865, 886⟩, ⟨170, 2988, 888, 909⟩, ⟨170, 3002, 911, 931⟩, ⟨170, 3016, 933, 953⟩, ⟨170, 3030, 955, 976⟩, ⟨170, 3044, 978, 1001⟩, ⟨165, 3058, 1003, 1027⟩, ⟨165, 3071, 1029, 1054⟩, ⟨165, 3084, 1056, 1082⟩, ⟨165, 3097, 1084, 1109⟩, ⟨165, 3110, 1111, 1136⟩, ⟨170, 3123, 1138, 1164⟩, ⟨170, 3137, 1166, 1189⟩, ⟨170, 3151, 1191, 1214⟩, ⟨170, 3165, 1216, 1240⟩, ⟨165, 3179, 1242, 1260⟩, ⟨165, 3192, 1262, 1281⟩, ⟨170, 3205, 1283, 1302⟩, ⟨165, 3219, 1304, 1322⟩, ⟨165, 3232, 1324, 1344⟩, ⟨165, 3245, 1346, 1367⟩, ⟨165, 3258, 1369, 1389⟩, ⟨165, 3271, 1391, 1411⟩, ⟨170, 3284, 1413, 1434⟩, ⟨170, 3298, 1436, 1454⟩, ⟨170, 3312, 1456, 1475⟩, ⟨165, 3326, 1477, 1496⟩, ⟨165, 3339, 1498, 1519⟩, ⟨165, 3352, 1521, 1543⟩, ⟨165, 3365, 1545, 1568⟩, ⟨165, 3378, 1570, 1594⟩, ⟨165, 3391, 1596, 1619⟩, ⟨165, 3404, 1621, 1644⟩, ⟨165, 3417, 1646, 1670⟩, ⟨165, 3430, 1672, 1693⟩, ⟨165, 3443, 1695, 1716⟩, ⟨170, 3456, 1718, 1740⟩, ⟨165, 3470, 1742, 1760⟩, ⟨165, 3483, 1762, 1781⟩, ⟨170, 3496, 1783, 1802⟩, ⟨170, 3510, 1804, 1824⟩, ⟨170, 3524, 1826, 1847⟩, ⟨170, 3538, 1849, 1867⟩, ⟨170, 3552, 1869, 1891⟩, ⟨170, 3566, 1893, 1913⟩, ⟨165, 3580, 1915, 1936⟩, ⟨165, 3593, 1938, 1960⟩, ⟨165, 3606, 1962, 1985⟩, ⟨165, 3619, 1987, 2009⟩, ⟨165, 3632, 2011, 2033⟩, ⟨170, 3645, 2035, 2058⟩, ⟨170, 3659, 2060, 2080⟩, ⟨170, 3673, 2082, 2102⟩, ⟨170, 3687, 2104, 2125⟩, ⟨0, 3701, 2127, 2148⟩], 704, 566, elts (cst 6 23)⟩
theorem eld23_0 (w : World) (os : OsState) (k : Result → Sem Fin) (l : List Value) : AllN 32 (fun i => Tb23.lhs w os k l i = Tb23.rhs w os k l i) := by
 iterate 32 (refine AllN.succ ?_ (by kernel_rfl))
 exact trivial
theorem eld23_32 (w : World) (os : OsState) (k : Result → Sem Fin) (l : List Value) : AllN 32 (fun i => Tb23.lhs w os k l (32 + i) = Tb23.rhs w os k l (32 + i)) := by
 iterate 32 (refine AllN.succ ?_ (by kernel_rfl))
 exact trivial
theorem eld23_64 (w : World) (os : OsState) (k : Result → Sem Fin) (l : List Value) : AllN 30 (fun i => Tb23.lhs w os k l (64 + i) = Tb23.rhs w os k l (64 + i)) := by
 iterate 30 (refine AllN.succ ?_ (by kernel_rfl))
 exact trivial
theorem elb23 : (Tb23.X.all fun x => Nat.ble x.c 170) = true := by kernel_rfl
theorem ele23 (w : World) (os : OsState) (k : Result → Sem Fin) (l : List Value) : Els w k l (Tb23.el 94 0) (Tb23.st w os 0) (Tb23.ps 0) (Tb23.vs 94 0) (Tb23.st w os 94) (Tb23.ps 94) := by
 have h := Tb23.els (w := w) (os := os) (k := k) (l := l) 94 0 (fun j _ => em_ble elb23 j) (AllN.get (by rw [Nat.zero_add]; exact (AllN.join (P := fun i => Tb23.lhs w os k l i = Tb23.rhs w os k l i) (AllN.join (P := fun i => Tb23.lhs w os k l i = Tb23.rhs w os k l i) (eld23_0 w os k l) (eld23_32 w os k l)) (eld23_64 w os k l))))
 rw [Nat.zero_add] at h
 exact h
noncomputable def Tb24 : Tb := ⟨E24, [⟨170, 3702, 10, 106⟩, ⟨170, 3716, 11, 28⟩, ⟨165, 3730, 30, 47⟩, ⟨170, 3743, 49, 66⟩, ⟨170, 3757, 68, 85⟩, ⟨0, 3771, 87, 105⟩], 987, 567, elts (cst 6 24)⟩
theorem eld24_0 (w : World) (os : OsState) (k : Result → Sem Fin) (l : List Value) : AllN 5 (fun i => Tb24.lhs w os k l i = Tb24.rhs w os k l i) := by
 iterate 5 (refine AllN.succ ?_ (by kernel_rfl))
 exact trivial
theorem elb24 : (Tb24.X.all fun x => Nat.ble x.c 170) = true := by kernel_rfl
theorem ele24 (w : World) (os : OsState) (k : Result → Sem Fin) (l : List Value) : Els w k l (Tb24.el 5 0) (Tb24.st w os 0) (Tb24.ps 0) (Tb24.vs 5 0) (Tb24.st w os 5) (Tb24.ps 5) := by
 have h := Tb24.els (w := w) (os := os) (k := k) (l := l) 5 0 (fun j _ => em_ble elb24 j) (AllN.get (by rw [Nat.zero_add]; exact (eld24_0 w os k l)))
 rw [Nat.zero_add] at h
 exact h
theorem els_16 (w : World) (os : OsState) (k : Result → Sem Fin) (l : List Value) : Els w k l (elts (cst 6 16)) (st (E16 0 w.params) 310 615 os) (asgV (cst 6 16)).pos vl16 (st (E16 2 w.params) 316 643 os) ⟨559, 31, 559, 49⟩ := by
 exact (ele16 w os k l).cast (by kernel_rfl) (by kernel_rfl) (by kernel_rfl) (by kernel_rfl) (by kernel_rfl) (by kernel_rfl)
theorem c16e (P : Params) (os : OsState) : c16 P os = st (E16 0 P) 310 615 os := by kernel_rfl
theorem lead2_16 (w : World) (os : OsState) (k : Result → Sem Fin) (l : List Value) (K : Flow → Sem Fin) (H : Value → Sem Fin) : Lead w 362 (c16 w.params os).abs ⟨(exec (cst 6 16) cenv).wrap K H id id, ccode, ⟨522, 4, 558, 19⟩, fr k l⟩ (c17 w.params os).abs ⟨K .next, ccode, ⟨559, 4, 559, 7⟩, fr k l⟩ := by
 rw [c16e]
 exact lead_list (b := 362) exl_16 (els_16 w os k l) (by kernel_rfl) (lst_16 w os k l) (by kernel_rfl) K H
theorem els_18 (w : World) (os : OsState) (k : Result → Sem Fin) (l : List Value) : Els w k l (elts (cst 6 18)) (st (E18 0 w.params) 318 647 os) (asgV (cst 6 18)).pos vl18 (st (E18 3 w.params) 327 687 os) ⟨561, 47, 561, 63⟩ := by
 exact (ele18 w os k l).cast (by kernel_rfl) (by kernel_rfl) (by kernel_rfl) (by kernel_rfl) (by kernel_rfl) (by kernel_rfl)
theorem c18e (P : Params) (os : OsState) : c18 P os = st (E18 0 P) 318 647 os := by kernel_rfl
theorem lead2_18 (w : World) (os : OsState) (k : Result → Sem Fin) (l : List Value) (K : Flow → Sem Fin) (H : Value → Sem Fin) : Lead w 532 (c18 w.params os).abs ⟨(exec (cst 6 18) cenv).wrap K H id id, ccode, ⟨560, 4, 560, 8⟩, fr k l⟩ (c19 w.params os).abs ⟨K .next, ccode, ⟨561, 4, 561, 7⟩, fr k l⟩ := by
 rw [c18e]
 exact lead_list (b := 532) exl_18 (els_18 w os k l) (by kernel_rfl) (lst_18 w os k l) (by kernel_rfl) K H
theorem els_19 (w : World) (os : OsState) (k : Result → Sem Fin) (l : List Value) : Els w k l (elts (cst 6 19)) (st (E19 0 w.params) 328 688 os) (asgV (cst 6 19)).pos vl19 (st (E19 16 w.params) 376 910 os) ⟨562, 331, 562, 352⟩ := by
 exact (ele19 w os k l).cast (by kernel_rfl) (by kernel_rfl) (by kernel_rfl) (by kernel_rfl) (by kernel_rfl) (by kernel_rfl)
theorem c19e (P : Params) (os : OsState) : c19 P os = st (E19 0 P) 328 688 os := by kernel_rfl
theorem lead2_19 (w : World) (os : OsState) (k : Result → Sem Fin) (l : List Value) (K : Flow → Sem Fin) (H : Value → Sem Fin) : Lead w 2742 (c19 w.params os).abs ⟨(exec (cst 6 19) cenv).wrap K H id id, ccode, ⟨561, 4, 561, 7⟩, fr k l⟩ (c20 w.params os).abs ⟨K .next, ccode, ⟨562, 4, 562, 7⟩, fr k l⟩ := by
 rw [c19e]
 exact lead_list (b := 2742) exl_19 (els_19 w os k l) (by kernel_rfl) (lst_19 w os k l) (by kernel_rfl) K H
theorem els_20 (w : World) (os : OsState) (k : Result → Sem Fin) (l : List Value) : Els w k l (elts (cst 6 20)) (st (E20 0 w.params) 377 911 os) (asgV (cst 6 20)).pos vl20 (st (E20 46 w.params) 515 1553 os) ⟨563, 1097, 563, 1119⟩ := by
 exact (ele20 w os k l).cast (by kernel_rfl) (by kernel_rfl) (by kernel_rfl) (by kernel_rfl) (by kernel_rfl) (by kernel_rfl)
theorem c20e (P : Params) (os : OsState) : c20 P os = st (E20 0 P) 377 911 os := by kernel_rfl
theorem lead2_20 (w : World) (os : OsState) (k : Result → Sem Fin) (l : List Value) (K : Flow → Sem Fin) (H : Value → Sem Fin) : Lead w 7842 (c20 w.params os).abs ⟨(exec (cst 6 20) cenv).wrap K H id id, ccode, ⟨562, 4, 562, 7⟩, fr k l⟩ (c21 w.params os).abs ⟨K .next, ccode, ⟨563, 4, 563, 7⟩, fr k l⟩ := by
 rw [c20e]
 exact lead_list (b := 7842) exl_20 (els_20 w os k l) (by kernel_rfl) (lst_20 w os k l) (by kernel_rfl) K H
theorem els_22 (w : World) (os : OsState) (k : Result → Sem Fin) (l : List Value) : Els w k l (elts (cst 6 22)) (st (E22 0 w.params) 517 1561 os) (asgV (cst 6 22)).pos vl22 (st (E22 62 w.params) 703 2427 os) ⟨565, 1343, 565, 1363⟩ := by
 exact (ele22 w os k l).cast (by kernel_rfl) (by kernel_rfl) (by kernel_rfl) (by kernel_rfl) (by kernel_rfl) (by kernel_rfl)
theorem c22e (P : Params) (os : OsState) : c22 P os = st (E22 0 P) 517 1561 os := by kernel_rfl
theorem lead2_22 (w : World) (os : OsState) (k : Result → Sem Fin) (l : List Value) (K : Flow → Sem Fin) (H : Value → Sem Fin) : Lead w 10562 (c22 w.params os).abs ⟨(exec (cst 6 22) cenv).wrap K H id id, ccode, ⟨564, 4, 564, 8⟩, fr k l⟩ (c23 w.params os).abs ⟨K .next, ccode, ⟨565, 4, 565, 7⟩, fr k l⟩ := by
 rw [c22e]
 exact lead_list (b := 10562) exl_22 (els_22 w os k l) (by kernel_rfl) (lst_22 w os k l) (by kernel_rfl) K H
theorem els_23 (w : World) (os : OsState) (k : Result → Sem Fin) (l : List Value) : Els w k l (elts (cst 6 23)) (st (E23 0 w.params) 704 2428 os) (asgV (cst 6 23)).pos vl23 (st (E23 94 w.params) 986 3701 os) ⟨566, 2127, 566, 2148⟩ := by
 exact (ele23 w os k l).cast (by kernel_rfl) (by kernel_rfl) (by kernel_rfl) (by kernel_rfl) (by kernel_rfl) (by kernel_rfl)
theorem c23e (P : Params) (os : OsState) : c23 P os = st (E23 0 P) 704 2428 os := by kernel_rfl
theorem lead2_23 (w : World) (os : OsState) (k : Result → Sem Fin) (l : List Value) (K : Flow → Sem Fin) (H : Value → Sem Fin) : Lead w 16002 (c23 w.params os).abs ⟨(exec (cst 6 23) cenv).wrap K H id id, ccode, ⟨565, 4, 565, 7⟩, fr k l⟩ (c24 w.params os).abs ⟨K .next, ccode, ⟨566, 4, 566, 7⟩, fr k l⟩ := by
 rw [c23e]
 exact lead_list (b := 16002) exl_23 (els_23 w os k l) (by kernel_rfl) (lst_23 w os k l) (by kernel_rfl) K H
theorem els_24 (w : World) (os : OsState) (k : Result → Sem Fin) (l : List Value) : Els w k l (elts (cst 6 24)) (st (E24 0 w.params) 987 3702 os) (asgV (cst 6 24)).pos vl24 (st (E24 5 w.params) 1002 3771 os) ⟨567, 87, 567, 105⟩ := by
 exact (ele24 w os k l).cast (by kernel_rfl) (by kernel_rfl) (by kernel_rfl) (by kernel_rfl) (by kernel_rfl) (by kernel_rfl)
theorem c24e (P : Params) (os : OsState) : c24 P os = st (E24 0 P) 987 3702 os := by kernel_rfl
theorem lead2_24 (w : World) (os : OsState) (k : Result → Sem Fin) (l : List Value) (K : Flow → Sem Fin) (H : Value → Sem Fin) : Lead w 872 (c24 w.params os).abs ⟨(exec (cst 6 24) cenv).wrap K H id id, ccode, ⟨566, 4, 566, 7⟩, fr k l⟩ (c25 w.params os).abs ⟨K .next, ccode, ⟨567, 4, 567, 7⟩, fr k l⟩ := by
 rw [c24e]
 exact lead_list (b := 872) exl_24 (els_24 w os k l) (by kernel_rfl) (lst_24 w os k l) (by kernel_rfl) K H
theorem body6 : clsBody (stm 6) = [cst 6 0, cst 6 1, cst 6 2, cst 6 3, cst 6 4, cst 6 5, cst 6 6, cst 6 7, cst 6 8, cst 6 9, cst 6 10, cst 6 11, cst 6 12, cst 6 13, cst 6 14, cst 6 15, cst 6 16, cst 6 17, cst 6 18, cst 6 19, cst 6 20, cst 6 21, cst 6 22, cst 6 23, cst 6 24] := by kernel_rfl
theorem lead_body (w : World) (os : OsState) (k : Result → Sem Fin) (l : List Value) : Lead w 39548 (c0 w.params os).abs ⟨denote treeTable ccode, ccode, ⟨215, 0, 567, 106⟩, fr k l⟩ (c25 w.params os).abs ⟨doneF .next, ccode, ⟨567, 4, 567, 7⟩, fr k l⟩ := by
 have e : denote treeTable ccode = (execs (clsBody (stm 6)) cenv).wrap doneF (leaveH cenv) id id := by
  show denote treeTable (.body (clsBody (stm 6)) cenv) = _
  rw [body_wrap]
  rfl
 rw [e, body6]
 refine Lead.le (
  (lead_stmt (fun K H => lead_gv w os k l _ K H)).trans <|
  (lead_stmt (fun K H => Lead.of (l2_1 w os k l K H))).trans <|
  (lead_stmt (fun K H => Lead.of (l2_2 w os k l K H))).trans <|
  (lead_stmt (fun K H => Lead.of (l2_3 w os k l K H))).trans <|
  (lead_stmt (fun K H => Lead.of (l2_4 w os k l K H))).trans <|
  (lead_stmt (fun K H => Lead.of (l2_5 w os k l K H))).trans <|
  (lead_stmt (fun K H => Lead.of (l2_6 w os k l K H))).trans <|
  (lead_stmt (fun K H => Lead.of (l2_7 w os k l K H))).trans <|
  (lead_stmt (fun K H => Lead.of (l2_8 w os k l K H))).trans <|
  (lead_stmt (fun K H => Lead.of (l2_9 w os k l K H))).trans <|
  (lead_stmt (fun K H => Lead.of (l2_10 w os k l K H))).trans <|
  (lead_stmt (fun K H => Lead.of (l2_11 w os k l K H))).trans <|
  (lead_stmt (fun K H => Lead.of (l2_12 w os k l K H))).trans <|
  (lead_stmt (fun K H => Lead.of (l2_13 w os k l K H))).trans <|
  (lead_stmt (fun K H => Lead.of (l2_14 w os k l K H))).trans <|
  (lead_stmt (fun K H => Lead.of (l2_15 w os k l K H))).trans <|
  (lead_stmt (fun K H => lead2_16 w os k l K H)).trans <|
  (lead_stmt (fun K H => Lead.of (l2_17 w os k l K H))).trans <|
  (lead_stmt (fun K H => lead2_18 w os k l K H)).trans <|
  (lead_stmt (fun K H => lead2_19 w os k l K H)).trans <|
  (lead_stmt (fun K H => lead2_20 w os k l K H)).trans <|
  (lead_stmt (fun K H => Lead.of (l2_21 w os k l K H))).trans <|
  (lead_stmt (fun K H => lead2_22 w os k l K H)).trans <|
  (lead_stmt (fun K H => lead2_23 w os k l K H)).trans <|
  lead_stmt (fun K H => lead2_24 w os k l K H)) (by decide)
theorem lead_cls (w : World) (os : OsState) (K : Flow → Sem Fin) (H : Value → Sem Fin) : Lead w 39789 (a6 w.params os).abs (thC K H) (a7 w.params os).abs ⟨K .next, mcode, ⟨215, 0, 567, 106⟩, B0⟩ :=
 Lead.trans (Lead.trans (Lead.of (pre6 w os K H)) (lead_body w os _ _)) (Lead.of (post6 w os K H))
theorem bodyM : mbody = [stm 0, stm 1, stm 2, stm 3, stm 4, stm 5, stm 6, stm 7, stm 8, stm 9, stm 10, stm 11, stm 12, stm 13, stm 14, stm 15, stm 16, stm 17, stm 18, stm 19, stm 20, stm 21, stm 22] := by kernel_rfl
theorem lead_top (w : World) (os : OsState) : Lead w 42210 (a0 w.params os).abs ⟨denote treeTable mcode, mcode, ⟨0, 0, 0, 0⟩, B0⟩ (a23 w.params os).abs ⟨doneF .next, mcode, ⟨640, 0, 650, 62⟩, B0⟩ := by
 have e : denote treeTable mcode = (execs mbody menv).wrap doneF (leaveH menv) id id := by
  show denote treeTable (.body mbody menv) = _
  rw [body_wrap]
  rfl
 rw [e, bodyM]
 refine Lead.le (
  (lead_stmt (fun K H => Lead.of (l0_0 w os K H))).trans <|
  (lead_stmt (fun K H => Lead.of (l0_1 w os K H))).trans <|
  (lead_stmt (fun K H => Lead.of (l0_2 w os K H))).trans <|
  (lead_stmt (fun K H => Lead.of (l0_3 w os K H))).trans <|
  (lead_stmt (fun K H => Lead.of (l0_4 w os K H))).trans <|
  (lead_stmt (fun K H => Lead.of (l0_5 w os K H))).trans <|
  (lead_stmt (fun K H => lead_cls w os K H)).trans <|
  (lead_stmt (fun K H => Lead.of (l0_7 w os K H))).trans <|
  (lead_stmt (fun K H => Lead.of (l0_8 w os K H))).trans <|
  (lead_stmt (fun K H => Lead.of (l0_9 w os K H))).trans <|
  (lead_stmt (fun K H => Lead.of (l0_10 w os K H))).trans <|
  (lead_stmt (fun K H => Lead.of (l0_11 w os K H))).trans <|
  (lead_stmt (fun K H => Lead.of (l0_12 w os K H))).trans <|
  (lead_stmt (fun K H => Lead.of (l0_13 w os K H))).trans <|
  (lead_stmt (fun K H => Lead.of (l0_14 w os K H))).trans <|
  (lead_stmt (fun K H => Lead.of (l0_15 w os K H))).trans <|
  (lead_stmt (fun K H => Lead.of (l0_16 w os K H))).trans <|
  (lead_stmt (fun K H => Lead.of (l0_17 w os K H))).trans <|
  (lead_stmt (fun K H => Lead.of (l0_18 w os K H))).trans <|
  (lead_stmt (fun K H => Lead.of (l0_19 w os K H))).trans <|
  (lead_stmt (fun K H => Lead.of (l0_20 w os K H))).trans <|
  (lead_stmt (fun K H => Lead.of (l0_21 w os K H))).trans <|
  lead_stmt (fun K H => Lead.of (l0_22 w os K H))) (by decide)
noncomputable abbrev S0 (w : World) (os : OsState) : Shared := ⟨boot_heap w.params, Array.mk [], boot_drawn, boot_toks, os⟩
theorem run_pre (w : World) (os : OsState) : topGo treeTable pw w 11 ann 12 (S0 w os) (topStub pw) = some ((a0 w.params os).abs, ⟨denote treeTable mcode, mcode, ⟨0, 0, 0, 0⟩, B0⟩) := by kernel_rfl
theorem run_fin (w : World) (os : OsState) : topRun treeTable pw w 11 ann 2 (a23 w.params os).abs ⟨doneF .next, mcode, ⟨640, 0, 650, 62⟩, B0⟩ = some (a23 w.params os).abs := by kernel_rfl
theorem run_all (w : World) (os : OsState) : topRun treeTable pw w 11 ann 42224 (S0 w os) (topStub pw) = some (a23 w.params os).abs := by
 obtain ⟨n, hn, e⟩ := Lead.trans (a := 12) (b := 42210) ⟨12, Nat.le_refl _, run_pre w os⟩ (lead_top w os)
 have h := topRun_mono (42222 - n) _ _ _ _ (go_top e (run_fin w os))
 rwa [show n + 2 + (42222 - n) = 42224 by lia] at h
noncomputable def qv : Program := { pw with main := { pw.main with body := [stm 22] } }
noncomputable def lsv : List PySem.Str := [S "_wall", S "BaseStemmer", S "Among", S "RomanianStemmer", S "lab0", S "lab1", S "lab2", S "_law_letters", S "_law_articles", S "_law_compound", S "_law_plain", S "_law_verbal", S "_law_last", S "_law_vowel", S "_law_past", S "_law_longest", S "_law_marked", S "_law_stem"]
noncomputable abbrev H1 (P : Params) : Heap := ⟨Array.mk (fin P), {}⟩
theorem heap_end (P : Params) (os : OsState) : (a23 P os).abs = ⟨H1 P, Array.mk [], {}, 4149, os⟩ := by kernel_rfl
theorem size0 (w : World) : ((boot_heap w.params).isNs mainGlobals && (Array.mk [] : Array GenState).size == 0, (boot_heap w.params).objs.size, (boot_heap w.params).nsMap mainGlobals "__annotations__") = (true, 11, ann) := by kernel_rfl
theorem open0 : ∀ w : World, (fencedOpening treeTable pw w 60000).map (fun s => (s.heap, s.gens, s.drawn, s.toks)) = some (boot_heap w.params, Array.mk [], boot_drawn, boot_toks) :=
 boot_open (by kernel_rfl) (by kernel_rfl) (fun s => by kernel_rfl)

noncomputable abbrev mods0 : List PySem.Str := importedModules pw.main.body
noncomputable abbrev S1 (w : World) (os : OsState) : Shared := ⟨H1 w.params, Array.mk [], {}, 4149, os⟩
theorem look_a (w : World) (os : OsState) : (staticsOk mods0 (boot_heap w.params) (H1 w.params) && namesBound pw (H1 w.params) && gensDone (S1 w os) && laidKept (boot_heap w.params) (H1 w.params)) = true := by kernel_rfl
theorem look_b (w : World) (os : OsState) : openSeen qv lsv mods0 (fun _ => true) true (S1 w os) = openGood qv lsv := by kernel_rfl
theorem left : LeftO pw qv lsv (fun _ => true) (fun s => s.heap) (fun w => H1 w.params) 60000 :=
 LeftO.of_pieces (H₀ := boot_heap) (H₁ := H1) (gs₀ := Array.mk []) (gs₁ := Array.mk []) (d₀ := boot_drawn) (d₁ := {}) (k₀ := boot_toks) (k₁ := 4149) (m₀ := 11) (ann := ann) (M := 42224)
  open0 size0 (fun w os => by rw [← heap_end]; exact run_all w os) (by kernel_rfl) (fun w => by funext os; exact Prod.ext (look_a w os) (Prod.ext (look_b w os) rfl))
abbrev rw0 : OpenLaw := PySem.Challenge.rw_is0017_01
noncomputable def YPm (w : World) (h : Heap) : Prop := ∀ b o, (H1 w.params).get? b = some o → h.get? b = some o
noncomputable def dLaw : DefRec := ⟨defName (stm 22), defArgs (stm 22), defBody (stm 22), defScope (stm 22), stmtPos (stm 22)⟩
theorem said0 : rw0.wellSaid = true → rw0.row.Holds → rw0.Holds := fun a b => ⟨a, b⟩
theorem said_ok : rw0.wellSaid = true := by
 rw [PySem.W.Fast.te9446332074065402090]
 unfold PySem.W.Fast.tw9446332074065402090
 unfold PySem.W.Fast.tw17960256430627541270
 unfold PySem.W.Fast.tw2436336058641802641
 unfold PySem.W.Fast.tw12908688711261696721
 repeat' (with_reducible apply look_both)
 all_goals (as_aux_lemma => kernel_rfl)
theorem holds_of (walk : WalkO qv lsv (fun _ _ => True) YPm rw0.row.toRowW dLaw [] fun f vs => PySem.call f vs) : rw0.Holds := by
 refine holds_law said_ok fun said => ?_
 refine PySem.W.holds_open (q := qv) (loose := lsv) (Xt := fun _ => true) (XP := fun _ _ => True) (Yf := fun s => s.heap) (Ya := fun w => H1 w.params) (YP := YPm) (d := dLaw) (kwd := []) (N := 60000) left
  (fun w s e b o h => by rw [← show s.heap = H1 w.params from e] at h; exact h) (fun w h h' y k b o e => k b o (y b o e)) (fun _ _ => trivial) (fun _ _ _ _ _ => trivial) (by kernel_rfl) (by kernel_rfl) (by kernel_rfl)
  (fun s _ => recFacts_of (by rfl)) (by rfl) (by assumption) (by decide +kernel) ⟨rfl, rfl, rfl, rfl, rfl, by decide +kernel⟩ ?hw walk
 w_witness2
inductive V where
 | none | b (x : Bool) | i (n : Int) | s (l : List Nat) | a (x : Addr) | d (k : Nat)
noncomputable def eqK : List Nat → List Nat → Bool
 | [], [] => true
 | a :: l, b :: r => Nat.beq a b && eqK l r
 | _, _ => false
theorem eqK_iff {a b : List Nat} : eqK a b = true ↔ a = b := by
 induction a generalizing b with
 | nil =>
  cases b with
  | nil => exact ⟨fun _ => rfl, fun _ => rfl⟩
  | cons b r => exact ⟨fun h => (Bool.noConfusion h), fun h => (List.noConfusion rfl (heq_of_eq h))⟩
 | cons a l ih =>
  cases b with
  | nil => exact ⟨fun h => (Bool.noConfusion h), fun h => (List.noConfusion rfl (heq_of_eq h))⟩
  | cons b r =>
   show (Nat.beq a b && eqK l r) = true ↔ _
   rw [Bool.and_eq_true, ih, List.cons.injEq, ← Nat.beq_eq]
noncomputable abbrev Ls := List (List Nat × V)
noncomputable def lk (x : List Nat) : Ls → Option V
 | [] => none
 | (y, v) :: r => bif eqK y x then some v else lk x r
noncomputable def put (x : List Nat) (v : V) : Ls → Ls
 | [] => [(x, v)]
 | (y, u) :: r => bif eqK y x then (y, v) :: r else (y, u) :: put x v r
theorem eqK_ne {a b : List Nat} (h : a ≠ b) : eqK a b = false := by
 cases q : eqK a b with
 | true => exact absurd (eqK_iff.mp q) h
 | false => rfl
theorem eqK_self (a : List Nat) : eqK a a = true := eqK_iff.mpr rfl
theorem lk_head {x y : List Nat} {v : V} {r : Ls} (h : y = x) : lk x ((y, v) :: r) = some v := by
 show (bif eqK y x then some v else lk x r) = _
 rw [h, eqK_self]; rfl
theorem lk_tail {x y : List Nat} {v : V} {r : Ls} (h : y ≠ x) : lk x ((y, v) :: r) = lk x r := by
 show (bif eqK y x then some v else lk x r) = _
 rw [eqK_ne h]; rfl
theorem put_head {x y : List Nat} {v u : V} {r : Ls} (h : y = x) : put x v ((y, u) :: r) = (y, v) :: r := by
 show (bif eqK y x then (y, v) :: r else (y, u) :: put x v r) = _
 rw [h, eqK_self]; rfl
theorem put_tail {x y : List Nat} {v u : V} {r : Ls} (h : y ≠ x) : put x v ((y, u) :: r) = (y, u) :: put x v r := by
 show (bif eqK y x then (y, v) :: r else (y, u) :: put x v r) = _
 rw [eqK_ne h]; rfl
theorem lk_put (x y : List Nat) (v : V) (l : Ls) : lk y (put x v l) = if x = y then some v else lk y l := by
 induction l with
 | nil =>
  show lk y [(x, v)] = _
  split
  ·exact lk_head ‹_›
  ·exact lk_tail ‹_›
 | cons p r ih =>
  obtain ⟨z, u⟩ := p
  by_cases q : z = x
  ·rw [put_head q]
   split
   ·exact lk_head (q.trans ‹_›)
   ·rw [lk_tail (fun e => ‹¬ x = y› (q.symm.trans e)), lk_tail (fun e => ‹¬ x = y› (q.symm.trans e))]
  ·rw [put_tail q]
   by_cases h : z = y
   ·rw [lk_head h, lk_head h, if_neg (fun e => q (h.trans e.symm))]
   ·rw [lk_tail h, lk_tail h, ih]
theorem put_length (x : List Nat) (v : V) (l : Ls) : (put x v l).length = if (lk x l).isSome then l.length else l.length + 1 := by
 induction l with
 | nil => rfl
 | cons p r ih =>
  obtain ⟨z, u⟩ := p
  by_cases q : z = x
  ·rw [put_head q, lk_head q]; rfl
  ·rw [put_tail q, lk_tail q, List.length_cons, ih]
   split <;> rfl

inductive Ob where
 | list (vs : List V)
 | tup (vs : List V)
 | inst (C : Addr) (fs : Ls)
noncomputable abbrev Sto := List Ob

noncomputable def RV (ρ : List Addr) : V → Value → Prop
 | .none, v => v = .none
 | .b x, v => v = .bool x
 | .i n, v => ∃ t, v = .int n t
 | .s l, v => ∃ t, v = .str ⟨l.toArray⟩ t
 | .a x, v => v = .ref x
 | .d k, v => ∃ x, ρ[k]? = some x ∧ v = .ref x
noncomputable def RVs (ρ : List Addr) : List V → List Value → Prop
 | [], [] => True
 | a :: l, b :: r => RV ρ a b ∧ RVs ρ l r
 | _, _ => False
theorem RVs.unnil {ρ : List Addr} {xs : List Value} (h : RVs ρ [] xs) : xs = [] := by
 cases xs with
 | nil => rfl
 | cons x r => exact h.elim
theorem RVs.uncons {ρ : List Addr} {a : V} {l : List V} {xs : List Value} (h : RVs ρ (a :: l) xs) : ∃ b r, xs = b :: r ∧ RV ρ a b ∧ RVs ρ l r := by
 cases xs with
 | nil => exact h.elim
 | cons b r => exact ⟨b, r, rfl, h.1, h.2⟩
theorem RVs.one {ρ : List Addr} {a : V} {xs : List Value} (h : RVs ρ [a] xs) : ∃ x, xs = [x] ∧ RV ρ a x := by
 obtain ⟨x, r, rfl, hx, hr⟩ := h.uncons
 exact ⟨x, by rw [hr.unnil], hx⟩
theorem RVs.two {ρ : List Addr} {a b : V} {xs : List Value} (h : RVs ρ [a, b] xs) : ∃ x y, xs = [x, y] ∧ RV ρ a x ∧ RV ρ b y := by
 obtain ⟨x, r, rfl, hx, hr⟩ := h.uncons
 obtain ⟨y, rfl, hy⟩ := hr.one
 exact ⟨x, y, rfl, hx, hy⟩
theorem RVs.three {ρ : List Addr} {a b d : V} {xs : List Value} (h : RVs ρ [a, b, d] xs) : ∃ x y z, xs = [x, y, z] ∧ RV ρ a x ∧ RV ρ b y ∧ RV ρ d z := by
 obtain ⟨x, r, rfl, hx, hr⟩ := h.uncons
 obtain ⟨y, z, rfl, hy, hz⟩ := hr.two
 exact ⟨x, y, z, rfl, hx, hy, hz⟩
noncomputable def Pfx (ρ ρ1 : List Addr) : Prop := ∀ (k : Nat) (x : Addr), ρ[k]? = some x → ρ1[k]? = some x
theorem Pfx.refl (ρ : List Addr) : Pfx ρ ρ := fun _ _ h => h
theorem Pfx.trans {a b c : List Addr} (h : Pfx a b) (g : Pfx b c) : Pfx a c := fun k x e => g k x (h k x e)
theorem Pfx.app (a b : List Addr) : Pfx a (a ++ b) := fun k x e => by
 rw [List.getElem?_append_left (List.getElem?_eq_some_iff.mp e).1]; exact e
theorem RV.mono {ρ ρ' : List Addr} (h : Pfx ρ ρ') : ∀ {v : V} {x : Value}, RV ρ v x → RV ρ' v x
 | .none, _, e => e
 | .b _, _, e => e
 | .i _, _, e => e
 | .s _, _, e => e
 | .a _, _, e => e
 | .d k, _, ⟨x, e, r⟩ => ⟨x, h k x e, r⟩
theorem RVs.mono {ρ ρ' : List Addr} (h : Pfx ρ ρ') {v : List V} {x : List Value} (e : RVs ρ v x) : RVs ρ' v x := by
 induction v generalizing x with
 | nil => rw [e.unnil]; exact trivial
 | cons a l ih =>
  obtain ⟨b, r, rfl, hb, hr⟩ := e.uncons
  exact ⟨hb.mono h, ih hr⟩
theorem RVs.length {ρ : List Addr} {v : List V} {x : List Value} (e : RVs ρ v x) : v.length = x.length := by
 induction v generalizing x with
 | nil => rw [e.unnil]; rfl
 | cons a l ih =>
  obtain ⟨b, r, rfl, _, hr⟩ := e.uncons
  exact congrArg (· + 1) (ih hr)
theorem RVs.get {ρ : List Addr} {v : List V} {x : List Value} (h : RVs ρ v x) (k : Nat) (a : V) (e : v[k]? = some a) : ∃ b, x[k]? = some b ∧ RV ρ a b := by
 induction v generalizing x k with
 | nil => exact Option.noConfusion rfl (heq_of_eq e)
 | cons c l ih =>
  obtain ⟨b, r, rfl, hb, hr⟩ := h.uncons
  cases k with
  | zero => exact ⟨b, rfl, Option.some.inj e ▸ hb⟩
  | succ k => exact ih hr k e
theorem RVs.app {ρ : List Addr} {v : List V} {x : List Value} {v' : List V} {x' : List Value} (h : RVs ρ v x) (g : RVs ρ v' x') : RVs ρ (v ++ v') (x ++ x') := by
 induction v generalizing x with
 | nil => rw [h.unnil]; exact g
 | cons a l ih =>
  obtain ⟨b, r, rfl, hb, hr⟩ := h.uncons
  exact ⟨hb, ih hr⟩

noncomputable def RF (ρ : List Addr) (fs : Ls) (es : List DictEntry) : Prop :=
 (∀ x v, lk x.cps.toList fs = some v → ∃ val, getL x es = some (some val) ∧ RV ρ v val) ∧
 (∀ x : PySem.Str, lk x.cps.toList fs = none → getL x es = some none) ∧ (∀ e ∈ es, ∃ n t, e.key = .str n t) ∧ es.length ≤ fs.length ∧ es.length ≤ 1000

noncomputable def RO (ρ : List Addr) (x : Addr) : Ob → List (Addr × Obj) → Prop
 | .list vs, ps => ∃ ws n, RVs ρ vs ws ∧ ps = [(x, { cls := .type "list", data := .seq ws.toArray n })]
 | .tup vs, ps => ∃ ws n, RVs ρ vs ws ∧ ps = [(x, { cls := .type "tuple", data := .seq ws.toArray n })]
 | .inst C fs, ps => ∃ dx es n, RF ρ fs es ∧ ps = [(x, instObj C dx), (dx, dictOf es n)]
noncomputable def RS (ρ : List Addr) : Sto → List Addr → List (Addr × Obj) → Prop
 | [], [], ps => ps = []
 | o :: os, x :: xs, ps => ∃ p q, ps = p ++ q ∧ RO ρ x o p ∧ RS ρ os xs q
 | _, _, _ => False
theorem RF.mono {ρ ρ' : List Addr} (h : Pfx ρ ρ') {fs : Ls} {es : List DictEntry} (r : RF ρ fs es) : RF ρ' fs es :=
 ⟨fun x v e => let ⟨val, a, b⟩ := r.1 x v e; ⟨val, a, b.mono h⟩, r.2⟩
theorem RO.mono {ρ ρ' : List Addr} (h : Pfx ρ ρ') {x : Addr} {ps : List (Addr × Obj)} {o : Ob} (e : RO ρ x o ps) : RO ρ' x o ps := by
 cases o with
 | list vs => exact ⟨_, _, e.choose_spec.choose_spec.1.mono h, e.choose_spec.choose_spec.2⟩
 | tup vs => exact ⟨_, _, e.choose_spec.choose_spec.1.mono h, e.choose_spec.choose_spec.2⟩
 | inst C fs => exact ⟨_, _, _, e.choose_spec.choose_spec.choose_spec.1.mono h, e.choose_spec.choose_spec.choose_spec.2⟩
theorem RS.unnil {ρ : List Addr} {xs : List Addr} {ps : List (Addr × Obj)} (h : RS ρ [] xs ps) : xs = [] ∧ ps = [] := by
 cases xs with
 | nil => exact ⟨rfl, h⟩
 | cons => exact h.elim
theorem RS.uncons {ρ : List Addr} {o : Ob} {os : Sto} {xs : List Addr} {ps : List (Addr × Obj)} (h : RS ρ (o :: os) xs ps) : ∃ x r p q, xs = x :: r ∧ ps = p ++ q ∧ RO ρ x o p ∧ RS ρ os r q := by
 cases xs with
 | nil => exact h.elim
 | cons x r => exact ⟨x, r, h.choose, h.choose_spec.choose, rfl, h.choose_spec.choose_spec⟩
theorem RS.mono {ρ ρ' : List Addr} (h : Pfx ρ ρ') {os : Sto} {xs : List Addr} {ps : List (Addr × Obj)} (e : RS ρ os xs ps) : RS ρ' os xs ps := by
 induction os generalizing xs ps with
 | nil => rw [e.unnil.1, e.unnil.2]; exact rfl
 | cons o os ih =>
  obtain ⟨x, r, p, q, rfl, rfl, a, b⟩ := e.uncons
  exact ⟨p, q, rfl, a.mono h, ih b⟩
theorem RS.length {ρ : List Addr} {os : Sto} {xs : List Addr} {ps : List (Addr × Obj)} (e : RS ρ os xs ps) : os.length = xs.length := by
 induction os generalizing xs ps with
 | nil => rw [e.unnil.1]; rfl
 | cons o os ih =>
  obtain ⟨x, r, p, q, rfl, _, _, b⟩ := e.uncons
  exact congrArg (· + 1) (ih b)
noncomputable def AtR (ρ : List Addr) (os : Sto) (xs : List Addr) (ps : List (Addr × Obj)) (k : Nat) (o : Ob) : Prop :=
 ∃ x l p r, xs[k]? = some x ∧ ps = l ++ (p ++ r) ∧ RO ρ x o p ∧ ∀ o' p', RO ρ x o' p' → RS ρ (os.set k o') xs (l ++ (p' ++ r))
theorem RS.at {ρ : List Addr} {os : Sto} {xs : List Addr} {ps : List (Addr × Obj)} (e : RS ρ os xs ps) {k : Nat} {o : Ob} (ek : os[k]? = some o) : AtR ρ os xs ps k o := by
 induction os generalizing xs ps k with
 | nil => exact Option.noConfusion rfl (heq_of_eq ek)
 | cons c os ih =>
  obtain ⟨x, xs, p, q, rfl, rfl, a, b⟩ := e.uncons
  cases k with
  | zero => exact ⟨x, [], p, q, rfl, rfl, Option.some.inj ek ▸ a, fun o' p' h => ⟨p', q, rfl, h, b⟩⟩
  | succ k =>
   obtain ⟨y, l, p', r, h1, rfl, h3, h4⟩ := ih b ek
   exact ⟨y, p ++ l, p', r, h1, (List.append_assoc _ _ _).symm, h3, fun o' p'' h => ⟨p, l ++ (p'' ++ r), List.append_assoc _ _ _, a, h4 o' p'' h⟩⟩
theorem RS.app {ρ : List Addr} {os : Sto} {xs : List Addr} {ps : List (Addr × Obj)} {os' : Sto} {xs' : List Addr} {ps' : List (Addr × Obj)} (e : RS ρ os xs ps) (h : RS ρ os' xs' ps') : RS ρ (os ++ os') (xs ++ xs') (ps ++ ps') := by
 induction os generalizing xs ps with
 | nil => rw [e.unnil.1, e.unnil.2]; exact h
 | cons o os ih =>
  obtain ⟨x, r, p, q, rfl, rfl, a, b⟩ := e.uncons
  exact ⟨p, q ++ ps', List.append_assoc _ _ _, a, ih b⟩

noncomputable def Holds1 (m : PySem.Str → Option Value) (o : Obj) : Prop := ∃ es ep, o.data = .dict es ep ∧ StrKeys es ∧ ∀ name, nsFind es name = m name
noncomputable abbrev Frames := List (Addr × (PySem.Str → Option Value))
noncomputable def FO : Frames → List (Addr × Obj) → Prop
 | [], [] => True
 | p :: l, q :: r => q.1 = p.1 ∧ Holds1 p.2 q.2 ∧ FO l r
 | _, _ => False
noncomputable def Link : List Env → Frames → Prop
 | [], [] => True
 | e :: l, p :: r => e.scope.kind ≠ .module ∧ e.frame = some p.1 ∧ Link l r
 | _, _ => False

structure Sits (hb h : Heap) (ps : List (Addr × Obj)) : Prop where
 at_ : ∀ p ∈ ps, h.get? p.1 = some p.2
 new : ∀ p ∈ ps, hb.get? p.1 = none
 one : (ps.map (·.1)).Nodup
structure Rel0 (hb : Heap) (ext : List (Addr × Obj)) (fr : Frames) (ρ : List Addr) (sto : Sto) (h : Heap) : Prop where
 keep : ∀ b o, hb.get? b = some o → h.get? b = some o
 big : hb.objs.size ≤ h.objs.size
 above : ∀ p ∈ fr, hb.objs.size ≤ p.1
 has : ∃ ps frs, RS ρ sto ρ ps ∧ FO fr frs ∧ Sits hb h (frs ++ (ps ++ ext))

theorem new_none {hb : Heap} {a : Addr} (h : hb.objs.size ≤ a) : hb.get? a = none := by
 cases q : hb.get? a with
 | none => rfl
 | some o => exact absurd (Heap.lt_size q) (Nat.not_lt.mpr h)
theorem Sits.perm {hb h : Heap} {a b : List (Addr × Obj)} (p : a.Perm b) (x : Sits hb h a) : Sits hb h b :=
 ⟨fun q hq => x.at_ q (p.mem_iff.mpr hq), fun q hq => x.new q (p.mem_iff.mpr hq), (p.map _).nodup_iff.mp x.one⟩
theorem Sits.lt {hb h : Heap} {a : List (Addr × Obj)} (x : Sits hb h a) : ∀ p ∈ a, p.1 < h.objs.size := fun p hp => Heap.lt_size (x.at_ p hp)
theorem Sits.push {hb h : Heap} {a : List (Addr × Obj)} (x : Sits hb h a) (big : hb.objs.size ≤ h.objs.size) (o : Obj) (hf : o.isFreed = false) : Sits hb (h.push o) ((h.objs.size, o) :: a) := by
 refine ⟨fun p hp => ?_, fun p hp => ?_, ?_⟩
 ·rcases List.mem_cons.mp hp with rfl | hp
  ·exact Heap.get?_push_size _ hf
  ·exact Heap.get?_push_of_some _ (x.at_ p hp)
 ·rcases List.mem_cons.mp hp with rfl | hp
  ·exact new_none big
  ·exact x.new p hp
 ·rw [List.map_cons, List.nodup_cons]
  refine ⟨fun hm => ?_, x.one⟩
  obtain ⟨q, hq, e⟩ := List.mem_map.mp hm
  have := x.lt q hq
  rw [e] at this
  exact Nat.lt_irrefl _ this
theorem Sits.keeps {hb h h' : Heap} {a : List (Addr × Obj)} (x : Sits hb h a) (k : ∀ b o, h.get? b = some o → h'.get? b = some o) : Sits hb h' a := ⟨fun p hp => k _ _ (x.at_ p hp), x.new, x.one⟩
structure Opened (hb : Heap) (ext : List (Addr × Obj)) (L : Addr) (m : PySem.Str → Option Value) (ofr : Frames) (ρ : List Addr) (sto : Sto) (h : Heap) (ps frs : List (Addr × Obj)) : Prop where
 F : Fr hb L h m
 N : News hb L h (ps ++ (ext ++ frs))
 S : RS ρ sto ρ ps
 O : FO ofr frs
 one : ((ps ++ (ext ++ frs)).map (·.1)).Nodup
theorem ns_of_holds {h : Heap} {L : Addr} {m : PySem.Str → Option Value} {o : Obj} (e : h.get? L = some o) (x : Holds1 m o) : h.Ns L m := let ⟨es, ep, a, b, c⟩ := x; ⟨o, es, ep, e, a, b, c⟩
theorem holds_of_ns {h : Heap} {L : Addr} {m : PySem.Str → Option Value} (x : h.Ns L m) : ∃ o, h.get? L = some o ∧ Holds1 m o := by
 obtain ⟨o, es, ep, e, a, b, c⟩ := x
 exact ⟨o, e, es, ep, a, b, c⟩
theorem Rel0.open {hb : Heap} {ext : List (Addr × Obj)} {L : Addr} {m : PySem.Str → Option Value} {ofr : Frames} {ρ : List Addr} {sto : Sto} {h : Heap} (R : Rel0 hb ext ((L, m) :: ofr) ρ sto h) : ∃ ps frs, Opened hb ext L m ofr ρ sto h ps frs := by
 obtain ⟨ps, frs, S, O, T⟩ := R.has
 cases frs with
 | nil => exact O.elim
 | cons q frs =>
  obtain ⟨rfl, H, O⟩ := O
  have p : ((q :: frs) ++ (ps ++ ext)).Perm (q :: (ps ++ (ext ++ frs))) := by
   refine List.Perm.cons _ ?_
   refine List.perm_append_comm.trans ?_
   rw [List.append_assoc]
  have T' := T.perm p
  refine ⟨ps, frs, ⟨⟨ns_of_holds (T'.at_ _ List.mem_cons_self) H, R.keep, R.above _ List.mem_cons_self⟩, fun x hx => ⟨T'.at_ _ (List.mem_cons_of_mem _ hx), fun e => ?_, T'.new _ (List.mem_cons_of_mem _ hx)⟩, S, O, ?_⟩⟩
  ·have := T'.one
   rw [List.map_cons, List.nodup_cons] at this
   exact this.1 (List.mem_map.mpr ⟨x, hx, e⟩)
  ·have := T'.one
   rw [List.map_cons, List.nodup_cons] at this
   exact this.2
theorem Opened.close {hb : Heap} {ext : List (Addr × Obj)} {L : Addr} {m : PySem.Str → Option Value} {ofr : Frames} {ρ : List Addr} {sto : Sto} {h : Heap} {ps frs : List (Addr × Obj)} (above : ∀ p ∈ ofr, hb.objs.size ≤ p.1) (X : Opened hb ext L m ofr ρ sto h ps frs) : Rel0 hb ext ((L, m) :: ofr) ρ sto h := by
 obtain ⟨o, e, H⟩ := holds_of_ns X.F.ns
 refine ⟨X.F.keep, Nat.le_trans X.F.above (Nat.le_of_lt X.F.ns.lt), fun p hp => ?_, ps, (L, o) :: frs, X.S, ⟨rfl, H, X.O⟩, ?_⟩
 ·rcases List.mem_cons.mp hp with rfl | hp
  ·exact X.F.above
  ·exact above p hp
 ·have p : ((L, o) :: (ps ++ (ext ++ frs))).Perm (((L, o) :: frs) ++ (ps ++ ext)) := by
   refine List.Perm.cons _ ?_
   rw [← List.append_assoc]
   exact List.perm_append_comm
  refine Sits.perm p ⟨fun q hq => ?_, fun q hq => ?_, ?_⟩
  ·rcases List.mem_cons.mp hq with rfl | hq
   ·exact e
   ·exact (X.N q hq).1
  ·rcases List.mem_cons.mp hq with rfl | hq
   ·exact new_none X.F.above
   ·exact (X.N q hq).2.2
  ·rw [List.map_cons, List.nodup_cons]
   refine ⟨fun hm => ?_, X.one⟩
   obtain ⟨q, hq, e⟩ := List.mem_map.mp hm
   exact (X.N q hq).2.1 e
section
noncomputable def idx : Nat → List Obj → Frag
 | _, [] => []
 | n, o :: l => (n, o) :: idx (n + 1) l
noncomputable def KP (P : Params) : Frag := idx 0 (fin P)
structure Base (w : World) (hb : Heap) : Prop where
 K : (KP w.params).In hb
 top : ∃ p l mg mb, TopRead p l mg mb hb

structure Cx where
 w : World
 hb : Heap
 ext : List (Addr × Obj)
 A₀ : Around
 outer : List Env
 ofr : Frames
 qual : PySem.Str
 scope : Scope
 L : Addr
 fa : Addr
 cd : Value
noncomputable abbrev Cx.env (c : Cx) : Env := envOf c.qual c.scope c.L c.fa c.cd
noncomputable abbrev Cx.A (c : Cx) : Around := c.A₀.deeper c.env
noncomputable abbrev Cx.M (c : Cx) : Model := model pw c.w
structure Cx.OK (c : Cx) (D : Nat) : Prop where
 base : Base c.w c.hb
 frames : c.A₀.frames = some c.outer
 link : Link c.outer c.ofr
 handled : c.A₀.handled = none
 room : c.A₀.depth + 20 * D + 20 ≤ 900
 units : c.A₀.units + 100 * D + 100 ≤ 9000
 kind : c.scope.kind = .function
noncomputable def RL (ρ : List Addr) (loc : Ls) (m : PySem.Str → Option Value) : Prop := ∀ (x : PySem.Str) (v : V), lk x.cps.toList loc = some v → ∃ val, m x = some val ∧ RV ρ v val
noncomputable def Rel (c : Cx) (ρ : List Addr) (loc : Ls) (sto : Sto) (h : Heap) : Prop := ∃ m, RL ρ loc m ∧ Rel0 c.hb c.ext ((c.L, m) :: c.ofr) ρ sto h
structure Same (s s' : Shared) : Prop where
 gens : s'.gens = s.gens
 os : s'.os = s.os
theorem Same.refl (s : Shared) : Same s s := ⟨rfl, rfl⟩
theorem Same.trans {a b c : Shared} (x : Same a b) (y : Same b c) : Same a c := ⟨y.gens.trans x.gens, y.os.trans x.os⟩
theorem Rel.above {c : Cx} {ρ : List Addr} {loc : Ls} {sto : Sto} {h : Heap} (R : Rel c ρ loc sto h) : ∀ p ∈ c.ofr, c.hb.objs.size ≤ p.1 := by
 obtain ⟨m, _, R⟩ := R
 exact fun p hp => R.above p (List.mem_cons_of_mem _ hp)
theorem RL.mono {ρ ρ' : List Addr} (h : Pfx ρ ρ') {loc : Ls} {m : PySem.Str → Option Value} (r : RL ρ loc m) : RL ρ' loc m := fun x v e => let ⟨val, a, b⟩ := r x v e; ⟨val, a, b.mono h⟩

noncomputable def DoAt {α : Type} (c : Cx) (ρ : List Addr) (t : Sem α) (loc : Ls) (sto : Sto) (P : List Addr → α → Prop) (loc' : Ls) (sto' : Sto) : Prop :=
 ∀ (s : Shared) (E : Value → Shared → Prop) (Q : α → Shared → Prop), Rel c ρ loc sto s.heap →
  (∀ s' ρ' x, Pfx ρ ρ' → P ρ' x → Rel c ρ' loc' sto' s'.heap → Same s s' → Q x s') → wpAny c.M c.A t Q E s
noncomputable def Do {α : Type} (c : Cx) (t : Sem α) (loc : Ls) (sto : Sto) (P : List Addr → α → Prop) (loc' : Ls) (sto' : Sto) : Prop := ∀ ρ, DoAt c ρ t loc sto P loc' sto'
noncomputable abbrev Ev (c : Cx) (e : PySem.Expr) (loc : Ls) (sto : Sto) (v : V) (sto' : Sto) : Prop := Do c (eval e c.env) loc sto (fun ρ x => RV ρ v x) loc sto'
noncomputable abbrev Tst (c : Cx) (e : PySem.Expr) (loc : Ls) (sto : Sto) (b : Bool) (sto' : Sto) : Prop := Do c (isTrue e c.env (eval e c.env)) loc sto (fun _ x => x = b) loc sto'

noncomputable def Pv (M : Model) (A : Around) (t : Sem Value) (v : V) : Prop :=
 ∀ (s : Shared) (E : Value → Shared → Prop) (Q : Value → Shared → Prop), (∀ val tk, RV [] v val → Q val { s with toks := tk }) → wpAny M A t Q E s
theorem Pv.doAt {c : Cx} {t : Sem Value} {v : V} (h : Pv c.M c.A t v) (ρ : List Addr) (loc : Ls) (sto : Sto) : DoAt c ρ t loc sto (fun ρ x => RV ρ v x) loc sto := fun s E Q R k =>
 h s E Q fun val tk r => k _ ρ val (Pfx.refl ρ) (r.mono fun k x e => by simp at e) R ⟨rfl, rfl⟩

section
variable {c : Cx} {D : Nat} {loc : Ls} {sto sto₁ sto₂ : Sto}

theorem toList_mk (l : List Nat) : (PySem.Str.mk l.toArray).cps.toList = l := by simp
theorem len_mk (l : List Nat) : (PySem.Str.mk l.toArray).length = l.length := by simp [PySem.Str.length]

theorem ev_int (i : Int) (k : Nat) (pos : Pos) : Ev c (.Constant (.int i) k pos) loc sto (.i i) sto := fun ρ s E Q R f => wpAny_Constant_int (f _ ρ _ (Pfx.refl ρ) ⟨_, rfl⟩ R ⟨rfl, rfl⟩)
theorem ev_str (x : PySem.Str) (k : Nat) (pos : Pos) : Ev c (.Constant (.str x) k pos) loc sto (.s x.cps.toList) sto := fun ρ s E Q R f => Constant_str (f _ ρ _ (Pfx.refl ρ) ⟨s.toks, by simp⟩ R ⟨rfl, rfl⟩)
theorem ev_bool (b : Bool) (k : Nat) (pos : Pos) : Ev c (.Constant (.bool b) k pos) loc sto (.b b) sto := fun ρ s E Q R f => fun _ _ _ => f _ ρ _ (Pfx.refl ρ) rfl R ⟨rfl, rfl⟩

theorem ev_local (hc : c.OK D) {x : PySem.Str} {pos : Pos} {v : V} (hv : lk x.cps.toList loc = some v) (hk : c.scope.names.lookup x = some .local) (hd : (x == ("__debug__" : PySem.Str)) = false) :
  Ev c (.Name x pos) loc sto v sto := fun ρ s E Q R f => by
 obtain ⟨m, RL, R0⟩ := id R
 obtain ⟨val, hm, rv⟩ := RL x v hv
 obtain ⟨ps, frs, X⟩ := R0.open
 exact ld X.F hm (f _ ρ _ (Pfx.refl ρ) rv R ⟨rfl, rfl⟩) hc.kind hk hd
theorem ev_global (hc : c.OK D) {x : PySem.Str} {pos : Pos} {a : Addr} (e : nsIn (KP c.w.params) mainGlobals x = some (some (.ref a))) (hk : c.scope.names.lookup x = some .globalImplicit) (hd : (x == ("__debug__" : PySem.Str)) = false) :
  Ev c (.Name x pos) loc sto (.a a) sto := fun ρ s E Q R f => by
 obtain ⟨m, RL, R0⟩ := id R
 obtain ⟨ps, frs, X⟩ := R0.open
 obtain ⟨_, _, mg, mb, T⟩ := hc.base.top
 exact name_K X.F hc.base.K T e (f _ ρ _ (Pfx.refl ρ) rfl R ⟨rfl, rfl⟩) hc.kind hk hd

theorem do_store (hc : c.OK D) {x : PySem.Str} {v : V} {val : Value} {ρ : List Addr} (rv : RV ρ v val) (hk : c.scope.names.lookup x = some .local) :
  DoAt c ρ (storeName c.env x val) loc sto (fun _ _ => True) (put x.cps.toList v loc) sto := fun s E Q R f => by
 have ab := R.above
 obtain ⟨m, RL, R0⟩ := R
 obtain ⟨ps, frs, X⟩ := R0.open
 refine stN X.F X.N (fun h' F' N' => f _ ρ () (Pfx.refl ρ) trivial ⟨_, fun y u e => ?_, Opened.close (ps := ps) (frs := frs) ab ⟨F', N', X.S, X.O, X.one⟩⟩ ⟨rfl, rfl⟩) hc.kind hk
 rw [lk_put] at e
 by_cases q : x.cps.toList = y.cps.toList
 ·rw [if_pos q] at e
  have q' : y = x := by
   obtain ⟨⟨l⟩⟩ := x; obtain ⟨⟨r⟩⟩ := y
   simp only at q; rw [q]
  rw [if_pos q']
  cases e
  exact ⟨val, rfl, rv⟩
 ·rw [if_neg q] at e
  have q' : y ≠ x := fun z => q (by rw [z])
  rw [if_neg q']
  exact RL y u e
end

/-! ### plain operators -/
section
variable {w : World} {A : Around}
theorem pv_add (a b : Int) (t u : Tok) : Pv (model pw w) A (binaryOp .Add (.int a t) (.int b u)) (.i (a + b)) := fun s E Q f => PySem.P.add_int (f _ _ ⟨_, rfl⟩)
theorem pv_sub (a b : Int) (t u : Tok) : Pv (model pw w) A (binaryOp .Sub (.int a t) (.int b u)) (.i (a - b)) := fun s E Q f => PySem.P.sub_int (f _ _ ⟨_, rfl⟩)
theorem pv_iadd (a b : Int) (t u : Tok) : Pv (model pw w) A (inplaceOp .Add (.int a t) (.int b u)) (.i (a + b)) := fun s E Q f => PySem.P.iadd_int (f _ _ ⟨_, rfl⟩)
theorem pv_isub (a b : Int) (t u : Tok) : Pv (model pw w) A (inplaceOp .Sub (.int a t) (.int b u)) (.i (a - b)) := fun s E Q f => PySem.P.isub_int (f _ _ ⟨_, rfl⟩)
theorem pv_mod (a b : Int) (t u : Tok) (hb : b ≠ 0) : Pv (model pw w) A (binaryOp .Mod (.int a t) (.int b u)) (.i (a.fmod b)) := fun s E Q f => mod_int' hb (f _ _ ⟨_, rfl⟩)
theorem pv_neg (a : Int) (t : Tok) : Pv (model pw w) A (unaryOp .USub (.int a t)) (.i (-a)) := fun s E Q f => PySem.P.neg_int (f _ _ ⟨_, rfl⟩)
theorem pv_lt (a b : Int) (t u : Tok) : Pv (model pw w) A (compareOp .Lt (.int a t) (.int b u)) (.b (decide (a < b))) := fun s E Q f => PySem.P.lt_int (f _ _ rfl)
theorem pv_le (a b : Int) (t u : Tok) : Pv (model pw w) A (compareOp .LtE (.int a t) (.int b u)) (.b (decide (a ≤ b))) := fun s E Q f => PySem.P.le_int (f _ _ rfl)
theorem pv_gt (a b : Int) (t u : Tok) : Pv (model pw w) A (compareOp .Gt (.int a t) (.int b u)) (.b (decide (b < a))) := fun s E Q f => PySem.P.gt_int (f _ _ rfl)
theorem pv_ge (a b : Int) (t u : Tok) : Pv (model pw w) A (compareOp .GtE (.int a t) (.int b u)) (.b (decide (b ≤ a))) := fun s E Q f => PySem.P.ge_int (f _ _ rfl)
theorem pv_eq (a b : Int) (t u : Tok) : Pv (model pw w) A (compareOp .Eq (.int a t) (.int b u)) (.b (a == b)) := fun s E Q f => PySem.P.eq_int (f _ _ rfl)
theorem pv_ne (a b : Int) (t u : Tok) : Pv (model pw w) A (compareOp .NotEq (.int a t) (.int b u)) (.b (a != b)) := fun s E Q f => PySem.P.ne_int (f _ _ rfl)
theorem pv_eqS (a b : List Nat) (t u : Tok) : Pv (model pw w) A (compareOp .Eq (.str ⟨a.toArray⟩ t) (.str ⟨b.toArray⟩ u)) (.b (a == b)) := fun s E Q f => PySem.P.eq_str (f _ _ (by simp [RV]))
theorem pv_neS (a b : List Nat) (t u : Tok) : Pv (model pw w) A (compareOp .NotEq (.str ⟨a.toArray⟩ t) (.str ⟨b.toArray⟩ u)) (.b (a != b)) := fun s E Q f => PySem.P.ne_str (f _ _ (by simp [RV]))
theorem app_mk (a b : List Nat) : (PySem.Str.mk a.toArray) ++ (PySem.Str.mk b.toArray) = PySem.Str.mk (a ++ b).toArray := by
 show PySem.Str.mk _ = _
 simp
theorem pv_addS (a b : List Nat) (t u : Tok) (h : a.length + b.length ≤ 1000) : Pv (model pw w) A (binaryOp .Add (.str ⟨a.toArray⟩ t) (.str ⟨b.toArray⟩ u)) (.s (a ++ b)) := fun s E Q f =>
 PyProof.Rows.add_str (fun t' tk => f _ tk ⟨t', by rw [app_mk]⟩) (by rw [len_mk, len_mk, sizeLine_eq]; exact Nat.le_trans h (by decide))
end
end
section
noncomputable def InstOK (P : Params) (C : Addr) (name : PySem.Str) : Prop :=
 plainGet (KP P) C name = true ∧ hasDictIn (KP P) C = true ∧ ∃ attr, findIn (KP P) (.ref C) name = some attr ∧ noGet (KP P) attr = true
noncomputable def SetOK (P : Params) (C : Addr) (name : PySem.Str) : Prop :=
 findIn (KP P) (.ref C) "__setattr__" = some (some (.builtin "object.__setattr__")) ∧ plainOver (KP P) C = true ∧ takerIn (KP P) C name = some none ∧ hasDictIn (KP P) C = true
theorem handed_of {ρ : List Addr} : ∀ {v : V} {x : Value}, RV ρ v x → handedIn x = true
 | .none, _, e => by rw [show _ = _ from e]; rfl
 | .b _, _, e => by rw [show _ = _ from e]; rfl
 | .i _, _, ⟨_, e⟩ => by rw [e]; rfl
 | .s _, _, ⟨_, e⟩ => by rw [e]; rfl
 | .a _, _, e => by rw [show _ = _ from e]; rfl
 | .d _, _, ⟨_, _, e⟩ => by rw [e]; rfl

section
variable {c : Cx} {D : Nat} {loc : Ls} {sto sto₁ sto₂ : Sto}
theorem Opened.mem {hb : Heap} {ext : List (Addr × Obj)} {L : Addr} {m : PySem.Str → Option Value} {ofr : Frames} {ρ : List Addr} {sto : Sto} {h : Heap} {ps frs : List (Addr × Obj)} (X : Opened hb ext L m ofr ρ sto h ps frs) {p : Addr × Obj} (hp : p ∈ ps) : h.get? p.1 = some p.2 := (X.N p (List.mem_append_left _ hp)).1

theorem get_dyn (hc : c.OK D) {k : Nat} {C : Addr} {fs : Ls} {name : PySem.Str} {v : V} {val : Value} {ρ : List Addr} (ek : sto[k]? = some (.inst C fs)) (ev : lk name.cps.toList fs = some v) (ok : InstOK c.w.params C name) (rv : RV ρ (.d k) val) :
  DoAt c ρ (getAttr val name true) loc sto (fun ρ x => RV ρ v x) loc sto := fun s E Q R f => by
 obtain ⟨x, ex, rfl⟩ := rv
 obtain ⟨m, RL, R0⟩ := id R
 obtain ⟨ps, frs, X⟩ := R0.open
 obtain ⟨x', l, p, r, h1, rfl, ⟨dx, es, n, RFs, rfl⟩, _⟩ := X.S.at ek
 rw [ex] at h1
 obtain rfl := Option.some.inj h1
 obtain ⟨val, hl, rval⟩ := RFs.1 name v ev
 obtain ⟨o1, o2, attr, o3, o4⟩ := ok
 have I : InstAt s.heap x (instObj C dx) C (some (dictOf es n)) := ⟨X.mem (p := (x, instObj C dx)) (by simp), rfl, rfl, X.mem (p := (dx, dictOf es n)) (by simp)⟩
 exact get_own X.F hc.base.K I o1 o2 o3 o4 hl (handed_of rval) (f _ ρ val (Pfx.refl ρ) rval R ⟨rfl, rfl⟩)

noncomputable def StrKs (es : List DictEntry) : Prop := ∀ e ∈ es, ∃ n t, e.key = .str n t
theorem getL_of {es : List DictEntry} (k : StrKs es) (x : PySem.Str) : getL x es = some ((es.find? (·.key.isStr x)).map (·.val)) := by
 unfold getL
 cases h : es.find? (·.key.isStr x) with
 | some e => rfl
 | none =>
  rw [if_neg]
  ·rfl
  ·intro hh
   obtain ⟨e, he, q⟩ := List.any_eq_true.mp hh
   obtain ⟨n, t, ek⟩ := k e he
   unfold DictEntry.refKey at q
   rw [ek] at q
   cases q
theorem putL_keys {es : List DictEntry} (k : StrKs es) (x : PySem.Str) (hsh : Int) (t : Tok) (v : Value) : StrKs (putL x hsh (.str x t) v es) := by
 induction es with
 | nil =>
  intro e he
  simp only [putL, List.mem_singleton] at he
  subst he
  exact ⟨x, t, rfl⟩
 | cons a r ih =>
  intro e he
  unfold putL at he
  have kr : StrKs r := fun e he => k e (List.mem_cons_of_mem _ he)
  split at he
  ·rcases List.mem_cons.mp he with rfl | he
   ·exact k a List.mem_cons_self
   ·exact kr e he
  ·rcases List.mem_cons.mp he with rfl | he
   ·exact k _ List.mem_cons_self
   ·exact ih kr e he
theorem isStr_str (n : PySem.Str) (t : Tok) (x : PySem.Str) : (Value.str n t).isStr x = decide (n = x) := rfl
theorem find_hit {a : DictEntry} {r : List DictEntry} {y : PySem.Str} (h : a.key.isStr y = true) : (a :: r).find? (·.key.isStr y) = some a := by rw [List.find?_cons, h]
theorem find_miss {a : DictEntry} {r : List DictEntry} {y : PySem.Str} (h : a.key.isStr y = false) : (a :: r).find? (·.key.isStr y) = r.find? (·.key.isStr y) := by rw [List.find?_cons, h]
theorem putL_hit {a : DictEntry} {r : List DictEntry} {x : PySem.Str} {hsh : Int} {key v : Value} (h : a.key.isStr x = true) : putL x hsh key v (a :: r) = { a with val := v } :: r := if_pos h
theorem putL_miss {a : DictEntry} {r : List DictEntry} {x : PySem.Str} {hsh : Int} {key v : Value} (h : a.key.isStr x = false) : putL x hsh key v (a :: r) = a :: putL x hsh key v r := if_neg (by rw [h]; exact Bool.false_ne_true)
theorem find_putL {es : List DictEntry} (k : StrKs es) (x y : PySem.Str) (hsh : Int) (t : Tok) (v : Value) :
  ((putL x hsh (.str x t) v es).find? (·.key.isStr y)).map (·.val) = if x = y then some v else (es.find? (·.key.isStr y)).map (·.val) := by
 induction es with
 | nil =>
  by_cases h : x = y
  ·rw [if_pos h]; exact congrArg (Option.map _) (find_hit (a := ⟨hsh, .str x t, v⟩) (r := []) (decide_eq_true h))
  ·rw [if_neg h]; exact congrArg (Option.map _) (find_miss (a := ⟨hsh, .str x t, v⟩) (r := []) (decide_eq_false h))
 | cons a r ih =>
  have ih := ih fun e he => k e (List.mem_cons_of_mem _ he)
  obtain ⟨n, t', ek⟩ := k a List.mem_cons_self
  have is : ∀ z, a.key.isStr z = decide (n = z) := fun z => by rw [ek]; rfl
  by_cases h : n = x
  ·rw [putL_hit ((is x).trans (decide_eq_true h))]
   by_cases q : x = y
   ·rw [if_pos q]; exact congrArg (Option.map _) (find_hit (a := { a with val := v }) ((is y).trans (decide_eq_true (h.trans q))))
   ·have m := (is y).trans (decide_eq_false fun e => q (h.symm.trans e))
    rw [if_neg q, find_miss m]; exact congrArg (Option.map _) (find_miss (a := { a with val := v }) m)
  ·rw [putL_miss ((is x).trans (decide_eq_false h))]
   by_cases q : n = y
   ·have m := (is y).trans (decide_eq_true q)
    rw [if_neg fun e => h (q.trans e.symm), find_hit m, find_hit m]
   ·have m := (is y).trans (decide_eq_false q)
    rw [find_miss m, find_miss m, ih]
theorem putL_length (x : PySem.Str) (hsh : Int) (key v : Value) (es : List DictEntry) : (putL x hsh key v es).length = if (es.find? (·.key.isStr x)).isSome then es.length else es.length + 1 := by
 induction es with
 | nil => rfl
 | cons a r ih =>
  cases h : a.key.isStr x with
  | true => rw [putL_hit h, find_hit h]; rfl
  | false =>
   rw [putL_miss h, find_miss h, List.length_cons, ih]
   split <;> rfl
theorem eq_of_cps {x y : PySem.Str} (q : x.cps.toList = y.cps.toList) : x = y := by
 obtain ⟨⟨l⟩⟩ := x; obtain ⟨⟨r⟩⟩ := y
 simp only at q; rw [q]
theorem RF.put {ρ : List Addr} {fs : Ls} {es : List DictEntry} (r : RF ρ fs es) (x : PySem.Str) (hsh : Int) (t : Tok) {v : V} {val : Value} (rv : RV ρ v val) (hz : (lk x.cps.toList fs).isSome = true ∨ fs.length ≤ 900) :
  RF ρ (put x.cps.toList v fs) (putL x hsh (.str x t) val es) := by
 obtain ⟨r1, r2, r3, r4, r5⟩ := r
 have k3 := putL_keys r3 x hsh t val
 have g := fun y => getL_of k3 y
 have g0 := fun y => getL_of r3 y
 have f := fun y => find_putL r3 x y hsh t val
 have hcase : (lk x.cps.toList fs).isSome = (es.find? (·.key.isStr x)).isSome := by
  cases e : lk x.cps.toList fs with
  | none =>
   have := r2 x e
   rw [g0] at this
   cases q : es.find? (·.key.isStr x) with
   | none => rfl
   | some u => rw [q] at this; cases this
  | some u =>
   obtain ⟨val', e', _⟩ := r1 x u e
   rw [g0] at e'
   cases q : es.find? (·.key.isStr x) with
   | none => rw [q] at e'; cases e'
   | some u => rfl
 refine ⟨fun y u e => ?_, fun y e => ?_, k3, ?_, ?_⟩
 ·rw [lk_put] at e
  rw [g, f]
  by_cases q : x = y
  ·subst q
   rw [if_pos rfl] at e ⊢
   cases e
   exact ⟨val, rfl, rv⟩
  ·rw [if_neg fun z => q (eq_of_cps z)] at e
   rw [if_neg q, ← g0]
   exact r1 y u e
 ·rw [lk_put] at e
  rw [g, f]
  by_cases q : x = y
  ·subst q
   rw [if_pos rfl] at e
   cases e
  ·rw [if_neg fun z => q (eq_of_cps z)] at e
   rw [if_neg q, ← g0]
   exact r2 y e
 ·rw [putL_length, put_length, hcase]
  split <;> lia
 ·rw [putL_length]
  rcases hz with hz | hz
  ·rw [hcase] at hz
   rw [if_pos hz]; exact r5
  ·split <;> lia

theorem upd_mid {d : Addr} {o o' : Obj} : ∀ {l r : List (Addr × Obj)}, (∀ p ∈ l, p.1 ≠ d) → (∀ p ∈ r, p.1 ≠ d) → Upd d o o' (l ++ (d, o) :: r) (l ++ (d, o') :: r)
 | [], _, _, h => .head h
 | p :: l, _, g, h => .tail (g p List.mem_cons_self) (upd_mid (fun q hq => g q (List.mem_cons_of_mem _ hq)) h)
theorem nodup_mid {l r : List (Addr × Obj)} {p : Addr × Obj} (h : ((l ++ p :: r).map (·.1)).Nodup) : (∀ q ∈ l, q.1 ≠ p.1) ∧ ∀ q ∈ r, q.1 ≠ p.1 := by
 rw [List.map_append, List.map_cons] at h
 obtain ⟨_, h2, h3⟩ := List.nodup_append.mp h
 refine ⟨fun q hq e => h3 q.1 (List.mem_map.mpr ⟨q, hq, rfl⟩) p.1 List.mem_cons_self e, fun q hq e => ?_⟩
 rw [List.nodup_cons] at h2
 exact h2.1 (by rw [← e]; exact List.mem_map.mpr ⟨q, hq, rfl⟩)

theorem set_dyn (hc : c.OK D) {k : Nat} {C : Addr} {fs : Ls} {name : PySem.Str} {v : V} {obj val : Value} {ρ : List Addr} (ek : sto[k]? = some (.inst C fs)) (ok : SetOK c.w.params C name) (rv : RV ρ (.d k) obj) (rval : RV ρ v val)
  (hz : (lk name.cps.toList fs).isSome = true ∨ fs.length ≤ 900) :
  DoAt c ρ (setAttr obj name val) loc sto (fun _ _ => True) loc (sto.set k (.inst C (put name.cps.toList v fs))) := fun s E Q R f => by
 obtain ⟨x, ex, rfl⟩ := rv
 have ab := R.above
 obtain ⟨m, RL, R0⟩ := id R
 obtain ⟨ps, frs, X⟩ := R0.open
 obtain ⟨x', l, p, r, h1, rfl, ⟨dx, es, n, RFs, rfl⟩, upd⟩ := X.S.at ek
 rw [ex] at h1
 obtain rfl := Option.some.inj h1
 obtain ⟨o1, o2, o3, o4⟩ := ok
 have I : InstAt s.heap x (instObj C dx) C (some (dictOf es n)) := ⟨X.mem (p := (x, instObj C dx)) (by simp), rfl, rfl, X.mem (p := (dx, dictOf es n)) (by simp)⟩
 have RF' := RFs.put name (PyData.keyHash c.w.params name) (s.toks + 1) rval hz
 have hl : (getL name es).isSome = true := by rw [getL_of RFs.2.2.1]; rfl
 have eN : (l ++ ([(x, instObj C dx), (dx, dictOf es n)] ++ r)) ++ (c.ext ++ frs) = (l ++ [(x, instObj C dx)]) ++ (dx, dictOf es n) :: (r ++ (c.ext ++ frs)) := by simp
 have N := X.N
 have one := X.one
 rw [eN] at N one
 obtain ⟨n1, n2⟩ := nodup_mid one
 refine set_dict X.F hc.base.K N I rfl o1 o2 o3 o4 hl rfl (upd_mid n1 n2) RF'.2.2.2.2 fun h' F' N' => f _ ρ () (Pfx.refl ρ) trivial ⟨m, RL, Opened.close (ps := l ++ ([(x, instObj C dx), (dx, dictOf (putL name (PyData.keyHash c.w.params name) (.str name (s.toks + 1)) val es) (putN name es n))] ++ r)) (frs := frs) ab
  ⟨F', ?_, upd _ _ ⟨dx, _, _, RF', rfl⟩, X.O, ?_⟩⟩ ⟨rfl, rfl⟩
 ·have e : ∀ o, (l ++ ([(x, instObj C dx), (dx, o)] ++ r)) ++ (c.ext ++ frs) = (l ++ [(x, instObj C dx)]) ++ (dx, o) :: (r ++ (c.ext ++ frs)) := fun o => by simp
  rw [e]; exact N'
 ·have := X.one
  simpa using this
end
end
inductive Out where
 | next | brk | cont | ret (v : V) | exc (C : Addr)
noncomputable def Post (c : Cx) (o : Out) (loc' : Ls) (sto' : Sto) (ρ : List Addr) (s : Shared) (Q : Flow → Shared → Prop) (E : Value → Shared → Prop) : Prop := match o with
 | .next => ∀ s' ρ', Pfx ρ ρ' → Rel c ρ' loc' sto' s'.heap → Same s s' → Q .next s'
 | .brk => ∀ s' ρ', Pfx ρ ρ' → Rel c ρ' loc' sto' s'.heap → Same s s' → Q .brk s'
 | .cont => ∀ s' ρ', Pfx ρ ρ' → Rel c ρ' loc' sto' s'.heap → Same s s' → Q .cont s'
 | .ret v => ∀ s' ρ' val, Pfx ρ ρ' → RV ρ' v val → Rel c ρ' loc' sto' s'.heap → Same s s' → Q (.ret val) s'
 | .exc C => ∀ s' ρ' h' e, Pfx ρ ρ' → Rel c ρ' loc' sto' s'.heap → Same s s' → Heap.MadeExcOf s'.heap h' e (.ref C) [] → E (.ref e) { s' with heap := h' }
noncomputable def Sx (c : Cx) (t : Sem Flow) (loc : Ls) (sto : Sto) (o : Out) (loc' : Ls) (sto' : Sto) : Prop :=
 ∀ (ρ : List Addr) (s : Shared) (Q : Flow → Shared → Prop) (E : Value → Shared → Prop), Rel c ρ loc sto s.heap → PassesOwn c.M c.A c.env E → Post c o loc' sto' ρ s Q E → wpAny c.M c.A t Q E s

noncomputable def CallS (D : Nat) (f : Addr) (args : List V) (sto : Sto) (v : V) (sto' : Sto) : Prop :=
 ∀ (w : World) (hb : Heap) (ext : List (Addr × Obj)) (fr : Frames) (ρ : List Addr) (A : Around) (envs : List Env), Base w hb → A.frames = some envs → Link envs fr → A.handled = none → A.depth + 20 * D + 20 ≤ 900 → A.units + 100 * D + 100 ≤ 9000 →
  ∀ (s : Shared) (vals : List Value) (R : Result → Shared → Prop), RVs ρ args vals → Rel0 hb ext fr ρ sto s.heap →
   (∀ s' ρ' val, Pfx ρ ρ' → RV ρ' v val → Rel0 hb ext fr ρ' sto' s'.heap → Same s s' → R (.ok (.ret val)) s') → codeAny (model pw w) A (.call (.ref f) ⟨vals, []⟩) R s

theorem Rel0.drop {hb : Heap} {ext : List (Addr × Obj)} {p : Addr × (PySem.Str → Option Value)} {fr : Frames} {ρ : List Addr} {sto : Sto} {h : Heap} (R : Rel0 hb ext (p :: fr) ρ sto h) : Rel0 hb ext fr ρ sto h := by
 obtain ⟨ps, frs, S, O, T⟩ := R.has
 cases frs with
 | nil => exact O.elim
 | cons q frs =>
  refine ⟨R.keep, R.big, fun p hp => R.above p (List.mem_cons_of_mem _ hp), ps, frs, S, O.2.2, fun p hp => T.at_ p (List.mem_cons_of_mem _ hp), fun p hp => T.new p (List.mem_cons_of_mem _ hp), ?_⟩
  have := T.one
  rw [List.cons_append, List.map_cons, List.nodup_cons] at this
  exact this.2
theorem Rel0.enter {hb : Heap} {ext : List (Addr × Obj)} {m : PySem.Str → Option Value} {fr : Frames} {ρ : List Addr} {sto : Sto} {h h₀ : Heap} (R : Rel0 hb ext fr ρ sto h) (n : h₀.Ns h.objs.size m) (k : ∀ b o, h.get? b = some o → h₀.get? b = some o) :
  Rel0 hb ext ((h.objs.size, m) :: fr) ρ sto h₀ := by
 obtain ⟨ps, frs, S, O, T⟩ := R.has
 obtain ⟨o, e, H⟩ := holds_of_ns n
 refine ⟨fun b o e => k b o (R.keep b o e), Nat.le_trans R.big (Nat.le_of_lt n.lt), fun p hp => ?_, ps, (h.objs.size, o) :: frs, S, ⟨rfl, H, O⟩, fun p hp => ?_, fun p hp => ?_, ?_⟩
 ·rcases List.mem_cons.mp hp with rfl | hp
  ·exact R.big
  ·exact R.above p hp
 ·rcases List.mem_cons.mp hp with rfl | hp
  ·exact e
  ·exact k _ _ (T.at_ p hp)
 ·rcases List.mem_cons.mp hp with rfl | hp
  ·exact new_none R.big
  ·exact T.new p hp
 ·rw [List.cons_append, List.map_cons, List.nodup_cons]
  refine ⟨fun hm => ?_, T.one⟩
  obtain ⟨q, hq, e⟩ := List.mem_map.mp hm
  have := T.lt q hq
  rw [e] at this
  exact Nat.lt_irrefl _ this

noncomputable def locs0 : List PySem.Str → List V → Ls
 | x :: xs, v :: vs => (x.cps.toList, v) :: locs0 xs vs
 | _, _ => []
theorem lookup_zip {ρ : List Addr} {names : List PySem.Str} {args : List V} {vals : List Value} (h : RVs ρ args vals) (x : PySem.Str) (v : V) (e : lk x.cps.toList (locs0 names args) = some v) : ∃ val, (names.zip vals).lookup x = some val ∧ RV ρ v val := by
 induction names generalizing args vals with
 | nil => exact Option.noConfusion rfl (heq_of_eq (show none = some v from e))
 | cons n ns ih =>
  cases args with
  | nil => exact Option.noConfusion rfl (heq_of_eq (show none = some v from e))
  | cons a as =>
   obtain ⟨b, bs, rfl, hb, hr⟩ := h.uncons
   have e : lk x.cps.toList ((n.cps.toList, a) :: locs0 ns as) = some v := e
   rw [List.zip_cons_cons, List.lookup_cons]
   by_cases q : x = n
   ·rw [lk_head (by rw [q])] at e
    rw [beq_iff_eq.mpr q]
    exact ⟨b, rfl, Option.some.inj e ▸ hb⟩
   ·rw [lk_tail (fun z => q (eq_of_cps z).symm)] at e
    rw [beq_eq_false_iff_ne.mpr q]
    exact ih hr e
theorem lookup_mem {α β : Type} [BEq α] [LawfulBEq α] {l : List (α × β)} {x : α} {v : β} (e : l.lookup x = some v) : (x, v) ∈ l := by
 induction l with
 | nil => cases e
 | cons p l ih =>
  rw [List.lookup_cons] at e
  by_cases q : x = p.1
  ·rw [beq_iff_eq.mpr q] at e
   rw [q, ← Option.some.inj e]
   exact List.mem_cons_self
  ·rw [beq_eq_false_iff_ne.mpr q] at e
   exact List.mem_cons_of_mem _ (ih e)
theorem lookup_of_mem {α β : Type} [BEq α] [LawfulBEq α] {l : List (α × β)} (h : (l.map (·.1)).Nodup) {x : α} {v : β} (m : (x, v) ∈ l) : l.lookup x = some v := by
 induction l with
 | nil => cases m
 | cons p l ih =>
  rw [List.map_cons, List.nodup_cons] at h
  rw [List.lookup_cons]
  rcases List.mem_cons.mp m with e | m
  ·rw [← e, beq_self_eq_true]
  ·rw [beq_eq_false_iff_ne.mpr fun z => h.1 (by rw [← z]; exact List.mem_map.mpr ⟨_, m, rfl⟩)]
   exact ih h.2 m
theorem lookup_rev {α β : Type} [BEq α] [LawfulBEq α] {l : List (α × β)} (h : (l.map (·.1)).Nodup) {x : α} {v : β} (e : l.lookup x = some v) : l.reverse.lookup x = some v :=
 lookup_of_mem (by rw [List.map_reverse]; exact (List.reverse_perm _).nodup_iff.mpr h) (List.mem_reverse.mpr (lookup_mem e))
theorem zip_keys {α β : Type} {a : List α} {b : List β} (h : a.length = b.length) : (a.zip b).map (·.1) = a := List.map_fst_zip (Nat.le_of_eq h)

structure FnAt (f : Addr) (st : Stmt) (q : String) (pm cd : Value) (names : List PySem.Str) : Prop where
 at_ : ∀ P, (KP P).lookup f = some (ob (vT "function") (fB st q pm cd))
 code : ∀ P, codeIn (KP P) cd (PySem.Str.ofString q) = true
 bind : ∀ vals : List Value, vals.length = names.length → bindArgs { name := defName st, qualname := PySem.Str.ofString q, params := defArgs st, body := .stmts (defBody st), scope := defScope st, globals := 3, closure := [], defaults := .none, kwdefaults := .none, pyModule := pm, code := cd, builtins := 0 } ⟨vals, []⟩ = pure (names.zip vals)
 nodup : names.Nodup
 locals : ∀ x ∈ names, (defScope st).names.lookup x = some .local
 cells : ∀ x ∈ (defScope st).names, x.2 ≠ .cell
 co : (defScope st).isCoroutine = false
 gen : (defScope st).isGenerator = false
 kind : (defScope st).kind = .function
noncomputable def retOf : Out → Option V
 | .next => some .none
 | .ret v => some v
 | _ => none
theorem call_body {D : Nat} {f : Addr} {st : Stmt} {q : String} {pm cd : Value} {names : List PySem.Str} (hf : FnAt f st q pm cd names) {args : List V} {sto sto' : Sto} {v : V} (hlen : args.length = names.length)
  (body : ∀ c : Cx, c.OK D → c.scope = defScope st → ∃ o loc', retOf o = some v ∧ Sx c (execs (defBody st) c.env) (locs0 names args) sto o loc' sto') : CallS D f args sto v sto' := by
 intro w hb ext fr ρ A envs B hfr hlink hh hroom hunits s vals R hargs R0 k
 obtain ⟨p, l, mg, mb, T⟩ := B.top
 have KI := B.K
 have ho : s.heap.get? f = some (ob (vT "function") (fB st q pm cd)) := R0.keep _ _ (KI _ _ (hf.at_ w.params))
 have hl : vals.length = names.length := by rw [← hargs.length, hlen]
 have hkeys := zip_keys (a := names) (b := vals) hl.symm
 refine codeAny_call_def (binds := names.zip vals) (body := defBody st) (Nat.lt_of_lt_of_le (by lia : A.depth < 900) (by decide)) ho rfl (T.nolimit.keeps R0.keep) (codeRec_of (KI.keeps R0.keep) (hf.code w.params)) rfl (BindsTo.of_eq (hf.bind vals hl)) hf.cells (fun x hx => hf.locals x.1 ?_) (fun h₀ n kp => ?_) hf.co hf.gen hf.kind
 ·rw [← hkeys]; exact List.mem_map.mpr ⟨x, hx, rfl⟩
 ·have R1 := R0.enter n kp
  let c : Cx := ⟨w, hb, ext, A, envs, fr, PySem.Str.ofString q, defScope st, s.heap.objs.size, f, cd⟩
  have ok : c.OK D := ⟨B, hfr, hlink, hh, hroom, hunits, hf.kind⟩
  have RLx : RL ρ (locs0 names args) (fun x => (names.zip vals).reverse.lookup x) := fun x v e => by
   obtain ⟨val, e1, e2⟩ := lookup_zip (names := names) hargs x v e
   exact ⟨val, lookup_rev (by rw [hkeys]; exact hf.nodup) e1, e2⟩
  obtain ⟨o, loc', hv, bd⟩ := body c ok rfl
  have step := bd ρ { s with heap := h₀, toks := s.toks + (names.zip vals).length } (fun f s' => R (.ok (.ret (match f with | .ret v => v | _ => .none))) s') (fun _ _ => False) ⟨_, RLx, R1⟩ PassesOwn.never ?_
  ·exact wpAny_mono step (fun _ _ x => x) fun _ _ x => x.elim
  ·cases o with
   | next => exact fun s' ρ' pf rel sm => k s' ρ' .none pf (Option.some.inj hv ▸ rfl) rel.choose_spec.2.drop ⟨sm.gens, sm.os⟩
   | ret u => exact fun s' ρ' val pf rv rel sm => k s' ρ' val pf (Option.some.inj hv ▸ rv) rel.choose_spec.2.drop ⟨sm.gens, sm.os⟩
   | brk => cases hv
   | cont => cases hv
   | exc _ => cases hv
section
noncomputable def After (o : Out) (again done : Prop) : Out → Prop
 | .next => again
 | .cont => again
 | .brk => o = .next ∧ done
 | .ret u => o = .ret u ∧ done
 | .exc C => o = .exc C ∧ done
noncomputable def Turns (c : Cx) (t : PySem.Expr) (b : List Stmt) : Nat → Ls → Sto → Out → Ls → Sto → Prop
 | 0, loc, sto, o, loc', sto' => (Tst c t loc sto false sto' ∧ o = .next ∧ loc = loc') ∨ ∃ sto₁ o', Tst c t loc sto true sto₁ ∧ Sx c (execs b c.env) loc sto₁ o' loc' sto' ∧ After o False True o'
 | n + 1, loc, sto, o, loc', sto' => ∃ sto₁ o' loc₂ sto₂, Tst c t loc sto true sto₁ ∧ Sx c (execs b c.env) loc sto₁ o' loc₂ sto₂ ∧ After o (Turns c t b n loc₂ sto₂ o loc' sto') False o'
section
variable {c : Cx} {t : PySem.Expr} {b : List Stmt} {n : Nat} {loc loc₂ loc₃ : Ls} {sto sto₁ sto₂ sto₃ : Sto} {o : Out} {v : V} {C : Addr}
theorem Turns.stop (h : Tst c t loc sto false sto₁) : Turns c t b 0 loc sto .next loc sto₁ := .inl ⟨h, rfl, rfl⟩
theorem Turns.brk (h : Tst c t loc sto true sto₁) (g : Sx c (execs b c.env) loc sto₁ .brk loc₂ sto₂) : Turns c t b 0 loc sto .next loc₂ sto₂ := .inr ⟨_, _, h, g, rfl, ⟨⟩⟩
theorem Turns.ret (h : Tst c t loc sto true sto₁) (g : Sx c (execs b c.env) loc sto₁ (.ret v) loc₂ sto₂) : Turns c t b 0 loc sto (.ret v) loc₂ sto₂ := .inr ⟨_, _, h, g, rfl, ⟨⟩⟩
theorem Turns.exc (h : Tst c t loc sto true sto₁) (g : Sx c (execs b c.env) loc sto₁ (.exc C) loc₂ sto₂) : Turns c t b 0 loc sto (.exc C) loc₂ sto₂ := .inr ⟨_, _, h, g, rfl, ⟨⟩⟩
theorem Turns.next (h : Tst c t loc sto true sto₁) (g : Sx c (execs b c.env) loc sto₁ .next loc₂ sto₂) (r : Turns c t b n loc₂ sto₂ o loc₃ sto₃) : Turns c t b (n + 1) loc sto o loc₃ sto₃ := ⟨_, _, _, _, h, g, r⟩
theorem Turns.cont (h : Tst c t loc sto true sto₁) (g : Sx c (execs b c.env) loc sto₁ .cont loc₂ sto₂) (r : Turns c t b n loc₂ sto₂ o loc₃ sto₃) : Turns c t b (n + 1) loc sto o loc₃ sto₃ := ⟨_, _, _, _, h, g, r⟩
end
section
variable {c : Cx} {D : Nat} {loc loc₁ loc₂ loc₃ : Ls} {sto sto₁ sto₂ sto₃ : Sto} {o : Out}

theorem Post.pre {ρ ρ₁ : List Addr} {s s₁ : Shared} {Q : Flow → Shared → Prop} {E : Value → Shared → Prop} (P : Post c o loc sto ρ s Q E) (p : Pfx ρ ρ₁) (m : Same s s₁) : Post c o loc sto ρ₁ s₁ Q E := by
 cases o with
 | next => exact fun s' ρ' a b d => P s' ρ' (p.trans a) b (m.trans d)
 | brk => exact fun s' ρ' a b d => P s' ρ' (p.trans a) b (m.trans d)
 | cont => exact fun s' ρ' a b d => P s' ρ' (p.trans a) b (m.trans d)
 | ret v => exact fun s' ρ' val a r b d => P s' ρ' val (p.trans a) r b (m.trans d)
 | exc C => exact fun s' ρ' h' e a b d x => P s' ρ' h' e (p.trans a) b (m.trans d) x

noncomputable abbrev NoComp (e : PySem.Expr) : Prop := swapsWith e = fun _ _ _ => pure false
theorem swaps_of {value : PySem.Expr} (h : NoComp value) (t : Option PySem.Expr) (n : Nat) (env : Env) : swapsWith value t n env = pure false := by rw [h]

theorem sx_nil : Sx c (execs [] c.env) loc sto .next loc sto := fun ρ s Q E R pe P => wpAny_execs_nil (P s ρ (Pfx.refl ρ) R (Same.refl s))
theorem sx_cons_next {st : Stmt} {rest : List Stmt} (h : Sx c (exec st c.env) loc sto .next loc₁ sto₁) (g : Sx c (execs rest c.env) loc₁ sto₁ o loc₂ sto₂) : Sx c (execs (st :: rest) c.env) loc sto o loc₂ sto₂ :=
 fun ρ s Q E R pe P => wpAny_execs_cons (h ρ s _ E R pe fun s' ρ' p r m => g ρ' s' Q E r pe (P.pre p m))
theorem sx_cons_stop {st : Stmt} {rest : List Stmt} (hn : o ≠ .next) (h : Sx c (exec st c.env) loc sto o loc₁ sto₁) : Sx c (execs (st :: rest) c.env) loc sto o loc₁ sto₁ :=
 fun ρ s Q E R pe P => wpAny_execs_cons (h ρ s _ E R pe (by
  cases o with
  | next => exact absurd rfl hn
  | brk => exact P
  | cont => exact P
  | ret v => exact P
  | exc C => exact P))

theorem sx_pass (pos : Pos) : Sx c (exec (.Pass pos) c.env) loc sto .next loc sto := fun ρ s Q E R pe P => wpAny_Pass (P s ρ (Pfx.refl ρ) R (Same.refl s))
theorem sx_break (pos : Pos) : Sx c (exec (.Break pos) c.env) loc sto .brk loc sto := fun ρ s Q E R pe P => fun _ _ _ => P s ρ (Pfx.refl ρ) R (Same.refl s)
theorem sx_continue (pos : Pos) : Sx c (exec (.Continue pos) c.env) loc sto .cont loc sto := fun ρ s Q E R pe P => fun _ _ _ => P s ρ (Pfx.refl ρ) R (Same.refl s)
theorem sx_return {e : PySem.Expr} {pos : Pos} {v : V} (h : Ev c e loc sto v sto₁) : Sx c (exec (.Return (some e) pos) c.env) loc sto (.ret v) loc sto₁ := fun ρ s Q E R pe P =>
 wpAny_Return_some (h ρ s E _ R fun s' ρ' x p rv r m => P s' ρ' x p rv r m)
theorem sx_expr (hc : c.OK D) {e : PySem.Expr} {pos : Pos} {v : V} (hcomp : NoComp e) (h : Ev c e loc sto v sto₁) : Sx c (exec (.Expr e pos) c.env) loc sto .next loc sto₁ := fun ρ s Q E R pe P =>
 wpAny_Expr_any (h ρ s E _ R fun s' ρ' x p rv r m => P s' ρ' p r m) (by
  show (c.scope.kind == .module && _) = false
  rw [hc.kind]; rfl) (swaps_of hcomp _ _ _)
theorem sx_assign (hc : c.OK D) {x : PySem.Str} {e : PySem.Expr} {p0 pos : Pos} {v : V} (hcomp : NoComp e) (h : Ev c e loc sto v sto₁) (hk : c.scope.names.lookup x = some .local) :
  Sx c (exec (.Assign [.Name x p0] e pos) c.env) loc sto .next (put x.cps.toList v loc) sto₁ := fun ρ s Q E R pe P =>
 wpAny_Assign_Name (h ρ s E _ R fun s' ρ' val p rv r m => do_store hc rv hk s' E _ r fun s'' ρ'' _ p' _ r' m' => P s'' ρ'' (p.trans p') r' (m.trans m')) (swaps_of hcomp _ _ _)
theorem sx_assign_attr (hc : c.OK D) {o : PySem.Expr} {name : PySem.Str} {e : PySem.Expr} {p0 pos : Pos} {v : V} {k : Nat} {C : Addr} {fs : Ls} (hcomp : NoComp e) (h : Ev c e loc sto v sto₁) (ho : Ev c o loc sto₁ (.d k) sto₂)
  (ek : sto₂[k]? = some (.inst C fs)) (ok : SetOK c.w.params C name) (hz : (lk name.cps.toList fs).isSome = true ∨ fs.length ≤ 900) :
  Sx c (exec (.Assign [.Attribute o name p0] e pos) c.env) loc sto .next loc (sto₂.set k (.inst C (put name.cps.toList v fs))) := fun ρ s Q E R pe P =>
 plainObj_wpAny_Assign_Attribute (h ρ s E _ R fun s₁ ρ₁ val p₁ rv R₁ m₁ => ho ρ₁ s₁ E _ R₁ fun s₂ ρ₂ ov p₂ ro R₂ m₂ =>
  set_dyn hc ek ok ro (rv.mono p₂) hz s₂ E _ R₂ fun s₃ ρ₃ _ p₃ _ R₃ m₃ => P s₃ ρ₃ (p₁.trans (p₂.trans p₃)) R₃ (m₁.trans (m₂.trans m₃))) (swaps_of hcomp _ _ _)
theorem sx_aug (hc : c.OK D) {x : PySem.Str} {op : Operator} {e : PySem.Expr} {p0 pos : Pos} {u v r : V} (hv : lk x.cps.toList loc = some u) (hk : c.scope.names.lookup x = some .local) (h : Ev c e loc sto v sto₁)
  (hop : ∀ ρ a b, RV ρ u a → RV ρ v b → DoAt c ρ (inplaceOp op a b) loc sto₁ (fun ρ x => RV ρ r x) loc sto₂) :
  Sx c (exec (.AugAssign (.Name x p0) op e pos) c.env) loc sto .next (put x.cps.toList r loc) sto₂ := fun ρ s Q E R pe P => by
 refine wpAny_AugAssign_Name ?_
 obtain ⟨m, RL, R0⟩ := id R
 obtain ⟨val, hm, rv⟩ := RL x u hv
 obtain ⟨ps, frs, X⟩ := R0.open
 refine ldn X.F hm ?_ hc.kind hk
 exact h ρ s E _ R fun s₁ ρ₁ b p₁ rb R₁ m₁ => hop ρ₁ val b (rv.mono p₁) rb s₁ E _ R₁ fun s₂ ρ₂ y p₂ ry R₂ m₂ =>
  do_store hc ry hk s₂ E _ R₂ fun s₃ ρ₃ _ p₃ _ R₃ m₃ => P s₃ ρ₃ (p₁.trans (p₂.trans p₃)) R₃ (m₁.trans (m₂.trans m₃))
theorem sx_aug_attr (hc : c.OK D) {o : PySem.Expr} {name : PySem.Str} {op : Operator} {e : PySem.Expr} {p0 pos : Pos} {u v r : V} {k : Nat} {C : Addr} {fs fs₂ : Ls} (ho : Ev c o loc sto (.d k) sto₁) (ek : sto₁[k]? = some (.inst C fs)) (ev : lk name.cps.toList fs = some u) (okg : InstOK c.w.params C name)
  (h : Ev c e loc sto₁ v sto₂) (hop : ∀ ρ a b, RV ρ u a → RV ρ v b → DoAt c ρ (inplaceOp op a b) loc sto₂ (fun ρ x => RV ρ r x) loc sto₃) (ek₂ : sto₃[k]? = some (.inst C fs₂)) (ok : SetOK c.w.params C name) (hz : (lk name.cps.toList fs₂).isSome = true ∨ fs₂.length ≤ 900) :
  Sx c (exec (.AugAssign (.Attribute o name p0) op e pos) c.env) loc sto .next loc (sto₃.set k (.inst C (put name.cps.toList r fs₂))) := fun ρ s Q E R pe P =>
 wpAny_AugAssign_AttributeAny (ho ρ s E _ R fun s₁ ρ₁ ov p₁ ro R₁ m₁ => get_dyn hc ek ev okg ro s₁ E _ R₁ fun s₂ ρ₂ a p₂ ra R₂ m₂ => h ρ₂ s₂ E _ R₂ fun s₃ ρ₃ b p₃ rb R₃ m₃ =>
  hop ρ₃ a b (ra.mono p₃) rb s₃ E _ R₃ fun s₄ ρ₄ y p₄ ry R₄ m₄ => set_dyn hc ek₂ ok (ro.mono (p₂.trans (p₃.trans p₄))) ry hz s₄ E _ R₄ fun s₅ ρ₅ _ p₅ _ R₅ m₅ =>
   P s₅ ρ₅ (p₁.trans (p₂.trans (p₃.trans (p₄.trans p₅)))) R₅ (m₁.trans (m₂.trans (m₃.trans (m₄.trans m₅)))))
theorem sx_if {t : PySem.Expr} {a b : List Stmt} {pos : Pos} {x : Bool} (h : Tst c t loc sto x sto₁) (g : Sx c (execs (if x then a else b) c.env) loc sto₁ o loc₂ sto₂) : Sx c (exec (.If t a b pos) c.env) loc sto o loc₂ sto₂ := fun ρ s Q E R pe P =>
 wpAny_If (h ρ s E _ R fun s₁ ρ₁ y p₁ e R₁ m₁ => by
  subst e
  have := g ρ₁ s₁ Q E R₁ pe (P.pre p₁ m₁)
  cases y with
  | true => exact this
  | false => exact this)
theorem sx_assert (hc : c.OK D) {t : PySem.Expr} {pos : Pos} (h : Tst c t loc sto true sto₁) : Sx c (exec (.Assert t none pos) c.env) loc sto .next loc sto₁ := fun ρ s Q E R pe P =>
 wpAny_Assert_new hc.handled (h ρ s E _ R fun s₁ ρ₁ y p₁ e R₁ m₁ => by
  subst e
  exact P s₁ ρ₁ p₁ R₁ m₁)

theorem of_imp {P : Prop} (h : ∀ G : Prop, (P → G) → G) : P := h P id
theorem Post.at {ρ : List Addr} {s : Shared} {Q : Flow → Shared → Prop} {E : Value → Shared → Prop} (P : Post c o loc sto ρ s Q E) (h : loc₁ = loc ∧ sto₁ = sto) : Post c o loc₁ sto₁ ρ s Q E := h.1 ▸ h.2 ▸ P
theorem Post.done {ρ : List Addr} {s : Shared} {Q : Flow → Shared → Prop} {E : Value → Shared → Prop} (P : Post c o loc sto ρ s Q E) (h : o = .next ∧ loc₁ = loc ∧ sto₁ = sto) : Post c .next loc₁ sto₁ ρ s Q E := h.1 ▸ P.at h.2
theorem Post.turn {o' : Out} {again done : Prop} {ρ : List Addr} {s : Shared} {Q : Flow → Shared → Prop} {E : Value → Shared → Prop} {J : Shared → Prop} (h : After o again done o')
  (k : again → ∀ s' ρ', Pfx ρ ρ' → Rel c ρ' loc sto s'.heap → Same s s' → J s') (d : done → Post c o loc sto ρ s Q E) :
  Post c o' loc sto ρ s (fun f s' => match f with | .next | .cont => J s' | .brk => Q .next s' | .ret v => Q (.ret v) s') E := by
 cases o' with
 | next => exact k h
 | cont => exact k h
 | brk =>
  obtain ⟨rfl, h⟩ := h
  exact d h
 | ret u =>
  obtain ⟨rfl, h⟩ := h
  exact d h
 | exc C =>
  obtain ⟨rfl, h⟩ := h
  exact d h
theorem Turns.view {t : PySem.Expr} {b : List Stmt} {n : Nat} (T : Turns c t b n loc sto o loc₂ sto₂) : (Tst c t loc sto false sto₂ ∧ o = .next ∧ loc = loc₂) ∨ ∃ sto₁ o' loc₁ sto₃, Tst c t loc sto true sto₁ ∧ Sx c (execs b c.env) loc sto₁ o' loc₁ sto₃ ∧ After o (∃ m, m < n ∧ Turns c t b m loc₁ sto₃ o loc₂ sto₂) (loc₁ = loc₂ ∧ sto₃ = sto₂) o' := by
 cases n with
 | zero =>
  rcases T with T | ⟨a, o', h, g, k⟩
  ·exact .inl T
  ·refine .inr ⟨a, o', _, _, h, g, ?_⟩
   cases o' <;> first | exact k.elim | exact ⟨k.1, rfl, rfl⟩
 | succ n =>
  obtain ⟨a, o', l, q, h, g, k⟩ := T
  refine .inr ⟨a, o', l, q, h, g, ?_⟩
  cases o' <;> first | exact k.2.elim | exact ⟨n, Nat.lt_succ_self n, k⟩
theorem sx_while {t : PySem.Expr} {b : List Stmt} {pos : Pos} {n : Nat} (T : Turns c t b n loc sto o loc₂ sto₂) : Sx c (exec (.While t b [] pos) c.env) loc sto o loc₂ sto₂ := fun ρ s Q E R pe P => by
 refine wpAny_While (codeAny_whileLoop (I := fun n s₁ => ∃ loc₁ sto₁ ρ₁, Turns c t b n loc₁ sto₁ o loc₂ sto₂ ∧ Rel c ρ₁ loc₁ sto₁ s₁.heap ∧ Pfx ρ ρ₁ ∧ Same s s₁) ?_ n ⟨loc, sto, ρ, T, R, Pfx.refl ρ, Same.refl s⟩)
 intro n s₁ hI
 refine of_imp fun G hG => ?_
 obtain ⟨loc₁, sto₁, ρ₁, T, R₁, p₁, m₁⟩ := hI
 rcases T.view with ⟨h, hd⟩ | ⟨sto₃, o', l₃, sto₄, h, g, k⟩
 ·refine hG (h ρ₁ s₁ _ _ R₁ fun s₂ ρ₂ y p₂ e R₂ m₂ => ?_)
  subst e
  exact wpAny_execs_nil ((P.pre p₁ m₁).done ⟨hd.1, hd.2, rfl⟩ s₂ ρ₂ p₂ R₂ m₂)
 ·refine hG (h ρ₁ s₁ _ _ R₁ fun s₂ ρ₂ y p₂ e R₂ m₂ => ?_)
  subst e
  have p := p₁.trans p₂
  have m := m₁.trans m₂
  exact wpAny_passesOwn pe (g ρ₂ s₂ _ E R₂ pe (Post.turn k (fun ⟨n', hn, T'⟩ s₃ ρ₃ p₃ R₃ m₃ => ⟨n', hn, _, _, ρ₃, T', R₃, p.trans p₃, m.trans m₃⟩) fun h => (P.pre p m).at h))
end
end
section
open PyProof.Rows.TI (gone gone_get gone_none gone_some)

noncomputable def addrs (fr : Frames) : List Addr := fr.map (·.1)
theorem FO.slots {hb h h' : Heap} (u : h.UpToSlots h') : ∀ {fr : Frames} {frs : List (Addr × Obj)}, FO fr frs → (∀ p ∈ frs, h.get? p.1 = some p.2) → ∃ frs', FO fr frs' ∧ (∀ p ∈ frs', h'.get? p.1 = some p.2) ∧ frs'.map (·.1) = frs.map (·.1) := by
 intro fr
 induction fr with
 | nil =>
  intro frs O _
  cases frs with
  | nil => exact ⟨[], trivial, (fun p hp => nomatch hp), rfl⟩
  | cons _ _ => exact O.elim
 | cons p fr ih =>
  intro frs O a
  cases frs with
  | nil => exact O.elim
  | cons q frs =>
   obtain ⟨e, ⟨es, ep, d, k, n⟩, O⟩ := O
   obtain ⟨frs', O', a', m'⟩ := ih O fun x hx => a x (List.mem_cons_of_mem _ hx)
   obtain ⟨sl, hs⟩ := u q.1 q.2 (a q List.mem_cons_self) fun vs z => by rw [d] at z; cases z
   refine ⟨(q.1, { q.2 with slots := sl }) :: frs', ⟨e, ⟨es, ep, d, k, n⟩, O'⟩, fun x hx => ?_, by rw [List.map_cons, List.map_cons, m']⟩
   rcases List.mem_cons.mp hx with rfl | hx
   ·exact hs
   ·exact a' x hx
theorem FO.addrs : ∀ {fr : Frames} {frs : List (Addr × Obj)}, FO fr frs → frs.map (·.1) = Mine.addrs fr := by
 intro fr
 induction fr with
 | nil => intro frs O; cases frs with
  | nil => rfl
  | cons _ _ => exact O.elim
 | cons p fr ih => intro frs O; cases frs with
  | nil => exact O.elim
  | cons q frs =>
   show q.1 :: _ = p.1 :: _
   rw [O.1, ih O.2.2]; rfl
theorem Rel0.slots {hb h h' : Heap} {ext : List (Addr × Obj)} {fr : Frames} {ρ : List Addr} {sto : Sto} (R : Rel0 hb ext fr ρ sto h) (hz : hb.objs.size ≤ h'.objs.size) (k : (gone h (addrs fr)).StaysIn h') (u : h.UpToSlots h') : Rel0 hb ext fr ρ sto h' := by
 obtain ⟨ps, frs, S, O, T⟩ := R.has
 have hfr := O.addrs
 obtain ⟨frs', O', a', m'⟩ := O.slots (hb := hb) u fun p hp => T.at_ p (List.mem_append_left _ hp)
 have out : ∀ b, b ∉ addrs fr → ∀ o, h.get? b = some o → h'.get? b = some o := fun b hn o e => k b o ((gone_get hn).trans e)
 have one := T.one
 rw [List.map_append] at one
 obtain ⟨n1, n2, n3⟩ := List.nodup_append.mp one
 refine ⟨fun b o e => out b (fun hm => ?_) o (R.keep b o e), hz, R.above, ps, frs', S, O', fun p hp => ?_, fun p hp => ?_, ?_⟩
 ·obtain ⟨q, hq, rfl⟩ := List.mem_map.mp hm
  exact absurd (Heap.lt_size e) (Nat.not_lt.mpr (R.above q hq))
 ·rcases List.mem_append.mp hp with hp | hp
  ·exact a' p hp
  ·refine out p.1 (fun hm => ?_) p.2 (T.at_ p (List.mem_append_right _ hp))
   rw [← hfr] at hm
   exact n3 p.1 hm p.1 (List.mem_map.mpr ⟨p, hp, rfl⟩) rfl
 ·rcases List.mem_append.mp hp with hp | hp
  ·have : p.1 ∈ frs.map (·.1) := by rw [← m']; exact List.mem_map.mpr ⟨p, hp, rfl⟩
   obtain ⟨q, hq, e⟩ := List.mem_map.mp this
   rw [← e]
   exact T.new q (List.mem_append_left _ hq)
  ·exact T.new p (List.mem_append_right _ hp)
 ·rw [List.map_append, m', ← List.map_append]
  exact T.one
theorem funFrames {h h' : Heap} (u : h.UpToSlots h') : ∀ {envs : List Env} {fr : Frames} {frs : List (Addr × Obj)} {base : Heap}, Link envs fr → FO fr frs → (∀ p ∈ frs, h.get? p.1 = some p.2) → (∀ a ∈ addrs fr, base.get? a = none) → h'.FunFrames base envs := by
 intro envs
 induction envs with
 | nil => intro _ _ _ _ _ _ _; trivial
 | cons env envs ih =>
  intro fr frs base Lk O a b
  cases fr with
  | nil => exact Lk.elim
  | cons p fr =>
   cases frs with
   | nil => exact O.elim
   | cons q frs =>
    obtain ⟨l1, l2, l3⟩ := Lk
    obtain ⟨e, ⟨es, ep, d, _⟩, O⟩ := O
    obtain ⟨sl, hs⟩ := u q.1 q.2 (a q List.mem_cons_self) fun vs z => by rw [d] at z; cases z
    refine ⟨l1, ⟨p.1, _, l2, b p.1 List.mem_cons_self, (by rw [← e]; exact hs), fun vs z => by
     have z' : q.2.data = .fields vs := z
     rw [d] at z'; cases z'⟩, ih l3 O (fun x hx => a x (List.mem_cons_of_mem _ hx)) fun x hx => b x (List.mem_cons_of_mem _ hx)⟩

noncomputable def bmB : List Value := [.type "Exception", .type "BaseException", .type "object"]
noncomputable def newId : String := "Exception.__new__"
structure LabOK (P : Params) (x : PySem.Str) (C : Addr) : Prop where
 ns : nsIn (KP P) mainGlobals x = some (some (.ref C))
 exc : excIn (KP P) C bmB newId = true

section
variable {c : Cx} {D : Nat} {loc loc₁ loc₂ : Ls} {sto sto₁ sto₂ : Sto} {o : Out}
theorem sx_raise (hc : c.OK D) {x : PySem.Str} {C : Addr} {np cp pos : Pos} (ok : LabOK c.w.params x C) (hk : c.scope.names.lookup x = some .globalImplicit) (hd : (x == ("__debug__" : PySem.Str)) = false) :
  Sx c (exec (.Raise (some (.Call (.Name x np) [] [] cp)) none pos) c.env) loc sto (.exc C) loc sto := fun ρ s Q E R pe P => by
 obtain ⟨m, RL, R0⟩ := id R
 obtain ⟨ps, frs, X⟩ := R0.open
 obtain ⟨_, _, mg, mb, T⟩ := hc.base.top
 exact Raise_own0 X.F T.g (own_of_in hc.base.K T ok.ns ok.exc) PySem.F.excBase_Exception hc.handled (fun h' e hx => P s ρ h' e (Pfx.refl ρ) R (Same.refl s) hx) hc.kind hk hd

theorem Rel.big {ρ : List Addr} {h : Heap} (R : Rel c ρ loc sto h) : c.hb.objs.size ≤ h.objs.size := by
 obtain ⟨m, _, R0⟩ := R
 exact R0.big

theorem catch_pass (hc : c.OK D) {x : PySem.Str} {C e : Addr} {np hpos pp : Pos} {rest : List ExceptHandler} {ρ : List Addr} {h : Heap} {s' : Shared} {Q : Flow → Shared → Prop} {E : Value → Shared → Prop} (R : Rel c ρ loc sto h) (hx : Heap.MadeExcOf h s'.heap e (.ref C) [])
  (ok : LabOK c.w.params x C) (hk : c.scope.names.lookup x = some .globalImplicit) (hd : (x == ("__debug__" : PySem.Str)) = false) (k : ∀ h', Rel c ρ loc sto h' → Q .next { s' with heap := h' }) :
  wpAny c.M c.A (noteFrame (.ref e) c.env) (fun _ s₂ => wpAny c.M c.A (setFlight (.ref e) none) (fun _ s₃ => wpAny c.M c.A (handleBy (.ref e) c.env (.ExceptHandler (some (.Name x np)) none [.Pass pp] hpos :: rest)) Q E s₃) E s₂) E s' := by
 refine of_imp fun G hG => ?_
 obtain ⟨m, RLx, R0⟩ := R
 obtain ⟨_, _, mg, mb, T⟩ := hc.base.top
 obtain ⟨ps, frs, S, O, St⟩ := id R0.has
 have hfa : (c.A).frames = some (c.env :: c.outer) := Around.frames_deeper hc.frames
 have hlink : Link (c.env :: c.outer) ((c.L, m) :: c.ofr) := ⟨by show c.scope.kind ≠ .module; rw [hc.kind]; decide, rfl, hc.link⟩
 let base := gone h (addrs ((c.L, m) :: c.ofr))
 have hsub : base.StaysIn h := fun b o e => (gone_some e).2
 have hu : h.UpToSlots s'.heap := .of_keeps hx.keeps
 have ff : s'.heap.FunFrames base (c.env :: c.outer) := funFrames hu hlink O (fun p hp => St.at_ p (List.mem_append_left _ hp)) fun a ha => gone_none ha
 have hen : base.get? e = none := by
  cases q : base.get? e with
  | none => rfl
  | some o => have := hsub e o q; rw [hx.new] at this; cases this
 have hsz : ∀ h' : Heap, h'.FunFrames base (c.env :: c.outer) → c.hb.objs.size ≤ h'.objs.size := fun h' f => by
  obtain ⟨_, ⟨L, o, e1, _, e2, _⟩, _⟩ := f
  have e3 : c.L = L := Option.some.inj e1
  subst e3
  exact Nat.le_trans (R0.above _ List.mem_cons_self) (Nat.le_of_lt (Heap.lt_size e2))
 obtain ⟨t, he, _, _⟩ := hx.there
 refine hG ?_
 unfold noteFrame
 simp only [show c.env.frame = some c.L from rfl]
 refine wpAny_bind (wpAny_field he rfl (x := .none) rfl ?_)
 rw [if_neg (by decide)]
 refine wpAny_entryW (base := base) (a0 := .ref t) hfa ff rfl he (fun b o eb => hx.keeps b o (hsub b o eb)) hen rfl (by show 1 < 6; decide) rfl fun h₂ hN => ?_
 refine wpAny_setFlight_noneW hN.1 hN.2.1 hN.2.2.1 fun h₃ f1 f2 f3 f4 => ?_
 have u₃ : h.UpToSlots h₃ := (hu.trans hN.2.2.2).trans fun b o hb hn => ⟨o.slots, f4 b o hb hn⟩
 have R₃ := R0.slots (hsz h₃ f2) f1 u₃
 refine of_imp fun G hG => ?_
 obtain ⟨ps₃, frs₃, X₃⟩ := R₃.open
 refine hG ?_
 refine wpAny_handleBy_cons (codeAny_handlers_test (name_K X₃.F hc.base.K T ok.ns ?_ hc.kind hk hd)) (by intro q; cases q)
 refine of_imp fun G hG => ?_
 obtain ⟨bm, N, nm, qn, bs, hdct, sn, sub, ab, col, dd, k0, k1, k2, k3, k5, mN, hC, hN, hni, TL⟩ := ((own_of_in hc.base.K T ok.ns ok.exc).keeps X₃.F.keep).obj
 obtain ⟨ob, hob, hobc⟩ := f3.at.there
 refine hG ?_
 refine wpAny_excMatches_sub_self hC hob hobc (TL.hasType (by decide)) (codeAny_handlers_suite ?_)
 refine lands_againW ⟨f1, hen, f2, f3⟩ fun h₄ hfl u₄ => ?_
 refine wpAny_execs_cons (wpAny_Pass (wpAny_execs_nil ?_))
 exact k h₄ ⟨m, RLx, R0.slots (hsz h₄ hfl.2.2.1) hfl.1 (u₃.trans u₄)⟩

theorem sx_try_no {body : List Stmt} {x : PySem.Str} {np hpos pos : Pos} {suite : List Stmt} (ho : ∀ C, o ≠ .exc C) (h : Sx c (execs body c.env) loc sto o loc₁ sto₁) :
  Sx c (exec (.Try body [.ExceptHandler (some (.Name x np)) none suite hpos] [] [] pos) c.env) loc sto o loc₁ sto₁ := fun ρ s Q E R pe P => by
 refine wpAny_Try_except (h ρ s _ _ R PassesOwn.looking ?_)
 cases o with
 | next => exact fun s' ρ' p r m => wpAny_execs_nil (P s' ρ' p r m)
 | brk => exact P
 | cont => exact P
 | ret v => exact P
 | exc C => exact absurd rfl (ho C)
theorem sx_try_got (hc : c.OK D) {body : List Stmt} {x : PySem.Str} {C : Addr} {np hpos pos pp : Pos} (h : Sx c (execs body c.env) loc sto (.exc C) loc₁ sto₁)
  (ok : LabOK c.w.params x C) (hk : c.scope.names.lookup x = some .globalImplicit) (hd : (x == ("__debug__" : PySem.Str)) = false) :
  Sx c (exec (.Try body [.ExceptHandler (some (.Name x np)) none [.Pass pp] hpos] [] [] pos) c.env) loc sto .next loc₁ sto₁ := fun ρ s Q E R pe P => by
 refine wpAny_Try_except (h ρ s _ _ R PassesOwn.looking fun s' ρ' h' e p r m hx => ?_)
 exact catch_pass hc r (s' := { s' with heap := h' }) hx ok hk hd fun h'' r' => P _ ρ' p r' ⟨m.gens, m.os⟩
end
end
section
noncomputable def StL (P : Params) (x : Addr) (vs : List V) : Prop := ∃ items n d sl, (KP P).lookup x = some ⟨.type "list", d, .seq items n, sl⟩ ∧ RVs [] vs items.toList
noncomputable def StT (P : Params) (x : Addr) (vs : List V) : Prop := ∃ items n d sl, (KP P).lookup x = some ⟨.type "tuple", d, .seq items n, sl⟩ ∧ RVs [] vs items.toList
noncomputable def StI (P : Params) (x : Addr) (C : Addr) (fs : Ls) : Prop := ∃ dx es n sl, (KP P).lookup x = some ⟨.ref C, some dx, .plain, sl⟩ ∧ (KP P).lookup dx = some (dictOf es n) ∧ RF [] fs es
noncomputable def IsL (c : Cx) (sto : Sto) (v : V) (vs : List V) : Prop := (∃ k, v = .d k ∧ sto[k]? = some (.list vs)) ∨ ∃ x, v = .a x ∧ StL c.w.params x vs
theorem isL_d {c : Cx} {sto : Sto} {k : Nat} {vs : List V} (h : sto[k]? = some (.list vs)) : IsL c sto (.d k) vs := .inl ⟨k, rfl, h⟩
theorem isL_a {c : Cx} {sto : Sto} {x : Addr} {vs : List V} (h : StL c.w.params x vs) : IsL c sto (.a x) vs := .inr ⟨x, rfl, h⟩
noncomputable def IsT (c : Cx) (sto : Sto) (v : V) (vs : List V) : Prop := (∃ k, v = .d k ∧ sto[k]? = some (.tup vs)) ∨ ∃ x, v = .a x ∧ StT c.w.params x vs
theorem isT_d {c : Cx} {sto : Sto} {k : Nat} {vs : List V} (h : sto[k]? = some (.tup vs)) : IsT c sto (.d k) vs := .inl ⟨k, rfl, h⟩
theorem isT_a {c : Cx} {sto : Sto} {x : Addr} {vs : List V} (h : StT c.w.params x vs) : IsT c sto (.a x) vs := .inr ⟨x, rfl, h⟩
theorem nil_pfx (ρ : List Addr) : Pfx [] ρ := fun k x e => by simp at e

section
variable {c : Cx} {D : Nat} {loc loc₁ loc₂ : Ls} {sto sto₁ sto₂ : Sto}
theorem Rel.keep {ρ : List Addr} {h : Heap} (R : Rel c ρ loc sto h) : ∀ b o, c.hb.get? b = some o → h.get? b = some o := by
 obtain ⟨m, _, R0⟩ := R
 exact R0.keep
theorem IsL.at (hc : c.OK D) {ρ : List Addr} {h : Heap} {v : V} {vs : List V} {val : Value} (R : Rel c ρ loc sto h) (q : IsL c sto v vs) (rv : RV ρ v val) : ∃ a items, val = .ref a ∧ h.IsList a (List.toArray items) ∧ RVs ρ vs items := by
 rcases q with ⟨k, rfl, ek⟩ | ⟨x, rfl, items, n, d, sl, e, r⟩
 ·obtain ⟨x, ex, rfl⟩ := rv
  obtain ⟨m, _, R0⟩ := R
  obtain ⟨ps, frs, X⟩ := R0.open
  obtain ⟨x', l, p, r, h1, rfl, ⟨ws, n, rs, rfl⟩, _⟩ := X.S.at ek
  rw [ex] at h1
  obtain rfl := Option.some.inj h1
  exact ⟨x, ws, rfl, ⟨_, X.mem (p := (x, { cls := .type "list", data := .seq ws.toArray n })) (by simp), rfl, n, rfl⟩, rs⟩
 ·exact ⟨x, items.toList, rv, ⟨_, R.keep _ _ (hc.base.K _ _ e), rfl, n, by simp⟩, r.mono (nil_pfx ρ)⟩
theorem IsT.at (hc : c.OK D) {ρ : List Addr} {h : Heap} {v : V} {vs : List V} {val : Value} (R : Rel c ρ loc sto h) (q : IsT c sto v vs) (rv : RV ρ v val) : ∃ a items, val = .ref a ∧ IsTup h a (List.toArray items) ∧ RVs ρ vs items := by
 rcases q with ⟨k, rfl, ek⟩ | ⟨x, rfl, items, n, d, sl, e, r⟩
 ·obtain ⟨x, ex, rfl⟩ := rv
  obtain ⟨m, _, R0⟩ := R
  obtain ⟨ps, frs, X⟩ := R0.open
  obtain ⟨x', l, p, r, h1, rfl, ⟨ws, n, rs, rfl⟩, _⟩ := X.S.at ek
  rw [ex] at h1
  obtain rfl := Option.some.inj h1
  exact ⟨x, ws, rfl, ⟨_, X.mem (p := (x, { cls := .type "tuple", data := .seq ws.toArray n })) (by simp), rfl, n, rfl⟩, rs⟩
 ·exact ⟨x, items.toList, rv, ⟨_, R.keep _ _ (hc.base.K _ _ e), rfl, n, by simp⟩, r.mono (nil_pfx ρ)⟩

/-! ### tests -/
theorem ev_true {k : Nat} {pos : Pos} : Tst c (.Constant (.bool true) k pos) loc sto true sto := fun ρ s E Q R f => fun _ _ _ => f s ρ true (Pfx.refl ρ) rfl R (Same.refl s)
noncomputable def plainTest : PySem.Expr → Bool
 | .UnaryOp .Not _ _ => false
 | .BoolOp .. => false
 | .IfExp .. => false
 | .Compare .. => false
 | _ => true
theorem isTrue_plain {e : PySem.Expr} {env : Env} {t : Sem Value} (h : plainTest e = true) : isTrue e env t = (do let v ← t; standAt e.pos; holding [v] (truthy v)) := by
 cases e <;> first | rfl | cases h | skip
 rename_i op x pos
 cases op <;> first | rfl | cases h
theorem tst_ev {e : PySem.Expr} {b : Bool} (hp : plainTest e = true) (h : Ev c e loc sto (.b b) sto₁) : Tst c e loc sto b sto₁ := fun ρ s E Q R f => by
 rw [isTrue_plain hp]
 exact wpAny_bind (h ρ s E _ R fun s₁ ρ₁ x p₁ e₁ R₁ m₁ => by
  have e₁' : x = .bool b := e₁
  subst e₁'
  exact wpAny_bind (wpAny_standAt (wpAny_holding (wpAny_truthy_bool (f s₁ ρ₁ b p₁ rfl R₁ m₁)))))
theorem tst_not {e : PySem.Expr} {pos : Pos} {b : Bool} (h : Tst c e loc sto b sto₁) : Tst c (.UnaryOp .Not e pos) loc sto (!b) sto₁ := fun ρ s E Q R f => by
 rw [arm_isTrue_UnaryOp]
 exact wpAny_bind (h ρ s E _ R fun s₁ ρ₁ x p₁ e₁ R₁ m₁ => by
  subst e₁
  exact wpAny_pure (f s₁ ρ₁ _ p₁ rfl R₁ m₁))
theorem tst_and_stop {a : PySem.Expr} {l : List PySem.Expr} {pos : Pos} (h : Tst c a loc sto false sto₁) : Tst c (.BoolOp .And (a :: l) pos) loc sto false sto₁ := fun ρ s E Q R f => by
 rw [arm_isTrue_BoolOp, arm_allTrue_cons]
 exact wpAny_bind (h ρ s E _ R fun s₁ ρ₁ x p₁ e₁ R₁ m₁ => by
  subst e₁
  exact wpAny_pure (f s₁ ρ₁ _ p₁ rfl R₁ m₁))
theorem tst_and_on {a : PySem.Expr} {l : List PySem.Expr} {pos : Pos} {b : Bool} (h : Tst c a loc sto true sto₁) (g : Tst c (.BoolOp .And l pos) loc sto₁ b sto₂) : Tst c (.BoolOp .And (a :: l) pos) loc sto b sto₂ := fun ρ s E Q R f => by
 rw [arm_isTrue_BoolOp, arm_allTrue_cons]
 exact wpAny_bind (h ρ s E _ R fun s₁ ρ₁ x p₁ e₁ R₁ m₁ => by
  subst e₁
  exact g ρ₁ s₁ E Q R₁ fun s₂ ρ₂ y p₂ e₂ R₂ m₂ => f s₂ ρ₂ y (p₁.trans p₂) e₂ R₂ (m₁.trans m₂))
theorem tst_and_nil {pos : Pos} : Tst c (.BoolOp .And [] pos) loc sto true sto := fun ρ s E Q R f => by
 rw [arm_isTrue_BoolOp, arm_allTrue_nil]
 exact wpAny_pure (f s ρ true (Pfx.refl ρ) rfl R (Same.refl s))
theorem tst_or_stop {a : PySem.Expr} {l : List PySem.Expr} {pos : Pos} (h : Tst c a loc sto true sto₁) : Tst c (.BoolOp .Or (a :: l) pos) loc sto true sto₁ := fun ρ s E Q R f => by
 rw [arm_isTrue_BoolOp, arm_allTrue_cons]
 exact wpAny_bind (h ρ s E _ R fun s₁ ρ₁ x p₁ e₁ R₁ m₁ => by
  subst e₁
  exact wpAny_pure (f s₁ ρ₁ _ p₁ rfl R₁ m₁))
theorem tst_or_on {a : PySem.Expr} {l : List PySem.Expr} {pos : Pos} {b : Bool} (h : Tst c a loc sto false sto₁) (g : Tst c (.BoolOp .Or l pos) loc sto₁ b sto₂) : Tst c (.BoolOp .Or (a :: l) pos) loc sto b sto₂ := fun ρ s E Q R f => by
 rw [arm_isTrue_BoolOp, arm_allTrue_cons]
 exact wpAny_bind (h ρ s E _ R fun s₁ ρ₁ x p₁ e₁ R₁ m₁ => by
  subst e₁
  exact g ρ₁ s₁ E Q R₁ fun s₂ ρ₂ y p₂ e₂ R₂ m₂ => f s₂ ρ₂ y (p₁.trans p₂) e₂ R₂ (m₁.trans m₂))
theorem tst_or_nil {pos : Pos} : Tst c (.BoolOp .Or [] pos) loc sto false sto := fun ρ s E Q R f => by
 rw [arm_isTrue_BoolOp, arm_allTrue_nil]
 exact wpAny_pure (f s ρ false (Pfx.refl ρ) rfl R (Same.refl s))
noncomputable abbrev Op2 (c : Cx) (t : Value → Value → Sem Value) (u v r : V) (loc : Ls) (sto sto' : Sto) : Prop := ∀ ρ a b, RV ρ u a → RV ρ v b → DoAt c ρ (t a b) loc sto (fun ρ x => RV ρ r x) loc sto'
theorem ev_cmp {l r : PySem.Expr} {op : CmpOp} {pos : Pos} {u v x : V} (hm : behindInMarks op r = false) (h : Ev c l loc sto u sto₁) (g : Ev c r loc sto₁ v sto₂) {sto₃ : Sto} (ho : Op2 c (compareOp op) u v x loc sto₂ sto₃) : Ev c (.Compare l [op] [r] pos) loc sto x sto₃ := fun ρ s E Q R f =>
 wpAny_Compare1 (h ρ s E _ R fun s₁ ρ₁ a p₁ ra R₁ m₁ => g ρ₁ s₁ E _ R₁ fun s₂ ρ₂ b p₂ rb R₂ m₂ => ho ρ₂ a b (ra.mono p₂) rb s₂ E Q R₂ fun s₃ ρ₃ y p₃ ry R₃ m₃ => f s₃ ρ₃ y (p₁.trans (p₂.trans p₃)) ry R₃ (m₁.trans (m₂.trans m₃))) hm
theorem tst_cmp {l r : PySem.Expr} {op : CmpOp} {pos : Pos} {u v : V} {x : Bool} (hm : behindInMarks op r = false) (h : Ev c l loc sto u sto₁) (g : Ev c r loc sto₁ v sto₂) {sto₃ : Sto} (ho : Op2 c (compareOp op) u v (.b x) loc sto₂ sto₃) : Tst c (.Compare l [op] [r] pos) loc sto x sto₃ := fun ρ s E Q R f =>
 wpAny_isTrue_Compare1 (h ρ s E _ R fun s₁ ρ₁ a p₁ ra R₁ m₁ => g ρ₁ s₁ E _ R₁ fun s₂ ρ₂ b p₂ rb R₂ m₂ => ho ρ₂ a b (ra.mono p₂) rb s₂ E _ R₂ fun s₃ ρ₃ y p₃ ry R₃ m₃ => by
  have e₁' : y = .bool x := ry
  subst e₁'
  exact wpAny_truthy_bool (f s₃ ρ₃ x (p₁.trans (p₂.trans p₃)) rfl R₃ (m₁.trans (m₂.trans m₃)))) hm
theorem ev_bin {l r : PySem.Expr} {op : Operator} {pos : Pos} {u v x : V} (h : Ev c l loc sto u sto₁) (g : Ev c r loc sto₁ v sto₂) {sto₃ : Sto} (ho : Op2 c (binaryOp op) u v x loc sto₂ sto₃) : Ev c (.BinOp l op r pos) loc sto x sto₃ := fun ρ s E Q R f =>
 wpAny_BinOp (h ρ s E _ R fun s₁ ρ₁ a p₁ ra R₁ m₁ => g ρ₁ s₁ E _ R₁ fun s₂ ρ₂ b p₂ rb R₂ m₂ => ho ρ₂ a b (ra.mono p₂) rb s₂ E Q R₂ fun s₃ ρ₃ y p₃ ry R₃ m₃ => f s₃ ρ₃ y (p₁.trans (p₂.trans p₃)) ry R₃ (m₁.trans (m₂.trans m₃)))
theorem ev_neg {e : PySem.Expr} {pos : Pos} {n : Int} (h : Ev c e loc sto (.i n) sto₁) : Ev c (.UnaryOp .USub e pos) loc sto (.i (-n)) sto₁ := fun ρ s E Q R f => by
 rw [arm_eval_UnaryOp]
 exact wpAny_bind (h ρ s E _ R fun s₁ ρ₁ a p₁ ra R₁ m₁ => by
  obtain ⟨t, rfl⟩ := ra
  exact wpAny_bind (wpAny_standAt (wpAny_holding (pv_neg n t s₁ E _ fun val tk r => f _ ρ₁ val p₁ (r.mono (nil_pfx ρ₁)) R₁ ⟨m₁.gens, m₁.os⟩))))
theorem ev_ifexp {t a b : PySem.Expr} {pos : Pos} {x : Bool} {v : V} (h : Tst c t loc sto x sto₁) (g : Ev c (if x then a else b) loc sto₁ v sto₂) : Ev c (.IfExp t a b pos) loc sto v sto₂ := fun ρ s E Q R f => by
 rw [arm_eval_IfExp]
 exact wpAny_bind (h ρ s E _ R fun s₁ ρ₁ y p₁ e R₁ m₁ => by
  subst e
  have := g ρ₁ s₁ E Q R₁ fun s₂ ρ₂ val p₂ rv R₂ m₂ => f s₂ ρ₂ val (p₁.trans p₂) rv R₂ (m₁.trans m₂)
  cases y with
  | true => exact this
  | false => exact this)
theorem ev_attr_dyn (hc : c.OK D) {n name : PySem.Str} {np pos : Pos} {k : Nat} {C : Addr} {fs : Ls} {v : V} (h : Ev c (.Name n np) loc sto (.d k) sto₁) (ek : sto₁[k]? = some (.inst C fs)) (ev : lk name.cps.toList fs = some v) (ok : InstOK c.w.params C name) :
  Ev c (.Attribute (.Name n np) name pos) loc sto v sto₁ := fun ρ s E Q R f =>
 Attribute_name (h ρ s E _ R fun s₁ ρ₁ a p₁ ra R₁ m₁ => get_dyn hc ek ev ok ra s₁ E Q R₁ fun s₂ ρ₂ b p₂ rb R₂ m₂ => f s₂ ρ₂ b (p₁.trans p₂) rb R₂ (m₁.trans m₂))
theorem ev_attr_st (hc : c.OK D) {n name : PySem.Str} {np pos : Pos} {x C : Addr} {fs : Ls} {v : V} (h : Ev c (.Name n np) loc sto (.a x) sto₁) (st : StI c.w.params x C fs) (ev : lk name.cps.toList fs = some v) (ok : InstOK c.w.params C name) :
  Ev c (.Attribute (.Name n np) name pos) loc sto v sto₁ := fun ρ s E Q R f =>
 Attribute_name (h ρ s E _ R fun s₁ ρ₁ a p₁ ra R₁ m₁ => by
  have ra' : a = .ref x := ra
  subst ra'
  obtain ⟨dx, es, n, sl, e1, e2, r⟩ := st
  obtain ⟨val, hl, rv⟩ := r.1 name v ev
  obtain ⟨o1, o2, attr, o3, o4⟩ := ok
  obtain ⟨m, _, R0⟩ := id R₁
  obtain ⟨ps, frs, X⟩ := R0.open
  exact get_own X.F hc.base.K (InstAt.of_K (hc.base.K.keeps R₁.keep) e1 e2) o1 o2 o3 o4 hl (handed_of rv) (f _ ρ₁ val p₁ (rv.mono (nil_pfx ρ₁)) R₁ ⟨m₁.gens, m₁.os⟩))
structure ClsOK (P : Params) (C : Addr) (name : PySem.Str) (a : Addr) : Prop where
 tp : typeIn (KP P) (.ref C) = some (.type "type")
 rd : readsIn (KP P) C (.type "type") = true
 fd : findCls (KP P) (.ref C) (.type "type") name = some (.val (.ref a))
theorem ev_attr_cls (hc : c.OK D) {n name : PySem.Str} {np pos : Pos} {C a : Addr} (h : Ev c (.Name n np) loc sto (.a C) sto₁) (ok : ClsOK c.w.params C name a) :
  Ev c (.Attribute (.Name n np) name pos) loc sto (.a a) sto₁ := fun ρ s E Q R f =>
 Attribute_name (h ρ s E _ R fun s₁ ρ₁ x p₁ ra R₁ m₁ => by
  have ra' : x = .ref C := ra
  subst ra'
  obtain ⟨m, _, R0⟩ := id R₁
  obtain ⟨ps, frs, X⟩ := R0.open
  exact cls_val X.F hc.base.K ok.tp ok.rd ok.fd rfl (f _ ρ₁ _ p₁ rfl R₁ ⟨m₁.gens, m₁.os⟩))
end
end
section
theorem Rel.push {c : Cx} {ρ : List Addr} {loc : Ls} {sto : Sto} {h : Heap} (R : Rel c ρ loc sto h) (o : Obj) : Rel c ρ loc sto (h.push o) := by
 have ab := R.above
 obtain ⟨m, RL, R0⟩ := R
 obtain ⟨ps, frs, X⟩ := R0.open
 exact ⟨m, RL, Opened.close (ps := ps) (frs := frs) ab ⟨X.F.push o, fun p hp => ⟨Heap.get?_push_of_some _ (X.N p hp).1, (X.N p hp).2⟩, X.S, X.O, X.one⟩⟩

theorem sub_tail {c : Cx} {value slice : PySem.Expr} {o i : Value} {s : Shared} {E : Value → Shared → Prop} {Q : Value → Shared → Prop} (hn : ∃ ops : List Value, subscripted slice false o i = operate ops (getItem o i)) (h : ItemOn c.M c.A E o i Q s) : wpAny c.M c.A (subscriptTail value slice o i) Q E s := by
 obtain ⟨T, id, hl, hT, hg⟩ := h
 have fin : wpAny c.M c.A (subscripted slice false o i) (fun r s₃ => wpAny c.M c.A (letTemporaryGo value o r >>= fun _ => pure r) Q E s₃) E s := by
  obtain ⟨ops, e⟩ := hn
  rw [e]
  exact wpAny_operateT (wpAny_mono hg (fun r s₃ h₃ => wpAny_bind (wpAny_letTemporaryGo (wpAny_pure h₃))) fun _ _ x => x)
 unfold subscriptTail
 refine wpAny_bind ?_
 rw [getitemInPython_of_ne hT.not_modules]
 refine wpAny_bind (wpAny_specialOf hT hl ?_)
 exact wpAny_pure (wpAny_bind fin)

section
variable {c : Cx} {D : Nat} {loc loc₁ loc₂ : Ls} {sto sto₁ sto₂ : Sto}
noncomputable abbrev NoSl (i : PySem.Expr) : Prop := subscripted i false = fun o v => operate [o, v] (getItem o v)
theorem ev_sub_list (hc : c.OK D) {e i : PySem.Expr} {pos : Pos} {v x : V} {vs : List V} {k : Int} (hi : NoSl i) (h : Ev c e loc sto v sto₁) (g : Ev c i loc sto₁ (.i k) sto₂) (q : IsL c sto₂ v vs) (h0 : 0 ≤ k) (h1 : k < 2 ^ 63) (hx : vs[k.toNat]? = some x) :
  Ev c (.Subscript e i pos) loc sto x sto₂ := fun ρ s E Q R f =>
 Subscript_ (h ρ s E _ R fun s₁ ρ₁ a p₁ ra R₁ m₁ => g ρ₁ s₁ E _ R₁ fun s₂ ρ₂ b p₂ rb R₂ m₂ => by
  obtain ⟨l, items, rfl, il, rs⟩ := q.at hc R₂ (ra.mono p₂)
  obtain ⟨t, rfl⟩ := rb
  obtain ⟨y, ey, ry⟩ := rs.get k.toNat x hx
  exact sub_tail ⟨_, congrFun (congrFun hi _) _⟩ ⟨"list", _, slot_list_getitem.lookup, il.typeIs, wpAny_getItem_list il h0 h1 (by simpa using ey) (f s₂ ρ₂ y (p₁.trans p₂) ry R₂ (m₁.trans m₂))⟩)
theorem ev_sub_tup (hc : c.OK D) {e i : PySem.Expr} {pos : Pos} {v x : V} {vs : List V} {k : Int} (hi : NoSl i) (h : Ev c e loc sto v sto₁) (g : Ev c i loc sto₁ (.i k) sto₂) (q : IsT c sto₂ v vs) (h0 : 0 ≤ k) (h1 : k < 2 ^ 63) (hx : vs[k.toNat]? = some x) :
  Ev c (.Subscript e i pos) loc sto x sto₂ := fun ρ s E Q R f =>
 Subscript_ (h ρ s E _ R fun s₁ ρ₁ a p₁ ra R₁ m₁ => g ρ₁ s₁ E _ R₁ fun s₂ ρ₂ b p₂ rb R₂ m₂ => by
  obtain ⟨l, items, rfl, il, rs⟩ := q.at hc R₂ (ra.mono p₂)
  obtain ⟨t, rfl⟩ := rb
  obtain ⟨y, ey, ry⟩ := rs.get k.toNat x hx
  have hlt : k.toNat < items.length := by
   have := List.getElem?_eq_some_iff.mp ey
   exact this.1
  exact sub_tail ⟨_, congrFun (congrFun hi _) _⟩ ⟨"tuple", _, slot_tuple_getitem.lookup, il.typeIs, PyProof.Rows.getItem_tuple (j := k.toNat) il (by lia) h1 (by
   unfold seqIndex?
   have a0 : ¬ k < 0 := by lia
   simp only [a0, if_false]
   rw [if_pos]
   have b0 : k < items.length := by lia
   simp [h0, b0]) (by simpa using ey) (f s₂ ρ₂ y (p₁.trans p₂) ry R₂ (m₁.trans m₂))⟩)
theorem ev_sub_str {e i : PySem.Expr} {pos : Pos} {l : List Nat} {n : Nat} {k : Int} (hi : NoSl i) (h : Ev c e loc sto (.s l) sto₁) (g : Ev c i loc sto₁ (.i k) sto₂) (h0 : 0 ≤ k) (h1 : k < 2 ^ 63) (hx : l[k.toNat]? = some n) :
  Ev c (.Subscript e i pos) loc sto (.s [n]) sto₂ := fun ρ s E Q R f =>
 Subscript_ (h ρ s E _ R fun s₁ ρ₁ a p₁ ra R₁ m₁ => g ρ₁ s₁ E _ R₁ fun s₂ ρ₂ b p₂ rb R₂ m₂ => by
  obtain ⟨t, rfl⟩ := ra
  obtain ⟨u, rfl⟩ := rb
  have hlt : k.toNat < l.length := (List.getElem?_eq_some_iff.mp hx).1
  refine sub_tail ⟨_, congrFun (congrFun hi _) _⟩ ⟨"str", _, F.slot_str_getitem.lookup, typeIs_str _ _ _, PySem.P.getItem_str (c := n) ?_ ?_ (f _ ρ₂ _ (p₁.trans p₂) ⟨s₂.toks, rfl⟩ R₂ ⟨(m₁.trans m₂).gens, (m₁.trans m₂).os⟩)⟩
  ·have a0 : decide (k < -(2 ^ 63 : Int)) = false := decide_eq_false (by lia)
   have a1 : decide (k ≥ 2 ^ 63) = false := decide_eq_false (by lia)
   rw [a0, a1]; rfl
  ·unfold seqIndex?
   have a0 : ¬ k < 0 := by lia
   simp only [a0, if_false, len_mk]
   have b0 : k < l.length := by lia
   simp [h0, b0]
   exact (List.getElem?_eq_some_iff.mp hx).2)

theorem slice_mid {l : List Nat} {i j : Int} (h0 : 0 ≤ i) (h1 : i ≤ j) (h2 : j ≤ l.length) : PySem.Txt.slice ⟨l.toArray⟩ (some i) (some j) = ⟨((l.drop i.toNat).take (j - i).toNat).toArray⟩ := by
 have := beq_iff_eq.mp (slice_closesL (x := ⟨l.toArray⟩) h0 h1 (by rw [len_mk]; exact h2))
 rw [this]
theorem slice_to {l : List Nat} {j : Int} (h0 : 0 ≤ j) (h2 : j ≤ l.length) : PySem.Txt.slice ⟨l.toArray⟩ none (some j) = ⟨(l.take j.toNat).toArray⟩ := by
 have := beq_iff_eq.mp (slice_closes_toL (x := ⟨l.toArray⟩) h0 (by rw [len_mk]; exact h2))
 rw [this]
 simp
theorem slice_fr {l : List Nat} {i : Int} (h0 : 0 ≤ i) : PySem.Txt.slice ⟨l.toArray⟩ (some i) none = ⟨(l.drop i.toNat).toArray⟩ := by
 by_cases h : i ≤ l.length
 ·have := slice_from_eq (x := ⟨l.toArray⟩) (b := (l.length : Int)) h0 (by rw [len_mk]; exact h) (by rw [len_mk])
  rw [this]
  congr 1
  have : (PySem.Str.mk l.toArray).cps.toList = l := by simp
  rw [this, List.take_of_length_le (by rw [List.length_drop]; lia)]
 ·rw [slice_beyond (by rw [len_mk]; lia), List.drop_of_length_le (by lia)]
  rfl
theorem ev_sub_ss (hc : c.OK D) {e a b : PySem.Expr} {sp pos : Pos} {l : List Nat} {i j : Int} {sto₃ : Sto} (h : Ev c e loc sto (.s l) sto₁) (ga : Ev c a loc sto₁ (.i i) sto₂) (gb : Ev c b loc sto₂ (.i j) sto₃) (h0 : 0 ≤ i) (h1 : i ≤ j) (h2 : j ≤ l.length) (hz : l.length ≤ 1000) :
  Ev c (.Subscript e (.Slice (some a) (some b) none sp) pos) loc sto (.s ((l.drop i.toNat).take (j - i).toNat)) sto₃ := fun ρ s E Q R f =>
 Subscript_ (h ρ s E _ R fun s₁ ρ₁ x p₁ rx R₁ m₁ => wpAny_Slice (ga ρ₁ s₁ E _ R₁ fun s₂ ρ₂ y p₂ ry R₂ m₂ => gb ρ₂ s₂ E _ R₂ fun s₃ ρ₃ z p₃ rz R₃ m₃ => wpAny_pure (by
  obtain ⟨t, rfl⟩ := rx
  obtain ⟨u, rfl⟩ := ry
  obtain ⟨v, rfl⟩ := rz
  refine sub_tail ⟨_, rfl⟩ (SBH.sliceItem_ss (P := fun h => Rel c ρ₃ loc sto₃ h) (fun h o r => r.push o) R₃ (fun h' t' k r => ?_) (by rw [len_mk, sizeLine_eq]; lia))
  rw [slice_mid h0 h1 h2]
  exact f _ ρ₃ _ (p₁.trans (p₂.trans p₃)) ⟨t', rfl⟩ r ⟨(m₁.trans (m₂.trans m₃)).gens, (m₁.trans (m₂.trans m₃)).os⟩)))
theorem ev_sub_sn (hc : c.OK D) {e a : PySem.Expr} {sp pos : Pos} {l : List Nat} {i : Int} (h : Ev c e loc sto (.s l) sto₁) (ga : Ev c a loc sto₁ (.i i) sto₂) (h0 : 0 ≤ i) (hz : l.length ≤ 1000) :
  Ev c (.Subscript e (.Slice (some a) none none sp) pos) loc sto (.s (l.drop i.toNat)) sto₂ := fun ρ s E Q R f =>
 Subscript_ (h ρ s E _ R fun s₁ ρ₁ x p₁ rx R₁ m₁ => wpAny_Slice (ga ρ₁ s₁ E _ R₁ fun s₂ ρ₂ y p₂ ry R₂ m₂ => wpAny_pure (wpAny_pure (by
  obtain ⟨t, rfl⟩ := rx
  obtain ⟨u, rfl⟩ := ry
  refine sub_tail ⟨_, rfl⟩ (SBH.sliceItem_sn (P := fun h => Rel c ρ₂ loc sto₂ h) (fun h o r => r.push o) R₂ (fun h' t' k r => ?_) (by rw [len_mk, sizeLine_eq]; lia))
  rw [slice_fr h0]
  exact f _ ρ₂ _ (p₁.trans p₂) ⟨t', rfl⟩ r ⟨(m₁.trans m₂).gens, (m₁.trans m₂).os⟩))))
theorem ev_sub_ns (hc : c.OK D) {e b : PySem.Expr} {sp pos : Pos} {l : List Nat} {j : Int} (h : Ev c e loc sto (.s l) sto₁) (gb : Ev c b loc sto₁ (.i j) sto₂) (h0 : 0 ≤ j) (h2 : j ≤ l.length) (hz : l.length ≤ 1000) :
  Ev c (.Subscript e (.Slice none (some b) none sp) pos) loc sto (.s (l.take j.toNat)) sto₂ := fun ρ s E Q R f =>
 Subscript_ (h ρ s E _ R fun s₁ ρ₁ x p₁ rx R₁ m₁ => wpAny_Slice (wpAny_pure (gb ρ₁ s₁ E _ R₁ fun s₂ ρ₂ y p₂ ry R₂ m₂ => wpAny_pure (by
  obtain ⟨t, rfl⟩ := rx
  obtain ⟨u, rfl⟩ := ry
  refine sub_tail ⟨_, rfl⟩ (SBH.sliceItem_ns (P := fun h => Rel c ρ₂ loc sto₂ h) (fun h o r => r.push o) R₂ (fun h' t' k r => ?_) (by rw [len_mk, sizeLine_eq]; lia))
  rw [slice_to h0 h2]
  exact f _ ρ₂ _ (p₁.trans p₂) ⟨t', rfl⟩ r ⟨(m₁.trans m₂).gens, (m₁.trans m₂).os⟩))))
end
end
section
noncomputable abbrev NoStar (l : List PySem.Expr) : Prop := starEach l = fun env => l.map fun e => (false, eval e env)
theorem star_map (pos : Pos) (env : Env) {l : List PySem.Expr} (h : NoStar l) : backTo pos (starEach l env) = l.map fun e => (false, eval e env) := by
 rw [h]
 unfold backTo
 rw [List.map_map]
 rfl

noncomputable abbrev EvL (c : Cx) (l : List PySem.Expr) (loc : Ls) (sto : Sto) (vs : List V) (sto' : Sto) : Prop := Do c (spliced (l.map fun e => (false, eval e c.env))) loc sto (fun ρ xs => RVs ρ vs xs) loc sto'
section
variable {c : Cx} {D : Nat} {loc loc₁ loc₂ : Ls} {sto sto₁ sto₂ : Sto}
theorem evl_nil : EvL c [] loc sto [] sto := fun ρ s E Q R f => spliced_nil (f s ρ [] (Pfx.refl ρ) trivial R (Same.refl s))
theorem evl_cons {e : PySem.Expr} {l : List PySem.Expr} {v : V} {vs : List V} (h : Ev c e loc sto v sto₁) (g : EvL c l loc sto₁ vs sto₂) : EvL c (e :: l) loc sto (v :: vs) sto₂ := fun ρ s E Q R f =>
 spliced_cons (h ρ s E _ R fun s₁ ρ₁ x p₁ rx R₁ m₁ => g ρ₁ s₁ E _ R₁ fun s₂ ρ₂ xs p₂ rxs R₂ m₂ => f s₂ ρ₂ (x :: xs) (p₁.trans p₂) ⟨rx.mono p₂, rxs⟩ R₂ (m₁.trans m₂))

theorem evalArgs_go {M : Model} {A : Around} {s : Shared} {E : Value → Shared → Prop} {f : Value} {l : List PySem.Expr} {env : Env} {Q : Args → Shared → Prop} (h : wpAny M A (spliced (l.map fun e => (false, eval e env))) (fun vs s' => Q ⟨vs, []⟩ s') E s) : wpAny M A (evalArgs f true (l.map fun e => (false, eval e env)) []) Q E s := by
 cases l with
 | nil =>
  unfold evalArgs
  show wpAny M A (spliced [] >>= _) Q E s
  refine wpAny_bind (wpAny_mono h (fun vs s' h' => wpAny_bind (wpAny_pure ?_)) fun _ _ x => x)
  refine wpAny_holding ?_
  exact wpAny_bind (wpAny_pure (wpAny_bind (wpAny_pure (wpAny_pure h'))))
 | cons e r => exact evalArgs_plain h
theorem any_false {α β : Type} (g : α → β) : ∀ l : List α, (l.map fun e => (false, g e)).any (·.1) = false
 | [] => rfl
 | _ :: l => any_false g l
theorem callWith_go (hc : c.OK D) {l : List PySem.Expr} {vs : List V} {f : Value} {first : List Value} {pos : Pos} {ρ : List Addr} {s : Shared} {E : Value → Shared → Prop} {Q : Value → Shared → Prop} (hs : NoStar l) (hk : keepIn (KP c.w.params) f = true) (h : EvL c l loc sto vs sto₁) (R : Rel c ρ loc sto s.heap)
  (k : ∀ s' ρ' xs, Pfx ρ ρ' → RVs ρ' vs xs → Rel c ρ' loc sto₁ s'.heap → Same s s' → wpAny c.M c.A (call f (first ++ xs)) Q E s') : wpAny c.M c.A (callWith pos f first (backTo pos (starEach l c.env)) []) Q E s := by
 rw [star_map pos c.env hs]
 have h := h ρ s E (fun xs s' => (KP c.w.params).In s'.heap ∧ wpAny c.M c.A (call f (first ++ xs)) Q E s') R fun s' ρ' xs p rx R' m => ⟨hc.base.K.keeps R'.keep, k s' ρ' xs p rx R' m⟩
 clear k R
 refine callWith_of (by rw [any_false]; rfl) (keeps_K hk) ?_
 exact evalArgs_go h

theorem call_fn (hc : c.OK (D + 1)) {f : Addr} {vs : List V} {v : V} {sto' : Sto} (h : CallS D f vs sto v sto') {ρ : List Addr} {xs : List Value} (rx : RVs ρ vs xs) : DoAt c ρ (call (.ref f) xs) loc sto (fun ρ x => RV ρ v x) loc sto' := fun s E Q R k => by
 obtain ⟨m, RLx, R0⟩ := R
 have hlink : Link (c.env :: c.outer) ((c.L, m) :: c.ofr) := ⟨by show c.scope.kind ≠ .module; rw [hc.kind]; decide, rfl, hc.link⟩
 have hr := hc.room
 have hu := hc.units
 refine wpAny_call (h c.w c.hb c.ext ((c.L, m) :: c.ofr) ρ c.A (c.env :: c.outer) hc.base (Around.frames_deeper hc.frames) hlink hc.handled (by show c.A₀.depth + 1 + 20 * D + 20 ≤ 900; lia) (by show c.A₀.units + 3 + 100 * D + 100 ≤ 9000; lia) s xs _ rx R0 ?_)
 exact fun s' ρ' val p rv R' m' => k s' ρ' val p rv ⟨m, RLx.mono p, R'⟩ m'

theorem ev_call (hc : c.OK (D + 1)) {n : PySem.Str} {np pos : Pos} {l : List PySem.Expr} {f : Addr} {vs : List V} {v : V} (hs : NoStar l) (hk : keepIn (KP c.w.params) (.ref f) = true) (h : Ev c (.Name n np) loc sto (.a f) sto) (g : EvL c l loc sto vs sto₁) (hcall : CallS D f vs sto₁ v sto₂) :
  Ev c (.Call (.Name n np) l [] pos) loc sto v sto₂ := fun ρ s E Q R f => by
 rw [arm_eval_Call_Name']
 refine wpAny_bind (h ρ s E _ R fun s₁ ρ₁ x p₁ rx R₁ m₁ => ?_)
 have rx' : x = .ref _ := rx
 subst rx'
 exact callWith_go hc hs hk g R₁ fun s₂ ρ₂ xs p₂ rxs R₂ m₂ => call_fn hc hcall rxs s₂ E Q R₂ fun s₃ ρ₃ val p₃ rv R₃ m₃ => f s₃ ρ₃ val (p₁.trans (p₂.trans p₃)) rv R₃ (m₁.trans (m₂.trans m₃))

structure MethOK (P : Params) (C : Addr) (name : PySem.Str) (f : Addr) : Prop where
 plain : plainGet (KP P) C name = true
 fd : findIn (KP P) (.ref C) name = some (some (.ref f))
 fn : isFn (KP P) (.ref f) = true
 keep : keepIn (KP P) (.ref f) = true
theorem methodCall_go {M : Model} {A : Around} {env : Env} {s : Shared} {E : Value → Shared → Prop} {Q : Value → Shared → Prop} {o : PySem.Expr} {name : PySem.Str} {apos pos : Pos} {l : List PySem.Expr} {ov : Value} (hs : NoStar l) (hlen : l.length < 30) (hline : (apos.endLine == pos.line) = true)
  (h : ∀ pl, wpAny M A (getMethod ov name pl) (fun fx s₂ => wpAny M A (callWith pos fx.1 fx.2 (backTo pos (starEach l env)) []) Q E s₂) E s) :
  wpAny M A (methodCall o name apos pos env ov (l.length + ([] : List Keyword).length) (backTo pos (starEach l env)) (backToKw pos (keywordEach [] env))) Q E s := by
 have hform : methodCallForm (l.length + ([] : List Keyword).length) (backTo pos (starEach l env)) (backToKw pos (keywordEach [] env)) = true := by
  unfold methodCallForm
  rw [star_map pos env hs]
  rw [show keywordEach [] env = [] from rfl]
  simp [backToKw, hlen]
 have hpos : methodCallPos true o env apos pos = pure pos := by unfold methodCallPos; simp [hline]
 unfold methodCall
 rw [hform]
 unfold calleeOf
 refine wpAny_bind (wpAny_holding (wpAny_mono (h _) (fun fx s₂ h₂ => ?_) fun _ _ x => x))
 exact wpAny_bind (wpAny_of_eq hpos h₂)

theorem meth_dyn (hc : c.OK D) {k : Nat} {C f : Addr} {fs : Ls} {name : PySem.Str} {ov : Value} {ρ : List Addr} {s : Shared} {E : Value → Shared → Prop} {Q : Value × List Value → Shared → Prop} {pl : Sem Bool} (ek : sto[k]? = some (.inst C fs)) (en : lk name.cps.toList fs = none) (ok : MethOK c.w.params C name f) (rv : RV ρ (.d k) ov) (R : Rel c ρ loc sto s.heap) (h : Q (.ref f, [ov]) s) : wpAny c.M c.A (getMethod ov name pl) Q E s := by
 refine of_imp fun G hG => ?_
 obtain ⟨x, ex, e⟩ := rv
 obtain ⟨m, RLx, R0⟩ := R
 obtain ⟨ps, frs, X⟩ := R0.open
 obtain ⟨x', l', p, r, h1, hp, ⟨dx, es, nn, RFs, hq⟩, _⟩ := X.S.at ek
 rw [ex] at h1
 obtain rfl := Option.some.inj h1
 subst hq
 subst hp
 subst e
 exact hG (method_inst X.F hc.base.K (⟨X.mem (p := (x, instObj C dx)) (by simp), rfl, rfl, X.mem (p := (dx, dictOf es nn)) (by simp)⟩ : InstAt s.heap x (instObj C dx) C (some (dictOf es nn))) ok.plain ok.fd ok.fn (RFs.2.1 name en) h)
theorem ev_methE (hc : c.OK (D + 1)) {e : PySem.Expr} {name : PySem.Str} {apos pos : Pos} {l : List PySem.Expr} {k : Nat} {C f : Addr} {fs : Ls} {vs : List V} {v : V} (hb : ∀ (t : Sem Value) (s : Shared) (E : Value → Shared → Prop) (Q : Value → Shared → Prop), wpAny c.M c.A t Q E s → wpAny c.M c.A (attributeBase e name c.env t) Q E s)
  (hs : NoStar l) (hlen : l.length < 30) (hline : (apos.endLine == pos.line) = true)
  (h : Ev c e loc sto (.d k) sto₁) (ek : sto₁[k]? = some (.inst C fs)) (en : lk name.cps.toList fs = none) (ok : MethOK c.w.params C name f) (g : EvL c l loc sto₁ vs sto₂) {sto₃ : Sto} (hcall : CallS D f (.d k :: vs) sto₂ v sto₃) :
  Ev c (.Call (.Attribute e name apos) l [] pos) loc sto v sto₃ := fun ρ s E Q R q => by
 rw [arm_eval_Call]
 refine wpAny_bind (hb _ s E _ (h ρ s E _ R fun s₁ ρ₁ ov p₁ rx R₁ m₁ => wpAny_bind (wpAny_standAt (methodCall_go hs hlen hline fun pl => ?_))))
 refine meth_dyn hc ek en ok rx R₁ ?_
 exact (callWith_go hc hs ok.keep g R₁ fun s₂ ρ₂ xs p₂ rxs R₂ m₂ => call_fn hc hcall (xs := ov :: xs) ⟨rx.mono p₂, rxs⟩ s₂ E Q R₂ fun s₃ ρ₃ val p₃ rv R₃ m₃ => q s₃ ρ₃ val (p₁.trans (p₂.trans p₃)) rv R₃ (m₁.trans (m₂.trans m₃)))
theorem ev_meth (hc : c.OK (D + 1)) {n name : PySem.Str} {np apos pos : Pos} {l : List PySem.Expr} {k : Nat} {C f : Addr} {fs : Ls} {vs : List V} {v : V} (hs : NoStar l) (hlen : l.length < 30) (hline : (apos.endLine == pos.line) = true)
  (h : Ev c (.Name n np) loc sto (.d k) sto) (ek : sto[k]? = some (.inst C fs)) (en : lk name.cps.toList fs = none) (ok : MethOK c.w.params C name f) (g : EvL c l loc sto vs sto₁) (hcall : CallS D f (.d k :: vs) sto₁ v sto₂) :
  Ev c (.Call (.Attribute (.Name n np) name apos) l [] pos) loc sto v sto₂ :=
 ev_methE (e := .Name n np) hc (fun _ _ _ _ h => h) hs hlen hline h ek en ok g hcall

/-! ### built-in functions -/
noncomputable def BuiltinOK (P : Params) (x : PySem.Str) (v : Value) : Prop := nsIn (KP P) mainGlobals x = some none ∧ bootBuiltins x = some v ∧ x ≠ "__name__" ∧ (x == ("__debug__" : PySem.Str)) = false
theorem name_builtin (hc : c.OK D) {x : PySem.Str} {v : Value} (ok : BuiltinOK c.w.params x v) (hk : c.scope.names.lookup x = some .globalImplicit) {pos : Pos} {s : Shared} {ρ : List Addr} {E : Value → Shared → Prop} {Q : Value → Shared → Prop} (R : Rel c ρ loc sto s.heap) (h : Q v s) : wpAny c.M c.A (eval (.Name x pos) c.env) Q E s := by
 obtain ⟨m, RL, R0⟩ := id R
 obtain ⟨ps, frs, X⟩ := R0.open
 obtain ⟨_, _, mg, mb, T⟩ := hc.base.top
 exact name_B X.F hc.base.K T ok.1 ok.2.1 ok.2.2.1 h hc.kind hk ok.2.2.2
theorem builtin1 (hc : c.OK D) {x : PySem.Str} {id : String} (ok : BuiltinOK c.w.params x (.builtin id)) (hk : c.scope.names.lookup x = some .globalImplicit) {e : PySem.Expr} {np pos : Pos} {v u : V} (hs : NoStar [e]) (h : Ev c e loc sto v sto₁)
  (hb : ∀ ρ a, RV ρ v a → DoAt c ρ (call (.builtin id) [a]) loc sto₁ (fun ρ x => RV ρ u x) loc sto₂) : Ev c (.Call (.Name x np) [e] [] pos) loc sto u sto₂ := fun ρ s E Q R f => by
 rw [arm_eval_Call_Name']
 refine wpAny_bind (name_builtin hc ok hk R ?_)
 rw [star_map pos c.env hs]
 show wpAny c.M c.A (callWith pos (.builtin id) [] [(false, eval e c.env)] (backToKw pos (keywordEach [] c.env))) Q E s
 refine callWith_builtin rfl (evalArgs_plain (spliced_cons (h ρ s E _ R fun s₁ ρ₁ a p₁ ra R₁ m₁ => spliced_nil ?_)))
 exact (hb ρ₁ a ra s₁ E Q R₁ fun s₂ ρ₂ y p₂ ry R₂ m₂ => f s₂ ρ₂ y (p₁.trans p₂) ry R₂ (m₁.trans m₂))
theorem builtin2 (hc : c.OK D) {x : PySem.Str} {id : String} (ok : BuiltinOK c.w.params x (.builtin id)) (hk : c.scope.names.lookup x = some .globalImplicit) {e e' : PySem.Expr} {np pos : Pos} {v v' u : V} {sto₃ : Sto} (hs : NoStar [e, e']) (h : Ev c e loc sto v sto₁) (h' : Ev c e' loc sto₁ v' sto₂)
  (hb : ∀ ρ a b, RV ρ v a → RV ρ v' b → DoAt c ρ (call (.builtin id) [a, b]) loc sto₂ (fun ρ x => RV ρ u x) loc sto₃) : Ev c (.Call (.Name x np) [e, e'] [] pos) loc sto u sto₃ := fun ρ s E Q R f => by
 rw [arm_eval_Call_Name']
 refine wpAny_bind (name_builtin hc ok hk R ?_)
 rw [star_map pos c.env hs]
 refine callWith_builtin rfl (evalArgs_plain (spliced_cons (h ρ s E _ R fun s₁ ρ₁ a p₁ ra R₁ m₁ => spliced_cons (h' ρ₁ s₁ E _ R₁ fun s₂ ρ₂ b p₂ rb R₂ m₂ => spliced_nil ?_))))
 exact hb ρ₂ a b (ra.mono p₂) rb s₂ E Q R₂ fun s₃ ρ₃ y p₃ ry R₃ m₃ => f s₃ ρ₃ y (p₁.trans (p₂.trans p₃)) ry R₃ (m₁.trans (m₂.trans m₃))
theorem len_S {l : List Nat} (hz : l.length ≤ 100000) (ρ : List Addr) (a : Value) (ra : RV ρ (.s l) a) : DoAt c ρ (call (.builtin "len") [a]) loc sto (fun ρ x => RV ρ (.i l.length) x) loc sto := fun s E Q R f => by
 obtain ⟨t, rfl⟩ := ra
 exact PySem.P.len_str (by rw [len_mk]; lia) (f _ ρ _ (Pfx.refl ρ) ⟨s.toks + 1, by rw [len_mk]⟩ R ⟨rfl, rfl⟩)
theorem len_L (hc : c.OK D) {v : V} {vs : List V} (q : IsL c sto v vs) (hz : vs.length ≤ 100000) (ρ : List Addr) (a : Value) (ra : RV ρ v a) : DoAt c ρ (call (.builtin "len") [a]) loc sto (fun ρ x => RV ρ (.i vs.length) x) loc sto := fun s E Q R f => by
 obtain ⟨l, items, rfl, il, rs⟩ := q.at hc R ra
 have hl := rs.length
 exact PyProof.Rows.len_list il (by simp; lia) (f _ ρ _ (Pfx.refl ρ) ⟨s.toks + 1, by rw [hl]; simp⟩ R ⟨rfl, rfl⟩)
theorem ord_S {n : Nat} (ρ : List Addr) (a : Value) (ra : RV ρ (.s [n]) a) : DoAt c ρ (call (.builtin "ord") [a]) loc sto (fun ρ x => RV ρ (.i n) x) loc sto := fun s E Q R f => by
 obtain ⟨t, rfl⟩ := ra
 exact ord_of_one rfl (f _ ρ _ (Pfx.refl ρ) ⟨s.toks, rfl⟩ R ⟨rfl, rfl⟩)
end
end
section
section
variable {c : Cx} {D : Nat} {loc loc₁ loc₂ : Ls} {sto sto₁ sto₂ : Sto}

/-! ### membership -/
noncomputable def vowels : List Nat := [97, 101, 105, 111, 117, 226, 238, 259]
noncomputable def isVow (l : List Nat) : Bool := match l with
 | [n] => vowels.any (· == n)
 | _ => false
noncomputable def SetOK0 (P : Params) (x : Addr) : Prop := (KP P).lookup x = some (ob (vT "set") (.set (xE P) (xN P) (xT P)))
theorem gv_obj (w : World) : (ob (vT "set") (.set (xE w.params) (xN w.params) (xT w.params))).SetObjOf (strKind pw w) (fun k => isVow k.cps.toList) 8 := by
 obtain ⟨es, ep, t, e, hf, hel, hm, hs⟩ := good_Xd w
 have e' := (Xd_set w).symm.trans e
 refine ⟨⟨rfl, rfl, rfl⟩, es, ep, t, e', hel, fun k => ?_, by rw [hs]; rfl, hf⟩
 rw [← hm k]
 have hD : (vows.map fun x => PySem.Str.ofString x.1) = vowels.map fun n => (⟨#[n]⟩ : PySem.Str) := by decide +kernel
 rw [hD]
 obtain ⟨⟨l⟩⟩ := k
 constructor
 ·intro h
  replace h : isVow l = true := h
  unfold isVow at h
  split at h
  ·rename_i n
   obtain ⟨m, hm, q⟩ := List.any_eq_true.mp h
   have q' : m = n := by simpa using q
   subst q'
   exact List.mem_map.mpr ⟨m, hm, rfl⟩
  ·cases h
 ·intro h
  obtain ⟨n, hn, e0⟩ := List.mem_map.mp h
  have e1 : [n] = l := by
   have := congrArg (fun s => s.cps.toList) e0
   exact this
  subst e1
  show vowels.any (· == n) = true
  exact List.any_eq_true.mpr ⟨n, hn, by simp⟩
theorem in_set (hc : c.OK D) {x : Addr} {l : List Nat} (ok : SetOK0 c.w.params x) : Op2 c (compareOp .In) (.s l) (.a x) (.b (isVow l)) loc sto sto := fun ρ a b ra rb s E Q R f => by
 obtain ⟨t, rfl⟩ := ra
 have rb' : b = .ref x := rb
 subst rb'
 obtain ⟨m, _, R0⟩ := id R
 obtain ⟨ps, frs, X⟩ := R0.open
 refine in_argsetS X.F (gv_obj c.w) (hc.base.K _ _ ok) (by decide) ?_
 exact f _ ρ _ (Pfx.refl ρ) (by show _ = Value.bool _; simp) R ⟨rfl, rfl⟩
theorem notin_set (hc : c.OK D) {x : Addr} {l : List Nat} (ok : SetOK0 c.w.params x) : Op2 c (compareOp .NotIn) (.s l) (.a x) (.b (!isVow l)) loc sto sto := fun ρ a b ra rb s E Q R f => by
 obtain ⟨t, rfl⟩ := ra
 have rb' : b = .ref x := rb
 subst rb'
 obtain ⟨m, _, R0⟩ := id R
 obtain ⟨ps, frs, X⟩ := R0.open
 refine notin_argsetS X.F (gv_obj c.w) (hc.base.K _ _ ok) (by decide) ?_
 exact f _ ρ _ (Pfx.refl ρ) (by show _ = Value.bool _; simp) R ⟨rfl, rfl⟩
noncomputable def strsOf : List V → Option (List (List Nat))
 | [] => some []
 | .s l :: r => (strsOf r).map (l :: ·)
 | _ :: _ => none
theorem strsAre {ρ : List Addr} : ∀ {vs : List V} {xs : List (List Nat)} {items : List Value}, strsOf vs = some xs → RVs ρ vs items → StrsAre items (xs.map fun l => ⟨l.toArray⟩)
 | [], xs, [], e, _ => by cases e; exact .nil
 | .s l :: r, xs, y :: items, e, h => by
  unfold strsOf at e
  cases q : strsOf r with
  | none => rw [q] at e; cases e
  | some zs =>
   rw [q] at e
   cases e
   obtain ⟨⟨t, rfl⟩, h2⟩ := h
   exact .cons _ _ (strsAre q h2)
 | .none :: _, _, _, e, _ => by cases e
 | .b _ :: _, _, _, e, _ => by cases e
 | .i _ :: _, _, _, e, _ => by cases e
 | .a _ :: _, _, _, e, _ => by cases e
 | .d _ :: _, _, _, e, _ => by cases e
theorem in_list (hc : c.OK D) {v : V} {vs : List V} {l : List Nat} {xs : List (List Nat)} (q : IsL c sto v vs) (hx : strsOf vs = some xs) : Op2 c (compareOp .In) (.s l) v (.b (xs.any (· == l))) loc sto sto := fun ρ a b ra rb s E Q R f => by
 obtain ⟨t, rfl⟩ := ra
 obtain ⟨x, items, rfl, il, rs⟩ := q.at hc R rb
 refine in_list_strs il (strsAre hx rs) ?_
 refine f _ ρ _ (Pfx.refl ρ) ?_ R ⟨rfl, rfl⟩
 show _ = Value.bool _
 congr 1
 rw [List.any_map]
 apply congrArg (fun f => xs.any f)
 funext z
 show ((⟨z.toArray⟩ : PySem.Str) == ⟨l.toArray⟩) = (z == l)
 by_cases h : z = l
 ·subst h; rw [beq_self_eq_true, beq_self_eq_true]
 ·have : (⟨z.toArray⟩ : PySem.Str) ≠ ⟨l.toArray⟩ := fun e => h (by have := congrArg (fun s => s.cps.toList) e; simpa using this)
  rw [beq_eq_false_iff_ne.mpr this, beq_eq_false_iff_ne.mpr h]

/-! ### min, max, >> -/
theorem min_I (hc : c.OK D) (i j : Int) (ρ : List Addr) (a b : Value) (ra : RV ρ (.i i) a) (rb : RV ρ (.i j) b) : DoAt c ρ (call (.builtin "min") [a, b]) loc sto (fun ρ x => RV ρ (.i (if j < i then j else i)) x) loc sto := fun s E Q R f => by
 obtain ⟨t, rfl⟩ := ra
 obtain ⟨u, rfl⟩ := rb
 have ab := R.above
 obtain ⟨m, RLx, R0⟩ := id R
 obtain ⟨ps, frs, X⟩ := R0.open
 exact min_two_N hc.handled X.F X.N fun h' tk F' N' => f _ ρ _ (Pfx.refl ρ) ⟨_, rfl⟩ ⟨m, RLx, Opened.close (ps := ps) (frs := frs) ab ⟨F', N', X.S, X.O, X.one⟩⟩ ⟨rfl, rfl⟩
theorem max_I (hc : c.OK D) (i j : Int) (ρ : List Addr) (a b : Value) (ra : RV ρ (.i i) a) (rb : RV ρ (.i j) b) : DoAt c ρ (call (.builtin "max") [a, b]) loc sto (fun ρ x => RV ρ (.i (if j > i then j else i)) x) loc sto := fun s E Q R f => by
 obtain ⟨t, rfl⟩ := ra
 obtain ⟨u, rfl⟩ := rb
 have ab := R.above
 obtain ⟨m, RLx, R0⟩ := id R
 obtain ⟨ps, frs, X⟩ := R0.open
 exact max_two_N hc.handled X.F X.N fun h' tk F' N' => f _ ρ _ (Pfx.refl ρ) ⟨_, rfl⟩ ⟨m, RLx, Opened.close (ps := ps) (frs := frs) ab ⟨F', N', X.S, X.O, X.one⟩⟩ ⟨rfl, rfl⟩
theorem shr_I {i : Int} (h0 : 0 ≤ i) : Op2 c (binaryOp .RShift) (.i i) (.i 1) (.i (i / 2)) loc sto sto := fun ρ a b ra rb s E Q R f => by
 obtain ⟨t, rfl⟩ := ra
 obtain ⟨u, rfl⟩ := rb
 by_cases h : (1 : Int) ≥ ((Builtin.Int.intBits i : Nat) : Int)
 ·refine AutoIntOps.rshift_1 (by decide) h ?_
  refine f _ ρ _ (Pfx.refl ρ) ⟨s.toks, ?_⟩ R ⟨rfl, rfl⟩
  have hi : i ≤ 1 := by
   unfold Builtin.Int.intBits at h
   by_cases z : i = 0
   ·lia
   ·have z' : (i == 0) = false := by simpa using z
    rw [z'] at h
    simp only [Bool.false_eq_true, if_false] at h
    have h1 : i.natAbs.log2 = 0 := by lia
    have h2 := Nat.lt_log2_self (n := i.natAbs)
    rw [h1] at h2
    lia
  have e : (if i < 0 then (-1 : Int) else 0) = i / 2 := by
   rw [if_neg (by lia)]
   lia
  rw [e]
 ·refine AutoIntOps.rshift_2 (by decide) h ?_
  refine f _ ρ _ (Pfx.refl ρ) ⟨s.toks, ?_⟩ R ⟨rfl, rfl⟩
  have e : i.fdiv (2 ^ (1 : Int).toNat) = i / 2 := by
   show i.fdiv 2 = i / 2
   rw [Int.fdiv_eq_ediv_of_nonneg _ (by decide)]
  rw [e]
end
end
section
theorem Rel0.ext_push {hb h : Heap} {ext : List (Addr × Obj)} {fr : Frames} {ρ : List Addr} {sto : Sto} (R : Rel0 hb ext fr ρ sto h) (o : Obj) (hf : o.isFreed = false) : Rel0 hb ((h.objs.size, o) :: ext) fr ρ sto (h.push o) := by
 obtain ⟨ps, frs, S, O, T⟩ := R.has
 refine ⟨fun b x e => Heap.get?_push_of_some _ (R.keep b x e), by rw [Heap.size_push]; exact Nat.le_succ_of_le R.big, R.above, ps, frs, S, O, (T.push R.big o hf).perm ?_⟩
 rw [← List.append_assoc, ← List.append_assoc]
 exact List.perm_middle.symm
theorem Rel0.ext_drop {hb h : Heap} {p : Addr × Obj} {ext : List (Addr × Obj)} {fr : Frames} {ρ : List Addr} {sto : Sto} (R : Rel0 hb (p :: ext) fr ρ sto h) : Rel0 hb ext fr ρ sto h := by
 obtain ⟨ps, frs, S, O, T⟩ := R.has
 have T' : Sits hb h (p :: (frs ++ (ps ++ ext))) := T.perm (by
  rw [← List.append_assoc, ← List.append_assoc]
  exact List.perm_middle)
 refine ⟨R.keep, R.big, R.above, ps, frs, S, O, fun q hq => T'.at_ q (List.mem_cons_of_mem _ hq), fun q hq => T'.new q (List.mem_cons_of_mem _ hq), ?_⟩
 have := T'.one
 rw [List.map_cons, List.nodup_cons] at this
 exact this.2
theorem Rel0.ext_swap {hb h h' : Heap} {a : Addr} {o o' : Obj} {ext : List (Addr × Obj)} {fr : Frames} {ρ : List Addr} {sto : Sto} (R : Rel0 hb ((a, o) :: ext) fr ρ sto h) (e : h'.get? a = some o') (k : ∀ b x, b ≠ a → h.get? b = some x → h'.get? b = some x) (hz : hb.objs.size ≤ h'.objs.size) : Rel0 hb ((a, o') :: ext) fr ρ sto h' := by
 obtain ⟨ps, frs, S, O, T⟩ := R.has
 have P : ∀ o, (frs ++ (ps ++ ((a, o) :: ext))).Perm ((a, o) :: (frs ++ (ps ++ ext))) := fun o => by
  rw [← List.append_assoc, ← List.append_assoc]
  exact List.perm_middle
 have T' := T.perm (P o)
 have one := T'.one
 rw [List.map_cons, List.nodup_cons] at one
 refine ⟨fun b x q => k b x (fun z => ?_) (R.keep b x q), hz, R.above, ps, frs, S, O, Sits.perm (P o').symm ⟨fun q hq => ?_, fun q hq => ?_, ?_⟩⟩
 ·subst z
  have := T'.new (b, o) List.mem_cons_self
  rw [q] at this; cases this
 ·rcases List.mem_cons.mp hq with rfl | hq
  ·exact e
  ·exact k q.1 q.2 (fun z => one.1 (List.mem_map.mpr ⟨q, hq, z⟩)) (T'.at_ q (List.mem_cons_of_mem _ hq))
 ·rcases List.mem_cons.mp hq with rfl | hq
  ·exact T'.new (a, o) List.mem_cons_self
  ·exact T'.new q (List.mem_cons_of_mem _ hq)
 ·rw [List.map_cons, List.nodup_cons]
  exact one
theorem Rel0.ext_lose {hb h h' : Heap} {a : Addr} {o : Obj} {ext : List (Addr × Obj)} {p : Addr × (PySem.Str → Option Value)} {fr : Frames} {ρ : List Addr} {sto : Sto} (R : Rel0 hb ((a, o) :: ext) (p :: fr) ρ sto h) (k : ∀ b x, b ≠ a → h.get? b = some x → h'.get? b = some x) : Rel0 hb ext (p :: fr) ρ sto h' := by
 obtain ⟨ps, frs, S, O, T⟩ := R.has
 have P : (frs ++ (ps ++ ((a, o) :: ext))).Perm ((a, o) :: (frs ++ (ps ++ ext))) := by
  rw [← List.append_assoc, ← List.append_assoc]
  exact List.perm_middle
 have T' := T.perm P
 have one := T'.one
 rw [List.map_cons, List.nodup_cons] at one
 have at' : ∀ q ∈ frs ++ (ps ++ ext), h'.get? q.1 = some q.2 := fun q hq => k q.1 q.2 (fun z => one.1 (List.mem_map.mpr ⟨q, hq, z⟩)) (T'.at_ q (List.mem_cons_of_mem _ hq))
 refine ⟨fun b x q => k b x (fun z => ?_) (R.keep b x q), ?_, R.above, ps, frs, S, O, at', fun q hq => T'.new q (List.mem_cons_of_mem _ hq), one.2⟩
 ·subst z
  have := T'.new (b, o) List.mem_cons_self
  rw [q] at this; cases this
 ·cases frs with
  | nil => exact O.elim
  | cons q frs =>
   have h1 := at' q (by simp)
   have h2 := R.above p List.mem_cons_self
   rw [← O.1] at h2
   exact Nat.le_trans h2 (Nat.le_of_lt (Heap.lt_size h1))
noncomputable abbrev Cx.with (c : Cx) (ext : List (Addr × Obj)) : Cx := { c with ext := ext }
theorem Cx.OK.with {c : Cx} {D : Nat} (h : c.OK D) (ext : List (Addr × Obj)) : (c.with ext).OK D := ⟨h.base, h.frames, h.link, h.handled, h.room, h.units, h.kind⟩
theorem Rel.ext_push {c : Cx} {ρ : List Addr} {loc : Ls} {sto : Sto} {h : Heap} (R : Rel c ρ loc sto h) (o : Obj) (hf : o.isFreed = false) : Rel (c.with ((h.objs.size, o) :: c.ext)) ρ loc sto (h.push o) := let ⟨m, a, b⟩ := R; ⟨m, a, b.ext_push o hf⟩
theorem Rel.ext_drop {c : Cx} {p : Addr × Obj} {ρ : List Addr} {loc : Ls} {sto : Sto} {h : Heap} (R : Rel (c.with (p :: c.ext)) ρ loc sto h) : Rel c ρ loc sto h := let ⟨m, a, b⟩ := R; ⟨m, a, b.ext_drop⟩
theorem Rel.ext_swap {c : Cx} {a : Addr} {o o' : Obj} {ρ : List Addr} {loc : Ls} {sto : Sto} {h h' : Heap} (R : Rel (c.with ((a, o) :: c.ext)) ρ loc sto h) (e : h'.get? a = some o') (k : ∀ b x, b ≠ a → h.get? b = some x → h'.get? b = some x) (hz : c.hb.objs.size ≤ h'.objs.size) : Rel (c.with ((a, o') :: c.ext)) ρ loc sto h' := let ⟨m, x, y⟩ := R; ⟨m, x, y.ext_swap e k hz⟩
theorem Rel.ext_lose {c : Cx} {a : Addr} {o : Obj} {ρ : List Addr} {loc : Ls} {sto : Sto} {h h' : Heap} (R : Rel (c.with ((a, o) :: c.ext)) ρ loc sto h) (k : ∀ b x, b ≠ a → h.get? b = some x → h'.get? b = some x) : Rel c ρ loc sto h' := let ⟨m, x, y⟩ := R; ⟨m, x, y.ext_lose k⟩
theorem Rel.ext_at {c : Cx} {a : Addr} {o : Obj} {ρ : List Addr} {loc : Ls} {sto : Sto} {h : Heap} (R : Rel (c.with ((a, o) :: c.ext)) ρ loc sto h) : h.get? a = some o ∧ c.hb.objs.size ≤ h.objs.size := by
 obtain ⟨m, _, R0⟩ := R
 obtain ⟨ps, frs, S, O, T⟩ := R0.has
 exact ⟨T.at_ (a, o) (by simp), R0.big⟩

noncomputable def Asg (c : Cx) (target : PySem.Expr) (x : V) (loc loc₁ : Ls) (sto : Sto) : Prop := ∀ (ext : List (Addr × Obj)) (ρ : List Addr) (val : Value), RV ρ x val → DoAt (c.with ext) ρ (assign target c.env val) loc sto (fun _ _ => True) loc₁ sto
noncomputable def BodyX (c : Cx) (b : List Stmt) (loc : Ls) (sto : Sto) (o : Out) (loc' : Ls) (sto' : Sto) : Prop := ∀ ext, Sx (c.with ext) (execs b c.env) loc sto o loc' sto'
noncomputable def ForLn (c : Cx) (target : PySem.Expr) (b : List Stmt) (v : V) (vs : List V) (o : Out) (loc' : Ls) (sto' : Sto) : Nat → Nat → Ls → Sto → Prop
 | 0, j, loc, sto => IsL c sto v vs ∧ vs[j]? = none ∧ o = .next ∧ loc = loc' ∧ sto = sto'
 | n + 1, j, loc, sto => IsL c sto v vs ∧ ∃ x loc₁ o' loc₂ sto₂, vs[j]? = some x ∧ Asg c target x loc loc₁ sto ∧ BodyX c b loc₁ sto o' loc₂ sto₂ ∧ After o (ForLn c target b v vs o loc' sto' n (j + 1) loc₂ sto₂) (loc₂ = loc' ∧ sto₂ = sto') o'
noncomputable def ForL (c : Cx) (target : PySem.Expr) (b : List Stmt) (v : V) (vs : List V) (j : Nat) (loc : Ls) (sto : Sto) (o : Out) (loc' : Ls) (sto' : Sto) : Prop := ∃ n, ForLn c target b v vs o loc' sto' n j loc sto
section
variable {c : Cx} {target : PySem.Expr} {b : List Stmt} {v : V} {vs : List V} {j : Nat} {loc loc₁ loc₂ loc₃ : Ls} {sto sto₂ sto₃ : Sto} {x u : V} {o : Out}
theorem ForL.done (q : IsL c sto v vs) (e : vs[j]? = none) : ForL c target b v vs j loc sto .next loc sto := ⟨0, q, e, rfl, rfl, rfl⟩
theorem ForL.next (q : IsL c sto v vs) (e : vs[j]? = some x) (a : Asg c target x loc loc₁ sto) (g : BodyX c b loc₁ sto .next loc₂ sto₂) (r : ForL c target b v vs (j + 1) loc₂ sto₂ o loc₃ sto₃) : ForL c target b v vs j loc sto o loc₃ sto₃ := ⟨r.choose + 1, q, x, loc₁, .next, loc₂, sto₂, e, a, g, r.choose_spec⟩
theorem ForL.cont (q : IsL c sto v vs) (e : vs[j]? = some x) (a : Asg c target x loc loc₁ sto) (g : BodyX c b loc₁ sto .cont loc₂ sto₂) (r : ForL c target b v vs (j + 1) loc₂ sto₂ o loc₃ sto₃) : ForL c target b v vs j loc sto o loc₃ sto₃ := ⟨r.choose + 1, q, x, loc₁, .cont, loc₂, sto₂, e, a, g, r.choose_spec⟩
theorem ForL.brk (q : IsL c sto v vs) (e : vs[j]? = some x) (a : Asg c target x loc loc₁ sto) (g : BodyX c b loc₁ sto .brk loc₂ sto₂) : ForL c target b v vs j loc sto .next loc₂ sto₂ := ⟨1, q, x, loc₁, .brk, loc₂, sto₂, e, a, g, rfl, rfl, rfl⟩
theorem ForL.ret (q : IsL c sto v vs) (e : vs[j]? = some x) (a : Asg c target x loc loc₁ sto) (g : BodyX c b loc₁ sto (.ret u) loc₂ sto₂) : ForL c target b v vs j loc sto (.ret u) loc₂ sto₂ := ⟨1, q, x, loc₁, .ret u, loc₂, sto₂, e, a, g, rfl, rfl, rfl⟩
theorem ForL.view (T : ForL c target b v vs j loc sto o loc₃ sto₃) : IsL c sto v vs ∧ ((vs[j]? = none ∧ o = .next ∧ loc = loc₃ ∧ sto = sto₃) ∨ ∃ x loc₁ o' loc₂ sto₂, vs[j]? = some x ∧ Asg c target x loc loc₁ sto ∧ BodyX c b loc₁ sto o' loc₂ sto₂ ∧ After o (ForL c target b v vs (j + 1) loc₂ sto₂ o loc₃ sto₃) (loc₂ = loc₃ ∧ sto₂ = sto₃) o') := by
 obtain ⟨n, T⟩ := T
 cases n with
 | zero => exact ⟨T.1, .inl T.2⟩
 | succ n =>
  obtain ⟨q, x, l, o', l', s', e, a, g, k⟩ := T
  refine ⟨q, .inr ⟨x, l, o', l', s', e, a, g, ?_⟩⟩
  cases o' <;> first | exact ⟨n, k⟩ | exact k
end
noncomputable def itObj (d : Option Addr) (sl : Array (Option Value)) (l : Addr) (j : Nat) : Obj := ⟨.type "list_iterator", d, .fields #[.ref l, .int j 0], sl⟩
theorem iter_obj {h : Heap} {a l : Addr} {j : Nat} (x : h.IsListIter a l j) : ∃ d sl, h.get? a = some (itObj d sl l j) := by
 obtain ⟨⟨c, d, dt, sl⟩, e, hc, hd⟩ := x
 dsimp only at hc hd
 subst hc; subst hd
 exact ⟨d, sl, e⟩
noncomputable abbrev NoSet (e : PySem.Expr) : Prop := foldedSetIterable e = fun _ x => pure x
section
variable {c : Cx} {D : Nat} {loc loc₁ loc₂ : Ls} {sto sto₁ sto₂ : Sto} {o : Out}
noncomputable def LetOK (target : PySem.Expr) : Prop := ∀ {it l : Addr} {j : Nat} {v : Value} {w : World} {A : Around} {s : Shared} {E : Value → Shared → Prop} {Q : Unit → Shared → Prop}, s.heap.IsListIter it l j → Q () s → wpAny (model pw w) A (letOwnedTupleGo target (.ref it) v) Q E s
theorem letOK_name {n : PySem.Str} {p : Pos} : LetOK (.Name n p) := fun _ h => wpAny_pure h
theorem letOK_tup {l : List PySem.Expr} {k : Nat} {p : Pos} : LetOK (.Tuple l k p) := fun {_ _ _ v _ _ _ _ _} hit h => by
 cases v with
 | ref a => exact wpAny_letOwnedTupleGo_listiter hit h
 | _ => exact wpAny_pure h
theorem Post.with {p : Addr × Obj} {ρ : List Addr} {s : Shared} {Q : Flow → Shared → Prop} {E : Value → Shared → Prop} (P : Post c o loc sto ρ s Q E) : Post (c.with (p :: c.ext)) o loc sto ρ s Q E := by
 cases o with
 | next => exact fun s' ρ' a b => P s' ρ' a b.ext_drop
 | brk => exact fun s' ρ' a b => P s' ρ' a b.ext_drop
 | cont => exact fun s' ρ' a b => P s' ρ' a b.ext_drop
 | ret v => exact fun s' ρ' val a r b => P s' ρ' val a r b.ext_drop
 | exc C => exact fun s' ρ' h' e a b => P s' ρ' h' e a b.ext_drop
theorem sub_lt_sub {j n : Nat} (h : j < n) : n - (j + 1) < n - j := Nat.sub_succ_lt_self n j h
theorem item_turn {target : PySem.Expr} {b : List Stmt} {x : V} {la l₁ l₂ : Ls} {sa s₂ : Sto} {o' : Out} {p : Addr × Obj} (a : Asg c target x la l₁ sa) (g : BodyX c b l₁ sa o' l₂ s₂) {E E' : Value → Shared → Prop} (pe : PassesOwn c.M c.A c.env E) {K : Flow → Shared → Prop} {ρ : List Addr} {val : Value} {s : Shared} (rx : RV ρ x val) (R : Rel (c.with (p :: c.ext)) ρ la sa s.heap) (hK : ∀ s₄ ρ₄, Pfx ρ ρ₄ → Same s s₄ → Post (c.with (p :: c.ext)) o' l₂ s₂ ρ₄ s₄ K E) :
  wpAny c.M c.A (assign target c.env val) (fun _ s₂ => wpAny c.M c.A (execs b c.env) K (notedBy c.M c.A c.env fun e s' => cameBackBy c.M c.A c.env E e s') s₂) E' s :=
 a (p :: c.ext) ρ val rx s E' _ R fun s₄ ρ₄ _ p₄ _ R₄ m₄ => wpAny_passesOwn pe (g (p :: c.ext) ρ₄ s₄ K E R₄ pe (hK s₄ ρ₄ p₄ m₄))
noncomputable abbrev ForI (c : Cx) (target : PySem.Expr) (b : List Stmt) (v : V) (vs : List V) (o : Out) (loc₂ : Ls) (sto₂ : Sto) (it l : Addr) (ρ : List Addr) (s : Shared) (n : Nat) (s₃ : Shared) : Prop := ∃ j la sa ρ₃ d sl, n = vs.length - j ∧ ForL c target b v vs j la sa o loc₂ sto₂ ∧ Rel (c.with ((it, itObj d sl l j) :: c.ext)) ρ₃ la sa s₃.heap ∧ Pfx ρ ρ₃ ∧ RV ρ₃ v (.ref l) ∧ Same s s₃
theorem sx_for_list (hc : c.OK D) {target iter : PySem.Expr} {b : List Stmt} {pos : Pos} {v : V} {vs : List V} (ht : LetOK target) (hi : NoSet iter) (h : Ev c iter loc sto v sto₁) (q0 : IsL c sto₁ v vs) (T : ForL c target b v vs 0 loc sto₁ o loc₂ sto₂) :
  Sx c (exec (.For target iter b [] pos) c.env) loc sto o loc₂ sto₂ := fun ρ s Q E R pe P => by
 refine wpAny_For (h ρ s E _ R fun s₁ ρ₁ x p₁ rx R₁ m₁ => ?_) (fun x => congrFun (congrFun hi _) x)
 obtain ⟨l, items, rfl, il, rs⟩ := q0.at hc R₁ rx
 refine wpAny_pyIter_list il ?_
 have R₂ := R₁.ext_push (itObj none #[] l 0) rfl
 generalize hit : s₁.heap.objs.size = it at R₂ ⊢
 refine codeAny_forLoop_any (I := ForI c target b v vs o loc₂ sto₂ it l ρ s) ?_ (vs.length - 0) ⟨0, loc, sto₁, ρ₁, none, #[], rfl, T, R₂, p₁, rx, ⟨m₁.gens, m₁.os⟩⟩
 intro n s₃ hI
 refine of_imp fun G hG => ?_
 obtain ⟨j, la, sa, ρ₃, d, sl, hn, T, R₃, p₃, rv, m₃⟩ := hI
 have T := T.view
 have hz := R₃.ext_at
 have hiter : s₃.heap.IsListIter it l j := ⟨_, hz.1, rfl, rfl⟩
 obtain ⟨l', items₃, e₃, il₃, rs₃⟩ := IsL.at (c := c.with _) (hc.with _) R₃ T.1 rv
 obtain rfl : l = l' := Value.ref.inj e₃
 rcases T.2 with T | ⟨x, l₁, o', l₂, sb, e, a, g, k⟩
 ·have hn : items₃.toArray[j]? = none := by
   have := List.getElem?_eq_none_iff.mp T.1
   rw [rs₃.length] at this
   simpa using this
  exact hG (wpAny_pyNext_list_end hc.handled hiter il₃ hn fun h' eb => wpAny_execs_nil ((P.pre p₃ m₃).done T.2 { s₃ with heap := h' } ρ₃ (Pfx.refl ρ₃) (R₃.ext_lose eb) ⟨rfl, rfl⟩))
 ·have hlt : vs.length - (j + 1) < vs.length - j := sub_lt_sub (List.getElem?_eq_some_iff.mp e).1
  obtain ⟨y, ey, ry⟩ := rs₃.get j x e
  refine hG (wpAny_pyNext_list_item hiter il₃ (x := y) (by simpa using ey) fun h' hi' sb => ?_)
  refine of_imp fun G hG => ?_
  obtain ⟨d', sl', e'⟩ := iter_obj hi'
  exact hG (ht hi' (item_turn a g pe ry (R₃.ext_swap e' (fun b x hn e => (sb.2 b hn).trans e) (sb.1 ▸ hz.2)) fun s₄ ρ₄ p₄ m₄ =>
   Post.turn k (fun T s₅ ρ₅ p₅ R₅ m₅ => ⟨_, hn ▸ hlt, j + 1, _, _, ρ₅, d', sl', rfl, T, R₅, p₃.trans (p₄.trans p₅), rv.mono (p₄.trans p₅), m₃.trans (Same.trans ⟨m₄.gens, m₄.os⟩ m₅)⟩) fun h => (((P.pre p₃ m₃).pre p₄ ⟨m₄.gens, m₄.os⟩).at h).with))
end
end
section
noncomputable def ForRn (c : Cx) (target : PySem.Expr) (b : List Stmt) (st : Int) (o : Out) (loc' : Ls) (sto' : Sto) : Nat → Int → Int → Ls → Sto → Prop
 | 0, x, left, loc, sto => left ≤ 0 ∧ o = .next ∧ loc = loc' ∧ sto = sto'
 | n + 1, x, left, loc, sto => 0 < left ∧ ∃ loc₁ o' loc₂ sto₂, Asg c target (.i x) loc loc₁ sto ∧ BodyX c b loc₁ sto o' loc₂ sto₂ ∧ After o (ForRn c target b st o loc' sto' n (x + st) (left - 1) loc₂ sto₂) (loc₂ = loc' ∧ sto₂ = sto') o'
noncomputable def ForR (c : Cx) (target : PySem.Expr) (b : List Stmt) (st : Int) (x left : Int) (loc : Ls) (sto : Sto) (o : Out) (loc' : Ls) (sto' : Sto) : Prop := ∃ n, ForRn c target b st o loc' sto' n x left loc sto
section
variable {c : Cx} {target : PySem.Expr} {b : List Stmt} {st x left : Int} {loc loc₁ loc₂ loc₃ : Ls} {sto sto₂ sto₃ : Sto} {o : Out}
theorem ForR.done (e : left ≤ 0) : ForR c target b st x left loc sto .next loc sto := ⟨0, e, rfl, rfl, rfl⟩
theorem ForR.done' (e : left ≤ 0) (h1 : loc = loc₁) (h2 : sto = sto₂) : ForR c target b st x left loc sto .next loc₁ sto₂ := ⟨0, e, rfl, h1, h2⟩
theorem ForR.next (e : 0 < left) (a : Asg c target (.i x) loc loc₁ sto) (g : BodyX c b loc₁ sto .next loc₂ sto₂) (r : ForR c target b st (x + st) (left - 1) loc₂ sto₂ o loc₃ sto₃) : ForR c target b st x left loc sto o loc₃ sto₃ := ⟨r.choose + 1, e, loc₁, .next, loc₂, sto₂, a, g, r.choose_spec⟩
theorem ForR.cont (e : 0 < left) (a : Asg c target (.i x) loc loc₁ sto) (g : BodyX c b loc₁ sto .cont loc₂ sto₂) (r : ForR c target b st (x + st) (left - 1) loc₂ sto₂ o loc₃ sto₃) : ForR c target b st x left loc sto o loc₃ sto₃ := ⟨r.choose + 1, e, loc₁, .cont, loc₂, sto₂, a, g, r.choose_spec⟩
theorem ForR.brk (e : 0 < left) (a : Asg c target (.i x) loc loc₁ sto) (g : BodyX c b loc₁ sto .brk loc₂ sto₂) : ForR c target b st x left loc sto .next loc₂ sto₂ := ⟨1, e, loc₁, .brk, loc₂, sto₂, a, g, rfl, rfl, rfl⟩
theorem ForR.view (T : ForR c target b st x left loc sto o loc₃ sto₃) : (left ≤ 0 ∧ o = .next ∧ loc = loc₃ ∧ sto = sto₃) ∨ 0 < left ∧ ∃ loc₁ o' loc₂ sto₂, Asg c target (.i x) loc loc₁ sto ∧ BodyX c b loc₁ sto o' loc₂ sto₂ ∧ After o (ForR c target b st (x + st) (left - 1) loc₂ sto₂ o loc₃ sto₃) (loc₂ = loc₃ ∧ sto₂ = sto₃) o' := by
 obtain ⟨n, T⟩ := T
 cases n with
 | zero => exact .inl T
 | succ n =>
  obtain ⟨e, l, o', l', s', a, g, k⟩ := T
  refine .inr ⟨e, l, o', l', s', a, g, ?_⟩
  cases o' <;> first | exact ⟨n, k⟩ | exact k
end
noncomputable def rObj (x left st : Int) : Obj := { cls := .type "range_iterator", dict := none, data := .fields #[rawInt x, rawInt left, rawInt st], slots := #[] }
section
variable {c : Cx} {D : Nat} {loc loc₁ loc₂ : Ls} {sto sto₁ sto₂ : Sto} {o : Out}
noncomputable def Rng (c : Cx) (iter : PySem.Expr) (loc : Ls) (sto : Sto) (a b st : Int) (sto' : Sto) : Prop :=
 ∀ (ρ : List Addr) (s : Shared) (E : Value → Shared → Prop) (Q : Value → Shared → Prop), Rel c ρ loc sto s.heap → (∀ s' ρ' r t u v, Pfx ρ ρ' → IsRange s'.heap r a b st t u v → Rel c ρ' loc sto' s'.heap → Same s s' → Q (.ref r) s') → wpAny c.M c.A (eval iter c.env) Q E s
noncomputable abbrev ForRI (c : Cx) (target : PySem.Expr) (b : List Stmt) (st : Int) (o : Out) (loc₂ : Ls) (sto₂ : Sto) (it : Addr) (ρ : List Addr) (s : Shared) (k : Nat) (s₃ : Shared) : Prop := ∃ x left la sa ρ₃, k = left.toNat ∧ ForR c target b st x left la sa o loc₂ sto₂ ∧ Rel (c.with ((it, rObj x left st) :: c.ext)) ρ₃ la sa s₃.heap ∧ Pfx ρ ρ₃ ∧ Same s s₃
theorem pred_lt {left : Int} (h : 0 < left) : (left - 1).toNat < left.toNat := (Int.toNat_lt_toNat h).mpr (Int.sub_one_lt_of_le (Int.le_refl left))
theorem sx_for_range (hc : c.OK D) {n : PySem.Str} {np : Pos} {iter : PySem.Expr} {b : List Stmt} {pos : Pos} {x y st : Int} (hi : NoSet iter) (h : Rng c iter loc sto x y st sto₁) (hsmall : Builtin.Range.small x y st = true)
  (T : ForR c (.Name n np) b st x (Builtin.Range.rangeSize x y st) loc sto₁ o loc₂ sto₂) :
  Sx c (exec (.For (.Name n np) iter b [] pos) c.env) loc sto o loc₂ sto₂ := fun ρ s Q E R pe P => by
 refine wpAny_For (h ρ s E _ R fun s₁ ρ₁ r t u v p₁ hr R₁ m₁ => ?_) (fun x => congrFun (congrFun hi _) x)
 refine wpAny_pyIter_range hr hsmall ?_
 have R₂ := R₁.ext_push (rObj x (Builtin.Range.rangeSize x y st) st) rfl
 generalize hit : s₁.heap.objs.size = it at R₂ ⊢
 generalize Builtin.Range.rangeSize x y st = left at T R₂ ⊢
 refine codeAny_forLoop_any (I := ForRI c (.Name n np) b st o loc₂ sto₂ it ρ s) ?_ left.toNat ⟨x, left, loc, sto₁, ρ₁, rfl, T, R₂, p₁, ⟨m₁.gens, m₁.os⟩⟩
 intro k s₃ hI
 refine of_imp fun G hG => ?_
 obtain ⟨x, left, la, sa, ρ₃, hn, T, R₃, p₃, m₃⟩ := hI
 have hz := R₃.ext_at
 rcases T.view with T | ⟨hl, l₁, o', l₂, sb, a, g, q⟩
 ·exact hG (wpAny_pyNext_range_end hc.handled hz.1 T.1 fun h' eb => wpAny_execs_nil ((P.pre p₃ m₃).done T.2 { s₃ with heap := h' } ρ₃ (Pfx.refl ρ₃) (R₃.ext_lose eb) ⟨rfl, rfl⟩))
 ·exact hG (wpAny_pyNext_range_item hz.1 hl fun h' e' sb => wpAny_pure (item_turn a g pe (⟨_, rfl⟩ : RV ρ₃ (.i x) (.int x _)) (R₃.ext_swap e' (fun b x hn e => (sb.2 b hn).trans e) (sb.1 ▸ hz.2)) fun s₄ ρ₄ p₄ m₄ =>
   Post.turn q (fun T s₅ ρ₅ p₅ R₅ m₅ => ⟨_, hn ▸ pred_lt hl, x + st, left - 1, _, _, ρ₅, rfl, T, R₅, p₃.trans (p₄.trans p₅), m₃.trans (Same.trans ⟨m₄.gens, m₄.os⟩ m₅)⟩) fun h => (((P.pre p₃ m₃).pre p₄ ⟨m₄.gens, m₄.os⟩).at h).with))


theorem callWith_type_go (hc : c.OK D) {l : List PySem.Expr} {vs : List V} {T : String} {pos : Pos} {ρ : List Addr} {s : Shared} {E : Value → Shared → Prop} {Q : Value → Shared → Prop} (hs : NoStar l) (hne : l ≠ []) (h : EvL c l loc sto vs sto₁) (R : Rel c ρ loc sto s.heap)
  (k : ∀ s' ρ' xs, Pfx ρ ρ' → RVs ρ' vs xs → Rel c ρ' loc sto₁ s'.heap → Same s s' → wpAny c.M c.A (call (.type T) xs) Q E s') : wpAny c.M c.A (callWith pos (.type T) [] (backTo pos (starEach l c.env)) []) Q E s := by
 rw [star_map pos c.env hs]
 cases l with
 | nil => exact absurd rfl hne
 | cons e r =>
  refine PyProof.Rows.callWith_type (by simp) (evalArgs_plain (h ρ s E _ R fun s' ρ' xs p rx R' m => k s' ρ' xs p rx R' m))
theorem rng2 (hc : c.OK D) {x : PySem.Str} (ok : BuiltinOK c.w.params x (.type "range")) (hk : c.scope.names.lookup x = some .globalImplicit) {e e' : PySem.Expr} {np pos : Pos} {i j : Int} (hs : NoStar [e, e']) (h : EvL c [e, e'] loc sto [.i i, .i j] sto₁) :
  Rng c (.Call (.Name x np) [e, e'] [] pos) loc sto i j 1 sto₁ := fun ρ s E Q R f => by
 rw [arm_eval_Call_Name']
 refine wpAny_bind (name_builtin hc ok hk R ?_)
 refine callWith_type_go hc hs (by simp) h R fun s' ρ' xs p rx R' m => ?_
 obtain ⟨a, b, rfl, ⟨t, ha⟩, ⟨u, hb⟩⟩ := RVs.two rx
 subst ha; subst hb
 exact call_range_2 (f _ ρ' _ _ _ _ p (Heap.get?_push_size _ rfl) (R'.push _) ⟨m.gens, m.os⟩)
theorem rng1 (hc : c.OK D) {x : PySem.Str} (ok : BuiltinOK c.w.params x (.type "range")) (hk : c.scope.names.lookup x = some .globalImplicit) {e : PySem.Expr} {np pos : Pos} {j : Int} (hs : NoStar [e]) (h : EvL c [e] loc sto [.i j] sto₁) :
  Rng c (.Call (.Name x np) [e] [] pos) loc sto 0 j 1 sto₁ := fun ρ s E Q R f => by
 rw [arm_eval_Call_Name']
 refine wpAny_bind (name_builtin hc ok hk R ?_)
 refine callWith_type_go hc hs (by simp) h R fun s' ρ' xs p rx R' m => ?_
 obtain ⟨a, rfl, ⟨t, ha⟩⟩ := RVs.one rx
 subst ha
 exact call_range_1 (f _ ρ' _ _ _ _ p (Heap.get?_push_size _ rfl) (R'.push _) ⟨m.gens, m.os⟩)
theorem rng3 (hc : c.OK D) {x : PySem.Str} (ok : BuiltinOK c.w.params x (.type "range")) (hk : c.scope.names.lookup x = some .globalImplicit) {e e' e'' : PySem.Expr} {np pos : Pos} {i j : Int} (hs : NoStar [e, e', e'']) (h : EvL c [e, e', e''] loc sto [.i i, .i j, .i (-1)] sto₁) (hb : -100000 ≤ i ∧ i ≤ 100000 ∧ -100000 ≤ j ∧ j ≤ 100000) :
  Rng c (.Call (.Name x np) [e, e', e''] [] pos) loc sto i j (-1) sto₁ := fun ρ s E Q R f => by
 rw [arm_eval_Call_Name']
 refine wpAny_bind (name_builtin hc ok hk R ?_)
 refine callWith_type_go hc hs (by simp) h R fun s' ρ' xs p rx R' m => ?_
 obtain ⟨a, b, d, rfl, ⟨t, ha⟩, ⟨u, hb'⟩, ⟨v, hd⟩⟩ := RVs.three rx
 subst ha; subst hb'; subst hd
 exact call_range_3 (by decide) (f _ ρ' _ _ _ _ p (Heap.get?_push_size _ rfl) (R'.push _) ⟨m.gens, m.os⟩) (Or.inl (PyProof.noPylong_small (by lia)))
theorem small1 {a b : Int} (h : -100000 ≤ a ∧ a ≤ 100000 ∧ -100000 ≤ b ∧ b ≤ 100000) : Builtin.Range.small a b 1 = true := by
 obtain ⟨h1, h2, h3, h4⟩ := h
 have e : Builtin.Range.rangeSize a b 1 = if a < b then b - a else 0 := by
  unfold Builtin.Range.rangeSize
  rw [if_pos (by decide)]
  split <;> lia
 have hf : ∀ i : Int, -300000 ≤ i → i ≤ 300000 → Builtin.Range.rangeFitsLong i = true := fun i a b => by
  unfold Builtin.Range.rangeFitsLong
  rw [Bool.and_eq_true]
  exact ⟨decide_eq_true (by lia), decide_eq_true (by lia)⟩
 unfold Builtin.Range.small
 rw [e, hf a (by lia) (by lia), hf b (by lia) (by lia), hf 1 (by lia) (by lia), hf (if a < b then b - a else 0) (by split <;> lia) (by split <;> lia), if_pos (show (1 : Int) > 0 by decide), hf (b + (1 - 1)) (by lia) (by lia)]
 simp
theorem small_neg {a b : Int} (h : -100000 ≤ a ∧ a ≤ 100000 ∧ -100000 ≤ b ∧ b ≤ 100000) : Builtin.Range.small a b (-1) = true := by
 obtain ⟨h1, h2, h3, h4⟩ := h
 have e : Builtin.Range.rangeSize a b (-1) = if a > b then a - b else 0 := by
  unfold Builtin.Range.rangeSize
  rw [if_neg (by decide)]
  split
  ·rw [show (-(-1 : Int)) = 1 by decide, Int.ediv_one]; lia
  ·rfl
 have hf : ∀ i : Int, -300000 ≤ i → i ≤ 300000 → Builtin.Range.rangeFitsLong i = true := fun i a b => by
  unfold Builtin.Range.rangeFitsLong
  rw [Bool.and_eq_true]
  exact ⟨decide_eq_true (by lia), decide_eq_true (by lia)⟩
 unfold Builtin.Range.small
 rw [e, hf a (by lia) (by lia), hf b (by lia) (by lia), hf (-1) (by lia) (by lia), hf (if a > b then a - b else 0) (by split <;> lia) (by split <;> lia), if_neg (show ¬ (-1 : Int) > 0 by decide), hf (b + (-1 + 1)) (by lia) (by lia)]
 simp
/-! ### targets -/
theorem asg_name (hc : c.OK D) {x : PySem.Str} {p : Pos} {v : V} (hk : c.scope.names.lookup x = some .local) : Asg c (.Name x p) v loc (put x.cps.toList v loc) sto := fun ext ρ val rv s E Q R f =>
 wpAny_assign_Name (do_store (c := c.with ext) (hc.with ext) rv hk s E Q R f)
end
end
section
section
variable {c : Cx} {D : Nat} {loc loc₁ loc₂ : Ls} {sto sto₁ sto₂ : Sto} {o : Out}
theorem Opened.new {hb : Heap} {ext : List (Addr × Obj)} {L : Addr} {m : PySem.Str → Option Value} {ofr : Frames} {ρ : List Addr} {sto : Sto} {h h' : Heap} {ps frs q : List (Addr × Obj)} {x : Addr} {ob : Ob} (above : ∀ p ∈ ofr, hb.objs.size ≤ p.1) (X : Opened hb ext L m ofr ρ sto h ps frs)
  (F : Fr hb L h' m) (N : News hb L h' (q ++ (ps ++ (ext ++ frs)))) (hq : (q.map (·.1)).Nodup) (hn : ∀ a ∈ q, h.objs.size ≤ a.1) (r : RO (ρ ++ [x]) x ob q) : Rel0 hb ext ((L, m) :: ofr) (ρ ++ [x]) (sto ++ [ob]) h' := by
 refine Opened.close (ps := ps ++ q) (frs := frs) above ⟨F, fun p hp => N p ?_, ?_, X.O, ?_⟩
 ·rw [List.append_assoc] at hp
  rcases List.mem_append.mp hp with hp | hp
  ·exact List.mem_append_right _ (List.mem_append_left _ hp)
  ·rcases List.mem_append.mp hp with hp | hp
   ·exact List.mem_append_left _ hp
   ·exact List.mem_append_right _ (List.mem_append_right _ hp)
 ·exact (X.S.mono (Pfx.app ρ [x])).app ⟨q, [], by simp, r, rfl⟩
 ·have P : ((ps ++ q) ++ (ext ++ frs)).Perm (q ++ (ps ++ (ext ++ frs))) := by
   rw [← List.append_assoc q]
   exact List.Perm.append_right _ List.perm_append_comm
  refine (P.map _).nodup_iff.mpr ?_
  rw [List.map_append]
  refine List.nodup_append.mpr ⟨hq, X.one, fun a ha b hb e => ?_⟩
  obtain ⟨p, hp, rfl⟩ := List.mem_map.mp ha
  obtain ⟨r, hr, rfl⟩ := List.mem_map.mp hb
  have h1 := hn p hp
  have h2 := Heap.lt_size (X.N r hr).1
  rw [e] at h1
  exact absurd h2 (Nat.not_lt.mpr h1)
theorem size_ok {n : Nat} (h : n ≤ 100000) : n ≤ sizeLine := by rw [sizeLine_eq]; lia
theorem do_newList {ρ : List Addr} {vs : List V} {xs : List Value} (rx : RVs ρ vs xs) (hz : vs.length ≤ 100000) : DoAt c ρ (newList xs) loc sto (fun ρ x => RV ρ (.d sto.length) x) loc (sto ++ [.list vs]) := fun s E Q R f => by
 have ab := R.above
 obtain ⟨m, RLx, R0⟩ := id R
 obtain ⟨ps, frs, X⟩ := R0.open
 have hl := X.S.length
 refine newList_N X.F X.N (fun h' F' N' => f _ (ρ ++ [s.heap.objs.size]) _ (Pfx.app _ _) ⟨s.heap.objs.size, ?_, rfl⟩ ⟨m, RLx.mono (Pfx.app _ _), X.new (q := [(s.heap.objs.size, _)]) ab F' N' (by simp) (fun a ha => by rw [List.mem_singleton.mp ha]; exact Nat.le_refl _) ⟨xs, 0, rx.mono (Pfx.app _ _), rfl⟩⟩ ⟨rfl, rfl⟩) (by rw [← rx.length]; exact size_ok hz)
 rw [hl, List.getElem?_append_right (Nat.le_refl _), Nat.sub_self]; rfl
theorem do_newTuple {ρ : List Addr} {vs : List V} {xs : List Value} (rx : RVs ρ vs xs) (hz : vs.length ≤ 100000) : DoAt c ρ (newTuple xs) loc sto (fun ρ x => RV ρ (.d sto.length) x) loc (sto ++ [.tup vs]) := fun s E Q R f => by
 have ab := R.above
 obtain ⟨m, RLx, R0⟩ := id R
 obtain ⟨ps, frs, X⟩ := R0.open
 have hl := X.S.length
 refine newTuple_N X.F X.N (fun h' F' N' => f _ (ρ ++ [s.heap.objs.size]) _ (Pfx.app _ _) ⟨s.heap.objs.size, ?_, rfl⟩ ⟨m, RLx.mono (Pfx.app _ _), X.new (q := [(s.heap.objs.size, _)]) ab F' N' (by simp) (fun a ha => by rw [List.mem_singleton.mp ha]; exact Nat.le_refl _) ⟨xs, 0, rx.mono (Pfx.app _ _), rfl⟩⟩ ⟨rfl, rfl⟩) (by rw [← rx.length]; exact size_ok hz)
 rw [hl, List.getElem?_append_right (Nat.le_refl _), Nat.sub_self]; rfl
theorem ev_list {l : List PySem.Expr} {vs : List V} {pos : Pos} (hs : NoStar l) (h : EvL c l loc sto vs sto₁) (hz : vs.length ≤ 100000) : Ev c (.List l pos) loc sto (.d sto₁.length) (sto₁ ++ [.list vs]) := fun ρ s E Q R f => by
 refine List_ ?_
 rw [star_map pos c.env hs]
 exact h ρ s E _ R fun s₁ ρ₁ xs p₁ rx R₁ m₁ => do_newList rx hz s₁ E Q R₁ fun s₂ ρ₂ x p₂ r R₂ m₂ => f s₂ ρ₂ x (p₁.trans p₂) r R₂ (m₁.trans m₂)
theorem ev_tuple {l : List PySem.Expr} {vs : List V} {k : Nat} {pos : Pos} (hs : NoStar l) (h : EvL c l loc sto vs sto₁) (hz : vs.length ≤ 100000) : Ev c (.Tuple l k pos) loc sto (.d sto₁.length) (sto₁ ++ [.tup vs]) := fun ρ s E Q R f => by
 refine Tuple_ ?_
 rw [star_map pos c.env hs]
 exact h ρ s E _ R fun s₁ ρ₁ xs p₁ rx R₁ m₁ => do_newTuple rx hz s₁ E Q R₁ fun s₂ ρ₂ x p₂ r R₂ m₂ => f s₂ ρ₂ x (p₁.trans p₂) r R₂ (m₁.trans m₂)
theorem add_L (hc : c.OK D) {u v : V} {us vs : List V} (qu : IsL c sto u us) (qv : IsL c sto v vs) (hz : us.length + vs.length ≤ 100000) : Op2 c (binaryOp .Add) u v (.d sto.length) loc sto (sto ++ [.list (us ++ vs)]) := fun ρ a b ra rb s E Q R f => by
 obtain ⟨la, ia, rfl, il, rs⟩ := qu.at hc R ra
 obtain ⟨lb, ib, rfl, il', rs'⟩ := qv.at hc R rb
 have ab := R.above
 obtain ⟨m, RLx, R0⟩ := id R
 obtain ⟨ps, frs, X⟩ := R0.open
 have hl := X.S.length
 refine add_lists X.F X.N il il' (fun h' F' N' => f _ (ρ ++ [s.heap.objs.size]) _ (Pfx.app _ _) ⟨s.heap.objs.size, ?_, rfl⟩ ⟨m, RLx.mono (Pfx.app _ _), X.new (q := [(s.heap.objs.size, _)]) ab F' N' (by simp) (fun a ha => by rw [List.mem_singleton.mp ha]; exact Nat.le_refl _) ⟨ia ++ ib, 0, (rs.app rs').mono (Pfx.app _ _), rfl⟩⟩ ⟨rfl, rfl⟩) (by rw [← rs.length, ← rs'.length]; exact size_ok hz)
 rw [hl, List.getElem?_append_right (Nat.le_refl _), Nat.sub_self]; rfl

/-! ### a tuple to two names -/
theorem asg_two (hc : c.OK D) {x y : PySem.Str} {px py pos : Pos} {k : Nat} {v a b : V} (hx : c.scope.names.lookup x = some .local) (hy : c.scope.names.lookup y = some .local) (q : IsT c sto v [a, b]) :
  Asg c (.Tuple [.Name x px, .Name y py] k pos) v loc (put y.cps.toList b (put x.cps.toList a loc)) sto := fun ext ρ val rv s E Q R f => by
 obtain ⟨t, items, rfl, it, rs⟩ := IsT.at (c := c.with ext) (hc.with ext) R q rv
 have ab := R.above
 obtain ⟨m, RLx, R0⟩ := id R
 obtain ⟨ps, frs, X⟩ := R0.open
 obtain ⟨u, w, rfl, ru, rw'⟩ := RVs.two rs
 refine unpackN_ X.F X.N it hc.handled rfl rfl fun h' F' N' => ?_
 have R' : Rel (c.with ext) ρ loc sto h' := ⟨m, RLx, Opened.close (ps := ps) (frs := frs) ab ⟨F', N', X.S, X.O, X.one⟩⟩
 show wpAny c.M c.A (holding [w] (assign (.Name x px) c.env u) >>= fun _ => assignInOrder [assign (.Name y py) c.env] [w]) Q E _
 refine wpAny_bind (wpAny_holding (asg_name hc hx ext ρ u ru _ E _ R' fun s₁ ρ₁ _ p₁ _ R₁ m₁ => ?_))
 show wpAny c.M c.A (holding [] (assign (.Name y py) c.env w) >>= fun _ => assignInOrder [] []) Q E _
 refine wpAny_bind (wpAny_holding (asg_name hc hy ext ρ₁ w (rw'.mono p₁) s₁ E _ R₁ fun s₂ ρ₂ _ p₂ _ R₂ m₂ => wpAny_pure ?_))
 exact f s₂ ρ₂ () (p₁.trans p₂) trivial R₂ ⟨(m₁.trans m₂).gens, (m₁.trans m₂).os⟩
theorem sx_assign_two (hc : c.OK D) {e : PySem.Expr} {x y : PySem.Str} {px py tp pos : Pos} {k : Nat} {v a b : V} (hcomp : NoComp e) (hnt : swappedStores [.Tuple [.Name x px, .Name y py] k tp] e = fun _ => pure none) (h : Ev c e loc sto v sto₁) (hx : c.scope.names.lookup x = some .local) (hy : c.scope.names.lookup y = some .local) (q : IsT c sto₁ v [a, b]) :
  Sx c (exec (.Assign [.Tuple [.Name x px, .Name y py] k tp] e pos) c.env) loc sto .next (put y.cps.toList b (put x.cps.toList a loc)) sto₁ := fun ρ s Q E R pe P => by
 refine Assign_Tuple (h ρ s E _ R fun s₁ ρ₁ val p₁ rv R₁ m₁ => asg_two hc hx hy q c.ext ρ₁ val rv s₁ E _ R₁ fun s₂ ρ₂ _ p₂ _ R₂ m₂ => P s₂ ρ₂ (p₁.trans p₂) R₂ (m₁.trans m₂)) (by unfold swapsWithSole; exact swaps_of hcomp _ _ _) (congrFun hnt _)
end
end
section
section
variable {c : Cx} {D : Nat} {loc loc₁ loc₂ : Ls} {sto sto₁ sto₂ : Sto} {o : Out}
noncomputable def endsW (l r : List Nat) : Bool := Nat.ble r.length l.length && eqK (l.drop (l.length - r.length)) r
theorem ends_eq (l r : List Nat) : PySem.Txt.endswith ⟨l.toArray⟩ ⟨r.toArray⟩ = endsW l r := by
 unfold PySem.Txt.endswith endsW
 rw [StrLaws.subAt_eq, len_mk, len_mk, toList_mk, toList_mk, Nat.zero_add]
 by_cases h : r.length ≤ l.length
 ·rw [decide_eq_true h, show Nat.ble r.length l.length = true from Nat.ble_eq.mpr h, Bool.true_and, Bool.true_and]
  rw [List.take_of_length_le (by rw [List.length_drop]; lia)]
  cases q : eqK (l.drop (l.length - r.length)) r with
  | true => rw [eqK_iff.mp q, beq_self_eq_true]
  | false => exact beq_eq_false_iff_ne.mpr fun e => by rw [eqK_iff.mpr e] at q; cases q
 ·have h2 : Nat.ble r.length l.length = false := by
   cases q : Nat.ble r.length l.length with
   | false => rfl
   | true => exact absurd (Nat.ble_eq.mp q) h
  rw [decide_eq_false h, h2, Bool.false_and, Bool.false_and]
noncomputable abbrev PlainBase (e : PySem.Expr) : Prop := attributeBase e = fun _ _ t => t
theorem ev_bmeth {e : PySem.Expr} {name : PySem.Str} {id : String} {apos pos : Pos} {l : List PySem.Expr} {v r : V} {vs : List V} (hb : PlainBase e) (hs : NoStar l) (hne : l ≠ []) (hlen : l.length < 30) (hline : (apos.endLine == pos.line) = true)
  (h : Ev c e loc sto v sto₁)
  (hm : ∀ ρ a s E (Q : Value × List Value → Shared → Prop) pl, RV ρ v a → Rel c ρ loc sto₁ s.heap → Q (.builtin id, [a]) s → wpAny c.M c.A (getMethod a name pl) Q E s)
  (g : EvL c l loc sto₁ vs sto₂) {sto₃ : Sto} (hc : ∀ ρ a xs, RV ρ v a → RVs ρ vs xs → DoAt c ρ (call (.builtin id) (a :: xs)) loc sto₂ (fun ρ x => RV ρ r x) loc sto₃) :
  Ev c (.Call (.Attribute e name apos) l [] pos) loc sto r sto₃ := fun ρ s E Q R f => by
 rw [arm_eval_Call, hb]
 refine wpAny_bind (h ρ s E _ R fun s₁ ρ₁ a p₁ ra R₁ m₁ => wpAny_bind (wpAny_standAt (methodCall_go hs hlen hline fun pl => ?_)))
 refine hm ρ₁ a s₁ E _ pl ra R₁ ?_
 rw [star_map pos c.env hs]
 cases l with
 | nil => exact absurd rfl hne
 | cons x r =>
  refine callWith_builtin (by simp) (evalArgs_plain (g ρ₁ s₁ E _ R₁ fun s₂ ρ₂ xs p₂ rx R₂ m₂ => ?_))
  exact hc ρ₂ a xs (ra.mono p₂) rx s₂ E Q R₂ fun s₃ ρ₃ y p₃ ry R₃ m₃ => f s₃ ρ₃ y (p₁.trans (p₂.trans p₃)) ry R₃ (m₁.trans (m₂.trans m₃))
theorem ev_endswith {e x : PySem.Expr} {apos pos : Pos} {l r : List Nat} (hb : PlainBase e) (hs : NoStar [x]) (hline : (apos.endLine == pos.line) = true) (h : Ev c e loc sto (.s l) sto₁) (g : EvL c [x] loc sto₁ [.s r] sto₂) :
  Ev c (.Call (.Attribute e (PySem.Str.ofString "endswith") apos) [x] [] pos) loc sto (.b (endsW l r)) sto₂ :=
 ev_bmeth (id := "str.endswith") hb hs (by simp) (by simp) hline h (fun ρ a s E Q pl ra R q => by
  obtain ⟨t, rfl⟩ := ra
  exact GM.endswith q) g fun ρ a xs ra rx s E Q R f => by
  obtain ⟨t, rfl⟩ := ra
  obtain ⟨y, rfl, ⟨u, hy⟩⟩ := RVs.one rx
  subst hy
  exact SC.endswith (f _ ρ _ (Pfx.refl ρ) (by show _ = Value.bool _; rw [ends_eq]) R (Same.refl s))
noncomputable def joinL : List (List Nat) → List Nat
 | [] => []
 | x :: r => x ++ joinL r
theorem sjoin_mk : ∀ xs : List (List Nat), PySem.Str.join ⟨#[]⟩ (xs.map fun l => (⟨l.toArray⟩ : PySem.Str)) = ⟨(joinL xs).toArray⟩
 | [] => rfl
 | [x] => by
  show (⟨x.toArray⟩ : PySem.Str) = ⟨(x ++ []).toArray⟩
  rw [List.append_nil]
 | x :: y :: r => by
  have ih := sjoin_mk (y :: r)
  rw [List.map_cons] at ih ⊢
  rw [List.map_cons]
  show (⟨x.toArray⟩ ++ (⟨([] : List Nat).toArray⟩ : PySem.Str)) ++ PySem.Str.join ⟨#[]⟩ (⟨y.toArray⟩ :: r.map fun l => (⟨l.toArray⟩ : PySem.Str)) = ⟨(x ++ joinL (y :: r)).toArray⟩
  rw [ih, app_mk, app_mk, List.append_nil]
theorem join_mk (xs : List (List Nat)) : PySem.Txt.join ⟨#[]⟩ (xs.map fun l => (⟨l.toArray⟩ : PySem.Str)) = ⟨(joinL xs).toArray⟩ := (StrLaws.glued_eq_join _ _).trans (sjoin_mk xs)
noncomputable def sumLen (xs : List (List Nat)) : Nat := (xs.map List.length).sum
theorem ev_join {hcD : c.OK D} {e x : PySem.Expr} {apos pos : Pos} {v : V} {vs : List V} {xs : List (List Nat)} (hb : PlainBase e) (hs : NoStar [x]) (hline : (apos.endLine == pos.line) = true) (h : Ev c e loc sto (.s []) sto₁) (g : EvL c [x] loc sto₁ [v] sto₂)
  (q : IsL c sto₂ v vs) (hx : strsOf vs = some xs) (hz : sumLen xs ≤ 10000) :
  Ev c (.Call (.Attribute e (PySem.Str.ofString "join") apos) [x] [] pos) loc sto (.s (joinL xs)) sto₂ :=
 ev_bmeth (id := "str.join") hb hs (by simp) (by simp) hline h (fun ρ a s E Q pl ra R q => by
  obtain ⟨t, rfl⟩ := ra
  exact GM.join q) g fun ρ a ys ra rx s E Q R f => by
  obtain ⟨t, rfl⟩ := ra
  obtain ⟨y, rfl, ry⟩ := RVs.one rx
  obtain ⟨l, items, rfl, il, rs⟩ := q.at hcD R ry
  refine join_list il (strsAre hx rs) ?_ fun t' k => ?_
  ·rw [List.map_map]
   have e1 : (List.map ((fun s : PySem.Str => s.length) ∘ fun l : List Nat => (⟨l.toArray⟩ : PySem.Str)) xs).sum = sumLen xs := by
    unfold sumLen
    exact congrArg List.sum (List.map_congr_left fun l _ => len_mk l)
   rw [e1, len_mk]
   simp
   lia
  ·refine f _ ρ _ (Pfx.refl ρ) ⟨t', ?_⟩ R ⟨rfl, rfl⟩
   rw [← join_mk]
theorem do_append (hc : c.OK D) {k : Nat} {vs : List V} {v : V} {a x : Value} {ρ : List Addr} (ek : sto[k]? = some (.list vs)) (ra : RV ρ (.d k) a) (rx : RV ρ v x) (hz : vs.length ≤ 100000) :
  DoAt c ρ (call (.builtin "list.append") [a, x]) loc sto (fun ρ x => RV ρ .none x) loc (sto.set k (.list (vs ++ [v]))) := fun s E Q R f => by
 obtain ⟨l, el, rfl⟩ := ra
 have ab := R.above
 obtain ⟨m, RLx, R0⟩ := id R
 obtain ⟨ps, frs, X⟩ := R0.open
 obtain ⟨x', p, q, r, h1, rfl, ⟨ws, n, rs, rfl⟩, upd⟩ := X.S.at ek
 rw [el] at h1
 obtain rfl := Option.some.inj h1
 have eN : ∀ ob : Obj, (p ++ ([(l, ob)] ++ r)) ++ (c.ext ++ frs) = p ++ (l, ob) :: (r ++ (c.ext ++ frs)) := fun ob => by simp
 have one := X.one
 rw [eN] at one
 obtain ⟨n1, n2⟩ := nodup_mid one
 have hl := X.mem (p := (l, { cls := .type "list", data := .seq ws.toArray n })) (by simp)
 refine wpAny_list_append_plain (hl := ⟨n, hl⟩) (fun h' hpl hs => ?_) (by simp; rw [← rs.length]; exact size_ok hz)
 obtain ⟨n', hn'⟩ := hpl
 have hN := X.N (l, { cls := .type "list", data := .seq ws.toArray n }) (List.mem_append_left _ (by simp))
 have hlL : l ≠ c.L := hN.2.1
 have hlb : c.hb.get? l = none := hN.2.2
 refine f _ ρ .none (Pfx.refl ρ) rfl ⟨m, RLx, Opened.close (ps := p ++ ([(l, { cls := .type "list", data := .seq (ws ++ [x]).toArray n' })] ++ r)) (frs := frs) ab ⟨?_, ?_, upd (.list (vs ++ [v])) _ ⟨ws ++ [x], n', rs.app ⟨rx, trivial⟩, rfl⟩, X.O, ?_⟩⟩ ⟨rfl, rfl⟩
 ·exact ⟨X.F.ns.sameBut hs (Ne.symm hlL), fun b o e => (hs.2 b (fun z => by rw [z, hlb] at e; cases e)).trans (X.F.keep b o e), X.F.above⟩
 ·intro y hy
  rw [eN] at hy
  rcases List.mem_append.mp hy with hy | hy
  ·obtain ⟨y1, y2, y3⟩ := X.N y (by rw [eN]; exact List.mem_append_left _ hy)
   exact ⟨(hs.2 y.1 (n1 y hy)).trans y1, y2, y3⟩
  ·rcases List.mem_cons.mp hy with rfl | hy
   ·refine ⟨?_, hlL, hlb⟩
    rw [hn']; simp
   ·obtain ⟨y1, y2, y3⟩ := X.N y (by rw [eN]; exact List.mem_append_right _ (List.mem_cons_of_mem _ hy))
    exact ⟨(hs.2 y.1 (n2 y hy)).trans y1, y2, y3⟩
 ·rw [eN]
  simpa using one
theorem ev_append (hc : c.OK D) {e x : PySem.Expr} {apos pos : Pos} {k : Nat} {vs : List V} {v : V} (hb : PlainBase e) (hs : NoStar [x]) (hline : (apos.endLine == pos.line) = true) (h : Ev c e loc sto (.d k) sto₁) (ek₁ : sto₁[k]? = some (.list vs)) (g : EvL c [x] loc sto₁ [v] sto₂)
  (ek : sto₂[k]? = some (.list vs)) (hz : vs.length ≤ 100000) :
  Ev c (.Call (.Attribute e (PySem.Str.ofString "append") apos) [x] [] pos) loc sto .none (sto₂.set k (.list (vs ++ [v]))) :=
 ev_bmeth (id := "list.append") hb hs (by simp) (by simp) hline h (fun ρ a s E Q pl ra R q => by
  obtain ⟨l, el, rfl⟩ := id ra
  obtain ⟨m, RLx, R0⟩ := id R
  obtain ⟨ps, frs, X⟩ := R0.open
  obtain ⟨x', p, q', r, h1, rfl, ⟨ws, n, rs, rfl⟩, upd⟩ := X.S.at ek₁
  rw [el] at h1
  obtain rfl := Option.some.inj h1
  exact getMethod_list_append (X.mem (p := (l, { cls := .type "list", data := .seq ws.toArray n })) (by simp)) rfl rfl q) g fun ρ a ys ra rx => by
  obtain ⟨y, rfl, ry⟩ := RVs.one rx
  exact do_append hc ek ra ry hz
end
end
noncomputable def all {α : Type} (p : α → Prop) : List α → Prop
 | [] => True
 | a :: l => p a ∧ all p l
noncomputable def selfNames : List PySem.Str := [S "current", S "cursor", S "limit", S "limit_backward", S "bra", S "ket", S "I_pV", S "I_p1", S "I_p2", S "B_standard_suffix_removed"]
noncomputable def instB (P : Params) (C : Addr) (name : PySem.Str) : Bool := plainGet (KP P) C name && hasDictIn (KP P) C && (findIn (KP P) (.ref C) name).any fun a => noGet (KP P) a
theorem instOK_of {P : Params} {C : Addr} {name : PySem.Str} (h : instB P C name = true) : InstOK P C name := by
 unfold instB at h
 rw [Bool.and_eq_true, Bool.and_eq_true] at h
 refine ⟨h.1.1, h.1.2, ?_⟩
 cases q : findIn (KP P) (.ref C) name with
 | none => rw [q] at h; cases h.2
 | some a => rw [q] at h; exact ⟨a, rfl, h.2⟩
theorem inst_self (P : Params) : (selfNames.all fun x => instB P 1005 x) = true := by kernel_rfl
noncomputable def setB (P : Params) (C : Addr) (name : PySem.Str) : Bool := findIn (KP P) (.ref C) "__setattr__" == some (some (.builtin "object.__setattr__")) && plainOver (KP P) C && takerIn (KP P) C name == some none && hasDictIn (KP P) C
theorem setOK_of {P : Params} {C : Addr} {name : PySem.Str} (h : setB P C name = true) : SetOK P C name := by
 unfold setB at h
 simp only [Bool.and_eq_true, beq_iff_eq] at h
 exact ⟨h.1.1.1, h.1.1.2, h.1.2, h.2⟩
theorem set_self (P : Params) : (selfNames.all fun x => setB P 1005 x) = true := by kernel_rfl
theorem inst_among (P : Params) : ([S "s", S "substring_i", S "result"].all fun x => instB P 220 x) = true := by kernel_rfl
noncomputable def methB (P : Params) (C : Addr) (name : PySem.Str) (f : Addr) : Bool := plainGet (KP P) C name && findIn (KP P) (.ref C) name == some (some (.ref f)) && isFn (KP P) (.ref f) && keepIn (KP P) (.ref f)
theorem methOK_of {P : Params} {C : Addr} {name : PySem.Str} {f : Addr} (h : methB P C name f = true) : MethOK P C name f := by
 unfold methB at h
 simp only [Bool.and_eq_true, beq_iff_eq] at h
 exact ⟨h.1.1.1, h.1.1.2, h.1.2, h.2⟩
noncomputable def meths : List (PySem.Str × Addr) := [(S "set_current", 42), (S "get_current", 49), (S "copy_from", 56), (S "in_grouping", 63), (S "go_in_grouping", 70), (S "in_grouping_b", 77), (S "go_in_grouping_b", 84), (S "out_grouping", 91), (S "go_out_grouping", 98), (S "out_grouping_b", 105), (S "go_out_grouping_b", 112), (S "eq_s", 119), (S "eq_s_b", 126), (S "find_among", 133), (S "find_among_b", 140), (S "replace_s", 147), (S "slice_from", 154), (S "slice_del", 161), (S "insert", 168), (S "slice_to", 175), (S "assign_to", 182), (S "stemWord", 189), (S "stemWords", 196), (S "r_norm", 239), (S "r_prelude", 246), (S "r_mark_regions", 253), (S "r_postlude", 260), (S "r_R1", 267), (S "r_step_0", 274), (S "r_combo_suffix", 281), (S "r_standard_suffix", 288), (S "r_verb_suffix", 295), (S "r_vowel_suffix", 302), (S "_stem", 309)]
theorem meth_self (P : Params) : (meths.all fun x => methB P 1005 x.1 x.2) = true := by kernel_rfl
noncomputable def clsB (P : Params) (C : Addr) (name : PySem.Str) (a : Addr) : Bool := typeIn (KP P) (.ref C) == some (.type "type") && readsIn (KP P) C (.type "type") && (match findCls (KP P) (.ref C) (.type "type") name with | some (.val (.ref b)) => Nat.beq a b | _ => false)
theorem clsOK_of {P : Params} {C : Addr} {name : PySem.Str} {a : Addr} (h : clsB P C name a = true) : ClsOK P C name a := by
 unfold clsB at h
 simp only [Bool.and_eq_true, beq_iff_eq] at h
 refine ⟨h.1.1, h.1.2, ?_⟩
 have h2 := h.2
 split at h2
 ·rename_i b e
  rw [e, Nat.eq_of_beq_eq_true h2]
 ·cases h2
noncomputable def clsA : List (PySem.Str × Addr) := [(S "g_v", 232), (S "a_0", 316), (S "as_0", 317), (S "a_1", 327), (S "a_2", 376), (S "a_3", 515), (S "as_3", 516), (S "a_4", 703), (S "a_5", 986), (S "a_6", 1002)]
theorem cls_self (P : Params) : (clsA.all fun x => clsB P 1005 x.1 x.2) = true := by kernel_rfl
theorem lab_ok (P : Params) : ([(S "lab0", 1017), (S "lab1", 1030), (S "lab2", 1043)].all fun x => nsIn (KP P) mainGlobals x.1 == some (some (.ref x.2)) && excIn (KP P) x.2 bmB newId) = true := by kernel_rfl
theorem set_ok (P : Params) : SetOK0 P 232 := by unfold SetOK0; kernel_rfl
section
inductive Ex where
 | none | marks (pV p1 p2 : Int) | all (pV p1 p2 : Int) (b : Bool)
structure Stm where
 cur : List Nat
 cursor : Int
 limit : Int
 lb : Int
 bra : Int
 ket : Int
 ex : Ex
noncomputable abbrev kS (s : String) : List Nat := (PySem.Str.ofString s).cps.toList
noncomputable def Ex.fs : Ex → Ls
 | .none => []
 | .marks a b c => [(kS "I_pV", .i a), (kS "I_p1", .i b), (kS "I_p2", .i c)]
 | .all a b c d => [(kS "I_pV", .i a), (kS "I_p1", .i b), (kS "I_p2", .i c), (kS "B_standard_suffix_removed", .b d)]
noncomputable def Stm.fs (x : Stm) : Ls := (kS "current", .s x.cur) :: (kS "cursor", .i x.cursor) :: (kS "limit", .i x.limit) :: (kS "limit_backward", .i x.lb) :: (kS "bra", .i x.bra) :: (kS "ket", .i x.ket) :: x.ex.fs
noncomputable abbrev Stm.o (x : Stm) : Ob := .inst 1005 x.fs
theorem all_mem {α : Type} {l : List α} {p : α → Bool} (h : l.all p = true) {x : α} (hx : x ∈ l) : p x = true := List.all_eq_true.mp h x hx
theorem instA {P : Params} {x : PySem.Str} (hx : x ∈ [S "s", S "substring_i", S "result"]) : InstOK P 220 x := instOK_of (all_mem (inst_among P) hx)
theorem iSelf {P : Params} {x : PySem.Str} (hx : selfNames.contains x = true) : InstOK P 1005 x := instOK_of (all_mem (inst_self P) (by simpa using hx))
theorem sSelf {P : Params} {x : PySem.Str} (hx : selfNames.contains x = true) : SetOK P 1005 x := setOK_of (all_mem (set_self P) (by simpa using hx))
theorem kL {c : Cx} {sc : Scope} {x : PySem.Str} {k : NameKind} (h : c.scope = sc) (e : sc.names.lookup x = some k) : c.scope.names.lookup x = some k := by rw [h]; exact e
theorem tst_cast {c : Cx} {e : PySem.Expr} {loc : Ls} {sto sto₁ : Sto} {b b' : Bool} (h : Tst c e loc sto b sto₁) (q : b = b') : Tst c e loc sto b' sto₁ := q ▸ h
theorem if_t {c : Cx} {t : PySem.Expr} {a b : List Stmt} {pos : Pos} {x : Bool} {loc loc₂ : Ls} {sto sto₁ sto₂ : Sto} {o : Out} (h : Tst c t loc sto x sto₁) (q : x = true) (g : Sx c (execs a c.env) loc sto₁ o loc₂ sto₂) : Sx c (exec (.If t a b pos) c.env) loc sto o loc₂ sto₂ := by
 subst q; exact sx_if h g
theorem if_f {c : Cx} {t : PySem.Expr} {a b : List Stmt} {pos : Pos} {x : Bool} {loc loc₂ : Ls} {sto sto₁ sto₂ : Sto} {o : Out} (h : Tst c t loc sto x sto₁) (q : x = false) (g : Sx c (execs b c.env) loc sto₁ o loc₂ sto₂) : Sx c (exec (.If t a b pos) c.env) loc sto o loc₂ sto₂ := by
 subst q; exact sx_if h g
section
variable {c : Cx} {loc : Ls} {sto : Sto}
theorem op_ge (i j : Int) : Op2 c (compareOp .GtE) (.i i) (.i j) (.b (decide (j ≤ i))) loc sto sto := fun ρ a b ⟨t, ha⟩ ⟨u, hb⟩ => by subst ha; subst hb; exact (pv_ge i j t u).doAt ρ _ _
theorem op_gt (i j : Int) : Op2 c (compareOp .Gt) (.i i) (.i j) (.b (decide (j < i))) loc sto sto := fun ρ a b ⟨t, ha⟩ ⟨u, hb⟩ => by subst ha; subst hb; exact (pv_gt i j t u).doAt ρ _ _
theorem op_le (i j : Int) : Op2 c (compareOp .LtE) (.i i) (.i j) (.b (decide (i ≤ j))) loc sto sto := fun ρ a b ⟨t, ha⟩ ⟨u, hb⟩ => by subst ha; subst hb; exact (pv_le i j t u).doAt ρ _ _
theorem op_lt (i j : Int) : Op2 c (compareOp .Lt) (.i i) (.i j) (.b (decide (i < j))) loc sto sto := fun ρ a b ⟨t, ha⟩ ⟨u, hb⟩ => by subst ha; subst hb; exact (pv_lt i j t u).doAt ρ _ _
theorem op_eq (i j : Int) : Op2 c (compareOp .Eq) (.i i) (.i j) (.b (i == j)) loc sto sto := fun ρ a b ⟨t, ha⟩ ⟨u, hb⟩ => by subst ha; subst hb; exact (pv_eq i j t u).doAt ρ _ _
theorem op_ne (i j : Int) : Op2 c (compareOp .NotEq) (.i i) (.i j) (.b (i != j)) loc sto sto := fun ρ a b ⟨t, ha⟩ ⟨u, hb⟩ => by subst ha; subst hb; exact (pv_ne i j t u).doAt ρ _ _
theorem op_eqS (i j : List Nat) : Op2 c (compareOp .Eq) (.s i) (.s j) (.b (i == j)) loc sto sto := fun ρ a b ⟨t, ha⟩ ⟨u, hb⟩ => by subst ha; subst hb; exact (pv_eqS i j t u).doAt ρ _ _
theorem op_neS (i j : List Nat) : Op2 c (compareOp .NotEq) (.s i) (.s j) (.b (i != j)) loc sto sto := fun ρ a b ⟨t, ha⟩ ⟨u, hb⟩ => by subst ha; subst hb; exact (pv_neS i j t u).doAt ρ _ _
theorem op_add (i j : Int) : Op2 c (binaryOp .Add) (.i i) (.i j) (.i (i + j)) loc sto sto := fun ρ a b ⟨t, ha⟩ ⟨u, hb⟩ => by subst ha; subst hb; exact (pv_add i j t u).doAt ρ _ _
theorem op_sub (i j : Int) : Op2 c (binaryOp .Sub) (.i i) (.i j) (.i (i - j)) loc sto sto := fun ρ a b ⟨t, ha⟩ ⟨u, hb⟩ => by subst ha; subst hb; exact (pv_sub i j t u).doAt ρ _ _
theorem op_iadd (i j : Int) : Op2 c (inplaceOp .Add) (.i i) (.i j) (.i (i + j)) loc sto sto := fun ρ a b ⟨t, ha⟩ ⟨u, hb⟩ => by subst ha; subst hb; exact (pv_iadd i j t u).doAt ρ _ _
theorem op_isub (i j : Int) : Op2 c (inplaceOp .Sub) (.i i) (.i j) (.i (i - j)) loc sto sto := fun ρ a b ⟨t, ha⟩ ⟨u, hb⟩ => by subst ha; subst hb; exact (pv_isub i j t u).doAt ρ _ _
theorem op_addS (i j : List Nat) (h : i.length + j.length ≤ 1000) : Op2 c (binaryOp .Add) (.s i) (.s j) (.s (i ++ j)) loc sto sto := fun ρ a b ⟨t, ha⟩ ⟨u, hb⟩ => by subst ha; subst hb; exact (pv_addS i j t u h).doAt ρ _ _
end
theorem sx_out {c : Cx} {t : Sem Flow} {loc loc₁ : Ls} {sto sto₁ sto' : Sto} {o o₁ : Out} (h : Sx c t loc sto o₁ loc₁ sto₁) (eo : o₁ = o) (es : sto₁ = sto') : ∃ loc', Sx c t loc sto o loc' sto' := ⟨loc₁, by subst eo; subst es; exact h⟩
theorem Cx.OK.mono {c : Cx} {D D' : Nat} (h : c.OK D') (l : D ≤ D') : c.OK D := ⟨h.base, h.frames, h.link, h.handled, Nat.le_trans (by lia) h.room, Nat.le_trans (by lia) h.units, h.kind⟩
theorem CallS.mono {D D' : Nat} {f : Addr} {args : List V} {sto sto' : Sto} {v : V} (h : CallS D f args sto v sto') (l : D ≤ D') : CallS D' f args sto v sto' :=
 fun w hb ext fr ρ A envs B a b c d e => h w hb ext fr ρ A envs B a b c (by lia) (by lia)
theorem out_ret {c : Cx} {t : Sem Flow} {loc loc₁ : Ls} {sto sto₁ sto' : Sto} {v v₁ : V} (h : Sx c t loc sto (.ret v₁) loc₁ sto₁) (ev : v₁ = v) (es : sto₁ = sto') : ∃ o loc', retOf o = some v ∧ Sx c t loc sto o loc' sto' := ⟨.ret v₁, loc₁, by rw [ev]; rfl, by subst es; exact h⟩
theorem out_next {c : Cx} {t : Sem Flow} {loc loc₁ : Ls} {sto sto₁ sto' : Sto} (h : Sx c t loc sto .next loc₁ sto₁) (es : sto₁ = sto') : ∃ o loc', retOf o = some V.none ∧ Sx c t loc sto o loc' sto' := ⟨.next, loc₁, rfl, by subst es; exact h⟩
end
theorem len0 {l : List Value} (h : l.length = 0) : l = [] := List.length_eq_zero_iff.mp h
theorem len1 {l : List Value} (h : l.length = 1) : ∃ x0, l = [x0] := List.length_eq_one_iff.mp h
theorem len2 {l : List Value} (h : l.length = 2) : ∃ x0 x1, l = [x0, x1] := by
 obtain ⟨a, t, rfl⟩ := List.exists_cons_of_length_eq_add_one h
 obtain ⟨x1, rfl⟩ := len1 (l := t) (Nat.succ.inj h)
 exact ⟨a, x1, rfl⟩
theorem len3 {l : List Value} (h : l.length = 3) : ∃ x0 x1 x2, l = [x0, x1, x2] := by
 obtain ⟨a, t, rfl⟩ := List.exists_cons_of_length_eq_add_one h
 obtain ⟨x1, x2, rfl⟩ := len2 (l := t) (Nat.succ.inj h)
 exact ⟨a, x1, x2, rfl⟩
theorem len4 {l : List Value} (h : l.length = 4) : ∃ x0 x1 x2 x3, l = [x0, x1, x2, x3] := by
 obtain ⟨a, t, rfl⟩ := List.exists_cons_of_length_eq_add_one h
 obtain ⟨x1, x2, x3, rfl⟩ := len3 (l := t) (Nat.succ.inj h)
 exact ⟨a, x1, x2, x3, rfl⟩
theorem fn35 : FnAt 35 (cst 2 0) "BaseStemmer.__init__" (vS "snowballstemmer.basestemmer" 194) (vR 34) [S "self"] where
 at_ P := by kernel_rfl
 code P := by kernel_rfl
 bind vals h := by
  obtain ⟨x0, rfl⟩ := len1 h
  kernel_rfl
 nodup := by decide +kernel
 locals := by decide +kernel
 cells := by decide +kernel
 co := by kernel_rfl
 gen := by kernel_rfl
 kind := by kernel_rfl
theorem fn42 : FnAt 42 (cst 2 1) "BaseStemmer.set_current" (vS "snowballstemmer.basestemmer" 194) (vR 41) [S "self", S "value"] where
 at_ P := by kernel_rfl
 code P := by kernel_rfl
 bind vals h := by
  obtain ⟨x0, x1, rfl⟩ := len2 h
  kernel_rfl
 nodup := by decide +kernel
 locals := by decide +kernel
 cells := by decide +kernel
 co := by kernel_rfl
 gen := by kernel_rfl
 kind := by kernel_rfl
theorem fn49 : FnAt 49 (cst 2 2) "BaseStemmer.get_current" (vS "snowballstemmer.basestemmer" 194) (vR 48) [S "self"] where
 at_ P := by kernel_rfl
 code P := by kernel_rfl
 bind vals h := by
  obtain ⟨x0, rfl⟩ := len1 h
  kernel_rfl
 nodup := by decide +kernel
 locals := by decide +kernel
 cells := by decide +kernel
 co := by kernel_rfl
 gen := by kernel_rfl
 kind := by kernel_rfl
theorem fn63 : FnAt 63 (cst 2 4) "BaseStemmer.in_grouping" (vS "snowballstemmer.basestemmer" 194) (vR 62) [S "self", S "s"] where
 at_ P := by kernel_rfl
 code P := by kernel_rfl
 bind vals h := by
  obtain ⟨x0, x1, rfl⟩ := len2 h
  kernel_rfl
 nodup := by decide +kernel
 locals := by decide +kernel
 cells := by decide +kernel
 co := by kernel_rfl
 gen := by kernel_rfl
 kind := by kernel_rfl
theorem fn70 : FnAt 70 (cst 2 5) "BaseStemmer.go_in_grouping" (vS "snowballstemmer.basestemmer" 194) (vR 69) [S "self", S "s"] where
 at_ P := by kernel_rfl
 code P := by kernel_rfl
 bind vals h := by
  obtain ⟨x0, x1, rfl⟩ := len2 h
  kernel_rfl
 nodup := by decide +kernel
 locals := by decide +kernel
 cells := by decide +kernel
 co := by kernel_rfl
 gen := by kernel_rfl
 kind := by kernel_rfl
theorem fn91 : FnAt 91 (cst 2 8) "BaseStemmer.out_grouping" (vS "snowballstemmer.basestemmer" 194) (vR 90) [S "self", S "s"] where
 at_ P := by kernel_rfl
 code P := by kernel_rfl
 bind vals h := by
  obtain ⟨x0, x1, rfl⟩ := len2 h
  kernel_rfl
 nodup := by decide +kernel
 locals := by decide +kernel
 cells := by decide +kernel
 co := by kernel_rfl
 gen := by kernel_rfl
 kind := by kernel_rfl
theorem fn98 : FnAt 98 (cst 2 9) "BaseStemmer.go_out_grouping" (vS "snowballstemmer.basestemmer" 194) (vR 97) [S "self", S "s"] where
 at_ P := by kernel_rfl
 code P := by kernel_rfl
 bind vals h := by
  obtain ⟨x0, x1, rfl⟩ := len2 h
  kernel_rfl
 nodup := by decide +kernel
 locals := by decide +kernel
 cells := by decide +kernel
 co := by kernel_rfl
 gen := by kernel_rfl
 kind := by kernel_rfl
theorem fn105 : FnAt 105 (cst 2 10) "BaseStemmer.out_grouping_b" (vS "snowballstemmer.basestemmer" 194) (vR 104) [S "self", S "s"] where
 at_ P := by kernel_rfl
 code P := by kernel_rfl
 bind vals h := by
  obtain ⟨x0, x1, rfl⟩ := len2 h
  kernel_rfl
 nodup := by decide +kernel
 locals := by decide +kernel
 cells := by decide +kernel
 co := by kernel_rfl
 gen := by kernel_rfl
 kind := by kernel_rfl
theorem fn126 : FnAt 126 (cst 2 13) "BaseStemmer.eq_s_b" (vS "snowballstemmer.basestemmer" 194) (vR 125) [S "self", S "s"] where
 at_ P := by kernel_rfl
 code P := by kernel_rfl
 bind vals h := by
  obtain ⟨x0, x1, rfl⟩ := len2 h
  kernel_rfl
 nodup := by decide +kernel
 locals := by decide +kernel
 cells := by decide +kernel
 co := by kernel_rfl
 gen := by kernel_rfl
 kind := by kernel_rfl
theorem fn133 : FnAt 133 (cst 2 14) "BaseStemmer.find_among" (vS "snowballstemmer.basestemmer" 194) (vR 132) [S "self", S "v"] where
 at_ P := by kernel_rfl
 code P := by kernel_rfl
 bind vals h := by
  obtain ⟨x0, x1, rfl⟩ := len2 h
  kernel_rfl
 nodup := by decide +kernel
 locals := by decide +kernel
 cells := by decide +kernel
 co := by kernel_rfl
 gen := by kernel_rfl
 kind := by kernel_rfl
theorem fn140 : FnAt 140 (cst 2 15) "BaseStemmer.find_among_b" (vS "snowballstemmer.basestemmer" 194) (vR 139) [S "self", S "v"] where
 at_ P := by kernel_rfl
 code P := by kernel_rfl
 bind vals h := by
  obtain ⟨x0, x1, rfl⟩ := len2 h
  kernel_rfl
 nodup := by decide +kernel
 locals := by decide +kernel
 cells := by decide +kernel
 co := by kernel_rfl
 gen := by kernel_rfl
 kind := by kernel_rfl
theorem fn147 : FnAt 147 (cst 2 16) "BaseStemmer.replace_s" (vS "snowballstemmer.basestemmer" 194) (vR 146) [S "self", S "c_bra", S "c_ket", S "s"] where
 at_ P := by kernel_rfl
 code P := by kernel_rfl
 bind vals h := by
  obtain ⟨x0, x1, x2, x3, rfl⟩ := len4 h
  kernel_rfl
 nodup := by decide +kernel
 locals := by decide +kernel
 cells := by decide +kernel
 co := by kernel_rfl
 gen := by kernel_rfl
 kind := by kernel_rfl
theorem fn154 : FnAt 154 (cst 2 17) "BaseStemmer.slice_from" (vS "snowballstemmer.basestemmer" 194) (vR 153) [S "self", S "s"] where
 at_ P := by kernel_rfl
 code P := by kernel_rfl
 bind vals h := by
  obtain ⟨x0, x1, rfl⟩ := len2 h
  kernel_rfl
 nodup := by decide +kernel
 locals := by decide +kernel
 cells := by decide +kernel
 co := by kernel_rfl
 gen := by kernel_rfl
 kind := by kernel_rfl
theorem fn161 : FnAt 161 (cst 2 18) "BaseStemmer.slice_del" (vS "snowballstemmer.basestemmer" 194) (vR 160) [S "self"] where
 at_ P := by kernel_rfl
 code P := by kernel_rfl
 bind vals h := by
  obtain ⟨x0, rfl⟩ := len1 h
  kernel_rfl
 nodup := by decide +kernel
 locals := by decide +kernel
 cells := by decide +kernel
 co := by kernel_rfl
 gen := by kernel_rfl
 kind := by kernel_rfl
theorem fn189 : FnAt 189 (cst 2 22) "BaseStemmer.stemWord" (vS "snowballstemmer.basestemmer" 194) (vR 188) [S "self", S "word"] where
 at_ P := by kernel_rfl
 code P := by kernel_rfl
 bind vals h := by
  obtain ⟨x0, x1, rfl⟩ := len2 h
  kernel_rfl
 nodup := by decide +kernel
 locals := by decide +kernel
 cells := by decide +kernel
 co := by kernel_rfl
 gen := by kernel_rfl
 kind := by kernel_rfl
theorem fn217 : FnAt 217 (cst 4 0) "Among.__init__" (vS "snowballstemmer.among" 438) (vR 216) [S "self", S "s", S "substring_i", S "result"] where
 at_ P := by kernel_rfl
 code P := by kernel_rfl
 bind vals h := by
  obtain ⟨x0, x1, x2, x3, rfl⟩ := len4 h
  kernel_rfl
 nodup := by decide +kernel
 locals := by decide +kernel
 cells := by decide +kernel
 co := by kernel_rfl
 gen := by kernel_rfl
 kind := by kernel_rfl
theorem fn239 : FnAt 239 (cst 6 5) "RomanianStemmer.r_norm" (vS "snowballstemmer.romanian_stemmer" 473) (vR 238) [S "self"] where
 at_ P := by kernel_rfl
 code P := by kernel_rfl
 bind vals h := by
  obtain ⟨x0, rfl⟩ := len1 h
  kernel_rfl
 nodup := by decide +kernel
 locals := by decide +kernel
 cells := by decide +kernel
 co := by kernel_rfl
 gen := by kernel_rfl
 kind := by kernel_rfl
theorem fn246 : FnAt 246 (cst 6 6) "RomanianStemmer.r_prelude" (vS "snowballstemmer.romanian_stemmer" 473) (vR 245) [S "self"] where
 at_ P := by kernel_rfl
 code P := by kernel_rfl
 bind vals h := by
  obtain ⟨x0, rfl⟩ := len1 h
  kernel_rfl
 nodup := by decide +kernel
 locals := by decide +kernel
 cells := by decide +kernel
 co := by kernel_rfl
 gen := by kernel_rfl
 kind := by kernel_rfl
theorem fn253 : FnAt 253 (cst 6 7) "RomanianStemmer.r_mark_regions" (vS "snowballstemmer.romanian_stemmer" 473) (vR 252) [S "self"] where
 at_ P := by kernel_rfl
 code P := by kernel_rfl
 bind vals h := by
  obtain ⟨x0, rfl⟩ := len1 h
  kernel_rfl
 nodup := by decide +kernel
 locals := by decide +kernel
 cells := by decide +kernel
 co := by kernel_rfl
 gen := by kernel_rfl
 kind := by kernel_rfl
theorem fn260 : FnAt 260 (cst 6 8) "RomanianStemmer.r_postlude" (vS "snowballstemmer.romanian_stemmer" 473) (vR 259) [S "self"] where
 at_ P := by kernel_rfl
 code P := by kernel_rfl
 bind vals h := by
  obtain ⟨x0, rfl⟩ := len1 h
  kernel_rfl
 nodup := by decide +kernel
 locals := by decide +kernel
 cells := by decide +kernel
 co := by kernel_rfl
 gen := by kernel_rfl
 kind := by kernel_rfl
theorem fn267 : FnAt 267 (cst 6 9) "RomanianStemmer.r_R1" (vS "snowballstemmer.romanian_stemmer" 473) (vR 266) [S "self"] where
 at_ P := by kernel_rfl
 code P := by kernel_rfl
 bind vals h := by
  obtain ⟨x0, rfl⟩ := len1 h
  kernel_rfl
 nodup := by decide +kernel
 locals := by decide +kernel
 cells := by decide +kernel
 co := by kernel_rfl
 gen := by kernel_rfl
 kind := by kernel_rfl
theorem fn274 : FnAt 274 (cst 6 10) "RomanianStemmer.r_step_0" (vS "snowballstemmer.romanian_stemmer" 473) (vR 273) [S "self"] where
 at_ P := by kernel_rfl
 code P := by kernel_rfl
 bind vals h := by
  obtain ⟨x0, rfl⟩ := len1 h
  kernel_rfl
 nodup := by decide +kernel
 locals := by decide +kernel
 cells := by decide +kernel
 co := by kernel_rfl
 gen := by kernel_rfl
 kind := by kernel_rfl
theorem fn281 : FnAt 281 (cst 6 11) "RomanianStemmer.r_combo_suffix" (vS "snowballstemmer.romanian_stemmer" 473) (vR 280) [S "self"] where
 at_ P := by kernel_rfl
 code P := by kernel_rfl
 bind vals h := by
  obtain ⟨x0, rfl⟩ := len1 h
  kernel_rfl
 nodup := by decide +kernel
 locals := by decide +kernel
 cells := by decide +kernel
 co := by kernel_rfl
 gen := by kernel_rfl
 kind := by kernel_rfl
theorem fn288 : FnAt 288 (cst 6 12) "RomanianStemmer.r_standard_suffix" (vS "snowballstemmer.romanian_stemmer" 473) (vR 287) [S "self"] where
 at_ P := by kernel_rfl
 code P := by kernel_rfl
 bind vals h := by
  obtain ⟨x0, rfl⟩ := len1 h
  kernel_rfl
 nodup := by decide +kernel
 locals := by decide +kernel
 cells := by decide +kernel
 co := by kernel_rfl
 gen := by kernel_rfl
 kind := by kernel_rfl
theorem fn295 : FnAt 295 (cst 6 13) "RomanianStemmer.r_verb_suffix" (vS "snowballstemmer.romanian_stemmer" 473) (vR 294) [S "self"] where
 at_ P := by kernel_rfl
 code P := by kernel_rfl
 bind vals h := by
  obtain ⟨x0, rfl⟩ := len1 h
  kernel_rfl
 nodup := by decide +kernel
 locals := by decide +kernel
 cells := by decide +kernel
 co := by kernel_rfl
 gen := by kernel_rfl
 kind := by kernel_rfl
theorem fn302 : FnAt 302 (cst 6 14) "RomanianStemmer.r_vowel_suffix" (vS "snowballstemmer.romanian_stemmer" 473) (vR 301) [S "self"] where
 at_ P := by kernel_rfl
 code P := by kernel_rfl
 bind vals h := by
  obtain ⟨x0, rfl⟩ := len1 h
  kernel_rfl
 nodup := by decide +kernel
 locals := by decide +kernel
 cells := by decide +kernel
 co := by kernel_rfl
 gen := by kernel_rfl
 kind := by kernel_rfl
theorem fn309 : FnAt 309 (cst 6 15) "RomanianStemmer._stem" (vS "snowballstemmer.romanian_stemmer" 473) (vR 308) [S "self"] where
 at_ P := by kernel_rfl
 code P := by kernel_rfl
 bind vals h := by
  obtain ⟨x0, rfl⟩ := len1 h
  kernel_rfl
 nodup := by decide +kernel
 locals := by decide +kernel
 cells := by decide +kernel
 co := by kernel_rfl
 gen := by kernel_rfl
 kind := by kernel_rfl
theorem fn1094 : FnAt 1094 (stm 17) "_law_vowel" (vS "law_is0017_01" 3844) (vR 1093) [S "sign"] where
 at_ P := by kernel_rfl
 code P := by kernel_rfl
 bind vals h := by
  obtain ⟨x0, rfl⟩ := len1 h
  kernel_rfl
 nodup := by decide +kernel
 locals := by decide +kernel
 cells := by decide +kernel
 co := by kernel_rfl
 gen := by kernel_rfl
 kind := by kernel_rfl
theorem fn1101 : FnAt 1101 (stm 18) "_law_past" (vS "law_is0017_01" 3844) (vR 1100) [S "word", S "place", S "vowel"] where
 at_ P := by kernel_rfl
 code P := by kernel_rfl
 bind vals h := by
  obtain ⟨x0, x1, x2, rfl⟩ := len3 h
  kernel_rfl
 nodup := by decide +kernel
 locals := by decide +kernel
 cells := by decide +kernel
 co := by kernel_rfl
 gen := by kernel_rfl
 kind := by kernel_rfl
theorem fn1108 : FnAt 1108 (stm 19) "_law_longest" (vS "law_is0017_01" 3844) (vR 1107) [S "word", S "rows"] where
 at_ P := by kernel_rfl
 code P := by kernel_rfl
 bind vals h := by
  obtain ⟨x0, x1, rfl⟩ := len2 h
  kernel_rfl
 nodup := by decide +kernel
 locals := by decide +kernel
 cells := by decide +kernel
 co := by kernel_rfl
 gen := by kernel_rfl
 kind := by kernel_rfl
theorem fn1113 : FnAt 1113 (stm 20) "_law_marked" (vS "law_is0017_01" 3844) (vR 1112) [S "word"] where
 at_ P := by kernel_rfl
 code P := by kernel_rfl
 bind vals h := by
  obtain ⟨x0, rfl⟩ := len1 h
  kernel_rfl
 nodup := by decide +kernel
 locals := by decide +kernel
 cells := by decide +kernel
 co := by kernel_rfl
 gen := by kernel_rfl
 kind := by kernel_rfl
theorem fn1118 : FnAt 1118 (stm 21) "_law_stem" (vS "law_is0017_01" 3844) (vR 1117) [S "word"] where
 at_ P := by kernel_rfl
 code P := by kernel_rfl
 bind vals h := by
  obtain ⟨x0, rfl⟩ := len1 h
  kernel_rfl
 nodup := by decide +kernel
 locals := by decide +kernel
 cells := by decide +kernel
 co := by kernel_rfl
 gen := by kernel_rfl
 kind := by kernel_rfl
theorem fn1125 : FnAt 1125 (stm 22) "law" (vS "law_is0017_01" 3844) (vR 1124) [S "script"] where
 at_ P := by kernel_rfl
 code P := by kernel_rfl
 bind vals h := by
  obtain ⟨x0, rfl⟩ := len1 h
  kernel_rfl
 nodup := by decide +kernel
 locals := by decide +kernel
 cells := by decide +kernel
 co := by kernel_rfl
 gen := by kernel_rfl
 kind := by kernel_rfl
theorem bi_len (P : Params) : BuiltinOK P (S "len") (.builtin "len") := ⟨by kernel_rfl, by decide +kernel, by decide +kernel, by decide +kernel⟩
theorem bi_min (P : Params) : BuiltinOK P (S "min") (.builtin "min") := ⟨by kernel_rfl, by decide +kernel, by decide +kernel, by decide +kernel⟩
theorem bi_max (P : Params) : BuiltinOK P (S "max") (.builtin "max") := ⟨by kernel_rfl, by decide +kernel, by decide +kernel, by decide +kernel⟩
theorem bi_ord (P : Params) : BuiltinOK P (S "ord") (.builtin "ord") := ⟨by kernel_rfl, by decide +kernel, by decide +kernel, by decide +kernel⟩
theorem bi_range (P : Params) : BuiltinOK P (S "range") (.type "range") := ⟨by kernel_rfl, by decide +kernel, by decide +kernel, by decide +kernel⟩
theorem mem_of_lookup {α β : Type} [BEq α] [LawfulBEq α] {l : List (α × β)} {x : α} {v : β} (h : l.lookup x = some v) : (x, v) ∈ l := lookup_mem h
theorem cls_at {P : Params} {x : PySem.Str} {a : Addr} (h : clsA.lookup x = some a) : ClsOK P 1005 x a := by
 have q := List.all_eq_true.mp (cls_self P) (x, a) (mem_of_lookup h)
 dsimp only at q
 exact clsOK_of q
theorem meth_at {P : Params} {x : PySem.Str} {a : Addr} (h : meths.lookup x = some a) : MethOK P 1005 x a := by
 have q := List.all_eq_true.mp (meth_self P) (x, a) (mem_of_lookup h)
 dsimp only at q
 exact methOK_of q
noncomputable def labs : List (PySem.Str × Addr) := [(S "lab0", 1017), (S "lab1", 1030), (S "lab2", 1043)]
theorem lab_at {P : Params} {x : PySem.Str} {a : Addr} (h : labs.lookup x = some a) : LabOK P x a := by
 have q := List.all_eq_true.mp (lab_ok P) (x, a) (mem_of_lookup h)
 dsimp only at q
 rw [Bool.and_eq_true, beq_iff_eq] at q
 exact ⟨q.1, q.2⟩
noncomputable def globs : List (PySem.Str × Addr) := [(S "RomanianStemmer", 1005), (S "_law_vowel", 1094), (S "_law_past", 1101), (S "_law_longest", 1108), (S "_law_marked", 1113), (S "_law_stem", 1118)]
theorem globs_ok (P : Params) : (globs.all fun x => nsIn (KP P) mainGlobals x.1 == some (some (.ref x.2))) = true := by kernel_rfl
theorem glob_at {P : Params} {x : PySem.Str} {a : Addr} (h : globs.lookup x = some a) : nsIn (KP P) mainGlobals x = some (some (.ref a)) := by
 have q := List.all_eq_true.mp (globs_ok P) (x, a) (mem_of_lookup h)
 dsimp only at q
 exact beq_iff_eq.mp q
noncomputable def tabs : List (PySem.Str) := [S "_law_letters", S "_law_articles", S "_law_compound", S "_law_plain", S "_law_verbal", S "_law_last"]
section
theorem no_meth (x : Stm) : (meths.all fun p => (lk p.1.cps.toList x.fs).isNone) = true := by
 obtain ⟨a, b, c, d, e, f, ex⟩ := x
 cases ex <;> kernel_rfl
theorem en_meth {x : Stm} {n : PySem.Str} {a : Addr} (h : meths.lookup n = some a) : lk n.cps.toList x.fs = none := by
 have q := List.all_eq_true.mp (no_meth x) (n, a) (mem_of_lookup h)
 dsimp only at q
 cases e : lk n.cps.toList x.fs with
 | none => rfl
 | some v => rw [e] at q; cases q
section
variable {c : Cx} {D : Nat} {loc : Ls} {sto : Sto} {x : Stm}
noncomputable def SelfAt (c : Cx) (e : PySem.Expr) (loc : Ls) : Prop := ∀ sto, Ev c e loc sto (.d 0) sto
theorem selfAt (hc : c.OK D) {p : Pos} (hv : lk (kS "self") loc = some (.d 0)) (hk : c.scope.names.lookup (S "self") = some .local) : SelfAt c (.Name (S "self") p) loc := fun sto => ev_local hc hv hk (by decide +kernel)
theorem set_cur (hc : c.OK D) {y : PySem.Expr} {e : PySem.Expr} {p0 pos : Pos} {v : List Nat} (hcomp : NoComp e) (hs : SelfAt c y loc) (h : Ev c e loc sto (.s v) [x.o]) :
  Sx c (exec (.Assign [.Attribute y (S "current") p0] e pos) c.env) loc sto .next loc [({ x with cur := v } : Stm).o] :=
 sx_assign_attr hc hcomp h (hs _) rfl (sSelf (by decide +kernel)) (Or.inl rfl)
theorem get_cur (hc : c.OK D) {np pos : Pos} (h : SelfAt c (.Name (S "self") np) loc) : Ev c (.Attribute (.Name (S "self") np) (S "current") pos) loc [x.o] (.s x.cur) [x.o] :=
 ev_attr_dyn hc (h _) rfl rfl (iSelf (by decide +kernel))
theorem set_cursor (hc : c.OK D) {y : PySem.Expr} {e : PySem.Expr} {p0 pos : Pos} {v : Int} (hcomp : NoComp e) (hs : SelfAt c y loc) (h : Ev c e loc sto (.i v) [x.o]) :
  Sx c (exec (.Assign [.Attribute y (S "cursor") p0] e pos) c.env) loc sto .next loc [({ x with cursor := v } : Stm).o] :=
 sx_assign_attr hc hcomp h (hs _) rfl (sSelf (by decide +kernel)) (Or.inl rfl)
theorem get_cursor (hc : c.OK D) {np pos : Pos} (h : SelfAt c (.Name (S "self") np) loc) : Ev c (.Attribute (.Name (S "self") np) (S "cursor") pos) loc [x.o] (.i x.cursor) [x.o] :=
 ev_attr_dyn hc (h _) rfl rfl (iSelf (by decide +kernel))
theorem add_cursor (hc : c.OK D) {y : PySem.Expr} {e : PySem.Expr} {p0 pos : Pos} {v : Int} (hs : SelfAt c y loc) (h : Ev c e loc [x.o] (.i v) [x.o]) :
  Sx c (exec (.AugAssign (.Attribute y (S "cursor") p0) .Add e pos) c.env) loc [x.o] .next loc [({ x with cursor := x.cursor + v } : Stm).o] :=
 sx_aug_attr hc (hs _) rfl rfl (iSelf (by decide +kernel)) h (op_iadd _ _) rfl (sSelf (by decide +kernel)) (Or.inl rfl)
theorem sub_cursor (hc : c.OK D) {y : PySem.Expr} {e : PySem.Expr} {p0 pos : Pos} {v : Int} (hs : SelfAt c y loc) (h : Ev c e loc [x.o] (.i v) [x.o]) :
  Sx c (exec (.AugAssign (.Attribute y (S "cursor") p0) .Sub e pos) c.env) loc [x.o] .next loc [({ x with cursor := x.cursor - v } : Stm).o] :=
 sx_aug_attr hc (hs _) rfl rfl (iSelf (by decide +kernel)) h (op_isub _ _) rfl (sSelf (by decide +kernel)) (Or.inl rfl)
theorem set_limit (hc : c.OK D) {y : PySem.Expr} {e : PySem.Expr} {p0 pos : Pos} {v : Int} (hcomp : NoComp e) (hs : SelfAt c y loc) (h : Ev c e loc sto (.i v) [x.o]) :
  Sx c (exec (.Assign [.Attribute y (S "limit") p0] e pos) c.env) loc sto .next loc [({ x with limit := v } : Stm).o] :=
 sx_assign_attr hc hcomp h (hs _) rfl (sSelf (by decide +kernel)) (Or.inl rfl)
theorem get_limit (hc : c.OK D) {np pos : Pos} (h : SelfAt c (.Name (S "self") np) loc) : Ev c (.Attribute (.Name (S "self") np) (S "limit") pos) loc [x.o] (.i x.limit) [x.o] :=
 ev_attr_dyn hc (h _) rfl rfl (iSelf (by decide +kernel))
theorem add_limit (hc : c.OK D) {y : PySem.Expr} {e : PySem.Expr} {p0 pos : Pos} {v : Int} (hs : SelfAt c y loc) (h : Ev c e loc [x.o] (.i v) [x.o]) :
  Sx c (exec (.AugAssign (.Attribute y (S "limit") p0) .Add e pos) c.env) loc [x.o] .next loc [({ x with limit := x.limit + v } : Stm).o] :=
 sx_aug_attr hc (hs _) rfl rfl (iSelf (by decide +kernel)) h (op_iadd _ _) rfl (sSelf (by decide +kernel)) (Or.inl rfl)
theorem sub_limit (hc : c.OK D) {y : PySem.Expr} {e : PySem.Expr} {p0 pos : Pos} {v : Int} (hs : SelfAt c y loc) (h : Ev c e loc [x.o] (.i v) [x.o]) :
  Sx c (exec (.AugAssign (.Attribute y (S "limit") p0) .Sub e pos) c.env) loc [x.o] .next loc [({ x with limit := x.limit - v } : Stm).o] :=
 sx_aug_attr hc (hs _) rfl rfl (iSelf (by decide +kernel)) h (op_isub _ _) rfl (sSelf (by decide +kernel)) (Or.inl rfl)
theorem set_lb (hc : c.OK D) {y : PySem.Expr} {e : PySem.Expr} {p0 pos : Pos} {v : Int} (hcomp : NoComp e) (hs : SelfAt c y loc) (h : Ev c e loc sto (.i v) [x.o]) :
  Sx c (exec (.Assign [.Attribute y (S "limit_backward") p0] e pos) c.env) loc sto .next loc [({ x with lb := v } : Stm).o] :=
 sx_assign_attr hc hcomp h (hs _) rfl (sSelf (by decide +kernel)) (Or.inl rfl)
theorem get_lb (hc : c.OK D) {np pos : Pos} (h : SelfAt c (.Name (S "self") np) loc) : Ev c (.Attribute (.Name (S "self") np) (S "limit_backward") pos) loc [x.o] (.i x.lb) [x.o] :=
 ev_attr_dyn hc (h _) rfl rfl (iSelf (by decide +kernel))
theorem add_lb (hc : c.OK D) {y : PySem.Expr} {e : PySem.Expr} {p0 pos : Pos} {v : Int} (hs : SelfAt c y loc) (h : Ev c e loc [x.o] (.i v) [x.o]) :
  Sx c (exec (.AugAssign (.Attribute y (S "limit_backward") p0) .Add e pos) c.env) loc [x.o] .next loc [({ x with lb := x.lb + v } : Stm).o] :=
 sx_aug_attr hc (hs _) rfl rfl (iSelf (by decide +kernel)) h (op_iadd _ _) rfl (sSelf (by decide +kernel)) (Or.inl rfl)
theorem sub_lb (hc : c.OK D) {y : PySem.Expr} {e : PySem.Expr} {p0 pos : Pos} {v : Int} (hs : SelfAt c y loc) (h : Ev c e loc [x.o] (.i v) [x.o]) :
  Sx c (exec (.AugAssign (.Attribute y (S "limit_backward") p0) .Sub e pos) c.env) loc [x.o] .next loc [({ x with lb := x.lb - v } : Stm).o] :=
 sx_aug_attr hc (hs _) rfl rfl (iSelf (by decide +kernel)) h (op_isub _ _) rfl (sSelf (by decide +kernel)) (Or.inl rfl)
theorem set_bra (hc : c.OK D) {y : PySem.Expr} {e : PySem.Expr} {p0 pos : Pos} {v : Int} (hcomp : NoComp e) (hs : SelfAt c y loc) (h : Ev c e loc sto (.i v) [x.o]) :
  Sx c (exec (.Assign [.Attribute y (S "bra") p0] e pos) c.env) loc sto .next loc [({ x with bra := v } : Stm).o] :=
 sx_assign_attr hc hcomp h (hs _) rfl (sSelf (by decide +kernel)) (Or.inl rfl)
theorem get_bra (hc : c.OK D) {np pos : Pos} (h : SelfAt c (.Name (S "self") np) loc) : Ev c (.Attribute (.Name (S "self") np) (S "bra") pos) loc [x.o] (.i x.bra) [x.o] :=
 ev_attr_dyn hc (h _) rfl rfl (iSelf (by decide +kernel))
theorem add_bra (hc : c.OK D) {y : PySem.Expr} {e : PySem.Expr} {p0 pos : Pos} {v : Int} (hs : SelfAt c y loc) (h : Ev c e loc [x.o] (.i v) [x.o]) :
  Sx c (exec (.AugAssign (.Attribute y (S "bra") p0) .Add e pos) c.env) loc [x.o] .next loc [({ x with bra := x.bra + v } : Stm).o] :=
 sx_aug_attr hc (hs _) rfl rfl (iSelf (by decide +kernel)) h (op_iadd _ _) rfl (sSelf (by decide +kernel)) (Or.inl rfl)
theorem sub_bra (hc : c.OK D) {y : PySem.Expr} {e : PySem.Expr} {p0 pos : Pos} {v : Int} (hs : SelfAt c y loc) (h : Ev c e loc [x.o] (.i v) [x.o]) :
  Sx c (exec (.AugAssign (.Attribute y (S "bra") p0) .Sub e pos) c.env) loc [x.o] .next loc [({ x with bra := x.bra - v } : Stm).o] :=
 sx_aug_attr hc (hs _) rfl rfl (iSelf (by decide +kernel)) h (op_isub _ _) rfl (sSelf (by decide +kernel)) (Or.inl rfl)
theorem set_ket (hc : c.OK D) {y : PySem.Expr} {e : PySem.Expr} {p0 pos : Pos} {v : Int} (hcomp : NoComp e) (hs : SelfAt c y loc) (h : Ev c e loc sto (.i v) [x.o]) :
  Sx c (exec (.Assign [.Attribute y (S "ket") p0] e pos) c.env) loc sto .next loc [({ x with ket := v } : Stm).o] :=
 sx_assign_attr hc hcomp h (hs _) rfl (sSelf (by decide +kernel)) (Or.inl rfl)
theorem get_ket (hc : c.OK D) {np pos : Pos} (h : SelfAt c (.Name (S "self") np) loc) : Ev c (.Attribute (.Name (S "self") np) (S "ket") pos) loc [x.o] (.i x.ket) [x.o] :=
 ev_attr_dyn hc (h _) rfl rfl (iSelf (by decide +kernel))
theorem add_ket (hc : c.OK D) {y : PySem.Expr} {e : PySem.Expr} {p0 pos : Pos} {v : Int} (hs : SelfAt c y loc) (h : Ev c e loc [x.o] (.i v) [x.o]) :
  Sx c (exec (.AugAssign (.Attribute y (S "ket") p0) .Add e pos) c.env) loc [x.o] .next loc [({ x with ket := x.ket + v } : Stm).o] :=
 sx_aug_attr hc (hs _) rfl rfl (iSelf (by decide +kernel)) h (op_iadd _ _) rfl (sSelf (by decide +kernel)) (Or.inl rfl)
theorem sub_ket (hc : c.OK D) {y : PySem.Expr} {e : PySem.Expr} {p0 pos : Pos} {v : Int} (hs : SelfAt c y loc) (h : Ev c e loc [x.o] (.i v) [x.o]) :
  Sx c (exec (.AugAssign (.Attribute y (S "ket") p0) .Sub e pos) c.env) loc [x.o] .next loc [({ x with ket := x.ket - v } : Stm).o] :=
 sx_aug_attr hc (hs _) rfl rfl (iSelf (by decide +kernel)) h (op_isub _ _) rfl (sSelf (by decide +kernel)) (Or.inl rfl)
theorem assert_t (hc : c.OK D) {t : PySem.Expr} {pos : Pos} {b : Bool} {sto₁ : Sto} (h : Tst c t loc sto b sto₁) (q : b = true) : Sx c (exec (.Assert t none pos) c.env) loc sto .next loc sto₁ := by
 subst q; exact sx_assert hc h
end
end
theorem elim_true {α : Type} {o : Option α} {f : α → Bool} (h : o.elim false f = true) : ∃ a, o = some a ∧ f a = true := by
 cases o with
 | none => cases h
 | some a => exact ⟨a, rfl, h⟩
theorem and_tt {a b : Bool} (h : (a && b) = true) : a = true ∧ b = true := by rwa [Bool.and_eq_true] at h
noncomputable def vOf : Value → Option V
 | .none => some .none
 | .bool x => some (.b x)
 | .int n _ => some (.i n)
 | .str x _ => some (.s x.cps.toList)
 | .ref y => some (.a y)
 | _ => none
theorem vOf_ok {x : Value} {v : V} (h : vOf x = some v) : RV [] v x := by
 cases x <;> first | (cases h; first | exact rfl | exact ⟨_, rfl⟩) | cases h
noncomputable def eqV : V → V → Bool
 | .none, .none => true
 | .b x, .b y => x == y
 | .i n, .i m => n == m
 | .s l, .s m => eqK l m
 | .a x, .a y => Nat.beq x y
 | _, _ => false
theorem eqV_ok {u v : V} (h : eqV u v = true) : u = v := by
 cases u <;> cases v <;> first | rfl | exact congrArg _ (beq_iff_eq.mp h) | exact congrArg _ (eqK_iff.mp h) | exact congrArg _ (Nat.eq_of_beq_eq_true h) | cases h
noncomputable def ckV (v : V) (x : Value) : Bool := (vOf x).elim false fun u => eqV v u
theorem ckV_ok {v : V} {x : Value} (h : ckV v x = true) : RV [] v x := by
 obtain ⟨u, e, h⟩ := elim_true h
 rw [eqV_ok h]; exact vOf_ok e
noncomputable def ckVs : List V → List Value → Bool
 | [] => fun r => r.isEmpty
 | v :: l => fun r => r.head?.elim false fun x => ckV v x && ckVs l r.tail
theorem ckVs_ok : ∀ {l : List V} {r : List Value}, ckVs l r = true → RVs [] l r
 | [], r, h => by
  cases r with
  | nil => trivial
  | cons => cases h
 | v :: l, r, h => by
  cases r with
  | nil => cases h
  | cons x r => exact ⟨ckV_ok (and_tt h).1, ckVs_ok (and_tt h).2⟩
noncomputable def seqIn (vs : List V) : Data → Bool
 | .seq a _ => ckVs vs a.toList
 | _ => false
theorem seqIn_ok {vs : List V} {d : Data} (h : seqIn vs d = true) : ∃ a n, d = .seq a n ∧ RVs [] vs a.toList := by
 cases d <;> first | exact ⟨_, _, rfl, ckVs_ok h⟩ | cases h
theorem idx_at {l : List Obj} {n k : Nat} {o : Obj} (h : l[k]? = some o) : (idx n l).lookup (n + k) = some o := by
 induction l generalizing n k with
 | nil => exact Option.noConfusion rfl (heq_of_eq h)
 | cons a l ih =>
  show List.lookup (n + k) ((n, a) :: idx (n + 1) l) = _
  rw [List.lookup_cons]
  cases k with
  | zero => rw [Nat.add_zero, beq_self_eq_true]; exact h
  | succ k =>
   rw [beq_eq_false_iff_ne.mpr (Nat.ne_of_gt (Nat.lt_add_of_pos_right (Nat.succ_pos k))), show n + (k + 1) = n + 1 + k from by rw [Nat.add_assoc, Nat.add_comm 1]]
   exact ih h
noncomputable def atF (P : Params) (x : Addr) : Option Obj := (fin P)[x]?
theorem atF_ok {P : Params} {x : Addr} {o : Obj} (h : atF P x = some o) : (KP P).lookup x = some o := Nat.zero_add x ▸ idx_at (n := 0) h
noncomputable def ckS (ty : Value) (P : Params) (x : Addr) (vs : List V) : Bool := (atF P x).elim false fun o => decide (o.cls = ty) && seqIn vs o.data
theorem st_of {ty : Value} {P : Params} {x : Addr} {vs : List V} (h : ckS ty P x vs = true) : ∃ items n d sl, (KP P).lookup x = some ⟨ty, d, .seq items n, sl⟩ ∧ RVs [] vs items.toList := by
 obtain ⟨⟨cls, d, dt, sl⟩, e, h⟩ := elim_true h
 have e := atF_ok e
 obtain ⟨a, n, h2, k⟩ := seqIn_ok (and_tt h).2
 exact ⟨a, n, d, sl, by rw [e, ← of_decide_eq_true (and_tt h).1, ← h2], k⟩
noncomputable abbrev ckL := ckS (.type "list")
noncomputable abbrev ckT := ckS (.type "tuple")
theorem stL_of {P : Params} {x : Addr} {vs : List V} (h : ckL P x vs = true) : StL P x vs := st_of h
theorem stT_of {P : Params} {x : Addr} {vs : List V} (h : ckT P x vs = true) : StT P x vs := st_of h
noncomputable def keyIs (k : List Nat) : Value → Bool
 | .str n _ => eqK k n.cps.toList
 | _ => false
theorem keyIs_ok {k : List Nat} {v : Value} (h : keyIs k v = true) : ∃ n t, v = .str n t ∧ k = n.cps.toList := by
 cases v <;> first | exact ⟨_, _, rfl, eqK_iff.mp h⟩ | cases h
theorem getL_cons {e : DictEntry} {r : List DictEntry} {n : PySem.Str} {t : Tok} (ek : e.key = .str n t) (hr : StrKs r) (x : PySem.Str) : getL x (e :: r) = if n = x then some (some e.val) else getL x r := by
 have key : StrKs (e :: r) := fun a ha => by
  rcases List.mem_cons.mp ha with rfl | ha
  ·exact ⟨n, t, ek⟩
  ·exact hr a ha
 rw [getL_of key, getL_of hr, List.find?_cons, ek, isStr_str]
 by_cases hx : n = x
 ·rw [if_pos hx, decide_eq_true hx]; rfl
 ·rw [if_neg hx, decide_eq_false hx]
theorem lk_cons {n x : PySem.Str} {v : V} {l : Ls} : lk x.cps.toList ((n.cps.toList, v) :: l) = if n = x then some v else lk x.cps.toList l := by
 by_cases hx : n = x
 ·rw [if_pos hx, hx]
  show (bif eqK _ _ then _ else _) = _
  rw [eqK_iff.mpr rfl]; rfl
 ·rw [if_neg hx]
  show (bif eqK _ _ then _ else _) = _
  cases z : eqK n.cps.toList x.cps.toList with
  | false => rfl
  | true => exact absurd (eq_of_cps (eqK_iff.mp z)) hx
noncomputable def ckF : Ls → List DictEntry → Bool
 | [] => fun r => r.isEmpty
 | p :: l => fun r => r.head?.elim false fun e => keyIs p.1 e.key && (ckV p.2 e.val && ckF l r.tail)
theorem ckF_ok : ∀ {fs : Ls} {es : List DictEntry}, ckF fs es = true → es.length ≤ 1000 → RF [] fs es
 | [], es, h, hz => by
  cases es with
  | nil => exact ⟨fun x v e => (nomatch (show none = some v from e)), fun x _ => rfl, fun e he => (nomatch he), Nat.le_refl _, hz⟩
  | cons => cases h
 | (k, v) :: l, es, h, hz => by
  cases es with
  | nil => cases h
  | cons e r =>
   have h := and_tt h
   obtain ⟨n, t, ek, rfl⟩ := keyIs_ok h.1
   have h2 := and_tt h.2
   have R : RF [] l r := ckF_ok h2.2 (Nat.le_of_succ_le hz)
   refine ⟨fun x u q => ?_, fun x q => ?_, fun a ha => ?_, Nat.succ_le_succ R.2.2.2.1, hz⟩
   ·rw [lk_cons] at q
    rw [getL_cons ek R.2.2.1]
    by_cases hx : n = x
    ·rw [if_pos hx] at q ⊢
     exact ⟨_, rfl, Option.some.inj q ▸ ckV_ok h2.1⟩
    ·rw [if_neg hx] at q ⊢
     exact R.1 x u q
   ·rw [lk_cons] at q
    rw [getL_cons ek R.2.2.1]
    by_cases hx : n = x
    ·rw [if_pos hx] at q; cases q
    ·rw [if_neg hx] at q ⊢
     exact R.2.1 x q
   ·rcases List.mem_cons.mp ha with rfl | ha
    ·exact ⟨n, t, ek⟩
    ·exact R.2.2.1 a ha
noncomputable def esIn (fs : Ls) : Data → Bool
 | .dict es _ => ckF fs es.toList && Nat.ble es.toList.length 1000
 | _ => false
theorem esIn_ok {fs : Ls} {d : Data} (h : esIn fs d = true) : ∃ (es : List DictEntry) (n : Nat), d = .dict es.toArray n ∧ RF [] fs es := by
 cases d <;> first | exact ⟨_, _, rfl, ckF_ok (and_tt h).1 (Nat.le_of_ble_eq_true (and_tt h).2)⟩ | cases h
noncomputable def isPlain : Data → Bool
 | .plain => true
 | _ => false
theorem isPlain_ok {d : Data} (h : isPlain d = true) : d = .plain := by
 cases d <;> first | rfl | cases h
noncomputable def ckD (fs : Ls) (o : Obj) : Bool := decide (o.cls = .type "dict") && (o.dict.isNone && (o.slots.isEmpty && esIn fs o.data))
theorem ckD_ok {fs : Ls} {o : Obj} (h : ckD fs o = true) : ∃ es n, o = dictOf es n ∧ RF [] fs es := by
 obtain ⟨cls, d, dt, sl⟩ := o
 have h := and_tt h
 have h2 := and_tt h.2
 have h3 := and_tt h2.2
 obtain ⟨es, n, e, R⟩ := esIn_ok h3.2
 refine ⟨es, n, ?_, R⟩
 have e1 : cls = _ := of_decide_eq_true h.1
 have e2 : d = none := Option.isNone_iff_eq_none.mp h2.1
 have e3 : sl = #[] := Array.isEmpty_iff.mp h3.1
 have e4 : dt = _ := e
 rw [e1, e2, e3, e4]
noncomputable def ckI (P : Params) (x C : Addr) (fs : Ls) : Bool := (atF P x).elim false fun o => decide (o.cls = .ref C) && (isPlain o.data && o.dict.elim false fun dx => (atF P dx).elim false fun d => ckD fs d)
theorem stI_of {P : Params} {x C : Addr} {fs : Ls} (h : ckI P x C fs = true) : StI P x C fs := by
 obtain ⟨⟨cls, d, dt, sl⟩, e, h⟩ := elim_true h
 have e := atF_ok e
 have h := and_tt h
 have h2 := and_tt h.2
 obtain ⟨dx, h3, h4⟩ := elim_true h2.2
 obtain ⟨o, h5, h6⟩ := elim_true h4
 obtain ⟨es, n, h7, R⟩ := ckD_ok h6
 have e1 : cls = _ := of_decide_eq_true h.1
 have e2 : dt = _ := isPlain_ok h2.1
 have e3 : d = _ := h3
 exact ⟨dx, es, n, sl, by rw [e, e1, e2, e3], by rw [atF_ok h5, h7], R⟩
structure Row4 where
 at_ : Addr
 s : List Nat
 link : Int
 res : Int
noncomputable def Row4.fs (r : Row4) : Ls := [(kS "s", .s r.s), (kS "substring_i", .i r.link), (kS "result", .i r.res)]
noncomputable def ckTab (P : Params) (x : Addr) (t : List Row4) : Bool := ckL P x (t.map fun r => .a r.at_) && t.all fun r => ckI P r.at_ 220 r.fs
noncomputable def tab_a_0 : List Row4 := [⟨311, [351], -1, 1⟩, ⟨314, [355], -1, 2⟩]
theorem ck_a_0 (P : Params) : ckTab P 316 tab_a_0 = true := by kernel_rfl
noncomputable def tab_a_1 : List Row4 := [⟨319, [], -1, 3⟩, ⟨322, [73], 0, 1⟩, ⟨325, [85], 0, 2⟩]
theorem ck_a_1 (P : Params) : ckTab P 327 tab_a_1 = true := by kernel_rfl
noncomputable def tab_a_2 : List Row4 := [⟨329, [101, 97], -1, 3⟩, ⟨332, [97, 539, 105, 97], -1, 7⟩, ⟨335, [97, 117, 97], -1, 2⟩, ⟨338, [105, 117, 97], -1, 4⟩, ⟨341, [97, 539, 105, 101], -1, 7⟩, ⟨344, [101, 108, 101], -1, 3⟩, ⟨347, [105, 108, 101], -1, 5⟩, ⟨350, [105, 105, 108, 101], 6, 4⟩, ⟨353, [105, 101, 105], -1, 4⟩, ⟨356, [97, 116, 101, 105], -1, 6⟩, ⟨359, [105, 105], -1, 4⟩, ⟨362, [117, 108, 117, 105], -1, 1⟩, ⟨365, [117, 108], -1, 1⟩, ⟨368, [101, 108, 111, 114], -1, 3⟩, ⟨371, [105, 108, 111, 114], -1, 4⟩, ⟨374, [105, 105, 108, 111, 114], 14, 4⟩]
theorem ck_a_2 (P : Params) : ckTab P 376 tab_a_2 = true := by kernel_rfl
noncomputable def tab_a_3 : List Row4 := [⟨378, [105, 99, 97, 108, 97], -1, 4⟩, ⟨381, [105, 99, 105, 118, 97], -1, 4⟩, ⟨384, [97, 116, 105, 118, 97], -1, 5⟩, ⟨387, [105, 116, 105, 118, 97], -1, 6⟩, ⟨390, [105, 99, 97, 108, 101], -1, 4⟩, ⟨393, [97, 539, 105, 117, 110, 101], -1, 5⟩, ⟨396, [105, 539, 105, 117, 110, 101], -1, 6⟩, ⟨399, [97, 116, 111, 97, 114, 101], -1, 5⟩, ⟨402, [105, 116, 111, 97, 114, 101], -1, 6⟩, ⟨405, [259, 116, 111, 97, 114, 101], -1, 5⟩, ⟨408, [105, 99, 105, 116, 97, 116, 101], -1, 4⟩, ⟨411, [97, 98, 105, 108, 105, 116, 97, 116, 101], -1, 1⟩, ⟨414, [105, 98, 105, 108, 105, 116, 97, 116, 101], -1, 2⟩, ⟨417, [105, 118, 105, 116, 97, 116, 101], -1, 3⟩, ⟨420, [105, 99, 105, 118, 101], -1, 4⟩, ⟨423, [97, 116, 105, 118, 101], -1, 5⟩, ⟨426, [105, 116, 105, 118, 101], -1, 6⟩, ⟨429, [105, 99, 97, 108, 105], -1, 4⟩, ⟨432, [97, 116, 111, 114, 105], -1, 5⟩, ⟨435, [105, 99, 97, 116, 111, 114, 105], 18, 4⟩, ⟨438, [105, 116, 111, 114, 105], -1, 6⟩, ⟨441, [259, 116, 111, 114, 105], -1, 5⟩, ⟨444, [105, 99, 105, 116, 97, 116, 105], -1, 4⟩, ⟨447, [97, 98, 105, 108, 105, 116, 97, 116, 105], -1, 1⟩, ⟨450, [105, 118, 105, 116, 97, 116, 105], -1, 3⟩, ⟨453, [105, 99, 105, 118, 105], -1, 4⟩, ⟨456, [97, 116, 105, 118, 105], -1, 5⟩, ⟨459, [105, 116, 105, 118, 105], -1, 6⟩, ⟨462, [105, 99, 105, 116, 259, 105], -1, 4⟩, ⟨465, [97, 98, 105, 108, 105, 116, 259, 105], -1, 1⟩, ⟨468, [105, 118, 105, 116, 259, 105], -1, 3⟩, ⟨471, [105, 99, 105, 116, 259, 539, 105], -1, 4⟩, ⟨474, [97, 98, 105, 108, 105, 116, 259, 539, 105], -1, 1⟩, ⟨477, [105, 118, 105, 116, 259, 539, 105], -1, 3⟩, ⟨480, [105, 99, 97, 108], -1, 4⟩, ⟨483, [97, 116, 111, 114], -1, 5⟩, ⟨486, [105, 99, 97, 116, 111, 114], 35, 4⟩, ⟨489, [105, 116, 111, 114], -1, 6⟩, ⟨492, [259, 116, 111, 114], -1, 5⟩, ⟨495, [105, 99, 105, 118], -1, 4⟩, ⟨498, [97, 116, 105, 118], -1, 5⟩, ⟨501, [105, 116, 105, 118], -1, 6⟩, ⟨504, [105, 99, 97, 108, 259], -1, 4⟩, ⟨507, [105, 99, 105, 118, 259], -1, 4⟩, ⟨510, [97, 116, 105, 118, 259], -1, 5⟩, ⟨513, [105, 116, 105, 118, 259], -1, 6⟩]
theorem ck_a_3 (P : Params) : ckTab P 515 tab_a_3 = true := by kernel_rfl
noncomputable def tab_a_4 : List Row4 := [⟨518, [105, 99, 97], -1, 1⟩, ⟨521, [97, 98, 105, 108, 97], -1, 1⟩, ⟨524, [105, 98, 105, 108, 97], -1, 1⟩, ⟨527, [111, 97, 115, 97], -1, 1⟩, ⟨530, [97, 116, 97], -1, 1⟩, ⟨533, [105, 116, 97], -1, 1⟩, ⟨536, [97, 110, 116, 97], -1, 1⟩, ⟨539, [105, 115, 116, 97], -1, 3⟩, ⟨542, [117, 116, 97], -1, 1⟩, ⟨545, [105, 118, 97], -1, 1⟩, ⟨548, [105, 99], -1, 1⟩, ⟨551, [105, 99, 101], -1, 1⟩, ⟨554, [97, 98, 105, 108, 101], -1, 1⟩, ⟨557, [105, 98, 105, 108, 101], -1, 1⟩, ⟨560, [105, 115, 109, 101], -1, 3⟩, ⟨563, [105, 117, 110, 101], -1, 2⟩, ⟨566, [111, 97, 115, 101], -1, 1⟩, ⟨569, [97, 116, 101], -1, 1⟩, ⟨572, [105, 116, 97, 116, 101], 17, 1⟩, ⟨575, [105, 116, 101], -1, 1⟩, ⟨578, [97, 110, 116, 101], -1, 1⟩, ⟨581, [105, 115, 116, 101], -1, 3⟩, ⟨584, [117, 116, 101], -1, 1⟩, ⟨587, [105, 118, 101], -1, 1⟩, ⟨590, [105, 99, 105], -1, 1⟩, ⟨593, [97, 98, 105, 108, 105], -1, 1⟩, ⟨596, [105, 98, 105, 108, 105], -1, 1⟩, ⟨599, [105, 117, 110, 105], -1, 2⟩, ⟨602, [97, 116, 111, 114, 105], -1, 1⟩, ⟨605, [111, 115, 105], -1, 1⟩, ⟨608, [97, 116, 105], -1, 1⟩, ⟨611, [105, 116, 97, 116, 105], 30, 1⟩, ⟨614, [105, 116, 105], -1, 1⟩, ⟨617, [97, 110, 116, 105], -1, 1⟩, ⟨620, [105, 115, 116, 105], -1, 3⟩, ⟨623, [117, 116, 105], -1, 1⟩, ⟨626, [105, 537, 116, 105], -1, 3⟩, ⟨629, [105, 118, 105], -1, 1⟩, ⟨632, [105, 116, 259, 105], -1, 1⟩, ⟨635, [111, 537, 105], -1, 1⟩, ⟨638, [105, 116, 259, 539, 105], -1, 1⟩, ⟨641, [97, 98, 105, 108], -1, 1⟩, ⟨644, [105, 98, 105, 108], -1, 1⟩, ⟨647, [105, 115, 109], -1, 3⟩, ⟨650, [97, 116, 111, 114], -1, 1⟩, ⟨653, [111, 115], -1, 1⟩, ⟨656, [97, 116], -1, 1⟩, ⟨659, [105, 116], -1, 1⟩, ⟨662, [97, 110, 116], -1, 1⟩, ⟨665, [105, 115, 116], -1, 3⟩, ⟨668, [117, 116], -1, 1⟩, ⟨671, [105, 118], -1, 1⟩, ⟨674, [105, 99, 259], -1, 1⟩, ⟨677, [97, 98, 105, 108, 259], -1, 1⟩, ⟨680, [105, 98, 105, 108, 259], -1, 1⟩, ⟨683, [111, 97, 115, 259], -1, 1⟩, ⟨686, [97, 116, 259], -1, 1⟩, ⟨689, [105, 116, 259], -1, 1⟩, ⟨692, [97, 110, 116, 259], -1, 1⟩, ⟨695, [105, 115, 116, 259], -1, 3⟩, ⟨698, [117, 116, 259], -1, 1⟩, ⟨701, [105, 118, 259], -1, 1⟩]
theorem ck_a_4 (P : Params) : ckTab P 703 tab_a_4 = true := by kernel_rfl
noncomputable def tab_a_5 : List Row4 := [⟨705, [101, 97], -1, 1⟩, ⟨708, [105, 97], -1, 1⟩, ⟨711, [101, 115, 99], -1, 1⟩, ⟨714, [259, 115, 99], -1, 1⟩, ⟨717, [105, 110, 100], -1, 1⟩, ⟨720, [226, 110, 100], -1, 1⟩, ⟨723, [97, 114, 101], -1, 1⟩, ⟨726, [101, 114, 101], -1, 1⟩, ⟨729, [105, 114, 101], -1, 1⟩, ⟨732, [226, 114, 101], -1, 1⟩, ⟨735, [115, 101], -1, 2⟩, ⟨738, [97, 115, 101], 10, 1⟩, ⟨741, [115, 101, 115, 101], 10, 2⟩, ⟨744, [105, 115, 101], 10, 1⟩, ⟨747, [117, 115, 101], 10, 1⟩, ⟨750, [226, 115, 101], 10, 1⟩, ⟨753, [101, 537, 116, 101], -1, 1⟩, ⟨756, [259, 537, 116, 101], -1, 1⟩, ⟨759, [101, 122, 101], -1, 1⟩, ⟨762, [97, 105], -1, 1⟩, ⟨765, [101, 97, 105], 19, 1⟩, ⟨768, [105, 97, 105], 19, 1⟩, ⟨771, [115, 101, 105], -1, 2⟩, ⟨774, [101, 537, 116, 105], -1, 1⟩, ⟨777, [259, 537, 116, 105], -1, 1⟩, ⟨780, [117, 105], -1, 1⟩, ⟨783, [101, 122, 105], -1, 1⟩, ⟨786, [226, 105], -1, 1⟩, ⟨789, [97, 537, 105], -1, 1⟩, ⟨792, [115, 101, 537, 105], -1, 2⟩, ⟨795, [97, 115, 101, 537, 105], 29, 1⟩, ⟨798, [115, 101, 115, 101, 537, 105], 29, 2⟩, ⟨801, [105, 115, 101, 537, 105], 29, 1⟩, ⟨804, [117, 115, 101, 537, 105], 29, 1⟩, ⟨807, [226, 115, 101, 537, 105], 29, 1⟩, ⟨810, [105, 537, 105], -1, 1⟩, ⟨813, [117, 537, 105], -1, 1⟩, ⟨816, [226, 537, 105], -1, 1⟩, ⟨819, [97, 539, 105], -1, 2⟩, ⟨822, [101, 97, 539, 105], 38, 1⟩, ⟨825, [105, 97, 539, 105], 38, 1⟩, ⟨828, [101, 539, 105], -1, 2⟩, ⟨831, [105, 539, 105], -1, 2⟩, ⟨834, [226, 539, 105], -1, 2⟩, ⟨837, [97, 114, 259, 539, 105], -1, 1⟩, ⟨840, [115, 101, 114, 259, 539, 105], -1, 2⟩, ⟨843, [97, 115, 101, 114, 259, 539, 105], 45, 1⟩, ⟨846, [115, 101, 115, 101, 114, 259, 539, 105], 45, 2⟩, ⟨849, [105, 115, 101, 114, 259, 539, 105], 45, 1⟩, ⟨852, [117, 115, 101, 114, 259, 539, 105], 45, 1⟩, ⟨855, [226, 115, 101, 114, 259, 539, 105], 45, 1⟩, ⟨858, [105, 114, 259, 539, 105], -1, 1⟩, ⟨861, [117, 114, 259, 539, 105], -1, 1⟩, ⟨864, [226, 114, 259, 539, 105], -1, 1⟩, ⟨867, [97, 109], -1, 1⟩, ⟨870, [101, 97, 109], 54, 1⟩, ⟨873, [105, 97, 109], 54, 1⟩, ⟨876, [101, 109], -1, 2⟩, ⟨879, [97, 115, 101, 109], 57, 1⟩, ⟨882, [115, 101, 115, 101, 109], 57, 2⟩, ⟨885, [105, 115, 101, 109], 57, 1⟩, ⟨888, [117, 115, 101, 109], 57, 1⟩, ⟨891, [226, 115, 101, 109], 57, 1⟩, ⟨894, [105, 109], -1, 2⟩, ⟨897, [226, 109], -1, 2⟩, ⟨900, [259, 109], -1, 2⟩, ⟨903, [97, 114, 259, 109], 65, 1⟩, ⟨906, [115, 101, 114, 259, 109], 65, 2⟩, ⟨909, [97, 115, 101, 114, 259, 109], 67, 1⟩, ⟨912, [115, 101, 115, 101, 114, 259, 109], 67, 2⟩, ⟨915, [105, 115, 101, 114, 259, 109], 67, 1⟩, ⟨918, [117, 115, 101, 114, 259, 109], 67, 1⟩, ⟨921, [226, 115, 101, 114, 259, 109], 67, 1⟩, ⟨924, [105, 114, 259, 109], 65, 1⟩, ⟨927, [117, 114, 259, 109], 65, 1⟩, ⟨930, [226, 114, 259, 109], 65, 1⟩, ⟨933, [97, 117], -1, 1⟩, ⟨936, [101, 97, 117], 76, 1⟩, ⟨939, [105, 97, 117], 76, 1⟩, ⟨942, [105, 110, 100, 117], -1, 1⟩, ⟨945, [226, 110, 100, 117], -1, 1⟩, ⟨948, [101, 122], -1, 1⟩, ⟨951, [101, 97, 115, 99, 259], -1, 1⟩, ⟨954, [97, 114, 259], -1, 1⟩, ⟨957, [115, 101, 114, 259], -1, 2⟩, ⟨960, [97, 115, 101, 114, 259], 84, 1⟩, ⟨963, [115, 101, 115, 101, 114, 259], 84, 2⟩, ⟨966, [105, 115, 101, 114, 259], 84, 1⟩, ⟨969, [117, 115, 101, 114, 259], 84, 1⟩, ⟨972, [226, 115, 101, 114, 259], 84, 1⟩, ⟨975, [105, 114, 259], -1, 1⟩, ⟨978, [117, 114, 259], -1, 1⟩, ⟨981, [226, 114, 259], -1, 1⟩, ⟨984, [101, 97, 122, 259], -1, 1⟩]
theorem ck_a_5 (P : Params) : ckTab P 986 tab_a_5 = true := by kernel_rfl
noncomputable def tab_a_6 : List Row4 := [⟨988, [97], -1, 1⟩, ⟨991, [101], -1, 1⟩, ⟨994, [105, 101], 1, 1⟩, ⟨997, [105], -1, 1⟩, ⟨1000, [259], -1, 1⟩]
theorem ck_a_6 (P : Params) : ckTab P 1002 tab_a_6 = true := by kernel_rfl
noncomputable def tab_as_0 : List (List Nat) := [[537], [539]]
theorem ck_as_0 (P : Params) : ckT P 317 (tab_as_0.map .s) = true := by kernel_rfl
noncomputable def tab_as_3 : List (List Nat) := [[97, 98, 105, 108], [105, 98, 105, 108], [105, 118], [105, 99], [97, 116], [105, 116]]
theorem ck_as_3 (P : Params) : ckT P 516 (tab_as_3.map .s) = true := by kernel_rfl
open Lean in
def wn (k : String) (as : List Syntax) : Syntax := .node .none k.toName as.toArray
open Lean in
def wa (s : String) : Syntax := .atom .none s
open Lean in
def wt (k : String) (as : List Syntax) : Syntax := wn ("Lean.Parser." ++ k) as
open Lean in
def wi (n : Name) : Syntax := .ident .none "".toRawSubstring n []
open Lean in
def wq (ts : List Syntax) : Syntax := wt "Tactic.tacticSeq" [wt "Tactic.tacticSeq1Indented" [wn "null" (ts.intersperse (wa ";"))]]
open Lean in
def wp (ts : List Syntax) : Syntax := wt "Tactic.paren" [wa "(", wq ts, wa ")"]
open Lean in
def wc (as : List Syntax) : Syntax := wt "Tactic.optConfig" [wn "null" as]
open Lean in
def wO (ts : List Syntax) : List Syntax := ts.map fun t => wn "group" [wa "|", wq [t]]
open Lean in
def wT (s : String) : Syntax :=
 match s with
 | "a" => wt "Tactic.assumption" [wa s]
 | "r" => wt "Tactic.tacticRfl" [wa s]
 | "o" => wt "Tactic.first" [wa s, wn "null" (wO [wt "Tactic.withReducible" [wa s, wq [wt "Tactic.assumption" [wa s]]], wt "Tactic.lia" [wa s, wc []]])]
 | "d" => wt "Tactic.decide" [wa s, wc []]
 | "k" => wt "Tactic.decide" [wa s, wc [wt "Tactic.configItem" [wt "Tactic.posConfigItem" [wa "+", wi `kernel]]]]
 | s => wn "PyProof.Rows.tacticWalk_at_" [wa s, Syntax.mkStrLit ("m " ++ s)]
open Lean in
def wC (f : String → Name) (cs : List String) : List Syntax := cs.map fun p => match p.splitOn "=" with
 | [a, b] => wt "Tactic.case" [wa a, wn "null" [wt "Tactic.caseArg" [wn "Lean.binderIdent" [wi (f a)], wn "null" []]], wa a, wq [wT b]]
 | _ => wT p
open Lean in
def wH (f : String → Name) (hs : List String) : List Syntax := (hs.filter (· != "")).map fun h =>
 if h == "_" then wt "Term.hole" [wa h] else match h.splitOn "%" with
 | [_, n] => wt "Term.app" [wi n.toName, wn "null" [wt "Term.hole" [wa "_"]]]
 | _ => wt "Term.syntheticHole" [wa "?", wi (f h)]
open Lean in
def wR (slow : Bool) (t : Syntax) : Syntax := if slow then t else wt "Tactic.withReducible" [wa "", wq [t]]
open Lean in
def wX (slow : Bool) (k : String) (hs cs : List Syntax) (x : String) : Syntax :=
 let x := wi x.toName
 let t := wR slow (wt k [wa "", if hs.isEmpty then x else wt "Term.app" [x, wn "null" hs]])
 if cs.isEmpty then t else wp (t :: cs)
open Lean in
def wG (f : String → Name) (g : String) : List Syntax :=
 let slow := g.startsWith "~"
 match (if slow then (g.drop 1).toString else g).splitOn "|" with
 | [hs, cs, ns] =>
  let hs := wH f (hs.splitOn " ")
  if cs == "" then (ns.splitOn " ").map (wX slow "Tactic.exact" hs []) else (ns.splitOn " ").map (wX slow "Tactic.refine'" hs (wC f (cs.splitOn " ")))
 | _ => [wT g]
open Lean in
def wF (s : String) : MacroM (TSyntax `tactic) := do
 if s == "" then Macro.throwUnsupported
 let n ← Macro.addMacroScope `x
 let v := extractMacroScopes n
 return ⟨wt "Tactic.first" [wa s, wn "null" (wO ((s.splitOn ";").flatMap (wG fun h => MacroScopesView.review { v with name := h.toName })))]⟩
def wA : String → String
 | "m t1" => "~_||set_ok"
 | "m t2" => "~x0|x0=k|iSelf"
 | "m t4" => "~x0|x0=k|sSelf"
 | "m t5" => "~x0|x0=r|Or.inl"
 | "m t6" => "~x0|x0=r|glob_at"
 | "m t7" => "~x0|x0=r|cls_at"
 | "m t8" => "~x0|x0=num|len_S"
 | "m t9" => "~x0|x0=r|en_meth"
 | "m t10" => "~x0|x0=r|meth_at"
 | "m t11" => "q|q=bool|andg_f;q k|q=bool k=tst|andg_t"
 | "m t12" => "q|q=bool|org_t;q k|q=bool k=tst|org_f"
 | "m t13" => "||tryg_next tryg_brk tryg_cont tryg_ret;~x0|x0=r|tryg_exc"
 | "m t14" => "||once_brk once_ret once_exc"
 | "m t15" => "~x0|x0=r|glob_at;~x0|x0=r|globL_at"
 | "m t16" => "~_||ck_letters"
 | "m le" => "~x0|x0=r|Nat.le_of_ble_eq_true"
 | "m t18" => "~x0|x0=num|len_S;lenL"
 | "m lenL" => "~x0 x1 x2|x0=a x1=isL x2=num|len_L"
 | "m t19" => "~x0 _ _|x0=a|min_I"
 | "m t20" => "~x0 _ _|x0=a|max_I"
 | "m t21" => "~x0|x0=d|keep_at"
 | "m t25" => "~x0|x0=r|isL_d"
 | "m t28" => "~x0|x0=r|isT_d"
 | "m t27" => "~x0|x0=le|Or.inr"
 | "m ord" => "~||ord_S"
 | "m inst" => "~x0|x0=k|instA"
 | "m isL" => "t25;~x0|x0=a|isL_a"
 | "m isT" => "~x0|x0=a|isT_a"
 | "m hx" => "a;r"
 | "m num" => "o;nul;d"
 | "m side" => "a;o;~p q r s|p=o q=o r=o s=o|betB.mk;~p q r|p=o q=o r=o|bet.mk;~x0|x0=o|Or.inl;~x0|x0=a|Or.inr;d;nul"
 | "m sub" => "~||SubL.nil;~h t|h=r t=sub|SubL.cons"
 | "m dw" => "~h1 h2 h3|h1=sx h2=sub h3=r|sx_dropW"
 | "m ret" => "~h1 h2 h3|h1=sxs h2=r h3=r|out_ret"
 | "m local" => "~hsc e|hsc=a e=k|kL"
 | "m self" => "hc hv hk|hc=a hv=r hk=local|selfAt"
 | "m evl" => "||evl_nil;h g|h=ev g=evl|evl_cons"
 | "m ife" => "q g|q=bool g=ev|ife_t ife_f"
 | "m ifg" => "q g|q=bool g=sxs|ifg_t ifg_f"
 | "m sq" => "k|k=sxs|sq_next;||sq_brk sq_cont sq_ret sq_exc"
 | "m elt" => "a b c d e|a=r b=r c=k d=elt e=elt|elt_if;||elt_const;a b c|a=r b=r c=k|elt_name"
 | _ => ""
local macro_rules | `(tactic| walk_at $s:str) => wF (wA s.getString)
local macro_rules | `(tactic| walk_at "m t3") => `(tactic| (intro q; cases q))
local macro_rules | `(tactic| walk_at "m nul") => `(tactic| (simp only [List.length_append, List.length_take, List.length_drop, List.length_cons, List.length_nil, List.length_map]; lia))
local macro_rules | `(tactic| walk_at "m bul") => `(tactic| (simp only [decide_eq_true_eq, decide_eq_false_iff_not, Bool.not_eq_true', Bool.not_eq_false', beq_iff_eq, bne_iff_ne, beq_eq_false_iff_ne, bne_eq_false_iff_eq, ne_eq]; first | lia | assumption))
local macro_rules | `(tactic| walk_at "m sim") => `(tactic| (simp [*]; done))
section
def wB0 : String → String
 | "m op" => "_ _||op_ge op_gt op_le op_lt op_eq op_ne op_eqS op_neS op_add op_sub op_iadd op_isub;hc ok|hc=a ok=t1|notin_set in_set"
 | "m ev" => "_ _ _||ev_int ev_str ev_bool;hc hv hk hd|hc=a hv=r hk=local hd=k|ev_local;hc h ek ev ok|hc=a h=ev ek=r ev=r ok=t2|ev_attr_dyn;h g ho|h=ev g=ev ho=op|ev_bin;hm h g ho|hm=r h=ev g=ev ho=op|ev_cmp;hi h g h0 h1 hx|hi=r h=ev g=ev h0=o h1=o hx=a|ev_sub_str"
 | "m tst" => "||ev_true;hm h g ho|hm=r h=ev g=ev ho=op|tst_cmp;h|h=tst|tst_not;hp h|hp=r h=ev|tst_ev"
 | "m sx" => "_||sx_pass sx_break sx_continue;h|h=ev|sx_return;hc hcomp h hk|hc=a hcomp=r h=ev hk=local|sx_assign;hc hcomp h ho ek ok hz|hc=a hcomp=r h=ev ho=ev ek=r ok=t4 hz=t5|sx_assign_attr;hc ho ek ev okg h hop ek₂ ok hz|hc=a ho=ev ek=r ev=r okg=t2 h=ev hop=op ek₂=r ok=t4 hz=t5|sx_aug_attr;h q g|h=tst q=bool g=sxs|if_t if_f"
 | "m bool" => "r;a;bul;sim"
 | "m sxs" => "||sx_nil;~h g|h=sx g=sxs|sx_cons_next;~hn h|h=sx hn=t3|sx_cons_stop"
 | _ => ""
local macro_rules | `(tactic| walk_at $s:str) => wF (wB0 s.getString)
noncomputable def Stm.at (x : Stm) : List Nat := (x.cur[x.cursor.toNat]?).toList
noncomputable def Stm.inG (x : Stm) : Bool := decide (x.cursor < x.limit) && isVow x.at
noncomputable def Stm.outG (x : Stm) : Bool := decide (x.cursor < x.limit) && !isVow x.at
noncomputable def Stm.step (x : Stm) (b : Bool) : Stm := if b then { x with cursor := x.cursor + 1 } else x
structure Stm.Ok (x : Stm) : Prop where
 c0 : 0 ≤ x.cursor
 cl : x.limit ≤ x.cur.length
 z : x.cur.length ≤ 1000
theorem Stm.Ok.sign {x : Stm} (h : x.Ok) (hl : x.cursor < x.limit) : ∃ n, x.cur[x.cursor.toNat]? = some n := by
 have := h.cl
 have := h.c0
 exact ⟨_, List.getElem?_eq_getElem (by lia)⟩
theorem c_in_grouping (D : Nat) {x : Stm} (h : x.Ok) : CallS D 63 [.d 0, .a 232] [x.o] (.b x.inG) [(x.step x.inG).o] := by
 refine call_body fn63 rfl fun c hc hsc => ?_
 have := h.c0; have := h.cl; have := h.z
 by_cases hl : x.cursor < x.limit
 ·obtain ⟨n, hn⟩ := h.sign hl
  have ha : x.at = [n] := by unfold Stm.at; rw [hn]; rfl
  cases hv : isVow [n] with
  | true =>
   have e : x.inG = true := by unfold Stm.inG; rw [ha, hv, decide_eq_true hl]; rfl
   rw [e]
   refine' out_ret ?h1 ?h2 ?h3
   case h1 => walk_at "m sxs"
   case h2 => rfl
   case h3 => rfl
  | false =>
   have e : x.inG = false := by unfold Stm.inG; rw [ha, hv, decide_eq_true hl]; rfl
   rw [e]
   refine' out_ret ?h1 ?h2 ?h3
   case h1 => walk_at "m sxs"
   case h2 => rfl
   case h3 => rfl
 ·have e : x.inG = false := by unfold Stm.inG; rw [decide_eq_false hl]; rfl
  rw [e]
  refine' out_ret ?h1 ?h2 ?h3
  case h1 => walk_at "m sxs"
  case h2 => rfl
  case h3 => rfl
theorem c_out_grouping (D : Nat) {x : Stm} (h : x.Ok) : CallS D 91 [.d 0, .a 232] [x.o] (.b x.outG) [(x.step x.outG).o] := by
 refine call_body fn91 rfl fun c hc hsc => ?_
 have := h.c0; have := h.cl; have := h.z
 by_cases hl : x.cursor < x.limit
 ·obtain ⟨n, hn⟩ := h.sign hl
  have ha : x.at = [n] := by unfold Stm.at; rw [hn]; rfl
  cases hv : isVow [n] with
  | true =>
   have e : x.outG = false := by unfold Stm.outG; rw [ha, hv, decide_eq_true hl]; rfl
   rw [e]
   refine' out_ret ?h1 ?h2 ?h3
   case h1 => walk_at "m sxs"
   case h2 => rfl
   case h3 => rfl
  | false =>
   have e : x.outG = true := by unfold Stm.outG; rw [ha, hv, decide_eq_true hl]; rfl
   rw [e]
   refine' out_ret ?h1 ?h2 ?h3
   case h1 => walk_at "m sxs"
   case h2 => rfl
   case h3 => rfl
 ·have e : x.outG = false := by unfold Stm.outG; rw [decide_eq_false hl]; rfl
  rw [e]
  refine' out_ret ?h1 ?h2 ?h3
  case h1 => walk_at "m sxs"
  case h2 => rfl
  case h3 => rfl
noncomputable def Lp (c : Cx) (s : Stmt) (n : Nat) (loc : Ls) (sto : Sto) (o : Out) (loc' : Ls) (sto' : Sto) : Prop := match s with
 | .While t b [] _ => Turns c t b n loc sto o loc' sto'
 | _ => False
theorem turns_next {c : Cx} {t : PySem.Expr} {b : List Stmt} {n : Nat} {loc loc₂ loc₃ loc₄ : Ls} {sto sto₁ sto₂ sto₃ sto₄ : Sto} {o : Out} (h : Tst c t loc sto true sto₁) (g : Sx c (execs b c.env) loc sto₁ .next loc₂ sto₂) (el : loc₂ = loc₃) (es : sto₂ = sto₃) (r : Turns c t b n loc₃ sto₃ o loc₄ sto₄) : Turns c t b (n + 1) loc sto o loc₄ sto₄ := by
 subst el; subst es; exact .next h g r
noncomputable def w70 : Stmt := nthS (defBody (cst 2 5)) 0
theorem addO (x : Stm) (k : Int) : ({ x with cursor := x.cursor + k } : Stm).o = .inst 1005 (put (kS "cursor") (.i (x.cursor + k)) x.fs) := rfl
noncomputable def Stm.rest (x : Stm) : List Nat := (x.cur.drop x.cursor.toNat).take (x.limit - x.cursor).toNat
noncomputable def Stm.skip (x : Stm) (p : Nat → Bool) : Nat := (x.rest.takeWhile p).length
noncomputable def Stm.goes (x : Stm) (p : Nat → Bool) : Stm := { x with cursor := x.cursor + x.skip p }
noncomputable def Stm.found (x : Stm) (p : Nat → Bool) : Bool := decide (x.skip p < x.rest.length)
theorem rest_nil {x : Stm} (h : ¬ x.cursor < x.limit) : x.rest = [] := by
 unfold Stm.rest
 rw [show (x.limit - x.cursor).toNat = 0 by lia, List.take_zero]
theorem rest_cons {x : Stm} (h : x.Ok) (hl : x.cursor < x.limit) {n : Nat} (hn : x.cur[x.cursor.toNat]? = some n) : x.rest = n :: ({ x with cursor := x.cursor + 1 } : Stm).rest := by
 unfold Stm.rest
 obtain ⟨h1, h2⟩ := List.getElem?_eq_some_iff.mp hn
 have h0 := h.c0
 rw [show (x.limit - x.cursor).toNat = (x.limit - (x.cursor + 1)).toNat + 1 by lia, List.drop_eq_getElem_cons h1, List.take_succ_cons, h2]
 show _ = n :: ((x.cur.drop (x.cursor + 1).toNat).take (x.limit - (x.cursor + 1)).toNat)
 rw [show (x.cursor + 1).toNat = x.cursor.toNat + 1 by lia]
noncomputable def vw (n : Nat) : Bool := isVow [n]
theorem go_in_turns (c : Cx) {D : Nat} (hc : c.OK D) (hsc : c.scope = defScope (cst 2 5)) : ∀ (k : Nat) (x : Stm), (x.limit - x.cursor).toNat = k → x.Ok →
  ∃ n o loc', Lp c w70 n (locs0 [S "self", S "s"] [.d 0, .a 232]) [x.o] o loc' [(x.goes vw).o] ∧ (x.found vw = true → o = .ret (.b true)) ∧ (x.found vw = false → o = .next ∧ loc' = locs0 [S "self", S "s"] [.d 0, .a 232]) := by
 intro k
 induction k with
 | zero =>
  intro x hk h
  have hl : ¬ x.cursor < x.limit := by lia
  have e1 : x.goes vw = x := by unfold Stm.goes Stm.skip; rw [rest_nil hl]; simp
  have e2 : x.found vw = false := by unfold Stm.found; rw [rest_nil hl]; simp
  refine ⟨0, .next, _, ?_, (fun q => by rw [e2] at q; cases q), fun _ => ⟨rfl, rfl⟩⟩
  rw [e1]
  show Turns c _ _ _ _ _ _ _ _
  refine' Turns.stop ?h1
  case h1 =>
   refine' tst_cast ?h2 ?h3
   case h2 => walk_at "m tst"
   case h3 => walk_at "m bool"
 | succ k ih =>
  intro x hk h
  have h0 := h.c0; have h1 := h.cl; have h2 := h.z
  have hl : x.cursor < x.limit := by lia
  obtain ⟨n, hn⟩ := h.sign hl
  have er := rest_cons h hl hn
  cases hv : isVow [n] with
  | false =>
   have e1 : x.goes vw = x := by
    unfold Stm.goes Stm.skip
    rw [er, List.takeWhile_cons, show vw n = false from hv]; simp
   have e2 : x.found vw = true := by
    unfold Stm.found Stm.skip
    rw [er, List.takeWhile_cons, show vw n = false from hv]; simp
   refine ⟨0, .ret (.b true), locs0 [S "self", S "s"] [.d 0, .a 232], ?_, fun _ => rfl, fun q => by rw [e2] at q; cases q⟩
   rw [e1]
   show Turns c _ _ _ _ _ _ _ _
   refine' Turns.ret ?h3 ?h4
   case h3 =>
    refine' tst_cast ?h5 ?h6
    case h5 => walk_at "m tst"
    case h6 => walk_at "m bool"
   case h4 => walk_at "m sxs"
  | true =>
   obtain ⟨m, o, loc', T, a, b⟩ := ih { x with cursor := x.cursor + 1 } (by show (x.limit - (x.cursor + 1)).toNat = k; lia) ⟨by show 0 ≤ x.cursor + 1; lia, h1, h2⟩
   have e1 : ({ x with cursor := x.cursor + 1 } : Stm).goes vw = x.goes vw := by
    unfold Stm.goes Stm.skip
    rw [er, List.takeWhile_cons, show vw n = true from hv]
    simp; lia
   have e2 : ({ x with cursor := x.cursor + 1 } : Stm).found vw = x.found vw := by
    unfold Stm.found Stm.skip
    rw [er, List.takeWhile_cons, show vw n = true from hv]
    simp
   rw [e1] at T
   rw [e2] at a b
   refine ⟨m + 1, o, loc', ?_, a, b⟩
   show Turns c _ _ _ _ _ _ _ _
   refine' turns_next ?h3 ?h4 ?h7 ?h8 T
   case h3 =>
    refine' tst_cast ?h5 ?h6
    case h5 => walk_at "m tst"
    case h6 => walk_at "m bool"
   case h4 => walk_at "m sxs"
   case h7 => rfl
   case h8 => rfl
theorem c_go_in (D : Nat) {x : Stm} (h : x.Ok) : CallS D 70 [.d 0, .a 232] [x.o] (.b (x.found vw)) [(x.goes vw).o] := by
 refine call_body fn70 rfl fun c hc hsc => ?_
 obtain ⟨n, o, loc', T, a, b⟩ := go_in_turns c hc hsc _ x rfl h
 cases q : x.found vw with
 | true =>
  obtain rfl := a q
  refine' out_ret ?h1 ?h2 ?h3
  case h1 =>
   refine' sx_cons_stop ?h4 ?h5
   case h5 => exact sx_while (n := n) T
   case h4 => intro z; cases z
  case h2 => rfl
  case h3 => rfl
 | false =>
  obtain ⟨rfl, rfl⟩ := b q
  refine' out_ret ?h1 ?h2 ?h3
  case h1 =>
   refine' sx_cons_next ?h4 ?h5
   case h4 => exact sx_while (n := n) T
   case h5 => walk_at "m sxs"
  case h2 => rfl
  case h3 => rfl
noncomputable def nvw (n : Nat) : Bool := !isVow [n]
noncomputable def w98 : Stmt := nthS (defBody (cst 2 9)) 0
theorem go_out_turns (c : Cx) {D : Nat} (hc : c.OK D) (hsc : c.scope = defScope (cst 2 9)) : ∀ (k : Nat) (x : Stm), (x.limit - x.cursor).toNat = k → x.Ok →
  ∃ n o loc', Lp c w98 n (locs0 [S "self", S "s"] [.d 0, .a 232]) [x.o] o loc' [(x.goes nvw).o] ∧ (x.found nvw = true → o = .ret (.b true)) ∧ (x.found nvw = false → o = .next ∧ loc' = locs0 [S "self", S "s"] [.d 0, .a 232]) := by
 intro k
 induction k with
 | zero =>
  intro x hk h
  have hl : ¬ x.cursor < x.limit := by lia
  have e1 : x.goes nvw = x := by unfold Stm.goes Stm.skip; rw [rest_nil hl]; simp
  have e2 : x.found nvw = false := by unfold Stm.found; rw [rest_nil hl]; simp
  refine ⟨0, .next, _, ?_, (fun q => by rw [e2] at q; cases q), fun _ => ⟨rfl, rfl⟩⟩
  rw [e1]
  show Turns c _ _ _ _ _ _ _ _
  refine' Turns.stop ?h1
  case h1 =>
   refine' tst_cast ?h2 ?h3
   case h2 => walk_at "m tst"
   case h3 => walk_at "m bool"
 | succ k ih =>
  intro x hk h
  have h0 := h.c0; have h1 := h.cl; have h2 := h.z
  have hl : x.cursor < x.limit := by lia
  obtain ⟨n, hn⟩ := h.sign hl
  have er := rest_cons h hl hn
  cases hv : isVow [n] with
  | true =>
   have e1 : x.goes nvw = x := by
    unfold Stm.goes Stm.skip
    rw [er, List.takeWhile_cons, show nvw n = false by unfold nvw; rw [hv]; rfl]; simp
   have e2 : x.found nvw = true := by
    unfold Stm.found Stm.skip
    rw [er, List.takeWhile_cons, show nvw n = false by unfold nvw; rw [hv]; rfl]; simp
   refine ⟨0, .ret (.b true), locs0 [S "self", S "s"] [.d 0, .a 232], ?_, fun _ => rfl, fun q => by rw [e2] at q; cases q⟩
   rw [e1]
   show Turns c _ _ _ _ _ _ _ _
   refine' Turns.ret ?h3 ?h4
   case h3 =>
    refine' tst_cast ?h5 ?h6
    case h5 => walk_at "m tst"
    case h6 => walk_at "m bool"
   case h4 => walk_at "m sxs"
  | false =>
   obtain ⟨m, o, loc', T, a, b⟩ := ih { x with cursor := x.cursor + 1 } (by show (x.limit - (x.cursor + 1)).toNat = k; lia) ⟨by show 0 ≤ x.cursor + 1; lia, h1, h2⟩
   have e1 : ({ x with cursor := x.cursor + 1 } : Stm).goes nvw = x.goes nvw := by
    unfold Stm.goes Stm.skip
    rw [er, List.takeWhile_cons, show nvw n = true by unfold nvw; rw [hv]; rfl]
    simp; lia
   have e2 : ({ x with cursor := x.cursor + 1 } : Stm).found nvw = x.found nvw := by
    unfold Stm.found Stm.skip
    rw [er, List.takeWhile_cons, show nvw n = true by unfold nvw; rw [hv]; rfl]
    simp
   rw [e1] at T
   rw [e2] at a b
   refine ⟨m + 1, o, loc', ?_, a, b⟩
   show Turns c _ _ _ _ _ _ _ _
   refine' turns_next ?h3 ?h4 ?h7 ?h8 T
   case h3 =>
    refine' tst_cast ?h5 ?h6
    case h5 => walk_at "m tst"
    case h6 => walk_at "m bool"
   case h4 => walk_at "m sxs"
   case h7 => rfl
   case h8 => rfl
theorem c_go_out (D : Nat) {x : Stm} (h : x.Ok) : CallS D 98 [.d 0, .a 232] [x.o] (.b (x.found nvw)) [(x.goes nvw).o] := by
 refine call_body fn98 rfl fun c hc hsc => ?_
 obtain ⟨n, o, loc', T, a, b⟩ := go_out_turns c hc hsc _ x rfl h
 cases q : x.found nvw with
 | true =>
  obtain rfl := a q
  refine' out_ret ?h1 ?h2 ?h3
  case h1 =>
   refine' sx_cons_stop ?h4 ?h5
   case h5 => exact sx_while (n := n) T
   case h4 => intro z; cases z
  case h2 => rfl
  case h3 => rfl
 | false =>
  obtain ⟨rfl, rfl⟩ := b q
  refine' out_ret ?h1 ?h2 ?h3
  case h1 =>
   refine' sx_cons_next ?h4 ?h5
   case h4 => exact sx_while (n := n) T
   case h5 => walk_at "m sxs"
  case h2 => rfl
  case h3 => rfl
end
section
def wB1 : String → String
 | "m op" => "_ _||op_ge op_gt op_le op_lt op_eq op_ne op_eqS op_neS op_add op_sub op_iadd op_isub;_ _ hz|hz=num|op_addS;hc ok|hc=a ok=t1|notin_set in_set"
 | "m ev" => "_ _ _||ev_int ev_str ev_bool;hc h|hc=a h=self|get_cur get_cursor get_limit get_lb get_bra get_ket;hc hv hk hd|hc=a hv=r hk=local hd=k|ev_local;hc e hk hd|hc=a e=t6 hk=local hd=k|ev_global;hc h ok|hc=a h=ev ok=t7|ev_attr_cls;hc h ek ev ok|hc=a h=ev ek=r ev=r ok=t2|ev_attr_dyn;h g ho|h=ev g=ev ho=op|ev_bin;h|h=ev|ev_neg;hm h g ho|hm=r h=ev g=ev ho=op|ev_cmp;hc h ga gb h0 h1 h2 hz|hc=a h=ev ga=ev gb=ev h0=o h1=o h2=o hz=o|ev_sub_ss;hc h ga h0 hz|hc=a h=ev ga=ev h0=o hz=o|ev_sub_sn;hc h gb h0 h2 hz|hc=a h=ev gb=ev h0=o h2=o hz=o|ev_sub_ns;hi h g h0 h1 hx|hi=r h=ev g=ev h0=o h1=o hx=a|ev_sub_str;hc %bi_len hk hs h hb|hc=a hk=local hs=r h=ev hb=t8|builtin1;hb hs hline h g|hb=r hs=r hline=r h=ev g=evl|ev_endswith;hc hs hlen hline h ek en ok g hcall|hc=a hs=r hlen=d hline=r h=ev ek=r en=t9 ok=t10 g=evl hcall=hcall|ev_meth"
 | "m tst" => "||ev_true;hm h g ho|hm=r h=ev g=ev ho=op|tst_cmp;h|h=tst|tst_not;hp h|hp=r h=ev|tst_ev"
 | "m sx" => "_||sx_pass sx_break sx_continue;h|h=ev|sx_return;hc hcomp hs h|hc=a hcomp=r hs=self h=ev|set_cur set_cursor set_limit set_lb set_bra set_ket;hc hs h|hc=a hs=self h=ev|add_cursor add_limit sub_cursor sub_limit;hc hcomp h hk|hc=a hcomp=r h=ev hk=local|sx_assign;hc hv hk h hop|hc=a hv=r hk=local h=ev hop=op|sx_aug;hc hcomp h|hc=a hcomp=r h=ev|sx_expr;hc h q|hc=a h=tst q=bool|assert_t;h q g|h=tst q=bool g=sxs|if_t if_f"
 | "m bool" => "r;a;bul;sim"
 | "m sxs" => "||sx_nil;~h g|h=sx g=sxs|sx_cons_next;~hn h|h=sx hn=t3|sx_cons_stop"
 | _ => ""
local macro_rules | `(tactic| walk_at $s:str) => wF (wB1 s.getString)
section
noncomputable def Stm.repl (x : Stm) (a b : Int) (s : List Nat) : Stm :=
 let adj := (s.length : Int) - (b - a)
 let y : Stm := { x with cur := x.cur.take a.toNat ++ s ++ x.cur.drop b.toNat, limit := x.limit + adj }
 if b ≤ x.cursor then { y with cursor := x.cursor + adj } else if a < x.cursor then { y with cursor := a } else y
theorem c_replace_s (D : Nat) {x : Stm} {a b : Int} {s : List Nat} (hz : x.cur.length ≤ 400) (ha : 0 ≤ a) (hab : a ≤ b) (hb : b ≤ x.cur.length) (hs : s.length ≤ 400) :
  CallS D 147 [.d 0, .i a, .i b, .s s] [x.o] (.i ((s.length : Int) - (b - a))) [(x.repl a b s).o] := by
 refine call_body fn147 rfl fun c hc hsc => ?_
 by_cases h1 : b ≤ x.cursor
 ·have e : x.repl a b s = { x with cur := x.cur.take a.toNat ++ s ++ x.cur.drop b.toNat, limit := x.limit + ((s.length : Int) - (b - a)), cursor := x.cursor + ((s.length : Int) - (b - a)) } := by
   unfold Stm.repl; simp only [h1, if_true]
  rw [e]
  refine' out_ret ?h1 ?h2 ?h3
  case h1 => walk_at "m sxs"
  case h2 => rfl
  case h3 => simp
 ·by_cases h2 : a < x.cursor
  ·have e : x.repl a b s = { x with cur := x.cur.take a.toNat ++ s ++ x.cur.drop b.toNat, limit := x.limit + ((s.length : Int) - (b - a)), cursor := a } := by
    unfold Stm.repl; simp only [h1, h2, if_true, if_false]
   rw [e]
   refine' out_ret ?h1 ?h2 ?h3
   case h1 => walk_at "m sxs"
   case h2 => rfl
   case h3 => simp
  ·have e : x.repl a b s = { x with cur := x.cur.take a.toNat ++ s ++ x.cur.drop b.toNat, limit := x.limit + ((s.length : Int) - (b - a)) } := by
    unfold Stm.repl; simp only [h1, h2, if_false]
   rw [e]
   refine' out_ret ?h1 ?h2 ?h3
   case h1 => walk_at "m sxs"
   case h2 => rfl
   case h3 => simp
noncomputable def Stm.slice (x : Stm) (s : List Nat) : Stm := { x.repl x.bra x.ket s with ket := x.bra + s.length }
theorem repl_bra (x : Stm) (a b : Int) (s : List Nat) : (x.repl a b s).bra = x.bra := by
 unfold Stm.repl
 split
 ·rfl
 ·split <;> rfl
theorem slice_eq (x : Stm) (s : List Nat) : x.slice s = ⟨(x.repl x.bra x.ket s).cur, (x.repl x.bra x.ket s).cursor, (x.repl x.bra x.ket s).limit, (x.repl x.bra x.ket s).lb, x.bra, x.bra + s.length, (x.repl x.bra x.ket s).ex⟩ := by
 show Stm.mk _ _ _ _ (x.repl x.bra x.ket s).bra _ _ = _
 rw [repl_bra]
local macro_rules | `(tactic| walk_at "m hcall") => wF "~_ hz ha hab hb hs|hz=o ha=o hab=o hb=o hs=o|c_replace_s"
structure Stm.Cut (x : Stm) : Prop where
 z : x.cur.length ≤ 400
 b0 : 0 ≤ x.bra
 bk : x.bra ≤ x.ket
 kl : x.ket ≤ x.limit
 ll : x.limit ≤ x.cur.length
theorem c_slice_from (D : Nat) {x : Stm} {s : List Nat} (h : x.Cut) (hs : s.length ≤ 400) : CallS (D + 1) 154 [.d 0, .s s] [x.o] .none [(x.slice s).o] := by
 refine call_body fn154 rfl fun c hc hsc => ?_
 have := h.z; have := h.b0; have := h.bk; have := h.kl; have := h.ll
 refine' out_next ?h1 ?h3
 case h1 => walk_at "m sxs"
 case h3 =>
  rw [slice_eq, repl_bra]
local macro_rules | `(tactic| walk_at "m hcall") => wF "~_ h hs|h=a hs=num|c_slice_from"
theorem c_slice_del (D : Nat) {x : Stm} (h : x.Cut) : CallS (D + 2) 161 [.d 0] [x.o] .none [(x.slice []).o] := by
 refine call_body fn161 rfl fun c hc hsc => ?_
 refine' out_ret ?h1 ?h2 ?h3
 case h1 => walk_at "m sxs"
 case h2 => rfl
 case h3 => rfl
end
noncomputable def Stm.bef (x : Stm) : List Nat := (x.cur[(x.cursor - 1).toNat]?).toList
noncomputable def Stm.outB (x : Stm) : Bool := decide (x.lb < x.cursor) && !isVow x.bef
noncomputable def Stm.back (x : Stm) (b : Bool) : Stm := if b then { x with cursor := x.cursor - 1 } else x
structure Stm.OkB (x : Stm) : Prop where
 l0 : 0 ≤ x.lb
 lc : x.lb ≤ x.cursor
 cl : x.cursor ≤ x.cur.length
 z : x.cur.length ≤ 1000
theorem c_out_grouping_b (D : Nat) {x : Stm} (h : x.OkB) : CallS D 105 [.d 0, .a 232] [x.o] (.b x.outB) [(x.back x.outB).o] := by
 refine call_body fn105 rfl fun c hc hsc => ?_
 have := h.l0; have := h.lc; have := h.cl; have := h.z
 by_cases hl : x.lb < x.cursor
 ·have hlt : (x.cursor - 1).toNat < x.cur.length := by lia
  obtain ⟨n, hn⟩ : ∃ n, x.cur[(x.cursor - 1).toNat]? = some n := ⟨_, List.getElem?_eq_getElem hlt⟩
  have ha : x.bef = [n] := by unfold Stm.bef; rw [hn]; rfl
  cases hv : isVow [n] with
  | true =>
   have e : x.outB = false := by unfold Stm.outB; rw [ha, hv, decide_eq_true hl]; rfl
   rw [e]
   refine' out_ret ?h1 ?h2 ?h3
   case h1 => walk_at "m sxs"
   case h2 => rfl
   case h3 => rfl
  | false =>
   have e : x.outB = true := by unfold Stm.outB; rw [ha, hv, decide_eq_true hl]; rfl
   rw [e]
   refine' out_ret ?h1 ?h2 ?h3
   case h1 => walk_at "m sxs"
   case h2 => rfl
   case h3 => rfl
 ·have e : x.outB = false := by unfold Stm.outB; rw [decide_eq_false hl]; rfl
  rw [e]
  refine' out_ret ?h1 ?h2 ?h3
  case h1 => walk_at "m sxs"
  case h2 => rfl
  case h3 => rfl
noncomputable def Stm.part (x : Stm) : List Nat := (x.cur.drop x.lb.toNat).take (x.cursor - x.lb).toNat
noncomputable def Stm.eqB (x : Stm) (s : List Nat) : Bool := endsW x.part s
theorem c_eq_s_b (D : Nat) {x : Stm} {s : List Nat} (h : x.OkB) (hs : s.length ≤ 1000) : CallS D 126 [.d 0, .s s] [x.o] (.b (x.eqB s)) [(if x.eqB s then { x with cursor := x.cursor - s.length } else x).o] := by
 refine call_body fn126 rfl fun c hc hsc => ?_
 have := h.l0; have := h.lc; have := h.cl; have := h.z
 cases e : x.eqB s with
 | true =>
  have e' : endsW ((x.cur.drop x.lb.toNat).take (x.cursor - x.lb).toNat) s = true := e
  refine' out_ret ?h1 ?h2 ?h3
  case h1 => walk_at "m sxs"
  case h2 => rfl
  case h3 => rfl
 | false =>
  have e' : endsW ((x.cur.drop x.lb.toNat).take (x.cursor - x.lb).toNat) s = false := e
  refine' out_ret ?h1 ?h2 ?h3
  case h1 => walk_at "m sxs"
  case h2 => rfl
  case h3 => rfl
noncomputable def Ex.p1 : Ex → Int
 | .none => 0
 | .marks _ b _ => b
 | .all _ b _ _ => b
theorem c_r_R1 (D : Nat) {x : Stm} (h : x.ex ≠ .none) : CallS D 267 [.d 0] [x.o] (.b (decide (x.ex.p1 ≤ x.cursor))) [x.o] := by
 refine call_body fn267 rfl fun c hc hsc => ?_
 obtain ⟨cur, cursor, limit, lb, bra, ket, ex⟩ := x
 cases ex with
 | none => exact absurd rfl h
 | marks a b d =>
  refine' out_ret ?h1 ?h2 ?h3
  case h1 => walk_at "m sxs"
  case h2 => rfl
  case h3 => rfl
 | all a b d e =>
  refine' out_ret ?h1 ?h2 ?h3
  case h1 => walk_at "m sxs"
  case h2 => rfl
  case h3 => rfl
theorem c_get_current (D : Nat) {x : Stm} : CallS D 49 [.d 0] [x.o] (.s x.cur) [x.o] := by
 refine call_body fn49 rfl fun c hc hsc => ?_
 refine' out_ret ?h1 ?h2 ?h3
 case h1 => walk_at "m sxs"
 case h2 => rfl
 case h3 => rfl
noncomputable def Stm.fresh (l : List Nat) : Stm := ⟨l, 0, l.length, 0, 0, l.length, .none⟩
theorem c_set_current (D : Nat) {x : Stm} (hx : x.ex = .none) {l : List Nat} (hl : l.length ≤ 1000) : CallS D 42 [.d 0, .s l] [x.o] .none [(Stm.fresh l).o] := by
 refine call_body fn42 rfl fun c hc hsc => ?_
 obtain ⟨cur, cursor, limit, lb, bra, ket, ex⟩ := x
 obtain rfl : ex = .none := hx
 refine' out_next ?h1 ?h3
 case h1 => walk_at "m sxs"
 case h3 => rfl
section
section
local macro_rules | `(tactic| walk_at "m sx") => wF "hc hcomp h ho ek ok hz|hc=a hcomp=r h=ev ho=ev ek=r ok=t4 hz=t27|sx_assign_attr"
theorem c_set_current0 (D : Nat) {l : List Nat} (hl : l.length ≤ 1000) : CallS D 42 [.d 0, .s l] [.inst 1005 []] .none [(Stm.fresh l).o] := by
 refine call_body fn42 rfl fun c hc hsc => ?_
 refine' out_next ?h1 ?h3
 case h1 => walk_at "m sxs"
 case h3 => rfl
end
local macro_rules | `(tactic| walk_at "m ev") => wF "hc hs hlen hline h ek en ok g hcall|hc=a hs=r hlen=d hline=r h=ev ek=r en=r ok=t10 g=evl hcall=set0|ev_meth"
local macro_rules | `(tactic| walk_at "m set0") => wF "~_ x1|x1=d|c_set_current0"
theorem c_init (D : Nat) : CallS (D + 1) 35 [.d 0] [.inst 1005 []] .none [(Stm.fresh []).o] := by
 refine call_body fn35 rfl fun c hc hsc => ?_
 refine' out_next ?h1 ?h3
 case h1 => walk_at "m sxs"
 case h3 => rfl
end
/-! the mirror of find_among_b and find_among: plain functions -/
noncomputable def inB (cur : List Nat) (c lb : Int) (s : List Nat) : Nat → Int → Int → Int × Int
 | 0, com, d => (d, com)
 | r + 1, com, d => if c - com = lb then (-1, com) else
   let d' : Int := (cur.getD (c - 1 - com).toNat 0 : Int) - (s.getD r 0 : Int)
   if d' ≠ 0 then (d', com) else inB cur c lb s r (com + 1) d'
noncomputable def inF (cur : List Nat) (c l : Int) (s : List Nat) : Nat → Int → Int → Int × Int
 | 0, com, d => (d, com)
 | r + 1, com, d => if c + com = l then (-1, com) else
   let d' : Int := (cur.getD (c + com).toNat 0 : Int) - (s.getD (s.length - (r + 1)) 0 : Int)
   if d' ≠ 0 then (d', com) else inF cur c l s r (com + 1) d'
noncomputable def outer (cmp : Nat → Int → Int × Int) : Nat → Int → Int → Int → Int → Bool → Int × Int
 | 0, i, _, ci, _, _ => (i, ci)
 | n + 1, i, j, ci, cj, first =>
   let k := i + (j - i) / 2
   let r := cmp k.toNat (if cj < ci then cj else ci)
   let i' := if r.1 < 0 then i else k
   let j' := if r.1 < 0 then k else j
   let ci' := if r.1 < 0 then ci else r.2
   let cj' := if r.1 < 0 then r.2 else cj
   if j' - i' ≤ 1 then
    if i' > 0 then (i', ci') else if j' = i' then (i', ci') else if first then (i', ci') else outer cmp n i' j' ci' cj' true
   else outer cmp n i' j' ci' cj' first
noncomputable def chain (t : List Row4) (ci : Int) : Nat → Int → Option Row4
 | 0, _ => none
 | n + 1, i => match t[i.toNat]? with
  | none => none
  | some r => if (r.s.length : Int) ≤ ci then some r else if r.link < 0 then none else chain t ci n r.link
section
noncomputable def forB : Stmt := nthS (match nthS (defBody (cst 2 15)) 7 with | .While _ b _ _ => b | _ => []) 4
noncomputable def LpR (c : Cx) (s : Stmt) (st x left : Int) (loc : Ls) (sto : Sto) (o : Out) (loc' : Ls) (sto' : Sto) : Prop := match s with
 | .For t _ b [] _ => ForR c t b st x left loc sto o loc' sto'
 | _ => False
noncomputable def locI (v : V) (i j cc lb ci cj : Int) (first : Bool) (k d com : Int) (w : V) (tl : Ls) : Ls :=
 (kS "self", .d 0) :: (kS "v", v) :: (kS "i", .i i) :: (kS "j", .i j) :: (kS "c", .i cc) :: (kS "lb", .i lb) :: (kS "common_i", .i ci) :: (kS "common_j", .i cj) :: (kS "first_key_inspected", .b first) :: (kS "k", .i k) :: (kS "diff", .i d) :: (kS "common", .i com) :: (kS "w", w) :: tl
noncomputable def I2 (tl : Ls) : Prop := tl = [] ∨ ∃ u, tl = [(kS "i2", u)]
local macro_rules | `(tactic| walk_at "m ev") => wF "hc %bi_ord hk hs h hb|hc=a hk=local hs=r h=ev hb=ord|builtin1;hc h st ev ok|hc=a h=ev st=a ev=r ok=inst|ev_attr_st"
theorem inner_b_end (c : Cx) {D : Nat} (hc : c.OK D) (hsc : c.scope = defScope (cst 2 15)) (x : Stm) (row : Row4) (hrow : StI c.w.params row.at_ 220 row.fs) (v : V) (i j cc lb ci cj : Int) (first : Bool) (k d com r : Int) (h : cc - com = lb) :
  ∃ loc', Sx c (execs (match forB with | .For _ _ b _ _ => b | _ => []) c.env) (locI v i j cc lb ci cj first k d com (.a row.at_) [(kS "i2", .i r)]) [x.o] .brk loc' [x.o] := by
 refine' ⟨?l, ?g⟩
 case g =>
  refine' sx_cons_stop ?h1 ?h2
  case h2 => walk_at "m sx"
  case h1 => intro q; cases q
theorem sx_cast {c : Cx} {t : Sem Flow} {loc loc₁ loc₂ : Ls} {sto sto₁ sto₂ : Sto} {o : Out} (h : Sx c t loc sto o loc₁ sto₁) (el : loc₁ = loc₂) (es : sto₁ = sto₂) : Sx c t loc sto o loc₂ sto₂ := by
 subst el; subst es; exact h
theorem inner_b_step (c : Cx) {D : Nat} (hc : c.OK D) (hsc : c.scope = defScope (cst 2 15)) (x : Stm) (row : Row4) (hrow : StI c.w.params row.at_ 220 row.fs) (v : V) (i j cc lb ci cj : Int) (first : Bool) (k d com r : Int) (h : cc - com ≠ lb)
  (n m : Nat) (h0 : 0 ≤ cc - 1 - com) (h1 : cc - 1 - com < 100000) (hn : x.cur[(cc - 1 - com).toNat]? = some n) (r0 : 0 ≤ r) (r1 : r < 100000) (hm : row.s[r.toNat]? = some m) (hd : (n : Int) - (m : Int) = 0) :
  Sx c (execs (match forB with | .For _ _ b _ _ => b | _ => []) c.env) (locI v i j cc lb ci cj first k d com (.a row.at_) [(kS "i2", .i r)]) [x.o] .next (locI v i j cc lb ci cj first k ((n : Int) - (m : Int)) (com + 1) (.a row.at_) [(kS "i2", .i r)]) [x.o] := by
 have hh : cc - com = lb → False := h
 refine' sx_cast ?h1 ?h2 ?h3
 case h1 => walk_at "m sxs"
 case h2 => rfl
 case h3 => rfl
theorem inner_b_stop (c : Cx) {D : Nat} (hc : c.OK D) (hsc : c.scope = defScope (cst 2 15)) (x : Stm) (row : Row4) (hrow : StI c.w.params row.at_ 220 row.fs) (v : V) (i j cc lb ci cj : Int) (first : Bool) (k d com r : Int) (h : cc - com ≠ lb)
  (n m : Nat) (h0 : 0 ≤ cc - 1 - com) (h1 : cc - 1 - com < 100000) (hn : x.cur[(cc - 1 - com).toNat]? = some n) (r0 : 0 ≤ r) (r1 : r < 100000) (hm : row.s[r.toNat]? = some m) (hd : (n : Int) - (m : Int) ≠ 0) :
  Sx c (execs (match forB with | .For _ _ b _ _ => b | _ => []) c.env) (locI v i j cc lb ci cj first k d com (.a row.at_) [(kS "i2", .i r)]) [x.o] .brk (locI v i j cc lb ci cj first k ((n : Int) - (m : Int)) com (.a row.at_) [(kS "i2", .i r)]) [x.o] := by
 have hh : cc - com = lb → False := h
 refine' sx_cast ?h1 ?h2 ?h3
 case h1 => walk_at "m sxs"
 case h2 => rfl
 case h3 => rfl
end
theorem put_i2 (v : V) (i j cc lb ci cj : Int) (first : Bool) (k d com : Int) (w : V) {tl : Ls} (h : I2 tl) (r : Int) : put (kS "i2") (.i r) (locI v i j cc lb ci cj first k d com w tl) = locI v i j cc lb ci cj first k d com w [(kS "i2", .i r)] := by
 rcases h with rfl | ⟨u, rfl⟩ <;> rfl
theorem inner_b_out (c : Cx) {D : Nat} (hc : c.OK D) (hsc : c.scope = defScope (cst 2 15)) (x : Stm) (row : Row4) (hrow : StI c.w.params row.at_ 220 row.fs) (v : V) (i j cc lb ci cj : Int) (first : Bool) (k d com r : Int) (h : cc - com = lb) :
  Sx c (execs (match forB with | .For _ _ b _ _ => b | _ => []) c.env) (locI v i j cc lb ci cj first k d com (.a row.at_) [(kS "i2", .i r)]) [x.o] .brk (locI v i j cc lb ci cj first k (-1) com (.a row.at_) [(kS "i2", .i r)]) [x.o] := by
 refine' sx_cast ?h1 ?h2 ?h3
 case h1 => walk_at "m sxs"
 case h2 => rfl
 case h3 => rfl
theorem inner_b (c : Cx) {D : Nat} (hc : c.OK D) (hsc : c.scope = defScope (cst 2 15)) (x : Stm) (row : Row4) (hrow : StI c.w.params row.at_ 220 row.fs) (v : V) (i j cc lb ci cj : Int) (first : Bool) (k : Int)
  (hl : 0 ≤ lb) (hcl : cc ≤ x.cur.length) (hz : x.cur.length ≤ 1000) (hs : row.s.length ≤ 1000) : ∀ (r : Nat) (com d : Int) (tl : Ls), I2 tl → 0 ≤ com → lb ≤ cc - com → r ≤ row.s.length →
  ∃ tl', I2 tl' ∧ LpR c forB (-1) ((r : Int) - 1) r (locI v i j cc lb ci cj first k d com (.a row.at_) tl) [x.o] .next (locI v i j cc lb ci cj first k (inB x.cur cc lb row.s r com d).1 (inB x.cur cc lb row.s r com d).2 (.a row.at_) tl') [x.o] := by
 intro r
 induction r with
 | zero => exact fun com d tl ht h0 h1 h2 => ⟨tl, ht, ForR.done (by lia)⟩
 | succ r ih =>
  intro com d tl ht h0 h1 h2
  have hsc' : c.scope.names.lookup (S "i2") = some .local := kL hsc (by decide +kernel)
  have asg : ∀ p : Pos, Asg c (.Name (S "i2") p) (.i r) (locI v i j cc lb ci cj first k d com (.a row.at_) tl) (locI v i j cc lb ci cj first k d com (.a row.at_) [(kS "i2", .i r)]) [x.o] := by
   intro p
   have := asg_name (p := p) (v := .i r) (loc := locI v i j cc lb ci cj first k d com (.a row.at_) tl) (sto := [x.o]) hc hsc'
   rwa [put_i2 v i j cc lb ci cj first k d com (.a row.at_) ht r] at this
  have e0 : (((r + 1 : Nat) : Int) - 1) = r := by lia
  have e1 : (((r + 1 : Nat) : Int)) - 1 = r := by lia
  have pos : (0 : Int) < ((r + 1 : Nat) : Int) := by lia
  rw [e0]
  by_cases h : cc - com = lb
  ·have e : inB x.cur cc lb row.s (r + 1) com d = (-1, com) := by unfold inB; rw [if_pos h]
   rw [e]
   exact ⟨[(kS "i2", .i r)], .inr ⟨_, rfl⟩, ForR.brk pos (asg _) fun ext => inner_b_out (c.with ext) (hc.with ext) hsc x row hrow v i j cc lb ci cj first k d com r h⟩
  ·have hlt : (cc - 1 - com).toNat < x.cur.length := by lia
   have hlr : r < row.s.length := by lia
   have hn : x.cur[(cc - 1 - com).toNat]? = some (x.cur[(cc - 1 - com).toNat]'hlt) := List.getElem?_eq_getElem hlt
   have hm : row.s[((r : Nat) : Int).toNat]? = some (row.s[r]'hlr) := by
    rw [Int.toNat_natCast]; exact List.getElem?_eq_getElem hlr
   have g1 : x.cur.getD (cc - 1 - com).toNat 0 = x.cur[(cc - 1 - com).toNat]'hlt := by rw [List.getD_eq_getElem?_getD, hn]; rfl
   have g2 : row.s.getD r 0 = row.s[r]'hlr := by rw [List.getD_eq_getElem?_getD, List.getElem?_eq_getElem hlr]; rfl
   by_cases hd : ((x.cur[(cc - 1 - com).toNat]'hlt : Nat) : Int) - ((row.s[r]'hlr : Nat) : Int) = 0
   ·have e : inB x.cur cc lb row.s (r + 1) com d = inB x.cur cc lb row.s r (com + 1) (((x.cur[(cc - 1 - com).toNat]'hlt : Nat) : Int) - ((row.s[r]'hlr : Nat) : Int)) := by
     conv => lhs; unfold inB
     rw [if_neg h]
     simp only [g1, g2, hd]
     simp
    rw [e]
    obtain ⟨tl', ht', T⟩ := ih (com + 1) (((x.cur[(cc - 1 - com).toNat]'hlt : Nat) : Int) - ((row.s[r]'hlr : Nat) : Int)) [(kS "i2", .i r)] (.inr ⟨_, rfl⟩) (by lia) (by lia) (by lia)
    refine ⟨tl', ht', ForR.next pos (asg _) (fun ext => inner_b_step (c.with ext) (hc.with ext) hsc x row hrow v i j cc lb ci cj first k d com r h _ _ (by lia) (by lia) hn (by lia) (by lia) hm hd) ?_⟩
    have e2 : (r : Int) + -1 = (r : Int) - 1 := by lia
    rw [e1, e2]
    exact T
   ·have e : inB x.cur cc lb row.s (r + 1) com d = (((x.cur[(cc - 1 - com).toNat]'hlt : Nat) : Int) - ((row.s[r]'hlr : Nat) : Int), com) := by
     unfold inB
     rw [if_neg h]
     simp only [g1, g2]
     rw [if_pos hd]
    rw [e]
    exact ⟨[(kS "i2", .i r)], .inr ⟨_, rfl⟩, ForR.brk pos (asg _) fun ext => inner_b_stop (c.with ext) (hc.with ext) hsc x row hrow v i j cc lb ci cj first k d com r h _ _ (by lia) (by lia) hn (by lia) (by lia) hm hd⟩
section
structure TabAt (P : Params) (x : Addr) (t : List Row4) : Prop where
 list : StL P x (t.map fun r => .a r.at_)
 rows : ∀ r ∈ t, StI P r.at_ 220 r.fs
theorem tabAt_of {P : Params} {x : Addr} {t : List Row4} (h : ckTab P x t = true) : TabAt P x t := by
 unfold ckTab at h
 rw [Bool.and_eq_true] at h
 exact ⟨stL_of h.1, fun r hr => stI_of (List.all_eq_true.mp h.2 r hr)⟩
noncomputable def locH (v : V) (i j cc lb ci cj : Int) (first : Bool) (tl : Ls) : Ls :=
 (kS "self", .d 0) :: (kS "v", v) :: (kS "i", .i i) :: (kS "j", .i j) :: (kS "c", .i cc) :: (kS "lb", .i lb) :: (kS "common_i", .i ci) :: (kS "common_j", .i cj) :: (kS "first_key_inspected", .b first) :: tl
noncomputable def TlH (tl : Ls) : Prop := tl = [] ∨ ∃ k d com w tl', I2 tl' ∧ tl = (kS "k", .i k) :: (kS "diff", .i d) :: (kS "common", .i com) :: (kS "w", w) :: tl'
noncomputable def whB : Stmt := nthS (defBody (cst 2 15)) 7
noncomputable def whB2 : Stmt := nthS (defBody (cst 2 15)) 8
noncomputable def whBody : Stmt → List Stmt
 | .While _ b _ _ => b
 | _ => []
local macro_rules | `(tactic| walk_at "m op") => wF "h0|h0=o|shr_I"
local macro_rules | `(tactic| walk_at "m ev") => wF "hc %bi_min hk hs h h' hb|hc=a hk=local hs=r h=ev h'=ev hb=t19|builtin2;hc h st ev ok|hc=a h=ev st=a ev=r ok=inst|ev_attr_st;hc hi h g q h0 h1 hx|hc=a hi=r h=ev g=ev q=isL h0=o h1=o hx=a|ev_sub_list"
theorem front_b (c : Cx) {D : Nat} (hc : c.OK D) (hsc : c.scope = defScope (cst 2 15)) (x : Stm) (a : Addr) (t : List Row4) (hl : StL c.w.params a (t.map fun r => .a r.at_)) (i j cc lb ci cj : Int) (first : Bool) (tl : Ls) (ht : TlH tl) (row : Row4)
  (h0 : 0 ≤ i) (h1 : i ≤ j) (h2 : j ≤ 1000) (hr : (t.map fun r => V.a r.at_)[(i + (j - i) / 2).toNat]? = some (.a row.at_)) :
  ∃ tl', I2 tl' ∧ ∀ (o : Out) (loc₂ : Ls) (sto₂ : Sto), Sx c (execs ((whBody whB).drop 4) c.env) (locI (.a a) i j cc lb ci cj first (i + (j - i) / 2) 0 (if cj < ci then cj else ci) (.a row.at_) tl') [x.o] o loc₂ sto₂ → Sx c (execs (whBody whB) c.env) (locH (.a a) i j cc lb ci cj first tl) [x.o] o loc₂ sto₂ := by
 rcases ht with rfl | ⟨k, d, com, w, tl', hi, rfl⟩
 ·refine ⟨[], .inl rfl, fun o loc₂ sto₂ rest => ?_⟩
  refine' sx_cons_next ?s0 (sx_cons_next ?s1 (sx_cons_next ?s2 (sx_cons_next (sx_cast ?s3 ?e1 ?e2) rest)))
  case s0 => walk_at "m sx"
  case s1 => walk_at "m sx"
  case s2 => walk_at "m sx"
  case s3 => walk_at "m sx"
  case e1 => rfl
  case e2 => rfl
 ·rcases hi with rfl | ⟨u, rfl⟩
  ·refine ⟨[], .inl rfl, fun o loc₂ sto₂ rest => ?_⟩
   refine' sx_cons_next ?s0 (sx_cons_next ?s1 (sx_cons_next ?s2 (sx_cons_next (sx_cast ?s3 ?e1 ?e2) rest)))
   case s0 => walk_at "m sx"
   case s1 => walk_at "m sx"
   case s2 => walk_at "m sx"
   case s3 => walk_at "m sx"
   case e1 => rfl
   case e2 => rfl
  ·refine ⟨[(kS "i2", u)], .inr ⟨_, rfl⟩, fun o loc₂ sto₂ rest => ?_⟩
   refine' sx_cons_next ?s0 (sx_cons_next ?s1 (sx_cons_next ?s2 (sx_cons_next (sx_cast ?s3 ?e1 ?e2) rest)))
   case s0 => walk_at "m sx"
   case s1 => walk_at "m sx"
   case s2 => walk_at "m sx"
   case s3 => walk_at "m sx"
   case e1 => rfl
   case e2 => rfl
theorem if5_b (c : Cx) {D : Nat} (hc : c.OK D) (hsc : c.scope = defScope (cst 2 15)) (x : Stm) (v : V) (i j cc lb ci cj : Int) (first : Bool) (k d com : Int) (w : V) (tl : Ls) {o : Out} {loc₂ : Ls} {sto₂ : Sto}
  (rest : Sx c (execs ((whBody whB).drop 6) c.env) (locI v (if d < 0 then i else k) (if d < 0 then k else j) cc lb (if d < 0 then ci else com) (if d < 0 then com else cj) first k d com w tl) [x.o] o loc₂ sto₂) :
  Sx c (execs ((whBody whB).drop 5) c.env) (locI v i j cc lb ci cj first k d com w tl) [x.o] o loc₂ sto₂ := by
 by_cases hd : d < 0
 ·simp only [if_pos hd] at rest
  refine' sx_cons_next (sx_cast ?s3 ?e1 ?e2) rest
  case s3 => walk_at "m sx"
  case e1 => rfl
  case e2 => rfl
 ·simp only [if_neg hd] at rest
  refine' sx_cons_next (sx_cast ?s3 ?e1 ?e2) rest
  case s3 => walk_at "m sx"
  case e1 => rfl
  case e2 => rfl
noncomputable def endT (i j : Int) (first : Bool) : Bool × Bool := if j - i ≤ 1 then (if i > 0 then (true, first) else if j = i then (true, first) else if first then (true, first) else (false, true)) else (false, first)
theorem if6_b (c : Cx) {D : Nat} (hc : c.OK D) (hsc : c.scope = defScope (cst 2 15)) (x : Stm) (v : V) (i j cc lb ci cj : Int) (first : Bool) (k d com : Int) (w : V) (tl : Ls) :
  Sx c (execs ((whBody whB).drop 6) c.env) (locI v i j cc lb ci cj first k d com w tl) [x.o] (if (endT i j first).1 then .brk else .next) (locI v i j cc lb ci cj (endT i j first).2 k d com w tl) [x.o] := by
 unfold endT
 by_cases h1 : j - i ≤ 1
 ·by_cases h2 : i > 0
  ·simp only [if_pos h1, if_pos h2, if_true]
   refine' sx_cast ?h1 ?h2 ?h3
   case h1 => walk_at "m sxs"
   case h2 => rfl
   case h3 => rfl
  ·by_cases h3 : j = i
   ·simp only [if_pos h1, if_neg h2, if_pos h3, if_true]
    refine' sx_cast ?h1 ?h2 ?h3
    case h1 => walk_at "m sxs"
    case h2 => rfl
    case h3 => rfl
   ·have h3' : j = i → False := h3
    cases first with
    | true =>
     simp only [if_pos h1, if_neg h2, if_neg h3, if_true]
     refine' sx_cast ?h1 ?h2 ?h3
     case h1 => walk_at "m sxs"
     case h2 => rfl
     case h3 => rfl
    | false =>
     simp only [if_pos h1, if_neg h2, if_neg h3, Bool.false_eq_true, if_false]
     refine' sx_cast ?h1 ?h2 ?h3
     case h1 => walk_at "m sxs"
     case h2 => rfl
     case h3 => rfl
 ·simp only [if_neg h1, Bool.false_eq_true, if_false]
  refine' sx_cast ?h1 ?h2 ?h3
  case h1 => walk_at "m sxs"
  case h2 => rfl
  case h3 => rfl
end
section
local macro_rules | `(tactic| walk_at "m ev") => wF "hc h st ev ok|hc=a h=ev st=a ev=r ok=inst|ev_attr_st;hc hi h g q h0 h1 hx|hc=a hi=r h=ev g=ev q=isL h0=o h1=o hx=a|ev_sub_list"
noncomputable def cmpB (cur : List Nat) (c lb : Int) (s : List Nat) (com : Int) : Int × Int := inB cur c lb s (s.length - com).toNat com 0
theorem for_b (c : Cx) {D : Nat} (hc : c.OK D) (hsc : c.scope = defScope (cst 2 15)) (x : Stm) (row : Row4) (hrow : StI c.w.params row.at_ 220 row.fs) (v : V) (i j cc lb ci cj : Int) (first : Bool) (k com : Int) (tl : Ls) (ht : I2 tl)
  (hl : 0 ≤ lb) (hcl : cc ≤ x.cur.length) (hz : x.cur.length ≤ 1000) (hs : row.s.length ≤ 1000) (h0 : 0 ≤ com) (h1 : lb ≤ cc - com) :
  ∃ tl', I2 tl' ∧ Sx c (exec forB c.env) (locI v i j cc lb ci cj first k 0 com (.a row.at_) tl) [x.o] .next (locI v i j cc lb ci cj first k (cmpB x.cur cc lb row.s com).1 (cmpB x.cur cc lb row.s com).2 (.a row.at_) tl') [x.o] := by
 obtain ⟨tl', ht', T⟩ := inner_b c hc hsc x row hrow v i j cc lb ci cj first k hl hcl hz hs (row.s.length - com).toNat com 0 tl ht h0 h1 (by lia)
 refine ⟨tl', ht', ?_⟩
 refine' sx_for_range hc (x := (row.s.length : Int) - 1 - com) (y := -1) (st := -1) ?hi ?h ?small ?T
 case hi => rfl
 case h =>
  refine' rng3 hc (bi_range _) ?hk ?hs ?h ?hb
  case hk => walk_at "m local"
  case hs => rfl
  case h => walk_at "m evl"
  case hb => lia
 case small => exact small_neg (by lia)
 case T =>
  have e : Builtin.Range.rangeSize ((row.s.length : Int) - 1 - com) (-1) (-1) = if (row.s.length : Int) - 1 - com > -1 then (row.s.length : Int) - com else 0 := by
   unfold Builtin.Range.rangeSize
   rw [if_neg (by decide)]
   split
   ·rw [show (-(-1 : Int)) = 1 by decide, Int.ediv_one]; lia
   ·rfl
  rw [e]
  by_cases hlt : (row.s.length : Int) - 1 - com > -1
  ·rw [if_pos hlt]
   have e1 : (((row.s.length - com : Int).toNat : Nat) : Int) = row.s.length - com := by lia
   rw [e1] at T
   have e2 : (row.s.length : Int) - com - 1 = (row.s.length : Int) - 1 - com := by lia
   rw [e2] at T
   exact T
  ·rw [if_neg hlt]
   have e1 : (row.s.length - com : Int).toNat = 0 := by lia
   have e2 : cmpB x.cur cc lb row.s com = (0, com) := by unfold cmpB; rw [e1]; rfl
   rw [e1] at T
   rw [e2]
   rcases T.view with ⟨_, _, e3, e4⟩ | ⟨e, _⟩
   ·exact ForR.done' (Int.le_refl 0) e3 e4
   ·exact absurd e (by decide)
theorem inB_com (cur : List Nat) (c lb : Int) (s : List Nat) : ∀ (r : Nat) (com d : Int), lb ≤ c - com → com ≤ (inB cur c lb s r com d).2 ∧ lb ≤ c - (inB cur c lb s r com d).2 := by
 intro r
 induction r with
 | zero => intro com d h; exact ⟨Int.le_refl _, h⟩
 | succ r ih =>
  intro com d h
  unfold inB
  split
  ·exact ⟨Int.le_refl _, h⟩
  ·dsimp only
   split
   ·exact ⟨Int.le_refl _, h⟩
   ·have := fun d => ih (com + 1) d (by lia)
    exact ⟨Int.le_trans (by lia) (this _).1, (this _).2⟩
theorem cmpB_com {cur : List Nat} {c lb : Int} {s : List Nat} {com : Int} (h : lb ≤ c - com) : com ≤ (cmpB cur c lb s com).2 ∧ lb ≤ c - (cmpB cur c lb s com).2 := inB_com cur c lb s _ com 0 h
noncomputable def TlN (tl : Ls) : Prop := ∃ k d com w tl', I2 tl' ∧ tl = (kS "k", .i k) :: (kS "diff", .i d) :: (kS "common", .i com) :: (kS "w", w) :: tl'
noncomputable def sOf (t : List Row4) (k : Nat) : List Nat := match t[k]? with
 | some r => r.s
 | none => []
theorem turn_b (c : Cx) {D : Nat} (hc : c.OK D) (hsc : c.scope = defScope (cst 2 15)) (x : Stm) (a : Addr) (t : List Row4) (ht : TabAt c.w.params a t) (htz : ∀ r ∈ t, r.s.length ≤ 1000) (htl : t.length ≤ 1000) (i j cc lb ci cj : Int) (first : Bool) (tl : Ls) (htl' : TlH tl)
  (hl : 0 ≤ lb) (hcl : cc ≤ x.cur.length) (hz : x.cur.length ≤ 1000) (h0 : 0 ≤ i) (h1 : i < j) (h2 : j ≤ t.length) (c0 : 0 ≤ ci) (c1 : lb ≤ cc - ci) (d0 : 0 ≤ cj) (d1 : lb ≤ cc - cj)
  (k : Int) (hk : k = i + (j - i) / 2) (r : Int × Int) (hr : r = cmpB x.cur cc lb (sOf t k.toNat) (if cj < ci then cj else ci)) (i' j' : Int) (hi' : i' = if r.1 < 0 then i else k) (hj' : j' = if r.1 < 0 then k else j) :
  ∃ tl', TlN tl' ∧ Sx c (execs (whBody whB) c.env) (locH (.a a) i j cc lb ci cj first tl) [x.o] (if (endT i' j' first).1 then .brk else .next)
   (locH (.a a) i' j' cc lb (if r.1 < 0 then ci else r.2) (if r.1 < 0 then r.2 else cj) (endT i' j' first).2 tl') [x.o] := by
 have hkl : k.toNat < t.length := by lia
 have hrow : sOf t k.toNat = t[k.toNat].s := by unfold sOf; rw [List.getElem?_eq_getElem hkl]
 rw [hrow] at hr
 have hmem : t[k.toNat] ∈ t := List.getElem_mem hkl
 obtain ⟨tl1, hi1, F⟩ := front_b c hc hsc x a t ht.list i j cc lb ci cj first tl htl' t[k.toNat] h0 (by lia) (by lia) (by rw [← hk, List.getElem?_map, List.getElem?_eq_getElem hkl]; rfl)
 rw [← hk] at F
 obtain ⟨tl2, hi2, G⟩ := for_b c hc hsc x t[k.toNat] (ht.rows _ hmem) (.a a) i j cc lb ci cj first k (if cj < ci then cj else ci) tl1 hi1 hl hcl hz (htz _ hmem) (by split <;> lia) (by split <;> lia)
 rw [← hr] at G
 have J := if6_b c hc hsc x (.a a) i' j' cc lb (if r.1 < 0 then ci else r.2) (if r.1 < 0 then r.2 else cj) first k r.1 r.2 (.a t[k.toNat].at_) tl2
 refine ⟨(kS "k", .i k) :: (kS "diff", .i r.1) :: (kS "common", .i r.2) :: (kS "w", .a t[k.toNat].at_) ::  tl2, ⟨_, _, _, _, _, hi2, rfl⟩, F _ _ _ ?_⟩
 refine' sx_cons_next G ?_
 refine if5_b c hc hsc x (.a a) i j cc lb ci cj first k r.1 r.2 (.a t[k.toNat].at_) tl2 ?_
 rw [← hi', ← hj']
 exact J
end
section
theorem outer_succ (cmp : Nat → Int → Int × Int) (n : Nat) (i j ci cj : Int) (first : Bool) (k : Int) (hk : k = i + (j - i) / 2) (r : Int × Int) (hr : r = cmp k.toNat (if cj < ci then cj else ci)) (i' j' : Int) (hi' : i' = if r.1 < 0 then i else k) (hj' : j' = if r.1 < 0 then k else j) :
  outer cmp (n + 1) i j ci cj first = if (endT i' j' first).1 then (i', if r.1 < 0 then ci else r.2) else outer cmp n i' j' (if r.1 < 0 then ci else r.2) (if r.1 < 0 then r.2 else cj) (endT i' j' first).2 := by
 conv => lhs; unfold outer
 dsimp only
 rw [← hk, ← hr, ← hi', ← hj']
 unfold endT
 by_cases h1 : j' - i' ≤ 1
 ·by_cases h2 : i' > 0
  ·simp only [if_pos h1, if_pos h2]
   rfl
  ·by_cases h3 : j' = i'
   ·simp only [if_pos h1, if_neg h2, if_pos h3]
    rfl
   ·cases first with
    | true => simp only [if_pos h1, if_neg h2, if_neg h3, if_true]
    | false => simp only [if_pos h1, if_neg h2, if_neg h3, Bool.false_eq_true, if_false]
 ·simp only [if_neg h1, Bool.false_eq_true, if_false]
theorem endT_false {i j : Int} {first : Bool} (h : (endT i j first).1 = false) : (1 < j - i ∧ (endT i j first).2 = first) ∨ (i ≤ 0 ∧ j - i ≤ 1 ∧ j ≠ i ∧ first = false ∧ (endT i j first).2 = true) := by
 unfold endT at h ⊢
 by_cases h1 : j - i ≤ 1
 ·by_cases h2 : i > 0
  ·simp only [if_pos h1, if_pos h2] at h
   cases h
  ·by_cases h3 : j = i
   ·simp only [if_pos h1, if_neg h2, if_pos h3] at h
    cases h
   ·cases first with
    | true =>
     simp only [if_pos h1, if_neg h2, if_neg h3, if_true] at h
     cases h
    | false =>
     right
     refine ⟨Int.not_lt.mp h2, h1, h3, rfl, ?_⟩
     simp only [if_pos h1, if_neg h2, if_neg h3, Bool.false_eq_true, if_false]
 ·left
  refine ⟨Int.not_le.mp h1, ?_⟩
  simp only [if_neg h1]
noncomputable def meas (i j : Int) (first : Bool) : Nat := (j - i).toNat + (if first then 0 else 1)
theorem turn_ok {i j k i' j' d : Int} (h : i < j) (hk : k = i + (j - i) / 2) (hi' : i' = if d < 0 then i else k) (hj' : j' = if d < 0 then k else j) : i ≤ i' ∧ i' < j ∧ i' ≤ j' ∧ j' ≤ j ∧ j' - i' ≤ j - i ∧ (1 < j' - i' → j' - i' < j - i) := by
 have a : i ≤ k := by clear hi' hj'; lia
 have b : k < j := by clear hi' hj'; lia
 have e : 1 < j - i → i < k := fun z => by clear hi' hj' a b; lia
 clear hk
 by_cases q : d < 0
 ·rw [if_pos q] at hi' hj'
  rw [hi', hj']
  exact ⟨Int.le_refl _, h, a, Int.le_of_lt b, Int.sub_le_sub_right (Int.le_of_lt b) i, fun _ => Int.sub_lt_sub_right b i⟩
 ·rw [if_neg q] at hi' hj'
  rw [hi', hj']
  exact ⟨a, b, Int.le_of_lt b, Int.le_refl _, Int.sub_le_sub_left a j, fun z => Int.sub_lt_sub_left (e (Int.lt_of_lt_of_le z (Int.sub_le_sub_left a j))) j⟩
theorem meas_pos {i j : Int} (h : i < j) (f : Bool) : 0 < meas i j f := Nat.lt_of_lt_of_le (Int.lt_toNat.mpr (Int.sub_pos_of_lt h)) (Nat.le_add_right _ _)
theorem meas_ok {i j i' j' : Int} {first : Bool} {n : Nat} (h1 : i' ≤ j') (h2 : j' - i' ≤ j - i) (h3 : 1 < j' - i' → j' - i' < j - i) (hm : meas i j first ≤ n + 1) (he : (endT i' j' first).1 = false) : i' < j' ∧ meas i' j' (endT i' j' first).2 ≤ n := by
 rcases endT_false he with ⟨e1, e2⟩ | ⟨e1, e2, e3, e4, e5⟩
 ·have h3 := h3 e1
  refine ⟨by clear h3 hm he h2 e2; lia, ?_⟩
  have q : (j' - i').toNat < (j - i).toNat := by clear hm he h2 e2; lia
  rw [e2]
  exact Nat.le_of_lt_succ (Nat.lt_of_lt_of_le (Nat.add_lt_add_right q _) hm)
 ·refine ⟨Int.lt_iff_le_and_ne.mpr ⟨h1, e3.symm⟩, ?_⟩
  rw [e5]
  subst e4
  exact Nat.le_trans (Int.toNat_le_toNat h2) (Nat.le_of_succ_le_succ hm)
theorem loop_b (c : Cx) {D : Nat} (hc : c.OK D) (hsc : c.scope = defScope (cst 2 15)) (x : Stm) (a : Addr) (t : List Row4) (ht : TabAt c.w.params a t) (htz : ∀ r ∈ t, r.s.length ≤ 1000) (htl : t.length ≤ 1000) (cc lb : Int)
  (hl : 0 ≤ lb) (hcl : cc ≤ x.cur.length) (hz : x.cur.length ≤ 1000) : ∀ (n : Nat) (i j ci cj : Int) (first : Bool) (tl : Ls), TlH tl → 0 ≤ i → i < j → j ≤ t.length → 0 ≤ ci → lb ≤ cc - ci → 0 ≤ cj → lb ≤ cc - cj → meas i j first ≤ n →
  ∃ m J CJ first' tl', TlN tl' ∧ 0 ≤ (outer (fun k com => cmpB x.cur cc lb (sOf t k) com) n i j ci cj first).1 ∧ (outer (fun k com => cmpB x.cur cc lb (sOf t k) com) n i j ci cj first).1 < t.length ∧ Lp c whB m (locH (.a a) i j cc lb ci cj first tl) [x.o] .next (locH (.a a) (outer (fun k com => cmpB x.cur cc lb (sOf t k) com) n i j ci cj first).1 J cc lb (outer (fun k com => cmpB x.cur cc lb (sOf t k) com) n i j ci cj first).2 CJ first' tl') [x.o] := by
 intro n
 induction n with
 | zero =>
  intro i j ci cj first tl _ _ h1 _ _ _ _ _ hm
  exact absurd hm (Nat.not_le.mpr (meas_pos h1 first))
 | succ n ih =>
  intro i j ci cj first tl hT h0 h1 h2 c0 c1 d0 d1 hm
  obtain ⟨k, hk⟩ : ∃ k, k = i + (j - i) / 2 := ⟨_, rfl⟩
  obtain ⟨r, hr⟩ : ∃ r, r = cmpB x.cur cc lb (sOf t k.toNat) (if cj < ci then cj else ci) := ⟨_, rfl⟩
  obtain ⟨i', hi'⟩ : ∃ i', i' = if r.1 < 0 then i else k := ⟨_, rfl⟩
  obtain ⟨j', hj'⟩ : ∃ j', j' = if r.1 < 0 then k else j := ⟨_, rfl⟩
  obtain ⟨tl1, hT1, X⟩ := turn_b c hc hsc x a t ht htz htl i j cc lb ci cj first tl hT hl hcl hz h0 h1 h2 c0 c1 d0 d1 k hk r hr i' j' hi' hj'
  rw [outer_succ (fun k com => cmpB x.cur cc lb (sOf t k) com) n i j ci cj first k hk r hr i' j' hi' hj']
  have hcom : (if cj < ci then cj else ci) ≤ r.2 ∧ lb ≤ cc - r.2 := by
   rw [hr]; exact cmpB_com (by split <;> assumption)
  have hr0 : 0 ≤ r.2 := Int.le_trans (by split <;> assumption) hcom.1
  have K := turn_ok h1 hk hi' hj'
  have hi0 : 0 ≤ i' := Int.le_trans h0 K.1
  have hi1 : i' < t.length := Int.lt_of_lt_of_le K.2.1 h2
  have hj1 : j' ≤ t.length := Int.le_trans K.2.2.2.1 h2
  cases he : (endT i' j' first).1 with
  | true =>
   rw [he] at X
   simp only [if_true] at X ⊢
   refine ⟨0, j', (if r.1 < 0 then r.2 else cj), (endT i' j' first).2, tl1, hT1, hi0, hi1, ?_⟩
   ·show Turns c _ _ _ _ _ _ _ _
    exact Turns.brk ev_true X
  | false =>
   rw [he] at X
   simp only [Bool.false_eq_true, if_false] at X ⊢
   have hlt := meas_ok K.2.2.1 K.2.2.2.2.1 K.2.2.2.2.2 hm he
   have hcm := hcom.2
   obtain ⟨m, J, CJ, first', tl2, a1, a2, a3, T⟩ := ih i' j' (if r.1 < 0 then ci else r.2) (if r.1 < 0 then r.2 else cj) (endT i' j' first).2 tl1 (.inr hT1) hi0 hlt.1 hj1 (by split <;> assumption) (by split <;> assumption) (by split <;> assumption) (by split <;> assumption) hlt.2
   refine ⟨m + 1, J, CJ, first', tl2, a1, a2, a3, ?_⟩
   show Turns c _ _ _ _ _ _ _ _
   exact Turns.next ev_true X T
noncomputable def resB (x : Stm) (cc : Int) : Option Row4 → Int × Stm
 | some r => (r.res, { x with cursor := cc - r.s.length })
 | none => (0, x)
local macro_rules | `(tactic| walk_at "m ev") => wF "hc h st ev ok|hc=a h=ev st=a ev=r ok=inst|ev_attr_st;hc hi h g q h0 h1 hx|hc=a hi=r h=ev g=ev q=isL h0=o h1=o hx=a|ev_sub_list"
theorem chain_b (c : Cx) {D : Nat} (hc : c.OK D) (hsc : c.scope = defScope (cst 2 15)) (x : Stm) (a : Addr) (t : List Row4) (ht : TabAt c.w.params a t) (htz : ∀ r ∈ t, r.s.length ≤ 1000) (htl : t.length ≤ 1000) (hlink : ∀ (k : Nat) (row : Row4), t[k]? = some row → row.link < (k : Int)) (cc lb ci J CJ : Int) (first : Bool) :
  ∀ (n : Nat) (i : Int) (tl : Ls), TlN tl → 0 ≤ i → i < t.length → i.toNat < n →
  ∃ m loc', Lp c whB2 m (locH (.a a) i J cc lb ci CJ first tl) [x.o] (.ret (.i (resB x cc (chain t ci n i)).1)) loc' [(resB x cc (chain t ci n i)).2.o] := by
 intro n
 induction n with
 | zero => intro i tl _ _ _ h; lia
 | succ n ih =>
  intro i tl hT h0 h1 hn
  obtain ⟨k, d, com, w, tl', hi, rfl⟩ := hT
  have hlt : i.toNat < t.length := by lia
  have hg : t[i.toNat]? = some t[i.toNat] := List.getElem?_eq_getElem hlt
  generalize hrow : t[i.toNat] = row at hg
  have hmem : row ∈ t := by rw [← hrow]; exact List.getElem_mem hlt
  have hst := ht.rows row hmem
  have hsz := htz row hmem
  have hstl := ht.list
  have hx : (t.map fun r => V.a r.at_)[i.toNat]? = some (.a row.at_) := by rw [List.getElem?_map, hg]; rfl
  have hlk := hlink i.toNat row hg
  by_cases h2 : (row.s.length : Int) ≤ ci
  ·have e : chain t ci (n + 1) i = some row := by unfold chain; rw [hg]; simp only [if_pos h2]
   rw [e]
   show ∃ m loc', Lp c whB2 m _ [x.o] (.ret (.i row.res)) loc' [({ x with cursor := cc - row.s.length } : Stm).o]
   refine' ⟨0, ?l, ?g⟩
   case g =>
    show Turns c _ _ _ _ _ _ _ _
    refine' Turns.ret ev_true (sx_cast ?h3 ?h4 ?h5)
    case h3 => walk_at "m sxs"
    case h4 => rfl
    case h5 => rfl
  ·by_cases h3 : row.link < 0
   ·have e : chain t ci (n + 1) i = none := by unfold chain; rw [hg]; simp only [if_neg h2, if_pos h3]
    rw [e]
    show ∃ m loc', Lp c whB2 m _ [x.o] (.ret (.i 0)) loc' [x.o]
    refine' ⟨0, ?l2, ?g2⟩
    case g2 =>
     show Turns c _ _ _ _ _ _ _ _
     refine' Turns.ret ev_true (sx_cast ?h32 ?h42 ?h52)
     case h32 => walk_at "m sxs"
     case h42 => rfl
     case h52 => rfl
   ·have e : chain t ci (n + 1) i = chain t ci n row.link := by conv => { lhs; unfold chain }; rw [hg]; simp only [if_neg h2, if_neg h3]
    rw [e]
    obtain ⟨m, loc', T⟩ := ih row.link ((kS "k", .i k) :: (kS "diff", .i d) :: (kS "common", .i com) :: (kS "w", .a row.at_) :: tl') ⟨_, _, _, _, _, hi, rfl⟩ (by lia) (by lia) (by lia)
    refine ⟨m + 1, loc', ?_⟩
    show Turns c _ _ _ _ _ _ _ _
    refine' turns_next ev_true ?h4 ?h5 ?h6 T
    case h4 => walk_at "m sxs"
    case h5 => rfl
    case h6 => rfl
end
section
noncomputable def ckRows (t : List Row4) : Bool := (t.all fun r => Nat.ble r.s.length 100) && Nat.ble t.length 500 && Nat.ble 1 t.length
noncomputable def ckLink : List Row4 → Nat → Bool
 | [], _ => true
 | r :: t, n => decide (r.link < (n : Int)) && ckLink t (n + 1)
theorem ckLink_ok : ∀ {t : List Row4} {n : Nat}, ckLink t n = true → ∀ (k : Nat) (row : Row4), t[k]? = some row → row.link < ((n + k : Nat) : Int)
 | [], _, _, k, row, e => by simp at e
 | r :: t, n, h, 0, row, e => by
  rw [ckLink, Bool.and_eq_true] at h
  simp at e; subst e
  simpa using h.1
 | r :: t, n, h, k + 1, row, e => by
  rw [ckLink, Bool.and_eq_true] at h
  simp at e
  have := ckLink_ok h.2 k row e
  lia
structure Tab (a : Addr) (t : List Row4) : Prop where
 ck : ∀ P, ckTab P a t = true
 rows : ckRows t = true
 link : ckLink t 0 = true
theorem Tab.lens {a : Addr} {t : List Row4} (h : Tab a t) : (∀ r ∈ t, r.s.length ≤ 100) ∧ t.length ≤ 500 ∧ 1 ≤ t.length := by
 have := h.rows
 unfold ckRows at this
 rw [Bool.and_eq_true, Bool.and_eq_true] at this
 exact ⟨fun r hr => Nat.ble_eq.mp (List.all_eq_true.mp this.1.1 r hr), Nat.ble_eq.mp this.1.2, Nat.ble_eq.mp this.2⟩
theorem tb_0 : Tab 316 tab_a_0 := ⟨ck_a_0, by decide +kernel, by decide +kernel⟩
theorem tb_1 : Tab 327 tab_a_1 := ⟨ck_a_1, by decide +kernel, by decide +kernel⟩
theorem tb_2 : Tab 376 tab_a_2 := ⟨ck_a_2, by decide +kernel, by decide +kernel⟩
theorem tb_3 : Tab 515 tab_a_3 := ⟨ck_a_3, by decide +kernel, by decide +kernel⟩
theorem tb_4 : Tab 703 tab_a_4 := ⟨ck_a_4, by decide +kernel, by decide +kernel⟩
theorem tb_5 : Tab 986 tab_a_5 := ⟨ck_a_5, by decide +kernel, by decide +kernel⟩
theorem tb_6 : Tab 1002 tab_a_6 := ⟨ck_a_6, by decide +kernel, by decide +kernel⟩
noncomputable def Stm.searchB (x : Stm) (t : List Row4) : Int × Int := outer (fun k com => cmpB x.cur x.cursor x.lb (sOf t k) com) (t.length + 2) 0 t.length 0 0 false
noncomputable def Stm.rowB (x : Stm) (t : List Row4) : Option Row4 := chain t (x.searchB t).2 (t.length + 1) (x.searchB t).1
local macro_rules | `(tactic| walk_at "m ev") => wF "hc %bi_len hk hs h hb|hc=a hk=local hs=r h=ev hb=lenL|builtin1"
theorem c_find_among_b (D : Nat) {x : Stm} (h : x.OkB) {a : Addr} {t : List Row4} (ht : Tab a t) : CallS D 140 [.d 0, .a a] [x.o] (.i (resB x x.cursor (x.rowB t)).1) [(resB x x.cursor (x.rowB t)).2.o] := by
 refine call_body fn140 rfl fun c hc hsc => ?_
 have := h.l0; have := h.lc; have := h.cl; have := h.z
 obtain ⟨hr, hl, hp⟩ := ht.lens
 have T := tabAt_of (ht.ck c.w.params)
 have hst := T.list
 obtain ⟨m, J, CJ, first', tl', e1, e2, e3, L1⟩ := loop_b c hc hsc x a t T (fun r q => Nat.le_trans (hr r q) (by lia)) (by lia) x.cursor x.lb h.l0 h.cl h.z (t.length + 2) 0 t.length 0 0 false [] (.inl rfl) (by lia) (by lia) (by lia) (by lia) (by lia) (by lia) (by lia) (by unfold meas; simp only [Bool.false_eq_true, if_false]; lia)
 obtain ⟨m2, loc2, L2⟩ := chain_b c hc hsc x a t T (fun r q => Nat.le_trans (hr r q) (by lia)) (by lia) (fun k row q => by have := ckLink_ok ht.link k row q; lia) x.cursor x.lb (x.searchB t).2 J CJ first' (t.length + 1) (x.searchB t).1 tl' e1 e2 e3 (by have : (x.searchB t).1 < t.length := e3; lia)
 refine' out_ret (sx_cons_next ?s0 (sx_cons_next ?s1 (sx_cons_next ?s2 (sx_cons_next ?s3 (sx_cons_next ?s4 (sx_cons_next ?s5 (sx_cons_next (sx_cast ?s6 ?e1 ?e2) (sx_cons_next (sx_while (n := m) L1) (sx_cons_stop ?hn (sx_while (n := m2) L2)))))))))) ?r1 ?r2
 case s0 => walk_at "m sx"
 case s1 => walk_at "m sx"
 case s2 => walk_at "m sx"
 case s3 => walk_at "m sx"
 case s4 => walk_at "m sx"
 case s5 => walk_at "m sx"
 case s6 => walk_at "m sx"
 case e1 => rw [List.length_map]; rfl
 case e2 => rfl
 case hn => intro q; cases q
 case r1 => rfl
 case r2 => rfl
end
section
noncomputable def forF : Stmt := nthS (match nthS (defBody (cst 2 14)) 7 with | .While _ b _ _ => b | _ => []) 4
noncomputable def locIF (v : V) (i j cc lb ci cj : Int) (first : Bool) (k d com : Int) (w : V) (tl : Ls) : Ls :=
 (kS "self", .d 0) :: (kS "v", v) :: (kS "i", .i i) :: (kS "j", .i j) :: (kS "c", .i cc) :: (kS "l", .i lb) :: (kS "common_i", .i ci) :: (kS "common_j", .i cj) :: (kS "first_key_inspected", .b first) :: (kS "k", .i k) :: (kS "diff", .i d) :: (kS "common", .i com) :: (kS "w", w) :: tl
section
local macro_rules | `(tactic| walk_at "m ev") => wF "hc %bi_ord hk hs h hb|hc=a hk=local hs=r h=ev hb=ord|builtin1;hc h st ev ok|hc=a h=ev st=a ev=r ok=inst|ev_attr_st"
theorem inner_f_step (c : Cx) {D : Nat} (hc : c.OK D) (hsc : c.scope = defScope (cst 2 14)) (x : Stm) (row : Row4) (hrow : StI c.w.params row.at_ 220 row.fs) (v : V) (i j cc lb ci cj : Int) (first : Bool) (k d com r : Int) (h : cc + com ≠ lb)
  (n m : Nat) (h0 : 0 ≤ cc + com) (h1 : cc + com < 100000) (hn : x.cur[(cc + com).toNat]? = some n) (r0 : 0 ≤ r) (r1 : r < 100000) (hm : row.s[r.toNat]? = some m) (hd : (n : Int) - (m : Int) = 0) :
  Sx c (execs (match forF with | .For _ _ b _ _ => b | _ => []) c.env) (locIF v i j cc lb ci cj first k d com (.a row.at_) [(kS "i2", .i r)]) [x.o] .next (locIF v i j cc lb ci cj first k ((n : Int) - (m : Int)) (com + 1) (.a row.at_) [(kS "i2", .i r)]) [x.o] := by
 have hh : cc + com = lb → False := h
 refine' sx_cast ?h1 ?h2 ?h3
 case h1 => walk_at "m sxs"
 case h2 => rfl
 case h3 => rfl
theorem inner_f_stop (c : Cx) {D : Nat} (hc : c.OK D) (hsc : c.scope = defScope (cst 2 14)) (x : Stm) (row : Row4) (hrow : StI c.w.params row.at_ 220 row.fs) (v : V) (i j cc lb ci cj : Int) (first : Bool) (k d com r : Int) (h : cc + com ≠ lb)
  (n m : Nat) (h0 : 0 ≤ cc + com) (h1 : cc + com < 100000) (hn : x.cur[(cc + com).toNat]? = some n) (r0 : 0 ≤ r) (r1 : r < 100000) (hm : row.s[r.toNat]? = some m) (hd : (n : Int) - (m : Int) ≠ 0) :
  Sx c (execs (match forF with | .For _ _ b _ _ => b | _ => []) c.env) (locIF v i j cc lb ci cj first k d com (.a row.at_) [(kS "i2", .i r)]) [x.o] .brk (locIF v i j cc lb ci cj first k ((n : Int) - (m : Int)) com (.a row.at_) [(kS "i2", .i r)]) [x.o] := by
 have hh : cc + com = lb → False := h
 refine' sx_cast ?h1 ?h2 ?h3
 case h1 => walk_at "m sxs"
 case h2 => rfl
 case h3 => rfl
theorem put_i2F (v : V) (i j cc lb ci cj : Int) (first : Bool) (k d com : Int) (w : V) {tl : Ls} (h : I2 tl) (r : Int) : put (kS "i2") (.i r) (locIF v i j cc lb ci cj first k d com w tl) = locIF v i j cc lb ci cj first k d com w [(kS "i2", .i r)] := by
 rcases h with rfl | ⟨u, rfl⟩ <;> rfl
theorem inner_f_out (c : Cx) {D : Nat} (hc : c.OK D) (hsc : c.scope = defScope (cst 2 14)) (x : Stm) (row : Row4) (hrow : StI c.w.params row.at_ 220 row.fs) (v : V) (i j cc lb ci cj : Int) (first : Bool) (k d com r : Int) (h : cc + com = lb) :
  Sx c (execs (match forF with | .For _ _ b _ _ => b | _ => []) c.env) (locIF v i j cc lb ci cj first k d com (.a row.at_) [(kS "i2", .i r)]) [x.o] .brk (locIF v i j cc lb ci cj first k (-1) com (.a row.at_) [(kS "i2", .i r)]) [x.o] := by
 refine' sx_cast ?h1 ?h2 ?h3
 case h1 => walk_at "m sxs"
 case h2 => rfl
 case h3 => rfl
end
theorem inner_f (c : Cx) {D : Nat} (hc : c.OK D) (hsc : c.scope = defScope (cst 2 14)) (x : Stm) (row : Row4) (hrow : StI c.w.params row.at_ 220 row.fs) (v : V) (i j cc lb ci cj : Int) (first : Bool) (k : Int)
  (hl : 0 ≤ cc) (hcl : lb ≤ x.cur.length) (hz : x.cur.length ≤ 1000) (hs : row.s.length ≤ 1000) : ∀ (r : Nat) (com d : Int) (tl : Ls), I2 tl → 0 ≤ com → cc + com ≤ lb → r ≤ row.s.length →
  ∃ tl', I2 tl' ∧ LpR c forF 1 ((row.s.length : Int) - r) r (locIF v i j cc lb ci cj first k d com (.a row.at_) tl) [x.o] .next (locIF v i j cc lb ci cj first k (inF x.cur cc lb row.s r com d).1 (inF x.cur cc lb row.s r com d).2 (.a row.at_) tl') [x.o] := by
 intro r
 induction r with
 | zero => exact fun com d tl ht h0 h1 h2 => ⟨tl, ht, ForR.done (by lia)⟩
 | succ r ih =>
  intro com d tl ht h0 h1 h2
  obtain ⟨q, hq⟩ : ∃ q : Nat, q = row.s.length - (r + 1) := ⟨_, rfl⟩
  have hsc' : c.scope.names.lookup (S "i2") = some .local := kL hsc (by decide +kernel)
  have asg : ∀ p : Pos, Asg c (.Name (S "i2") p) (.i q) (locIF v i j cc lb ci cj first k d com (.a row.at_) tl) (locIF v i j cc lb ci cj first k d com (.a row.at_) [(kS "i2", .i q)]) [x.o] := by
   intro p
   have := asg_name (p := p) (v := .i q) (loc := locIF v i j cc lb ci cj first k d com (.a row.at_) tl) (sto := [x.o]) hc hsc'
   rwa [put_i2F v i j cc lb ci cj first k d com (.a row.at_) ht q] at this
  have e0 : ((row.s.length : Int) - ((r + 1 : Nat) : Int)) = q := by lia
  have e1 : (((r + 1 : Nat) : Int)) - 1 = r := by lia
  have pos : (0 : Int) < ((r + 1 : Nat) : Int) := by lia
  rw [e0]
  by_cases h : cc + com = lb
  ·have e : inF x.cur cc lb row.s (r + 1) com d = (-1, com) := by unfold inF; rw [if_pos h]
   rw [e]
   exact ⟨[(kS "i2", .i q)], .inr ⟨_, rfl⟩, ForR.brk pos (asg _) fun ext => inner_f_out (c.with ext) (hc.with ext) hsc x row hrow v i j cc lb ci cj first k d com q h⟩
  ·have hlt : (cc + com).toNat < x.cur.length := by lia
   have hlr : q < row.s.length := by lia
   have hn : x.cur[(cc + com).toNat]? = some (x.cur[(cc + com).toNat]'hlt) := List.getElem?_eq_getElem hlt
   have hm : row.s[((q : Nat) : Int).toNat]? = some (row.s[q]'hlr) := by
    rw [Int.toNat_natCast]; exact List.getElem?_eq_getElem hlr
   have g1 : x.cur.getD (cc + com).toNat 0 = x.cur[(cc + com).toNat]'hlt := by rw [List.getD_eq_getElem?_getD, hn]; rfl
   have g2 : row.s.getD q 0 = row.s[q]'hlr := by rw [List.getD_eq_getElem?_getD, List.getElem?_eq_getElem hlr]; rfl
   by_cases hd : ((x.cur[(cc + com).toNat]'hlt : Nat) : Int) - ((row.s[q]'hlr : Nat) : Int) = 0
   ·have e : inF x.cur cc lb row.s (r + 1) com d = inF x.cur cc lb row.s r (com + 1) (((x.cur[(cc + com).toNat]'hlt : Nat) : Int) - ((row.s[q]'hlr : Nat) : Int)) := by
     conv => lhs; unfold inF
     rw [if_neg h]
     simp only [← hq, g1, g2, hd]
     simp
    rw [e]
    obtain ⟨tl', ht', T⟩ := ih (com + 1) (((x.cur[(cc + com).toNat]'hlt : Nat) : Int) - ((row.s[q]'hlr : Nat) : Int)) [(kS "i2", .i q)] (.inr ⟨_, rfl⟩) (by lia) (by lia) (by lia)
    refine ⟨tl', ht', ForR.next pos (asg _) (fun ext => inner_f_step (c.with ext) (hc.with ext) hsc x row hrow v i j cc lb ci cj first k d com q h _ _ (by lia) (by lia) hn (by lia) (by lia) hm hd) ?_⟩
    have e2 : (q : Int) + 1 = (row.s.length : Int) - r := by lia
    rw [e1, e2]
    exact T
   ·have e : inF x.cur cc lb row.s (r + 1) com d = (((x.cur[(cc + com).toNat]'hlt : Nat) : Int) - ((row.s[q]'hlr : Nat) : Int), com) := by
     unfold inF
     rw [if_neg h]
     simp only [← hq, g1, g2]
     rw [if_pos hd]
    rw [e]
    exact ⟨[(kS "i2", .i q)], .inr ⟨_, rfl⟩, ForR.brk pos (asg _) fun ext => inner_f_stop (c.with ext) (hc.with ext) hsc x row hrow v i j cc lb ci cj first k d com q h _ _ (by lia) (by lia) hn (by lia) (by lia) hm hd⟩
end
section
noncomputable def locHF (v : V) (i j cc lb ci cj : Int) (first : Bool) (tl : Ls) : Ls :=
 (kS "self", .d 0) :: (kS "v", v) :: (kS "i", .i i) :: (kS "j", .i j) :: (kS "c", .i cc) :: (kS "l", .i lb) :: (kS "common_i", .i ci) :: (kS "common_j", .i cj) :: (kS "first_key_inspected", .b first) :: tl
noncomputable def whF : Stmt := nthS (defBody (cst 2 14)) 7
noncomputable def whF2 : Stmt := nthS (defBody (cst 2 14)) 8
local macro_rules | `(tactic| walk_at "m op") => wF "h0|h0=o|shr_I"
local macro_rules | `(tactic| walk_at "m ev") => wF "hc %bi_min hk hs h h' hb|hc=a hk=local hs=r h=ev h'=ev hb=t19|builtin2;hc h st ev ok|hc=a h=ev st=a ev=r ok=inst|ev_attr_st;hc hi h g q h0 h1 hx|hc=a hi=r h=ev g=ev q=isL h0=o h1=o hx=a|ev_sub_list"
theorem front_f (c : Cx) {D : Nat} (hc : c.OK D) (hsc : c.scope = defScope (cst 2 14)) (x : Stm) (a : Addr) (t : List Row4) (hl : StL c.w.params a (t.map fun r => .a r.at_)) (i j cc lb ci cj : Int) (first : Bool) (tl : Ls) (ht : TlH tl) (row : Row4)
  (h0 : 0 ≤ i) (h1 : i ≤ j) (h2 : j ≤ 1000) (hr : (t.map fun r => V.a r.at_)[(i + (j - i) / 2).toNat]? = some (.a row.at_)) :
  ∃ tl', I2 tl' ∧ ∀ (o : Out) (loc₂ : Ls) (sto₂ : Sto), Sx c (execs ((whBody whF).drop 4) c.env) (locIF (.a a) i j cc lb ci cj first (i + (j - i) / 2) 0 (if cj < ci then cj else ci) (.a row.at_) tl') [x.o] o loc₂ sto₂ → Sx c (execs (whBody whF) c.env) (locHF (.a a) i j cc lb ci cj first tl) [x.o] o loc₂ sto₂ := by
 rcases ht with rfl | ⟨k, d, com, w, tl', hi, rfl⟩
 ·refine ⟨[], .inl rfl, fun o loc₂ sto₂ rest => ?_⟩
  refine' sx_cons_next ?s0 (sx_cons_next ?s1 (sx_cons_next ?s2 (sx_cons_next (sx_cast ?s3 ?e1 ?e2) rest)))
  case s0 => walk_at "m sx"
  case s1 => walk_at "m sx"
  case s2 => walk_at "m sx"
  case s3 => walk_at "m sx"
  case e1 => rfl
  case e2 => rfl
 ·rcases hi with rfl | ⟨u, rfl⟩
  ·refine ⟨[], .inl rfl, fun o loc₂ sto₂ rest => ?_⟩
   refine' sx_cons_next ?s0 (sx_cons_next ?s1 (sx_cons_next ?s2 (sx_cons_next (sx_cast ?s3 ?e1 ?e2) rest)))
   case s0 => walk_at "m sx"
   case s1 => walk_at "m sx"
   case s2 => walk_at "m sx"
   case s3 => walk_at "m sx"
   case e1 => rfl
   case e2 => rfl
  ·refine ⟨[(kS "i2", u)], .inr ⟨_, rfl⟩, fun o loc₂ sto₂ rest => ?_⟩
   refine' sx_cons_next ?s0 (sx_cons_next ?s1 (sx_cons_next ?s2 (sx_cons_next (sx_cast ?s3 ?e1 ?e2) rest)))
   case s0 => walk_at "m sx"
   case s1 => walk_at "m sx"
   case s2 => walk_at "m sx"
   case s3 => walk_at "m sx"
   case e1 => rfl
   case e2 => rfl
theorem if5_f (c : Cx) {D : Nat} (hc : c.OK D) (hsc : c.scope = defScope (cst 2 14)) (x : Stm) (v : V) (i j cc lb ci cj : Int) (first : Bool) (k d com : Int) (w : V) (tl : Ls) {o : Out} {loc₂ : Ls} {sto₂ : Sto}
  (rest : Sx c (execs ((whBody whF).drop 6) c.env) (locIF v (if d < 0 then i else k) (if d < 0 then k else j) cc lb (if d < 0 then ci else com) (if d < 0 then com else cj) first k d com w tl) [x.o] o loc₂ sto₂) :
  Sx c (execs ((whBody whF).drop 5) c.env) (locIF v i j cc lb ci cj first k d com w tl) [x.o] o loc₂ sto₂ := by
 by_cases hd : d < 0
 ·simp only [if_pos hd] at rest
  refine' sx_cons_next (sx_cast ?s3 ?e1 ?e2) rest
  case s3 => walk_at "m sx"
  case e1 => rfl
  case e2 => rfl
 ·simp only [if_neg hd] at rest
  refine' sx_cons_next (sx_cast ?s3 ?e1 ?e2) rest
  case s3 => walk_at "m sx"
  case e1 => rfl
  case e2 => rfl
theorem if6_f (c : Cx) {D : Nat} (hc : c.OK D) (hsc : c.scope = defScope (cst 2 14)) (x : Stm) (v : V) (i j cc lb ci cj : Int) (first : Bool) (k d com : Int) (w : V) (tl : Ls) :
  Sx c (execs ((whBody whF).drop 6) c.env) (locIF v i j cc lb ci cj first k d com w tl) [x.o] (if (endT i j first).1 then .brk else .next) (locIF v i j cc lb ci cj (endT i j first).2 k d com w tl) [x.o] := by
 unfold endT
 by_cases h1 : j - i ≤ 1
 ·by_cases h2 : i > 0
  ·simp only [if_pos h1, if_pos h2, if_true]
   refine' sx_cast ?h1 ?h2 ?h3
   case h1 => walk_at "m sxs"
   case h2 => rfl
   case h3 => rfl
  ·by_cases h3 : j = i
   ·simp only [if_pos h1, if_neg h2, if_pos h3, if_true]
    refine' sx_cast ?h1 ?h2 ?h3
    case h1 => walk_at "m sxs"
    case h2 => rfl
    case h3 => rfl
   ·have h3' : j = i → False := h3
    cases first with
    | true =>
     simp only [if_pos h1, if_neg h2, if_neg h3, if_true]
     refine' sx_cast ?h1 ?h2 ?h3
     case h1 => walk_at "m sxs"
     case h2 => rfl
     case h3 => rfl
    | false =>
     simp only [if_pos h1, if_neg h2, if_neg h3, Bool.false_eq_true, if_false]
     refine' sx_cast ?h1 ?h2 ?h3
     case h1 => walk_at "m sxs"
     case h2 => rfl
     case h3 => rfl
 ·simp only [if_neg h1, Bool.false_eq_true, if_false]
  refine' sx_cast ?h1 ?h2 ?h3
  case h1 => walk_at "m sxs"
  case h2 => rfl
  case h3 => rfl

noncomputable def cmpF (cur : List Nat) (c l : Int) (s : List Nat) (com : Int) : Int × Int := inF cur c l s (s.length - com).toNat com 0
theorem for_f (c : Cx) {D : Nat} (hc : c.OK D) (hsc : c.scope = defScope (cst 2 14)) (x : Stm) (row : Row4) (hrow : StI c.w.params row.at_ 220 row.fs) (v : V) (i j cc lb ci cj : Int) (first : Bool) (k com : Int) (tl : Ls) (ht : I2 tl)
  (hl : 0 ≤ cc) (hcl : lb ≤ x.cur.length) (hz : x.cur.length ≤ 1000) (hs : row.s.length ≤ 1000) (h0 : 0 ≤ com) (h1 : cc + com ≤ lb) :
  ∃ tl', I2 tl' ∧ Sx c (exec forF c.env) (locIF v i j cc lb ci cj first k 0 com (.a row.at_) tl) [x.o] .next (locIF v i j cc lb ci cj first k (cmpF x.cur cc lb row.s com).1 (cmpF x.cur cc lb row.s com).2 (.a row.at_) tl') [x.o] := by
 obtain ⟨tl', ht', T⟩ := inner_f c hc hsc x row hrow v i j cc lb ci cj first k hl hcl hz hs (row.s.length - com).toNat com 0 tl ht h0 h1 (by lia)
 refine ⟨tl', ht', ?_⟩
 refine' sx_for_range hc (x := com) (y := (row.s.length : Int)) (st := 1) ?hi ?h ?small ?T
 case hi => rfl
 case h =>
  refine' rng2 hc (bi_range _) ?hk ?hs ?h
  case hk => walk_at "m local"
  case hs => rfl
  case h => walk_at "m evl"
 case small => exact small1 (by lia)
 case T =>
  have e : Builtin.Range.rangeSize com (row.s.length : Int) 1 = if com < (row.s.length : Int) then (row.s.length : Int) - com else 0 := by
   unfold Builtin.Range.rangeSize
   rw [if_pos (by decide)]
   split <;> lia
  rw [e]
  by_cases hlt : com < (row.s.length : Int)
  ·rw [if_pos hlt]
   have e1 : (((row.s.length - com : Int).toNat : Nat) : Int) = row.s.length - com := by lia
   rw [e1] at T
   have e2 : (row.s.length : Int) - (row.s.length - com) = com := by lia
   rw [e2] at T
   exact T
  ·rw [if_neg hlt]
   have e1 : (row.s.length - com : Int).toNat = 0 := by lia
   have e2 : cmpF x.cur cc lb row.s com = (0, com) := by unfold cmpF; rw [e1]; rfl
   rw [e1] at T
   rw [e2]
   rcases T.view with ⟨_, _, e3, e4⟩ | ⟨e, _⟩
   ·exact ForR.done' (Int.le_refl 0) e3 e4
   ·exact absurd e (by decide)
theorem inF_com (cur : List Nat) (c lb : Int) (s : List Nat) : ∀ (r : Nat) (com d : Int), c + com ≤ lb → com ≤ (inF cur c lb s r com d).2 ∧ c + (inF cur c lb s r com d).2 ≤ lb := by
 intro r
 induction r with
 | zero => intro com d h; exact ⟨Int.le_refl _, h⟩
 | succ r ih =>
  intro com d h
  unfold inF
  split
  ·exact ⟨Int.le_refl _, h⟩
  ·dsimp only
   split
   ·exact ⟨Int.le_refl _, h⟩
   ·have := fun d => ih (com + 1) d (by lia)
    exact ⟨Int.le_trans (by lia) (this _).1, (this _).2⟩
theorem cmpF_com {cur : List Nat} {c lb : Int} {s : List Nat} {com : Int} (h : c + com ≤ lb) : com ≤ (cmpF cur c lb s com).2 ∧ c + (cmpF cur c lb s com).2 ≤ lb := inF_com cur c lb s _ com 0 h
theorem turn_f (c : Cx) {D : Nat} (hc : c.OK D) (hsc : c.scope = defScope (cst 2 14)) (x : Stm) (a : Addr) (t : List Row4) (ht : TabAt c.w.params a t) (htz : ∀ r ∈ t, r.s.length ≤ 1000) (htl : t.length ≤ 1000) (i j cc lb ci cj : Int) (first : Bool) (tl : Ls) (htl' : TlH tl)
  (hl : 0 ≤ cc) (hcl : lb ≤ x.cur.length) (hz : x.cur.length ≤ 1000) (h0 : 0 ≤ i) (h1 : i < j) (h2 : j ≤ t.length) (c0 : 0 ≤ ci) (c1 : cc + ci ≤ lb) (d0 : 0 ≤ cj) (d1 : cc + cj ≤ lb)
  (k : Int) (hk : k = i + (j - i) / 2) (r : Int × Int) (hr : r = cmpF x.cur cc lb (sOf t k.toNat) (if cj < ci then cj else ci)) (i' j' : Int) (hi' : i' = if r.1 < 0 then i else k) (hj' : j' = if r.1 < 0 then k else j) :
  ∃ tl', TlN tl' ∧ Sx c (execs (whBody whF) c.env) (locHF (.a a) i j cc lb ci cj first tl) [x.o] (if (endT i' j' first).1 then .brk else .next)
   (locHF (.a a) i' j' cc lb (if r.1 < 0 then ci else r.2) (if r.1 < 0 then r.2 else cj) (endT i' j' first).2 tl') [x.o] := by
 have hkl : k.toNat < t.length := by lia
 have hrow : sOf t k.toNat = t[k.toNat].s := by unfold sOf; rw [List.getElem?_eq_getElem hkl]
 rw [hrow] at hr
 have hmem : t[k.toNat] ∈ t := List.getElem_mem hkl
 obtain ⟨tl1, hi1, F⟩ := front_f c hc hsc x a t ht.list i j cc lb ci cj first tl htl' t[k.toNat] h0 (by lia) (by lia) (by rw [← hk, List.getElem?_map, List.getElem?_eq_getElem hkl]; rfl)
 rw [← hk] at F
 obtain ⟨tl2, hi2, G⟩ := for_f c hc hsc x t[k.toNat] (ht.rows _ hmem) (.a a) i j cc lb ci cj first k (if cj < ci then cj else ci) tl1 hi1 hl hcl hz (htz _ hmem) (by split <;> lia) (by split <;> lia)
 rw [← hr] at G
 have J := if6_f c hc hsc x (.a a) i' j' cc lb (if r.1 < 0 then ci else r.2) (if r.1 < 0 then r.2 else cj) first k r.1 r.2 (.a t[k.toNat].at_) tl2
 refine ⟨(kS "k", .i k) :: (kS "diff", .i r.1) :: (kS "common", .i r.2) :: (kS "w", .a t[k.toNat].at_) ::  tl2, ⟨_, _, _, _, _, hi2, rfl⟩, F _ _ _ ?_⟩
 refine' sx_cons_next G ?_
 refine if5_f c hc hsc x (.a a) i j cc lb ci cj first k r.1 r.2 (.a t[k.toNat].at_) tl2 ?_
 rw [← hi', ← hj']
 exact J

theorem loop_f (c : Cx) {D : Nat} (hc : c.OK D) (hsc : c.scope = defScope (cst 2 14)) (x : Stm) (a : Addr) (t : List Row4) (ht : TabAt c.w.params a t) (htz : ∀ r ∈ t, r.s.length ≤ 1000) (htl : t.length ≤ 1000) (cc lb : Int)
  (hl : 0 ≤ cc) (hcl : lb ≤ x.cur.length) (hz : x.cur.length ≤ 1000) : ∀ (n : Nat) (i j ci cj : Int) (first : Bool) (tl : Ls), TlH tl → 0 ≤ i → i < j → j ≤ t.length → 0 ≤ ci → cc + ci ≤ lb → 0 ≤ cj → cc + cj ≤ lb → meas i j first ≤ n →
  ∃ m J CJ first' tl', TlN tl' ∧ 0 ≤ (outer (fun k com => cmpF x.cur cc lb (sOf t k) com) n i j ci cj first).1 ∧ (outer (fun k com => cmpF x.cur cc lb (sOf t k) com) n i j ci cj first).1 < t.length ∧ Lp c whF m (locHF (.a a) i j cc lb ci cj first tl) [x.o] .next (locHF (.a a) (outer (fun k com => cmpF x.cur cc lb (sOf t k) com) n i j ci cj first).1 J cc lb (outer (fun k com => cmpF x.cur cc lb (sOf t k) com) n i j ci cj first).2 CJ first' tl') [x.o] := by
 intro n
 induction n with
 | zero =>
  intro i j ci cj first tl _ _ h1 _ _ _ _ _ hm
  exact absurd hm (Nat.not_le.mpr (meas_pos h1 first))
 | succ n ih =>
  intro i j ci cj first tl hT h0 h1 h2 c0 c1 d0 d1 hm
  obtain ⟨k, hk⟩ : ∃ k, k = i + (j - i) / 2 := ⟨_, rfl⟩
  obtain ⟨r, hr⟩ : ∃ r, r = cmpF x.cur cc lb (sOf t k.toNat) (if cj < ci then cj else ci) := ⟨_, rfl⟩
  obtain ⟨i', hi'⟩ : ∃ i', i' = if r.1 < 0 then i else k := ⟨_, rfl⟩
  obtain ⟨j', hj'⟩ : ∃ j', j' = if r.1 < 0 then k else j := ⟨_, rfl⟩
  obtain ⟨tl1, hT1, X⟩ := turn_f c hc hsc x a t ht htz htl i j cc lb ci cj first tl hT hl hcl hz h0 h1 h2 c0 c1 d0 d1 k hk r hr i' j' hi' hj'
  rw [outer_succ (fun k com => cmpF x.cur cc lb (sOf t k) com) n i j ci cj first k hk r hr i' j' hi' hj']
  have hcom : (if cj < ci then cj else ci) ≤ r.2 ∧ cc + r.2 ≤ lb := by
   rw [hr]; exact cmpF_com (by split <;> assumption)
  have hr0 : 0 ≤ r.2 := Int.le_trans (by split <;> assumption) hcom.1
  have K := turn_ok h1 hk hi' hj'
  have hi0 : 0 ≤ i' := Int.le_trans h0 K.1
  have hi1 : i' < t.length := Int.lt_of_lt_of_le K.2.1 h2
  have hj1 : j' ≤ t.length := Int.le_trans K.2.2.2.1 h2
  cases he : (endT i' j' first).1 with
  | true =>
   rw [he] at X
   simp only [if_true] at X ⊢
   refine ⟨0, j', (if r.1 < 0 then r.2 else cj), (endT i' j' first).2, tl1, hT1, hi0, hi1, ?_⟩
   ·show Turns c _ _ _ _ _ _ _ _
    exact Turns.brk ev_true X
  | false =>
   rw [he] at X
   simp only [Bool.false_eq_true, if_false] at X ⊢
   have hlt := meas_ok K.2.2.1 K.2.2.2.2.1 K.2.2.2.2.2 hm he
   have hcm := hcom.2
   obtain ⟨m, J, CJ, first', tl2, a1, a2, a3, T⟩ := ih i' j' (if r.1 < 0 then ci else r.2) (if r.1 < 0 then r.2 else cj) (endT i' j' first).2 tl1 (.inr hT1) hi0 hlt.1 hj1 (by split <;> assumption) (by split <;> assumption) (by split <;> assumption) (by split <;> assumption) hlt.2
   refine ⟨m + 1, J, CJ, first', tl2, a1, a2, a3, ?_⟩
   show Turns c _ _ _ _ _ _ _ _
   exact Turns.next ev_true X T
noncomputable def resF (x : Stm) (cc : Int) : Option Row4 → Int × Stm
 | some r => (r.res, { x with cursor := cc + r.s.length })
 | none => (0, x)
theorem chain_f (c : Cx) {D : Nat} (hc : c.OK D) (hsc : c.scope = defScope (cst 2 14)) (x : Stm) (a : Addr) (t : List Row4) (ht : TabAt c.w.params a t) (htz : ∀ r ∈ t, r.s.length ≤ 1000) (htl : t.length ≤ 1000) (hlink : ∀ (k : Nat) (row : Row4), t[k]? = some row → row.link < (k : Int)) (cc lb ci J CJ : Int) (first : Bool) :
  ∀ (n : Nat) (i : Int) (tl : Ls), TlN tl → 0 ≤ i → i < t.length → i.toNat < n →
  ∃ m loc', Lp c whF2 m (locHF (.a a) i J cc lb ci CJ first tl) [x.o] (.ret (.i (resF x cc (chain t ci n i)).1)) loc' [(resF x cc (chain t ci n i)).2.o] := by
 intro n
 induction n with
 | zero => intro i tl _ _ _ h; lia
 | succ n ih =>
  intro i tl hT h0 h1 hn
  obtain ⟨k, d, com, w, tl', hi, rfl⟩ := hT
  have hlt : i.toNat < t.length := by lia
  have hg : t[i.toNat]? = some t[i.toNat] := List.getElem?_eq_getElem hlt
  generalize hrow : t[i.toNat] = row at hg
  have hmem : row ∈ t := by rw [← hrow]; exact List.getElem_mem hlt
  have hst := ht.rows row hmem
  have hsz := htz row hmem
  have hstl := ht.list
  have hx : (t.map fun r => V.a r.at_)[i.toNat]? = some (.a row.at_) := by rw [List.getElem?_map, hg]; rfl
  have hlk := hlink i.toNat row hg
  by_cases h2 : (row.s.length : Int) ≤ ci
  ·have e : chain t ci (n + 1) i = some row := by unfold chain; rw [hg]; simp only [if_pos h2]
   rw [e]
   show ∃ m loc', Lp c whF2 m _ [x.o] (.ret (.i row.res)) loc' [({ x with cursor := cc + row.s.length } : Stm).o]
   refine' ⟨0, ?l, ?g⟩
   case g =>
    show Turns c _ _ _ _ _ _ _ _
    refine' Turns.ret ev_true (sx_cast ?h3 ?h4 ?h5)
    case h3 => walk_at "m sxs"
    case h4 => rfl
    case h5 => rfl
  ·by_cases h3 : row.link < 0
   ·have e : chain t ci (n + 1) i = none := by unfold chain; rw [hg]; simp only [if_neg h2, if_pos h3]
    rw [e]
    show ∃ m loc', Lp c whF2 m _ [x.o] (.ret (.i 0)) loc' [x.o]
    refine' ⟨0, ?l2, ?g2⟩
    case g2 =>
     show Turns c _ _ _ _ _ _ _ _
     refine' Turns.ret ev_true (sx_cast ?h32 ?h42 ?h52)
     case h32 => walk_at "m sxs"
     case h42 => rfl
     case h52 => rfl
   ·have e : chain t ci (n + 1) i = chain t ci n row.link := by conv => { lhs; unfold chain }; rw [hg]; simp only [if_neg h2, if_neg h3]
    rw [e]
    obtain ⟨m, loc', T⟩ := ih row.link ((kS "k", .i k) :: (kS "diff", .i d) :: (kS "common", .i com) :: (kS "w", .a row.at_) :: tl') ⟨_, _, _, _, _, hi, rfl⟩ (by lia) (by lia) (by lia)
    refine ⟨m + 1, loc', ?_⟩
    show Turns c _ _ _ _ _ _ _ _
    refine' turns_next ev_true ?h4 ?h5 ?h6 T
    case h4 => walk_at "m sxs"
    case h5 => rfl
    case h6 => rfl
end
section
noncomputable def Stm.searchF (x : Stm) (t : List Row4) : Int × Int := outer (fun k com => cmpF x.cur x.cursor x.limit (sOf t k) com) (t.length + 2) 0 t.length 0 0 false
noncomputable def Stm.rowF (x : Stm) (t : List Row4) : Option Row4 := chain t (x.searchF t).2 (t.length + 1) (x.searchF t).1
local macro_rules | `(tactic| walk_at "m ev") => wF "hc %bi_len hk hs h hb|hc=a hk=local hs=r h=ev hb=lenL|builtin1"
theorem c_find_among (D : Nat) {x : Stm} (h : x.Ok) (hcl : x.cursor ≤ x.limit) {a : Addr} {t : List Row4} (ht : Tab a t) : CallS D 133 [.d 0, .a a] [x.o] (.i (resF x x.cursor (x.rowF t)).1) [(resF x x.cursor (x.rowF t)).2.o] := by
 refine call_body fn133 rfl fun c hc hsc => ?_
 have := h.c0; have := h.cl; have := h.z
 obtain ⟨hr, hl, hp⟩ := ht.lens
 have T := tabAt_of (ht.ck c.w.params)
 have hst := T.list
 obtain ⟨m, J, CJ, first', tl', e1, e2, e3, L1⟩ := loop_f c hc hsc x a t T (fun r q => Nat.le_trans (hr r q) (by lia)) (by lia) x.cursor x.limit h.c0 h.cl h.z (t.length + 2) 0 t.length 0 0 false [] (.inl rfl) (by lia) (by lia) (by lia) (by lia) (by lia) (by lia) (by lia) (by unfold meas; simp only [Bool.false_eq_true, if_false]; lia)
 obtain ⟨m2, loc2, L2⟩ := chain_f c hc hsc x a t T (fun r q => Nat.le_trans (hr r q) (by lia)) (by lia) (fun k row q => by have := ckLink_ok ht.link k row q; lia) x.cursor x.limit (x.searchF t).2 J CJ first' (t.length + 1) (x.searchF t).1 tl' e1 e2 e3 (by have : (x.searchF t).1 < t.length := e3; lia)
 refine' out_ret (sx_cons_next ?s0 (sx_cons_next ?s1 (sx_cons_next ?s2 (sx_cons_next ?s3 (sx_cons_next ?s4 (sx_cons_next ?s5 (sx_cons_next (sx_cast ?s6 ?e1 ?e2) (sx_cons_next (sx_while (n := m) L1) (sx_cons_stop ?hn (sx_while (n := m2) L2)))))))))) ?r1 ?r2
 case s0 => walk_at "m sx"
 case s1 => walk_at "m sx"
 case s2 => walk_at "m sx"
 case s3 => walk_at "m sx"
 case s4 => walk_at "m sx"
 case s5 => walk_at "m sx"
 case s6 => walk_at "m sx"
 case e1 => rw [List.length_map]; rfl
 case e2 => rfl
 case hn => intro q; cases q
 case r1 => rfl
 case r2 => rfl
end
end
/-! the plain law of the search: a sorted table with links gives the longest row that begins the text -/
noncomputable def lcp : List Nat → List Nat → Nat
 | a :: l, b :: r => bif Nat.beq a b then lcp l r + 1 else 0
 | _, _ => 0
noncomputable def ltL : List Nat → List Nat → Bool
 | _, [] => false
 | [], _ :: _ => true
 | a :: l, b :: r => Nat.blt a b || (Nat.beq a b && ltL l r)
noncomputable def preB : List Nat → List Nat → Bool
 | [], _ => true
 | _ :: _, [] => false
 | a :: p, b :: t => Nat.beq a b && preB p t
theorem beq_eq {a b : Nat} : Nat.beq a b = true ↔ a = b := ⟨Nat.eq_of_beq_eq_true, fun h => by rw [h]; exact Nat.beq_refl b⟩
theorem beq_ne {a b : Nat} : Nat.beq a b = false ↔ a ≠ b := by
 constructor
 ·intro h e
  rw [beq_eq.mpr e] at h; cases h
 ·intro h
  cases q : Nat.beq a b with
  | true => exact absurd (beq_eq.mp q) h
  | false => rfl
theorem blt_lt {a b : Nat} : Nat.blt a b = true ↔ a < b := by unfold Nat.blt; rw [Nat.ble_eq]; exact Iff.rfl
theorem ltL_cons {a b : Nat} {l r : List Nat} : ltL (a :: l) (b :: r) = true ↔ a < b ∨ (a = b ∧ ltL l r = true) := by
 simp only [ltL, Bool.or_eq_true, Bool.and_eq_true, blt_lt, beq_eq]
theorem ltL_nil (l : List Nat) : ltL l [] = false := by cases l <;> rfl
theorem ltL_trans : ∀ {a b c : List Nat}, ltL a b = true → ltL b c = true → ltL a c = true
 | a, b, [], _, h => by rw [ltL_nil] at h; cases h
 | a, [], _ :: _, h, _ => by rw [ltL_nil] at h; cases h
 | [], _ :: _, _ :: _, _, _ => rfl
 | a :: l, b :: r, c :: s, h, g => by
  rw [ltL_cons] at h g ⊢
  rcases h with h | ⟨rfl, h⟩
  ·rcases g with g | ⟨rfl, g⟩
   ·exact .inl (Nat.lt_trans h g)
   ·exact .inl h
  ·rcases g with g | ⟨rfl, g⟩
   ·exact .inl g
   ·exact .inr ⟨rfl, ltL_trans h g⟩
theorem ltL_irr : ∀ a : List Nat, ltL a a = false
 | [] => rfl
 | a :: l => by
  cases q : ltL (a :: l) (a :: l) with
  | false => rfl
  | true =>
   rw [ltL_cons] at q
   rcases q with q | ⟨_, q⟩
   ·exact absurd q (Nat.lt_irrefl _)
   ·rw [ltL_irr l] at q; cases q
theorem ltL_tot : ∀ {a b : List Nat}, ltL a b = false → ltL b a = true ∨ a = b
 | [], [], _ => .inr rfl
 | _ :: _, [], _ => .inl rfl
 | [], _ :: _, h => by cases h
 | a :: l, b :: r, h => by
  rcases Nat.lt_trichotomy a b with q | rfl | q
  ·have : ltL (a :: l) (b :: r) = true := ltL_cons.mpr (.inl q)
   rw [h] at this; cases this
  ·have h' : ltL l r = false := by
    cases z : ltL l r with
    | false => rfl
    | true =>
     have : ltL (a :: l) (a :: r) = true := ltL_cons.mpr (.inr ⟨rfl, z⟩)
     rw [h] at this; cases this
   rcases ltL_tot h' with g | rfl
   ·exact .inl (ltL_cons.mpr (.inr ⟨rfl, g⟩))
   ·exact .inr rfl
  ·exact .inl (ltL_cons.mpr (.inl q))
theorem lcp_cons {a : Nat} {l r : List Nat} : lcp (a :: l) (a :: r) = lcp l r + 1 := by
 simp only [lcp, Nat.beq_refl, cond_true]
theorem lcp_ne {a b : Nat} {l r : List Nat} (h : a ≠ b) : lcp (a :: l) (b :: r) = 0 := by
 simp only [lcp, beq_ne.mpr h, cond_false]
theorem squeeze : ∀ {c : Nat} {T A B C : List Nat}, c ≤ lcp T A → c ≤ lcp T C → ltL A B = true → ltL B C = true → c ≤ lcp T B
 | 0, _, _, _, _, _, _, _, _ => Nat.zero_le _
 | c + 1, [], _, _, _, h, _, _, _ => absurd h (by simp [lcp])
 | c + 1, _ :: _, [], _, _, h, _, _, _ => absurd h (by simp [lcp])
 | c + 1, _ :: _, _ :: _, _, [], _, h, _, _ => absurd h (by simp [lcp])
 | c + 1, t :: T, a :: A, [], z :: C, _, _, h, _ => by cases h
 | c + 1, t :: T, a :: A, b :: B, z :: C, h1, h2, h3, h4 => by
  by_cases q : t = a
  ·subst q
   by_cases q : t = z
   ·subst q
    rw [lcp_cons] at h1 h2
    rw [ltL_cons] at h3 h4
    rcases h3 with h3 | ⟨rfl, h3⟩
    ·rcases h4 with h4 | ⟨rfl, h4⟩
     ·exact absurd (Nat.lt_trans h3 h4) (Nat.lt_irrefl _)
     ·exact absurd h3 (Nat.lt_irrefl _)
    ·rcases h4 with h4 | ⟨_, h4⟩
     ·exact absurd h4 (Nat.lt_irrefl _)
     ·rw [lcp_cons]
      exact Nat.succ_le_succ (squeeze (Nat.le_of_succ_le_succ h1) (Nat.le_of_succ_le_succ h2) h3 h4)
   ·rw [lcp_ne q] at h2; exact absurd h2 (by lia)
  ·rw [lcp_ne q] at h1; exact absurd h1 (by lia)
theorem preB_nil (T : List Nat) : preB [] T = true := by cases T <;> rfl
theorem preB_cons {a b : Nat} {p t : List Nat} : preB (a :: p) (b :: t) = true ↔ a = b ∧ preB p t = true := by
 simp only [preB, Bool.and_eq_true, beq_eq]
theorem pre_lcp : ∀ {p T : List Nat}, preB p T = true ↔ p.length ≤ lcp T p
 | [], T => by simp [preB_nil]
 | a :: p, [] => by simp [preB, lcp]
 | a :: p, b :: T => by
  rw [preB_cons]
  by_cases q : b = a
  ·subst q
   rw [lcp_cons, pre_lcp (p := p) (T := T)]
   simp
  ·rw [lcp_ne q]
   simp only [List.length_cons]
   constructor
   ·intro h; exact absurd h.1.symm q
   ·intro h; lia
theorem pre_pre : ∀ {p R T : List Nat}, preB p R = true → (preB p T = true ↔ p.length ≤ lcp T R)
 | [], R, T, _ => by simp [preB_nil]
 | a :: p, [], T, h => by cases h
 | a :: p, b :: R, [], h => by simp [preB, lcp]
 | a :: p, b :: R, c :: T, h => by
  rw [preB_cons] at h
  obtain ⟨rfl, h⟩ := h
  rw [preB_cons]
  by_cases q : c = a
  ·subst q
   rw [lcp_cons, pre_pre h]
   simp
  ·rw [lcp_ne q]
   simp only [List.length_cons]
   constructor
   ·intro h; exact absurd h.1.symm q
   ·intro h; lia
theorem pre_le : ∀ {p T : List Nat}, preB p T = true → ltL T p = false
 | [], T, _ => ltL_nil T
 | a :: p, [], h => by cases h
 | a :: p, b :: T, h => by
  rw [preB_cons] at h
  obtain ⟨rfl, h⟩ := h
  cases q : ltL (a :: T) (a :: p) with
  | false => rfl
  | true =>
   rw [ltL_cons] at q
   rcases q with q | ⟨_, q⟩
   ·exact absurd q (Nat.lt_irrefl _)
   ·rw [pre_le h] at q; cases q
theorem pre_mid : ∀ {p X T : List Nat}, preB p T = true → ltL p X = true → ltL T X = false → preB p X = true
 | [], X, T, _, _, _ => preB_nil X
 | a :: p, [], _, _, h, _ => by cases h
 | a :: p, x :: X, [], h, _, _ => by cases h
 | a :: p, x :: X, t :: T, h, g, k => by
  rw [preB_cons] at h
  obtain ⟨rfl, h⟩ := h
  rw [ltL_cons] at g
  rcases g with g | ⟨rfl, g⟩
  ·have : ltL (a :: T) (x :: X) = true := ltL_cons.mpr (.inl g)
   rw [k] at this; cases this
  ·have k' : ltL T X = false := by
    cases z : ltL T X with
    | false => rfl
    | true =>
     have : ltL (a :: T) (a :: X) = true := ltL_cons.mpr (.inr ⟨rfl, z⟩)
     rw [k] at this; cases this
   exact preB_cons.mpr ⟨rfl, pre_mid h g k'⟩
/-! ### the binary search -/
structure CmpOK (cmp : Nat → Int → Int × Int) (T : List Nat) (R : Nat → List Nat) (n : Nat) : Prop where
 ok : ∀ k, k < n → ∀ com : Nat, com ≤ lcp T (R k) → (cmp k com).2 = lcp T (R k) ∧ ((cmp k com).1 < 0 ↔ ltL T (R k) = true)
structure Sorted (R : Nat → List Nat) (n : Nat) : Prop where
 lt : ∀ a b, a < b → b < n → ltL (R a) (R b) = true
theorem half_lt {i j k : Nat} (h : i < j) (hk : k = i + (j - i) / 2) : k < j := by lia
theorem half_cast {i j k : Nat} (h : i < j) (hk : k = i + (j - i) / 2) : (k : Int) = (i : Int) + ((j : Int) - (i : Int)) / 2 := by lia
theorem min_cast {ci cj com : Nat} (h : com = min ci cj) : (com : Int) = if (cj : Int) < ci then (cj : Int) else ci := by split <;> lia
theorem next_le {i k m : Nat} (h : (k : Int) - i ≤ 1) (g : i < m) : k ≤ m := by lia
theorem endT_true {i j : Int} {first : Bool} (h : (endT i j first).1 = true) : j - i ≤ 1 ∧ (0 < i ∨ j = i ∨ first = true) := by
 unfold endT at h
 by_cases h1 : j - i ≤ 1
 ·refine ⟨h1, ?_⟩
  by_cases h2 : i > 0
  ·exact .inl h2
  ·by_cases h3 : j = i
   ·exact .inr (.inl h3)
   ·cases first with
    | true => exact .inr (.inr rfl)
    | false =>
     simp only [if_pos h1, if_neg h2, if_neg h3, Bool.false_eq_true, if_false] at h
 ·simp only [if_neg h1] at h
  cases h
theorem first_ok {i j i' j' : Nat} {first : Bool} (he : (endT i' j' first).1 = false) (hj : (j' : Int) ≤ j) (hf : first = true → i = 0 ∧ j = 1) (q : (endT (i' : Int) j' first).2 = true) : i' = 0 ∧ j' = 1 := by
 rcases endT_false he with ⟨e1, e2⟩ | ⟨e1, e2, e3, e4, e5⟩
 ·rw [e2] at q
  have := (hf q).2
  clear hf e2 q he
  exfalso; lia
 ·clear hf q he e4 e5 hj
  lia
theorem low_zero {i j k : Nat} {first : Bool} (e1 : i = 0) (h : (k : Int) - i ≤ 1 ∧ (0 < (i : Int) ∨ (k : Int) = i ∨ first = true)) (hf : first = true → i = 0 ∧ j = 1) (hk : (k : Int) < j) : k = 0 := by
 rcases h.2 with q | q | q
 ·exact absurd q (by rw [e1]; decide)
 ·rw [e1] at q; exact Int.ofNat.inj q
 ·have := (hf q).2
  clear hf h q
  lia
theorem outer_spec {cmp : Nat → Int → Int × Int} {T : List Nat} {R : Nat → List Nat} {n : Nat} (hc : CmpOK cmp T R n) (hs : Sorted R n) :
  ∀ (fuel : Nat) (i j ci cj : Nat) (first : Bool), i < j → j ≤ n → meas i j first ≤ fuel →
   ((i = 0 ∧ ci = 0) ∨ (ltL T (R i) = false ∧ ci = lcp T (R i))) → ((j = n ∧ cj = 0) ∨ (j < n ∧ ltL T (R j) = true ∧ cj = lcp T (R j))) → (first = true → i = 0 ∧ j = 1) →
   ∃ I C : Nat, outer cmp fuel i j ci cj first = ((I : Int), (C : Int)) ∧ I < n ∧ ((ltL T (R I) = false ∧ C = lcp T (R I) ∧ ∀ m, I < m → m < n → ltL T (R m) = true) ∨ (I = 0 ∧ C = 0 ∧ ∀ m, m < n → ltL T (R m) = true)) := by
 intro fuel
 induction fuel with
 | zero =>
  intro i j ci cj first h1 _ hm
  exact absurd hm (Nat.not_le.mpr (meas_pos (Int.ofNat_lt.mpr h1) first))
 | succ fuel ih =>
  intro i j ci cj first h1 h2 hm hA hB hf
  obtain ⟨k, hk⟩ : ∃ k : Nat, k = i + (j - i) / 2 := ⟨_, rfl⟩
  have hkI : (k : Int) = (i : Int) + ((j : Int) - (i : Int)) / 2 := half_cast h1 hk
  have hik : i ≤ k := hk ▸ Nat.le_add_right _ _
  have hkj : k < j := half_lt h1 hk
  clear hk
  obtain ⟨com, hcom⟩ : ∃ com : Nat, com = min ci cj := ⟨_, rfl⟩
  have hcI : (com : Int) = if (cj : Int) < ci then (cj : Int) else ci := min_cast hcom
  have hkn : k < n := Nat.lt_of_lt_of_le hkj h2
  have hle : com ≤ lcp T (R k) := by
   have hi : com ≤ ci := hcom ▸ Nat.min_le_left _ _
   have hj : com ≤ cj := hcom ▸ Nat.min_le_right _ _
   rcases hA with ⟨_, e⟩ | ⟨a1, a2⟩
   ·rw [e] at hi; exact Nat.le_trans hi (Nat.zero_le _)
   ·rcases hB with ⟨_, e⟩ | ⟨b0, b1, b2⟩
    ·rw [e] at hj; exact Nat.le_trans hj (Nat.zero_le _)
    ·by_cases q : k = i
     ·rw [q, ← a2]; exact hi
     ·exact squeeze (A := R i) (C := R j) (a2 ▸ hi) (b2 ▸ hj) (hs.lt i k (Nat.lt_of_le_of_ne hik (Ne.symm q)) hkn) (hs.lt k j hkj b0)
  obtain ⟨c1, c2⟩ := hc.ok k hkn com hle
  obtain ⟨r, hr⟩ : ∃ r, r = cmp ((k : Nat) : Int).toNat (if (cj : Int) < ci then (cj : Int) else ci) := ⟨_, rfl⟩
  rw [← hcI, Int.toNat_natCast] at hr
  obtain ⟨i', hi'⟩ : ∃ i', i' = if r.1 < 0 then (i : Int) else (k : Int) := ⟨_, rfl⟩
  obtain ⟨j', hj'⟩ : ∃ j', j' = if r.1 < 0 then (k : Int) else (j : Int) := ⟨_, rfl⟩
  have K := turn_ok (Int.ofNat_lt.mpr h1) hkI hi' hj'
  rw [outer_succ cmp fuel i j ci cj first k hkI r (by rw [hr, ← hcI, Int.toNat_natCast]) i' j' hi' hj']
  rw [← hr] at c1 c2
  clear hkI hcI hcom hle hr h1
  by_cases hd : r.1 < 0
  ·rw [if_pos hd] at hi' hj'
   subst hi'; subst hj'
   simp only [if_pos hd, c1]
   have hlt := c2.mp hd
   clear c1 c2
   have hall : ∀ m, k ≤ m → m < n → ltL T (R m) = true := fun m a b => by
    rcases Nat.lt_or_eq_of_le a with q | q
    ·exact ltL_trans hlt (hs.lt k m q b)
    ·rw [← q]; exact hlt
   cases he : (endT (i : Int) (k : Int) first).1 with
   | true =>
    simp only [if_true]
    refine ⟨i, ci, rfl, Nat.lt_of_le_of_lt hik hkn, ?_⟩
    have he := endT_true he
    rcases hA with ⟨e1, e2⟩ | ⟨a1, a2⟩
    ·exact .inr ⟨e1, e2, fun m hm => hall m (low_zero e1 he hf (Int.ofNat_lt.mpr hkj) ▸ Nat.zero_le m) hm⟩
    ·refine .inl ⟨a1, a2, fun m hm1 hm2 => hall m (next_le he.1 hm1) hm2⟩
   | false =>
    simp only [Bool.false_eq_true, if_false]
    have M := meas_ok K.2.2.1 K.2.2.2.2.1 K.2.2.2.2.2 hm he
    exact ih i k ci (lcp T (R k)) _ (Int.ofNat_lt.mp M.1) (Nat.le_of_lt hkn) M.2 hA (.inr ⟨hkn, hlt, rfl⟩) (first_ok he K.2.2.2.1 hf)
  ·rw [if_neg hd] at hi' hj'
   subst hi'; subst hj'
   simp only [if_neg hd, c1]
   have hge : ltL T (R k) = false := by
    cases q : ltL T (R k) with
    | false => rfl
    | true => exact absurd (c2.mpr q) hd
   clear c1 c2
   cases he : (endT (k : Int) (j : Int) first).1 with
   | true =>
    simp only [if_true]
    refine ⟨k, lcp T (R k), rfl, hkn, .inl ⟨hge, rfl, fun m hm1 hm2 => ?_⟩⟩
    have hjm : j ≤ m := next_le (endT_true he).1 hm1
    rcases hB with ⟨e, _⟩ | ⟨b0, b1, _⟩
    ·exact absurd (Nat.lt_of_lt_of_le hm2 (e ▸ hjm)) (Nat.lt_irrefl _)
    ·rcases Nat.lt_or_eq_of_le hjm with q | q
     ·exact ltL_trans b1 (hs.lt j m q hm2)
     ·rw [← q]; exact b1
   | false =>
    simp only [Bool.false_eq_true, if_false]
    have M := meas_ok K.2.2.1 K.2.2.2.2.1 K.2.2.2.2.2 hm he
    exact ih k j (lcp T (R k)) cj _ (Int.ofNat_lt.mp M.1) h2 M.2 (.inr ⟨hge, rfl⟩) hB (first_ok he K.2.2.2.1 hf)
theorem pre_refl : ∀ p : List Nat, preB p p = true
 | [] => rfl
 | a :: p => preB_cons.mpr ⟨rfl, pre_refl p⟩
theorem pre_trans : ∀ {p q r : List Nat}, preB p q = true → preB q r = true → preB p r = true
 | [], _, r, _, _ => preB_nil r
 | a :: p, [], _, h, _ => by cases h
 | a :: p, b :: q, [], _, h => by cases h
 | a :: p, b :: q, c :: r, h, g => by
  rw [preB_cons] at h g ⊢
  exact ⟨h.1.trans g.1, pre_trans h.2 g.2⟩
theorem pre_len : ∀ {p q R : List Nat}, preB p R = true → preB q R = true → p.length ≤ q.length → preB p q = true
 | [], q, _, _, _, _ => preB_nil q
 | a :: p, [], _, _, _, h => by simp at h
 | a :: p, b :: q, [], h, _, _ => by cases h
 | a :: p, b :: q, c :: R, h, g, k => by
  rw [preB_cons] at h g ⊢
  exact ⟨h.1.trans g.1.symm, pre_len h.2 g.2 (by simpa using k)⟩
theorem pre_eq : ∀ {p q : List Nat}, preB p q = true → q.length ≤ p.length → p = q
 | [], [], _, _ => rfl
 | [], _ :: _, _, h => by simp at h
 | a :: p, [], h, _ => by cases h
 | a :: p, b :: q, h, k => by
  rw [preB_cons] at h
  rw [h.1, pre_eq h.2 (by simpa using k)]
noncomputable def propB (m k : List Nat) : Bool := preB m k && Nat.blt m.length k.length
noncomputable def kAt (ks : List (List Nat)) (k : Nat) : List Nat := match ks[k]? with
 | some r => r
 | none => []
noncomputable def sortB : List (List Nat) → Bool
 | [] => true
 | a :: l => (l.all fun b => ltL a b) && sortB l
theorem sortB_ok : ∀ {l : List (List Nat)}, sortB l = true → Sorted (kAt l) l.length
 | [], _ => ⟨fun a b _ h => by simp at h⟩
 | x :: l, h => by
  rw [sortB, Bool.and_eq_true] at h
  have ih := sortB_ok h.2
  refine ⟨fun a b h1 h2 => ?_⟩
  cases b with
  | zero => lia
  | succ b =>
   have hb : b < l.length := by simpa using h2
   cases a with
   | zero =>
    have e : kAt (x :: l) (b + 1) = l[b] := by unfold kAt; simp [hb]
    rw [e]
    exact List.all_eq_true.mp h.1 _ (List.getElem_mem hb)
   | succ a =>
    have := ih.lt a b (by lia) hb
    simpa [kAt] using this
noncomputable def linkB (ks : List (List Nat)) (k : List Nat) (link : Int) : Bool := match link with
 | .ofNat l => match ks[l]? with
  | some kl => propB kl k && ks.all fun m => !propB m k || Nat.ble m.length kl.length
  | none => false
 | .negSucc _ => ks.all fun m => !propB m k
noncomputable def Best (key : Row4 → List Nat) (t : List Row4) (T : List Nat) : Option Row4 → Prop
 | some r => r ∈ t ∧ preB (key r) T = true ∧ ∀ r' ∈ t, preB (key r') T = true → (key r').length ≤ (key r).length
 | none => ∀ r' ∈ t, preB (key r') T = false
structure KeyOK (key : Row4 → List Nat) (t : List Row4) : Prop where
 len : ∀ r, (key r).length = r.s.length
 sort : sortB (t.map key) = true
 link : (t.all fun r => linkB (t.map key) (key r) r.link) = true
 down : ckLink t 0 = true
theorem at_mem {key : Row4 → List Nat} {t : List Row4} {r : Row4} (h : r ∈ t) : ∃ m, m < t.length ∧ t[m]? = some r ∧ kAt (t.map key) m = key r := by
 obtain ⟨m, hm, e⟩ := List.mem_iff_getElem.mp h
 refine ⟨m, hm, by rw [List.getElem?_eq_getElem hm, e], ?_⟩
 unfold kAt
 rw [List.getElem?_map, List.getElem?_eq_getElem hm, e]; rfl
theorem at_get {key : Row4 → List Nat} {t : List Row4} {r : Row4} {m : Nat} (h : t[m]? = some r) : kAt (t.map key) m = key r := by
 unfold kAt
 rw [List.getElem?_map, h]; rfl
theorem chain_spec {key : Row4 → List Nat} {t : List Row4} (hk : KeyOK key t) {T : List Nat} {I : Nat} (hI : I < t.length) (h1 : ltL T (kAt (t.map key) I) = false) (h2 : ∀ m, I < m → m < t.length → ltL T (kAt (t.map key) m) = true) :
  ∀ (fuel i : Nat), i < fuel → i < t.length → preB (kAt (t.map key) i) (kAt (t.map key) I) = true →
   (∀ m, m < t.length → preB (kAt (t.map key) m) (kAt (t.map key) I) = true → preB (kAt (t.map key) m) T = true → (kAt (t.map key) m).length ≤ (kAt (t.map key) i).length) →
   Best key t T (chain t (lcp T (kAt (t.map key) I) : Nat) fuel i) := by
 have hs := sortB_ok hk.sort
 rw [List.length_map] at hs
 have hpre : ∀ m, m < t.length → preB (kAt (t.map key) m) T = true → preB (kAt (t.map key) m) (kAt (t.map key) I) = true := fun m hm hp => by
  rcases Nat.lt_trichotomy m I with q | rfl | q
  ·exact pre_mid hp (hs.lt m I q hI) h1
  ·exact pre_refl _
  ·have := h2 m q hm
   rw [pre_le hp] at this; cases this
 intro fuel
 induction fuel with
 | zero => intro i h; lia
 | succ fuel ih =>
  intro i hf hi hp H
  have hg : t[i]? = some t[i] := List.getElem?_eq_getElem hi
  generalize hrow : t[i] = r at hg
  have hmem : r ∈ t := by rw [← hrow]; exact List.getElem_mem hi
  have hki : kAt (t.map key) i = key r := at_get hg
  have hlen := hk.len r
  unfold chain
  rw [Int.toNat_natCast, hg]
  dsimp only
  by_cases hC : (r.s.length : Int) ≤ ((lcp T (kAt (t.map key) I) : Nat) : Int)
  ·rw [if_pos hC]
   refine ⟨hmem, ?_, fun r' hr' hp' => ?_⟩
   ·rw [← hki]
    exact (pre_pre hp).mpr (by rw [hki, hlen]; lia)
   ·obtain ⟨m, hm, _, e⟩ := at_mem (key := key) hr'
    rw [← e] at hp' ⊢
    rw [← hki]
    exact H m hm (hpre m hm hp') hp'
  ·rw [if_neg hC]
   have hshort : ∀ m, m < t.length → preB (kAt (t.map key) m) T = true → propB (kAt (t.map key) m) (key r) = true := fun m hm hp' => by
    have a := hpre m hm hp'
    have b := (pre_pre a).mp hp'
    have c : (kAt (t.map key) m).length < (key r).length := by rw [hlen]; lia
    unfold propB
    rw [Bool.and_eq_true, blt_lt]
    exact ⟨pre_len a (by rw [← hki]; exact hp) (Nat.le_of_lt c), c⟩
   have hl := List.all_eq_true.mp hk.link r hmem
   have hd := ckLink_ok hk.down i r hg
   unfold linkB at hl
   cases hlk : r.link with
   | negSucc l =>
    rw [hlk] at hl
    dsimp only at hl
    rw [if_pos (Int.negSucc_lt_zero l)]
    intro r' hr'
    obtain ⟨m, hm, _, e⟩ := at_mem (key := key) hr'
    cases q : preB (key r') T with
    | false => rfl
    | true =>
     rw [← e] at q
     have a := hshort m hm q
     have b := List.all_eq_true.mp hl (key r') (List.mem_map.mpr ⟨r', hr', rfl⟩)
     rw [e] at a
     rw [a] at b
     cases b
   | ofNat l =>
    rw [hlk] at hl hd
    dsimp only at hl
    rw [if_neg (by have := Int.natCast_nonneg l; exact Int.not_lt.mpr this)]
    have hlt : l < t.length := by
     have : (l : Int) < ((0 + i : Nat) : Int) := hd
     lia
    have hli : l < i := by
     have : (l : Int) < ((0 + i : Nat) : Int) := hd
     lia
    have hgl : (t.map key)[l]? = some (kAt (t.map key) l) := by
     unfold kAt
     rw [List.getElem?_map, List.getElem?_eq_getElem hlt]; rfl
    rw [hgl] at hl
    dsimp only at hl
    rw [Bool.and_eq_true] at hl
    have hpl : preB (kAt (t.map key) l) (key r) = true := by
     have := hl.1
     unfold propB at this
     rw [Bool.and_eq_true] at this
     exact this.1
    refine ih l (by lia) hlt (pre_trans hpl (by rw [← hki]; exact hp)) fun m hm a b => ?_
    have c := hshort m hm b
    have hmm : kAt (t.map key) m ∈ t.map key := by
     unfold kAt
     rw [List.getElem?_map, List.getElem?_eq_getElem hm]
     exact List.mem_map.mpr ⟨_, List.getElem_mem hm, rfl⟩
    have d := List.all_eq_true.mp hl.2 _ hmm
    rw [c] at d
    exact Nat.ble_eq.mp d
theorem search_spec {key : Row4 → List Nat} {t : List Row4} (hk : KeyOK key t) (hn : 0 < t.length) {T : List Nat} {cmp : Nat → Int → Int × Int} (hc : CmpOK cmp T (kAt (t.map key)) t.length) :
  Best key t T (chain t (outer cmp (t.length + 2) 0 t.length 0 0 false).2 (t.length + 1) (outer cmp (t.length + 2) 0 t.length 0 0 false).1) := by
 have hs := sortB_ok hk.sort
 rw [List.length_map] at hs
 obtain ⟨I, C, e, hI, h⟩ := outer_spec hc hs (t.length + 2) 0 t.length 0 0 false hn (Nat.le_refl _) (by unfold meas; simp only [Bool.false_eq_true, if_false]; lia) (.inl ⟨rfl, rfl⟩) (.inl ⟨rfl, rfl⟩) (fun q => by cases q)
 rw [show ((0 : Nat) : Int) = 0 from rfl] at e
 rw [e]
 dsimp only
 rcases h with ⟨a, rfl, b⟩ | ⟨rfl, rfl, b⟩
 ·exact chain_spec hk hI a b (t.length + 1) I (by lia) hI (pre_refl _) fun m hm p _ => by
   have := pre_lcp.mp p
   have h2 : ∀ {x y : List Nat}, lcp x y ≤ x.length := by
    intro x
    induction x with
    | nil => intro y; simp [lcp]
    | cons u x ih =>
     intro y
     cases y with
     | nil => simp [lcp]
     | cons v y =>
      by_cases q : u = v
      ·subst q; rw [lcp_cons]; exact Nat.succ_le_succ ih
      ·rw [lcp_ne q]; exact Nat.zero_le _
   exact Nat.le_trans this h2
 ·have hg : t[0]? = some t[0] := List.getElem?_eq_getElem hI
  have none : ∀ r' ∈ t, preB (key r') T = false := fun r' hr' => by
   obtain ⟨m, hm, _, e'⟩ := at_mem (key := key) hr'
   cases q : preB (key r') T with
   | false => rfl
   | true =>
    have := b m hm
    rw [e', pre_le q] at this; cases this
  have hd := ckLink_ok hk.down 0 _ hg
  unfold chain
  rw [Int.toNat_natCast, hg]
  dsimp only
  have hl0 : ¬ ((t[0].s.length : Int) ≤ ((0 : Nat) : Int)) := fun q => by
   have e0 : (key t[0]).length = 0 := by rw [hk.len]; lia
   have e1 : key t[0] = [] := List.eq_nil_of_length_eq_zero e0
   have := none t[0] (List.getElem_mem hI)
   rw [e1, preB_nil] at this; cases this
  rw [if_neg hl0, if_pos (by simpa using hd)]
  exact none
/-! ### one row against the text -/
noncomputable def goL : List Nat → List Nat → Nat → Int × Int
 | _, [], com => (0, com)
 | [], _ :: _, com => (-1, com)
 | a :: l, b :: r, com => if (a : Int) - b ≠ 0 then ((a : Int) - b, com) else goL l r (com + 1)
theorem goL_ok : ∀ {l r : List Nat} {com : Nat}, (goL l r com).2 = ((com + lcp l r : Nat) : Int) ∧ ((goL l r com).1 < 0 ↔ ltL l r = true)
 | l, [], com => by
  cases l <;> simp [goL, lcp, ltL]
 | [], b :: r, com => by simp [goL, lcp, ltL]
 | a :: l, b :: r, com => by
  unfold goL
  by_cases q : a = b
  ·subst q
   rw [if_neg (by lia), lcp_cons]
   obtain ⟨h1, h2⟩ := goL_ok (l := l) (r := r) (com := com + 1)
   refine ⟨by rw [h1]; lia, ?_⟩
   rw [h2, ltL_cons]
   simp
  ·rw [if_pos (by lia), lcp_ne q]
   refine ⟨by simp, ?_⟩
   rw [ltL_cons]
   constructor
   ·intro h; left; dsimp only at h; lia
   ·intro h; rcases h with h | h
    ·dsimp only; lia
    ·exact absurd h.1 q
theorem drop_lcp : ∀ {com : Nat} {T R : List Nat}, com ≤ lcp T R → lcp T R = com + lcp (T.drop com) (R.drop com) ∧ ltL T R = ltL (T.drop com) (R.drop com)
 | 0, _, _, _ => by simp
 | com + 1, [], _, h => by simp [lcp] at h
 | com + 1, _ :: _, [], h => by simp [lcp] at h
 | com + 1, a :: T, b :: R, h => by
  by_cases q : a = b
  ·subst q
   rw [lcp_cons] at h ⊢
   obtain ⟨h1, h2⟩ := drop_lcp (com := com) (T := T) (R := R) (by lia)
   refine ⟨by rw [h1]; simp; lia, ?_⟩
   simp only [List.drop_succ_cons]
   rw [← h2]
   simp [ltL]
  ·rw [lcp_ne q] at h; lia
theorem inB_go {cur : List Nat} {c lb : Int} {s T : List Nat} (hT : (T.length : Int) = c - lb) (hget : ∀ q, q < T.length → T[q]? = cur[(c - 1 - (q : Int)).toNat]?) : ∀ (r com : Nat), com + r = s.length → com ≤ T.length → inB cur c lb s r com 0 = goL (T.drop com) (s.reverse.drop com) com := by
 intro r
 induction r with
 | zero =>
  intro com h1 h2
  have e : s.reverse.drop com = [] := List.drop_eq_nil_iff.mpr (by simp; lia)
  rw [e]
  cases T.drop com <;> rfl
 | succ r ih =>
  intro com h1 h2
  have hs : com < s.reverse.length := by simp; lia
  rw [List.drop_eq_getElem_cons hs]
  have er : s.reverse[com] = s.getD r 0 := by
   rw [List.getElem_reverse, List.getD_eq_getElem?_getD]
   have : s.length - 1 - com = r := by lia
   simp only [this]
   rw [List.getElem?_eq_getElem (by lia)]; rfl
  rw [er]
  unfold inB
  by_cases h : c - (com : Int) = lb
  ·rw [if_pos h]
   have e : T.drop com = [] := List.drop_eq_nil_iff.mpr (by lia)
   rw [e]; rfl
  ·rw [if_neg h]
   have hc : com < T.length := by lia
   have et : T[com] = cur.getD (c - 1 - (com : Int)).toNat 0 := by
    rw [List.getD_eq_getElem?_getD, ← hget com hc, List.getElem?_eq_getElem hc]; rfl
   rw [List.drop_eq_getElem_cons hc, et]
   dsimp only
   unfold goL
   by_cases q : ((cur.getD (c - 1 - (com : Int)).toNat 0 : Nat) : Int) - ((s.getD r 0 : Nat) : Int) = 0
   ·rw [if_neg (by lia), if_neg (by lia), q]
    have := ih (com + 1) (by lia) (by lia)
    rw [← this]
    rfl
   ·rw [if_pos q, if_pos q]
theorem inF_go {cur : List Nat} {c l : Int} {s T : List Nat} (hT : (T.length : Int) = l - c) (hget : ∀ q, q < T.length → T[q]? = cur[(c + (q : Int)).toNat]?) : ∀ (r com : Nat), com + r = s.length → com ≤ T.length → inF cur c l s r com 0 = goL (T.drop com) (s.drop com) com := by
 intro r
 induction r with
 | zero =>
  intro com h1 h2
  have e : s.drop com = [] := List.drop_eq_nil_iff.mpr (by lia)
  rw [e]
  cases T.drop com <;> rfl
 | succ r ih =>
  intro com h1 h2
  have hs : com < s.length := by lia
  rw [List.drop_eq_getElem_cons hs]
  have er : s[com] = s.getD (s.length - (r + 1)) 0 := by
   have : s.length - (r + 1) = com := by lia
   rw [this, List.getD_eq_getElem?_getD, List.getElem?_eq_getElem (by lia)]; rfl
  rw [er]
  unfold inF
  by_cases h : c + (com : Int) = l
  ·rw [if_pos h]
   have e : T.drop com = [] := List.drop_eq_nil_iff.mpr (by lia)
   rw [e]; rfl
  ·rw [if_neg h]
   have hc : com < T.length := by lia
   have et : T[com] = cur.getD (c + (com : Int)).toNat 0 := by
    rw [List.getD_eq_getElem?_getD, ← hget com hc, List.getElem?_eq_getElem hc]; rfl
   rw [List.drop_eq_getElem_cons hc, et]
   dsimp only
   unfold goL
   by_cases q : ((cur.getD (c + (com : Int)).toNat 0 : Nat) : Int) - ((s.getD (s.length - (r + 1)) 0 : Nat) : Int) = 0
   ·rw [if_neg (by lia), if_neg (by lia), q]
    have := ih (com + 1) (by lia) (by lia)
    rw [← this]
    rfl
   ·rw [if_pos q, if_pos q]
theorem pre_ex : ∀ {p t : List Nat}, preB p t = true ↔ ∃ u, t = p ++ u
 | [], t => by simp [preB_nil]
 | a :: p, [] => by simp [preB]
 | a :: p, b :: t => by
  rw [preB_cons, pre_ex (p := p) (t := t)]
  constructor
  ·rintro ⟨rfl, u, rfl⟩; exact ⟨u, rfl⟩
  ·rintro ⟨u, e⟩
   rw [List.cons_append] at e
   cases e
   exact ⟨rfl, u, rfl⟩
theorem ends_ex {l r : List Nat} : endsW l r = true ↔ ∃ u, l = u ++ r := by
 unfold endsW
 rw [Bool.and_eq_true, Nat.ble_eq, eqK_iff]
 constructor
 ·rintro ⟨h, e⟩
  refine ⟨l.take (l.length - r.length), ?_⟩
  conv => lhs; rw [← List.take_append_drop (l.length - r.length) l]
  rw [e]
 ·rintro ⟨u, rfl⟩
  simp
theorem pre_rev {s T : List Nat} : preB s.reverse T.reverse = endsW T s := by
 apply Bool.eq_iff_iff.mpr
 rw [pre_ex, ends_ex]
 constructor
 ·rintro ⟨u, e⟩
  refine ⟨u.reverse, ?_⟩
  have := congrArg List.reverse e
  simpa using this
 ·rintro ⟨u, rfl⟩
  exact ⟨u.reverse, by simp⟩
noncomputable def BestE (t : List Row4) (T : List Nat) : Option Row4 → Prop
 | some r => r ∈ t ∧ endsW T r.s = true ∧ ∀ r' ∈ t, endsW T r'.s = true → r'.s.length ≤ r.s.length
 | none => ∀ r' ∈ t, endsW T r'.s = false
noncomputable def BestP (t : List Row4) (T : List Nat) : Option Row4 → Prop
 | some r => r ∈ t ∧ preB r.s T = true ∧ ∀ r' ∈ t, preB r'.s T = true → r'.s.length ≤ r.s.length
 | none => ∀ r' ∈ t, preB r'.s T = false
noncomputable def kR (r : Row4) : List Nat := r.s.reverse
noncomputable def kF (r : Row4) : List Nat := r.s
theorem best_E {t : List Row4} {T : List Nat} : ∀ {o : Option Row4}, Best kR t T.reverse o → BestE t T o
 | some r, ⟨a, b, c⟩ => ⟨a, by rw [← pre_rev]; exact b, fun r' h e => by
   have := c r' h (by show preB r'.s.reverse T.reverse = true; rw [pre_rev]; exact e)
   simpa [kR] using this⟩
 | none, h => fun r' hr => by rw [← pre_rev]; exact h r' hr
theorem best_P {t : List Row4} {T : List Nat} : ∀ {o : Option Row4}, Best kF t T o → BestP t T o
 | some r, h => h
 | none, h => h
theorem kAt_R (t : List Row4) {k : Nat} (h : k < t.length) : kAt (t.map kR) k = (sOf t k).reverse ∧ sOf t k = t[k].s := by
 unfold kAt sOf kR
 rw [List.getElem?_map, List.getElem?_eq_getElem h]
 exact ⟨rfl, rfl⟩
theorem kAt_F (t : List Row4) {k : Nat} (h : k < t.length) : kAt (t.map kF) k = sOf t k ∧ sOf t k = t[k].s := by
 unfold kAt sOf kF
 rw [List.getElem?_map, List.getElem?_eq_getElem h]
 exact ⟨rfl, rfl⟩
theorem lcp_le : ∀ {x y : List Nat}, lcp x y ≤ x.length ∧ lcp x y ≤ y.length
 | [], y => by simp [lcp]
 | _ :: _, [] => by simp [lcp]
 | u :: x, v :: y => by
  by_cases q : u = v
  ·subst q
   rw [lcp_cons]
   have := lcp_le (x := x) (y := y)
   exact ⟨Nat.succ_le_succ this.1, Nat.succ_le_succ this.2⟩
  ·rw [lcp_ne q]; exact ⟨Nat.zero_le _, Nat.zero_le _⟩
theorem OkB_nats {x : Stm} (h : x.OkB) : ∃ a b : Nat, x.lb.toNat = a ∧ (x.cursor - x.lb).toNat = b ∧ x.cursor - x.lb = b ∧ a + b ≤ x.cur.length ∧ x.cursor = (a + b : Nat) := by
 obtain ⟨a, ha⟩ := Int.eq_ofNat_of_zero_le h.l0
 obtain ⟨b, hb⟩ := Int.eq_ofNat_of_zero_le (Int.sub_nonneg_of_le h.lc)
 have hc := h.cl
 exact ⟨a, b, by rw [ha]; rfl, by rw [hb]; rfl, hb, by clear h; lia, by clear h; lia⟩
theorem Ok_nats {x : Stm} (h : x.Ok) (hcl : x.cursor ≤ x.limit) : ∃ a b : Nat, x.cursor.toNat = a ∧ (x.limit - x.cursor).toNat = b ∧ x.limit - x.cursor = b ∧ a + b ≤ x.cur.length := by
 obtain ⟨a, ha⟩ := Int.eq_ofNat_of_zero_le h.c0
 obtain ⟨b, hb⟩ := Int.eq_ofNat_of_zero_le (Int.sub_nonneg_of_le hcl)
 have hc := h.cl
 exact ⟨a, b, by rw [ha]; rfl, by rw [hb]; rfl, hb, by clear h hcl; lia⟩
theorem take_len {l : List Nat} {a b : Nat} (h : a + b ≤ l.length) : ((l.drop a).take b).length = b := by
 rw [List.length_take, List.length_drop]
 exact Nat.min_eq_left (by lia)
theorem part_len {x : Stm} (h : x.OkB) : (x.part.length : Int) = x.cursor - x.lb := by
 obtain ⟨a, b, e1, e2, e3, e4, _⟩ := OkB_nats h
 unfold Stm.part
 rw [e1, e2, e3, take_len e4]
theorem rest_len {x : Stm} (h : x.Ok) (hcl : x.cursor ≤ x.limit) : (x.rest.length : Int) = x.limit - x.cursor := by
 obtain ⟨a, b, e1, e2, e3, e4⟩ := Ok_nats h hcl
 unfold Stm.rest
 rw [e1, e2, e3, take_len e4]
theorem rowB_best {x : Stm} (h : x.OkB) {t : List Row4} (hk : KeyOK kR t) (hn : 0 < t.length) : BestE t x.part (x.rowB t) := by
 refine best_E (search_spec hk hn ⟨fun k hkn com hcom => ?_⟩)
 obtain ⟨e1, e2⟩ := kAt_R t hkn
 rw [e1] at hcom ⊢
 have hl := lcp_le (x := x.part.reverse) (y := (sOf t k).reverse)
 have hp := part_len h
 have h0 := h.l0; have h1 := h.lc; have h2 := h.cl
 have hlen : (x.part.reverse).length = x.part.length := by simp
 have hlen2 : ((sOf t k).reverse).length = (sOf t k).length := by simp
 show (cmpB x.cur x.cursor x.lb (sOf t k) com).2 = _ ∧ ((cmpB x.cur x.cursor x.lb (sOf t k) com).1 < 0 ↔ _)
 unfold cmpB
 rw [inB_go (T := x.part.reverse) (by rw [hlen]; exact hp) (fun q hq => ?_) ((sOf t k).length - (com : Int)).toNat com (by lia) (by lia)]
 ·obtain ⟨d1, d2⟩ := drop_lcp hcom
  obtain ⟨g1, g2⟩ := goL_ok (l := (x.part.reverse).drop com) (r := ((sOf t k).reverse).drop com) (com := com)
  exact ⟨by rw [g1, d1], by rw [g2, d2]⟩
 ·have hq' : q < x.part.length := by simpa using hq
  rw [List.getElem?_reverse hq']
  obtain ⟨a, b, f1, f2, f3, f4, f5⟩ := OkB_nats h
  unfold Stm.part at hq' ⊢
  clear hl hp h0 h1 h2 hlen hlen2
  rw [f1, f2] at hq' ⊢
  rw [take_len f4] at hq' ⊢
  rw [List.getElem?_take, if_pos (by lia), List.getElem?_drop]
  congr 1
  rw [f5]
  clear f3 f5
  lia
theorem rowF_best {x : Stm} (h : x.Ok) (hcl : x.cursor ≤ x.limit) {t : List Row4} (hk : KeyOK kF t) (hn : 0 < t.length) : BestP t x.rest (x.rowF t) := by
 refine best_P (search_spec hk hn ⟨fun k hkn com hcom => ?_⟩)
 obtain ⟨e1, e2⟩ := kAt_F t hkn
 rw [e1] at hcom ⊢
 have hl := lcp_le (x := x.rest) (y := sOf t k)
 have hp := rest_len h hcl
 have h0 := h.c0; have h2 := h.cl
 show (cmpF x.cur x.cursor x.limit (sOf t k) com).2 = _ ∧ ((cmpF x.cur x.cursor x.limit (sOf t k) com).1 < 0 ↔ _)
 unfold cmpF
 rw [inF_go (T := x.rest) hp (fun q hq => ?_) ((sOf t k).length - (com : Int)).toNat com (by lia) (by lia)]
 ·obtain ⟨d1, d2⟩ := drop_lcp hcom
  obtain ⟨g1, g2⟩ := goL_ok (l := (x.rest).drop com) (r := (sOf t k).drop com) (com := com)
  exact ⟨by rw [g1, d1], by rw [g2, d2]⟩
 ·unfold Stm.rest
  rw [List.getElem?_take, if_pos (by lia), List.getElem?_drop]
  congr 1
  lia
theorem kk_0 : KeyOK kF tab_a_0 := ⟨fun _ => rfl, by decide +kernel, by decide +kernel, by decide +kernel⟩
theorem kk_1 : KeyOK kF tab_a_1 := ⟨fun _ => rfl, by decide +kernel, by decide +kernel, by decide +kernel⟩
theorem rlen (r : Row4) : (kR r).length = r.s.length := by simp [kR]
theorem kk_2 : KeyOK kR tab_a_2 := ⟨rlen, by decide +kernel, by decide +kernel, by decide +kernel⟩
theorem kk_3 : KeyOK kR tab_a_3 := ⟨rlen, by decide +kernel, by decide +kernel, by decide +kernel⟩
theorem kk_4 : KeyOK kR tab_a_4 := ⟨rlen, by decide +kernel, by decide +kernel, by decide +kernel⟩
theorem kk_5 : KeyOK kR tab_a_5 := ⟨rlen, by decide +kernel, by decide +kernel, by decide +kernel⟩
theorem kk_6 : KeyOK kR tab_a_6 := ⟨rlen, by decide +kernel, by decide +kernel, by decide +kernel⟩
section
section
variable {c : Cx} {D : Nat} {loc : Ls} {sto : Sto} {w : List Nat} {u l lb p q : Int} {ex : Ex}
theorem xset_cur (hc : c.OK D) {y : PySem.Expr} {e : PySem.Expr} {p0 pos : Pos} {v : List Nat} (hcomp : NoComp e) (hs : SelfAt c y loc) (h : Ev c e loc sto (.s v) [(Stm.mk w u l lb p q ex).o]) :
  Sx c (exec (.Assign [.Attribute y (S "current") p0] e pos) c.env) loc sto .next loc [(Stm.mk v u l lb p q ex).o] := set_cur hc hcomp hs h
theorem xget_cur (hc : c.OK D) {np pos : Pos} (h : SelfAt c (.Name (S "self") np) loc) : Ev c (.Attribute (.Name (S "self") np) (S "current") pos) loc [(Stm.mk w u l lb p q ex).o] (.s w) [(Stm.mk w u l lb p q ex).o] := get_cur hc h
theorem xset_cursor (hc : c.OK D) {y : PySem.Expr} {e : PySem.Expr} {p0 pos : Pos} {v : Int} (hcomp : NoComp e) (hs : SelfAt c y loc) (h : Ev c e loc sto (.i v) [(Stm.mk w u l lb p q ex).o]) :
  Sx c (exec (.Assign [.Attribute y (S "cursor") p0] e pos) c.env) loc sto .next loc [(Stm.mk w v l lb p q ex).o] := set_cursor hc hcomp hs h
theorem xget_cursor (hc : c.OK D) {np pos : Pos} (h : SelfAt c (.Name (S "self") np) loc) : Ev c (.Attribute (.Name (S "self") np) (S "cursor") pos) loc [(Stm.mk w u l lb p q ex).o] (.i u) [(Stm.mk w u l lb p q ex).o] := get_cursor hc h
theorem xadd_cursor (hc : c.OK D) {y : PySem.Expr} {e : PySem.Expr} {p0 pos : Pos} {v : Int} (hs : SelfAt c y loc) (h : Ev c e loc [(Stm.mk w u l lb p q ex).o] (.i v) [(Stm.mk w u l lb p q ex).o]) :
  Sx c (exec (.AugAssign (.Attribute y (S "cursor") p0) .Add e pos) c.env) loc [(Stm.mk w u l lb p q ex).o] .next loc [(Stm.mk w (u + v) l lb p q ex).o] := add_cursor hc hs h
theorem xsub_cursor (hc : c.OK D) {y : PySem.Expr} {e : PySem.Expr} {p0 pos : Pos} {v : Int} (hs : SelfAt c y loc) (h : Ev c e loc [(Stm.mk w u l lb p q ex).o] (.i v) [(Stm.mk w u l lb p q ex).o]) :
  Sx c (exec (.AugAssign (.Attribute y (S "cursor") p0) .Sub e pos) c.env) loc [(Stm.mk w u l lb p q ex).o] .next loc [(Stm.mk w (u - v) l lb p q ex).o] := sub_cursor hc hs h
theorem xset_limit (hc : c.OK D) {y : PySem.Expr} {e : PySem.Expr} {p0 pos : Pos} {v : Int} (hcomp : NoComp e) (hs : SelfAt c y loc) (h : Ev c e loc sto (.i v) [(Stm.mk w u l lb p q ex).o]) :
  Sx c (exec (.Assign [.Attribute y (S "limit") p0] e pos) c.env) loc sto .next loc [(Stm.mk w u v lb p q ex).o] := set_limit hc hcomp hs h
theorem xget_limit (hc : c.OK D) {np pos : Pos} (h : SelfAt c (.Name (S "self") np) loc) : Ev c (.Attribute (.Name (S "self") np) (S "limit") pos) loc [(Stm.mk w u l lb p q ex).o] (.i l) [(Stm.mk w u l lb p q ex).o] := get_limit hc h
theorem xadd_limit (hc : c.OK D) {y : PySem.Expr} {e : PySem.Expr} {p0 pos : Pos} {v : Int} (hs : SelfAt c y loc) (h : Ev c e loc [(Stm.mk w u l lb p q ex).o] (.i v) [(Stm.mk w u l lb p q ex).o]) :
  Sx c (exec (.AugAssign (.Attribute y (S "limit") p0) .Add e pos) c.env) loc [(Stm.mk w u l lb p q ex).o] .next loc [(Stm.mk w u (l + v) lb p q ex).o] := add_limit hc hs h
theorem xsub_limit (hc : c.OK D) {y : PySem.Expr} {e : PySem.Expr} {p0 pos : Pos} {v : Int} (hs : SelfAt c y loc) (h : Ev c e loc [(Stm.mk w u l lb p q ex).o] (.i v) [(Stm.mk w u l lb p q ex).o]) :
  Sx c (exec (.AugAssign (.Attribute y (S "limit") p0) .Sub e pos) c.env) loc [(Stm.mk w u l lb p q ex).o] .next loc [(Stm.mk w u (l - v) lb p q ex).o] := sub_limit hc hs h
theorem xset_lb (hc : c.OK D) {y : PySem.Expr} {e : PySem.Expr} {p0 pos : Pos} {v : Int} (hcomp : NoComp e) (hs : SelfAt c y loc) (h : Ev c e loc sto (.i v) [(Stm.mk w u l lb p q ex).o]) :
  Sx c (exec (.Assign [.Attribute y (S "limit_backward") p0] e pos) c.env) loc sto .next loc [(Stm.mk w u l v p q ex).o] := set_lb hc hcomp hs h
theorem xget_lb (hc : c.OK D) {np pos : Pos} (h : SelfAt c (.Name (S "self") np) loc) : Ev c (.Attribute (.Name (S "self") np) (S "limit_backward") pos) loc [(Stm.mk w u l lb p q ex).o] (.i lb) [(Stm.mk w u l lb p q ex).o] := get_lb hc h
theorem xset_bra (hc : c.OK D) {y : PySem.Expr} {e : PySem.Expr} {p0 pos : Pos} {v : Int} (hcomp : NoComp e) (hs : SelfAt c y loc) (h : Ev c e loc sto (.i v) [(Stm.mk w u l lb p q ex).o]) :
  Sx c (exec (.Assign [.Attribute y (S "bra") p0] e pos) c.env) loc sto .next loc [(Stm.mk w u l lb v q ex).o] := set_bra hc hcomp hs h
theorem xget_bra (hc : c.OK D) {np pos : Pos} (h : SelfAt c (.Name (S "self") np) loc) : Ev c (.Attribute (.Name (S "self") np) (S "bra") pos) loc [(Stm.mk w u l lb p q ex).o] (.i p) [(Stm.mk w u l lb p q ex).o] := get_bra hc h
theorem xset_ket (hc : c.OK D) {y : PySem.Expr} {e : PySem.Expr} {p0 pos : Pos} {v : Int} (hcomp : NoComp e) (hs : SelfAt c y loc) (h : Ev c e loc sto (.i v) [(Stm.mk w u l lb p q ex).o]) :
  Sx c (exec (.Assign [.Attribute y (S "ket") p0] e pos) c.env) loc sto .next loc [(Stm.mk w u l lb p v ex).o] := set_ket hc hcomp hs h
theorem xget_ket (hc : c.OK D) {np pos : Pos} (h : SelfAt c (.Name (S "self") np) loc) : Ev c (.Attribute (.Name (S "self") np) (S "ket") pos) loc [(Stm.mk w u l lb p q ex).o] (.i q) [(Stm.mk w u l lb p q ex).o] := get_ket hc h
theorem xget_pV_marks (hc : c.OK D) {np pos : Pos} {a b d : Int} (h : SelfAt c (.Name (S "self") np) loc) : Ev c (.Attribute (.Name (S "self") np) (S "I_pV") pos) loc [(Stm.mk w u l lb p q (.marks a b d)).o] (.i a) [(Stm.mk w u l lb p q (.marks a b d)).o] :=
 ev_attr_dyn hc (h _) rfl rfl (iSelf (by decide +kernel))
theorem xset_pV_marks (hc : c.OK D) {y : PySem.Expr} {e : PySem.Expr} {p0 pos : Pos} {v a b d : Int} (hcomp : NoComp e) (hs : SelfAt c y loc) (h : Ev c e loc sto (.i v) [(Stm.mk w u l lb p q (.marks a b d)).o]) :
  Sx c (exec (.Assign [.Attribute y (S "I_pV") p0] e pos) c.env) loc sto .next loc [(Stm.mk w u l lb p q (.marks v b d)).o] :=
 sx_assign_attr hc hcomp h (hs _) rfl (sSelf (by decide +kernel)) (Or.inl rfl)
theorem xget_pV_all (hc : c.OK D) {np pos : Pos} {a b d : Int} {z : Bool} (h : SelfAt c (.Name (S "self") np) loc) : Ev c (.Attribute (.Name (S "self") np) (S "I_pV") pos) loc [(Stm.mk w u l lb p q (.all a b d z)).o] (.i a) [(Stm.mk w u l lb p q (.all a b d z)).o] :=
 ev_attr_dyn hc (h _) rfl rfl (iSelf (by decide +kernel))
theorem xget_p1_marks (hc : c.OK D) {np pos : Pos} {a b d : Int} (h : SelfAt c (.Name (S "self") np) loc) : Ev c (.Attribute (.Name (S "self") np) (S "I_p1") pos) loc [(Stm.mk w u l lb p q (.marks a b d)).o] (.i b) [(Stm.mk w u l lb p q (.marks a b d)).o] :=
 ev_attr_dyn hc (h _) rfl rfl (iSelf (by decide +kernel))
theorem xset_p1_marks (hc : c.OK D) {y : PySem.Expr} {e : PySem.Expr} {p0 pos : Pos} {v a b d : Int} (hcomp : NoComp e) (hs : SelfAt c y loc) (h : Ev c e loc sto (.i v) [(Stm.mk w u l lb p q (.marks a b d)).o]) :
  Sx c (exec (.Assign [.Attribute y (S "I_p1") p0] e pos) c.env) loc sto .next loc [(Stm.mk w u l lb p q (.marks a v d)).o] :=
 sx_assign_attr hc hcomp h (hs _) rfl (sSelf (by decide +kernel)) (Or.inl rfl)
theorem xget_p1_all (hc : c.OK D) {np pos : Pos} {a b d : Int} {z : Bool} (h : SelfAt c (.Name (S "self") np) loc) : Ev c (.Attribute (.Name (S "self") np) (S "I_p1") pos) loc [(Stm.mk w u l lb p q (.all a b d z)).o] (.i b) [(Stm.mk w u l lb p q (.all a b d z)).o] :=
 ev_attr_dyn hc (h _) rfl rfl (iSelf (by decide +kernel))
theorem xget_p2_marks (hc : c.OK D) {np pos : Pos} {a b d : Int} (h : SelfAt c (.Name (S "self") np) loc) : Ev c (.Attribute (.Name (S "self") np) (S "I_p2") pos) loc [(Stm.mk w u l lb p q (.marks a b d)).o] (.i d) [(Stm.mk w u l lb p q (.marks a b d)).o] :=
 ev_attr_dyn hc (h _) rfl rfl (iSelf (by decide +kernel))
theorem xset_p2_marks (hc : c.OK D) {y : PySem.Expr} {e : PySem.Expr} {p0 pos : Pos} {v a b d : Int} (hcomp : NoComp e) (hs : SelfAt c y loc) (h : Ev c e loc sto (.i v) [(Stm.mk w u l lb p q (.marks a b d)).o]) :
  Sx c (exec (.Assign [.Attribute y (S "I_p2") p0] e pos) c.env) loc sto .next loc [(Stm.mk w u l lb p q (.marks a b v)).o] :=
 sx_assign_attr hc hcomp h (hs _) rfl (sSelf (by decide +kernel)) (Or.inl rfl)
theorem xget_p2_all (hc : c.OK D) {np pos : Pos} {a b d : Int} {z : Bool} (h : SelfAt c (.Name (S "self") np) loc) : Ev c (.Attribute (.Name (S "self") np) (S "I_p2") pos) loc [(Stm.mk w u l lb p q (.all a b d z)).o] (.i d) [(Stm.mk w u l lb p q (.all a b d z)).o] :=
 ev_attr_dyn hc (h _) rfl rfl (iSelf (by decide +kernel))
theorem xget_B (hc : c.OK D) {np pos : Pos} {a b d : Int} {z : Bool} (h : SelfAt c (.Name (S "self") np) loc) : Ev c (.Attribute (.Name (S "self") np) (S "B_standard_suffix_removed") pos) loc [(Stm.mk w u l lb p q (.all a b d z)).o] (.b z) [(Stm.mk w u l lb p q (.all a b d z)).o] :=
 ev_attr_dyn hc (h _) rfl rfl (iSelf (by decide +kernel))
theorem xset_B (hc : c.OK D) {y : PySem.Expr} {e : PySem.Expr} {p0 pos : Pos} {v : Bool} {a b d : Int} {z : Bool} (hcomp : NoComp e) (hs : SelfAt c y loc) (h : Ev c e loc sto (.b v) [(Stm.mk w u l lb p q (.all a b d z)).o]) :
  Sx c (exec (.Assign [.Attribute y (S "B_standard_suffix_removed") p0] e pos) c.env) loc sto .next loc [(Stm.mk w u l lb p q (.all a b d v)).o] :=
 sx_assign_attr hc hcomp h (hs _) rfl (sSelf (by decide +kernel)) (Or.inl rfl)
theorem xset_B0 (hc : c.OK D) {y : PySem.Expr} {e : PySem.Expr} {p0 pos : Pos} {v : Bool} {a b d : Int} (hcomp : NoComp e) (hs : SelfAt c y loc) (h : Ev c e loc sto (.b v) [(Stm.mk w u l lb p q (.marks a b d)).o]) :
  Sx c (exec (.Assign [.Attribute y (S "B_standard_suffix_removed") p0] e pos) c.env) loc sto .next loc [(Stm.mk w u l lb p q (.all a b d v)).o] :=
 sx_assign_attr hc hcomp h (hs _) rfl (sSelf (by decide +kernel)) (Or.inr (Nat.le_of_ble_eq_true rfl))
end
/-! ### outcomes are computed -/
section
variable {c : Cx} {D : Nat} {loc loc₁ loc₂ : Ls} {sto sto₁ sto₂ : Sto} {o o₁ : Out}
noncomputable def Then (c : Cx) (rest : List Stmt) (o₁ : Out) (loc₁ : Ls) (sto₁ : Sto) (o : Out) (loc₂ : Ls) (sto₂ : Sto) : Prop := match o₁ with
 | .next => Sx c (execs rest c.env) loc₁ sto₁ o loc₂ sto₂
 | o₁ => o₁ = o ∧ loc₁ = loc₂ ∧ sto₁ = sto₂
theorem sxq {st : Stmt} {rest : List Stmt} (h : Sx c (exec st c.env) loc sto o₁ loc₁ sto₁) (g : Then c rest o₁ loc₁ sto₁ o loc₂ sto₂) : Sx c (execs (st :: rest) c.env) loc sto o loc₂ sto₂ := by
 cases o₁ with
 | next => exact sx_cons_next h g
 | brk => obtain ⟨rfl, rfl, rfl⟩ := g; exact sx_cons_stop (by intro q; cases q) h
 | cont => obtain ⟨rfl, rfl, rfl⟩ := g; exact sx_cons_stop (by intro q; cases q) h
 | ret v => obtain ⟨rfl, rfl, rfl⟩ := g; exact sx_cons_stop (by intro q; cases q) h
 | exc C => obtain ⟨rfl, rfl, rfl⟩ := g; exact sx_cons_stop (by intro q; cases q) h
theorem sq_next {rest : List Stmt} (h : Sx c (execs rest c.env) loc₁ sto₁ o loc₂ sto₂) : Then c rest .next loc₁ sto₁ o loc₂ sto₂ := h
theorem sq_brk {rest : List Stmt} : Then c rest .brk loc₁ sto₁ .brk loc₁ sto₁ := ⟨rfl, rfl, rfl⟩
theorem sq_cont {rest : List Stmt} : Then c rest .cont loc₁ sto₁ .cont loc₁ sto₁ := ⟨rfl, rfl, rfl⟩
theorem sq_ret {rest : List Stmt} {v : V} : Then c rest (.ret v) loc₁ sto₁ (.ret v) loc₁ sto₁ := ⟨rfl, rfl, rfl⟩
theorem sq_exc {rest : List Stmt} {C : Addr} : Then c rest (.exc C) loc₁ sto₁ (.exc C) loc₁ sto₁ := ⟨rfl, rfl, rfl⟩
noncomputable def IfG (c : Cx) (a b : List Stmt) (x : Bool) (loc : Ls) (sto : Sto) (o : Out) (loc₂ : Ls) (sto₂ : Sto) : Prop := Sx c (execs (if x then a else b) c.env) loc sto o loc₂ sto₂
theorem sx_ifg {t : PySem.Expr} {a b : List Stmt} {pos : Pos} {x : Bool} (h : Tst c t loc sto x sto₁) (g : IfG c a b x loc sto₁ o loc₂ sto₂) : Sx c (exec (.If t a b pos) c.env) loc sto o loc₂ sto₂ := sx_if h g
theorem ifg_t {a b : List Stmt} {x : Bool} (q : x = true) (g : Sx c (execs a c.env) loc sto o loc₂ sto₂) : IfG c a b x loc sto o loc₂ sto₂ := by subst q; exact g
theorem ifg_f {a b : List Stmt} {x : Bool} (q : x = false) (g : Sx c (execs b c.env) loc sto o loc₂ sto₂) : IfG c a b x loc sto o loc₂ sto₂ := by subst q; exact g
noncomputable def AndG (c : Cx) (l : List PySem.Expr) (pos : Pos) (x : Bool) (loc : Ls) (sto : Sto) (b : Bool) (sto₂ : Sto) : Prop := if x then Tst c (.BoolOp .And l pos) loc sto b sto₂ else b = false ∧ sto₂ = sto
theorem tst_and {a : PySem.Expr} {l : List PySem.Expr} {pos : Pos} {x b : Bool} (h : Tst c a loc sto x sto₁) (g : AndG c l pos x loc sto₁ b sto₂) : Tst c (.BoolOp .And (a :: l) pos) loc sto b sto₂ := by
 cases x with
 | true => exact tst_and_on h g
 | false => obtain ⟨rfl, rfl⟩ := g; exact tst_and_stop h
theorem andg_t {l : List PySem.Expr} {pos : Pos} {x b : Bool} (q : x = true) (g : Tst c (.BoolOp .And l pos) loc sto b sto₂) : AndG c l pos x loc sto b sto₂ := by subst q; exact g
theorem andg_f {l : List PySem.Expr} {pos : Pos} {x : Bool} (q : x = false) : AndG c l pos x loc sto false sto := by subst q; exact ⟨rfl, rfl⟩
noncomputable def OrG (c : Cx) (l : List PySem.Expr) (pos : Pos) (x : Bool) (loc : Ls) (sto : Sto) (b : Bool) (sto₂ : Sto) : Prop := if x then b = true ∧ sto₂ = sto else Tst c (.BoolOp .Or l pos) loc sto b sto₂
theorem tst_or {a : PySem.Expr} {l : List PySem.Expr} {pos : Pos} {x b : Bool} (h : Tst c a loc sto x sto₁) (g : OrG c l pos x loc sto₁ b sto₂) : Tst c (.BoolOp .Or (a :: l) pos) loc sto b sto₂ := by
 cases x with
 | true => obtain ⟨rfl, rfl⟩ := g; exact tst_or_stop h
 | false => exact tst_or_on h g
theorem org_t {l : List PySem.Expr} {pos : Pos} {x : Bool} (q : x = true) : OrG c l pos x loc sto true sto := by subst q; exact ⟨rfl, rfl⟩
theorem org_f {l : List PySem.Expr} {pos : Pos} {x b : Bool} (q : x = false) (g : Tst c (.BoolOp .Or l pos) loc sto b sto₂) : OrG c l pos x loc sto b sto₂ := by subst q; exact g
noncomputable def IfE (c : Cx) (a b : PySem.Expr) (x : Bool) (loc : Ls) (sto : Sto) (v : V) (sto₂ : Sto) : Prop := Ev c (if x then a else b) loc sto v sto₂
theorem ev_ife {t a b : PySem.Expr} {pos : Pos} {x : Bool} {v : V} (h : Tst c t loc sto x sto₁) (g : IfE c a b x loc sto₁ v sto₂) : Ev c (.IfExp t a b pos) loc sto v sto₂ := ev_ifexp h g
theorem ife_t {a b : PySem.Expr} {x : Bool} {v : V} (q : x = true) (g : Ev c a loc sto v sto₂) : IfE c a b x loc sto v sto₂ := by subst q; exact g
theorem ife_f {a b : PySem.Expr} {x : Bool} {v : V} (q : x = false) (g : Ev c b loc sto v sto₂) : IfE c a b x loc sto v sto₂ := by subst q; exact g
noncomputable def TryG (x : PySem.Str) (o₁ o : Out) : Prop := match o₁ with
 | .exc C => labs.lookup x = some C ∧ o = .next
 | o₁ => o = o₁
theorem sx_tryg (hc : c.OK D) {body : List Stmt} {x : PySem.Str} {np hpos pos pp : Pos} (h : Sx c (execs body c.env) loc sto o₁ loc₁ sto₁) (g : TryG x o₁ o) (hk : c.scope.names.lookup x = some .globalImplicit) (hd : (x == ("__debug__" : PySem.Str)) = false) :
  Sx c (exec (.Try body [.ExceptHandler (some (.Name x np)) none [.Pass pp] hpos] [] [] pos) c.env) loc sto o loc₁ sto₁ := by
 cases o₁ with
 | exc C => obtain ⟨g1, rfl⟩ := g; exact sx_try_got hc h (lab_at g1) hk hd
 | next => cases g; exact sx_try_no (by intro C q; cases q) h
 | brk => cases g; exact sx_try_no (by intro C q; cases q) h
 | cont => cases g; exact sx_try_no (by intro C q; cases q) h
 | ret v => cases g; exact sx_try_no (by intro C q; cases q) h
theorem tryg_exc {x : PySem.Str} {C : Addr} (h : labs.lookup x = some C) : TryG x (.exc C) .next := ⟨h, rfl⟩
theorem tryg_next {x : PySem.Str} : TryG x .next .next := rfl
theorem tryg_brk {x : PySem.Str} : TryG x .brk .brk := rfl
theorem tryg_cont {x : PySem.Str} : TryG x .cont .cont := rfl
theorem tryg_ret {x : PySem.Str} {v : V} : TryG x (.ret v) (.ret v) := rfl
theorem sx_raise' (hc : c.OK D) {x : PySem.Str} {C : Addr} {np cp pos : Pos} (ok : labs.lookup x = some C) (hk : c.scope.names.lookup x = some .globalImplicit) (hd : (x == ("__debug__" : PySem.Str)) = false) :
  Sx c (exec (.Raise (some (.Call (.Name x np) [] [] cp)) none pos) c.env) loc sto (.exc C) loc sto := sx_raise hc (lab_at ok) hk hd
noncomputable def OnceG (o₁ o : Out) : Prop := match o₁ with
 | .brk => o = .next
 | .ret v => o = .ret v
 | .exc C => o = .exc C
 | _ => False
theorem sx_once {b : List Stmt} {k : Nat} {p1 pos : Pos} (h : Sx c (execs b c.env) loc sto o₁ loc₁ sto₁) (g : OnceG o₁ o) : Sx c (exec (.While (.Constant (.bool true) k p1) b [] pos) c.env) loc sto o loc₁ sto₁ := by
 cases o₁ with
 | brk => cases g; exact sx_while (n := 0) (.brk ev_true h)
 | ret v => cases g; exact sx_while (n := 0) (.ret ev_true h)
 | exc C => cases g; exact sx_while (n := 0) (.exc ev_true h)
 | next => exact g.elim
 | cont => exact g.elim
theorem once_brk : OnceG .brk .next := rfl
theorem once_ret {v : V} : OnceG (.ret v) (.ret v) := rfl
theorem once_exc {C : Addr} : OnceG (.exc C) (.exc C) := rfl
end
end
section
/-! contracts with the state spelled out -/
section
variable {D : Nat} {w : List Nat} {u l lb p q : Int} {ex : Ex}
noncomputable def vAt (w : List Nat) (u : Int) : Bool := isVow (w[u.toNat]?).toList
structure bet (u l : Int) (w : List Nat) : Prop where
 a : 0 ≤ u
 b : l ≤ w.length
 z : w.length ≤ 400
theorem bet.ok (h : bet u l w) : (Stm.mk w u l lb p q ex).Ok := ⟨h.a, h.b, Nat.le_trans h.z (by decide)⟩
theorem k_in_t (h : bet u l w) (hl : u < l) (hv : vAt w u = true) : CallS D 63 [.d 0, .a 232] [(Stm.mk w u l lb p q ex).o] (.b true) [(Stm.mk w (u + 1) l lb p q ex).o] := by
 have e : (Stm.mk w u l lb p q ex).inG = true := by
  show (decide (u < l) && vAt w u) = true
  rw [hv, decide_eq_true hl]; rfl
 have := c_in_grouping D (x := Stm.mk w u l lb p q ex) h.ok
 rw [e] at this
 exact this
theorem k_in_f (h : bet u l w) (hv : ¬ u < l ∨ vAt w u = false) : CallS D 63 [.d 0, .a 232] [(Stm.mk w u l lb p q ex).o] (.b false) [(Stm.mk w u l lb p q ex).o] := by
 have e : (Stm.mk w u l lb p q ex).inG = false := by
  show (decide (u < l) && vAt w u) = false
  rcases hv with hv | hv
  ·rw [decide_eq_false hv]; rfl
  ·rw [hv, Bool.and_false]
 have := c_in_grouping D (x := Stm.mk w u l lb p q ex) h.ok
 rw [e] at this
 exact this
theorem k_out_t (h : bet u l w) (hl : u < l) (hv : vAt w u = false) : CallS D 91 [.d 0, .a 232] [(Stm.mk w u l lb p q ex).o] (.b true) [(Stm.mk w (u + 1) l lb p q ex).o] := by
 have e : (Stm.mk w u l lb p q ex).outG = true := by
  show (decide (u < l) && !vAt w u) = true
  rw [hv, decide_eq_true hl]; rfl
 have := c_out_grouping D (x := Stm.mk w u l lb p q ex) h.ok
 rw [e] at this
 exact this
theorem k_out_f (h : bet u l w) (hv : ¬ u < l ∨ vAt w u = true) : CallS D 91 [.d 0, .a 232] [(Stm.mk w u l lb p q ex).o] (.b false) [(Stm.mk w u l lb p q ex).o] := by
 have e : (Stm.mk w u l lb p q ex).outG = false := by
  show (decide (u < l) && !vAt w u) = false
  rcases hv with hv | hv
  ·rw [decide_eq_false hv]; rfl
  ·rw [hv]; simp
 have := c_out_grouping D (x := Stm.mk w u l lb p q ex) h.ok
 rw [e] at this
 exact this
noncomputable def scan (w : List Nat) (u l : Int) (f : Nat → Bool) : Int := u + (((w.drop u.toNat).take (l - u).toNat).takeWhile f).length
theorem found_scan (h : bet u l w) (hl : u ≤ l) (f : Nat → Bool) : (Stm.mk w u l lb p q ex).found f = decide (scan w u l f < l) := by
 have := rest_len (x := Stm.mk w u l lb p q ex) h.ok hl
 unfold Stm.found Stm.skip scan
 apply Bool.eq_iff_iff.mpr
 rw [decide_eq_true_iff, decide_eq_true_iff]
 have e : (Stm.mk w u l lb p q ex).rest = (w.drop u.toNat).take (l - u).toNat := rfl
 rw [← e]
 dsimp only at this
 lia
theorem k_goin_t (h : bet u l w) (hl : u ≤ l) (hs : scan w u l vw < l) : CallS D 70 [.d 0, .a 232] [(Stm.mk w u l lb p q ex).o] (.b true) [(Stm.mk w (scan w u l vw) l lb p q ex).o] := by
 have := c_go_in D (x := Stm.mk w u l lb p q ex) h.ok
 rw [found_scan h hl, decide_eq_true hs] at this
 exact this
theorem k_goin_f (h : bet u l w) (hl : u ≤ l) (hs : ¬ scan w u l vw < l) : CallS D 70 [.d 0, .a 232] [(Stm.mk w u l lb p q ex).o] (.b false) [(Stm.mk w (scan w u l vw) l lb p q ex).o] := by
 have := c_go_in D (x := Stm.mk w u l lb p q ex) h.ok
 rw [found_scan h hl, decide_eq_false hs] at this
 exact this
theorem k_goout_t (h : bet u l w) (hl : u ≤ l) (hs : scan w u l nvw < l) : CallS D 98 [.d 0, .a 232] [(Stm.mk w u l lb p q ex).o] (.b true) [(Stm.mk w (scan w u l nvw) l lb p q ex).o] := by
 have := c_go_out D (x := Stm.mk w u l lb p q ex) h.ok
 rw [found_scan h hl, decide_eq_true hs] at this
 exact this
theorem k_goout_f (h : bet u l w) (hl : u ≤ l) (hs : ¬ scan w u l nvw < l) : CallS D 98 [.d 0, .a 232] [(Stm.mk w u l lb p q ex).o] (.b false) [(Stm.mk w (scan w u l nvw) l lb p q ex).o] := by
 have := c_go_out D (x := Stm.mk w u l lb p q ex) h.ok
 rw [found_scan h hl, decide_eq_false hs] at this
 exact this
theorem scan_ge (w : List Nat) (u l : Int) (f : Nat → Bool) : u ≤ scan w u l f := by unfold scan; lia
theorem scan_le (h : bet u l w) (hl : u ≤ l) (f : Nat → Bool) : scan w u l f ≤ l := by
 have h1 := rest_len (x := Stm.mk w u l 0 0 0 .none) h.ok hl
 have h2 : (((w.drop u.toNat).take (l - u).toNat).takeWhile f).length ≤ ((w.drop u.toNat).take (l - u).toNat).length := List.Sublist.length_le (List.takeWhile_sublist f)
 have e : (Stm.mk w u l 0 0 0 .none).rest = (w.drop u.toNat).take (l - u).toNat := rfl
 rw [e] at h1
 dsimp only at h1
 unfold scan
 lia
noncomputable def cutW (w : List Nat) (p q : Int) (s : List Nat) : List Nat := w.take p.toNat ++ s ++ w.drop q.toNat
theorem cutW_len {s : List Nat} (hp : 0 ≤ p) (hpq : p ≤ q) (hq : q ≤ w.length) : ((cutW w p q s).length : Int) = w.length + (s.length - (q - p)) := by
 obtain ⟨a, rfl⟩ := Int.eq_ofNat_of_zero_le hp
 obtain ⟨b, rfl⟩ := Int.eq_ofNat_of_zero_le (Int.le_trans hp hpq)
 have hpq := Int.ofNat_le.mp hpq
 have hq := Int.ofNat_le.mp hq
 unfold cutW
 rw [List.length_append, List.length_append, List.length_take, List.length_drop, Int.toNat_natCast, Int.toNat_natCast, Nat.min_eq_left (Nat.le_trans hpq hq)]
 generalize w.length = n at hq ⊢
 generalize s.length = m
 clear hp
 lia
theorem k_slice {s : List Nat} (hz : w.length ≤ 400) (hs : s.length ≤ 400) (hp : 0 ≤ p) (hpq : p ≤ q) (hq : q ≤ w.length) (h : q ≤ u) : CallS (D + 1) 154 [.d 0, .s s] [(Stm.mk w u w.length lb p q ex).o] .none [(Stm.mk (cutW w p q s) (u + (s.length - (q - p))) ((cutW w p q s).length : Int) lb p (p + s.length) ex).o] := by
 have := c_slice_from D (x := Stm.mk w u w.length lb p q ex) (s := s) ⟨hz, hp, hpq, hq, Int.le_refl _⟩ hs
 rw [slice_eq] at this
 rw [cutW_len hp hpq hq]
 have e : (Stm.mk w u w.length lb p q ex).repl p q s = Stm.mk (cutW w p q s) (u + (s.length - (q - p))) (w.length + (s.length - (q - p))) lb p q ex := by
  unfold Stm.repl cutW
  simp only [if_pos h]
 rw [e] at this
 exact this
theorem k_slice_n {s : List Nat} (hz : w.length ≤ 400) (hs : s.length ≤ 400) (hp : 0 ≤ p) (hpq : p ≤ q) (hq : q ≤ w.length) (h : u < q) (h2 : u ≤ p) : CallS (D + 1) 154 [.d 0, .s s] [(Stm.mk w u w.length lb p q ex).o] .none [(Stm.mk (cutW w p q s) u ((cutW w p q s).length : Int) lb p (p + s.length) ex).o] := by
 have := c_slice_from D (x := Stm.mk w u w.length lb p q ex) (s := s) ⟨hz, hp, hpq, hq, Int.le_refl _⟩ hs
 rw [slice_eq] at this
 rw [cutW_len hp hpq hq]
 have e : (Stm.mk w u w.length lb p q ex).repl p q s = Stm.mk (cutW w p q s) u (w.length + (s.length - (q - p))) lb p q ex := by
  unfold Stm.repl cutW
  simp only [if_neg (Int.not_le.mpr h), if_neg (Int.not_lt.mpr h2)]
 rw [e] at this
 exact this
theorem k_del_n (hz : w.length ≤ 400) (hp : 0 ≤ p) (hpq : p ≤ q) (hq : q ≤ w.length) (h : u < q) (h2 : u ≤ p) : CallS (D + 2) 161 [.d 0] [(Stm.mk w u w.length lb p q ex).o] .none [(Stm.mk (cutW w p q []) u ((cutW w p q []).length : Int) lb p p ex).o] := by
 have := c_slice_del D (x := Stm.mk w u w.length lb p q ex) ⟨hz, hp, hpq, hq, Int.le_refl _⟩
 rw [slice_eq] at this
 rw [cutW_len hp hpq hq]
 have e : (Stm.mk w u w.length lb p q ex).repl p q [] = Stm.mk (cutW w p q []) u (w.length + ((([] : List Nat).length : Int) - (q - p))) lb p q ex := by
  unfold Stm.repl cutW
  simp only [if_neg (Int.not_le.mpr h), if_neg (Int.not_lt.mpr h2)]
 rw [e] at this
 have e2 : p + ((([] : List Nat).length : Nat) : Int) = p := by simp
 rw [e2] at this
 exact this
theorem k_R1_m {a b d : Int} : CallS D 267 [.d 0] [(Stm.mk w u l lb p q (.marks a b d)).o] (.b (decide (b ≤ u))) [(Stm.mk w u l lb p q (.marks a b d)).o] := c_r_R1 D (x := Stm.mk w u l lb p q (.marks a b d)) (fun q => by cases q)
theorem k_R1_a {a b d : Int} {z : Bool} : CallS D 267 [.d 0] [(Stm.mk w u l lb p q (.all a b d z)).o] (.b (decide (b ≤ u))) [(Stm.mk w u l lb p q (.all a b d z)).o] := c_r_R1 D (x := Stm.mk w u l lb p q (.all a b d z)) (fun q => by cases q)
structure betB (lb u : Int) (w : List Nat) : Prop where
 a : 0 ≤ lb
 b : lb ≤ u
 c : u ≤ w.length
 z : w.length ≤ 400
theorem betB.ok (h : betB lb u w) : (Stm.mk w u l lb p q ex).OkB := ⟨h.a, h.b, h.c, Nat.le_trans h.z (by decide)⟩
noncomputable def midW (w : List Nat) (lb u : Int) : List Nat := (w.drop lb.toNat).take (u - lb).toNat
theorem k_outb_t (h : betB lb u w) (hl : lb < u) (hv : vAt w (u - 1) = false) : CallS D 105 [.d 0, .a 232] [(Stm.mk w u l lb p q ex).o] (.b true) [(Stm.mk w (u - 1) l lb p q ex).o] := by
 have e : (Stm.mk w u l lb p q ex).outB = true := by
  show (decide (lb < u) && !vAt w (u - 1)) = true
  rw [hv, decide_eq_true hl]; rfl
 have := c_out_grouping_b D (x := Stm.mk w u l lb p q ex) h.ok
 rw [e] at this
 exact this
theorem k_outb_f (h : betB lb u w) (hv : ¬ lb < u ∨ vAt w (u - 1) = true) : CallS D 105 [.d 0, .a 232] [(Stm.mk w u l lb p q ex).o] (.b false) [(Stm.mk w u l lb p q ex).o] := by
 have e : (Stm.mk w u l lb p q ex).outB = false := by
  show (decide (lb < u) && !vAt w (u - 1)) = false
  rcases hv with hv | hv
  ·rw [decide_eq_false hv]; rfl
  ·rw [hv]; simp
 have := c_out_grouping_b D (x := Stm.mk w u l lb p q ex) h.ok
 rw [e] at this
 exact this
theorem k_eqb_t {s : List Nat} (h : betB lb u w) (hs : s.length ≤ 1000) (he : endsW (midW w lb u) s = true) : CallS D 126 [.d 0, .s s] [(Stm.mk w u l lb p q ex).o] (.b true) [(Stm.mk w (u - s.length) l lb p q ex).o] := by
 have := c_eq_s_b D (x := Stm.mk w u l lb p q ex) (s := s) h.ok hs
 have e : (Stm.mk w u l lb p q ex).eqB s = true := he
 rw [e] at this
 exact this
theorem k_eqb_f {s : List Nat} (h : betB lb u w) (hs : s.length ≤ 1000) (he : endsW (midW w lb u) s = false) : CallS D 126 [.d 0, .s s] [(Stm.mk w u l lb p q ex).o] (.b false) [(Stm.mk w u l lb p q ex).o] := by
 have := c_eq_s_b D (x := Stm.mk w u l lb p q ex) (s := s) h.ok hs
 have e : (Stm.mk w u l lb p q ex).eqB s = false := he
 rw [e] at this
 exact this
noncomputable def rwB (w : List Nat) (u lb : Int) (t : List Row4) : Option Row4 := (Stm.mk w u 0 lb 0 0 .none).rowB t
noncomputable def rwF (w : List Nat) (u l : Int) (t : List Row4) : Option Row4 := (Stm.mk w u l 0 0 0 .none).rowF t
theorem k_findb_none {a : Addr} {t : List Row4} (h : betB lb u w) (ht : Tab a t) (hr : rwB w u lb t = none) : CallS D 140 [.d 0, .a a] [(Stm.mk w u l lb p q ex).o] (.i 0) [(Stm.mk w u l lb p q ex).o] := by
 have := c_find_among_b D (x := Stm.mk w u l lb p q ex) h.ok ht
 have e : (Stm.mk w u l lb p q ex).rowB t = none := hr
 rw [e] at this
 exact this
theorem k_findb_some {a : Addr} {t : List Row4} {r : Row4} (h : betB lb u w) (ht : Tab a t) (hr : rwB w u lb t = some r) : CallS D 140 [.d 0, .a a] [(Stm.mk w u l lb p q ex).o] (.i r.res) [(Stm.mk w (u - r.s.length) l lb p q ex).o] := by
 have := c_find_among_b D (x := Stm.mk w u l lb p q ex) h.ok ht
 have e : (Stm.mk w u l lb p q ex).rowB t = some r := hr
 rw [e] at this
 exact this
theorem k_find_none {a : Addr} {t : List Row4} (h : bet u l w) (hl : u ≤ l) (ht : Tab a t) (hr : rwF w u l t = none) : CallS D 133 [.d 0, .a a] [(Stm.mk w u l lb p q ex).o] (.i 0) [(Stm.mk w u l lb p q ex).o] := by
 have := c_find_among D (x := Stm.mk w u l lb p q ex) h.ok hl ht
 have e : (Stm.mk w u l lb p q ex).rowF t = none := hr
 rw [e] at this
 exact this
theorem k_find_some {a : Addr} {t : List Row4} {r : Row4} (h : bet u l w) (hl : u ≤ l) (ht : Tab a t) (hr : rwF w u l t = some r) : CallS D 133 [.d 0, .a a] [(Stm.mk w u l lb p q ex).o] (.i r.res) [(Stm.mk w (u + r.s.length) l lb p q ex).o] := by
 have := c_find_among D (x := Stm.mk w u l lb p q ex) h.ok hl ht
 have e : (Stm.mk w u l lb p q ex).rowF t = some r := hr
 rw [e] at this
 exact this
theorem rwB_best {t : List Row4} (h : betB lb u w) (hk : KeyOK kR t) (hn : 0 < t.length) : BestE t (midW w lb u) (rwB w u lb t) := rowB_best (x := Stm.mk w u 0 lb 0 0 .none) h.ok hk hn
theorem rwF_best {t : List Row4} (h : bet u l w) (hl : u ≤ l) (hk : KeyOK kF t) (hn : 0 < t.length) : BestP t ((w.drop u.toNat).take (l - u).toNat) (rwF w u l t) := rowF_best (x := Stm.mk w u l 0 0 0 .none) h.ok hl hk hn
end
/-! fewer names -/
noncomputable def SubL : Ls → Ls → Prop
 | [], _ => True
 | (k, v) :: r, l => lk k l = some v ∧ SubL r l
theorem SubL.nil {l : Ls} : SubL [] l := trivial
theorem SubL.cons {k : List Nat} {v : V} {r l : Ls} (h : lk k l = some v) (t : SubL r l) : SubL ((k, v) :: r) l := ⟨h, t⟩
theorem SubL.ok {a b : Ls} (h : SubL a b) (x : List Nat) (v : V) (e : lk x a = some v) : lk x b = some v := by
 induction a with
 | nil => cases e
 | cons p r ih =>
  obtain ⟨k, u⟩ := p
  by_cases q : k = x
  ·rw [lk_head q] at e
   rw [← q, ← Option.some.inj e]; exact h.1
  ·rw [lk_tail q] at e
   exact ih h.2 e
theorem Rel.weak {c : Cx} {ρ : List Addr} {loc loc' : Ls} {sto : Sto} {h : Heap} (R : Rel c ρ loc sto h) (s : SubL loc' loc) : Rel c ρ loc' sto h := by
 obtain ⟨m, a, b⟩ := R
 exact ⟨m, fun x v e => a x v (s.ok _ v e), b⟩
theorem sx_weak {c : Cx} {t : Sem Flow} {loc loc₁ loc₂ : Ls} {sto sto₁ : Sto} {o : Out} (h : Sx c t loc sto o loc₁ sto₁) (s : SubL loc₂ loc₁) : Sx c t loc sto o loc₂ sto₁ := fun ρ sh Q E R pe P => h ρ sh Q E R pe (by
 cases o with
 | next => exact fun s' ρ' a b d => P s' ρ' a (b.weak s) d
 | brk => exact fun s' ρ' a b d => P s' ρ' a (b.weak s) d
 | cont => exact fun s' ρ' a b d => P s' ρ' a (b.weak s) d
 | ret v => exact fun s' ρ' val a r b d => P s' ρ' val a r (b.weak s) d
 | exc C => exact fun s' ρ' h' e a b d x => P s' ρ' h' e a (b.weak s) d x)
theorem sx_wcast {c : Cx} {t : Sem Flow} {loc loc₁ loc₂ : Ls} {sto sto₁ sto₂ : Sto} {o : Out} (h : Sx c t loc sto o loc₁ sto₁) (s : SubL loc₂ loc₁) (es : sto₁ = sto₂) : Sx c t loc sto o loc₂ sto₂ := by
 subst es; exact sx_weak h s
theorem sx_pre {c : Cx} {t : Sem Flow} {loc loc₁ loc₂ : Ls} {sto sto₁ : Sto} {o : Out} (h : Sx c t loc sto o loc₁ sto₁) (s : SubL loc loc₂) : Sx c t loc₂ sto o loc₁ sto₁ := fun ρ sh Q E R pe P => h ρ sh Q E (R.weak s) pe P
theorem turns_contW {c : Cx} {t : PySem.Expr} {b : List Stmt} {n : Nat} {loc loc₂ loc₃ loc₄ : Ls} {sto sto₁ sto₂ sto₃ sto₄ : Sto} {o : Out} (h : Tst c t loc sto true sto₁) (g : Sx c (execs b c.env) loc sto₁ .cont loc₂ sto₂) (s : SubL loc₃ loc₂) (es : sto₂ = sto₃) (r : Turns c t b n loc₃ sto₃ o loc₄ sto₄) : Turns c t b (n + 1) loc sto o loc₄ sto₄ := by
 subst es; exact .cont h (sx_weak g s) r
theorem turns_nextW {c : Cx} {t : PySem.Expr} {b : List Stmt} {n : Nat} {loc loc₂ loc₃ loc₄ : Ls} {sto sto₁ sto₂ sto₃ sto₄ : Sto} {o : Out} (h : Tst c t loc sto true sto₁) (g : Sx c (execs b c.env) loc sto₁ .next loc₂ sto₂) (s : SubL loc₃ loc₂) (es : sto₂ = sto₃) (r : Turns c t b n loc₃ sto₃ o loc₄ sto₄) : Turns c t b (n + 1) loc sto o loc₄ sto₄ := by
 subst es; exact .next h (sx_weak g s) r
end
section
def wB2 : String → String
 | "m op" => "_ _||op_ge op_gt op_le op_lt op_eq op_ne op_eqS op_neS op_add op_sub op_iadd op_isub;_ _ hz|hz=num|op_addS;hc ok|hc=a ok=t1|notin_set in_set"
 | "m hcall" => "||k_R1_m k_R1_a;a b c|c=a a=side b=side|k_in_t;a b|b=side a=side|k_in_f;a b c|c=a a=side b=side|k_out_t;a b|b=side a=side|k_out_f;a b c|c=side a=side b=side|k_goin_t k_goin_f k_goout_t k_goout_f;a b c d e f|f=side a=side b=num c=side d=side e=side|k_slice;a b c d e f g|f=side a=side b=num c=side d=side e=side g=side|k_slice_n;a c d e f g|f=side a=side c=side d=side e=side g=side|k_del_n;a b c|c=a a=side b=side|k_outb_t;a b|b=side a=side|k_outb_f;a b c|c=a a=side b=side|k_eqb_t k_eqb_f;a b c|b=tab c=a a=side|k_findb_some k_findb_none;a d b c|b=tab c=a a=side d=side|k_find_some k_find_none"
 | "m tab" => "||tb_0 tb_1 tb_2 tb_3 tb_4 tb_5 tb_6"
 | "m ev" => "_ _ _||ev_int ev_str ev_bool;hc h|hc=a h=self|xget_cur xget_cursor xget_limit xget_lb xget_bra xget_ket xget_B xget_pV_marks xget_pV_all xget_p1_marks xget_p1_all xget_p2_marks xget_p2_all;hc hv hk hd|hc=a hv=r hk=local hd=k|ev_local;hc e hk hd|hc=a e=t6 hk=local hd=k|ev_global;hc h ok|hc=a h=ev ok=t7|ev_attr_cls;hc h ek ev ok|hc=a h=ev ek=r ev=r ok=t2|ev_attr_dyn;h g ho|h=ev g=ev ho=op|ev_bin;h|h=ev|ev_neg;hm h g ho|hm=r h=ev g=ev ho=op|ev_cmp;h g|h=tst g=ife|ev_ife;hc h ga gb h0 h1 h2 hz|hc=a h=ev ga=ev gb=ev h0=o h1=o h2=o hz=o|ev_sub_ss;hc h ga h0 hz|hc=a h=ev ga=ev h0=o hz=o|ev_sub_sn;hc h gb h0 h2 hz|hc=a h=ev gb=ev h0=o h2=o hz=o|ev_sub_ns;hi h g h0 h1 hx|hi=r h=ev g=ev h0=o h1=o hx=a|ev_sub_str;hc %bi_len hk hs h hb|hc=a hk=local hs=r h=ev hb=t8|builtin1;hb hs hline h g|hb=r hs=r hline=r h=ev g=evl|ev_endswith;hc hs hlen hline h ek en ok g hcall|hc=a hs=r hlen=d hline=r h=ev ek=r en=t9 ok=t10 g=evl hcall=hcall|ev_meth"
 | "m tst" => "||ev_true tst_and_nil tst_or_nil;hm h g ho|hm=r h=ev g=ev ho=op|tst_cmp;h|h=tst|tst_not;h g|h=tst g=t11|tst_and;h g|h=tst g=t12|tst_or;hp h|hp=r h=ev|tst_ev"
 | "m sx" => "_||sx_pass sx_break sx_continue;h|h=ev|sx_return;hc ok hk hd|hc=a ok=r hk=local hd=k|sx_raise';hc hcomp hs h|hc=a hcomp=r hs=self h=ev|xset_cur xset_cursor xset_limit xset_lb xset_bra xset_ket xset_pV_marks xset_p1_marks xset_p2_marks xset_B xset_B0;hc hs h|hc=a hs=self h=ev|xadd_cursor xsub_cursor;hc hcomp h hk|hc=a hcomp=r h=ev hk=local|sx_assign;hc hv hk h hop|hc=a hv=r hk=local h=ev hop=op|sx_aug;hc hcomp h|hc=a hcomp=r h=ev|sx_expr;hc h q|hc=a h=tst q=bool|assert_t;h g|h=tst g=ifg|sx_ifg;hc h g hk hd|hc=a h=sxs g=t13 hk=local hd=k|sx_tryg;while"
 | "m while" => "h g|h=sxs g=t14|sx_once"
 | "m bool" => "r;a;bul"
 | "m sxs" => "||sx_nil;~h g|h=sx g=sq|sxq"
 | _ => ""
local macro_rules | `(tactic| walk_at $s:str) => wF (wB2 s.getString)
theorem BestE.len {t : List Row4} {T : List Nat} {r : Row4} (h : BestE t T (some r)) : r.s.length ≤ T.length := by
 obtain ⟨u, rfl⟩ := ends_ex.mp h.2.1
 simp
theorem mid_all (w : List Nat) : midW w 0 w.length = w := by unfold midW; simp
theorem cut_end (w s : List Nat) (n : Nat) (h : n ≤ w.length) : cutW w ((w.length : Int) - (n : Int)) w.length s = w.take (w.length - n) ++ s := by
 unfold cutW
 rw [show ((w.length : Int) - (n : Int)).toNat = w.length - n by lia, Int.toNat_natCast, List.drop_length, List.append_nil]
theorem cut_end1 (w s : List Nat) (n : Nat) (h : n + 1 ≤ w.length) : cutW w ((w.length : Int) - (n : Int) - 1) w.length s = w.take (w.length - n - 1) ++ s := by
 unfold cutW
 rw [show ((w.length : Int) - (n : Int) - 1).toNat = w.length - n - 1 by lia, Int.toNat_natCast, List.drop_length, List.append_nil]
theorem mid_front (w : List Nat) (n : Nat) (h : n ≤ w.length) : midW w 0 ((w.length : Int) - n) = w.take (w.length - n) := by
 unfold midW
 rw [show ((w.length : Int) - n - 0).toNat = w.length - n by lia]
 rfl
structure Left (y : Stm) (w : List Nat) (ex : Ex) : Prop where
 cur : y.cur = w
 limit : y.limit = y.cur.length
 lb : y.lb = 0
 ex : y.ex = ex
theorem ckNE {t : List Row4} (h : (t.all fun r => Nat.ble 1 r.s.length) = true) : ∀ r ∈ t, 1 ≤ r.s.length := fun r hr => Nat.le_of_ble_eq_true (List.all_eq_true.mp h r hr)
theorem ckR {t : List Row4} {a b : Int} (h : (t.all fun r => decide (a ≤ r.res) && decide (r.res ≤ b)) = true) : ∀ r ∈ t, a ≤ r.res ∧ r.res ≤ b := fun r hr => by
 have := List.all_eq_true.mp h r hr
 rw [Bool.and_eq_true, decide_eq_true_iff, decide_eq_true_iff] at this
 exact this
/-! ### the last step -/
noncomputable def vowF (pV : Int) (w : List Nat) : Option Row4 → List Nat
 | none => w
 | some r => if pV ≤ w.length - r.s.length then w.take (w.length - r.s.length) else w
theorem c_vowel (D : Nat) {w : List Nat} (hz : w.length ≤ 390) (p q pV p1 p2 : Int) (z : Bool) :
  ∃ b y o, BestE tab_a_6 w o ∧ CallS (D + 3) 302 [.d 0] [(Stm.mk w w.length w.length 0 p q (.all pV p1 p2 z)).o] (.b b) [y.o] ∧ Left y (vowF pV w o) (.all pV p1 p2 z) := by
 have hb := rwB_best (w := w) (u := w.length) (lb := 0) ⟨by lia, by lia, by lia, by lia⟩ kk_6 (by decide)
 rw [mid_all] at hb
 cases hr : rwB w w.length 0 tab_a_6 with
 | none =>
  rw [hr] at hb
  refine' ⟨false, ?y1, none, hb, ?g1, ?l1⟩
  case g1 =>
   refine call_body fn302 rfl fun c hc hsc => ?_
   walk_at "m ret"
  case l1 => exact ⟨rfl, rfl, rfl, rfl⟩
 | some r =>
  rw [hr] at hb
  have hl := hb.len
  have h1 := ckNE (by decide +kernel) r hb.1
  have h2 := ckR (a := 1) (b := 1) (by decide +kernel) r hb.1
  by_cases h3 : pV ≤ w.length - r.s.length
  ·refine' ⟨true, ?y2, some r, hb, ?g2, ?l2⟩
   case g2 =>
    refine call_body fn302 rfl fun c hc hsc => ?_
    walk_at "m ret"
   case l2 => exact ⟨(cut_end _ _ _ hl).trans ((List.append_nil _).trans (if_pos h3).symm), rfl, rfl, rfl⟩
  ·refine' ⟨false, ?y3, some r, hb, ?g3, ?l3⟩
   case g3 =>
    refine call_body fn302 rfl fun c hc hsc => ?_
    walk_at "m ret"
   case l3 => exact ⟨(if_neg h3).symm, rfl, rfl, rfl⟩
/-! ### step 0 -/
noncomputable def put0 (k : Int) : List Nat := if k = 1 then [] else if k = 2 then [97] else if k = 3 then [101] else if k = 4 then [105] else if k = 5 then [105] else if k = 6 then [97, 116] else [97, 539, 105]
noncomputable def step0F (p1 : Int) (w : List Nat) : Option Row4 → List Nat
 | none => w
 | some r => if p1 ≤ w.length - r.s.length then (if r.res = 5 ∧ endsW (w.take (w.length - r.s.length)) [97, 98] = true then w else w.take (w.length - r.s.length) ++ put0 r.res) else w
theorem c_step_0 (D : Nat) {w : List Nat} (hz : w.length ≤ 300) (p q pV p1 p2 : Int) :
  ∃ b y o, BestE tab_a_2 w o ∧ CallS (D + 3) 274 [.d 0] [(Stm.mk w w.length w.length 0 p q (.marks pV p1 p2)).o] (.b b) [y.o] ∧ Left y (step0F p1 w o) (.marks pV p1 p2) := by
 have hb := rwB_best (w := w) (u := w.length) (lb := 0) ⟨by lia, by lia, by lia, by lia⟩ kk_2 (by decide)
 rw [mid_all] at hb
 cases hr : rwB w w.length 0 tab_a_2 with
 | none =>
  rw [hr] at hb
  refine' ⟨false, ?y1, none, hb, ?g1, ?l1⟩
  case g1 =>
   refine call_body fn274 rfl fun c hc hsc => ?_
   walk_at "m ret"
  case l1 => exact ⟨rfl, rfl, rfl, rfl⟩
 | some r =>
  rw [hr] at hb
  have hl := hb.len
  have h1 := ckNE (by decide +kernel) r hb.1
  have h2 := ckR (a := 1) (b := 7) (by decide +kernel) r hb.1
  have hmf := mid_front w r.s.length hl
  by_cases h3 : p1 ≤ w.length - r.s.length
  ·have e0 : step0F p1 w (some r) = if r.res = 5 ∧ endsW (w.take (w.length - r.s.length)) [97, 98] = true then w else w.take (w.length - r.s.length) ++ put0 r.res := if_pos h3
   have hk : r.res = 1 ∨ r.res = 2 ∨ r.res = 3 ∨ r.res = 4 ∨ r.res = 5 ∨ r.res = 6 ∨ r.res = 7 := by lia
   have e1 : r.res ≠ 5 → step0F p1 w (some r) = w.take (w.length - r.s.length) ++ put0 r.res := fun q => by rw [e0, if_neg fun x => q x.1]
   rcases hk with h4 | h4 | h4 | h4 | h4 | h4 | h4
   ·refine' ⟨true, ?y2, some r, hb, ?g2, ?l2⟩
    case g2 =>
     refine call_body fn274 rfl fun c hc hsc => ?_
     walk_at "m ret"
    case l2 => exact ⟨(cut_end _ _ _ hl).trans ((e1 (by lia)).trans (by rw [h4]; rfl)).symm, rfl, rfl, rfl⟩
   ·refine' ⟨true, ?y3, some r, hb, ?g3, ?l3⟩
    case g3 =>
     refine call_body fn274 rfl fun c hc hsc => ?_
     walk_at "m ret"
    case l3 => exact ⟨(cut_end _ _ _ hl).trans ((e1 (by lia)).trans (by rw [h4]; rfl)).symm, rfl, rfl, rfl⟩
   ·refine' ⟨true, ?y4, some r, hb, ?g4, ?l4⟩
    case g4 =>
     refine call_body fn274 rfl fun c hc hsc => ?_
     walk_at "m ret"
    case l4 => exact ⟨(cut_end _ _ _ hl).trans ((e1 (by lia)).trans (by rw [h4]; rfl)).symm, rfl, rfl, rfl⟩
   ·refine' ⟨true, ?y5, some r, hb, ?g5, ?l5⟩
    case g5 =>
     refine call_body fn274 rfl fun c hc hsc => ?_
     walk_at "m ret"
    case l5 => exact ⟨(cut_end _ _ _ hl).trans ((e1 (by lia)).trans (by rw [h4]; rfl)).symm, rfl, rfl, rfl⟩
   ·cases hE : endsW (w.take (w.length - r.s.length)) [97, 98] with
    | true =>
     have hE' : endsW (midW w 0 ((w.length : Int) - r.s.length)) (S "ab").cps.toList = true := by rw [hmf]; exact hE
     refine' ⟨false, ?y6, some r, hb, ?g6, ?l6⟩
     case g6 =>
      refine call_body fn274 rfl fun c hc hsc => ?_
      walk_at "m ret"
     case l6 => exact ⟨(e0.trans (if_pos ⟨h4, hE⟩)).symm, rfl, rfl, rfl⟩
    | false =>
     have hE' : endsW (midW w 0 ((w.length : Int) - r.s.length)) (S "ab").cps.toList = false := by rw [hmf]; exact hE
     refine' ⟨true, ?y7, some r, hb, ?g7, ?l7⟩
     case g7 =>
      refine call_body fn274 rfl fun c hc hsc => ?_
      walk_at "m ret"
     case l7 => exact ⟨(cut_end _ _ _ hl).trans ((e0.trans (if_neg fun x => by rw [hE] at x; cases x.2)).trans (by rw [h4]; rfl)).symm, rfl, rfl, rfl⟩
   ·refine' ⟨true, ?y8, some r, hb, ?g8, ?l8⟩
    case g8 =>
     refine call_body fn274 rfl fun c hc hsc => ?_
     walk_at "m ret"
    case l8 => exact ⟨(cut_end _ _ _ hl).trans ((e1 (by lia)).trans (by rw [h4]; rfl)).symm, rfl, rfl, rfl⟩
   ·refine' ⟨true, ?y9, some r, hb, ?g9, ?l9⟩
    case g9 =>
     refine call_body fn274 rfl fun c hc hsc => ?_
     walk_at "m ret"
    case l9 => exact ⟨(cut_end _ _ _ hl).trans ((e1 (by lia)).trans (by rw [h4]; rfl)).symm, rfl, rfl, rfl⟩
  ·refine' ⟨false, ?y10, some r, hb, ?g10, ?l10⟩
   case g10 =>
    refine call_body fn274 rfl fun c hc hsc => ?_
    walk_at "m ret"
   case l10 => exact ⟨(if_neg h3).symm, rfl, rfl, rfl⟩
section
/-! ### compound endings -/
noncomputable def comboOk (p1 : Int) (w : List Nat) : Option Row4 → Bool
 | none => false
 | some r => decide (p1 ≤ w.length - r.s.length)
noncomputable def as3 (k : Int) : List Nat := match tab_as_3[(k - 1).toNat]? with
 | some s => s
 | none => []
noncomputable def comboW (w : List Nat) : Option Row4 → List Nat
 | none => w
 | some r => w.take (w.length - r.s.length) ++ as3 r.res
local macro_rules | `(tactic| walk_at "m ev") => wF "hc hi h g q h0 h1 hx|hc=a hi=r h=ev g=ev q=isT h0=o h1=o hx=a|ev_sub_tup"
theorem c_combo (D : Nat) {w : List Nat} (hz : w.length ≤ 300) (p q pV p1 p2 : Int) (z : Bool) :
  ∃ y o, BestE tab_a_3 w o ∧ CallS (D + 3) 281 [.d 0] [(Stm.mk w w.length w.length 0 p q (.all pV p1 p2 z)).o] (.b (comboOk p1 w o)) [y.o] ∧
   (comboOk p1 w o = true → y.cursor = y.limit ∧ Left y (comboW w o) (.all pV p1 p2 true) ∧ y.cur.length < w.length) ∧ (comboOk p1 w o = false → Left y w (.all pV p1 p2 z)) := by
 have hb := rwB_best (w := w) (u := w.length) (lb := 0) ⟨by lia, by lia, by lia, by lia⟩ kk_3 (by decide)
 rw [mid_all] at hb
 cases hr : rwB w w.length 0 tab_a_3 with
 | none =>
  rw [hr] at hb
  refine' ⟨?y1, none, hb, ?g1, ?l1, ?m1⟩
  case g1 =>
   refine call_body fn281 rfl fun c hc hsc => ?_
   walk_at "m ret"
  case l1 => intro q; cases q
  case m1 => exact fun _ => ⟨rfl, rfl, rfl, rfl⟩
 | some r =>
  rw [hr] at hb
  have hl := hb.len
  have h1 := ckNE (by decide +kernel) r hb.1
  have h2 := ckR (a := 1) (b := 6) (by decide +kernel) r hb.1
  by_cases h3 : p1 ≤ w.length - r.s.length
  ·have e0 : comboOk p1 w (some r) = true := decide_eq_true h3
   have hlt : (r.res - 1).toNat < tab_as_3.length := by
    have : tab_as_3.length = 6 := rfl
    lia
   obtain ⟨s, hs⟩ : ∃ s, tab_as_3[(r.res - 1).toNat]? = some s := ⟨_, List.getElem?_eq_getElem hlt⟩
   have hx : (tab_as_3.map V.s)[(r.res - 1).toNat]? = some (.s s) := by rw [List.getElem?_map, hs]; rfl
   have has : as3 r.res = s := by unfold as3; rw [hs]
   have hshort : s.length < r.s.length := by
    have hall : (tab_a_3.all fun r => Nat.blt (as3 r.res).length r.s.length) = true := by decide +kernel
    have := List.all_eq_true.mp hall r hb.1
    rw [has] at this
    exact blt_lt.mp this
   have hs4 : s.length ≤ 400 := by lia
   refine' ⟨?y2, some r, hb, ?g2, ?l2, ?m2⟩
   case g2 =>
    rw [e0]
    refine call_body fn281 rfl fun c hc hsc => ?_
    have hst := stT_of (ck_as_3 c.w.params)
    walk_at "m ret"
   case l2 =>
    intro _
    refine ⟨?_, ⟨(cut_end _ _ _ hl).trans (by rw [← has]; rfl), rfl, rfl, rfl⟩, ?_⟩
    ·show ((cutW w ((w.length : Int) - (r.s.length : Int)) w.length s).length : Int) - ((w.length : Int) - w.length) = (cutW w ((w.length : Int) - (r.s.length : Int)) w.length s).length
     lia
    ·show (cutW w ((w.length : Int) - (r.s.length : Int)) w.length s).length < w.length
     rw [cut_end _ _ _ hl, List.length_append, List.length_take]
     lia
   case m2 => exact fun q => by rw [e0] at q; cases q
  ·have e0 : comboOk p1 w (some r) = false := decide_eq_false h3
   refine' ⟨?y3, some r, hb, ?g3, ?l3, ?m3⟩
   case g3 =>
    rw [e0]
    refine call_body fn281 rfl fun c hc hsc => ?_
    walk_at "m ret"
   case l3 => exact fun q => by rw [e0] at q; cases q
   case m3 => exact fun _ => ⟨rfl, rfl, rfl, rfl⟩
inductive Combos (p1 : Int) : List Nat → Bool → List Nat → Bool → Prop
 | stop {w : List Nat} {z : Bool} {o : Option Row4} (h : BestE tab_a_3 w o) (e : comboOk p1 w o = false) : Combos p1 w z w z
 | step {w w' : List Nat} {z z' : Bool} {o : Option Row4} (h : BestE tab_a_3 w o) (e : comboOk p1 w o = true) (r : Combos p1 (comboW w o) true w' z') : Combos p1 w z w' z'
noncomputable def w288 : Stmt := nthS (defBody (cst 6 12)) 1
theorem Stm.eta (y : Stm) : y = Stm.mk y.cur y.cursor y.limit y.lb y.bra y.ket y.ex := rfl
local macro_rules | `(tactic| walk_at "m hcall") => wF "a"
theorem combos_turns (D : Nat) (pV p1 p2 : Int) : ∀ (k : Nat) (w : List Nat), w.length = k → w.length ≤ 300 → ∀ (p q : Int) (z : Bool),
  ∃ n w' p' q' z', Combos p1 w z w' z' ∧ w'.length ≤ 300 ∧ ∀ (c : Cx), c.OK (D + 4) → c.scope = defScope (cst 6 12) → Lp c w288 n [(kS "self", .d 0)] [(Stm.mk w w.length w.length 0 p q (.all pV p1 p2 z)).o] .next [(kS "self", .d 0)] [(Stm.mk w' w'.length w'.length 0 p' q' (.all pV p1 p2 z')).o] := by
 intro k
 induction k using Nat.strongRecOn with
 | _ k ih =>
  intro w hk hz p q z
  obtain ⟨y, o, hb, C, ht, hf⟩ := c_combo D hz p q pV p1 p2 z
  cases e : comboOk p1 w o with
  | true =>
   rw [e] at C
   obtain ⟨h1, h2, h3⟩ := ht e
   have hyc : y = Stm.mk y.cur y.cur.length y.cur.length 0 y.bra y.ket (.all pV p1 p2 true) := by
    obtain ⟨a, b, d, f, g, i, j⟩ := y
    obtain ⟨x1, x2, x3, x4⟩ := h2
    dsimp only at h1 x1 x2 x3 x4 ⊢
    rw [h1, x2, x3, x4]
   generalize hu : y.cur = u at *
   generalize y.bra = p2' at *
   generalize y.ket = q2' at *
   rw [hyc] at C
   have hu' : u = comboW w o := by rw [← hu]; exact h2.cur
   obtain ⟨n, w', p', q', z', i1, i2, T⟩ := ih u.length (by lia) u rfl (by lia) p2' q2' true
   refine ⟨n + 1, w', p', q', z', .step hb e (by rw [← hu']; exact i1), i2, fun c hc hsc => ?_⟩
   have T := T c hc hsc
   show Turns c _ _ _ _ _ _ _ _
   refine' turns_contW ev_true ?h4 ?h5 ?h6 T
   case h4 => walk_at "m sxs"
   case h5 => exact ⟨rfl, trivial⟩
   case h6 => rfl
  | false =>
   rw [e] at C
   have h2 := hf e
   have hyc : y = Stm.mk w y.cursor w.length 0 y.bra y.ket (.all pV p1 p2 z) := by
    obtain ⟨a, b, d, f, g, i, j⟩ := y
    obtain ⟨x1, x2, x3, x4⟩ := h2
    dsimp only at x1 x2 x3 x4 ⊢
    subst x1
    rw [x2, x3, x4]
   generalize y.cursor = cu at *
   generalize y.bra = p2' at *
   generalize y.ket = q2' at *
   rw [hyc] at C
   refine ⟨0, w, p2', q2', z, .stop hb e, hz, fun c hc hsc => ?_⟩
   show Turns c _ _ _ _ _ _ _ _
   have e0 : (Stm.mk w ((w.length : Int) - ((w.length : Int) - w.length)) w.length 0 p2' q2' (.all pV p1 p2 z)) = Stm.mk w w.length w.length 0 p2' q2' (.all pV p1 p2 z) := by
    rw [show ((w.length : Int) - ((w.length : Int) - w.length)) = w.length by lia]
   refine' Turns.brk ev_true (sx_wcast ?h7 ?h8 ?h9)
   case h7 => walk_at "m sxs"
   case h8 => exact ⟨rfl, trivial⟩
   case h9 => rw [e0]
end
/-! ### plain endings -/
noncomputable def sigT : Nat := 539
noncomputable def lastT (w : List Nat) (n : Nat) : Bool := match n with
 | 0 => false
 | n + 1 => match w[n]? with
  | some k => Nat.beq k sigT
  | none => false
noncomputable def stdW (p2 : Int) (w : List Nat) : Option Row4 → List Nat
 | none => w
 | some r => if p2 ≤ w.length - r.s.length then (if r.res = 1 then w.take (w.length - r.s.length) else if r.res = 2 then (if lastT w (w.length - r.s.length) then w.take (w.length - r.s.length - 1) ++ [116] else w) else w.take (w.length - r.s.length) ++ [105, 115, 116]) else w
noncomputable def stdZ (p2 : Int) (w : List Nat) (z : Bool) : Option Row4 → Bool
 | none => z
 | some r => if p2 ≤ w.length - r.s.length then (if r.res = 2 then (if lastT w (w.length - r.s.length) then true else z) else true) else z
theorem c_standard (D : Nat) {w : List Nat} (hz : w.length ≤ 300) (p q pV p1 p2 : Int) :
  ∃ b y w' z' o, Combos p1 w false w' z' ∧ w'.length ≤ 300 ∧ BestE tab_a_4 w' o ∧ CallS (D + 4) 288 [.d 0] [(Stm.mk w w.length w.length 0 p q (.marks pV p1 p2)).o] (.b b) [y.o] ∧ Left y (stdW p2 w' o) (.all pV p1 p2 (stdZ p2 w' z' o)) := by
 obtain ⟨n, w', p', q', z', hC, hz', T⟩ := combos_turns D pV p1 p2 w.length w rfl hz p q false
 have body : ∀ {v : V} {y : Stm}, (∀ c : Cx, c.OK (D + 4) → c.scope = defScope (cst 6 12) → ∃ o loc'', retOf o = some v ∧ Sx c (execs ((defBody (cst 6 12)).drop 2) c.env) [(kS "self", .d 0)] [(Stm.mk w' w'.length w'.length 0 p' q' (.all pV p1 p2 z')).o] o loc'' [y.o]) →
   CallS (D + 4) 288 [.d 0] [(Stm.mk w w.length w.length 0 p q (.marks pV p1 p2)).o] v [y.o] := by
  intro v y K
  refine call_body fn288 rfl fun c hc hsc => ?_
  have L := T c hc hsc
  obtain ⟨o, loc'', e, R⟩ := K c hc hsc
  refine ⟨o, loc'', e, ?_⟩
  refine' sxq ?h0 (sq_next (sxq ?h1 (sq_next R)))
  case h0 => walk_at "m sx"
  case h1 => exact sx_while (n := n) L
 have hb := rwB_best (w := w') (u := w'.length) (lb := 0) ⟨by lia, by lia, by lia, by lia⟩ kk_4 (by decide)
 rw [mid_all] at hb
 cases hr : rwB w' w'.length 0 tab_a_4 with
 | none =>
  rw [hr] at hb
  refine' ⟨false, ?y1, w', z', none, hC, hz', hb, ?g1, ?l1⟩
  case g1 =>
   refine body fun c hc hsc => ?_
   walk_at "m ret"
  case l1 => exact ⟨rfl, rfl, rfl, rfl⟩
 | some r =>
  rw [hr] at hb
  have hl := hb.len
  have h1 := ckNE (by decide +kernel) r hb.1
  have h2 := ckR (a := 1) (b := 3) (by decide +kernel) r hb.1
  by_cases h3 : p2 ≤ w'.length - r.s.length
  ·have e0 : stdW p2 w' (some r) = _ := if_pos h3
   have f0 : stdZ p2 w' z' (some r) = _ := if_pos h3
   have hk : r.res = 1 ∨ r.res = 2 ∨ r.res = 3 := by lia
   rcases hk with h4 | h4 | h4
   ·rw [if_pos h4] at e0
    rw [if_neg (by lia)] at f0
    refine' ⟨true, ?y2, w', z', some r, hC, hz', hb, ?g2, ?l2⟩
    case g2 =>
     refine body fun c hc hsc => ?_
     walk_at "m ret"
    case l2 => exact ⟨(cut_end _ _ _ hl).trans ((List.append_nil _).trans e0.symm), rfl, rfl, by rw [f0]⟩
   ·rw [if_neg (by lia), if_pos h4] at e0
    rw [if_pos h4] at f0
    cases hn : w'.length - r.s.length with
    | zero =>
     rw [hn] at e0 f0
     rw [if_neg (by unfold lastT; simp)] at e0 f0
     have hle : (w'.length : Int) - r.s.length ≤ 0 := by lia
     refine' ⟨false, ?y3, w', z', some r, hC, hz', hb, ?g3, ?l3⟩
     case g3 =>
      refine body fun c hc hsc => ?_
      walk_at "m ret"
     case l3 => exact ⟨e0.symm, rfl, rfl, by rw [f0]⟩
    | succ m =>
     rw [hn] at e0 f0
     have hm : m < w'.length := by lia
     have hgt : ¬ (w'.length : Int) - r.s.length ≤ 0 := by lia
     have hi : ((w'.length : Int) - r.s.length - 1).toNat = m := by lia
     have hg : w'[m]? = some w'[m] := List.getElem?_eq_getElem hm
     generalize w'[m] = t at hg
     have hx : w'[((w'.length : Int) - r.s.length - 1).toNat]? = some t := by rw [hi]; exact hg
     have eL : lastT w' (m + 1) = Nat.beq t sigT := by unfold lastT; dsimp only; rw [hg]
     cases ht : Nat.beq t sigT with
     | true =>
      rw [eL, ht, if_pos rfl] at e0 f0
      have htt : [t] = (S "ț").cps.toList := by rw [Nat.eq_of_beq_eq_true ht]; rfl
      refine' ⟨true, ?y4, w', z', some r, hC, hz', hb, ?g4, ?l4⟩
      case g4 =>
       refine body fun c hc hsc => ?_
       walk_at "m ret"
      case l4 => exact ⟨(cut_end1 _ _ _ (by lia)).trans (by rw [e0, hn]; rfl), rfl, rfl, by rw [f0]⟩
     | false =>
      rw [eL, ht, if_neg (by decide)] at e0 f0
      have htt : [t] ≠ (S "ț").cps.toList := fun q => by
       have : t = sigT := by
        have q' : [t] = [sigT] := q
        injection q'
       rw [this] at ht; cases ht
      refine' ⟨false, ?y5, w', z', some r, hC, hz', hb, ?g5, ?l5⟩
      case g5 =>
       refine body fun c hc hsc => ?_
       walk_at "m ret"
      case l5 => exact ⟨e0.symm, rfl, rfl, by rw [f0]⟩
   ·rw [if_neg (by lia), if_neg (by lia)] at e0
    rw [if_neg (by lia)] at f0
    refine' ⟨true, ?y6, w', z', some r, hC, hz', hb, ?g6, ?l6⟩
    case g6 =>
     refine body fun c hc hsc => ?_
     walk_at "m ret"
    case l6 => exact ⟨(cut_end _ _ _ hl).trans e0.symm, rfl, rfl, by rw [f0]⟩
  ·have e0 : stdW p2 w' (some r) = w' := if_neg h3
   have f0 : stdZ p2 w' z' (some r) = z' := if_neg h3
   refine' ⟨false, ?y7, w', z', some r, hC, hz', hb, ?g7, ?l7⟩
   case g7 =>
    refine body fun c hc hsc => ?_
    walk_at "m ret"
   case l7 => exact ⟨e0.symm, rfl, rfl, by rw [f0]⟩
/-! ### the verbs' endings -/
theorem cut_end2 (w s : List Nat) (n : Nat) (h : n ≤ w.length) : cutW w ((w.length : Int) - (n : Int)) w.length s = w.take (w.length - n) ++ s := cut_end w s n h
noncomputable def verbMay (pV : Int) (w : List Nat) (n : Nat) : Bool := decide (pV < n) && (!vAt w ((n : Int) - 1) || (match w[n - 1]? with | some k => Nat.beq k 117 | none => false))
noncomputable def verbW (pV : Int) (w : List Nat) : Option Row4 → List Nat
 | none => w
 | some r => if r.res = 1 then (if verbMay pV w (w.length - r.s.length) then w.take (w.length - r.s.length) else w) else w.take (w.length - r.s.length)
theorem toNat_sub' {n : Nat} {p : Int} (h : 0 ≤ p) (h2 : p ≤ n) : ((n : Int) - p).toNat = n - p.toNat := by lia
theorem c_verb (D : Nat) {w : List Nat} (hz : w.length ≤ 390) (p q pV p1 p2 : Int) (z : Bool) (hp : 0 ≤ pV) :
  ∃ b y, CallS (D + 4) 295 [.d 0] [(Stm.mk w w.length w.length 0 p q (.all pV p1 p2 z)).o] (.b b) [y.o] ∧ (pV ≤ w.length → ∃ o, BestE tab_a_5 (midW w pV w.length) o ∧ Left y (verbW pV w o) (.all pV p1 p2 z)) ∧ (¬ pV ≤ w.length → Left y w (.all pV p1 p2 z)) := by
 by_cases hpw : pV ≤ w.length
 ·have hb := rwB_best (w := w) (u := w.length) (lb := pV) ⟨by lia, by lia, by lia, by lia⟩ kk_5 (by decide)
  have hml : (midW w pV w.length).length = w.length - pV.toNat := by
   unfold midW; rw [List.length_take, List.length_drop, toNat_sub' hp hpw, Nat.min_self]
  cases hr : rwB w w.length pV tab_a_5 with
  | none =>
   rw [hr] at hb
   refine' ⟨false, ?y1, ?g1, fun _ => ⟨none, hb, ?l1⟩, fun x => absurd hpw x⟩
   case g1 =>
    refine call_body fn295 rfl fun c hc hsc => ?_
    walk_at "m ret"
   case l1 => exact ⟨rfl, rfl, rfl, rfl⟩
  | some r =>
   rw [hr] at hb
   have hl' := hb.len
   rw [hml] at hl'
   have hl : r.s.length ≤ w.length := by lia
   have h1 := ckNE (by decide +kernel) r hb.1
   have h2 := ckR (a := 1) (b := 2) (by decide +kernel) r hb.1
   have hk : r.res = 1 ∨ r.res = 2 := by lia
   rcases hk with h4 | h4
   ·have e0 : verbW pV w (some r) = _ := if_pos h4
    have hn : ((w.length - r.s.length : Nat) : Int) = (w.length : Int) - r.s.length := by lia
    by_cases h5 : pV < (w.length : Int) - r.s.length
    ·have hm : w.length - r.s.length - 1 < w.length := by lia
     have hi : ((w.length : Int) - r.s.length - 1).toNat = w.length - r.s.length - 1 := by lia
     have hg : w[w.length - r.s.length - 1]? = some w[w.length - r.s.length - 1] := List.getElem?_eq_getElem hm
     generalize w[w.length - r.s.length - 1] = t at hg
     have hx : w[((w.length : Int) - r.s.length - 1).toNat]? = some t := by rw [hi]; exact hg
     have h5' : ¬ (w.length : Int) - r.s.length ≤ pV := by lia
     have eM : verbMay pV w (w.length - r.s.length) = (!vAt w ((w.length : Int) - r.s.length - 1) || Nat.beq t 117) := by
      unfold verbMay
      rw [hn, decide_eq_true h5, hg]
      rfl
     cases hv : vAt w ((w.length : Int) - r.s.length - 1) with
     | false =>
      replace e0 := e0.trans (if_pos (by rw [eM, hv]; rfl))
      refine' ⟨true, ?y2, ?g2, fun _ => ⟨some r, hb, ?l2⟩, fun x => absurd hpw x⟩
      case g2 =>
       refine call_body fn295 rfl fun c hc hsc => ?_
       walk_at "m ret"
      case l2 => exact ⟨(cut_end _ _ _ hl).trans ((List.append_nil _).trans e0.symm), rfl, rfl, rfl⟩
     | true =>
      cases ht : Nat.beq t 117 with
      | true =>
       replace e0 := e0.trans (if_pos (by rw [eM, hv, ht]; rfl))
       have htt : [t] = (S "u").cps.toList := by rw [Nat.eq_of_beq_eq_true ht]; rfl
       refine' ⟨true, ?y3, ?g3, fun _ => ⟨some r, hb, ?l3⟩, fun x => absurd hpw x⟩
       case g3 =>
        refine call_body fn295 rfl fun c hc hsc => ?_
        walk_at "m ret"
       case l3 => exact ⟨(cut_end _ _ _ hl).trans ((List.append_nil _).trans e0.symm), rfl, rfl, rfl⟩
      | false =>
       replace e0 := e0.trans (if_neg (by rw [eM, hv, ht]; decide))
       have htt : [t] ≠ (S "u").cps.toList := fun q => by
        have : t = 117 := by
         have q' : [t] = [117] := q
         injection q'
        rw [this] at ht; cases ht
       refine' ⟨false, ?y4, ?g4, fun _ => ⟨some r, hb, ?l4⟩, fun x => absurd hpw x⟩
       case g4 =>
        refine call_body fn295 rfl fun c hc hsc => ?_
        walk_at "m ret"
       case l4 => exact ⟨e0.symm, rfl, rfl, rfl⟩
    ·have h5' : (w.length : Int) - r.s.length ≤ pV := by lia
     have eM : verbMay pV w (w.length - r.s.length) = false := by
      unfold verbMay
      rw [hn, decide_eq_false h5]
      rfl
     rw [eM, if_neg (by decide)] at e0
     refine' ⟨false, ?y5, ?g5, fun _ => ⟨some r, hb, ?l5⟩, fun x => absurd hpw x⟩
     case g5 =>
      refine call_body fn295 rfl fun c hc hsc => ?_
      walk_at "m ret"
     case l5 => exact ⟨e0.symm, rfl, rfl, rfl⟩
   ·have e0 : verbW pV w (some r) = _ := if_neg (by lia)
    refine' ⟨true, ?y6, ?g6, fun _ => ⟨some r, hb, ?l6⟩, fun x => absurd hpw x⟩
    case g6 =>
     refine call_body fn295 rfl fun c hc hsc => ?_
     walk_at "m ret"
    case l6 => exact ⟨(cut_end _ _ _ hl).trans ((List.append_nil _).trans e0.symm), rfl, rfl, rfl⟩
 ·refine' ⟨false, ?y7, ?g7, fun x => absurd x hpw, fun _ => ?l7⟩
  case g7 =>
   refine call_body fn295 rfl fun c hc hsc => ?_
   walk_at "m ret"
  case l7 => exact ⟨rfl, rfl, rfl, rfl⟩
section
/-! ### the regions -/
noncomputable def pVF (w : List Nat) : Int :=
 let L : Int := w.length
 if 1 < L then
  if vAt w 1 then
   if vAt w 0 then (if scan w 2 L vw < L then scan w 2 L vw + 1 else L) else (if 2 < L then 3 else L)
  else (if scan w 2 L nvw < L then scan w 2 L nvw + 1 else L)
 else L
noncomputable def tryV : List Stmt := (defBody (cst 6 7)).drop 4
local macro_rules | `(tactic| walk_at "m one") => wF "~h1 h2 h3|h1=sx h2=sub h3=r|sx_wcast"
theorem mark_V (c : Cx) {D : Nat} (hc : c.OK (D + 1)) (hsc : c.scope = defScope (cst 6 7)) {w : List Nat} (hz : w.length ≤ 300) (p q p1 p2 : Int) {o : Out} {loc₂ : Ls} {sto₂ : Sto}
  (rest : ∀ u, Sx c (execs ((defBody (cst 6 7)).drop 5) c.env) [(kS "self", .d 0), (kS "v_1", .i 0)] [(Stm.mk w u w.length 0 p q (.marks (pVF w) p1 p2)).o] o loc₂ sto₂) :
  Sx c (execs tryV c.env) [(kS "self", .d 0), (kS "v_1", .i 0)] [(Stm.mk w 0 w.length 0 p q (.marks w.length p1 p2)).o] o loc₂ sto₂ := by
 have hB : ∀ u : Int, 0 ≤ u → bet u w.length w := fun u h => ⟨h, by lia, by lia⟩
 by_cases h1 : 1 < (w.length : Int)
 ·cases hv1 : vAt w 1 with
  | true =>
   cases hv0 : vAt w 0 with
   | true =>
    have hle := scan_le (w := w) (u := 2) (l := w.length) (hB 2 (by lia)) (by lia) vw
    have hge := scan_ge w 2 w.length vw
    by_cases h2 : scan w 2 w.length vw < w.length
    ·have e : pVF w = scan w 2 w.length vw + 1 := by unfold pVF; dsimp only; rw [if_pos h1, hv1, if_pos rfl, hv0, if_pos rfl, if_pos h2]
     rw [e] at rest
     refine' sxq ?s1 (sq_next (rest ?u1))
     case s1 => walk_at "m one"
    ·have e : pVF w = w.length := by unfold pVF; dsimp only; rw [if_pos h1, hv1, if_pos rfl, hv0, if_pos rfl, if_neg h2]
     rw [e] at rest
     refine' sxq ?s2 (sq_next (rest ?u2))
     case s2 => walk_at "m one"
   | false =>
    by_cases h2 : 2 < (w.length : Int)
    ·have e : pVF w = 3 := by unfold pVF; dsimp only; rw [if_pos h1, hv1, if_pos rfl, hv0, if_neg (by decide), if_pos h2]
     rw [e] at rest
     refine' sxq ?s3 (sq_next (rest ?u3))
     case s3 => walk_at "m one"
    ·have e : pVF w = w.length := by unfold pVF; dsimp only; rw [if_pos h1, hv1, if_pos rfl, hv0, if_neg (by decide), if_neg h2]
     rw [e] at rest
     refine' sxq ?s4 (sq_next (rest ?u4))
     case s4 => walk_at "m one"
  | false =>
   have hle := scan_le (w := w) (u := 2) (l := w.length) (hB 2 (by lia)) (by lia) nvw
   have hge := scan_ge w 2 w.length nvw
   by_cases h2 : scan w 2 w.length nvw < w.length
   ·have e : pVF w = scan w 2 w.length nvw + 1 := by unfold pVF; dsimp only; rw [if_pos h1, hv1, if_neg (by decide), if_pos h2]
    rw [e] at rest
    cases hv0 : vAt w 0 with
    | true =>
     refine' sxq ?s5 (sq_next (rest ?u5))
     case s5 => walk_at "m one"
    | false =>
     refine' sxq ?s6 (sq_next (rest ?u6))
     case s6 => walk_at "m one"
   ·have e : pVF w = w.length := by unfold pVF; dsimp only; rw [if_pos h1, hv1, if_neg (by decide), if_neg h2]
    rw [e] at rest
    cases hv0 : vAt w 0 with
    | true =>
     refine' sxq ?s7 (sq_next (rest ?u7))
     case s7 => walk_at "m one"
    | false =>
     refine' sxq ?s8 (sq_next (rest ?u8))
     case s8 => walk_at "m one"
 ·have e : pVF w = w.length := by unfold pVF; dsimp only; rw [if_neg h1]
  rw [e] at rest
  by_cases h0 : 0 < (w.length : Int)
  ·cases hv0 : vAt w 0 with
   | true =>
    refine' sxq ?s9 (sq_next (rest ?u9))
    case s9 => walk_at "m one"
   | false =>
    refine' sxq ?s10 (sq_next (rest ?u10))
    case s10 => walk_at "m one"
  ·refine' sxq ?s11 (sq_next (rest ?u11))
   case s11 => walk_at "m one"
noncomputable def p1F (w : List Nat) : Int :=
 let L : Int := w.length
 if scan w 0 L nvw < L then (if scan w (scan w 0 L nvw + 1) L vw < L then scan w (scan w 0 L nvw + 1) L vw + 1 else L) else L
noncomputable def p2F (w : List Nat) : Int :=
 let L : Int := w.length
 if p1F w < L ∨ (scan w 0 L nvw < L ∧ scan w (scan w 0 L nvw + 1) L vw < L) then
  (if scan w (p1F w) L nvw < L then (if scan w (scan w (p1F w) L nvw + 1) L vw < L then scan w (scan w (p1F w) L nvw + 1) L vw + 1 else L) else L)
 else L
local macro_rules | `(tactic| walk_at "m fin") => wF "~h1 h2 h3|h1=sxs h2=sub h3=r|sx_wcast"
theorem mark_12 (c : Cx) {D : Nat} (hc : c.OK (D + 1)) (hsc : c.scope = defScope (cst 6 7)) {w : List Nat} (hz : w.length ≤ 300) (p q a u : Int) :
  Sx c (execs ((defBody (cst 6 7)).drop 5) c.env) [(kS "self", .d 0), (kS "v_1", .i 0)] [(Stm.mk w u w.length 0 p q (.marks a w.length w.length)).o] (.ret (.b true)) [] [(Stm.mk w 0 w.length 0 p q (.marks a (p1F w) (p2F w))).o] := by
 have hB : ∀ u : Int, 0 ≤ u → bet u w.length w := fun u h => ⟨h, by lia, by lia⟩
 have g1 := scan_ge w 0 w.length nvw
 have l1 := scan_le (w := w) (u := 0) (l := w.length) (hB 0 (by lia)) (by lia) nvw
 by_cases h1 : scan w 0 w.length nvw < w.length
 ·generalize hs1 : scan w 0 w.length nvw = s1 at *
  have g2 := scan_ge w (s1 + 1) w.length vw
  have l2 := scan_le (w := w) (u := s1 + 1) (l := w.length) (hB _ (by lia)) (by lia) vw
  by_cases h2 : scan w (s1 + 1) w.length vw < w.length
  ·have e1 : p1F w = scan w (s1 + 1) w.length vw + 1 := by unfold p1F; dsimp only; rw [hs1, if_pos h1, if_pos h2]
   have c2 : p1F w < (w.length : Int) ∨ (scan w 0 w.length nvw < w.length ∧ scan w (scan w 0 w.length nvw + 1) w.length vw < w.length) := by rw [hs1]; exact .inr ⟨h1, h2⟩
   generalize hs2 : scan w (s1 + 1) w.length vw = s2 at *
   have g3 := scan_ge w (s2 + 1) w.length nvw
   have l3 := scan_le (w := w) (u := s2 + 1) (l := w.length) (hB _ (by lia)) (by lia) nvw
   by_cases h3 : scan w (s2 + 1) w.length nvw < w.length
   ·generalize hs3 : scan w (s2 + 1) w.length nvw = s3 at *
    have g4 := scan_ge w (s3 + 1) w.length vw
    have l4 := scan_le (w := w) (u := s3 + 1) (l := w.length) (hB _ (by lia)) (by lia) vw
    by_cases h4 : scan w (s3 + 1) w.length vw < w.length
    ·have e2 : p2F w = scan w (s3 + 1) w.length vw + 1 := by unfold p2F; dsimp only; rw [if_pos c2, e1, hs3, if_pos h3, if_pos h4]
     rw [e1, e2]
     generalize hs4 : scan w (s3 + 1) w.length vw = s4 at *
     have h1' : scan w 0 w.length nvw < w.length := by lia
     have h2' : scan w (scan w 0 w.length nvw + 1) w.length vw < w.length := by rw [hs1]; lia
     have h3' : scan w (scan w (scan w 0 w.length nvw + 1) w.length vw + 1) w.length nvw < w.length := by rw [hs1, hs2]; lia
     have h4' : scan w (scan w (scan w (scan w 0 w.length nvw + 1) w.length vw + 1) w.length nvw + 1) w.length vw < w.length := by rw [hs1, hs2, hs3]; lia
     subst hs4; subst hs3; subst hs2; subst hs1
     walk_at "m fin"
    ·have e2 : p2F w = w.length := by unfold p2F; dsimp only; rw [if_pos c2, e1, hs3, if_pos h3, if_neg h4]
     rw [e1, e2]
     subst hs3; subst hs2; subst hs1
     walk_at "m fin"
   ·have e2 : p2F w = w.length := by unfold p2F; dsimp only; rw [if_pos c2, e1, if_neg h3]
    rw [e1, e2]
    subst hs2; subst hs1
    walk_at "m fin"
  ·have e1 : p1F w = w.length := by unfold p1F; dsimp only; rw [hs1, if_pos h1, if_neg h2]
   have c2 : ¬ (p1F w < (w.length : Int) ∨ (scan w 0 w.length nvw < w.length ∧ scan w (scan w 0 w.length nvw + 1) w.length vw < w.length)) := by
    rw [hs1, e1]
    rintro (x | x)
    ·exact absurd x (Int.lt_irrefl _)
    ·exact h2 x.2
   have e2 : p2F w = w.length := by unfold p2F; dsimp only; rw [if_neg c2]
   rw [e1, e2]
   subst hs1
   walk_at "m fin"
 ·have e1 : p1F w = w.length := by unfold p1F; dsimp only; rw [if_neg h1]
  have c2 : ¬ (p1F w < (w.length : Int) ∨ (scan w 0 w.length nvw < w.length ∧ scan w (scan w 0 w.length nvw + 1) w.length vw < w.length)) := by
   rw [e1]
   rintro (x | x)
   ·exact absurd x (Int.lt_irrefl _)
   ·exact h1 x.1
  have e2 : p2F w = w.length := by unfold p2F; dsimp only; rw [if_neg c2]
  rw [e1, e2]
  walk_at "m fin"
section
local macro_rules | `(tactic| walk_at "m sx") => wF "hc hcomp h ho ek ok hz|hc=a hcomp=r h=ev ho=ev ek=r ok=t4 hz=t27|sx_assign_attr"
theorem c_mark (D : Nat) {w : List Nat} (hz : w.length ≤ 300) (p q : Int) : CallS (D + 1) 253 [.d 0] [(Stm.mk w 0 w.length 0 p q .none).o] (.b true) [(Stm.mk w 0 w.length 0 p q (.marks (pVF w) (p1F w) (p2F w))).o] := by
 refine call_body fn253 rfl fun c hc hsc => ⟨.ret (.b true), [], rfl, ?_⟩
 have K := mark_V c hc hsc hz p q w.length w.length (fun u => mark_12 c hc hsc hz p q (pVF w) u)
 refine' sxq ?s0 (sq_next (sxq ?s1 (sq_next (sxq (sx_cast (sto₂ := [(Stm.mk w 0 w.length 0 p q (.marks w.length w.length w.length)).o]) ?s2 ?e1 ?e2) (sq_next (sxq (sx_cast (loc₂ := [(kS "self", .d 0), (kS "v_1", .i 0)]) ?s3 ?e3 ?e4) (sq_next K)))))))
 case s0 => walk_at "m sx"
 case s1 => walk_at "m sx"
 case s2 => walk_at "m sx"
 case e1 => rfl
 case e2 => rfl
 case s3 => walk_at "m sx"
 case e3 => rfl
 case e4 => rfl
end
end
section
theorem stm_eq {w w' : List Nat} {u u' l l' lb lb' p p' q q' : Int} {ex : Ex} (h1 : w = w') (h2 : u = u') (h3 : l = l') (h4 : lb = lb') (h5 : p = p') (h6 : q = q') : [(Stm.mk w u l lb p q ex).o] = [(Stm.mk w' u' l' lb' p' q' ex).o] := by
 subst h1; subst h2; subst h3; subst h4; subst h5; subst h6; rfl
theorem cut1 {w : List Nat} {u : Nat} (h : u < w.length) (x : Nat) : cutW w u ((u : Int) + 1) [x] = w.set u x := by
 unfold cutW
 rw [show (u : Int).toNat = u by lia, show ((u : Int) + 1).toNat = u + 1 by lia, List.set_eq_take_append_cons_drop, if_pos h, List.append_assoc]
 rfl
/-! ### postlude: the marks told back -/
noncomputable def postC (a : Nat) : Nat := bif Nat.beq a 73 then 105 else bif Nat.beq a 85 then 117 else a
theorem mem1 {r : Row4} (h : r ∈ tab_a_1) : r = ⟨319, [], -1, 3⟩ ∨ r = ⟨322, [73], 0, 1⟩ ∨ r = ⟨325, [85], 0, 2⟩ := by
 unfold tab_a_1 at h; simpa using h
theorem row1_some {T : List Nat} {o : Option Row4} (h : BestP tab_a_1 T o) : ∃ r, o = some r := by
 cases o with
 | some r => exact ⟨r, rfl⟩
 | none =>
  have := h ⟨319, [], -1, 3⟩ (by unfold tab_a_1; simp)
  rw [show (⟨319, [], -1, 3⟩ : Row4).s = [] from rfl, preB_nil] at this; cases this
theorem row1_I {T : List Nat} {r : Row4} (h : BestP tab_a_1 (73 :: T) (some r)) : r.res = 1 ∧ r.s.length = 1 := by
 obtain ⟨hm, hp, hx⟩ := h
 have h1 := hx ⟨322, [73], 0, 1⟩ (by unfold tab_a_1; simp) rfl
 rcases mem1 hm with rfl | rfl | rfl
 ·exact absurd h1 (by decide)
 ·exact ⟨rfl, rfl⟩
 ·exact absurd (show preB [85] (73 :: T) = true from hp) (by simp [preB])
theorem row1_U {T : List Nat} {r : Row4} (h : BestP tab_a_1 (85 :: T) (some r)) : r.res = 2 ∧ r.s.length = 1 := by
 obtain ⟨hm, hp, hx⟩ := h
 have h1 := hx ⟨325, [85], 0, 2⟩ (by unfold tab_a_1; simp) rfl
 rcases mem1 hm with rfl | rfl | rfl
 ·exact absurd h1 (by decide)
 ·exact absurd (show preB [73] (85 :: T) = true from hp) (by simp [preB])
 ·exact ⟨rfl, rfl⟩
theorem row1_o {T : List Nat} {r : Row4} (h : BestP tab_a_1 T (some r)) (hI : ∀ T', T ≠ 73 :: T') (hU : ∀ T', T ≠ 85 :: T') : r.res = 3 ∧ r.s.length = 0 := by
 obtain ⟨hm, hp, hx⟩ := h
 rcases mem1 hm with rfl | rfl | rfl
 ·exact ⟨rfl, rfl⟩
 ·cases T with
  | nil => cases hp
  | cons a T =>
   rw [show (⟨322, [73], 0, 1⟩ : Row4).s = [73] from rfl, preB_cons] at hp
   exact absurd (by rw [hp.1]) (hI T)
 ·cases T with
  | nil => cases hp
  | cons a T =>
   rw [show (⟨325, [85], 0, 2⟩ : Row4).s = [85] from rfl, preB_cons] at hp
   exact absurd (by rw [hp.1]) (hU T)
theorem mem0 {r : Row4} (h : r ∈ tab_a_0) : r = ⟨311, [351], -1, 1⟩ ∨ r = ⟨314, [355], -1, 2⟩ := by
 unfold tab_a_0 at h; simpa using h
theorem row0_s {T : List Nat} {o : Option Row4} (h : BestP tab_a_0 (351 :: T) o) : ∃ r, o = some r ∧ r.res = 1 ∧ r.s.length = 1 := by
 cases o with
 | none => exact absurd (h ⟨311, [351], -1, 1⟩ (by unfold tab_a_0; simp)) (by simp [preB])
 | some r =>
  refine ⟨r, rfl, ?_⟩
  obtain ⟨hm, hp, hx⟩ := h
  rcases mem0 hm with rfl | rfl
  ·exact ⟨rfl, rfl⟩
  ·exact absurd (show preB [355] (351 :: T) = true from hp) (by simp [preB])
theorem row0_t {T : List Nat} {o : Option Row4} (h : BestP tab_a_0 (355 :: T) o) : ∃ r, o = some r ∧ r.res = 2 ∧ r.s.length = 1 := by
 cases o with
 | none => exact absurd (h ⟨314, [355], -1, 2⟩ (by unfold tab_a_0; simp)) (by simp [preB])
 | some r =>
  refine ⟨r, rfl, ?_⟩
  obtain ⟨hm, hp, hx⟩ := h
  rcases mem0 hm with rfl | rfl
  ·exact absurd (show preB [351] (355 :: T) = true from hp) (by simp [preB])
  ·exact ⟨rfl, rfl⟩
theorem row0_o {T : List Nat} {o : Option Row4} (h : BestP tab_a_0 T o) (hI : ∀ T', T ≠ 351 :: T') (hU : ∀ T', T ≠ 355 :: T') : o = none := by
 cases o with
 | none => rfl
 | some r =>
  obtain ⟨hm, hp, hx⟩ := h
  rcases mem0 hm with rfl | rfl
  ·cases T with
   | nil => cases hp
   | cons a T =>
    rw [show (⟨311, [351], -1, 1⟩ : Row4).s = [351] from rfl, preB_cons] at hp
    exact absurd (by rw [hp.1]) (hI T)
  ·cases T with
   | nil => cases hp
   | cons a T =>
    rw [show (⟨314, [355], -1, 2⟩ : Row4).s = [355] from rfl, preB_cons] at hp
    exact absurd (by rw [hp.1]) (hU T)
noncomputable def w260 : Stmt := nthS (defBody (cst 6 8)) 0
theorem rest_drop (w : List Nat) (u : Nat) : (w.drop (u : Int).toNat).take (((w.length : Nat) : Int) - (u : Int)).toNat = w.drop u := by
 rw [show (u : Int).toNat = u by lia, show (((w.length : Nat) : Int) - (u : Int)).toNat = w.length - u by lia]
 exact List.take_of_length_le (by rw [List.length_drop]; exact Nat.le_refl _)
theorem set_len (w : List Nat) (u x : Nat) : (w.set u x).length = w.length := by simp
theorem postC_I : postC 73 = 105 := by decide
theorem postC_U : postC 85 = 117 := by decide
theorem post_turns (D : Nat) (ex : Ex) : ∀ (k : Nat) (w : List Nat) (u : Nat), w.length - u = k → u ≤ w.length → w.length ≤ 390 → ∀ (p q : Int),
  ∃ n u' p' q', ∀ (c : Cx), c.OK (D + 2) → c.scope = defScope (cst 6 8) → Lp c w260 n [(kS "self", .d 0)] [(Stm.mk w u w.length 0 p q ex).o] .next [(kS "self", .d 0)] [(Stm.mk (w.take u ++ (w.drop u).map postC) u' w.length 0 p' q' ex).o] := by
 intro k
 induction k with
 | zero =>
  intro w u hk hu hz p q
  obtain rfl : u = w.length := by lia
  have hb := rwF_best (w := w) (u := (w.length : Int)) (l := w.length) (t := tab_a_1) ⟨by lia, by lia, by lia⟩ (Int.le_refl _) kk_1 (by decide)
  rw [rest_drop, List.drop_length] at hb
  obtain ⟨r, hr⟩ := row1_some hb
  rw [hr] at hb
  obtain ⟨e1, e2⟩ := row1_o hb (by intro _ q; cases q) (by intro _ q; cases q)
  refine' ⟨0, w.length, w.length, w.length + r.s.length, fun c hc hsc => ?g0⟩
  case g0 =>
   show Turns c _ _ _ _ _ _ _ _
   refine' Turns.brk ev_true (sx_wcast ?h1 ?h2 ?h3)
   case h1 => walk_at "m sxs"
   case h2 => exact ⟨rfl, trivial⟩
   case h3 => exact stm_eq (by simp) rfl rfl rfl rfl rfl
 | succ k ih =>
  intro w u hk hu hz p q
  have hlt : u < w.length := by lia
  have hb := rwF_best (w := w) (u := (u : Int)) (l := w.length) (t := tab_a_1) ⟨by lia, by lia, by lia⟩ (by lia) kk_1 (by decide)
  rw [rest_drop, List.drop_eq_getElem_cons hlt] at hb
  obtain ⟨r, hr⟩ := row1_some hb
  rw [hr] at hb
  have hlI : ((PySem.Str.ofString "i").cps.toList.length : Int) = 1 := by decide +kernel
  have hlU : ((PySem.Str.ofString "u").cps.toList.length : Int) = 1 := by decide +kernel
  have hnI : (PySem.Str.ofString "i").cps.toList.length ≤ 400 := by decide +kernel
  have hnU : (PySem.Str.ofString "u").cps.toList.length ≤ 400 := by decide +kernel
  have fin : ∀ x, postC w[u] = x → (w.set u x).take (u + 1) ++ ((w.set u x).drop (u + 1)).map postC = w.take u ++ (w.drop u).map postC := fun x hx => by
   rw [List.drop_eq_getElem_cons hlt, List.map_cons, hx, List.drop_set, if_pos (by lia), List.take_set, List.take_succ_eq_append_getElem hlt, List.set_append_right _ _ (by rw [List.length_take]; lia)]
   rw [List.length_take, Nat.min_eq_left (Nat.le_of_lt hlt), Nat.sub_self]
   simp
  by_cases hI : w[u] = 73
  ·rw [hI] at hb
   obtain ⟨e1, e2⟩ := row1_I hb
   obtain ⟨n, u', p', q', T⟩ := ih (w.set u 105) (u + 1) (by simp; lia) (by simp; lia) (by simp; lia) u (u + 1)
   refine ⟨n + 1, u', p', q', fun c hc hsc => ?_⟩
   have T := T c hc hsc
   rw [fin 105 (by rw [hI]; exact postC_I), set_len] at T
   show Turns c _ _ _ _ _ _ _ _
   refine' turns_contW ev_true ?h1 ?h2 ?h3 T
   case h1 => walk_at "m sxs"
   case h2 => exact ⟨rfl, trivial⟩
   case h3 =>
    have ec : cutW w (u : Int) ((u : Int) + r.s.length) (S "i").cps.toList = w.set u 105 := by rw [e2]; exact cut1 hlt 105
    exact stm_eq ec (by lia) (by rw [ec, set_len]) rfl rfl (by lia)
  ·by_cases hU : w[u] = 85
   ·rw [hU] at hb
    obtain ⟨e1, e2⟩ := row1_U hb
    obtain ⟨n, u', p', q', T⟩ := ih (w.set u 117) (u + 1) (by simp; lia) (by simp; lia) (by simp; lia) u (u + 1)
    refine ⟨n + 1, u', p', q', fun c hc hsc => ?_⟩
    have T := T c hc hsc
    rw [fin 117 (by rw [hU]; exact postC_U), set_len] at T
    show Turns c _ _ _ _ _ _ _ _
    refine' turns_contW ev_true ?h12 ?h22 ?h32 T
    case h12 => walk_at "m sxs"
    case h22 => exact ⟨rfl, trivial⟩
    case h32 =>
     have ec : cutW w (u : Int) ((u : Int) + r.s.length) (S "u").cps.toList = w.set u 117 := by rw [e2]; exact cut1 hlt 117
     exact stm_eq ec (by lia) (by rw [ec, set_len]) rfl rfl (by lia)
   ·obtain ⟨e1, e2⟩ := row1_o hb (by intro _ q; injection q; contradiction) (by intro _ q; injection q; contradiction)
    obtain ⟨n, u', p', q', T⟩ := ih w (u + 1) (by lia) (by lia) hz u u
    refine ⟨n + 1, u', p', q', fun c hc hsc => ?_⟩
    have T := T c hc hsc
    have f2 := fin w[u] (by unfold postC; rw [beq_ne.mpr hI, beq_ne.mpr hU]; rfl)
    rw [List.set_getElem_self] at f2
    rw [f2] at T
    show Turns c _ _ _ _ _ _ _ _
    refine' turns_contW ev_true ?h13 ?h23 ?h33 T
    case h13 => walk_at "m sxs"
    case h23 => exact ⟨rfl, trivial⟩
    case h33 => exact stm_eq rfl (by lia) rfl rfl rfl (by lia)
local macro_rules | `(tactic| walk_at "m while") => wF "~x0|x0=a|sx_while"
theorem c_post (D : Nat) {w : List Nat} (hz : w.length ≤ 390) (p q : Int) (ex : Ex) : ∃ u' p' q', CallS (D + 2) 260 [.d 0] [(Stm.mk w 0 w.length 0 p q ex).o] (.b true) [(Stm.mk (w.map postC) u' w.length 0 p' q' ex).o] := by
 obtain ⟨n, u', p', q', T⟩ := post_turns D ex w.length w 0 (by lia) (by lia) hz p q
 refine ⟨u', p', q', call_body fn260 rfl fun c hc hsc => ?_⟩
 have T := T c hc hsc
 rw [List.take_zero, List.drop_zero, List.nil_append] at T
 refine' out_ret (sxq ?h0 (sq_next ?h1)) ?h2 ?h3
 case h0 => exact sx_while (n := n) T
 case h1 => walk_at "m sxs"
 case h2 => rfl
 case h3 => rfl
end
section
/-! ### norm: the cedillas made commas -/
noncomputable def ced (a : Nat) : Bool := Nat.beq a 351 || Nat.beq a 355
noncomputable def cedF (a : Nat) : Nat := bif Nat.beq a 351 then 537 else bif Nat.beq a 355 then 539 else a
theorem cedF_id {a : Nat} (h : ced a = false) : cedF a = a := by
 unfold ced at h
 unfold cedF
 rw [Bool.or_eq_false_iff] at h
 rw [h.1, h.2]; rfl
theorem cedF_no (a : Nat) : ced (cedF a) = false := by
 unfold cedF
 cases h1 : Nat.beq a 351 with
 | true => rfl
 | false =>
  cases h2 : Nat.beq a 355 with
  | true => rfl
  | false => unfold ced; simp only [cond_false]; rw [h1, h2]; rfl
theorem ced_or {a : Nat} (h : ced a = true) : a = 351 ∨ a = 355 := by
 unfold ced at h
 rw [Bool.or_eq_true, beq_eq, beq_eq] at h
 exact h
noncomputable def wNA : Stmt := match nthS (defBody (cst 6 5)) 1 with
 | .Try b _ _ _ _ => nthS b 0
 | s => s
noncomputable def wNB : Stmt := match nthS (whBody wNA) 1 with
 | .Try b _ _ _ _ => nthS b 0
 | s => s
noncomputable def lN (a b : V) : Ls := [(kS "self", .d 0), (kS "v_1", a), (kS "v_2", b)]
section
local macro_rules | `(tactic| walk_at "m ev") => wF "hc hi h g q h0 h1 hx|hc=a hi=r h=ev g=ev q=isT h0=o h1=o hx=a|ev_sub_tup"
theorem norm_B (D : Nat) (ex : Ex) : ∀ (k : Nat) (w : List Nat) (u : Nat), w.length - u = k → u ≤ w.length → w.length ≤ 300 → ∀ (p q : Int),
  (∃ (u' : Nat) (hu' : u' < w.length) (n : Nat) (p' q' : Int), ced w[u'] = true ∧ u ≤ u' ∧ (∀ i (hi : i < w.length), u ≤ i → i < u' → ced w[i] = false) ∧ ∀ (c : Cx), c.OK (D + 2) → c.scope = defScope (cst 6 5) → ∀ a b, Lp c wNB n (lN a b) [(Stm.mk w u w.length 0 p q ex).o] .next (lN a b) [(Stm.mk (w.set u' (cedF w[u'])) u' w.length 0 p' q' ex).o]) ∨
  ((∀ i (hi : i < w.length), u ≤ i → ced w[i] = false) ∧ ∃ (n : Nat) (p' q' : Int), ∀ (c : Cx), c.OK (D + 2) → c.scope = defScope (cst 6 5) → ∀ a b, Lp c wNB n (lN a b) [(Stm.mk w u w.length 0 p q ex).o] (.exc 1030) (lN a b) [(Stm.mk w w.length w.length 0 p' q' ex).o]) := by
 intro k
 induction k with
 | zero =>
  intro w u hk hu hz p q
  obtain rfl : u = w.length := by lia
  have hb := rwF_best (w := w) (u := (w.length : Int)) (l := w.length) (t := tab_a_0) ⟨by lia, by lia, by lia⟩ (Int.le_refl _) kk_0 (by decide)
  rw [rest_drop, List.drop_length] at hb
  have hr := row0_o hb (by intro _ q; cases q) (by intro _ q; cases q)
  refine .inr ⟨fun i hi h => absurd hi (by lia), 0, w.length, q, fun c hc hsc a b => ?_⟩
  show Turns c _ _ _ _ _ _ _ _
  refine' Turns.exc ev_true (sx_wcast ?h1 ?h2 ?h3)
  case h1 => walk_at "m sxs"
  case h2 => exact ⟨rfl, rfl, rfl, trivial⟩
  case h3 => rfl
 | succ k ih =>
  intro w u hk hu hz p q
  have hlt : u < w.length := by lia
  have hb := rwF_best (w := w) (u := (u : Int)) (l := w.length) (t := tab_a_0) ⟨by lia, by lia, by lia⟩ (by lia) kk_0 (by decide)
  rw [rest_drop, List.drop_eq_getElem_cons hlt] at hb
  cases hcd : ced w[u] with
  | true =>
   refine .inl ⟨u, hlt, 0, u, u + 1, hcd, Nat.le_refl _, fun i hi h1 h2 => absurd h2 (by lia), fun c hc hsc a b => ?_⟩
   have hst := stT_of (ck_as_0 c.w.params)
   rcases ced_or hcd with hI | hI
   ·rw [hI] at hb
    obtain ⟨r, hr, e1, e2⟩ := row0_s hb
    have hx : (tab_as_0.map V.s)[(r.res - 1).toNat]? = some (.s [537]) := by rw [e1]; rfl
    have ec : cutW w (u : Int) ((u : Int) + r.s.length) [537] = w.set u 537 := by rw [e2]; exact cut1 hlt 537
    have ef : cedF w[u] = 537 := by rw [hI]; decide
    rw [ef]
    show Turns c _ _ _ _ _ _ _ _
    refine' Turns.brk ev_true (sx_wcast ?h12 ?h22 ?h32)
    case h12 => walk_at "m sxs"
    case h22 => exact ⟨rfl, rfl, rfl, trivial⟩
    case h32 => exact stm_eq ec rfl (by rw [ec, set_len]) rfl rfl (by simp)
   ·rw [hI] at hb
    obtain ⟨r, hr, e1, e2⟩ := row0_t hb
    have hx : (tab_as_0.map V.s)[(r.res - 1).toNat]? = some (.s [539]) := by rw [e1]; rfl
    have ec : cutW w (u : Int) ((u : Int) + r.s.length) [539] = w.set u 539 := by rw [e2]; exact cut1 hlt 539
    have ef : cedF w[u] = 539 := by rw [hI]; decide
    rw [ef]
    show Turns c _ _ _ _ _ _ _ _
    refine' Turns.brk ev_true (sx_wcast ?h13 ?h23 ?h33)
    case h13 => walk_at "m sxs"
    case h23 => exact ⟨rfl, rfl, rfl, trivial⟩
    case h33 => exact stm_eq ec rfl (by rw [ec, set_len]) rfl rfl (by simp)
  | false =>
   have hr := row0_o hb (by intro _ q; injection q with q; rw [q] at hcd; cases hcd) (by intro _ q; injection q with q; rw [q] at hcd; cases hcd)
   have first : ∀ i (hi : i < w.length), u ≤ i → i < u + 1 → ced w[i] = false := fun i hi a b => by
    obtain rfl : i = u := by lia
    exact hcd
   rcases ih w (u + 1) (by lia) (by lia) hz (u : Int) q with ⟨u', hu', n, p', q', x1, x2, x3, T⟩ | ⟨x1, n, p', q', T⟩
   ·refine .inl ⟨u', hu', n + 1, p', q', x1, by lia, fun i hi a b => ?_, fun c hc hsc a b => ?_⟩
    ·by_cases h : i < u + 1
     ·exact first i hi a h
     ·exact x3 i hi (by lia) b
    ·have T := T c hc hsc a b
     show Turns c _ _ _ _ _ _ _ _
     refine' turns_nextW ev_true ?h14 ?h24 ?h34 T
     case h14 => walk_at "m sxs"
     case h24 => exact ⟨rfl, rfl, rfl, trivial⟩
     case h34 => exact stm_eq rfl (by lia) rfl rfl rfl rfl
   ·refine .inr ⟨fun i hi a => ?_, n + 1, p', q', fun c hc hsc a b => ?_⟩
    ·by_cases h : i < u + 1
     ·exact first i hi a h
     ·exact x1 i hi (by lia)
    ·have T := T c hc hsc a b
     show Turns c _ _ _ _ _ _ _ _
     refine' turns_nextW ev_true ?h15 ?h25 ?h35 T
     case h15 => walk_at "m sxs"
     case h25 => exact ⟨rfl, rfl, rfl, trivial⟩
     case h35 => exact stm_eq rfl (by lia) rfl rfl rfl rfl
end
local macro_rules | `(tactic| walk_at "m while") => wF "~x0|x0=a|sx_while"
theorem norm_A (D : Nat) (ex : Ex) : ∀ (k : Nat) (w : List Nat) (u : Nat), w.countP ced = k → u ≤ w.length → w.length ≤ 300 → (∀ i (hi : i < w.length), i < u → ced w[i] = false) → ∀ (p q : Int),
  ∃ (n : Nat) (u' p' q' : Int), ∀ (c : Cx), c.OK (D + 2) → c.scope = defScope (cst 6 5) → ∀ a, Lp c wNA n [(kS "self", .d 0), (kS "v_1", a)] [(Stm.mk w u w.length 0 p q ex).o] .next [(kS "self", .d 0), (kS "v_1", a)] [(Stm.mk (w.map cedF) u' w.length 0 p' q' ex).o] := by
 intro k
 induction k using Nat.strongRecOn with
 | _ k ih =>
  intro w u hk hu hz hno p q
  rcases norm_B D ex (w.length - u) w u rfl hu hz p q with ⟨u', hu', n, p', q', x1, x2, x3, T⟩ | ⟨x1, n, p', q', T⟩
  ·have hc1 : (w.set u' (cedF w[u'])).countP ced < k := by
    rw [List.countP_set hu', cedF_no, x1, ← hk]
    have : 0 < w.countP ced := List.countP_pos_iff.mpr ⟨w[u'], List.getElem_mem hu', x1⟩
    simp only [if_true, Bool.false_eq_true, if_false]
    lia
   have hmap : (w.set u' (cedF w[u'])).map cedF = w.map cedF := by
    rw [List.map_set, cedF_id (cedF_no _)]
    apply List.ext_getElem (by simp)
    intro i h1 h2
    rw [List.getElem_set]
    split
    ·rename_i e; subst e; simp
    ·rfl
   obtain ⟨m, u2, p2, q2, T2⟩ := ih _ hc1 (w.set u' (cedF w[u'])) u' rfl (by simp; lia) (by simp; lia) (fun i hi h => by
    have hi' : i < w.length := by simpa using hi
    rw [List.getElem_set, if_neg (by lia)]
    by_cases h2 : i < u
    ·exact hno i hi' h2
    ·exact x3 i hi' (by lia) h) p' q'
   refine ⟨m + 1, u2, p2, q2, fun c hc hsc a => ?_⟩
   have T := T c hc hsc a (.i u)
   have T2 := T2 c hc hsc a
   rw [hmap, set_len] at T2
   show Turns c _ _ _ _ _ _ _ _
   refine' turns_contW ev_true ?h1 ?h2 ?h3 T2
   case h1 =>
    refine' sxq (sx_wcast ?a1 ?a1b ?a1c) (sq_next (sxq (sx_tryg hc (sxq (sx_while (n := n) T) (sq_next (sxq (sx_continue _) sq_cont))) tryg_cont ?a2 ?a3) sq_cont))
    case a1 => walk_at "m sx"
    case a1b => exact ⟨rfl, rfl, rfl, trivial⟩
    case a1c => rfl
    case a2 => walk_at "m local"
    case a3 => decide +kernel
   case h2 => exact ⟨rfl, rfl, trivial⟩
   case h3 => rfl
  ·have hmap : w.map cedF = w := by
    apply List.ext_getElem (by simp)
    intro i h1 h2
    rw [List.getElem_map]
    apply cedF_id
    by_cases h : i < u
    ·exact hno i h2 h
    ·exact x1 i h2 (by lia)
   rw [hmap]
   refine ⟨0, u, p', q', fun c hc hsc a => ?_⟩
   have T := T c hc hsc a (.i u)
   show Turns c _ _ _ _ _ _ _ _
   refine' Turns.brk ev_true (sx_wcast ?h4 ?h5 ?h6)
   case h4 =>
    refine' sxq (sx_wcast ?b1 ?b1b ?b1c) (sq_next (sxq (sx_tryg hc (sxq (sx_while (n := n) T) sq_exc) (tryg_exc rfl) ?b2 ?b3) (sq_next ?b4)))
    case b1 => walk_at "m sx"
    case b1b => exact ⟨rfl, rfl, rfl, trivial⟩
    case b1c => rfl
    case b2 => walk_at "m local"
    case b3 => decide +kernel
    case b4 => walk_at "m sxs"
   case h5 => exact ⟨rfl, rfl, trivial⟩
   case h6 => rfl
theorem c_norm (D : Nat) {w : List Nat} (hz : w.length ≤ 300) (p q : Int) (ex : Ex) : ∃ p' q', CallS (D + 2) 239 [.d 0] [(Stm.mk w 0 w.length 0 p q ex).o] (.b true) [(Stm.mk (w.map cedF) 0 w.length 0 p' q' ex).o] := by
 obtain ⟨n, u', p', q', T⟩ := norm_A D ex _ w 0 rfl (by lia) hz (fun i hi h => absurd h (by lia)) p q
 refine ⟨p', q', call_body fn239 rfl fun c hc hsc => ?_⟩
 have T := T c hc hsc (.i 0)
 refine' out_ret (sxq (sx_wcast ?h0 ?h0b ?h0c) (sq_next (sxq (sx_tryg hc (sxq (sx_while (n := n) T) (sq_next sx_nil)) tryg_next ?h1 ?h2) (sq_next ?h3)))) ?h4 ?h5
 case h0 => walk_at "m sx"
 case h0b => exact ⟨rfl, rfl, trivial⟩
 case h0c => rfl
 case h1 => walk_at "m local"
 case h2 => decide +kernel
 case h3 => walk_at "m sxs"
 case h4 => rfl
 case h5 => rfl
end
section
/-! ### prelude: i and u between vowels marked -/
noncomputable def upM (a : Nat) : Nat := bif Nat.beq a 117 then 85 else 73
noncomputable def hit (w : List Nat) (u : Nat) : Bool := match w[u]?, w[u + 1]?, w[u + 2]? with
 | some a, some b, some c => vw a && (Nat.beq b 117 || Nat.beq b 105) && vw c
 | _, _, _ => false
noncomputable def wPA : Stmt := nthS (defBody (cst 6 6)) 0
noncomputable def wPB : Stmt := match nthS (whBody wPA) 1 with
 | .Try b _ _ _ _ => nthS b 0
 | s => s
noncomputable def lP (a : V) : Ls := [(kS "self", .d 0), (kS "v_1", a)]
local macro_rules | `(tactic| walk_at "m one") => wF "~h1 h2 h3|h1=sxs h2=sub h3=stme|sx_wcast"
local macro_rules | `(tactic| walk_at "m stme") => wF "~x0 x1 x2 x3 x4 x5|x0=r x1=o x2=r x3=r x4=r x5=r|stm_eq"
theorem vAt_of {w : List Nat} {u a : Nat} {i : Int} (h : w[u]? = some a) (e : i = (u : Int)) : vAt w i = vw a := by
 subst e
 unfold vAt vw
 rw [show (u : Int).toNat = u by lia, h]; rfl
theorem prel_step (D : Nat) (ex : Ex) {w : List Nat} {u : Nat} (hlt : u < w.length) (hz : w.length ≤ 300) (hh : hit w u = false) (p q : Int) :
  ∃ p' q', ∀ (c : Cx), c.OK (D + 2) → c.scope = defScope (cst 6 6) → ∀ a, Sx c (execs (whBody wPB) c.env) (lP a) [(Stm.mk w u w.length 0 p q ex).o] .next (lP a) [(Stm.mk w ((u + 1 : Nat) : Int) w.length 0 p' q' ex).o] := by
 have h0 : w[u]? = some w[u] := List.getElem?_eq_getElem hlt
 generalize w[u] = a0 at h0
 have v0 := vAt_of (i := (u : Int)) h0 rfl
 cases hv : vw a0 with
 | false =>
  rw [hv] at v0
  refine ⟨p, q, fun c hc hsc a => ?_⟩
  walk_at "m one"
 | true =>
  rw [hv] at v0
  by_cases h1 : u + 1 < w.length
  ·have g1 : w[u + 1]? = some w[u + 1] := List.getElem?_eq_getElem h1
   generalize w[u + 1] = b0 at g1
   have hx : w[((u : Int) + 1).toNat]? = some b0 := by rw [show ((u : Int) + 1).toNat = u + 1 by lia]; exact g1
   have no2 : (Nat.beq b0 117 || Nat.beq b0 105) = true → ¬ ((u : Int) + 1 + 1 < w.length) ∨ vAt w ((u : Int) + 1 + 1) = false := fun hb => by
    by_cases h2 : u + 2 < w.length
    ·right
     have g2 : w[u + 2]? = some w[u + 2] := List.getElem?_eq_getElem h2
     rw [vAt_of g2 (by lia)]
     unfold hit at hh
     rw [h0, g1, g2] at hh
     dsimp only at hh
     rw [hv, hb] at hh
     simpa using hh
    ·left; lia
   cases hu : Nat.beq b0 117 with
   | true =>
    have hn := no2 (by rw [hu]; rfl)
    have hbu : [b0] = (S "u").cps.toList := by rw [Nat.eq_of_beq_eq_true hu]; rfl
    have hbi : [b0] ≠ (S "i").cps.toList := by rw [hbu]; decide +kernel
    refine ⟨(u : Int) + 1, (u : Int) + 1 + 1, fun c hc hsc a => ?_⟩
    walk_at "m one"
   | false =>
    have hbu : [b0] ≠ (S "u").cps.toList := fun e => by
     have e' : [b0] = [117] := e
     injection e' with e'
     rw [e'] at hu; cases hu
    cases hi : Nat.beq b0 105 with
    | true =>
     have hn := no2 (by rw [hi, hu]; rfl)
     have hbi : [b0] = (S "i").cps.toList := by rw [Nat.eq_of_beq_eq_true hi]; rfl
     refine ⟨(u : Int) + 1, (u : Int) + 1 + 1, fun c hc hsc a => ?_⟩
     walk_at "m one"
    | false =>
     have hbi : [b0] ≠ (S "i").cps.toList := fun e => by
      have e' : [b0] = [105] := e
      injection e' with e'
      rw [e'] at hi; cases hi
     refine ⟨(u : Int) + 1, q, fun c hc hsc a => ?_⟩
     walk_at "m one"
  ·refine ⟨(u : Int) + 1, q, fun c hc hsc a => ?_⟩
   walk_at "m one"
theorem prel_end (D : Nat) (ex : Ex) {w : List Nat} (hz : w.length ≤ 300) (p q : Int) (c : Cx) (hc : c.OK (D + 2)) (hsc : c.scope = defScope (cst 6 6)) (a : V) :
  Sx c (execs (whBody wPB) c.env) (lP a) [(Stm.mk w w.length w.length 0 p q ex).o] (.exc 1017) (lP a) [(Stm.mk w w.length w.length 0 p q ex).o] := by
 walk_at "m one"
theorem hit_ok {w : List Nat} {u : Nat} (hh : hit w u = true) : ∃ a b c, w[u]? = some a ∧ w[u + 1]? = some b ∧ w[u + 2]? = some c ∧ vw a = true ∧ (Nat.beq b 117 = true ∨ Nat.beq b 105 = true) ∧ vw c = true := by
 unfold hit at hh
 split at hh
 ·rename_i a b c e1 e2 e3
  rw [Bool.and_eq_true, Bool.and_eq_true, Bool.or_eq_true] at hh
  exact ⟨a, b, c, e1, e2, e3, hh.1.1, hh.1.2, hh.2⟩
 ·cases hh
theorem cut2 {w : List Nat} {u : Nat} (h : u < w.length) (x : Nat) {i j : Int} (hi : i = (u : Int)) (hj : j = (u : Int) + 1) : cutW w i j [x] = w.set u x := by
 subst hi; subst hj; exact cut1 h x
theorem prel_hit (D : Nat) (ex : Ex) {w : List Nat} {u : Nat} (hz : w.length ≤ 300) (hh : hit w u = true) (p q : Int) :
  ∃ p' q', ∀ (c : Cx), c.OK (D + 2) → c.scope = defScope (cst 6 6) → ∀ a, Sx c (execs (whBody wPB) c.env) (lP a) [(Stm.mk w u w.length 0 p q ex).o] .brk (lP a) [(Stm.mk (w.set (u + 1) (upM (w.getD (u + 1) 0))) u w.length 0 p' q' ex).o] := by
 obtain ⟨a0, b0, c0, h0, g1, g2, hv, hb, hv2⟩ := hit_ok hh
 have hlt : u + 2 < w.length := (List.getElem?_eq_some_iff.mp g2).1
 have v0 := vAt_of (i := (u : Int)) h0 rfl
 rw [hv] at v0
 have v2 := vAt_of (i := (u : Int) + 1 + 1) g2 (by lia)
 rw [hv2] at v2
 have hx : w[((u : Int) + 1).toNat]? = some b0 := by rw [show ((u : Int) + 1).toNat = u + 1 by lia]; exact g1
 have hD : w.getD (u + 1) 0 = b0 := by rw [List.getD_eq_getElem?_getD, g1]; rfl
 rw [hD]
 have hlI : (PySem.Str.ofString "I").cps.toList.length ≤ 400 := by decide +kernel
 have hlU : (PySem.Str.ofString "U").cps.toList.length ≤ 400 := by decide +kernel
 by_cases hu : Nat.beq b0 117 = true
 ·have hbu : [b0] = (S "u").cps.toList := by rw [Nat.eq_of_beq_eq_true hu]; rfl
  have hup : upM b0 = 85 := by unfold upM; rw [hu]; rfl
  rw [hup]
  have ec : ∀ i j : Int, i = (u : Int) + 1 → j = (u : Int) + 1 + 1 → cutW w i j (S "U").cps.toList = w.set (u + 1) 85 := fun i j a b => cut2 (by lia) 85 (by lia) (by lia)
  refine ⟨(u : Int) + 1, (u : Int) + 1 + 1, fun c hc hsc a => ?_⟩
  refine' sx_wcast ?h1 ?h2 ?h3
  case h1 => walk_at "m sxs"
  case h2 => exact ⟨rfl, rfl, trivial⟩
  case h3 => exact stm_eq (ec _ _ rfl rfl) rfl (by rw [ec _ _ rfl rfl, set_len]) rfl rfl rfl
 ·have hi : Nat.beq b0 105 = true := hb.resolve_left hu
  have hbu : [b0] ≠ (S "u").cps.toList := fun e => by
   have e' : [b0] = [117] := e
   injection e' with e'
   rw [e'] at hu; exact hu rfl
  have hbi : [b0] = (S "i").cps.toList := by rw [Nat.eq_of_beq_eq_true hi]; rfl
  have hup : upM b0 = 73 := by
   unfold upM
   cases q : Nat.beq b0 117 with
   | true => exact absurd q hu
   | false => rfl
  rw [hup]
  have ec : ∀ i j : Int, i = (u : Int) + 1 → j = (u : Int) + 1 + 1 → cutW w i j (S "I").cps.toList = w.set (u + 1) 73 := fun i j a b => cut2 (by lia) 73 (by lia) (by lia)
  refine ⟨(u : Int) + 1, (u : Int) + 1 + 1, fun c hc hsc a => ?_⟩
  refine' sx_wcast ?h12 ?h22 ?h32
  case h12 => walk_at "m sxs"
  case h22 => exact ⟨rfl, rfl, trivial⟩
  case h32 => exact stm_eq (ec _ _ rfl rfl) rfl (by rw [ec _ _ rfl rfl, set_len]) rfl rfl rfl
theorem prel_B (D : Nat) (ex : Ex) : ∀ (k : Nat) (w : List Nat) (u : Nat), w.length - u = k → u ≤ w.length → w.length ≤ 300 → ∀ (p q : Int),
  (∃ (u' n : Nat) (p' q' : Int), hit w u' = true ∧ u ≤ u' ∧ (∀ i, u ≤ i → i < u' → hit w i = false) ∧ ∀ (c : Cx), c.OK (D + 2) → c.scope = defScope (cst 6 6) → ∀ a, Lp c wPB n (lP a) [(Stm.mk w u w.length 0 p q ex).o] .next (lP a) [(Stm.mk (w.set (u' + 1) (upM (w.getD (u' + 1) 0))) u' w.length 0 p' q' ex).o]) ∨
  ((∀ i, u ≤ i → hit w i = false) ∧ ∃ (n : Nat) (p' q' : Int), ∀ (c : Cx), c.OK (D + 2) → c.scope = defScope (cst 6 6) → ∀ a, Lp c wPB n (lP a) [(Stm.mk w u w.length 0 p q ex).o] (.exc 1017) (lP a) [(Stm.mk w w.length w.length 0 p' q' ex).o]) := by
 intro k
 induction k with
 | zero =>
  intro w u hk hu hz p q
  obtain rfl : u = w.length := by lia
  refine .inr ⟨fun i hi => ?_, 0, p, q, fun c hc hsc a => ?_⟩
  ·unfold hit
   rw [List.getElem?_eq_none (by lia)]
  ·show Turns c _ _ _ _ _ _ _ _
   exact Turns.exc ev_true (prel_end D ex hz p q c hc hsc a)
 | succ k ih =>
  intro w u hk hu hz p q
  have hlt : u < w.length := by lia
  cases hh : hit w u with
  | true =>
   obtain ⟨p', q', T⟩ := prel_hit D ex hz hh p q
   refine .inl ⟨u, 0, p', q', hh, Nat.le_refl _, fun i a b => absurd b (by lia), fun c hc hsc a => ?_⟩
   show Turns c _ _ _ _ _ _ _ _
   exact Turns.brk ev_true (T c hc hsc a)
  | false =>
   obtain ⟨p1, q1, T0⟩ := prel_step D ex hlt hz hh p q
   have first : ∀ i, u ≤ i → i < u + 1 → hit w i = false := fun i a b => by
    obtain rfl : i = u := by lia
    exact hh
   rcases ih w (u + 1) (by lia) (by lia) hz p1 q1 with ⟨u', n, p', q', x1, x2, x3, T⟩ | ⟨x1, n, p', q', T⟩
   ·refine .inl ⟨u', n + 1, p', q', x1, by lia, fun i a b => ?_, fun c hc hsc a => ?_⟩
    ·by_cases h : i < u + 1
     ·exact first i a h
     ·exact x3 i (by lia) b
    ·have T := T c hc hsc a
     show Turns c _ _ _ _ _ _ _ _
     exact Turns.next ev_true (T0 c hc hsc a) T
   ·refine .inr ⟨fun i a => ?_, n + 1, p', q', fun c hc hsc a => ?_⟩
    ·by_cases h : i < u + 1
     ·exact first i a h
     ·exact x1 i (by lia)
    ·have T := T c hc hsc a
     show Turns c _ _ _ _ _ _ _ _
     exact Turns.next ev_true (T0 c hc hsc a) T
/-! the marks, plainly -/
noncomputable def iu (b : Nat) : Bool := Nat.beq b 117 || Nat.beq b 105
noncomputable def headV : List Nat → Bool
 | c :: _ => vw c
 | [] => false
noncomputable def markR (prev : Bool) : List Nat → List Nat
 | [] => []
 | a :: r => (bif prev && iu a && headV r then upM a else a) :: markR (vw (bif prev && iu a && headV r then upM a else a)) r
noncomputable def hitR (prev : Bool) : List Nat → Nat → Bool
 | [], _ => false
 | a :: r, 0 => prev && iu a && headV r
 | a :: r, p + 1 => hitR (vw a) r p
theorem mark_none : ∀ {w : List Nat} {prev : Bool}, (∀ p, hitR prev w p = false) → markR prev w = w
 | [], _, _ => rfl
 | a :: r, prev, h => by
  have h0 := h 0
  unfold hitR at h0
  unfold markR
  rw [h0, cond_false, mark_none fun p => h (p + 1)]
theorem upM_vw (a : Nat) : vw (upM a) = false := by
 unfold upM
 cases Nat.beq a 117 <;> decide
theorem upM_iu (a : Nat) : iu (upM a) = false := by
 unfold upM
 cases Nat.beq a 117 <;> decide
theorem mark_hit : ∀ {w : List Nat} {prev : Bool} {p : Nat}, hitR prev w p = true → (∀ i, i < p → hitR prev w i = false) → markR prev (w.set p (upM (w.getD p 0))) = markR prev w
 | [], _, _, h, _ => by cases h
 | a :: r, prev, 0, h, _ => by
  have h' : (prev && iu a && headV r) = true := h
  show markR prev (upM a :: r) = markR prev (a :: r)
  unfold markR
  rw [h', upM_iu a, Bool.and_false, Bool.false_and]
  rfl
 | a :: r, prev, p + 1, h, hn => by
  have h0 : (prev && iu a && headV r) = false := hn 0 (by lia)
  show markR prev (a :: r.set p (upM (r.getD p 0))) = markR prev (a :: r)
  have ih := mark_hit (w := r) (prev := vw a) (p := p) h fun i hi => hn (i + 1) (by lia)
  have h1 : (prev && iu a && headV (r.set p (upM (r.getD p 0)))) = false := by
   cases r with
   | nil => exact h0
   | cons b r =>
    cases p with
    | zero =>
     show (prev && iu a && vw (upM b)) = false
     rw [upM_vw, Bool.and_false]
    | succ p => exact h0
  conv => lhs; unfold markR
  conv => rhs; unfold markR
  rw [h0, h1, cond_false, ih]
theorem hit_hitR : ∀ (w : List Nat) (prev : Bool) (u : Nat), hit w u = hitR prev w (u + 1)
 | [], prev, u => by unfold hit; simp [hitR]
 | a :: r, prev, 0 => by
  show hit (a :: r) 0 = hitR (vw a) r 0
  unfold hit
  cases r with
  | nil => simp [hitR]
  | cons b r =>
   cases r with
   | nil => simp [hitR, headV]
   | cons c r =>
    simp only [List.getElem?_cons_zero, List.getElem?_cons_succ, hitR, headV, iu]
 | a :: r, prev, u + 1 => by
  show hit (a :: r) (u + 1) = hitR (vw a) r (u + 1)
  rw [← hit_hitR r (vw a) u]
  unfold hit
  simp only [List.getElem?_cons_succ]
theorem hitR_zero (w : List Nat) : hitR false w 0 = false := by cases w <;> rfl
theorem prel_A (D : Nat) (ex : Ex) : ∀ (k : Nat) (w : List Nat) (u : Nat), w.countP iu = k → u ≤ w.length → w.length ≤ 300 → (∀ i, i < u → hit w i = false) → ∀ (p q : Int),
  ∃ (n : Nat) (u' p' q' : Int), ∀ (c : Cx), c.OK (D + 2) → c.scope = defScope (cst 6 6) → Lp c wPA n [(kS "self", .d 0)] [(Stm.mk w u w.length 0 p q ex).o] .next [(kS "self", .d 0)] [(Stm.mk (markR false w) u' w.length 0 p' q' ex).o] := by
 intro k
 induction k using Nat.strongRecOn with
 | _ k ih =>
  intro w u hk hu hz hno p q
  rcases prel_B D ex (w.length - u) w u rfl hu hz p q with ⟨u', n, p', q', x1, x2, x3, T⟩ | ⟨x1, n, p', q', T⟩
  ·obtain ⟨a0, b0, c0, g0, g1, g2, hv, hb, hv2⟩ := hit_ok x1
   have hlt : u' + 2 < w.length := (List.getElem?_eq_some_iff.mp g2).1
   have hlt1 : u' + 1 < w.length := by lia
   have hw1 : w[u' + 1] = b0 := (List.getElem?_eq_some_iff.mp g1).2
   have hD : w.getD (u' + 1) 0 = b0 := by rw [List.getD_eq_getElem?_getD, g1]; rfl
   have hiu : iu b0 = true := by unfold iu; rw [Bool.or_eq_true]; exact hb
   have hno' : ∀ i, i < u' → hit w i = false := fun i h => by
    by_cases h2 : i < u
    ·exact hno i h2
    ·exact x3 i (by lia) h
   have hmk : markR false (w.set (u' + 1) (upM (w.getD (u' + 1) 0))) = markR false w := mark_hit (by rw [← hit_hitR]; exact x1) fun i hi => by
    cases i with
    | zero => exact hitR_zero w
    | succ i => rw [← hit_hitR]; exact hno' i (by lia)
   have hc1 : (w.set (u' + 1) (upM (w.getD (u' + 1) 0))).countP iu < k := by
    rw [List.countP_set hlt1, upM_iu, hw1, hiu, ← hk]
    have : 0 < w.countP iu := List.countP_pos_iff.mpr ⟨w[u' + 1], List.getElem_mem hlt1, by rw [hw1]; exact hiu⟩
    simp only [if_true, Bool.false_eq_true, if_false]
    lia
   have hno2 : ∀ i, i < u' → hit (w.set (u' + 1) (upM (w.getD (u' + 1) 0))) i = false := fun i h => by
    have h3 := hno' i h
    unfold hit at h3 ⊢
    rw [List.getElem?_set_ne (by lia), List.getElem?_set_ne (by lia)]
    by_cases e : i + 2 = u' + 1
    ·rw [e, List.getElem?_set_self hlt1]
     cases q1 : w[i]? with
     | none => rfl
     | some a =>
      cases q2 : w[i + 1]? with
      | none => rfl
      | some b =>
       dsimp only
       rw [upM_vw, Bool.and_false]
    ·rw [List.getElem?_set_ne (by lia)]
     exact h3
   obtain ⟨m, u2, p2, q2, T2⟩ := ih _ hc1 (w.set (u' + 1) (upM (w.getD (u' + 1) 0))) u' rfl (by simp; lia) (by simp; lia) hno2 p' q'
   refine ⟨m + 1, u2, p2, q2, fun c hc hsc => ?_⟩
   have T := T c hc hsc (.i u)
   have T2 := T2 c hc hsc
   rw [hmk, set_len] at T2
   show Turns c _ _ _ _ _ _ _ _
   refine' turns_contW ev_true ?h1 ?h2 ?h3 T2
   case h1 =>
    refine' sxq (sx_wcast ?a1 ?a1b ?a1c) (sq_next (sxq (sx_tryg hc (sxq (sx_while (n := n) T) (sq_next (sxq (sx_continue _) sq_cont))) tryg_cont ?a2 ?a3) sq_cont))
    case a1 => walk_at "m sx"
    case a1b => exact ⟨rfl, rfl, trivial⟩
    case a1c => rfl
    case a2 => walk_at "m local"
    case a3 => decide +kernel
   case h2 => exact ⟨rfl, trivial⟩
   case h3 => rfl
  ·have hmap : markR false w = w := mark_none fun p => by
    cases p with
    | zero => exact hitR_zero w
    | succ i =>
     rw [← hit_hitR]
     by_cases h : i < u
     ·exact hno i h
     ·exact x1 i (by lia)
   rw [hmap]
   refine ⟨0, u, p', q', fun c hc hsc => ?_⟩
   have T := T c hc hsc (.i u)
   show Turns c _ _ _ _ _ _ _ _
   refine' Turns.brk ev_true (sx_wcast ?h4 ?h5 ?h6)
   case h4 =>
    refine' sxq (sx_wcast ?b1 ?b1b ?b1c) (sq_next (sxq (sx_tryg hc (sxq (sx_while (n := n) T) sq_exc) (tryg_exc rfl) ?b2 ?b3) (sq_next ?b4)))
    case b1 => walk_at "m sx"
    case b1b => exact ⟨rfl, rfl, trivial⟩
    case b1c => rfl
    case b2 => walk_at "m local"
    case b3 => decide +kernel
    case b4 => walk_at "m sxs"
   case h5 => exact ⟨rfl, trivial⟩
   case h6 => rfl
theorem c_prel (D : Nat) {w : List Nat} (hz : w.length ≤ 300) (p q : Int) (ex : Ex) : ∃ u' p' q', CallS (D + 2) 246 [.d 0] [(Stm.mk w 0 w.length 0 p q ex).o] (.b true) [(Stm.mk (markR false w) u' w.length 0 p' q' ex).o] := by
 obtain ⟨n, u', p', q', T⟩ := prel_A D ex _ w 0 rfl (by lia) hz (fun i h => absurd h (by lia)) p q
 refine ⟨u', p', q', call_body fn246 rfl fun c hc hsc => ?_⟩
 have T := T c hc hsc
 refine' out_ret (sxq (sx_while (n := n) T) (sq_next ?h3)) ?h4 ?h5
 case h3 => walk_at "m sxs"
 case h4 => rfl
 case h5 => rfl
theorem mark_len : ∀ (prev : Bool) (w : List Nat), (markR prev w).length = w.length
 | _, [] => rfl
 | prev, a :: r => by unfold markR; rw [List.length_cons, List.length_cons, mark_len]
end
section
/-! the whole stemmer -/
theorem step0F_len (p1 : Int) (w : List Nat) (o : Option Row4) : (step0F p1 w o).length ≤ w.length + 3 := by
 unfold step0F
 cases o with
 | none => dsimp only; lia
 | some r =>
  dsimp only
  split
  ·split
   ·lia
   ·rw [List.length_append, List.length_take]
    have : (put0 r.res).length ≤ 3 := by
     unfold put0
     (repeat' split) <;> decide
    lia
  ·lia
theorem stdW_len (p2 : Int) (w : List Nat) (o : Option Row4) : (stdW p2 w o).length ≤ w.length + 3 := by
 have T : ∀ (k : Nat) (s : List Nat), s.length ≤ 3 → (w.take k ++ s).length ≤ w.length + 3 := fun k s h => by
  rw [List.length_append]; exact Nat.add_le_add (List.length_take_le' _ _) h
 unfold stdW
 cases o with
 | none => exact Nat.le_add_right _ _
 | some r =>
  dsimp only
  split
  ·split
   ·exact Nat.le_trans (List.length_take_le' _ _) (Nat.le_add_right _ _)
   ·split
    ·split
     ·exact T _ _ (by decide)
     ·exact Nat.le_add_right _ _
    ·exact T _ _ (by decide)
  ·exact Nat.le_add_right _ _
theorem verbW_len (pV : Int) (w : List Nat) (o : Option Row4) : (verbW pV w o).length ≤ w.length := by
 unfold verbW
 cases o with
 | none => dsimp only; lia
 | some r =>
  dsimp only
  split
  ·split
   ·rw [List.length_take]; lia
   ·lia
  ·rw [List.length_take]; lia
theorem vowF_len (pV : Int) (w : List Nat) (o : Option Row4) : (vowF pV w o).length ≤ w.length := by
 unfold vowF
 cases o with
 | none => dsimp only; lia
 | some r =>
  dsimp only
  split
  ·rw [List.length_take]; lia
  ·lia
structure StemR (l out : List Nat) (w2 w3 w4 w5 w6 : List Nat) (z4 : Bool) (o2 o4 o6 : Option Row4) : Prop where
 h2 : w2 = markR false (l.map cedF)
 b2 : BestE tab_a_2 w2 o2
 h3 : w3 = step0F (p1F w2) w2 o2
 h4 : Combos (p1F w2) w3 false w4 z4
 b4 : BestE tab_a_4 w4 o4
 h5 : w5 = stdW (p2F w2) w4 o4
 h6 : if stdZ (p2F w2) w4 z4 o4 then w6 = w5 else if pVF w2 ≤ w5.length then ∃ o5, BestE tab_a_5 (midW w5 (pVF w2) w5.length) o5 ∧ w6 = verbW (pVF w2) w5 o5 else w6 = w5
 b6 : BestE tab_a_6 w6 o6
 out : out = (vowF (pVF w2) w6 o6).map postC
theorem pVF_nonneg (w : List Nat) : 0 ≤ pVF w := by
 unfold pVF
 dsimp only
 have h1 := scan_ge w 2 w.length vw
 have h2 := scan_ge w 2 w.length nvw
 repeat' split
 all_goals lia
theorem left_mk {y : Stm} {w : List Nat} {ex : Ex} (h : Left y w ex) : y = Stm.mk w y.cursor w.length 0 y.bra y.ket ex := by
 obtain ⟨a, b, d, f, g, i, j⟩ := y
 obtain ⟨x1, x2, x3, x4⟩ := h
 dsimp only at x1 x2 x3 x4 ⊢
 subst x1
 rw [x2, x3, x4]
theorem callS_cu {D : Nat} {f : Addr} {args : List V} {w : List Nat} {u u' l lb p q : Int} {ex : Ex} {v : V} {s : Sto} (h : CallS D f args [(Stm.mk w u l lb p q ex).o] v s) (e : u' = u) : CallS D f args [(Stm.mk w u' l lb p q ex).o] v s := by subst e; exact h
local macro_rules | `(tactic| walk_at "m hcall") => wF "a"
theorem callS_st {D : Nat} {f : Addr} {args : List V} {w w' : List Nat} {u l l' lb p q : Int} {ex : Ex} {v : V} {s : Sto} (h : CallS D f args s v [(Stm.mk w u l lb p q ex).o]) (e1 : w = w') (e3 : l = l') : CallS D f args s v [(Stm.mk w' u l' lb p q ex).o] := by subst e1; subst e3; exact h
theorem c_stem (D : Nat) {l : List Nat} (hz : l.length ≤ 200) (p q : Int) : ∃ (y : Stm) (out w2 w3 w4 w5 w6 : List Nat) (z4 : Bool) (o2 o4 o6 : Option Row4), StemR l out w2 w3 w4 w5 w6 z4 o2 o4 o6 ∧ CallS (D + 5) 309 [.d 0] [(Stm.mk l 0 l.length 0 p q .none).o] (.b true) [y.o] ∧ y.cur = out ∧ y.ex ≠ .none := by
 refine of_imp fun G hG => ?_
 obtain ⟨pa, qa, C1⟩ := c_norm (D + 2) (w := l) (by lia) p q .none
 have hl1 : (l.map cedF).length = l.length := List.length_map _
 replace C1 := callS_st C1 rfl (show (l.length : Int) = ((l.map cedF).length : Int) by rw [hl1])
 obtain ⟨w1, hw1⟩ : ∃ w1, w1 = l.map cedF := ⟨_, rfl⟩
 rw [← hw1] at C1 hl1
 obtain ⟨ub, pb, qb, C2⟩ := c_prel (D + 2) (w := w1) (by lia) pa qa .none
 have hl2 := mark_len false w1
 replace C2 := callS_st C2 rfl (show (w1.length : Int) = ((markR false w1).length : Int) by rw [hl2])
 obtain ⟨w2, hw2⟩ : ∃ w2, w2 = markR false w1 := ⟨_, rfl⟩
 rw [← hw2] at C2 hl2
 have C3 := c_mark (D + 3) (w := w2) (by lia) pb qb
 obtain ⟨b4, y4, o2, B2, C4, L4⟩ := c_step_0 (D + 1) (w := w2) (by lia) pb qb (pVF w2) (p1F w2) (p2F w2)
 rw [left_mk L4] at C4
 have hl3 := step0F_len (p1F w2) w2 o2
 obtain ⟨w3, hw3⟩ : ∃ w3, w3 = step0F (p1F w2) w2 o2 := ⟨_, rfl⟩
 rw [← hw3] at C4 hl3
 clear L4
 generalize y4.cursor = u4 at C4
 generalize y4.bra = p4 at C4
 generalize y4.ket = q4 at C4
 obtain ⟨b5, y5, w4, z4, o4, K4, hz4, B4, C5, L5⟩ := c_standard D (w := w3) (by lia) p4 q4 (pVF w2) (p1F w2) (p2F w2)
 rw [left_mk L5] at C5
 have hl5 := stdW_len (p2F w2) w4 o4
 obtain ⟨w5, hw5⟩ : ∃ w5, w5 = stdW (p2F w2) w4 o4 := ⟨_, rfl⟩
 obtain ⟨z5, hz5⟩ : ∃ z5, z5 = stdZ (p2F w2) w4 z4 o4 := ⟨_, rfl⟩
 rw [← hw5] at C5 hl5
 rw [← hz5] at C5
 clear L5
 generalize y5.cursor = u5 at C5
 generalize y5.bra = p5 at C5
 generalize y5.ket = q5 at C5
 replace C5 := callS_cu (u' := (w3.length : Int) - ((w2.length : Int) - w2.length)) C5 (by lia)
 cases z5 with
 | true =>
  obtain ⟨b7, y7, o6, B6, C7, L7⟩ := c_vowel (D + 1) (w := w5) (by lia) p5 q5 (pVF w2) (p1F w2) (p2F w2) true
  rw [left_mk L7] at C7
  have hl7 := vowF_len (pVF w2) w5 o6
  obtain ⟨w7, hw7⟩ : ∃ w7, w7 = vowF (pVF w2) w5 o6 := ⟨_, rfl⟩
  rw [← hw7] at C7 hl7
  clear L7
  generalize y7.cursor = u7 at C7
  generalize y7.bra = p7 at C7
  generalize y7.ket = q7 at C7
  replace C7 := callS_cu (u' := (w5.length : Int) - ((w5.length : Int) - ((w5.length : Int) - ((w3.length : Int) - ((w3.length : Int) - ((w2.length : Int) - w2.length)))))) C7 (by lia)
  obtain ⟨u8, p8, q8, C8⟩ := c_post (D + 2) (w := w7) (by lia) p7 q7 (.all (pVF w2) (p1F w2) (p2F w2) true)
  refine hG ?_
  clear hG
  refine' ⟨?y1, w7.map postC, w2, w3, w4, w5, w5, z4, o2, o4, o6, ⟨by rw [hw2, hw1], B2, hw3, K4, B4, hw5, by rw [← hz5]; rfl, B6, by rw [hw7]⟩, ?g1, ?k1, ?m1⟩
  case g1 =>
   refine call_body fn309 rfl fun c hc hsc => ?_
   walk_at "m ret"
  case k1 => rfl
  case m1 => intro q; cases q
 | false =>
  obtain ⟨b6, y6, C6, hA, hB⟩ := c_verb D (w := w5) (by lia) p5 q5 (pVF w2) (p1F w2) (p2F w2) false (pVF_nonneg w2)
  obtain ⟨w6, L6, hl6, h6⟩ : ∃ w6, Left y6 w6 (.all (pVF w2) (p1F w2) (p2F w2) false) ∧ w6.length ≤ w5.length ∧ (if pVF w2 ≤ w5.length then ∃ o5, BestE tab_a_5 (midW w5 (pVF w2) w5.length) o5 ∧ w6 = verbW (pVF w2) w5 o5 else w6 = w5) := by
   by_cases hp : pVF w2 ≤ w5.length
   ·obtain ⟨o5, B5, L⟩ := hA hp
    exact ⟨_, L, verbW_len _ _ _, by rw [if_pos hp]; exact ⟨o5, B5, rfl⟩⟩
   ·exact ⟨_, hB hp, Nat.le_refl _, by rw [if_neg hp]⟩
  rw [left_mk L6] at C6
  clear L6 hA hB
  generalize y6.cursor = u6 at C6
  generalize y6.bra = p6 at C6
  generalize y6.ket = q6 at C6
  replace C6 := callS_cu (u' := (w5.length : Int) - ((w3.length : Int) - ((w3.length : Int) - ((w2.length : Int) - w2.length)))) C6 (by lia)
  obtain ⟨b7, y7, o6, B6, C7, L7⟩ := c_vowel (D + 1) (w := w6) (by lia) p6 q6 (pVF w2) (p1F w2) (p2F w2) false
  rw [left_mk L7] at C7
  have hl7 := vowF_len (pVF w2) w6 o6
  obtain ⟨w7, hw7⟩ : ∃ w7, w7 = vowF (pVF w2) w6 o6 := ⟨_, rfl⟩
  rw [← hw7] at C7 hl7
  clear L7
  generalize y7.cursor = u7 at C7
  generalize y7.bra = p7 at C7
  generalize y7.ket = q7 at C7
  replace C7 := callS_cu (u' := (w6.length : Int) - ((w5.length : Int) - ((w5.length : Int) - ((w3.length : Int) - ((w3.length : Int) - ((w2.length : Int) - w2.length)))))) C7 (by lia)
  obtain ⟨u8, p8, q8, C8⟩ := c_post (D + 2) (w := w7) (by lia) p7 q7 (.all (pVF w2) (p1F w2) (p2F w2) false)
  refine hG ?_
  clear hG
  refine' ⟨?y2, w7.map postC, w2, w3, w4, w5, w6, z4, o2, o4, o6, ⟨by rw [hw2, hw1], B2, hw3, K4, B4, hw5, by rw [← hz5]; exact h6, B6, by rw [hw7]⟩, ?g2, ?k2, ?m2⟩
  case g2 =>
   refine call_body fn309 rfl fun c hc hsc => ?_
   cases b6 with
   | true => walk_at "m ret"
   | false => walk_at "m ret"
  case k2 => rfl
  case m2 => intro q; cases q
section
local macro_rules | `(tactic| walk_at "m ev") => wF "hc hs hlen hline h ek en ok g hcall|hc=a hs=r hlen=d hline=r h=ev ek=r en=t9 ok=t10 g=evl hcall=a|ev_meth"
theorem c_stemWord (D : Nat) {l : List Nat} (hz : l.length ≤ 200) {x : Stm} (hx : x.ex = .none) : ∃ (y : Stm) (out w2 w3 w4 w5 w6 : List Nat) (z4 : Bool) (o2 o4 o6 : Option Row4), StemR l out w2 w3 w4 w5 w6 z4 o2 o4 o6 ∧ CallS (D + 6) 189 [.d 0, .s l] [x.o] (.s out) [y.o] := by
 obtain ⟨y, out, w2, w3, w4, w5, w6, z4, o2, o4, o6, R, C, hy, hex⟩ := c_stem D (l := l) hz 0 l.length
 have C1 := c_set_current (D + 5) (x := x) hx (l := l) (by lia)
 have C1' : CallS (D + 5) 42 [.d 0, .s l] [x.o] .none [(Stm.mk l 0 l.length 0 0 l.length .none).o] := C1
 have C3 := c_get_current (D + 5) (x := y)
 rw [hy] at C3
 refine ⟨y, out, w2, w3, w4, w5, w6, z4, o2, o4, o6, R, call_body fn189 rfl fun c hc hsc => ?_⟩
 walk_at "m ret"
end
end
end
section
/-! ### rules for the law's side -/
section
variable {c : Cx} {D : Nat} {loc loc₁ loc₂ : Ls} {sto sto₁ sto₂ : Sto} {o : Out}
noncomputable def globS (P : Params) (x : PySem.Str) (l : List Nat) : Bool := match nsIn (KP P) mainGlobals x with
 | some (some (.str y _)) => eqK l y.cps.toList
 | _ => false
theorem ev_global_s (hc : c.OK D) {x : PySem.Str} {pos : Pos} {l : List Nat} (e : globS c.w.params x l = true) (hk : c.scope.names.lookup x = some .globalImplicit) (hd : (x == ("__debug__" : PySem.Str)) = false) :
  Ev c (.Name x pos) loc sto (.s l) sto := fun ρ s E Q R f => by
 obtain ⟨m, RL, R0⟩ := id R
 obtain ⟨ps, frs, X⟩ := R0.open
 obtain ⟨_, _, mg, mb, T⟩ := hc.base.top
 unfold globS at e
 split at e
 ·rename_i y t q
  refine name_K X.F hc.base.K T q (f _ ρ _ (Pfx.refl ρ) ?_ R ⟨rfl, rfl⟩) hc.kind hk hd
  rw [eqK_iff.mp e]
  exact ⟨t, by simp⟩
 ·cases e
theorem op_mod (i j : Int) (h : j ≠ 0) : Op2 c (binaryOp .Mod) (.i i) (.i j) (.i (i.fmod j)) loc sto sto := fun ρ a b ⟨t, ha⟩ ⟨u, hb⟩ => by subst ha; subst hb; exact (pv_mod i j t u h).doAt ρ _ _
theorem op_neB (i j : Bool) : Op2 c (compareOp .NotEq) (.b i) (.b j) (.b (!(i == j))) loc sto sto := fun ρ a b ha hb s E Q R f => by
 have ha' : a = .bool i := ha
 have hb' : b = .bool j := hb
 subst ha'; subst hb'
 exact SeqAt.RcNeAt.bool_bool i j _ _ _ _ (f _ ρ _ (Pfx.refl ρ) rfl R (Same.refl s))
theorem RVs.take {ρ : List Addr} : ∀ {v : List V} {x : List Value} (k : Nat), RVs ρ v x → RVs ρ (v.take k) (x.take k)
 | [], [], k, _ => by simp [RVs]
 | _ :: _, _ :: _, 0, _ => trivial
 | _ :: _, _ :: _, k + 1, h => ⟨h.1, RVs.take k h.2⟩
theorem ev_sub_lns (hc : c.OK D) {e b : PySem.Expr} {sp pos : Pos} {v : V} {vs : List V} {j : Nat} (h : Ev c e loc sto v sto₁) (gb : Ev c b loc sto₁ (.i j) sto₂) (q : IsL c sto₂ v vs) (hz : vs.length ≤ 1000) :
  Ev c (.Subscript e (.Slice none (some b) none sp) pos) loc sto (.d sto₂.length) (sto₂ ++ [.list (vs.take j)]) := fun ρ s E Q R f =>
 Subscript_ (h ρ s E _ R fun s₁ ρ₁ x p₁ rx R₁ m₁ => wpAny_Slice (wpAny_pure (gb ρ₁ s₁ E _ R₁ fun s₂ ρ₂ y p₂ ry R₂ m₂ => wpAny_pure (by
  obtain ⟨l, items, rfl, il, rs⟩ := q.at hc R₂ (rx.mono p₂)
  obtain ⟨u, rfl⟩ := ry
  have R₃ := R₂.push { cls := .type "slice", data := .fields #[.none, .int (j : Int) u, .none] }
  have ab := R₃.above
  obtain ⟨m, RLx, R0⟩ := id R₃
  obtain ⟨ps, frs, X⟩ := R0.open
  have hl := X.S.length
  refine sub_tail ⟨_, rfl⟩ ⟨"list", _, slot_list_getitem.lookup, (il.push _).typeIs, ?_⟩
  refine wpAny_getItem_list_slice (il.push _) (Heap.IsSliceOf.new ..) .none (.int (j : Int) u) .none (by simp) ?_ (by rw [sizeLine_eq]; have := rs.length; simp; lia)
  rw [slicePick_upto' items.toArray j]
  refine f _ (ρ₂ ++ [(s₂.heap.push _).objs.size]) _ ((p₁.trans p₂).trans (Pfx.app _ _)) ⟨_, ?_, rfl⟩ ⟨m, RLx.mono (Pfx.app _ _), X.new (q := [((s₂.heap.push { cls := .type "slice", data := .fields #[.none, .int (j : Int) u, .none] }).objs.size, { cls := .type "list", data := .seq (items.take j).toArray })]) ab (X.F.push _) ?_ (by simp) (fun a ha => by rw [List.mem_singleton.mp ha]; exact Nat.le_refl _) ⟨items.take j, 0, (rs.take j).mono (Pfx.app _ _), rfl⟩⟩ ⟨(m₁.trans m₂).gens, (m₁.trans m₂).os⟩
  ·rw [hl, List.getElem?_append_right (Nat.le_refl _), Nat.sub_self]; rfl
  ·exact X.N.push X.F _))))
theorem Rel0.open_news {hb : Heap} {ext : List (Addr × Obj)} {fr : Frames} {ρ : List Addr} {sto : Sto} {h : Heap} (R : Rel0 hb ext fr ρ sto h) : ρ.length = sto.length := by
 obtain ⟨ps, frs, S, _⟩ := R.has
 exact S.length.symm
end
/-! ### a call out of a bigger store -/
noncomputable def sh (n : Nat) : V → V
 | .d k => .d (n + k)
 | v => v
noncomputable def flatV : V → Bool
 | .d _ => false
 | _ => true
noncomputable def flatO : Ob → Prop
 | .list vs => vs.all flatV = true
 | .tup vs => vs.all flatV = true
 | .inst _ fs => ∀ x v, lk x fs = some v → flatV v = true
noncomputable def flatS (sto : Sto) : Prop := ∀ o ∈ sto, flatO o
theorem RV.flat {ρ ρ' : List Addr} : ∀ {v : V} {x : Value}, flatV v = true → RV ρ v x → RV ρ' v x
 | .none, _, _, e => e
 | .b _, _, _, e => e
 | .i _, _, _, e => e
 | .s _, _, _, e => e
 | .a _, _, _, e => e
 | .d _, _, h, _ => by cases h
theorem RVs.flat {ρ ρ' : List Addr} : ∀ {v : List V} {x : List Value}, v.all flatV = true → RVs ρ v x → RVs ρ' v x
 | [], [], _, _ => trivial
 | v :: vs, x :: xs, h, e => by
  rw [List.all_cons, Bool.and_eq_true] at h
  exact ⟨e.1.flat h.1, RVs.flat h.2 e.2⟩
 | [], _ :: _, _, e => e.elim
 | _ :: _, [], _, e => e.elim
theorem RO.flat {ρ ρ' : List Addr} {x : Addr} {ps : List (Addr × Obj)} : ∀ {o : Ob}, flatO o → RO ρ x o ps → RO ρ' x o ps
 | .list _, h, ⟨ws, n, a, b⟩ => ⟨ws, n, a.flat h, b⟩
 | .tup _, h, ⟨ws, n, a, b⟩ => ⟨ws, n, a.flat h, b⟩
 | .inst _ _, h, ⟨dx, es, n, a, b⟩ => ⟨dx, es, n, ⟨fun x v e => let ⟨val, p, q⟩ := a.1 x v e; ⟨val, p, q.flat (h _ _ e)⟩, a.2⟩, b⟩
theorem RS.flat {ρ ρ' : List Addr} : ∀ {os : Sto} {xs : List Addr} {ps : List (Addr × Obj)}, flatS os → RS ρ os xs ps → RS ρ' os xs ps
 | [], [], _, _, e => e
 | o :: os, x :: xs, _, h, ⟨p, q, e, a, b⟩ => ⟨p, q, e, a.flat (h o List.mem_cons_self), RS.flat (fun o ho => h o (List.mem_cons_of_mem _ ho)) b⟩
 | [], _ :: _, _, _, e => e.elim
 | _ :: _, [], _, _, e => e.elim
theorem RS.split {ρ : List Addr} : ∀ {pre sto : Sto} {xs : List Addr} {ps : List (Addr × Obj)}, RS ρ (pre ++ sto) xs ps → ∃ x1 x2 p1 p2, xs = x1 ++ x2 ∧ ps = p1 ++ p2 ∧ x1.length = pre.length ∧ RS ρ pre x1 p1 ∧ RS ρ sto x2 p2
 | [], sto, xs, ps, h => ⟨[], xs, [], ps, rfl, rfl, rfl, rfl, h⟩
 | o :: pre, sto, x :: xs, _, ⟨p, q, rfl, a, b⟩ => by
  obtain ⟨x1, x2, p1, p2, rfl, rfl, hl, h1, h2⟩ := RS.split b
  exact ⟨x :: x1, x2, p ++ p1, p2, rfl, by simp, by simp [hl], ⟨p, p1, rfl, a, h1⟩, h2⟩
 | o :: pre, sto, [], _, h => h.elim
theorem RV.sh {ρ1 ρ2 : List Addr} {n : Nat} (hn : ρ1.length = n) : ∀ {v : V} {x : Value}, RV (ρ1 ++ ρ2) (Mine.sh n v) x ↔ RV ρ2 v x
 | .none, _ => Iff.rfl
 | .b _, _ => Iff.rfl
 | .i _, _ => Iff.rfl
 | .s _, _ => Iff.rfl
 | .a _, _ => Iff.rfl
 | .d k, x => by
  show (∃ y, (ρ1 ++ ρ2)[n + k]? = some y ∧ x = .ref y) ↔ ∃ y, ρ2[k]? = some y ∧ x = .ref y
  rw [List.getElem?_append_right (by lia), show n + k - ρ1.length = k by lia]
theorem RVs.sh {ρ1 ρ2 : List Addr} {n : Nat} (hn : ρ1.length = n) : ∀ {v : List V} {x : List Value}, RVs (ρ1 ++ ρ2) (v.map (Mine.sh n)) x → RVs ρ2 v x
 | [], [], _ => trivial
 | _ :: _, _ :: _, h => ⟨(RV.sh hn).mp h.1, RVs.sh hn h.2⟩
 | [], _ :: _, h => h.elim
 | _ :: _, [], h => h.elim
theorem CallS.frame {D : Nat} {f : Addr} {args : List V} {sto sto' : Sto} {v : V} (h : CallS D f args sto v sto') (hf : flatS sto) (hf' : flatS sto') (pre : Sto) : CallS D f (args.map (sh pre.length)) (pre ++ sto) (sh pre.length v) (pre ++ sto') := by
 intro w hb ext fr ρ A envs B hfr hlink hh hroom hunits s vals R hargs R0 k
 obtain ⟨ps, frs, S, O, T⟩ := id R0.has
 obtain ⟨x1, x2, p1, p2, rfl, rfl, hl, h1, h2⟩ := S.split
 have P1 : (frs ++ (p1 ++ p2 ++ ext)).Perm (frs ++ (p2 ++ (p1 ++ ext))) := by
  refine List.Perm.append_left _ ?_
  rw [← List.append_assoc]
  exact List.Perm.append_right _ List.perm_append_comm
 have R1 : Rel0 hb (p1 ++ ext) fr x2 sto s.heap := ⟨R0.keep, R0.big, R0.above, p2, frs, h2.flat hf, O, T.perm P1⟩
 refine h w hb (p1 ++ ext) fr x2 A envs B hfr hlink hh hroom hunits s vals R (RVs.sh hl hargs) R1 fun s' ρ' val pf rv R2 sm => ?_
 obtain ⟨ps', frs', S', O', T'⟩ := id R2.has
 have pf2 : Pfx (x1 ++ x2) (x1 ++ ρ') := fun i y e => by
  by_cases q : i < x1.length
  ·rw [List.getElem?_append_left q] at e ⊢; exact e
  ·rw [List.getElem?_append_right (by lia)] at e ⊢; exact pf _ _ e
 have P2 : (frs' ++ (ps' ++ (p1 ++ ext))).Perm (frs' ++ (p1 ++ ps' ++ ext)) := by
  refine List.Perm.append_left _ ?_
  rw [← List.append_assoc]
  exact List.Perm.append_right _ List.perm_append_comm
 exact k s' (x1 ++ ρ') val pf2 ((RV.sh hl).mpr rv) ⟨R2.keep, R2.big, R2.above, p1 ++ ps', frs', (h1.mono pf2).app (S'.flat hf'), O', T'.perm P2⟩ sm
theorem CallS.drop {D : Nat} {f : Addr} {args : List V} {junk : Sto} {v : V} (h : CallS D f args [] v junk) (hv : flatV v = true) : CallS D f args [] v [] := by
 intro w hb ext fr ρ A envs B hfr hlink hh hroom hunits s vals R hargs R0 k
 refine h w hb ext fr ρ A envs B hfr hlink hh hroom hunits s vals R hargs R0 fun s' ρ' val pf rv R2 sm => ?_
 obtain ⟨ps, frs, S, O, T⟩ := id R2.has
 have P1 : (frs ++ (ps ++ ext)).Perm (ps ++ (frs ++ ext)) := by
  rw [← List.append_assoc, ← List.append_assoc]
  exact List.Perm.append_right _ List.perm_append_comm
 have T1 := T.perm P1
 have hρ : ρ = [] := by
  obtain ⟨ps0, _, S0, _⟩ := R0.has
  have := S0.length
  exact List.eq_nil_of_length_eq_zero (by simpa using this.symm)
 subst hρ
 refine k s' [] val (Pfx.refl _) (rv.flat hv) ⟨R2.keep, R2.big, R2.above, [], frs, rfl, O, ⟨fun p hp => T1.at_ p (List.mem_append_right _ (by simpa using hp)), fun p hp => T1.new p (List.mem_append_right _ (by simpa using hp)), ?_⟩⟩ sm
 have := T1.one
 rw [List.map_append] at this
 simpa using (List.nodup_append.mp this).2.1
end
section
/-! ### comprehensions over the signs of a text -/
noncomputable def EltOK (c : Cx) (elt : PySem.Expr) (x : PySem.Str) (scope : Scope) (f : List Nat → List Nat) : Prop :=
 ∀ (C : Addr) (a : List Nat) (u : Tok) (s : Shared) (m : PySem.Str → Option Value) (E : Value → Shared → Prop) (Q : Value → Shared → Prop), s.heap.Ns C m → m x = some (.str ⟨a.toArray⟩ u) →
  (∀ t tk, Q (.str ⟨(f a).toArray⟩ t) { s with toks := tk }) → wpAny c.M c.A (eval elt (compEnv scope C c.env)) Q E s
theorem elt_name {c : Cx} {x : PySem.Str} {p : Pos} {scope : Scope} (hk : scope.kind = .function) (hx : scope.names.lookup x = some .local) (hd : (x == ("__debug__" : PySem.Str)) = false) : EltOK c (.Name x p) x scope (fun a => a) :=
 fun C n u s m E Q hn hm f => ldG (cenv := compEnv scope C c.env) hn hm (f u s.toks) hk hx hd
theorem elt_const {c : Cx} {x y : PySem.Str} {k : Nat} {p : Pos} {scope : Scope} : EltOK c (.Constant (.str y) k p) x scope (fun _ => y.cps.toList) :=
 fun C n u s m E Q hn hm f => Constant_str (by
  have := f s.toks (s.toks + 1)
  simpa using this)
theorem elt_if {c : Cx} {x y : PySem.Str} {k : Nat} {p p0 p1 pos : Pos} {scope : Scope} {a b : PySem.Expr} {fa fb : List Nat → List Nat} (hk : scope.kind = .function) (hx : scope.names.lookup x = some .local) (hd : (x == ("__debug__" : PySem.Str)) = false)
  (ha : EltOK c a x scope fa) (hb : EltOK c b x scope fb) : EltOK c (.IfExp (.Compare (.Name x p) [.Eq] [.Constant (.str y) k p0] p1) a b pos) x scope (fun n => if (n == y.cps.toList) = true then fa n else fb n) :=
 fun C n u s m E Q hn hm f => by
  rw [arm_eval_IfExp]
  refine wpAny_bind (wpAny_isTrue_Compare1 (ldG (cenv := compEnv scope C c.env) hn hm (Constant_str (PySem.P.eq_str (wpAny_truthy_bool ?_))) hk hx hd) rfl)
  show wpAny c.M c.A (if (n == y.cps.toList) = true then eval a (compEnv scope C c.env) else eval b (compEnv scope C c.env)) Q E _
  dsimp only at f
  cases q : (n == y.cps.toList) with
  | true =>
   rw [q] at f
   exact ha C n u _ m E Q hn hm fun t tk => f t tk
  | false =>
   rw [q] at f
   exact hb C n u _ m E Q hn hm fun t tk => f t tk
noncomputable def dOf (f : List Nat → List Nat) (a : PySem.Str) : PyData := .str ⟨(f a.cps.toList).toArray⟩
theorem carried_rvs {ρ : List Addr} {f : List Nat → List Nat} : ∀ {l : List Nat} {ys : List Value}, CarriedAll ys ((l.map fun n => (⟨#[n]⟩ : PySem.Str)).map (dOf f)) → RVs ρ (l.map fun n => V.s (f [n])) ys
 | [], [], _ => trivial
 | [], _ :: _, h => by cases h
 | n :: l, [], h => by cases h
 | n :: l, y :: ys, h => by
  cases h with
  | cons a b =>
   have a' : Carried y (.str ⟨(f [n]).toArray⟩) := a
   cases a' with
   | str x t => exact ⟨⟨t, rfl⟩, carried_rvs b⟩
structure CompOK (scope : Scope) (x : PySem.Str) : Prop where
 free : ∀ y ∈ scope.names, y.2 ≠ .free
 cell : ∀ y ∈ scope.names, y.2 ≠ .cell
 kind : scope.kind = .function
 names : ∀ y ∈ scope.names, y.2 = .local → scope.names.lookup y.1 = some .local
 x : scope.names.lookup x = some .local
section
variable {c : Cx} {D : Nat} {loc loc₁ loc₂ : Ls} {sto sto₁ sto₂ : Sto} {o : Out}
theorem Opened.new' {hb : Heap} {ext : List (Addr × Obj)} {L : Addr} {m m' : PySem.Str → Option Value} {ofr : Frames} {ρ : List Addr} {sto : Sto} {h h' : Heap} {ps frs : List (Addr × Obj)} {x : Addr} {ox : Obj} {ob : Ob} (above : ∀ p ∈ ofr, hb.objs.size ≤ p.1) (X : Opened hb ext L m ofr ρ sto h ps frs)
  (F : Fr hb L h' m') (N : News hb L h' (ps ++ (ext ++ frs))) (hx : h'.get? x = some ox) (hL : x ≠ L) (hb0 : hb.get? x = none) (hn : ∀ p ∈ ps ++ (ext ++ frs), p.1 ≠ x) (r : RO (ρ ++ [x]) x ob [(x, ox)]) : Rel0 hb ext ((L, m') :: ofr) (ρ ++ [x]) (sto ++ [ob]) h' := by
 refine Opened.close (ps := ps ++ [(x, ox)]) (frs := frs) above ⟨F, fun p hp => ?_, ?_, X.O, ?_⟩
 ·rw [List.append_assoc] at hp
  rcases List.mem_append.mp hp with hp | hp
  ·exact N p (List.mem_append_left _ hp)
  ·rcases List.mem_append.mp hp with hp | hp
   ·rw [List.mem_singleton.mp hp]; exact ⟨hx, hL, hb0⟩
   ·exact N p (List.mem_append_right _ hp)
 ·exact (X.S.mono (Pfx.app ρ [x])).app ⟨[(x, ox)], [], by simp, r, rfl⟩
 ·have P : ((ps ++ [(x, ox)]) ++ (ext ++ frs)).Perm ((x, ox) :: (ps ++ (ext ++ frs))) := by
   rw [List.append_assoc]
   exact List.perm_middle
  refine (P.map _).nodup_iff.mpr ?_
  rw [List.map_cons, List.nodup_cons]
  refine ⟨fun hm => ?_, X.one⟩
  obtain ⟨q, hq, e⟩ := List.mem_map.mp hm
  exact hn q hq e
theorem tests_nil {w : World} {A : Around} {env : Env} {s : Shared} {E : Value → Shared → Prop} {Q : Bool → Shared → Prop} (h : Q true s) :
  wpAny (model pw w) A (forIn ([] : List PySem.Expr) true fun c r => if r = true then do let ok ← isTrue c env (eval c env); pure (ForInStep.yield ok) else pure (ForInStep.yield r)) Q E s := wpAny_pure h
theorem keeps_toks {s : Shared} {tk : Nat} : Keeps s { s with toks := tk } := ⟨s.heap, tk, rfl, fun _ _ e => e⟩
theorem signs_mk (l : List Nat) : signs (⟨l.toArray⟩ : PySem.Str) = l.map fun n => (⟨#[n]⟩ : PySem.Str) := by unfold signs; rw [toList_mk]
theorem elt_use {c : Cx} {elt : PySem.Expr} {x : PySem.Str} {scope : Scope} {f : List Nat → List Nat} (he : EltOK c elt x scope f) (C : Addr) (a : PySem.Str) (v : Value) (s₂ : Shared) (m₂ : PySem.Str → Option Value) (E' : Value → Shared → Prop) (ha : ItemKind.str.is a v)
  (hn : s₂.heap.Ns (compEnv scope C c.env).locals m₂) (hm : m₂ x = some v) : wpAny c.M c.A (eval elt (compEnv scope C c.env)) (fun r s₃ => Carried r (dOf f a) ∧ Keeps s₂ s₃) E' s₂ := by
 obtain ⟨t, rfl⟩ := ha
 obtain ⟨⟨l⟩⟩ := a
 exact he C l t s₂ m₂ E' _ hn hm fun t tk => ⟨.str _ t, keeps_toks⟩
theorem rl_put {ρ ρ' : List Addr} {loc : Ls} {m : PySem.Str → Option Value} {z : PySem.Str} {v : V} {val : Value} (RLx : RL ρ loc m) (p : Pfx ρ ρ') (rv : RV ρ' v val) : RL ρ' (put z.cps.toList v loc) (fun q => if q = z then some val else m q) := fun y u e => by
 rw [lk_put] at e
 by_cases q : z.cps.toList = y.cps.toList
 ·rw [if_pos q] at e
  have q' : y = z := (eq_of_cps q).symm
  cases e
  exact ⟨val, if_pos q', rv⟩
 ·rw [if_neg q] at e
  have q' : y ≠ z := fun w => q (by rw [w])
  obtain ⟨val', a, b⟩ := RLx y u e
  exact ⟨val', (if_neg q').trans a, b.mono p⟩
theorem len_line {l : List Nat} (hz : l.length ≤ 1000) : (⟨l.toArray⟩ : PySem.Str).length ≤ sizeLine := by rw [len_mk, sizeLine_eq]; lia
theorem ev_comp (hc : c.OK D) {elt : PySem.Expr} {x n : PySem.Str} {px pos np : Pos} {scope : Scope} {l : List Nat} {f : List Nat → List Nat} (ok : CompOK scope x) (hv : lk n.cps.toList loc = some (.s l)) (hk : c.scope.names.lookup n = some .local) (hd : (n == ("__debug__" : PySem.Str)) = false) (he : EltOK c elt x scope f) (hz : l.length ≤ 1000) :
  Ev c (.ListComp elt [⟨.Name x px, .Name n np, [], 0⟩] scope pos) loc sto (.d sto.length) (sto ++ [.list (l.map fun n => .s (f [n]))]) := fun ρ s E Q R k => by
 have ab := R.above
 obtain ⟨m, RLx, R0⟩ := id R
 obtain ⟨val, hm, t, rfl⟩ := RLx n _ hv
 obtain ⟨ps, frs, X⟩ := R0.open
 have hl := X.S.length
 refine ListComp_signsD (h₀ := c.hb) (L := c.L) (m := m) (news := ps ++ (c.ext ++ frs)) (pz := fun _ => true) (d := dOf f) hc.handled ok.free ok.cell ok.kind ok.names ok.x (ld X.F hm ⟨_, t, rfl, len_line hz, X.F, X.N, fun C a v s₂ m₂ E' _ _ _ => tests_nil ⟨rfl, s₂.heap, s₂.toks, rfl, fun _ _ e => e⟩, ?_, ?_⟩ hc.kind hk hd) (fun y => rfl)
 ·exact fun C a v s₂ m₂ E' ha _ hn hm => elt_use he C a v s₂ m₂ E' ha hn hm
 ·intro D' ys h' tk F' N' hD0 hlD hplD hF
  rw [signs_mk, List.filter_eq_self.mpr (fun _ _ => rfl)] at hF
  obtain ⟨⟨n', en⟩, hne⟩ := id hplD
  refine k _ (ρ ++ [D']) (.ref D') (Pfx.app _ _) ⟨D', ?_, rfl⟩ ⟨m, RLx.mono (Pfx.app _ _), X.new' ab F' N' en (hplD.ne_locals F') hD0 hne ⟨ys, n', carried_rvs hF, rfl⟩⟩ ⟨rfl, rfl⟩
  rw [hl, List.getElem?_append_right (Nat.le_refl _), Nat.sub_self]; rfl
theorem sx_comp (hc : c.OK D) {elt : PySem.Expr} {x n z : PySem.Str} {px pos np zp spos : Pos} {scope : Scope} {l : List Nat} {f : List Nat → List Nat} (ok : CompOK scope x) (hv : lk n.cps.toList loc = some (.s l)) (hk : c.scope.names.lookup n = some .local) (hd : (n == ("__debug__" : PySem.Str)) = false) (he : EltOK c elt x scope f) (hz : l.length ≤ 1000)
  (hsw : swapsWith (.ListComp elt [⟨.Name x px, .Name n np, [], 0⟩] scope pos) (some (.Name z zp)) spos.line c.env = pure true) (hkz : c.scope.names.lookup z = some .local) :
  Sx c (exec (.Assign [.Name z zp] (.ListComp elt [⟨.Name x px, .Name n np, [], 0⟩] scope pos) spos) c.env) loc sto .next (put z.cps.toList (.d sto.length) loc) (sto ++ [.list (l.map fun n => .s (f [n]))]) := fun ρ s Q E R pe P => by
 have ab := R.above
 obtain ⟨m, RLx, R0⟩ := id R
 obtain ⟨val, hm, t, rfl⟩ := RLx n _ hv
 obtain ⟨ps, frs, X⟩ := R0.open
 have hl := X.S.length
 refine Assign_ListComp_signsD (h₀ := c.hb) (L := c.L) (m := m) (news := ps ++ (c.ext ++ frs)) (pz := fun _ => true) (d := dOf f) hsw hc.handled ok.free ok.cell ok.kind ok.names ok.x hkz ?_ (ld X.F hm ⟨_, t, rfl, len_line hz, X.F, X.N, fun C a v s₂ m₂ E' _ _ _ => tests_nil ⟨rfl, s₂.heap, s₂.toks, rfl, fun _ _ e => e⟩, ?_, ?_⟩ hc.kind hk hd) (fun y => rfl)
 ·show (c.scope.kind == .class || (c.scope.kind == .module && _)) = false
  rw [hc.kind]; rfl
 ·exact fun C a v s₂ m₂ E' ha _ hn hm => elt_use he C a v s₂ m₂ E' ha hn hm
 ·intro D' ys h' tk F' N' hD0 hlD hplD hF
  rw [signs_mk, List.filter_eq_self.mpr (fun _ _ => rfl)] at hF
  obtain ⟨⟨n', en⟩, hne⟩ := id hplD
  have hlen : (ρ ++ [D'])[sto.length]? = some D' := by rw [hl, List.getElem?_append_right (Nat.le_refl _), Nat.sub_self]; rfl
  exact P _ (ρ ++ [D']) (Pfx.app _ _) ⟨_, rl_put RLx (Pfx.app _ _) ⟨D', hlen, rfl⟩, X.new' ab F' N' en (hplD.ne_locals F') hD0 hne ⟨ys, n', carried_rvs hF, rfl⟩⟩ ⟨rfl, rfl⟩
end
end
section
/-! ### a new object, and a method of an object that has no name -/
section
variable {c : Cx} {D : Nat} {loc loc₁ loc₂ : Ls} {sto sto₁ sto₂ : Sto} {o : Out}
noncomputable abbrev tcCode (C : Addr) : Code := .builtin "type.__call__" ⟨[.ref C], []⟩
theorem tc_envs (C : Addr) : (tcCode C).envs = [] := by rfl
theorem tc_weight0 : (tcCode 1005).weight ≤ 10 := by decide +kernel
theorem tc_units0 : (tcCode 1005).cUnits ≤ 50 := by decide +kernel
structure NewOK (P : Params) (C fI : Addr) : Prop where
 makes : makesIn (KP P) C = true
 init : findIn (KP P) (.ref C) "__init__" = some (some (.ref fI))
 fn : isFn (KP P) (.ref fI) = true
 keep : keepIn (KP P) (.ref C) = true
noncomputable def newB (P : Params) (C fI : Addr) : Bool := makesIn (KP P) C && findIn (KP P) (.ref C) "__init__" == some (some (.ref fI)) && isFn (KP P) (.ref fI) && keepIn (KP P) (.ref C)
theorem newOK_of {P : Params} {C fI : Addr} (h : newB P C fI = true) : NewOK P C fI := by
 unfold newB at h
 simp only [Bool.and_eq_true, beq_iff_eq] at h
 exact ⟨h.1.1.1, h.1.1.2, h.1.2, h.2⟩
theorem new_self (P : Params) : newB P 1005 35 = true := by kernel_rfl
theorem pushEnvs_nil (x : Option (List Env)) : pushEnvs [] x = x := by cases x <;> rfl
theorem ev_new (hc : c.OK (D + 2)) {n : PySem.Str} {np pos : Pos} {C fI : Addr} {y : Ob} (hw : (tcCode C).weight ≤ 10) (hun : (tcCode C).cUnits ≤ 50) (h : Ev c (.Name n np) loc sto (.a C) sto) (ok : NewOK c.w.params C fI) (hcall : CallS D fI [.d 0] [.inst C []] .none [y]) (hy : flatO y) :
  Ev c (.Call (.Name n np) [] [] pos) loc sto (.d sto.length) (sto ++ [y]) := fun ρ s E Q R k => by
 rw [arm_eval_Call_Name']
 refine wpAny_bind (h ρ s E _ R fun s₁ ρ₁ x p₁ rx R₁ m₁ => ?_)
 have rx' : x = .ref C := rx
 subst rx'
 refine callWith_K0 (hc.base.K.keeps R₁.keep) ok.keep ?_
 have ab := R₁.above
 obtain ⟨m, RLx, R0⟩ := id R₁
 obtain ⟨ps, frs, X⟩ := R0.open
 have hl := X.S.length
 refine call_cls X.F hc.base.K X.N ok.makes ok.init ok.fn fun x dx h' F' N' l1 l2 => ?_
 have hxd : x ≠ dx := fun e => by rw [e] at l2; exact Nat.lt_irrefl _ l2
 have NX : ∀ p ∈ ps ++ (c.ext ++ frs), p.1 ≠ x ∧ p.1 ≠ dx := fun p hp => ⟨fun e => by have := l1 p hp; rw [e] at this; exact absurd (Nat.lt_trans this l2) (Nat.lt_irrefl _), fun e => by have := l1 p hp; rw [e] at this; exact Nat.lt_irrefl _ this⟩
 have hlen : (ρ₁ ++ [x])[sto.length]? = some x := by rw [hl, List.getElem?_append_right (Nat.le_refl _), Nat.sub_self]; rfl
 have RF0 : RF (ρ₁ ++ [x]) [] [] := ⟨fun _ _ e => by simp [lk] at e, fun _ _ => rfl, fun e he => by simp at he, Nat.le_refl _, by simp⟩
 have R2 : Rel0 c.hb c.ext ((c.L, m) :: c.ofr) (ρ₁ ++ [x]) (sto ++ [.inst C []]) h' := by
  refine Opened.close (ps := ps ++ [(x, instObj C dx), (dx, dictOf [] 0)]) (frs := frs) ab ⟨F', fun p hp => ?_, (X.S.mono (Pfx.app ρ₁ [x])).app ⟨_, [], (List.append_nil _).symm, ⟨dx, [], 0, RF0, rfl⟩, rfl⟩, X.O, ?_⟩
  ·rw [List.append_assoc] at hp
   rcases List.mem_append.mp hp with hp | hp
   ·exact N' p (List.mem_cons_of_mem _ (List.mem_cons_of_mem _ (List.mem_append_left _ hp)))
   ·rcases List.mem_append.mp hp with hp | hp
    ·rcases List.mem_cons.mp hp with rfl | hp
     ·exact N' _ List.mem_cons_self
     ·rw [List.mem_singleton.mp hp]; exact N' _ (List.mem_cons_of_mem _ List.mem_cons_self)
    ·exact N' p (List.mem_cons_of_mem _ (List.mem_cons_of_mem _ (List.mem_append_right _ hp)))
  ·have P : ((ps ++ [(x, instObj C dx), (dx, dictOf [] 0)]) ++ (c.ext ++ frs)).Perm ((x, instObj C dx) :: (dx, dictOf [] 0) :: (ps ++ (c.ext ++ frs))) := by
    rw [List.append_assoc]
    exact (List.perm_middle (a := (x, instObj C dx)) (l₁ := ps)).trans (List.Perm.cons _ List.perm_middle)
   refine (P.map _).nodup_iff.mpr ?_
   rw [List.map_cons, List.map_cons, List.nodup_cons, List.nodup_cons]
   refine ⟨fun hm => ?_, fun hm => ?_, X.one⟩
   ·rcases List.mem_cons.mp hm with e | hm
    ·exact hxd e
    ·obtain ⟨q, hq, e⟩ := List.mem_map.mp hm
     exact (NX q hq).1 e
   ·obtain ⟨q, hq, e⟩ := List.mem_map.mp hm
    exact (NX q hq).2 e
 have hlink : Link (c.env :: c.outer) ((c.L, m) :: c.ofr) := ⟨by show c.scope.kind ≠ .module; rw [hc.kind]; decide, rfl, hc.link⟩
 have hr := hc.room
 have hu := hc.units
 have fr0 : flatS [Ob.inst C []] := fun ob hob => by
  rw [List.mem_singleton.mp hob]
  exact fun x v e => by simp [lk] at e
 have fr1 : flatS [y] := fun ob hob => by rw [List.mem_singleton.mp hob]; exact hy
 have hcall' := hcall.frame fr0 fr1 sto
 refine hcall' c.w c.hb c.ext ((c.L, m) :: c.ofr) (ρ₁ ++ [x]) (c.A.under (tcCode C)) (c.env :: c.outer) hc.base ?_ hlink hc.handled ?_ ?_ { s₁ with heap := h' } [.ref x] _ ⟨⟨x, hlen, rfl⟩, trivial⟩ R2 ?_
 ·show pushEnvs (tcCode C).envs c.A.frames = _
  rw [tc_envs, pushEnvs_nil]
  exact Around.frames_deeper hc.frames
 ·show c.A₀.depth + 1 + (tcCode C).weight + 20 * D + 20 ≤ 900
  lia
 ·show c.A₀.units + 3 + (tcCode C).cUnits + 100 * D + 100 ≤ 9000
  lia
 ·intro s' ρ' val pf rv R3 sm
  refine ⟨rv, ?_⟩
  exact k s' ρ' (.ref x) ((p₁.trans (Pfx.app _ _)).trans pf) ⟨x, pf _ _ hlen, rfl⟩ ⟨m, RLx.mono ((Pfx.app _ _).trans pf), R3⟩ ⟨m₁.gens ▸ sm.gens, m₁.os ▸ sm.os⟩
theorem base_call {x name : PySem.Str} {p q : Pos} (hx : (x != ("super" : PySem.Str)) = true) (t : Sem Value) (s : Shared) (E : Value → Shared → Prop) (Q : Value → Shared → Prop) (h : wpAny c.M c.A t Q E s) : wpAny c.M c.A (attributeBase (.Call (.Name x p) [] [] q) name c.env t) Q E s := by
 unfold attributeBase
 dsimp only
 rw [hx]
 simp only [Bool.true_or, if_true]
 exact h
end
end
section
/-! ### what nobody reads is let go -/
noncomputable def closeV (n : Nat) : V → Prop
 | .d k => k < n
 | _ => True
theorem RV.close {ρ : List Addr} : ∀ {v : V} {x : Value}, RV ρ v x → closeV ρ.length v
 | .none, _, _ => trivial
 | .b _, _, _ => trivial
 | .i _, _, _ => trivial
 | .s _, _, _ => trivial
 | .a _, _, _ => trivial
 | .d k, _, ⟨y, e, _⟩ => (List.getElem?_eq_some_iff.mp e).1
theorem RV.cut {ρ ρ' : List Addr} (p : Pfx ρ ρ') : ∀ {v : V} {x : Value}, closeV ρ.length v → RV ρ' v x → RV ρ v x
 | .none, _, _, e => e
 | .b _, _, _, e => e
 | .i _, _, _, e => e
 | .s _, _, _, e => e
 | .a _, _, _, e => e
 | .d k, _, h, ⟨y, e, r⟩ => by
  have h' : k < ρ.length := h
  have e1 : ρ[k]? = some ρ[k] := List.getElem?_eq_getElem h'
  have e2 := p k _ e1
  rw [e] at e2
  exact ⟨y, by rw [e1, Option.some.inj e2], r⟩
theorem RVs.cut {ρ ρ' : List Addr} (p : Pfx ρ ρ') : ∀ {v : List V} {x x' : List Value}, RVs ρ v x → RVs ρ' v x' → RVs ρ v x'
 | [], [], [], _, _ => trivial
 | _ :: _, _ :: _, _ :: _, h, g => ⟨g.1.cut p h.1.close, RVs.cut p h.2 g.2⟩
 | [], _ :: _, _, h, _ => h.elim
 | _ :: _, [], _, h, _ => h.elim
 | [], [], _ :: _, _, h => h.elim
 | _ :: _, _ :: _, [], _, h => h.elim
theorem RO.cut {ρ ρ' : List Addr} (p : Pfx ρ ρ') {x x' : Addr} {ps ps' : List (Addr × Obj)} : ∀ {o : Ob}, RO ρ x o ps → RO ρ' x' o ps' → RO ρ x' o ps'
 | .list _, ⟨ws, n, a, b⟩, ⟨ws', n', a', b'⟩ => ⟨ws', n', RVs.cut p a a', b'⟩
 | .tup _, ⟨ws, n, a, b⟩, ⟨ws', n', a', b'⟩ => ⟨ws', n', RVs.cut p a a', b'⟩
 | .inst _ _, ⟨dx, es, n, a, b⟩, ⟨dx', es', n', a', b'⟩ => ⟨dx', es', n', ⟨fun x v e => by
   obtain ⟨val, g1, g2⟩ := a'.1 x v e
   obtain ⟨val0, _, g3⟩ := a.1 x v e
   exact ⟨val, g1, g2.cut p g3.close⟩, a'.2⟩, b'⟩
theorem RS.cut {ρ ρ' : List Addr} (p : Pfx ρ ρ') : ∀ {os : Sto} {xs xs' : List Addr} {ps ps' : List (Addr × Obj)}, RS ρ os xs ps → RS ρ' os xs' ps' → RS ρ os xs' ps'
 | [], [], [], _, _, _, h => h
 | _ :: _, _ :: _, _ :: _, _, _, ⟨p1, q1, _, a1, b1⟩, ⟨p2, q2, e2, a2, b2⟩ => ⟨p2, q2, e2, a1.cut p a2, RS.cut p b1 b2⟩
 | [], _ :: _, _, _, _, h, _ => h.elim
 | _ :: _, [], _, _, _, h, _ => h.elim
 | [], [], _ :: _, _, _, _, h => h.elim
 | _ :: _, _ :: _, [], _, _, _, h => h.elim
theorem pfx_take {ρ ρ' : List Addr} (p : Pfx ρ ρ') {x1 x2 : List Addr} (e : ρ' = x1 ++ x2) (hl : x1.length = ρ.length) : x1 = ρ := by
 apply List.ext_getElem hl
 intro i h1 h2
 have := p i _ (List.getElem?_eq_getElem h2)
 rw [e, List.getElem?_append_left h1, List.getElem?_eq_getElem h1] at this
 exact Option.some.inj this
section
variable {c : Cx} {D : Nat} {loc loc₁ loc₂ : Ls} {sto sto₁ sto₂ junk : Sto} {o : Out}
theorem Rel0.dropJ {hb : Heap} {ext : List (Addr × Obj)} {fr fr' : Frames} {ρ ρ' : List Addr} {h h' : Heap} (R : Rel0 hb ext fr ρ sto h) (R' : Rel0 hb ext fr' ρ' (sto ++ junk) h') (p : Pfx ρ ρ') : Rel0 hb ext fr' ρ sto h' := by
 obtain ⟨ps0, frs0, S0, O0, T0⟩ := R.has
 obtain ⟨ps, frs, S, O, T⟩ := R'.has
 obtain ⟨x1, x2, p1, p2, e1, rfl, hl, h1, h2⟩ := S.split
 have hx1 : x1 = ρ := pfx_take p e1 (by rw [hl, S0.length])
 subst hx1
 have P1 : (frs ++ (p1 ++ p2 ++ ext)).Perm (p2 ++ (frs ++ (p1 ++ ext))) := by
  have a : (p1 ++ p2 ++ ext).Perm (p2 ++ (p1 ++ ext)) := by
   rw [← List.append_assoc]
   exact List.Perm.append_right _ List.perm_append_comm
  refine (List.Perm.append_left frs a).trans ?_
  rw [← List.append_assoc frs p2, ← List.append_assoc p2 frs]
  exact List.Perm.append_right _ List.perm_append_comm
 have T1 := T.perm P1
 refine ⟨R'.keep, R'.big, R'.above, p1, frs, RS.cut p S0 h1, O, fun q hq => T1.at_ q (List.mem_append_right _ hq), fun q hq => T1.new q (List.mem_append_right _ hq), ?_⟩
 have := T1.one
 rw [List.map_append] at this
 exact (List.nodup_append.mp this).2.1
theorem tst_drop {e : PySem.Expr} {b : Bool} (h : Tst c e loc sto b (sto ++ junk)) : Tst c e loc sto b sto := fun ρ s E Q R f =>
 h ρ s E Q R fun s' ρ' x p ex R' sm => by
  obtain ⟨m, RLx, R0⟩ := R
  obtain ⟨m', RLx', R0'⟩ := R'
  refine f s' ρ x (Pfx.refl _) ex ⟨m', fun y v e => ?_, R0.dropJ R0' p⟩ sm
  obtain ⟨val, a, b⟩ := RLx' y v e
  obtain ⟨val0, a0, b0⟩ := RLx y v e
  exact ⟨val, a, b.cut p b0.close⟩
noncomputable def flatL : Ls → Bool
 | [] => true
 | (_, v) :: r => flatV v && flatL r
theorem flatL_ok : ∀ {l : Ls}, flatL l = true → ∀ {x v}, lk x l = some v → flatV v = true
 | [], _, x, v, e => by simp [lk] at e
 | (k, u) :: r, h, x, v, e => by
  rw [flatL, Bool.and_eq_true] at h
  unfold lk at e
  cases q : eqK k x with
  | true => rw [q] at e; cases e; exact h.1
  | false => rw [q] at e; exact flatL_ok h.2 e
theorem sx_drop {t : Sem Flow} (h : Sx c t loc sto .next loc₁ (sto ++ junk)) (fl : flatL loc₁ = true) : Sx c t loc sto .next loc₁ sto := fun ρ s Q E R pe P =>
 h ρ s Q E R pe fun s' ρ' p R' sm => by
  obtain ⟨m, RLx, R0⟩ := R
  obtain ⟨m', RLx', R0'⟩ := R'
  refine P s' ρ (Pfx.refl _) ⟨m', fun y v e => ?_, R0.dropJ R0' p⟩ sm
  obtain ⟨val, a, b⟩ := RLx' y v e
  exact ⟨val, a, b.flat (flatL_ok fl e)⟩
end
/-! ### the law's functions called -/
noncomputable def lawFns : List Addr := [1094, 1101, 1108, 1113, 1118]
theorem lawKeep (P : Params) : (lawFns.all fun a => keepIn (KP P) (.ref a)) = true := by kernel_rfl
theorem keep_at {P : Params} {a : Addr} (h : lawFns.contains a = true) : keepIn (KP P) (.ref a) = true := all_mem (lawKeep P) (by simpa using h)
theorem lift0 {D : Nat} {f : Addr} {args : List V} {v : V} (h : CallS D f args [] v []) (ha : args.all flatV = true) (hv : flatV v = true) (sto : Sto) : CallS D f args sto v sto := by
 have := h.frame (fun _ q => by simp at q) (fun _ q => by simp at q) sto
 have e1 : args.map (sh sto.length) = args := by
  have : ∀ a ∈ args, sh sto.length a = a := fun a ha' => by
   have := List.all_eq_true.mp ha a ha'
   cases a <;> first | rfl | cases this
  exact (List.map_congr_left this).trans (List.map_id _)
 have e2 : sh sto.length v = v := by cases v <;> first | rfl | cases hv
 rw [e1, e2, List.append_nil] at this
 exact this
theorem lift1 {D : Nat} {f : Addr} {args : List V} {o : Ob} (h : CallS D f args [] (.d 0) [o]) (ha : args.all flatV = true) (ho : flatO o) (sto : Sto) : CallS D f args sto (.d sto.length) (sto ++ [o]) := by
 have := h.frame (fun _ q => by simp at q) (fun x q => by rw [List.mem_singleton.mp q]; exact ho) sto
 have e1 : args.map (sh sto.length) = args := by
  have : ∀ a ∈ args, sh sto.length a = a := fun a ha' => by
   have := List.all_eq_true.mp ha a ha'
   cases a <;> first | rfl | cases this
  exact (List.map_congr_left this).trans (List.map_id _)
 rw [e1, List.append_nil] at this
 exact this
end
structure RowL where
 tup : Addr
 put_ : List Nat
 lst : Addr
 ends : List (List Nat)
noncomputable def ckTabL (P : Params) (x : Addr) (t : List RowL) : Bool := ckL P x (t.map fun r => .a r.tup) && t.all fun r => ckT P r.tup [.s r.put_, .a r.lst] && ckL P r.lst (r.ends.map .s)
structure TabL (P : Params) (x : Addr) (t : List RowL) : Prop where
 list : StL P x (t.map fun r => .a r.tup)
 tups : ∀ r ∈ t, StT P r.tup [.s r.put_, .a r.lst]
 ends : ∀ r ∈ t, StL P r.lst (r.ends.map .s)
theorem tabL_of {P : Params} {x : Addr} {t : List RowL} (h : ckTabL P x t = true) : TabL P x t := by
 unfold ckTabL at h
 rw [Bool.and_eq_true] at h
 have g : ∀ r ∈ t, ckT P r.tup [.s r.put_, .a r.lst] = true ∧ ckL P r.lst (r.ends.map .s) = true := fun r hr => by
  have := List.all_eq_true.mp h.2 r hr
  rw [Bool.and_eq_true] at this
  exact this
 exact ⟨stL_of h.1, fun r hr => stT_of (g r hr).1, fun r hr => stL_of (g r hr).2⟩
noncomputable def tl_law_articles : List RowL := [⟨1048, [], 1047, [[117, 108], [117, 108, 117, 105]]⟩, ⟨1050, [97], 1049, [[97, 117, 97]]⟩, ⟨1052, [101], 1051, [[101, 97], [101, 108, 101], [101, 108, 111, 114]]⟩, ⟨1054, [105], 1053, [[105, 105], [105, 117, 97], [105, 101, 105], [105, 105, 108, 101], [105, 105, 108, 111, 114], [105, 108, 111, 114], [105, 108, 101]]⟩, ⟨1056, [97, 116], 1055, [[97, 116, 101, 105]]⟩, ⟨1058, [97, 539, 105], 1057, [[97, 539, 105, 101], [97, 539, 105, 97]]⟩]
theorem ck_law_articles (P : Params) : ckTabL P 1059 tl_law_articles = true := by kernel_rfl
noncomputable def tl_law_compound : List RowL := [⟨1061, [97, 98, 105, 108], 1060, [[97, 98, 105, 108, 105, 116, 97, 116, 101], [97, 98, 105, 108, 105, 116, 97, 116, 105], [97, 98, 105, 108, 105, 116, 259, 105], [97, 98, 105, 108, 105, 116, 259, 539, 105]]⟩, ⟨1063, [105, 98, 105, 108], 1062, [[105, 98, 105, 108, 105, 116, 97, 116, 101]]⟩, ⟨1065, [105, 118], 1064, [[105, 118, 105, 116, 97, 116, 101], [105, 118, 105, 116, 97, 116, 105], [105, 118, 105, 116, 259, 105], [105, 118, 105, 116, 259, 539, 105]]⟩, ⟨1067, [105, 99], 1066, [[105, 99, 105, 116, 97, 116, 101], [105, 99, 105, 116, 97, 116, 105], [105, 99, 105, 116, 259, 105], [105, 99, 105, 116, 259, 539, 105], [105, 99, 97, 116, 111, 114], [105, 99, 97, 116, 111, 114, 105], [105, 99, 105, 118], [105, 99, 105, 118, 97], [105, 99, 105, 118, 101], [105, 99, 105, 118, 105], [105, 99, 105, 118, 259], [105, 99, 97, 108], [105, 99, 97, 108, 97], [105, 99, 97, 108, 101], [105, 99, 97, 108, 105], [105, 99, 97, 108, 259]]⟩, ⟨1069, [97, 116], 1068, [[97, 116, 105, 118], [97, 116, 105, 118, 97], [97, 116, 105, 118, 101], [97, 116, 105, 118, 105], [97, 116, 105, 118, 259], [97, 539, 105, 117, 110, 101], [97, 116, 111, 97, 114, 101], [97, 116, 111, 114], [97, 116, 111, 114, 105], [259, 116, 111, 97, 114, 101], [259, 116, 111, 114], [259, 116, 111, 114, 105]]⟩, ⟨1071, [105, 116], 1070, [[105, 116, 105, 118], [105, 116, 105, 118, 97], [105, 116, 105, 118, 101], [105, 116, 105, 118, 105], [105, 116, 105, 118, 259], [105, 539, 105, 117, 110, 101], [105, 116, 111, 97, 114, 101], [105, 116, 111, 114], [105, 116, 111, 114, 105]]⟩]
theorem ck_law_compound (P : Params) : ckTabL P 1072 tl_law_compound = true := by kernel_rfl
noncomputable def tl_law_plain : List RowL := [⟨1074, [], 1073, [[97, 116], [97, 116, 97], [97, 116, 259], [97, 116, 105], [97, 116, 101], [117, 116], [117, 116, 97], [117, 116, 259], [117, 116, 105], [117, 116, 101], [105, 116], [105, 116, 97], [105, 116, 259], [105, 116, 105], [105, 116, 101], [105, 99], [105, 99, 97], [105, 99, 101], [105, 99, 105], [105, 99, 259], [97, 98, 105, 108], [97, 98, 105, 108, 97], [97, 98, 105, 108, 101], [97, 98, 105, 108, 105], [97, 98, 105, 108, 259], [105, 98, 105, 108], [105, 98, 105, 108, 97], [105, 98, 105, 108, 101], [105, 98, 105, 108, 105], [105, 98, 105, 108, 259], [111, 97, 115, 97], [111, 97, 115, 259], [111, 97, 115, 101], [111, 115], [111, 115, 105], [111, 537, 105], [97, 110, 116], [97, 110, 116, 97], [97, 110, 116, 101], [97, 110, 116, 105], [97, 110, 116, 259], [97, 116, 111, 114], [97, 116, 111, 114, 105], [105, 116, 97, 116, 101], [105, 116, 97, 116, 105], [105, 116, 259, 105], [105, 116, 259, 539, 105], [105, 118], [105, 118, 97], [105, 118, 101], [105, 118, 105], [105, 118, 259]]⟩, ⟨1076, [116], 1075, [[105, 117, 110, 101], [105, 117, 110, 105]]⟩, ⟨1078, [105, 115, 116], 1077, [[105, 115, 109], [105, 115, 109, 101], [105, 115, 116], [105, 115, 116, 97], [105, 115, 116, 101], [105, 115, 116, 105], [105, 115, 116, 259], [105, 537, 116, 105]]⟩]
theorem ck_law_plain (P : Params) : ckTabL P 1079 tl_law_plain = true := by kernel_rfl
noncomputable def tl_law_verbal : List RowL := [⟨1081, [98, 101, 104, 105, 110, 100], 1080, [[97, 114, 101], [101, 114, 101], [105, 114, 101], [226, 114, 101], [105, 110, 100], [226, 110, 100], [105, 110, 100, 117], [226, 110, 100, 117], [101, 122, 101], [101, 97, 115, 99, 259], [101, 122], [101, 122, 105], [101, 97, 122, 259], [101, 115, 99], [101, 537, 116, 105], [101, 537, 116, 101], [259, 115, 99], [259, 537, 116, 105], [259, 537, 116, 101], [97, 109], [97, 105], [97, 117], [101, 97, 109], [101, 97, 105], [101, 97], [101, 97, 539, 105], [101, 97, 117], [105, 97, 109], [105, 97, 105], [105, 97], [105, 97, 539, 105], [105, 97, 117], [117, 105], [97, 537, 105], [97, 114, 259, 109], [97, 114, 259, 539, 105], [97, 114, 259], [117, 537, 105], [117, 114, 259, 109], [117, 114, 259, 539, 105], [117, 114, 259], [105, 537, 105], [105, 114, 259, 109], [105, 114, 259, 539, 105], [105, 114, 259], [226, 105], [226, 537, 105], [226, 114, 259, 109], [226, 114, 259, 539, 105], [226, 114, 259], [97, 115, 101, 109], [97, 115, 101, 537, 105], [97, 115, 101], [97, 115, 101, 114, 259, 109], [97, 115, 101, 114, 259, 539, 105], [97, 115, 101, 114, 259], [105, 115, 101, 109], [105, 115, 101, 537, 105], [105, 115, 101], [105, 115, 101, 114, 259, 109], [105, 115, 101, 114, 259, 539, 105], [105, 115, 101, 114, 259], [226, 115, 101, 109], [226, 115, 101, 537, 105], [226, 115, 101], [226, 115, 101, 114, 259, 109], [226, 115, 101, 114, 259, 539, 105], [226, 115, 101, 114, 259], [117, 115, 101, 109], [117, 115, 101, 537, 105], [117, 115, 101], [117, 115, 101, 114, 259, 109], [117, 115, 101, 114, 259, 539, 105], [117, 115, 101, 114, 259]]⟩, ⟨1083, [97, 110, 121], 1082, [[259, 109], [97, 539, 105], [101, 109], [101, 539, 105], [105, 109], [105, 539, 105], [226, 109], [226, 539, 105], [115, 101, 537, 105], [115, 101, 114, 259, 109], [115, 101, 114, 259, 539, 105], [115, 101, 114, 259], [115, 101, 105], [115, 101], [115, 101, 115, 101, 109], [115, 101, 115, 101, 537, 105], [115, 101, 115, 101], [115, 101, 115, 101, 114, 259, 109], [115, 101, 115, 101, 114, 259, 539, 105], [115, 101, 115, 101, 114, 259]]⟩]
theorem ck_law_verbal (P : Params) : ckTabL P 1084 tl_law_verbal = true := by kernel_rfl
noncomputable def tl_law_last : List RowL := [⟨1086, [], 1085, [[97], [101], [105], [105, 101], [259]]⟩]
theorem ck_law_last (P : Params) : ckTabL P 1087 tl_law_last = true := by kernel_rfl
noncomputable def lettersL : List Nat := [97, 101, 105, 111, 117, 259, 226, 238, 98, 99, 100, 102, 103, 104, 106, 107, 108, 109, 110, 112, 113, 114, 115, 116, 118, 119, 120, 121, 122, 537, 539, 351, 355, 73, 85, 45]
theorem ck_letters (P : Params) : globS P (S "_law_letters") lettersL = true := by kernel_rfl
noncomputable def globsL : List (PySem.Str × Addr) := [(S "_law_articles", 1059), (S "_law_compound", 1072), (S "_law_plain", 1079), (S "_law_verbal", 1084), (S "_law_last", 1087)]
theorem globsL_ok (P : Params) : (globsL.all fun x => nsIn (KP P) mainGlobals x.1 == some (some (.ref x.2))) = true := by kernel_rfl
theorem globL_at {P : Params} {x : PySem.Str} {a : Addr} (h : globsL.lookup x = some a) : nsIn (KP P) mainGlobals x = some (some (.ref a)) := by
 have q := List.all_eq_true.mp (globsL_ok P) (x, a) (mem_of_lookup h)
 dsimp only at q
 exact beq_iff_eq.mp q
section
def wB3 : String → String
 | "m op" => "_ _||op_ge op_gt op_le op_lt op_eq op_ne op_eqS op_neS op_neB op_add op_sub op_iadd op_isub;_ _ hz|hz=num|op_addS op_mod;hc q hx|hc=a q=isL hx=r|in_list;hc qu qv hz|hc=a qu=isL qv=isL hz=num|add_L"
 | "m ev" => "_ _ _||ev_int ev_str ev_bool;hc hv hk hd|hc=a hv=r hk=local hd=k|ev_local;hc e hk hd|hc=a e=t15 hk=local hd=k|ev_global;hc e hk hd|hc=a e=t16 hk=local hd=k|ev_global_s;h g ho|h=ev g=ev ho=op|ev_bin;h|h=ev|ev_neg;hm h g ho|hm=r h=ev g=ev ho=op|ev_cmp;h g|h=tst g=ife|ev_ife;hs h hz|hs=r h=evl hz=le|ev_list ev_tuple;hc h ga gb h0 h1 h2 hz|hc=a h=ev ga=ev gb=ev h0=o h1=o h2=o hz=o|ev_sub_ss;hc h ga h0 hz|hc=a h=ev ga=ev h0=num hz=num|ev_sub_sn;hc h gb h0 h2 hz|hc=a h=ev gb=ev h0=num h2=num hz=num|ev_sub_ns;hi h g h0 h1 hx|hi=r h=ev g=ev h0=o h1=o hx=hx|ev_sub_str;hc hi h g q h0 h1 hx|hc=a hi=r h=ev g=ev q=isL h0=o h1=o hx=hx|ev_sub_list;hc %bi_len hk hs h hb|hc=a hk=local hs=r h=ev hb=t18|builtin1;hc %bi_min hk hs h h' hb|hc=a hk=local hs=r h=ev h'=ev hb=t19|builtin2;hc %bi_max hk hs h h' hb|hc=a hk=local hs=r h=ev h'=ev hb=t20|builtin2;hb hs hline h g|hb=r hs=r hline=r h=ev g=evl|ev_endswith;hc hb hs hline h ek₁ g ek hz|hc=a hb=r hs=r hline=r h=ev ek₁=r g=evl ek=r hz=num|ev_append;hc hs hk h g hcall|hc=a hs=r h=ev hk=t21 g=evl hcall=hcall|ev_call"
 | "m hcall" => "_ _ _||L_vowel;a"
 | "m tst" => "||ev_true tst_and_nil tst_or_nil;hm h g ho|hm=r h=ev g=ev ho=op|tst_cmp;h|h=tst|tst_not;h g|h=tst g=t11|tst_and;h g|h=tst g=t12|tst_or;hp h|hp=r h=ev|tst_ev"
 | "m sx" => "_||sx_pass sx_break sx_continue;h|h=ev|sx_return;hc hcomp h hk|hc=a hcomp=r h=ev hk=local|sx_assign;hc hcomp hnt h hx hy q|hc=a hcomp=r hnt=r h=ev hx=local hy=local q=t28|sx_assign_two;hc hv hk h hop|hc=a hv=r hk=local h=ev hop=op|sx_aug;hc hcomp h|hc=a hcomp=r h=ev|sx_expr;h g|h=tst g=ifg|sx_ifg;while"
 | "m bool" => "r;a;bul"
 | "m sxs" => "||sx_nil;~h g|h=sx g=sq|sxq"
 | _ => ""
local macro_rules | `(tactic| walk_at $s:str) => wF (wB3 s.getString)
/-! ### _law_vowel -/
noncomputable def lawVs : List (List Nat) := [[97], [101], [105], [111], [117], [259], [226], [238]]
theorem lawV_eq (l : List Nat) : lawVs.any (· == l) = isVow l := by
 unfold isVow
 split
 ·rename_i n
  apply Bool.eq_iff_iff.mpr
  rw [List.any_eq_true, List.any_eq_true]
  simp [lawVs, vowels]
  lia
 ·rename_i h
  rw [List.any_eq_false]
  intro x hx e
  have e' : x = l := by simpa using e
  subst e'
  simp [lawVs] at hx
  rcases hx with rfl | rfl | rfl | rfl | rfl | rfl | rfl | rfl <;> exact h _ rfl
theorem L_vowel0 (D : Nat) (l : List Nat) : CallS D 1094 [.s l] [] (.b (isVow l)) [] := by
 rw [← lawV_eq]
 refine CallS.drop (junk := [.list [.s [97], .s [101], .s [105], .s [111], .s [117], .s [259], .s [226], .s [238]]]) ?_ rfl
 refine call_body fn1094 rfl fun c hc hsc => ?_
 walk_at "m ret"
theorem L_vowel (D : Nat) (l : List Nat) (sto : Sto) : CallS D 1094 [.s l] sto (.b (isVow l)) sto := lift0 (L_vowel0 D l) rfl rfl sto
/-! ### _law_past -/
noncomputable def nxt (w : List Nat) (u : Nat) (b : Bool) : Nat := u + ((w.drop u).takeWhile fun n => vw n != b).length
noncomputable def pastF (w : List Nat) (u : Nat) (b : Bool) : Nat := min (nxt w u b + 1) w.length
noncomputable def w1101 : Stmt := nthS (defBody (stm 18)) 0
noncomputable def lPast (w : List Nat) (u : Int) (b : Bool) : Ls := [(kS "word", .s w), (kS "place", .i u), (kS "vowel", .b b)]
theorem past_turns (c : Cx) {D : Nat} (hc : c.OK (D + 1)) (hsc : c.scope = defScope (stm 18)) (w : List Nat) (b : Bool) (hz : w.length ≤ 1000) : ∀ (k u : Nat), w.length - u = k →
  ∃ n, Lp c w1101 n (lPast w u b) [] .next (lPast w (nxt w u b) b) [] := by
 intro k
 induction k with
 | zero =>
  intro u hk
  have hge : ¬ (u : Int) < (w.length : Int) := by lia
  have e : nxt w u b = u := by unfold nxt; rw [List.drop_of_length_le (by lia)]; rfl
  rw [e]
  refine ⟨0, ?_⟩
  show Turns c _ _ _ _ _ _ _ _
  refine' Turns.stop (tst_cast ?h1 ?h2)
  case h1 => walk_at "m tst"
  case h2 => rfl
 | succ k ih =>
  intro u hk
  have hlt : u < w.length := by lia
  have hlt' : (u : Int) < (w.length : Int) := by lia
  have hg : w[u]? = some w[u] := List.getElem?_eq_getElem hlt
  have hd := List.drop_eq_getElem_cons hlt
  generalize w[u] = a at hg hd
  have hx : w[((u : Nat) : Int).toNat]? = some a := by rw [Int.toNat_natCast]; exact hg
  cases hb : vw a != b with
  | false =>
   have e : nxt w u b = u := by unfold nxt; rw [hd, List.takeWhile_cons, hb]; rfl
   rw [e]
   have hb2 : (!(isVow [a] == b)) = false := hb
   refine ⟨0, ?_⟩
   show Turns c _ _ _ _ _ _ _ _
   refine' Turns.stop (tst_cast ?h3 ?h4)
   case h3 => walk_at "m tst"
   case h4 => rfl
  | true =>
   have e : nxt w u b = nxt w (u + 1) b := by unfold nxt; rw [hd, List.takeWhile_cons, hb]; simp; lia
   rw [e]
   have hb2 : (!(isVow [a] == b)) = true := hb
   obtain ⟨n, T⟩ := ih (u + 1) (by lia)
   refine ⟨n + 1, ?_⟩
   show Turns c _ _ _ _ _ _ _ _
   refine' turns_next (tst_cast ?h5 ?h6) ?h7 ?h8 ?h9 T
   case h5 => walk_at "m tst"
   case h6 => rfl
   case h7 => walk_at "m sxs"
   case h8 => rfl
   case h9 => rfl
theorem L_past0 (D : Nat) {w : List Nat} (hz : w.length ≤ 1000) (u : Nat) (b : Bool) : CallS (D + 1) 1101 [.s w, .i u, .b b] [] (.i (pastF w u b)) [] := by
 refine call_body fn1101 rfl fun c hc hsc => ?_
 obtain ⟨n, T⟩ := past_turns c hc hsc w b hz _ u rfl
 refine' out_ret (sxq (sx_while (n := n) T) (sq_next ?h1)) ?h2 ?h3
 case h1 => walk_at "m sxs"
 case h2 =>
  unfold pastF
  congr 1
  split <;> lia
 case h3 => rfl
theorem L_past (D : Nat) {w : List Nat} (hz : w.length ≤ 1000) (u : Nat) (b : Bool) (sto : Sto) : CallS (D + 1) 1101 [.s w, .i u, .b b] sto (.i (pastF w u b)) sto := lift0 (L_past0 D hz u b) rfl rfl sto
/-! ### _law_longest -/
noncomputable def longE (w done : List Nat) (st : Int × List Nat) (e : List Nat) : Int × List Nat := if (e.length : Int) > st.1 ∧ endsW w e = true then ((e.length : Int), done) else st
noncomputable def longR (w : List Nat) (st : Int × List Nat) (r : RowL) : Int × List Nat := r.ends.foldl (longE w r.put_) st
noncomputable def longest (w : List Nat) (t : List RowL) : Int × List Nat := t.foldl (longR w) (0, [])
noncomputable def lLo (w : List Nat) (x : Addr) (st : Int × List Nat) : Ls := [(kS "word", .s w), (kS "rows", .a x), (kS "size", .i st.1), (kS "put", .s st.2)]
noncomputable def lLi (w : List Nat) (x : Addr) (st : Int × List Nat) (done : List Nat) (l : Addr) : Ls := lLo w x st ++ [(kS "done", .s done), (kS "ends", .a l)]
noncomputable def f1108 : Stmt := nthS (defBody (stm 19)) 2
noncomputable def forBody : Stmt → List Stmt
 | .For _ _ b _ _ => b
 | _ => []
noncomputable def f1108i : Stmt := nthS (forBody f1108) 0
theorem SubL.trans_ok {a b c : Ls} (h : SubL a b) : (∀ x v, lk x b = some v → lk x c = some v) → SubL a c := by
 intro g
 induction a with
 | nil => trivial
 | cons p r ih => exact ⟨g _ _ h.1, ih h.2⟩
theorem forL_next {c : Cx} {target : PySem.Expr} {b : List Stmt} {v : V} {vs : List V} {j : Nat} {loc loc₁ loc₂ loc₃ loc₄ : Ls} {sto sto₂ sto₃ : Sto} {x : V} {o : Out} (q : IsL c sto v vs) (e : vs[j]? = some x) (a : Asg c target x loc loc₁ sto) (g : ∀ ext, Sx (c.with ext) (execs b (c.with ext).env) loc₁ sto .next loc₂ sto₂) (s : SubL loc₃ loc₂)
  (r : ForL c target b v vs (j + 1) loc₃ sto₂ o loc₄ sto₃) : ForL c target b v vs j loc sto o loc₄ sto₃ := ForL.next q e a (fun ext => sx_weak (g ext) s) r
theorem long_turn (c : Cx) {D : Nat} (hc : c.OK D) (hsc : c.scope = defScope (stm 19)) {w : List Nat} (hz : w.length ≤ 1000) (x l : Addr) (done e : List Nat) (he : e.length ≤ 1000) (st : Int × List Nat) :
  Sx c (execs (forBody f1108i) c.env) (lLi w x st done l ++ [(kS "end", .s e)]) [] .next (lLi w x (longE w done st e) done l ++ [(kS "end", .s e)]) [] := by
 unfold longE
 by_cases h1 : (e.length : Int) > st.1
 ·cases h2 : endsW w e with
  | true =>
   rw [if_pos ⟨h1, rfl⟩]
   refine' sx_cast ?h1 ?h2 ?h3
   case h1 => walk_at "m sxs"
   case h2 => rfl
   case h3 => rfl
  | false =>
   rw [if_neg (fun q => by cases q.2)]
   refine' sx_cast ?h4 ?h5 ?h6
   case h4 => walk_at "m sxs"
   case h5 => rfl
   case h6 => rfl
 ·rw [if_neg (fun q => h1 q.1)]
  refine' sx_cast ?h7 ?h8 ?h9
  case h7 => walk_at "m sxs"
  case h8 => rfl
  case h9 => rfl
theorem long_inner (c : Cx) {D : Nat} (hc : c.OK D) (hsc : c.scope = defScope (stm 19)) {w : List Nat} (hz : w.length ≤ 1000) (x l : Addr) (done : List Nat) (es : List (List Nat)) (hl : StL c.w.params l (es.map .s)) (hes : ∀ e ∈ es, e.length ≤ 1000) : ∀ (k j : Nat) (st : Int × List Nat), es.length - j = k →
  ForL c (.Name (S "end") ⟨591, 12, 591, 15⟩) (forBody f1108i) (.a l) (es.map .s) j (lLi w x st done l) [] .next (lLi w x ((es.drop j).foldl (longE w done) st) done l) [] := by
 have q : IsL c [] (.a l) (es.map .s) := .inr ⟨_, rfl, hl⟩
 intro k
 induction k with
 | zero =>
  intro j st hk
  rw [List.drop_of_length_le (by lia)]
  exact ForL.done q (List.getElem?_eq_none (by rw [List.length_map]; lia))
 | succ k ih =>
  intro j st hk
  have hlt : j < es.length := by lia
  have hx : (es.map V.s)[j]? = some (.s es[j]) := by rw [List.getElem?_map, List.getElem?_eq_getElem hlt]; rfl
  rw [List.drop_eq_getElem_cons hlt, List.foldl_cons]
  have hsc' : c.scope.names.lookup (S "end") = some .local := kL hsc (by decide +kernel)
  refine forL_next q hx (loc₁ := lLi w x st done l ++ [(kS "end", .s es[j])]) ?_ (fun ext => long_turn (c.with ext) (hc.with ext) hsc hz x l done es[j] (hes _ (List.getElem_mem hlt)) st) ?_ (ih (j + 1) (longE w done st es[j]) (by lia))
  ·exact asg_name (p := ⟨591, 12, 591, 15⟩) (v := .s es[j]) (loc := lLi w x st done l) (sto := []) hc hsc'
  ·exact ⟨rfl, rfl, rfl, rfl, rfl, rfl, trivial⟩
theorem long_body (c : Cx) {D : Nat} (hc : c.OK D) (hsc : c.scope = defScope (stm 19)) {w : List Nat} (hz : w.length ≤ 1000) (x : Addr) (r : RowL) (hl : StL c.w.params r.lst (r.ends.map .s)) (hes : ∀ e ∈ r.ends, e.length ≤ 1000) (st : Int × List Nat) :
  Sx c (execs (forBody f1108) c.env) (lLi w x st r.put_ r.lst) [] .next (lLi w x (longR w st r) r.put_ r.lst) [] := by
 have T := long_inner c hc hsc hz x r.lst r.put_ r.ends hl hes r.ends.length 0 st (by lia)
 rw [List.drop_zero] at T
 refine' sxq ?h1 (sq_next sx_nil)
 case h1 =>
  refine' sx_for_list hc ?ht ?hi ?h ?q0 T
  case ht => first | exact letOK_name | exact letOK_tup
  case hi => rfl
  case h => walk_at "m ev"
  case q0 => exact .inr ⟨_, rfl, hl⟩
theorem long_outer (c : Cx) {D : Nat} (hc : c.OK D) (hsc : c.scope = defScope (stm 19)) {w : List Nat} (hz : w.length ≤ 1000) (x : Addr) (t : List RowL) (ht : TabL c.w.params x t) (hes : ∀ r ∈ t, ∀ e ∈ r.ends, e.length ≤ 1000) : ∀ (k j : Nat) (st : Int × List Nat), t.length - j = k →
  ForL c (.Tuple [.Name (S "done") ⟨590, 8, 590, 12⟩, .Name (S "ends") ⟨590, 14, 590, 18⟩] 0 ⟨590, 8, 590, 18⟩) (forBody f1108) (.a x) (t.map fun r => .a r.tup) j (lLo w x st) [] .next (lLo w x ((t.drop j).foldl (longR w) st)) [] := by
 have q : IsL c [] (.a x) (t.map fun r => .a r.tup) := .inr ⟨_, rfl, ht.list⟩
 intro k
 induction k with
 | zero =>
  intro j st hk
  rw [List.drop_of_length_le (by lia)]
  exact ForL.done q (List.getElem?_eq_none (by rw [List.length_map]; lia))
 | succ k ih =>
  intro j st hk
  have hlt : j < t.length := by lia
  have hx : (t.map fun r => V.a r.tup)[j]? = some (.a t[j].tup) := by rw [List.getElem?_map, List.getElem?_eq_getElem hlt]; rfl
  have hm := List.getElem_mem hlt
  rw [List.drop_eq_getElem_cons hlt, List.foldl_cons]
  refine forL_next q hx (loc₁ := lLi w x st t[j].put_ t[j].lst) ?_ (fun ext => long_body (c.with ext) (hc.with ext) hsc hz x t[j] (ht.ends _ hm) (hes _ hm) st) ?_ (ih (j + 1) (longR w st t[j]) (by lia))
  ·exact asg_two (k := 0) (px := ⟨590, 8, 590, 12⟩) (py := ⟨590, 14, 590, 18⟩) (pos := ⟨590, 8, 590, 18⟩) (loc := lLo w x st) (sto := []) hc (kL hsc (by decide +kernel)) (kL hsc (by decide +kernel)) (.inr ⟨_, rfl, ht.tups _ hm⟩)
  ·exact ⟨rfl, rfl, rfl, rfl, trivial⟩
theorem L_long0 (D : Nat) {w : List Nat} (hz : w.length ≤ 1000) {x : Addr} {t : List RowL} (ht : ∀ P, ckTabL P x t = true) (hes : (t.all fun r => r.ends.all fun e => Nat.ble e.length 1000) = true) :
  CallS D 1108 [.s w, .a x] [] (.d 0) [.tup [.i (longest w t).1, .s (longest w t).2]] := by
 refine call_body fn1108 rfl fun c hc hsc => ?_
 have T := long_outer c hc hsc hz x t (tabL_of (ht c.w.params)) (fun r hr e he => Nat.ble_eq.mp (List.all_eq_true.mp (List.all_eq_true.mp hes r hr) e he)) t.length 0 (0, []) (by lia)
 rw [List.drop_zero] at T
 refine' out_ret (sxq ?h1 (sq_next (sxq (sx_cast ?h2 ?h3 ?h4) (sq_next (sxq ?h5 (sq_next ?h6)))))) ?h7 ?h8
 case h1 => walk_at "m sx"
 case h2 => walk_at "m sx"
 case h5 =>
  refine' sx_for_list hc ?ht ?hi ?h ?q0 T
  case ht => first | exact letOK_name | exact letOK_tup
  case hi => rfl
  case h => walk_at "m ev"
  case q0 => exact .inr ⟨_, rfl, (tabL_of (ht c.w.params)).list⟩
 case h3 => rfl
 case h4 => rfl
 case h6 => walk_at "m sxs"
 case h7 => rfl
 case h8 => rfl
theorem L_long (D : Nat) {w : List Nat} (hz : w.length ≤ 1000) {x : Addr} {t : List RowL} (ht : ∀ P, ckTabL P x t = true) (hes : (t.all fun r => r.ends.all fun e => Nat.ble e.length 1000) = true) (sto : Sto) :
  CallS D 1108 [.s w, .a x] sto (.d sto.length) (sto ++ [.tup [.i (longest w t).1, .s (longest w t).2]]) := lift1 (L_long0 D hz ht hes) rfl rfl sto
section
/-! ### _law_marked -/
theorem tst_in {c : Cx} {D : Nat} {loc : Ls} {sto : Sto} (hc : c.OK D) {l : PySem.Expr} {es : List PySem.Expr} {p pos : Pos} {a : List Nat} {vs : List V} {xs : List (List Nat)} (hs : NoStar es) (h : Ev c l loc sto (.s a) sto) (g : EvL c es loc sto vs sto) (hx : strsOf vs = some xs) (hz : vs.length ≤ 100000) :
  Tst c (.Compare l [.In] [.List es p] pos) loc sto (xs.any (· == a)) sto := tst_drop (junk := [.list vs]) (tst_cmp rfl h (ev_list hs g hz) (in_list hc (Or.inl ⟨sto.length, rfl, by simp⟩) hx))
local macro_rules | `(tactic| walk_at "m tst") => wF "hc hs h g hx hz|hc=a hs=r h=ev g=evl hx=r hz=le|tst_in"
noncomputable def prevV (prev : Bool) (w : List Nat) : Nat → Bool
 | 0 => prev
 | q + 1 => vw ((markR prev w).getD q 0)
theorem mark_get : ∀ (prev : Bool) (w : List Nat) (p : Nat) (h : p < w.length), (markR prev w)[p]'(by rw [mark_len]; exact h) = bif prevV prev w p && iu w[p] && headV (w.drop (p + 1)) then upM w[p] else w[p]
 | _, [], p, h => by simp at h
 | prev, a :: r, 0, h => by
  simp only [markR, List.getElem_cons_zero, List.drop_succ_cons, List.drop_zero, prevV]
 | prev, a :: r, p + 1, h => by
  have h' : p < r.length := by simpa using h
  have ih := mark_get (vw (bif prev && iu a && headV r then upM a else a)) r p h'
  simp only [markR, List.getElem_cons_succ, List.drop_succ_cons]
  rw [ih]
  cases p with
  | zero => simp only [prevV, markR, List.getD_cons_zero]
  | succ q => simp only [prevV, markR, List.getD_cons_succ]
noncomputable def sg (l : List Nat) : List V := l.map fun n => V.s [n]
theorem sg_get {l : List Nat} {i : Nat} {a : Nat} (h : l[i]? = some a) {k : Int} (e : k = (i : Int)) : (sg l)[k.toNat]? = some (.s [a]) := by
 subst e
 rw [Int.toNat_natCast]
 unfold sg
 rw [List.getElem?_map, h]; rfl
theorem sg_len (l : List Nat) : (sg l).length = l.length := by unfold sg; simp
theorem sg_app (l : List Nat) (a : Nat) : sg l ++ [V.s [a]] = sg (l ++ [a]) := by unfold sg; simp
theorem sg_strs : ∀ l : List Nat, strsOf (sg l) = some (l.map fun n => [n])
 | [] => rfl
 | a :: l => by
  show (strsOf (sg l)).map ([a] :: ·) = _
  rw [sg_strs l]; rfl
theorem join_ones : ∀ l : List Nat, joinL (l.map fun n => [n]) = l
 | [] => rfl
 | a :: l => by
  show [a] ++ joinL (l.map fun n => [n]) = a :: l
  rw [join_ones l]; rfl
theorem sum_ones (l : List Nat) : sumLen (l.map fun n => [n]) = l.length := by
 unfold sumLen
 induction l with
 | nil => rfl
 | cons a l ih => simp only [List.map_cons, List.sum_cons, List.length_cons, List.length_nil]; rw [ih]; lia
noncomputable def f1113 : Stmt := nthS (defBody (stm 20)) 2
noncomputable def lMk (w : List Nat) : Ls := [(kS "word", .s w), (kS "commas", .d 0), (kS "signs", .d 1)]
theorem iu_any (a : Nat) : ([[105], [117]] : List (List Nat)).any (· == [a]) = iu a := by
 unfold iu
 apply Bool.eq_iff_iff.mpr
 rw [Bool.or_eq_true, beq_eq, beq_eq]
 simp
 lia
theorem mk_turn (c : Cx) {D : Nat} (hc : c.OK (D + 1)) (hsc : c.scope = defScope (stm 20)) (w0 : List Nat) {w : List Nat} (hz : w.length ≤ 1000) (p : Nat) (hp : p < w.length) :
  Sx c (execs (forBody f1113) c.env) (lMk w0 ++ [(kS "place", .i p)]) [.list (sg w), .list (sg ((markR false w).take p))] .next (lMk w0) [.list (sg w), .list (sg ((markR false w).take (p + 1)))] := by
 have hml := mark_len false w
 have g0 : w[p]? = some w[p] := List.getElem?_eq_getElem hp
 have hG := mark_get false w p hp
 have hT : (markR false w).take (p + 1) = (markR false w).take p ++ [(markR false w)[p]'(by rw [hml]; exact hp)] := (List.take_succ_eq_append_getElem (by rw [hml]; exact hp))
 rw [hT, hG]
 generalize w[p] = a at g0
 have hx0 := sg_get g0 (k := (p : Int)) rfl
 have hlen : (sg ((markR false w).take p)).length ≤ 1000 := by rw [sg_len, List.length_take]; lia
 have hlw : (sg w).length ≤ 1000 := by rw [sg_len]; exact hz
 have hlw2 : ((sg w).length : Int) = w.length := by rw [sg_len]
 have hiu := iu_any a
 cases hi : iu a with
 | false =>
  rw [hi] at hiu
  rw [Bool.and_false, Bool.false_and, cond_false, ← sg_app]
  refine' sx_wcast ?h1 ?h2 ?h3
  case h1 => walk_at "m sxs"
  case h2 => exact ⟨rfl, rfl, rfl, trivial⟩
  case h3 => rfl
 | true =>
  rw [hi] at hiu
  rw [Bool.and_true]
  cases p with
  | zero =>
   have e0 : prevV false w 0 = false := rfl
   rw [e0, Bool.false_and, cond_false, ← sg_app]
   refine' sx_wcast ?h4 ?h5 ?h6
   case h4 => walk_at "m sxs"
   case h5 => exact ⟨rfl, rfl, rfl, trivial⟩
   case h6 => rfl
  | succ q =>
   have e0 : prevV false w (q + 1) = vw ((markR false w).getD q 0) := rfl
   rw [e0]
   have hpos : ((q + 1 : Nat) : Int) > 0 := by lia
   by_cases hn : q + 1 + 1 < w.length
   ·have hn' : ((q + 1 : Nat) : Int) + 1 < (sg w).length := by lia
    have g1 : w[q + 1 + 1]? = some w[q + 1 + 1] := List.getElem?_eq_getElem hn
    have hd : headV (w.drop (q + 1 + 1)) = vw w[q + 1 + 1] := by rw [List.drop_eq_getElem_cons hn]; rfl
    rw [hd]
    generalize w[q + 1 + 1] = b at g1
    have hx1 := sg_get g1 (k := ((q + 1 : Nat) : Int) + 1) (by lia)
    have hq : q < (markR false w).length := by lia
    have g2 : ((markR false w).take (q + 1))[q]? = some ((markR false w).getD q 0) := by
     rw [List.getElem?_take, if_pos (by lia), List.getElem?_eq_getElem hq, List.getD_eq_getElem?_getD, List.getElem?_eq_getElem hq]; rfl
    generalize (markR false w).getD q 0 = d at g2
    have hx2 := sg_get g2 (k := ((q + 1 : Nat) : Int) - 1) (by lia)
    have hvb : isVow [b] = vw b := rfl
    have hvd : isVow [d] = vw d := rfl
    cases h1 : vw d with
    | false =>
     rw [h1] at hvd
     rw [Bool.false_and, cond_false, ← sg_app]
     refine' sx_wcast ?h7 ?h8 ?h9
     case h7 => walk_at "m sxs"
     case h8 => exact ⟨rfl, rfl, rfl, trivial⟩
     case h9 => rfl
    | true =>
     rw [h1] at hvd
     cases h2 : vw b with
     | false =>
      rw [h2] at hvb
      rw [Bool.and_false, cond_false, ← sg_app]
      refine' sx_wcast ?h10 ?h11 ?h12
      case h10 => walk_at "m sxs"
      case h11 => exact ⟨rfl, rfl, rfl, trivial⟩
      case h12 => rfl
     | true =>
      rw [h2] at hvb
      rw [Bool.and_true, cond_true, ← sg_app]
      by_cases ha : a = 105
      ·have hea : [a] = (S "i").cps.toList := by rw [ha]; rfl
       have hup : V.s [upM a] = .s (S "I").cps.toList := by rw [ha]; rfl
       rw [hup]
       refine' sx_wcast ?h13 ?h14 ?h15
       case h13 => walk_at "m sxs"
       case h14 => exact ⟨rfl, rfl, rfl, trivial⟩
       case h15 => rfl
      ·have hea : [a] ≠ (S "i").cps.toList := fun e => by
        have e' : [a] = [105] := e
        injection e' with e'
        exact ha e'
       have ha2 : a = 117 := by
        unfold iu at hi
        rw [Bool.or_eq_true, beq_eq, beq_eq] at hi
        lia
       have hup : V.s [upM a] = .s (S "U").cps.toList := by rw [ha2]; rfl
       rw [hup]
       refine' sx_wcast ?h16 ?h17 ?h18
       case h16 => walk_at "m sxs"
       case h17 => exact ⟨rfl, rfl, rfl, trivial⟩
       case h18 => rfl
   ·have hn' : ¬ ((q + 1 : Nat) : Int) + 1 < (sg w).length := by lia
    have hd : headV (w.drop (q + 1 + 1)) = false := by rw [List.drop_of_length_le (by lia)]; rfl
    rw [hd, Bool.and_false, cond_false, ← sg_app]
    refine' sx_wcast ?h19 ?h20 ?h21
    case h19 => walk_at "m sxs"
    case h20 => exact ⟨rfl, rfl, rfl, trivial⟩
    case h21 => rfl
end
theorem swaps_true {c : Cx} {elt : PySem.Expr} {gens : List Comprehension} {scope : Scope} {z : PySem.Str} {zp pos : Pos} {line : Nat} (h : (c.env.blockKind == .function && c.env.kindOf z == some .local && zp.line == pos.line && !(scope.names.any fun x => x.1 == z && (x.2 == .local || x.2 == .cell))) = true) :
  swapsWith (.ListComp elt gens scope pos) (some (.Name z zp)) line c.env = pure true := by
 unfold swapsWith
 dsimp only
 exact congrArg (pure : Bool → Sem Bool) h
noncomputable def cedS (a : List Nat) : List Nat := if (a == (PySem.Str.ofString "ş").cps.toList) = true then (PySem.Str.ofString "ș").cps.toList else if (a == (PySem.Str.ofString "ţ").cps.toList) = true then (PySem.Str.ofString "ț").cps.toList else a
theorem cedS_one (n : Nat) : cedS [n] = [cedF n] := by
 have e1 : (PySem.Str.ofString "ş").cps.toList = [351] := by decide +kernel
 have e2 : (PySem.Str.ofString "ț").cps.toList = [539] := by decide +kernel
 have e3 : (PySem.Str.ofString "ţ").cps.toList = [355] := by decide +kernel
 have e4 : (PySem.Str.ofString "ș").cps.toList = [537] := by decide +kernel
 unfold cedS cedF
 rw [e1, e2, e3, e4]
 by_cases h1 : n = 351
 ·subst h1; rfl
 ·rw [beq_ne.mpr h1, cond_false, if_neg (by simpa using h1)]
  by_cases h2 : n = 355
  ·subst h2; rfl
  ·rw [beq_ne.mpr h2, cond_false, if_neg (by simpa using h2)]
theorem mk_loop (c : Cx) {D : Nat} (hc : c.OK (D + 1)) (hsc : c.scope = defScope (stm 20)) (w0 : List Nat) {w : List Nat} (hz : w.length ≤ 1000) : ∀ (k p : Nat), p + k = w.length →
  ForR c (.Name (S "place") ⟨599, 8, 599, 13⟩) (forBody f1113) 1 p k (lMk w0) [.list (sg w), .list (sg ((markR false w).take p))] .next (lMk w0) [.list (sg w), .list (sg (markR false w))] := by
 intro k
 induction k with
 | zero =>
  intro p hp
  have hml := mark_len false w
  rw [List.take_of_length_le (by lia)]
  exact ForR.done (by lia)
 | succ k ih =>
  intro p hp
  have T := ih (p + 1) (by lia)
  have e1 : ((p + 1 : Nat) : Int) = (p : Int) + 1 := by lia
  have e2 : (((k + 1 : Nat) : Int)) - 1 = (k : Int) := by lia
  have hsc' : c.scope.names.lookup (S "place") = some .local := kL hsc (by decide +kernel)
  have A : Asg c (.Name (S "place") ⟨599, 8, 599, 13⟩) (.i (p : Int)) (lMk w0) (lMk w0 ++ [(kS "place", .i (p : Int))]) [.list (sg w), .list (sg ((markR false w).take p))] := asg_name (p := ⟨599, 8, 599, 13⟩) (v := .i (p : Int)) (loc := lMk w0) (sto := [.list (sg w), .list (sg ((markR false w).take p))]) hc hsc'
  refine ForR.next (by lia) A (fun ext => mk_turn (c.with ext) (hc.with ext) hsc w0 hz p (by lia)) ?_
  rw [← e1, e2]
  exact T
theorem L_marked0 (D : Nat) {w : List Nat} (hz : w.length ≤ 1000) : CallS (D + 1) 1113 [.s w] [] (.s (markR false (w.map cedF))) [] := by
 refine CallS.drop (junk := [.list (sg (w.map cedF)), .list (sg (markR false (w.map cedF)))]) ?_ rfl
 refine call_body fn1113 rfl fun c hc hsc => ?_
 have hlen : (w.map cedF).length = w.length := List.length_map _
 have hml := mark_len false (w.map cedF)
 have hco : (w.map fun n => V.s (cedS [n])) = sg (w.map cedF) := by
  unfold sg
  rw [List.map_map]
  exact List.map_congr_left fun n _ => by rw [cedS_one]; rfl
 have hlw : (sg (w.map cedF)).length ≤ 1000 := by rw [sg_len, hlen]; exact hz
 have T := mk_loop c hc hsc w (w := w.map cedF) (by lia) w.length 0 (by lia)
 rw [List.take_zero] at T
 refine' out_ret (sxq (sx_cast (loc₂ := [(kS "word", .s w), (kS "commas", .d 0)]) (sto₂ := [.list (sg (w.map cedF))]) ?h1 ?h2 ?h3) (sq_next (sxq (sx_cast (loc₂ := lMk w) (sto₂ := [.list (sg (w.map cedF)), .list (sg [])]) ?h4 ?h5 ?h6) (sq_next (sxq ?h7 (sq_next (sxq ?h8 sq_ret))))))) ?h9 ?h10
 case h1 =>
  refine' sx_comp hc ?ok ?hv ?hk ?hd ?he ?hz ?hsw ?hkz
  case ok => exact ⟨by decide, by decide, rfl, by decide +kernel, rfl⟩
  case hv => rfl
  case hk => walk_at "m local"
  case hd => decide +kernel
  case he => walk_at "m elt"
  case hz => exact hz
  case hsw =>
   refine swaps_true ?_
   unfold Env.blockKind Env.kindOf
   show (((if c.scope.kind.isAnnotationScope then ScopeKind.function else c.scope.kind) == ScopeKind.function) && (c.scope.names.lookup _ == some NameKind.local) && _ && _) = true
   rw [hsc]
   decide +kernel
  case hkz => walk_at "m local"
 case h2 => rfl
 case h3 => exact congrArg (fun x => [Ob.list x]) hco
 case h4 => walk_at "m sx"
 case h5 => rfl
 case h6 => rfl
 case h7 =>
  refine' sx_for_range hc (x := 0) (y := ((sg (w.map cedF)).length : Int)) (st := 1) ?hi ?h ?small ?T
  case hi => rfl
  case h =>
   refine' rng1 hc (bi_range _) ?hk2 ?hs2 ?h2
   case hk2 => walk_at "m local"
   case hs2 => rfl
   case h2 => walk_at "m evl"
  case small => exact small1 (by lia)
  case T =>
   have e : Builtin.Range.rangeSize 0 ((sg (w.map cedF)).length : Int) 1 = (w.length : Int) := by
    unfold Builtin.Range.rangeSize
    rw [if_pos (by decide), sg_len, hlen]
    split <;> lia
   rw [e]
   exact T
 case h8 =>
  refine' sx_return ?h11
  case h11 =>
   refine' ev_join (hcD := hc) ?hb ?hs ?hline ?h12 ?g ?q ?hx ?hz3
   case hb => rfl
   case hs => rfl
   case hline => rfl
   case h12 => exact ev_str _ _ _
   case g => walk_at "m evl"
   case q => exact Or.inl ⟨_, rfl, rfl⟩
   case hx => exact sg_strs _
   case hz3 => rw [sum_ones]; lia
 case h9 => rw [join_ones]
 case h10 => rfl
theorem L_marked (D : Nat) {w : List Nat} (hz : w.length ≤ 1000) (sto : Sto) : CallS (D + 1) 1113 [.s w] sto (.s (markR false (w.map cedF))) sto := lift0 (L_marked0 D hz) rfl rfl sto
/-! ### the longest ending, plainly -/
structure LongOK (w : List Nat) (t : List RowL) (st : Int × List Nat) : Prop where
 h : (st = (0, []) ∨ ∃ r ∈ t, ∃ e ∈ r.ends, endsW w e = true ∧ 0 < e.length ∧ st = ((e.length : Int), r.put_)) ∧ 0 ≤ st.1
theorem long_foldE (w : List Nat) (T : List RowL) (r : RowL) (hr : r ∈ T) : ∀ (es : List (List Nat)), (∀ e ∈ es, e ∈ r.ends) → ∀ st, LongOK w T st → LongOK w T (es.foldl (longE w r.put_) st) ∧ st.1 ≤ (es.foldl (longE w r.put_) st).1 ∧ ∀ e ∈ es, endsW w e = true → (e.length : Int) ≤ (es.foldl (longE w r.put_) st).1
 | [], _, st, h => ⟨h, Int.le_refl _, fun e he => by simp at he⟩
 | e :: es, hs, st, h => by
  rw [List.foldl_cons]
  have h1 : LongOK w T (longE w r.put_ st e) ∧ st.1 ≤ (longE w r.put_ st e).1 ∧ (endsW w e = true → (e.length : Int) ≤ (longE w r.put_ st e).1) := by
   unfold longE
   by_cases q : (e.length : Int) > st.1 ∧ endsW w e = true
   ·rw [if_pos q]
    have h0 := h.h.2
    refine ⟨⟨.inr ⟨r, hr, e, hs e List.mem_cons_self, q.2, by lia, rfl⟩, by dsimp only; lia⟩, by dsimp only; lia, fun _ => Int.le_refl _⟩
   ·rw [if_neg q]
    refine ⟨h, Int.le_refl _, fun he => ?_⟩
    have : ¬ (e.length : Int) > st.1 := fun x => q ⟨x, he⟩
    lia
  obtain ⟨a, b, d⟩ := long_foldE w T r hr es (fun x hx => hs x (List.mem_cons_of_mem _ hx)) _ h1.1
  refine ⟨a, Int.le_trans h1.2.1 b, fun x hx hex => ?_⟩
  rcases List.mem_cons.mp hx with rfl | hx
  ·exact Int.le_trans (h1.2.2 hex) b
  ·exact d x hx hex
theorem long_foldR (w : List Nat) (T : List RowL) : ∀ (t : List RowL), (∀ r ∈ t, r ∈ T) → ∀ st, LongOK w T st → LongOK w T (t.foldl (longR w) st) ∧ st.1 ≤ (t.foldl (longR w) st).1 ∧ ∀ r ∈ t, ∀ e ∈ r.ends, endsW w e = true → (e.length : Int) ≤ (t.foldl (longR w) st).1
 | [], _, st, h => ⟨h, Int.le_refl _, fun r hr => by simp at hr⟩
 | r :: t, hs, st, h => by
  rw [List.foldl_cons]
  obtain ⟨a, b, d⟩ := long_foldE w T r (hs r List.mem_cons_self) r.ends (fun _ h => h) st h
  obtain ⟨a', b', d'⟩ := long_foldR w T t (fun x hx => hs x (List.mem_cons_of_mem _ hx)) _ a
  refine ⟨a', Int.le_trans b b', fun x hx e he hex => ?_⟩
  rcases List.mem_cons.mp hx with rfl | hx
  ·exact Int.le_trans (d e he hex) b'
  ·exact d' x hx e he hex
theorem longest_spec (w : List Nat) (t : List RowL) : LongOK w t (longest w t) ∧ ∀ r ∈ t, ∀ e ∈ r.ends, endsW w e = true → (e.length : Int) ≤ (longest w t).1 := by
 obtain ⟨a, _, d⟩ := long_foldR w t t (fun _ h => h) (0, []) ⟨.inl rfl, Int.le_refl _⟩
 exact ⟨a, d⟩
theorem ends_len {w e : List Nat} (h : endsW w e = true) : e.length ≤ w.length := by
 obtain ⟨u, rfl⟩ := ends_ex.mp h
 simp
theorem longest_nat (w : List Nat) (t : List RowL) (ht : (t.all fun r => Nat.ble r.put_.length 10) = true) : ∃ n : Nat, (longest w t).1 = n ∧ n ≤ w.length ∧ (longest w t).2.length ≤ 10 := by
 obtain ⟨⟨h, h0⟩, _⟩ := longest_spec w t
 rcases h with h | ⟨r, hr, e, he, hw, hp, h⟩
 ·rw [h]; exact ⟨0, rfl, Nat.zero_le _, by simp⟩
 ·rw [h]
  exact ⟨e.length, rfl, ends_len hw, Nat.ble_eq.mp (List.all_eq_true.mp ht r hr)⟩
theorem L_long' (D : Nat) {w : List Nat} (hz : w.length ≤ 1000) {x : Addr} {t : List RowL} (ht : ∀ P, ckTabL P x t = true) (hes : (t.all fun r => r.ends.all fun e => Nat.ble e.length 1000) = true) (hp : (t.all fun r => Nat.ble r.put_.length 10) = true) :
  ∃ (n : Nat) (p : List Nat), longest w t = ((n : Int), p) ∧ n ≤ w.length ∧ p.length ≤ 10 ∧ CallS D 1108 [.s w, .a x] [] (.d 0) [.tup [.i n, .s p]] := by
 obtain ⟨n, h1, h2, h3⟩ := longest_nat w t hp
 have C := L_long0 D hz ht hes
 rw [h1] at C
 exact ⟨n, (longest w t).2, Prod.ext h1 rfl, h2, h3, C⟩
theorem es_art : (tl_law_articles.all fun r => r.ends.all fun e => Nat.ble e.length 1000) = true := by decide +kernel
theorem es_cmp : (tl_law_compound.all fun r => r.ends.all fun e => Nat.ble e.length 1000) = true := by decide +kernel
theorem es_pla : (tl_law_plain.all fun r => r.ends.all fun e => Nat.ble e.length 1000) = true := by decide +kernel
theorem es_ver : (tl_law_verbal.all fun r => r.ends.all fun e => Nat.ble e.length 1000) = true := by decide +kernel
theorem es_las : (tl_law_last.all fun r => r.ends.all fun e => Nat.ble e.length 1000) = true := by decide +kernel
theorem pu_art : (tl_law_articles.all fun r => Nat.ble r.put_.length 10) = true := by decide +kernel
theorem pu_cmp : (tl_law_compound.all fun r => Nat.ble r.put_.length 10) = true := by decide +kernel
theorem pu_pla : (tl_law_plain.all fun r => Nat.ble r.put_.length 10) = true := by decide +kernel
theorem pu_ver : (tl_law_verbal.all fun r => Nat.ble r.put_.length 10) = true := by decide +kernel
theorem pu_las : (tl_law_last.all fun r => Nat.ble r.put_.length 10) = true := by decide +kernel
/-! ### _law_stem, piece by piece -/
noncomputable def B21 : List Stmt := defBody (stm 21)
noncomputable def regF (w : List Nat) : Nat :=
 if 1 < w.length ∧ vw (w.getD 1 0) = true then (if vw (w.getD 0 0) = true then pastF w 2 false else min 3 w.length) else pastF w 2 true
theorem sx_dropW {c : Cx} {t : Sem Flow} {loc loc₁ loc₂ : Ls} {sto₂ : Sto} (h : Sx c t loc [] .next loc₁ sto₂) (s : SubL loc₂ loc₁) (fl : flatL loc₂ = true) : Sx c t loc [] .next loc₂ [] := sx_drop (sto := []) (junk := sto₂) (sx_weak h s) fl
theorem seg1 (c : Cx) {D : Nat} (hc : c.OK (D + 2)) (hsc : c.scope = defScope (stm 21)) {w : List Nat} (hz : w.length ≤ 500) {o : Out} {loc₂ : Ls} {sto₂ : Sto}
  (rest : Sx c (execs (B21.drop 2) c.env) [(kS "word", .s w), (kS "region", .i (regF w))] [] o loc₂ sto₂) : Sx c (execs (B21.drop 1) c.env) [(kS "word", .s w)] [] o loc₂ sto₂ := by
 have P2f : CallS (D + 1) 1101 [.s w, .i 2, .b false] [] (.i (pastF w 2 false)) [] := L_past D (by lia) 2 false []
 have P2t : CallS (D + 1) 1101 [.s w, .i 2, .b true] [] (.i (pastF w 2 true)) [] := L_past D (by lia) 2 true []
 by_cases h1 : 1 < w.length
 ·have g0 : w[0]? = some (w.getD 0 0) := by rw [List.getD_eq_getElem?_getD, List.getElem?_eq_getElem (by lia)]; rfl
  have g1 : w[1]? = some (w.getD 1 0) := by rw [List.getD_eq_getElem?_getD, List.getElem?_eq_getElem h1]; rfl
  have hx0 : w[(0 : Int).toNat]? = some (w.getD 0 0) := g0
  have hx1 : w[(1 : Int).toNat]? = some (w.getD 1 0) := g1
  have hv0 : isVow [w.getD 0 0] = vw (w.getD 0 0) := rfl
  have hv1 : isVow [w.getD 1 0] = vw (w.getD 1 0) := rfl
  cases v1 : vw (w.getD 1 0) with
  | true =>
   rw [v1] at hv1
   cases v0 : vw (w.getD 0 0) with
   | true =>
    rw [v0] at hv0
    have e : regF w = pastF w 2 false := by unfold regF; rw [if_pos ⟨h1, v1⟩, if_pos v0]
    rw [e] at rest
    refine' sxq (sx_dropW ?h1 ?h2 ?h3) (sq_next rest)
    case h1 => walk_at "m sx"
    case h2 => exact ⟨rfl, rfl, trivial⟩
    case h3 => rfl
   | false =>
    rw [v0] at hv0
    have e : (regF w : Int) = if (w.length : Int) < 3 then (w.length : Int) else 3 := by
     unfold regF
     rw [if_pos ⟨h1, v1⟩, if_neg (by rw [v0]; decide)]
     split <;> lia
    rw [e] at rest
    refine' sxq (sx_dropW ?h4 ?h5 ?h6) (sq_next rest)
    case h4 => walk_at "m sx"
    case h5 => exact ⟨rfl, rfl, trivial⟩
    case h6 => rfl
  | false =>
   rw [v1] at hv1
   have e : regF w = pastF w 2 true := by unfold regF; rw [if_neg (by rw [v1]; exact fun q => by cases q.2)]
   rw [e] at rest
   refine' sxq (sx_dropW ?h7 ?h8 ?h9) (sq_next rest)
   case h7 => walk_at "m sx"
   case h8 => exact ⟨rfl, rfl, trivial⟩
   case h9 => rfl
 ·have e : regF w = pastF w 2 true := by unfold regF; rw [if_neg (fun q => h1 q.1)]
  rw [e] at rest
  refine' sxq (sx_dropW ?h10 ?h11 ?h12) (sq_next rest)
  case h10 => walk_at "m sx"
  case h11 => exact ⟨rfl, rfl, trivial⟩
  case h12 => rfl
noncomputable def firstF (w : List Nat) : Nat := pastF w (pastF w 0 true) false
noncomputable def secondF (w : List Nat) : Nat := pastF w (pastF w (firstF w) true) false
noncomputable def lS (w : List Nat) (rg fi se : Nat) : Ls := [(kS "word", .s w), (kS "region", .i rg), (kS "first", .i fi), (kS "second", .i se)]
theorem seg2 (c : Cx) {D : Nat} (hc : c.OK (D + 2)) (hsc : c.scope = defScope (stm 21)) {w : List Nat} (hz : w.length ≤ 500) (rg : Nat) {o : Out} {loc₂ : Ls} {sto₂ : Sto}
  (rest : Sx c (execs (B21.drop 4) c.env) (lS w rg (firstF w) (secondF w)) [] o loc₂ sto₂) : Sx c (execs (B21.drop 2) c.env) [(kS "word", .s w), (kS "region", .i rg)] [] o loc₂ sto₂ := by
 have P0 : CallS (D + 1) 1101 [.s w, .i 0, .b true] [] (.i (pastF w 0 true)) [] := L_past D (by lia) 0 true []
 have P1 : CallS (D + 1) 1101 [.s w, .i (pastF w 0 true), .b false] [] (.i (firstF w)) [] := L_past D (by lia) _ false []
 have P2 : CallS (D + 1) 1101 [.s w, .i (firstF w), .b true] [] (.i (pastF w (firstF w) true)) [] := L_past D (by lia) _ true []
 have P3 : CallS (D + 1) 1101 [.s w, .i (pastF w (firstF w) true), .b false] [] (.i (secondF w)) [] := L_past D (by lia) _ false []
 refine' sxq ?h1 (sq_next (sxq (sx_cast ?h2 ?h3 ?h4) (sq_next rest)))
 case h1 => walk_at "m sx"
 case h2 => walk_at "m sx"
 case h3 => rfl
 case h4 => rfl
noncomputable def abileL : List Nat := [97, 98, 105, 108, 101]
noncomputable def artW (w : List Nat) (f : Nat) : List Nat :=
 if (longest w tl_law_articles).1 > 0 ∧ (w.length : Int) - (longest w tl_law_articles).1 ≥ f ∧ endsW w abileL = false then w.take ((w.length : Int) - (longest w tl_law_articles).1).toNat ++ (longest w tl_law_articles).2 else w
theorem seg3 (c : Cx) {D : Nat} (hc : c.OK (D + 2)) (hsc : c.scope = defScope (stm 21)) {w : List Nat} (hz : w.length ≤ 500) (rg f se : Nat) {o : Out} {loc₂ : Ls} {sto₂ : Sto}
  (rest : Sx c (execs (B21.drop 6) c.env) (lS (artW w f) rg f se) [] o loc₂ sto₂) : Sx c (execs (B21.drop 4) c.env) (lS w rg f se) [] o loc₂ sto₂ := by
 obtain ⟨n, p, hL, hn, hp, C⟩ := L_long' (D + 1) (w := w) (by lia) ck_law_articles es_art pu_art
 unfold artW at rest
 rw [hL] at rest
 dsimp only at rest
 refine' sxq (sx_dropW (loc₂ := lS w rg f se ++ [(kS "size", .i n), (kS "put", .s p)]) ?a1 ?a2 ?a3) (sq_next ?r)
 case a1 => walk_at "m sx"
 case a2 => walk_at "m sub"
 case a3 => rfl
 case r =>
  clear C
  by_cases h1 : (n : Int) > 0
  ·by_cases h2 : (w.length : Int) - n ≥ f
   ·cases h3 : endsW w abileL with
    | false =>
     have h3' : endsW w (S "abile").cps.toList = false := h3
     rw [if_pos ⟨h1, h2, h3⟩] at rest
     refine' sxq ?b1 (sq_next rest)
     case b1 => walk_at "m dw"
    | true =>
     have h3' : endsW w (S "abile").cps.toList = true := h3
     rw [if_neg (fun q => by rw [h3] at q; cases q.2.2)] at rest
     refine' sxq ?b2 (sq_next rest)
     case b2 => walk_at "m dw"
   ·rw [if_neg (fun q => h2 q.2.1)] at rest
    refine' sxq ?b3 (sq_next rest)
    case b3 => walk_at "m dw"
  ·rw [if_neg (fun q => h1 q.1)] at rest
   refine' sxq ?b4 (sq_next rest)
   case b4 => walk_at "m dw"
theorem artW_len (w : List Nat) (f : Nat) : (artW w f).length ≤ w.length + 10 := by
 obtain ⟨n, h1, h2, h3⟩ := longest_nat w tl_law_articles pu_art
 unfold artW
 split
 ·rw [List.length_append]; exact Nat.add_le_add (List.length_take_le' _ _) h3
 ·exact Nat.le_add_right _ _
/-! the compound endings, two times -/
noncomputable def cmpW (f : Nat) (s : List Nat × Bool) : List Nat × Bool :=
 if (longest s.1 tl_law_compound).1 > 0 ∧ (s.1.length : Int) - (longest s.1 tl_law_compound).1 ≥ f then (s.1.take ((s.1.length : Int) - (longest s.1 tl_law_compound).1).toNat ++ (longest s.1 tl_law_compound).2, true) else s
theorem cmpW_len (f : Nat) (s : List Nat × Bool) : (cmpW f s).1.length ≤ s.1.length + 10 := by
 obtain ⟨n, h1, h2, h3⟩ := longest_nat s.1 tl_law_compound pu_cmp
 unfold cmpW
 split
 ·dsimp only
  rw [List.length_append]; exact Nat.add_le_add (List.length_take_le' _ _) h3
 ·exact Nat.le_add_right _ _
noncomputable def lT (s : List Nat × Bool) (rg f se : Nat) : Ls := lS s.1 rg f se ++ [(kS "taken", .b s.2)]
noncomputable def f1118 : Stmt := nthS B21 7
theorem cmp_turn (c : Cx) {D : Nat} (hc : c.OK (D + 2)) (hsc : c.scope = defScope (stm 21)) {s : List Nat × Bool} (hz : s.1.length ≤ 500) (rg f se : Nat) (i : Int) :
  Sx c (execs (forBody f1118) c.env) (lT s rg f se ++ [(kS "turn", .i i)]) [] .next (lT (cmpW f s) rg f se) [] := by
 obtain ⟨w, tk⟩ := s
 dsimp only at hz
 obtain ⟨n, p, hL, hn, hp, C⟩ := L_long' (D + 1) (w := w) (by lia) ck_law_compound es_cmp pu_cmp
 unfold cmpW
 dsimp only
 rw [hL]
 dsimp only
 refine' sxq (sx_dropW (loc₂ := lT (w, tk) rg f se ++ [(kS "turn", .i i), (kS "size", .i n), (kS "put", .s p)]) ?a1 ?a2 ?a3) (sq_next ?r)
 case a1 => walk_at "m sx"
 case a2 => walk_at "m sub"
 case a3 => rfl
 case r =>
  clear C
  by_cases h1 : (n : Int) > 0
  ·by_cases h2 : (w.length : Int) - n ≥ f
   ·rw [if_pos ⟨h1, h2⟩]
    refine' sxq ?b1 (sq_next sx_nil)
    case b1 => walk_at "m dw"
   ·rw [if_neg (fun q => h2 q.2)]
    refine' sxq ?b3 (sq_next sx_nil)
    case b3 => walk_at "m dw"
  ·rw [if_neg (fun q => h1 q.1)]
   refine' sxq ?b4 (sq_next sx_nil)
   case b4 => walk_at "m dw"
theorem seg4 (c : Cx) {D : Nat} (hc : c.OK (D + 2)) (hsc : c.scope = defScope (stm 21)) {w : List Nat} (hz : w.length ≤ 480) (rg f se : Nat) {o : Out} {loc₂ : Ls} {sto₂ : Sto}
  (rest : Sx c (execs (B21.drop 8) c.env) (lT (cmpW f (cmpW f (w, false))) rg f se) [] o loc₂ sto₂) : Sx c (execs (B21.drop 6) c.env) (lS w rg f se) [] o loc₂ sto₂ := by
 have hl1 := cmpW_len f (w, false)
 have hsc' : c.scope.names.lookup (S "turn") = some .local := kL hsc (by decide +kernel)
 have A : ∀ (s : List Nat × Bool) (i : Int) (p : Pos), Asg c (.Name (S "turn") p) (.i i) (lT s rg f se) (lT s rg f se ++ [(kS "turn", .i i)]) [] := fun s i p => asg_name (p := p) (v := .i i) (loc := lT s rg f se) (sto := []) hc hsc'
 refine' sxq (sx_cast (loc₂ := lT (w, false) rg f se) ?a1 ?a2 ?a3) (sq_next (sxq ?b1 (sq_next rest)))
 case a1 => walk_at "m sx"
 case a2 => rfl
 case a3 => rfl
 case b1 =>
  refine' sx_for_range hc (x := 0) (y := 2) (st := 1) ?hi ?h ?small ?T
  case hi => rfl
  case h =>
   refine' rng1 hc (bi_range _) ?hk2 ?hs2 ?h2
   case hk2 => walk_at "m local"
   case hs2 => rfl
   case h2 => walk_at "m evl"
  case small => exact small1 (by lia)
  case T =>
   have e : Builtin.Range.rangeSize 0 2 1 = 2 := by decide
   rw [e]
   refine ForR.next (by lia) (A _ _ _) (fun ext => cmp_turn (c.with ext) (hc.with ext) hsc (by dsimp only; lia) rg f se 0) ?_
   refine ForR.next (by lia) (A _ _ _) (fun ext => cmp_turn (c.with ext) (hc.with ext) hsc (by dsimp only at hl1; lia) rg f se (0 + 1)) ?_
   exact ForR.done (by lia)
/-! the plain endings -/
noncomputable def plaW (se : Nat) (s : List Nat × Bool) : List Nat × Bool :=
 let L := longest s.1 tl_law_plain
 let st := s.1.take ((s.1.length : Int) - L.1).toNat
 if L.1 > 0 ∧ (st.length : Int) ≥ se then
  (if L.2 ≠ [116] then (st ++ L.2, true) else if endsW st [539] = true then (st.take ((st.length : Int) - 1).toNat ++ [116], true) else s)
 else s
theorem tk_le (k : Nat) (l : List Nat) : (l.take k).length ≤ l.length := by
 rw [List.length_take]
 exact Nat.min_le_right _ _
theorem takeI (n : Nat) (w : List Nat) : (w.take ((w.length : Int) - n).toNat).length = w.length - n := by
 have e : ((w.length : Int) - n).toNat = w.length - n := by lia
 rw [e, List.length_take]
 exact Nat.min_eq_left (Nat.sub_le _ _)
theorem plaW_len (se : Nat) (s : List Nat × Bool) : (plaW se s).1.length ≤ s.1.length + 10 := by
 obtain ⟨n, h1, h2, h3⟩ := longest_nat s.1 tl_law_plain pu_pla
 unfold plaW
 dsimp only
 split
 ·split
  ·dsimp only; rw [List.length_append]; refine Nat.add_le_add (tk_le _ _) ?_; lia
  ·split
   ·dsimp only; rw [List.length_append]; exact Nat.add_le_add (Nat.le_trans (tk_le _ _) (tk_le _ _)) (by decide)
   ·lia
 ·lia
theorem seg5 (c : Cx) {D : Nat} (hc : c.OK (D + 2)) (hsc : c.scope = defScope (stm 21)) {s : List Nat × Bool} (hz : s.1.length ≤ 500) (rg f se : Nat) {o : Out} {loc₂ : Ls} {sto₂ : Sto}
  (rest : Sx c (execs (B21.drop 11) c.env) (lT (plaW se s) rg f se) [] o loc₂ sto₂) : Sx c (execs (B21.drop 8) c.env) (lT s rg f se) [] o loc₂ sto₂ := by
 obtain ⟨w, tk⟩ := s
 dsimp only at hz
 obtain ⟨n, p, hL, hn, hp, C⟩ := L_long' (D + 1) (w := w) (by lia) ck_law_plain es_pla pu_pla
 unfold plaW at rest
 dsimp only at rest
 rw [hL] at rest
 dsimp only at rest
 refine' sxq (sx_dropW (loc₂ := lT (w, tk) rg f se ++ [(kS "size", .i n), (kS "put", .s p)]) ?a1 ?a2 ?a3) (sq_next ?r)
 case a1 => walk_at "m sx"
 case a2 => walk_at "m sub"
 case a3 => rfl
 case r =>
  clear C
  have hsl : (w.take ((w.length : Int) - n).toNat).length = w.length - n := takeI n w
  refine' sxq (sx_dropW (loc₂ := lT (w, tk) rg f se ++ [(kS "size", .i n), (kS "put", .s p), (kS "stem", .s (w.take ((w.length : Int) - n).toNat))]) ?c1 ?c2 ?c3) (sq_next ?r2)
  case c1 => walk_at "m sx"
  case c2 => walk_at "m sub"
  case c3 => rfl
  case r2 =>
   generalize w.take ((w.length : Int) - n).toNat = st at *
   by_cases h1 : (n : Int) > 0
   ·by_cases h2 : (st.length : Int) ≥ se
    ·rw [if_pos ⟨h1, h2⟩] at rest
     by_cases h3 : p = [116]
     ·have h3' : p = (S "t").cps.toList := h3
      rw [if_neg (fun q => q h3)] at rest
      cases h4 : endsW st [539] with
      | true =>
       have h4' : endsW st (S "ț").cps.toList = true := h4
       rw [if_pos h4] at rest
       have ht1 : (PySem.Str.ofString "t").cps.toList.length = 1 := by decide +kernel
       have hpos : 0 < st.length := by have := ends_len h4; simp at this; lia
       refine' sxq ?b1 (sq_next rest)
       case b1 => walk_at "m dw"
      | false =>
       have h4' : endsW st (S "ț").cps.toList = false := h4
       rw [if_neg (by rw [h4]; decide)] at rest
       refine' sxq ?b2 (sq_next rest)
       case b2 => walk_at "m dw"
     ·have h3' : p ≠ (S "t").cps.toList := h3
      rw [if_pos h3] at rest
      refine' sxq ?b3 (sq_next rest)
      case b3 => walk_at "m dw"
    ·rw [if_neg (fun q => h2 q.2)] at rest
     refine' sxq ?b4 (sq_next rest)
     case b4 => walk_at "m dw"
   ·rw [if_neg (fun q => h1 q.1)] at rest
    refine' sxq ?b5 (sq_next rest)
    case b5 => walk_at "m dw"
/-! the verbs' endings -/
noncomputable def verW (rg : Nat) (w : List Nat) : List Nat :=
 let L := longest (w.drop rg) tl_law_verbal
 let st := w.take ((w.length : Int) - L.1).toNat
 if L.1 > 0 ∧ (L.2 = [97, 110, 121] ∨ ((st.length : Int) > rg ∧ (endsW st [117] = true ∨ vw (st.getD (st.length - 1) 0) = false))) then st else w
theorem verW_len (rg : Nat) (w : List Nat) : (verW rg w).length ≤ w.length := by
 unfold verW
 dsimp only
 split
 ·exact tk_le _ _
 ·lia
theorem seg6 (c : Cx) {D : Nat} (hc : c.OK (D + 2)) (hsc : c.scope = defScope (stm 21)) {s : List Nat × Bool} (hz : s.1.length ≤ 500) (rg f se : Nat) {o : Out} {loc₂ : Ls} {sto₂ : Sto}
  (rest : Sx c (execs (B21.drop 12) c.env) (lS (if s.2 then s.1 else verW rg s.1) rg f se) [] o loc₂ sto₂) : Sx c (execs (B21.drop 11) c.env) (lT s rg f se) [] o loc₂ sto₂ := by
 obtain ⟨w, tk⟩ := s
 dsimp only at hz rest
 cases tk with
 | true =>
  refine' sxq ?a0 (sq_next rest)
  case a0 => walk_at "m dw"
 | false =>
  simp only [Bool.false_eq_true, if_false] at rest
  have hdl : (w.drop ((rg : Nat) : Int).toNat).length ≤ 1000 := by rw [List.length_drop]; lia
  have hrg : ((rg : Nat) : Int).toNat = rg := Int.toNat_natCast rg
  obtain ⟨n, p, hL, hn, hp, C⟩ := L_long' (D + 1) (w := w.drop ((rg : Nat) : Int).toNat) hdl ck_law_verbal es_ver pu_ver
  have hn' : n ≤ w.length := by rw [List.length_drop] at hn; lia
  unfold verW at rest
  rw [hrg] at hL
  dsimp only at rest
  rw [hL] at rest
  dsimp only at rest
  have hsl : (w.take ((w.length : Int) - n).toNat).length = w.length - n := takeI n w
  refine' sxq (sx_ifg ?t1 (ifg_t ?t2 ?t3)) (sq_next rest)
  case t1 => walk_at "m tst"
  case t2 => rfl
  case t3 =>
   refine' sxq (sx_dropW (loc₂ := lT (w, false) rg f se ++ [(kS "size", .i n), (kS "put", .s p)]) ?a1 ?a2 ?a3) (sq_next ?r)
   case a1 => walk_at "m sx"
   case a2 => walk_at "m sub"
   case a3 => rfl
   case r =>
    clear C
    refine' sxq (sx_dropW (loc₂ := lT (w, false) rg f se ++ [(kS "size", .i n), (kS "put", .s p), (kS "stem", .s (w.take ((w.length : Int) - n).toNat))]) ?c1 ?c2 ?c3) (sq_next ?r2)
    case c1 => walk_at "m sx"
    case c2 => walk_at "m sub"
    case c3 => rfl
    case r2 =>
     generalize w.take ((w.length : Int) - n).toNat = st at *
     by_cases h1 : (n : Int) > 0
     ·by_cases h2 : p = [97, 110, 121]
      ·have h2' : p = (S "any").cps.toList := h2
       rw [if_pos ⟨h1, .inl h2⟩]
       refine' sxq ?b1 (sq_next sx_nil)
       case b1 => walk_at "m dw"
      ·have h2' : p ≠ (S "any").cps.toList := h2
       by_cases h3 : (st.length : Int) > rg
       ·cases h4 : endsW st [117] with
        | true =>
         have h4' : endsW st (S "u").cps.toList = true := h4
         rw [if_pos ⟨h1, .inr ⟨h3, .inl rfl⟩⟩]
         refine' sxq ?b2 (sq_next sx_nil)
         case b2 => walk_at "m dw"
        | false =>
         have h4' : endsW st (S "u").cps.toList = false := h4
         have hlt : st.length - 1 < st.length := by lia
         have g : st[st.length - 1]? = some (st.getD (st.length - 1) 0) := by rw [List.getD_eq_getElem?_getD, List.getElem?_eq_getElem hlt]; rfl
         have hx : st[((st.length : Int) - 1).toNat]? = some (st.getD (st.length - 1) 0) := by rw [show ((st.length : Int) - 1).toNat = st.length - 1 by lia]; exact g
         have hvv : isVow [st.getD (st.length - 1) 0] = vw (st.getD (st.length - 1) 0) := rfl
         cases h5 : vw (st.getD (st.length - 1) 0) with
         | true =>
          rw [h5] at hvv
          rw [if_neg (fun q => by
           rcases q.2 with q | q
           ·exact h2 q
           ·rcases q.2 with q | q <;> cases q)]
          refine' sxq ?b3 (sq_next sx_nil)
          case b3 => walk_at "m dw"
         | false =>
          rw [h5] at hvv
          rw [if_pos ⟨h1, .inr ⟨h3, .inr rfl⟩⟩]
          refine' sxq ?b4 (sq_next sx_nil)
          case b4 => walk_at "m dw"
       ·rw [if_neg (fun q => by
         rcases q.2 with q | q
         ·exact h2 q
         ·exact h3 q.1)]
        refine' sxq ?b5 (sq_next sx_nil)
        case b5 => walk_at "m dw"
     ·rw [if_neg (fun q => h1 q.1)]
      refine' sxq ?b6 (sq_next sx_nil)
      case b6 => walk_at "m dw"
/-! the last vowel -/
noncomputable def lasW (rg : Nat) (w : List Nat) : List Nat := if (w.length : Int) - (longest w tl_law_last).1 ≥ rg then w.take ((w.length : Int) - (longest w tl_law_last).1).toNat else w
theorem lasW_len (rg : Nat) (w : List Nat) : (lasW rg w).length ≤ w.length := by
 unfold lasW
 split
 ·exact tk_le _ _
 ·lia
theorem seg7 (c : Cx) {D : Nat} (hc : c.OK (D + 2)) (hsc : c.scope = defScope (stm 21)) {w : List Nat} (hz : w.length ≤ 500) (rg f se : Nat) {o : Out} {loc₂ : Ls} {sto₂ : Sto}
  (rest : Sx c (execs (B21.drop 14) c.env) (lS (lasW rg w) rg f se) [] o loc₂ sto₂) : Sx c (execs (B21.drop 12) c.env) (lS w rg f se) [] o loc₂ sto₂ := by
 obtain ⟨n, p, hL, hn, hp, C⟩ := L_long' (D + 1) (w := w) (by lia) ck_law_last es_las pu_las
 unfold lasW at rest
 rw [hL] at rest
 dsimp only at rest
 refine' sxq (sx_dropW (loc₂ := lS w rg f se ++ [(kS "size", .i n), (kS "put", .s p)]) ?a1 ?a2 ?a3) (sq_next ?r)
 case a1 => walk_at "m sx"
 case a2 => walk_at "m sub"
 case a3 => rfl
 case r =>
  clear C
  by_cases h1 : (w.length : Int) - n ≥ rg
  ·rw [if_pos h1] at rest
   refine' sxq ?b1 (sq_next rest)
   case b1 => walk_at "m dw"
  ·rw [if_neg h1] at rest
   refine' sxq ?b2 (sq_next rest)
   case b2 => walk_at "m dw"
noncomputable def postS (a : List Nat) : List Nat := if (a == (PySem.Str.ofString "I").cps.toList) = true then (PySem.Str.ofString "i").cps.toList else if (a == (PySem.Str.ofString "U").cps.toList) = true then (PySem.Str.ofString "u").cps.toList else a
theorem postS_one (n : Nat) : postS [n] = [postC n] := by
 have e1 : (PySem.Str.ofString "I").cps.toList = [73] := by decide +kernel
 have e2 : (PySem.Str.ofString "u").cps.toList = [117] := by decide +kernel
 have e3 : (PySem.Str.ofString "U").cps.toList = [85] := by decide +kernel
 have e4 : (PySem.Str.ofString "i").cps.toList = [105] := by decide +kernel
 unfold postS postC
 rw [e1, e2, e3, e4]
 by_cases h1 : n = 73
 ·subst h1; rfl
 ·rw [beq_ne.mpr h1, cond_false, if_neg (by simpa using h1)]
  by_cases h2 : n = 85
  ·subst h2; rfl
  ·rw [beq_ne.mpr h2, cond_false, if_neg (by simpa using h2)]
theorem seg8 (c : Cx) {D : Nat} (hc : c.OK (D + 2)) (hsc : c.scope = defScope (stm 21)) {w : List Nat} (hz : w.length ≤ 500) (rg f se : Nat) :
  Sx c (execs (B21.drop 14) c.env) (lS w rg f se) [] (.ret (.s (w.map postC))) (lS w rg f se) [.list (w.map fun n => .s (postS [n]))] := by
 have hmap : (w.map fun n => V.s (postS [n])) = sg (w.map postC) := by
  unfold sg
  rw [List.map_map]
  exact List.map_congr_left fun n _ => by rw [postS_one]; rfl
 have e : joinL ((w.map postC).map fun n => [n]) = w.map postC := join_ones _
 rw [← e]
 refine' sxq (sx_cast ?h8 ?e8 ?e9) sq_ret
 case h8 =>
  refine' sx_return ?h11
  case h11 =>
   refine' ev_join (hcD := hc) ?hb ?hs ?hline ?h12 ?g ?q ?hx ?hz3
   case hb => rfl
   case hs => rfl
   case hline => rfl
   case h12 => exact ev_str _ _ _
   case g =>
    refine' evl_cons ?g1 evl_nil
    case g1 =>
     refine' ev_comp hc ?ok ?hv ?hk ?hd ?he ?hz
     case ok => exact ⟨by decide, by decide, rfl, by decide +kernel, rfl⟩
     case hv => rfl
     case hk => walk_at "m local"
     case hd => decide +kernel
     case he => walk_at "m elt"
     case hz => lia
   case q => exact Or.inl ⟨_, rfl, rfl⟩
   case hx => exact (congrArg strsOf hmap).trans (sg_strs _)
   case hz3 => rw [sum_ones, List.length_map]; lia
 case e8 => rfl
 case e9 => rfl
noncomputable def lawStem (w0 : List Nat) : List Nat :=
 let w := markR false (w0.map cedF)
 let s := plaW (secondF w) (cmpW (firstF w) (cmpW (firstF w) (artW w (firstF w), false)))
 (lasW (regF w) (if s.2 then s.1 else verW (regF w) s.1)).map postC
theorem L_stem0 (D : Nat) {w0 : List Nat} (hz : w0.length ≤ 200) : CallS (D + 2) 1118 [.s w0] [] (.s (lawStem w0)) [] := by
 have hd : ∃ junk, CallS (D + 2) 1118 [.s w0] [] (.s (lawStem w0)) junk := by
  have hlen : (markR false (w0.map cedF)).length = w0.length := by rw [mark_len, List.length_map]
  have C := L_marked0 D (w := w0) (by lia)
  generalize hw : markR false (w0.map cedF) = w at *
  have l3 := artW_len w (firstF w)
  generalize hw3 : artW w (firstF w) = w3 at *
  have l4a := cmpW_len (firstF w) (w3, false)
  have l4b := cmpW_len (firstF w) (cmpW (firstF w) (w3, false))
  generalize hw4 : cmpW (firstF w) (cmpW (firstF w) (w3, false)) = s4 at *
  have l5 := plaW_len (secondF w) s4
  generalize hw5 : plaW (secondF w) s4 = s5 at *
  have l6 : (if s5.2 then s5.1 else verW (regF w) s5.1).length ≤ s5.1.length := by
   split
   ·exact Nat.le_refl _
   ·exact verW_len _ _
  generalize hw6 : (if s5.2 then s5.1 else verW (regF w) s5.1) = w6 at *
  have l7 := lasW_len (regF w) w6
  generalize hw7 : lasW (regF w) w6 = w7 at *
  have eL : lawStem w0 = w7.map postC := by
   unfold lawStem
   dsimp only
   rw [hw, hw3, hw4, hw5, hw6, hw7]
  rw [eL]
  dsimp only at l4a
  refine ⟨[.list (w7.map fun n => .s (postS [n]))], call_body fn1118 rfl fun c hc hsc => ⟨.ret (.s (w7.map postC)), lS w7 (regF w) (firstF w) (secondF w), rfl, ?_⟩⟩
  have R8 := seg8 c hc hsc (w := w7) (by lia) (regF w) (firstF w) (secondF w)
  rw [← hw7] at R8
  have R7 := seg7 c hc hsc (w := w6) (by lia) _ _ _ R8
  rw [← hw6] at R7
  have R6 := seg6 c hc hsc (s := s5) (by lia) _ _ _ R7
  rw [← hw5] at R6
  have R5 := seg5 c hc hsc (s := s4) (by lia) _ _ _ R6
  rw [← hw4] at R5
  have R4 := seg4 c hc hsc (w := w3) (by lia) _ _ _ R5
  rw [← hw3] at R4
  have R3 := seg3 c hc hsc (w := w) (by lia) _ _ _ R4
  have R2 := seg2 c hc hsc (w := w) (by lia) _ R3
  have R1 := seg1 c hc hsc (w := w) (by lia) R2
  rw [← hw7, ← hw6, ← hw5, ← hw4, ← hw3]
  refine' sxq (sx_cast (loc₂ := [(kS "word", .s w)]) (sto₂ := []) ?h1 ?h2 ?h3) (sq_next R1)
  case h1 => walk_at "m sx"
  case h2 => rfl
  case h3 => rfl
 obtain ⟨junk, h⟩ := hd
 exact h.drop rfl
/-! ### the law itself: the endings in one row -/
noncomputable def sgs (l : List (List Nat)) : List V := l.map V.s
noncomputable def endsOf (t : List RowL) : List (List Nat) := t.flatMap RowL.ends
noncomputable def lE (l : Addr) (k : Nat) : Ls := [(kS "script", .a l), (kS "ends", .d k)]
noncomputable def lER (l : Addr) (k : Nat) (x : Addr) : Ls := lE l k ++ [(kS "rows", .a x)]
noncomputable def B22 : List Stmt := defBody (stm 22)
noncomputable def fE : Stmt := nthS B22 1
noncomputable def fEi : Stmt := nthS (forBody fE) 0
noncomputable def HasE (sto : Sto) (k : Nat) (E : List (List Nat)) : Prop := sto[k]? = some (.list (sgs E))
theorem ends_turn (c : Cx) {D : Nat} (hc : c.OK D) (hsc : c.scope = defScope (stm 22)) (l : Addr) (k : Nat) (x : Addr) (put_ : List Nat) (a : Addr) (es E : List (List Nat)) {sto : Sto} (hE : HasE sto k E) (hs : StL c.w.params a (sgs es)) (hz : E.length + es.length ≤ 1000) :
  Sx c (execs (forBody fEi) c.env) (lER l k x ++ [(kS "put", .s put_), (kS "row", .a a)]) sto .next (lER l sto.length x ++ [(kS "put", .s put_), (kS "row", .a a)]) (sto ++ [.list (sgs E ++ sgs es)]) := by
 have hE' : sto[k]? = some (.list (sgs E)) := hE
 have hz' : (sgs E).length + (sgs es).length ≤ 100000 := by unfold sgs; rw [List.length_map, List.length_map]; lia
 refine' sxq (sx_cast (sx_assign hc ?h1 (ev_bin ?h2 ?h3 (add_L hc (Or.inl ⟨_, rfl, hE'⟩) (Or.inr ⟨_, rfl, hs⟩) hz')) ?h4) ?h5 ?h6) (sq_next sx_nil)
 case h1 => rfl
 case h2 => walk_at "m ev"
 case h3 => walk_at "m ev"
 case h4 => walk_at "m local"
 case h5 => rfl
 case h6 => rfl
theorem HasE.app {sto : Sto} {k : Nat} {E : List (List Nat)} (h : HasE sto k E) (j : Sto) : HasE (sto ++ j) k E := by
 unfold HasE at h ⊢
 rw [List.getElem?_append_left (List.getElem?_eq_some_iff.mp h).1]; exact h
noncomputable def jk : List RowL → List (List Nat) → Sto
 | [], _ => []
 | r :: t, E => .list (sgs E ++ sgs r.ends) :: jk t (E ++ r.ends)
noncomputable def kk : List RowL → Nat → Nat → Nat
 | [], k, _ => k
 | _ :: t, _, n => kk t n (n + 1)
theorem ends_inner (c : Cx) {D : Nat} (hc : c.OK D) (hsc : c.scope = defScope (stm 22)) (l x : Addr) (t : List RowL) (ht : TabL c.w.params x t) : ∀ (n j k : Nat) (E : List (List Nat)) (sto : Sto), t.length - j = n → HasE sto k E → E.length + (endsOf (t.drop j)).length ≤ 1000 →
  HasE (sto ++ jk (t.drop j) E) (kk (t.drop j) k sto.length) (E ++ endsOf (t.drop j)) ∧ ForL c (.Tuple [.Name (S "put") ⟨643, 12, 643, 15⟩, .Name (S "row") ⟨643, 17, 643, 20⟩] 0 ⟨643, 12, 643, 20⟩) (forBody fEi) (.a x) (t.map fun r => .a r.tup) j (lER l k x) sto .next (lER l (kk (t.drop j) k sto.length) x) (sto ++ jk (t.drop j) E) := by
 intro n
 induction n with
 | zero =>
  intro j k E sto hn hE hz
  rw [List.drop_of_length_le (by lia)]
  refine ⟨?_, ?_⟩
  ·rw [show jk [] E = [] from rfl, List.append_nil, show endsOf [] = [] from rfl, List.append_nil]; exact hE
  ·rw [show jk [] E = [] from rfl, List.append_nil]
   exact ForL.done (.inr ⟨_, rfl, ht.list⟩) (List.getElem?_eq_none (by rw [List.length_map]; lia))
 | succ n ih =>
  intro j k E sto hn hE hz
  have hlt : j < t.length := by lia
  have hm := List.getElem_mem hlt
  have hd := List.drop_eq_getElem_cons hlt
  have hx : (t.map fun r => V.a r.tup)[j]? = some (.a t[j].tup) := by rw [List.getElem?_map, List.getElem?_eq_getElem hlt]; rfl
  rw [hd] at hz ⊢
  have he : endsOf (t[j] :: t.drop (j + 1)) = t[j].ends ++ endsOf (t.drop (j + 1)) := rfl
  rw [he] at hz ⊢
  rw [List.length_append] at hz
  have hE2 : HasE (sto ++ [.list (sgs E ++ sgs t[j].ends)]) sto.length (E ++ t[j].ends) := by
   unfold HasE
   rw [List.getElem?_append_right (Nat.le_refl _), Nat.sub_self]
   show some (Ob.list (sgs E ++ sgs t[j].ends)) = some (Ob.list (sgs (E ++ t[j].ends)))
   unfold sgs
   rw [List.map_append]
  obtain ⟨h1, T⟩ := ih (j + 1) sto.length (E ++ t[j].ends) (sto ++ [.list (sgs E ++ sgs t[j].ends)]) (by lia) hE2 (by rw [List.length_append]; lia)
  have e1 : sto ++ jk (t[j] :: t.drop (j + 1)) E = (sto ++ [.list (sgs E ++ sgs t[j].ends)]) ++ jk (t.drop (j + 1)) (E ++ t[j].ends) := by
   rw [List.append_assoc]; rfl
  have e2 : kk (t[j] :: t.drop (j + 1)) k sto.length = kk (t.drop (j + 1)) sto.length (sto ++ [Ob.list (sgs E ++ sgs t[j].ends)]).length := by
   rw [List.length_append]; rfl
  rw [e1, e2]
  refine ⟨by rw [← List.append_assoc]; exact h1, ?_⟩
  refine forL_next (.inr ⟨_, rfl, ht.list⟩) hx (loc₁ := lER l k x ++ [(kS "put", .s t[j].put_), (kS "row", .a t[j].lst)]) ?_ (fun ext => ends_turn (c.with ext) (hc.with ext) hsc l k x t[j].put_ t[j].lst t[j].ends E hE (ht.ends _ hm) (by lia)) ?_ T
  ·exact asg_two (k := 0) (px := ⟨643, 12, 643, 15⟩) (py := ⟨643, 17, 643, 20⟩) (pos := ⟨643, 12, 643, 20⟩) (loc := lER l k x) (sto := sto) hc (kL hsc (by decide +kernel)) (kL hsc (by decide +kernel)) (.inr ⟨_, rfl, ht.tups _ hm⟩)
  ·exact ⟨rfl, rfl, rfl, trivial⟩
theorem ends_has (t : List RowL) : ∀ (k : Nat) (E : List (List Nat)) (sto : Sto), HasE sto k E → HasE (sto ++ jk t E) (kk t k sto.length) (E ++ endsOf t) := by
 induction t with
 | nil =>
  intro k E sto h
  rw [show jk [] E = [] from rfl, List.append_nil, show endsOf [] = [] from rfl, List.append_nil]; exact h
 | cons r t ih =>
  intro k E sto h
  have hE2 : HasE (sto ++ [.list (sgs E ++ sgs r.ends)]) sto.length (E ++ r.ends) := by
   unfold HasE
   rw [List.getElem?_append_right (Nat.le_refl _), Nat.sub_self]
   show some (Ob.list (sgs E ++ sgs r.ends)) = some (Ob.list (sgs (E ++ r.ends)))
   unfold sgs
   rw [List.map_append]
  have := ih sto.length (E ++ r.ends) (sto ++ [.list (sgs E ++ sgs r.ends)]) hE2
  rw [List.length_append] at this
  have e1 : sto ++ jk (r :: t) E = (sto ++ [.list (sgs E ++ sgs r.ends)]) ++ jk t (E ++ r.ends) := by
   rw [List.append_assoc]; rfl
  rw [e1]
  have e3 : E ++ endsOf (r :: t) = E ++ r.ends ++ endsOf t := by rw [List.append_assoc]; rfl
  rw [e3]
  exact this
theorem ends_body (c : Cx) {D : Nat} (hc : c.OK D) (hsc : c.scope = defScope (stm 22)) (l x : Addr) (t : List RowL) (ht : ∀ P, ckTabL P x t = true) (k : Nat) (E : List (List Nat)) (sto : Sto) (hE : HasE sto k E) (hz : E.length + (endsOf t).length ≤ 1000) :
  Sx c (execs (forBody fE) c.env) (lER l k x) sto .next (lER l (kk t k sto.length) x) (sto ++ jk t E) := by
 have e : t.drop 0 = t := List.drop_zero
 obtain ⟨_, T⟩ := ends_inner c hc hsc l x t (tabL_of (ht c.w.params)) t.length 0 k E sto (by lia) hE (by rw [e]; exact hz)
 rw [e] at T
 refine' sxq ?h1 (sq_next sx_nil)
 case h1 =>
  refine' sx_for_list hc ?ht ?hi ?h ?q0 T
  case ht => first | exact letOK_name | exact letOK_tup
  case hi => rfl
  case h => walk_at "m ev"
  case q0 => exact .inr ⟨_, rfl, (tabL_of (ht c.w.params)).list⟩
theorem ends_outer (c : Cx) {D : Nat} (hc : c.OK D) (hsc : c.scope = defScope (stm 22)) (l : Addr) (v : V) (vs : List V) (j : Nat) (x : Addr) (t : List RowL) (ht : ∀ P, ckTabL P x t = true) (k : Nat) (E : List (List Nat)) (sto : Sto) (hE : HasE sto k E) (hz : E.length + (endsOf t).length ≤ 1000) (q : IsL c sto v vs) (e : vs[j]? = some (.a x)) {o : Out} {loc₂ : Ls} {sto₂ : Sto}
  (r : ForL c (.Name (S "rows") ⟨642, 8, 642, 12⟩) (forBody fE) v vs (j + 1) (lE l (kk t k sto.length)) (sto ++ jk t E) o loc₂ sto₂) : ForL c (.Name (S "rows") ⟨642, 8, 642, 12⟩) (forBody fE) v vs j (lE l k) sto o loc₂ sto₂ := by
 have hsc' : c.scope.names.lookup (S "rows") = some .local := kL hsc (by decide +kernel)
 refine forL_next q e (loc₁ := lER l k x) ?_ (fun ext => ends_body (c.with ext) (hc.with ext) hsc l x t ht k E sto hE hz) ?_ r
 ·exact asg_name (p := ⟨642, 8, 642, 12⟩) (v := .a x) (loc := lE l k) (sto := sto) hc hsc'
 ·exact ⟨rfl, rfl, trivial⟩
noncomputable def E1 : List (List Nat) := [] ++ endsOf tl_law_articles
noncomputable def E2 : List (List Nat) := E1 ++ endsOf tl_law_compound
noncomputable def E3 : List (List Nat) := E2 ++ endsOf tl_law_plain
noncomputable def E4 : List (List Nat) := E3 ++ endsOf tl_law_verbal
theorem E4_len : E4.length ≤ 300 ∧ (endsOf tl_law_articles).length ≤ 300 ∧ E1.length + (endsOf tl_law_compound).length ≤ 300 ∧ E2.length + (endsOf tl_law_plain).length ≤ 300 ∧ E3.length + (endsOf tl_law_verbal).length ≤ 300 := by decide +kernel
theorem E4_short : (E4.all fun e => Nat.ble e.length 20) = true := by decide +kernel
theorem lawA (c : Cx) {D : Nat} (hc : c.OK D) (hsc : c.scope = defScope (stm 22)) (l : Addr) : ∃ k sto, HasE sto k E4 ∧ ∀ {o : Out} {loc₂ : Ls} {sto₂ : Sto}, Sx c (execs (B22.drop 2) c.env) (lE l k) sto o loc₂ sto₂ → Sx c (execs B22 c.env) [(kS "script", .a l)] [] o loc₂ sto₂ := by
 obtain ⟨z4, z0, z1, z2, z3⟩ := E4_len
 obtain ⟨s0, hs0⟩ : ∃ s0 : Sto, s0 = [.list (sgs []), .list [.a 1059, .a 1072, .a 1079, .a 1084]] := ⟨_, rfl⟩
 have h0 : HasE s0 0 [] := by rw [hs0]; rfl
 have q0 : s0[1]? = some (.list [.a 1059, .a 1072, .a 1079, .a 1084]) := by rw [hs0]; rfl
 have qa : ∀ {s : Sto} (j : Sto), s[1]? = some (.list [.a 1059, .a 1072, .a 1079, .a 1084]) → (s ++ j)[1]? = some (.list [.a 1059, .a 1072, .a 1079, .a 1084]) := fun j h => by
  rw [List.getElem?_append_left (List.getElem?_eq_some_iff.mp h).1]; exact h
 have h1 : HasE (s0 ++ jk tl_law_articles []) _ E1 := ends_has tl_law_articles 0 [] s0 h0
 have q1 := qa (jk tl_law_articles []) q0
 generalize hk1 : kk tl_law_articles 0 s0.length = k1 at h1
 obtain ⟨s1, hs1⟩ : ∃ s1, s1 = s0 ++ jk tl_law_articles [] := ⟨_, rfl⟩
 rw [← hs1] at h1 q1
 have h2 : HasE (s1 ++ jk tl_law_compound E1) _ E2 := ends_has tl_law_compound k1 E1 s1 h1
 have q2 := qa (jk tl_law_compound E1) q1
 generalize hk2 : kk tl_law_compound k1 s1.length = k2 at h2
 obtain ⟨s2, hs2⟩ : ∃ s2, s2 = s1 ++ jk tl_law_compound E1 := ⟨_, rfl⟩
 rw [← hs2] at h2 q2
 have h3 : HasE (s2 ++ jk tl_law_plain E2) _ E3 := ends_has tl_law_plain k2 E2 s2 h2
 have q3 := qa (jk tl_law_plain E2) q2
 generalize hk3 : kk tl_law_plain k2 s2.length = k3 at h3
 obtain ⟨s3, hs3⟩ : ∃ s3, s3 = s2 ++ jk tl_law_plain E2 := ⟨_, rfl⟩
 rw [← hs3] at h3 q3
 have h4 : HasE (s3 ++ jk tl_law_verbal E3) _ E4 := ends_has tl_law_verbal k3 E3 s3 h3
 have q4 := qa (jk tl_law_verbal E3) q3
 generalize hk4 : kk tl_law_verbal k3 s3.length = k4 at h4
 obtain ⟨s4, hs4⟩ : ∃ s4, s4 = s3 ++ jk tl_law_verbal E3 := ⟨_, rfl⟩
 rw [← hs4] at h4 q4
 refine ⟨k4, s4, h4, fun rest => ?_⟩
 have T4 : ForL c (.Name (S "rows") ⟨642, 8, 642, 12⟩) (forBody fE) (.d 1) [.a 1059, .a 1072, .a 1079, .a 1084] 4 (lE l k4) s4 .next (lE l k4) s4 := ForL.done (.inl ⟨1, rfl, q4⟩) rfl
 have T3 := ends_outer c hc hsc l (.d 1) [.a 1059, .a 1072, .a 1079, .a 1084] 3 1084 tl_law_verbal ck_law_verbal k3 E3 s3 h3 (by lia) (.inl ⟨1, rfl, q3⟩) rfl (by rw [hk4, ← hs4]; exact T4)
 have T2 := ends_outer c hc hsc l (.d 1) [.a 1059, .a 1072, .a 1079, .a 1084] 2 1079 tl_law_plain ck_law_plain k2 E2 s2 h2 (by lia) (.inl ⟨1, rfl, q2⟩) rfl (by rw [hk3, ← hs3]; exact T3)
 have T1 := ends_outer c hc hsc l (.d 1) [.a 1059, .a 1072, .a 1079, .a 1084] 1 1072 tl_law_compound ck_law_compound k1 E1 s1 h1 (by lia) (.inl ⟨1, rfl, q1⟩) rfl (by rw [hk2, ← hs2]; exact T2)
 have T0 := ends_outer c hc hsc l (.d 1) [.a 1059, .a 1072, .a 1079, .a 1084] 0 1059 tl_law_articles ck_law_articles 0 [] s0 h0 (by show ([] : List (List Nat)).length + _ ≤ 1000; simp only [List.length_nil]; lia) (.inl ⟨1, rfl, q0⟩) rfl (by rw [hk1, ← hs1]; exact T1)
 refine' sxq (sx_cast (loc₂ := lE l 0) (sto₂ := [.list (sgs [])]) ?a1 ?a2 ?a3) (sq_next (sxq ?b1 (sq_next rest)))
 case a1 => walk_at "m sx"
 case a2 => rfl
 case a3 => rfl
 case b1 =>
  rw [hs0] at T0
  refine' sx_for_list hc ?ht ?hi ?h ?q0 T0
  case ht => first | exact letOK_name | exact letOK_tup
  case hi => rfl
  case h =>
   refine ev_list (sto₁ := [.list (sgs [])]) (vs := [.a 1059, .a 1072, .a 1079, .a 1084]) rfl ?_ (by decide)
   walk_at "m evl"
  case q0 => exact .inl ⟨1, rfl, rfl⟩
theorem ev_sub_old {c : Cx} {D : Nat} {loc : Ls} {sto sto₁ sto₂ : Sto} (hc : c.OK D) {e b : PySem.Expr} {sp pos : Pos} {x : Addr} {vs : List V} {j : Nat} (h : Ev c e loc sto (.a x) sto₁) (gb : Ev c b loc sto₁ (.i j) sto₂) (q : ∃ items n d sl, c.hb.get? x = some ⟨.type "list", d, .seq items n, sl⟩ ∧ RVs [] vs items.toList) (hz : vs.length ≤ 1000) :
  Ev c (.Subscript e (.Slice none (some b) none sp) pos) loc sto (.d sto₂.length) (sto₂ ++ [.list (vs.take j)]) := fun ρ s E Q R f =>
 Subscript_ (h ρ s E _ R fun s₁ ρ₁ v p₁ rx R₁ m₁ => wpAny_Slice (wpAny_pure (gb ρ₁ s₁ E _ R₁ fun s₂ ρ₂ y p₂ ry R₂ m₂ => wpAny_pure (by
  have rx' : v = .ref x := rx
  subst rx'
  obtain ⟨u, rfl⟩ := ry
  obtain ⟨items0, n0, d0, sl0, e0, rs0⟩ := q
  obtain ⟨items, hit⟩ : ∃ items : List Value, items = items0.toList := ⟨_, rfl⟩
  have il : s₂.heap.IsList x items.toArray := ⟨_, R₂.keep _ _ e0, rfl, n0, by rw [hit]⟩
  have rs : RVs ρ₂ vs items := by rw [hit]; exact rs0.mono (nil_pfx ρ₂)
  have R₃ := R₂.push { cls := .type "slice", data := .fields #[.none, .int (j : Int) u, .none] }
  have ab := R₃.above
  obtain ⟨m, RLx, R0⟩ := id R₃
  obtain ⟨ps, frs, X⟩ := R0.open
  have hl := X.S.length
  refine sub_tail ⟨_, rfl⟩ ⟨"list", _, slot_list_getitem.lookup, (il.push _).typeIs, ?_⟩
  refine wpAny_getItem_list_slice (il.push _) (Heap.IsSliceOf.new ..) .none (.int (j : Int) u) .none (by simp) ?_ (by rw [sizeLine_eq]; have := rs.length; simp; lia)
  rw [slicePick_upto' items.toArray j]
  refine f _ (ρ₂ ++ [(s₂.heap.push _).objs.size]) _ ((p₁.trans p₂).trans (Pfx.app _ _)) ⟨_, ?_, rfl⟩ ⟨m, RLx.mono (Pfx.app _ _), X.new (q := [((s₂.heap.push { cls := .type "slice", data := .fields #[.none, .int (j : Int) u, .none] }).objs.size, { cls := .type "list", data := .seq (items.take j).toArray })]) ab (X.F.push _) ?_ (by simp) (fun a ha => by rw [List.mem_singleton.mp ha]; exact Nat.le_refl _) ⟨items.take j, 0, (rs.take j).mono (Pfx.app _ _), rfl⟩⟩ ⟨(m₁.trans m₂).gens, (m₁.trans m₂).os⟩
  ·rw [hl, List.getElem?_append_right (Nat.le_refl _), Nat.sub_self]; rfl
  ·exact X.N.push X.F _))))
theorem letters_len : lettersL.length = 36 := by decide +kernel
noncomputable def modN : Int := (lettersL.length : Int) + ((sgs E4).length : Int)
noncomputable def pieceF (n : Int) : List Nat := if n.fmod modN < 36 then [lettersL.getD (n.fmod modN).toNat 0] else E4.getD (n.fmod modN - 36).toNat []
theorem modN_pos : 36 < modN := by
 unfold modN
 rw [letters_len]
 have : 0 < E4.length := by decide +kernel
 unfold sgs
 rw [List.length_map]
 lia
theorem fmod_in (n : Int) : 0 ≤ n.fmod modN ∧ n.fmod modN < modN := by
 have h := modN_pos
 exact ⟨Int.fmod_nonneg_of_pos n (by lia), Int.fmod_lt_of_pos n (by lia)⟩
theorem E4_get {i : Nat} (h : i < E4.length) : E4[i]? = some (E4.getD i []) ∧ (E4.getD i []).length ≤ 20 := by
 have e : E4[i]? = some (E4.getD i []) := by rw [List.getD_eq_getElem?_getD, List.getElem?_eq_getElem h]; rfl
 refine ⟨e, ?_⟩
 have hm : E4.getD i [] ∈ E4 := by
  obtain ⟨h', e'⟩ := List.getElem?_eq_some_iff.mp e
  rw [← e']; exact List.getElem_mem h'
 exact Nat.ble_eq.mp (List.all_eq_true.mp E4_short _ hm)
theorem piece_len (n : Int) : (pieceF n).length ≤ 20 := by
 unfold pieceF
 split
 ·exact Nat.le_of_ble_eq_true rfl
 ·rename_i h
  have h2 := fmod_in n
  have h3 : modN = 36 + E4.length := by unfold modN sgs; rw [letters_len, List.length_map]; rfl
  exact (E4_get (by lia)).2
noncomputable def lB (l : Addr) (k : Nat) (w : List Nat) : Ls := lE l k ++ [(kS "word", .s w)]
noncomputable def fN : Stmt := nthS B22 3
theorem num_turn (c : Cx) {D : Nat} (hc : c.OK D) (hsc : c.scope = defScope (stm 22)) (l : Addr) (k : Nat) {sto : Sto} (hE : HasE sto k E4) {w : List Nat} (hz : w.length ≤ 600) (n : Int) :
  Sx c (execs (forBody fN) c.env) (lB l k w ++ [(kS "number", .i n)]) sto .next (lB l k (w ++ pieceF n)) sto := by
 have hE' : sto[k]? = some (.list (sgs E4)) := hE
 have hm := modN_pos
 have hL : (lettersL.length : Int) = 36 := by rw [letters_len]; rfl
 have h3 : modN = 36 + E4.length := by unfold modN sgs; rw [letters_len, List.length_map]; rfl
 obtain ⟨f0, f1⟩ := fmod_in n
 have hne : (lettersL.length : Int) + ((sgs E4).length : Int) ≠ 0 := by
  have : (lettersL.length : Int) + ((sgs E4).length : Int) = modN := rfl
  lia
 have hEl := E4_len.1
 have hq : IsL c sto (.d k) (sgs E4) := .inl ⟨k, rfl, hE'⟩
 have hsl : (sgs E4).length ≤ 100000 := by unfold sgs; rw [List.length_map]; lia
 refine' sxq (sx_cast (loc₂ := lB l k w ++ [(kS "number", .i n), (kS "k", .i (n.fmod modN))]) (sx_assign hc ?a1 (ev_bin ?a2 (ev_bin ?a3 (builtin1 hc (bi_len _) ?a4 ?a5 ?a6 (len_L hc hq hsl)) (op_add _ _)) (op_mod _ _ hne)) ?a7) ?a8 rfl) (sq_next ?r)
 case a1 => rfl
 case a2 => walk_at "m ev"
 case a3 => walk_at "m ev"
 case a4 => walk_at "m local"
 case a5 => rfl
 case a6 => walk_at "m ev"
 case a7 => walk_at "m local"
 case a8 => rfl
 case r =>
  generalize hkk : n.fmod modN = kk at *
  by_cases h : kk < 36
  ·have hlt : kk.toNat < lettersL.length := by lia
   have hp : pieceF n = [lettersL.getD kk.toNat 0] := by unfold pieceF; rw [hkk, if_pos h]
   have hx : lettersL[kk.toNat]? = some (lettersL.getD kk.toNat 0) := by rw [List.getD_eq_getElem?_getD, List.getElem?_eq_getElem hlt]; rfl
   rw [hp]
   refine' sxq (sx_wcast ?b1 ?b2 ?b3) (sq_next sx_nil)
   case b1 => walk_at "m sx"
   case b2 => exact ⟨rfl, rfl, rfl, trivial⟩
   case b3 => rfl
  ·have hlt : (kk - 36).toNat < E4.length := by lia
   have hp : pieceF n = E4.getD (kk - 36).toNat [] := by unfold pieceF; rw [hkk, if_neg h]
   obtain ⟨e1, e2⟩ := E4_get hlt
   have hx : (sgs E4)[(kk - (lettersL.length : Int)).toNat]? = some (.s (E4.getD (kk - 36).toNat [])) := by
    rw [hL]
    unfold sgs
    rw [List.getElem?_map, e1]; rfl
   rw [hp]
   generalize E4.getD (kk - 36).toNat [] = pc at *
   refine' sxq (sx_wcast (sx_assign hc ?c1 (ev_bin ?c2 (ev_ife ?c3 (ife_f ?c4 (ev_sub_list hc ?c5 ?c6 ?c7 hq ?c8 ?c9 hx))) (op_addS _ _ ?c10)) ?c11) ?c12 ?c13) (sq_next sx_nil)
   case c1 => rfl
   case c2 => walk_at "m ev"
   case c3 => walk_at "m tst"
   case c4 => walk_at "m bool"
   case c5 => rfl
   case c6 => walk_at "m ev"
   case c7 => walk_at "m ev"
   case c8 => lia
   case c9 => lia
   case c10 => lia
   case c11 => walk_at "m local"
   case c12 => exact ⟨rfl, rfl, rfl, trivial⟩
   case c13 => rfl
theorem num_loop (c : Cx) {D : Nat} (hc : c.OK D) (hsc : c.scope = defScope (stm 22)) (l : Addr) (k : Nat) {sto : Sto} (hE : HasE sto k E4) (v : V) (ns : List Int) (hv : IsL c sto v (ns.map .i)) : ∀ (n j : Nat) (w : List Nat), ns.length - j = n → w.length + 20 * n ≤ 600 →
  ∃ w', w'.length ≤ 600 ∧ ForL c (.Name (S "number") ⟨646, 8, 646, 14⟩) (forBody fN) v (ns.map .i) j (lB l k w) sto .next (lB l k w') sto := by
 intro n
 induction n with
 | zero =>
  intro j w hn hz
  exact ⟨w, by lia, ForL.done hv (List.getElem?_eq_none (by rw [List.length_map]; lia))⟩
 | succ n ih =>
  intro j w hn hz
  have hlt : j < ns.length := by lia
  have hx : (ns.map V.i)[j]? = some (.i ns[j]) := by rw [List.getElem?_map, List.getElem?_eq_getElem hlt]; rfl
  have hsc' : c.scope.names.lookup (S "number") = some .local := kL hsc (by decide +kernel)
  have hp := piece_len ns[j]
  obtain ⟨w', h1, T⟩ := ih (j + 1) (w ++ pieceF ns[j]) (by lia) (by rw [List.length_append]; lia)
  refine ⟨w', h1, forL_next hv hx (loc₁ := lB l k w ++ [(kS "number", .i ns[j])]) ?_ (fun ext => num_turn (c.with ext) (hc.with ext) hsc l k hE (w := w) (by lia) ns[j]) ?_ T⟩
  ·exact asg_name (p := ⟨646, 8, 646, 14⟩) (v := .i ns[j]) (loc := lB l k w) (sto := sto) hc hsc'
  ·exact ⟨rfl, rfl, rfl, trivial⟩
noncomputable def PlainLaw : Prop := ∀ (l out w2 w3 w4 w5 w6 : List Nat) (z4 : Bool) (o2 o4 o6 : Option Row4), StemR l out w2 w3 w4 w5 w6 z4 o2 o4 o6 → out = lawStem l
theorem stm_flat (x : Stm) : flatO x.o := by
 obtain ⟨cur, cursor, limit, lb, bra, ket, ex⟩ := x
 intro n v e
 have : flatL (Stm.mk cur cursor limit lb bra ket ex).fs = true := by cases ex <;> rfl
 exact flatL_ok this e
theorem law_body (PL : PlainLaw) (c : Cx) {D : Nat} (hc : c.OK (D + 8)) (hsc : c.scope = defScope (stm 22)) (l : Addr) (ns : List Int) (hn : ns.length ≤ 1000) (hq : ∃ items n d sl, c.hb.get? l = some ⟨.type "list", d, .seq items n, sl⟩ ∧ RVs [] (ns.map V.i) items.toList) :
  ∃ loc' sto', Sx c (execs B22 c.env) [(kS "script", .a l)] [] (.ret (.b true)) loc' sto' := by
 obtain ⟨k, sto, hE, K⟩ := lawA c hc hsc l
 have hE2 : HasE (sto ++ [.list ((ns.take 24).map V.i)]) k E4 := hE.app _
 obtain ⟨w, hw, T⟩ := num_loop c hc hsc l k hE2 (.d sto.length) (ns.take 24) (.inl ⟨sto.length, rfl, by simp⟩) (ns.take 24).length 0 [] (by lia) (by rw [List.length_take]; simp; lia)
 have hmax : (0 : Int) ≤ (if ((w.length : Int) - 24) > 0 then (w.length : Int) - 24 else 0) := by split <;> lia
 obtain ⟨w', hw'⟩ : ∃ w', w' = w.drop (if ((w.length : Int) - 24) > 0 then (w.length : Int) - 24 else 0).toNat := ⟨_, rfl⟩
 have hw24 : w'.length ≤ 24 := by rw [hw', List.length_drop]; split <;> lia
 obtain ⟨y, out, w2, w3, w4, w5, w6, z4, o2, o4, o6, R, C⟩ := c_stemWord D (l := w') (by lia) (x := Stm.fresh []) rfl
 have eout := PL _ _ _ _ _ _ _ _ _ _ _ R
 have fl0 : flatS [(Stm.fresh []).o] := fun ob h => by rw [List.mem_singleton.mp h]; exact stm_flat _
 have fl1 : flatS [y.o] := fun ob h => by rw [List.mem_singleton.mp h]; exact stm_flat _
 have C' := C.frame fl0 fl1 (sto ++ [.list ((ns.take 24).map V.i)])
 have C'' : CallS (D + 6) 189 [.d (sto ++ [Ob.list ((ns.take 24).map V.i)]).length, .s w'] ((sto ++ [.list ((ns.take 24).map V.i)]) ++ [(Stm.fresh []).o]) (.s out) ((sto ++ [.list ((ns.take 24).map V.i)]) ++ [y.o]) := C'
 have CL := lift0 (L_stem0 (D + 4) (w0 := w') (by lia)) rfl rfl ((sto ++ [.list ((ns.take 24).map V.i)]) ++ [y.o])
 have CI := c_init (D + 3)
 have hbt : (out == lawStem w') = true := by rw [eout]; exact beq_self_eq_true _
 generalize hs5 : sto ++ [.list ((ns.take 24).map V.i)] = s5 at *
 refine' ⟨?loc, ?sto, K ?r⟩
 case r =>
  refine' sxq (sx_cast (loc₂ := lB l k []) (sto₂ := sto) ?a1 ?a2 ?a3) (sq_next (sxq ?b1 (sq_next (sxq (sx_cast (loc₂ := lB l k w') (sto₂ := s5) ?d1 ?d2 ?d3) (sq_next (sxq (sx_cast (sx_return ?e1) ?e2 ?e3) sq_ret))))))
  case a1 => walk_at "m sx"
  case a2 => rfl
  case a3 => rfl
  case b1 =>
   refine' sx_for_list hc ?ht ?hi ?h ?q0 T
   case ht => first | exact letOK_name | exact letOK_tup
   case hi => rfl
   case h =>
    rw [← hs5, List.map_take]
    refine' ev_sub_old hc ?h1 ?h2 hq ?h3
    case h1 => walk_at "m ev"
    case h2 => exact ev_int 24 _ _
    case h3 => rw [List.length_map]; lia
   case q0 => exact .inl ⟨sto.length, rfl, by rw [← hs5]; simp⟩
  case d1 =>
   refine' sx_assign hc ?f1 (ev_sub_sn hc ?f2 (builtin2 hc (bi_max _) ?f3 ?f4 ?f5 ?f6 (max_I hc _ _)) hmax ?f7) ?f8
   case f1 => rfl
   case f2 => walk_at "m ev"
   case f3 => walk_at "m local"
   case f4 => rfl
   case f5 => walk_at "m ev"
   case f6 => walk_at "m ev"
   case f7 => lia
   case f8 => walk_at "m local"
  case d2 => rw [hw']; rfl
  case d3 => rfl
  case e1 =>
   rw [← hbt]
   refine' ev_cmp ?g1 (ev_methE (D := D + 6) (hc.mono (by lia)) ?g2 ?g3 ?g4 ?g5 (ev_new (D := D + 3 + 1) (hc.mono (by lia)) tc_weight0 tc_units0 ?g6 (newOK_of (new_self _)) CI (stm_flat _)) ?g7 ?g8 ?g9 ?g10 C'') (ev_call (D := D + 4 + 2) (hc.mono (by lia)) ?g11 ?g12 ?g13 ?g14 CL) (op_eqS _ _)
   case g1 => rfl
   case g2 => exact base_call (by decide +kernel)
   case g3 => rfl
   case g4 => decide
   case g5 => rfl
   case g6 => walk_at "m ev"
   case g7 => exact (by simp : (s5 ++ [(Stm.fresh []).o])[s5.length]? = some (Stm.fresh []).o)
   case g8 => exact en_meth (x := Stm.fresh []) (a := 189) (by rfl)
   case g9 => exact meth_at (by rfl)
   case g10 => walk_at "m evl"
   case g11 => rfl
   case g12 => exact keep_at (by decide)
   case g13 => walk_at "m ev"
   case g14 => walk_at "m evl"
  case e2 => rfl
  case e3 => rfl
end
/-! the plain law: the tables against the law's lists -/
structure Same4 (T : List Row4) (t : List RowL) (D : Int → List Nat) : Prop where
 a : (T.all fun r => Nat.ble 1 r.s.length && t.any fun rl => rl.ends.any (eqK r.s) && eqK rl.put_ (D r.res)) = true
 b : (t.all fun rl => rl.ends.all fun e => T.any fun r => eqK r.s e && eqK (D r.res) rl.put_) = true
 u : (T.all fun r => T.all fun r' => !eqK r.s r'.s || r.res == r'.res) = true
theorem ends_same {w a b : List Nat} (h1 : endsW w a = true) (h2 : endsW w b = true) (h : a.length = b.length) : a = b := by
 obtain ⟨u, e1⟩ := ends_ex.mp h1
 obtain ⟨v, e2⟩ := ends_ex.mp h2
 rw [e1] at e2
 exact (List.append_inj' e2 h).2
theorem long_best {T : List Row4} {t : List RowL} {D : Int → List Nat} (S : Same4 T t D) {w : List Nat} {o : Option Row4} (h : BestE T w o) :
  longest w t = (match o with | none => (0, []) | some r => ((r.s.length : Int), D r.res)) := by
 obtain ⟨⟨hl, _⟩, hmax⟩ := longest_spec w t
 have hb : ∀ rl ∈ t, ∀ e ∈ rl.ends, ∃ r ∈ T, r.s = e ∧ D r.res = rl.put_ := fun rl hrl e he => by
  obtain ⟨r, hr, q⟩ := List.any_eq_true.mp (List.all_eq_true.mp (List.all_eq_true.mp S.b rl hrl) e he)
  rw [Bool.and_eq_true, eqK_iff, eqK_iff] at q
  exact ⟨r, hr, q.1, q.2⟩
 cases o with
 | none =>
  rcases hl with hl | ⟨rl, hrl, e, he, hw, hp, _⟩
  ·exact hl
  ·obtain ⟨r, hr, q1, _⟩ := hb rl hrl e he
   have := h r hr
   rw [q1, hw] at this; cases this
 | some r =>
  obtain ⟨hr, hw, hx⟩ := h
  have ha := List.all_eq_true.mp S.a r hr
  rw [Bool.and_eq_true, Nat.ble_eq] at ha
  obtain ⟨h1, ha⟩ := ha
  obtain ⟨rl, hrl, q⟩ := List.any_eq_true.mp ha
  rw [Bool.and_eq_true] at q
  obtain ⟨e, he, q2⟩ := List.any_eq_true.mp q.1
  rw [eqK_iff] at q2
  have hge := hmax rl hrl e he (by rw [← q2]; exact hw)
  rcases hl with hl | ⟨rl', hrl', e', he', hw', hp', hl⟩
  ·rw [hl] at hge
   dsimp only at hge
   rw [← q2] at hge
   lia
  ·obtain ⟨r', hr', p1, p2⟩ := hb rl' hrl' e' he'
   have hle := hx r' hr' (by rw [p1]; exact hw')
   rw [hl] at hge ⊢
   dsimp only at hge ⊢
   rw [← q2] at hge
   rw [p1] at hle
   have hlen : e'.length = r.s.length := by lia
   have hee : e' = r.s := ends_same hw' hw hlen
   have hu := List.all_eq_true.mp (List.all_eq_true.mp S.u r' hr') r hr
   rw [p1, hee, show eqK r.s r.s = true from eqK_iff.mpr rfl] at hu
   have hres : r'.res = r.res := by simpa using hu
   rw [hee, ← p2, hres]
noncomputable def dVer (k : Int) : List Nat := if k = 1 then [98, 101, 104, 105, 110, 100] else [97, 110, 121]
noncomputable def dPla (k : Int) : List Nat := if k = 1 then [] else if k = 2 then [116] else [105, 115, 116]
theorem same2 : Same4 tab_a_2 tl_law_articles put0 := ⟨by decide +kernel, by decide +kernel, by decide +kernel⟩
theorem same3 : Same4 tab_a_3 tl_law_compound as3 := ⟨by decide +kernel, by decide +kernel, by decide +kernel⟩
theorem same4 : Same4 tab_a_4 tl_law_plain dPla := ⟨by decide +kernel, by decide +kernel, by decide +kernel⟩
theorem same5 : Same4 tab_a_5 tl_law_verbal dVer := ⟨by decide +kernel, by decide +kernel, by decide +kernel⟩
theorem same6 : Same4 tab_a_6 tl_law_last (fun _ => []) := ⟨by decide +kernel, by decide +kernel, by decide +kernel⟩
/-! ### the regions -/
theorem scan_nxt (w : List Nat) (u : Nat) (b : Bool) : scan w u w.length (fun n => vw n != b) = (nxt w u b : Int) := by
 unfold scan nxt
 rw [rest_drop]
 lia
theorem nvw_eq : nvw = fun n => vw n != true := by
 funext n
 unfold nvw vw
 cases isVow [n] <;> rfl
theorem vw_eq : vw = fun n => vw n != false := by
 funext n
 cases vw n <;> rfl
theorem scan_t (w : List Nat) (u : Nat) : scan w u w.length nvw = (nxt w u true : Int) := by rw [nvw_eq]; exact scan_nxt w u true
theorem scan_f (w : List Nat) (u : Nat) : scan w u w.length vw = (nxt w u false : Int) := by
 have := scan_nxt w u false
 rwa [← vw_eq] at this
theorem nxt_ge (w : List Nat) (u : Nat) (b : Bool) : u ≤ nxt w u b := by unfold nxt; lia
theorem nxt_le (w : List Nat) (u : Nat) (b : Bool) (h : u ≤ w.length) : nxt w u b ≤ w.length := by
 unfold nxt
 have h2 : ((w.drop u).takeWhile fun n => vw n != b).length ≤ (w.drop u).length := List.Sublist.length_le (List.takeWhile_sublist _)
 rw [List.length_drop] at h2
 lia
noncomputable def twice (w : List Nat) (u : Nat) : Nat := pastF w (pastF w u true) false
theorem twice_eq (w : List Nat) (u : Nat) (hu : u ≤ w.length) : (twice w u : Int) = if (nxt w u true : Int) < w.length then (if (nxt w (nxt w u true + 1) false : Int) < w.length then (nxt w (nxt w u true + 1) false : Int) + 1 else w.length) else w.length := by
 have h1 := nxt_le w u true hu
 unfold twice
 by_cases q : nxt w u true < w.length
 ·have e : pastF w u true = nxt w u true + 1 := by unfold pastF; lia
  have h2 := nxt_le w (nxt w u true + 1) false (by lia)
  rw [e, if_pos (by lia)]
  unfold pastF
  split <;> lia
 ·have e : pastF w u true = w.length := by unfold pastF; lia
  have h2 := nxt_le w w.length false (Nat.le_refl _)
  have h3 := nxt_ge w w.length false
  rw [e, if_neg (by lia)]
  unfold pastF
  lia
theorem p1_eq (w : List Nat) : p1F w = (firstF w : Int) := by
 have h := twice_eq w 0 (Nat.zero_le _)
 have e : (firstF w : Int) = (twice w 0 : Int) := rfl
 rw [e, h]
 unfold p1F
 dsimp only
 have s1 : scan w 0 w.length nvw = (nxt w 0 true : Int) := scan_t w 0
 rw [s1]
 have s2 : scan w ((nxt w 0 true : Int) + 1) w.length vw = (nxt w (nxt w 0 true + 1) false : Int) := by
  have := scan_f w (nxt w 0 true + 1)
  rw [← this]
  rfl
 rw [s2]
theorem twice_le (w : List Nat) (u : Nat) : twice w u ≤ w.length := by unfold twice pastF; lia
theorem p2_eq (w : List Nat) : p2F w = (secondF w : Int) := by
 have hf : firstF w ≤ w.length := twice_le w 0
 have h := twice_eq w (firstF w) hf
 have e : (secondF w : Int) = (twice w (firstF w) : Int) := rfl
 rw [e, h]
 have e1 := p1_eq w
 unfold p2F
 dsimp only
 rw [e1]
 have s3 : scan w (firstF w : Int) w.length nvw = (nxt w (firstF w) true : Int) := scan_t w (firstF w)
 rw [s3]
 have s4 : scan w ((nxt w (firstF w) true : Int) + 1) w.length vw = (nxt w (nxt w (firstF w) true + 1) false : Int) := by
  have := scan_f w (nxt w (firstF w) true + 1)
  rw [← this]
  rfl
 rw [s4]
 split
 ·rfl
 ·rename_i hc
  have hge : ¬ (firstF w : Int) < w.length := fun q => hc (.inl q)
  have h5 := nxt_ge w (firstF w) true
  rw [if_neg (by lia)]
theorem vAt_get (w : List Nat) (u : Nat) (h : u < w.length) {i : Int} (e : i = (u : Int)) : vAt w i = vw (w.getD u 0) :=
 vAt_of (u := u) (by rw [List.getD_eq_getElem?_getD, List.getElem?_eq_getElem h]; rfl) e
theorem pV_eq (w : List Nat) : pVF w = (regF w : Int) := by
 unfold pVF regF
 dsimp only
 have s1 : scan w 2 w.length nvw = (nxt w 2 true : Int) := scan_t w 2
 have s2 : scan w 2 w.length vw = (nxt w 2 false : Int) := scan_f w 2
 rw [s1, s2]
 by_cases h1 : 1 < w.length
 ·have v1 := vAt_get w 1 h1 (i := 1) rfl
  have v0 := vAt_get w 0 (by lia) (i := 0) rfl
  have n1 := nxt_le w 2 true (by lia)
  have n2 := nxt_le w 2 false (by lia)
  rw [if_pos (by lia), v1, v0]
  cases hv1 : vw (w.getD 1 0) with
  | true =>
   cases hv0 : vw (w.getD 0 0) with
   | true =>
    simp only [h1, and_self, if_true]
    unfold pastF
    split <;> lia
   | false =>
    simp only [h1, and_self, if_true, Bool.false_eq_true, if_false]
    split <;> lia
  | false =>
   simp only [Bool.false_eq_true, and_false, if_false]
   unfold pastF
   split <;> lia
 ·rw [if_neg (by lia), if_neg (fun q => h1 q.1)]
  have := nxt_ge w 2 true
  unfold pastF
  lia
theorem sub_nat {a b : Nat} (h : b ≤ a) : ((a : Int) - (b : Int)).toNat = a - b := by lia
theorem ends_take {w a b : List Nat} (h : endsW w (a ++ b) = true) : endsW (w.take (w.length - b.length)) a = true := by
 obtain ⟨u, rfl⟩ := ends_ex.mp h
 refine ends_ex.mpr ⟨u, ?_⟩
 rw [← List.append_assoc, List.take_append_of_le_length (by simp; lia), List.take_of_length_le (by simp; lia)]
theorem take_ends {w a b : List Nat} (hb : endsW w b = true) (h : endsW (w.take (w.length - b.length)) a = true) : endsW w (a ++ b) = true := by
 obtain ⟨u, rfl⟩ := ends_ex.mp hb
 have e : (u ++ b).take ((u ++ b).length - b.length) = u := by
  rw [List.take_append_of_le_length (by simp), List.take_of_length_le (by simp)]
 rw [e] at h
 obtain ⟨v, rfl⟩ := ends_ex.mp h
 exact ends_ex.mpr ⟨v, by rw [List.append_assoc]⟩
theorem ends_ends {w a b : List Nat} (ha : endsW w a = true) (hb : endsW w b = true) (h : b.length ≤ a.length) : endsW a b = true := by
 obtain ⟨u, e1⟩ := ends_ex.mp ha
 obtain ⟨v, e2⟩ := ends_ex.mp hb
 rw [e1] at e2
 have hl := congrArg List.length e2
 rw [List.length_append, List.length_append] at hl
 have : v = u ++ a.take (a.length - b.length) := by
  have h3 := congrArg (List.take v.length) e2
  rw [List.take_append_of_le_length (Nat.le_refl _), List.take_length] at h3
  rw [← h3, List.take_append, List.take_of_length_le (by lia)]
  congr 2
  lia
 refine ends_ex.mpr ⟨a.take (a.length - b.length), ?_⟩
 rw [this, List.append_assoc] at e2
 exact List.append_cancel_left e2
theorem long_none {T : List Row4} {t : List RowL} {D : Int → List Nat} (S : Same4 T t D) {w : List Nat} (h : BestE T w none) : longest w t = (0, []) := long_best S h
theorem long_some {T : List Row4} {t : List RowL} {D : Int → List Nat} (S : Same4 T t D) {w : List Nat} {r : Row4} (h : BestE T w (some r)) : longest w t = ((r.s.length : Int), D r.res) := long_best S h
/-! ### step 0 -/
theorem abile_rows : (tab_a_2.all fun r => (!endsW abileL r.s || (eqK r.s [105, 108, 101] && r.res == 5) || Nat.ble r.s.length 1) && Nat.ble r.s.length 5 && (!(r.res == 5) || eqK r.s [105, 108, 101])) = true := by decide +kernel
theorem ile_in : (tab_a_2.any fun r => eqK r.s [105, 108, 101]) = true := by decide +kernel
theorem abile_iff {w : List Nat} {r : Row4} (h : BestE tab_a_2 w (some r)) : (r.res = 5 ∧ endsW (w.take (w.length - r.s.length)) [97, 98] = true) ↔ endsW w abileL = true := by
 have hr := List.all_eq_true.mp abile_rows r h.1
 rw [Bool.and_eq_true, Bool.and_eq_true] at hr
 constructor
 ·rintro ⟨h1, h2⟩
  have hs : r.s = [105, 108, 101] := by
   have := hr.2
   rw [h1] at this
   exact eqK_iff.mp (by simpa using this)
  exact take_ends (a := [97, 98]) (b := [105, 108, 101]) (by rw [← hs]; exact h.2.1) (by rw [hs] at h2; exact h2)
 ·intro ha
  have h5 : r.s.length ≤ 5 := Nat.ble_eq.mp hr.1.2
  have he : endsW abileL r.s = true := ends_ends ha h.2.1 h5
  obtain ⟨r0, hr0, e0⟩ := List.any_eq_true.mp ile_in
  have e0' := eqK_iff.mp e0
  have hile : endsW w r0.s = true := by
   rw [e0']
   obtain ⟨u, hu⟩ := ends_ex.mp ha
   exact ends_ex.mpr ⟨u ++ [97, 98], by rw [hu, List.append_assoc]; rfl⟩
  have h3 := h.2.2 r0 hr0 hile
  rw [e0'] at h3
  have h3' : 3 ≤ r.s.length := h3
  have hc := hr.1.1
  rw [he] at hc
  have hns : Nat.ble r.s.length 1 = false := by
   cases q : Nat.ble r.s.length 1 with
   | false => rfl
   | true => have := Nat.ble_eq.mp q; lia
  rw [hns] at hc
  have hc' : eqK r.s [105, 108, 101] = true ∧ r.res = 5 := by simpa using hc
  have hs := eqK_iff.mp hc'.1
  refine ⟨hc'.2, ?_⟩
  rw [hs]
  exact ends_take (a := [97, 98]) (b := [105, 108, 101]) ha
theorem step0_eq (w : List Nat) (f : Nat) (o : Option Row4) (h : BestE tab_a_2 w o) : step0F (f : Int) w o = artW w f := by
 unfold artW
 cases o with
 | none =>
  rw [long_none same2 h]
  dsimp only
  rw [if_neg (fun q => absurd q.1 (Int.lt_irrefl 0))]
  rfl
 | some r =>
  rw [long_some same2 h]
  dsimp only
  have hl := h.len
  have h1 := ckNE (by decide +kernel) r h.1
  have hi := abile_iff h
  unfold step0F
  dsimp only
  rw [sub_nat hl]
  by_cases h2 : (f : Int) ≤ (w.length : Int) - (r.s.length : Int)
  ·rw [if_pos h2]
   by_cases h3 : r.res = 5 ∧ endsW (w.take (w.length - r.s.length)) [97, 98] = true
   ·rw [if_pos h3, if_neg (fun q => by rw [hi.mp h3] at q; cases q.2.2)]
   ·have h4 : endsW w abileL = false := by
     cases q : endsW w abileL with
     | false => rfl
     | true => exact absurd (hi.mpr q) h3
    rw [if_neg h3, if_pos ⟨by lia, by lia, h4⟩]
  ·rw [if_neg h2, if_neg (fun q => h2 q.2.1)]
/-! ### step 1 -/
theorem cmp_eq (w : List Nat) (z : Bool) (f : Nat) (o : Option Row4) (h : BestE tab_a_3 w o) : cmpW f (w, z) = if comboOk (f : Int) w o then (comboW w o, true) else (w, z) := by
 unfold cmpW
 dsimp only
 cases o with
 | none =>
  rw [long_none same3 h]
  dsimp only
  rw [if_neg (fun q => absurd q.1 (Int.lt_irrefl 0))]
  rfl
 | some r =>
  rw [long_some same3 h]
  dsimp only
  have hl := h.len
  have h1 := ckNE (by decide +kernel) r h.1
  rw [sub_nat hl]
  by_cases h2 : (f : Int) ≤ (w.length : Int) - (r.s.length : Int)
  ·have e0 : comboOk (f : Int) w (some r) = true := decide_eq_true h2
   rw [if_pos ⟨by lia, by lia⟩, e0, if_pos rfl]
   rfl
  ·have e0 : comboOk (f : Int) w (some r) = false := decide_eq_false h2
   rw [if_neg (fun q => h2 q.2), e0, if_neg (by decide)]
noncomputable def compat (a b : List Nat) : Bool := endsW a b || endsW b a
theorem compat_of {w a b : List Nat} (ha : endsW w a = true) (hb : endsW w b = true) : compat a b = true := by
 unfold compat
 rw [Bool.or_eq_true]
 rcases Nat.le_total b.length a.length with h | h
 ·exact .inl (ends_ends ha hb h)
 ·exact .inr (ends_ends hb ha h)
theorem compat_rows : (tab_a_3.all fun r => tab_a_3.all fun r' => !compat r.s (as3 r'.res) || (r'.res == 3 && !(r.res == 3))) = true := by decide +kernel
theorem combo_next {f : Int} {w : List Nat} {o o' : Option Row4} (h : BestE tab_a_3 w o) (e : comboOk f w o = true) (h' : BestE tab_a_3 (comboW w o) o') (e' : comboOk f (comboW w o) o' = true) : ∃ r r', o = some r ∧ o' = some r' ∧ r.res = 3 ∧ r'.res ≠ 3 := by
 cases o with
 | none => cases e
 | some r =>
  cases o' with
  | none => cases e'
  | some r' =>
   refine ⟨r, r', rfl, rfl, ?_⟩
   have h1 : endsW (comboW w (some r)) (as3 r.res) = true := ends_ex.mpr ⟨w.take (w.length - r.s.length), rfl⟩
   have h2 := compat_of h'.2.1 h1
   have h3 := List.all_eq_true.mp (List.all_eq_true.mp compat_rows r' h'.1) r h.1
   rw [h2] at h3
   simpa using h3
theorem combos_eq {f : Nat} {w w' : List Nat} {z z' : Bool} (h : Combos (f : Int) w z w' z') : cmpW f (cmpW f (w, z)) = (w', z') := by
 cases h with
 | stop b e =>
  have c1 := cmp_eq w z f _ b
  rw [e, if_neg (by decide)] at c1
  rw [c1, c1]
 | step b e r =>
  rename_i o
  have c1 := cmp_eq w z f _ b
  rw [e, if_pos rfl] at c1
  rw [c1]
  cases r with
  | stop b2 e2 =>
   have c2 := cmp_eq (comboW w o) true f _ b2
   rw [e2, if_neg (by decide)] at c2
   exact c2
  | step b2 e2 r2 =>
   rename_i o2
   have c2 := cmp_eq (comboW w o) true f _ b2
   rw [e2, if_pos rfl] at c2
   rw [c2]
   cases r2 with
   | stop b3 e3 => rfl
   | step b3 e3 r3 =>
    obtain ⟨r1, r1', _, q1, _, q2⟩ := combo_next b e b2 e2
    obtain ⟨r2, r2', q3, _, q4, _⟩ := combo_next b2 e2 b3 e3
    rw [q1] at q3
    cases q3
    exact absurd q4 q2
/-! ### step 2 -/
theorem lastT_eq (w : List Nat) (n : Nat) (hn : n ≤ w.length) : lastT w n = endsW (w.take n) [539] := by
 cases n with
 | zero => rfl
 | succ n =>
  have hlt : n < w.length := by lia
  have e : w.take (n + 1) = w.take n ++ [w[n]] := List.take_succ_eq_append_getElem hlt
  unfold lastT
  dsimp only
  rw [List.getElem?_eq_getElem hlt, e]
  dsimp only
  apply Bool.eq_iff_iff.mpr
  rw [beq_eq, ends_ex]
  constructor
  ·intro h; exact ⟨w.take n, by rw [h]; rfl⟩
  ·rintro ⟨u, h⟩
   have := (List.append_inj' h rfl).2
   injection this
theorem std_eq (w : List Nat) (z : Bool) (p2 : Nat) (o : Option Row4) (h : BestE tab_a_4 w o) : plaW p2 (w, z) = (stdW (p2 : Int) w o, stdZ (p2 : Int) w z o) := by
 unfold plaW
 dsimp only
 cases o with
 | none =>
  rw [long_none same4 h]
  dsimp only
  rw [if_neg (fun q => absurd q.1 (Int.lt_irrefl 0))]
  rfl
 | some r =>
  rw [long_some same4 h]
  dsimp only
  have hl := h.len
  have h1 := ckNE (by decide +kernel) r h.1
  have hk := ckR (a := 1) (b := 3) (by decide +kernel) r h.1
  rw [sub_nat hl]
  have hlen : (w.take (w.length - r.s.length)).length = w.length - r.s.length := by rw [List.length_take]; lia
  rw [hlen]
  have hT := lastT_eq w (w.length - r.s.length) (by lia)
  unfold stdW stdZ
  dsimp only
  by_cases h2 : (p2 : Int) ≤ (w.length : Int) - (r.s.length : Int)
  ·rw [if_pos ⟨by lia, by lia⟩, if_pos h2, if_pos h2]
   have hc : r.res = 1 ∨ r.res = 2 ∨ r.res = 3 := by lia
   rcases hc with h3 | h3 | h3
   ·rw [h3]
    have e : dPla 1 = [] := rfl
    rw [e, if_pos (by decide), if_pos rfl, if_neg (by decide), List.append_nil]
   ·rw [h3]
    have e : dPla 2 = [116] := rfl
    have e21 : ¬ ((2 : Int) = 1) := by decide
    rw [e, if_neg (fun q => q rfl)]
    simp only [e21, if_false, if_true]
    rw [← hT]
    by_cases q : lastT w (w.length - r.s.length) = true
    ·rw [if_pos q, if_pos q, if_pos q]
     have hpos : 0 < w.length - r.s.length := by
      cases hz : w.length - r.s.length with
      | zero => rw [hz] at q; cases q
      | succ n => lia
     have e2 : (((w.length - r.s.length : Nat) : Int) - 1).toNat = w.length - r.s.length - 1 := by lia
     rw [e2, List.take_take, Nat.min_eq_left (by lia)]
    ·rw [if_neg q, if_neg q, if_neg q]
   ·rw [h3]
    have e : dPla 3 = [105, 115, 116] := rfl
    rw [e, if_pos (by decide), if_neg (by decide), if_neg (by decide), if_neg (by decide)]
  ·rw [if_neg (fun q => h2 (by lia)), if_neg h2, if_neg h2]
/-! ### step 3 -/
theorem mid_drop (w : List Nat) (rg : Nat) : midW w (rg : Int) w.length = w.drop rg := by
 unfold midW
 rw [Int.toNat_natCast]
 exact List.take_of_length_le (by rw [List.length_drop]; lia)
theorem ver_eq (w : List Nat) (rg : Nat) (o : Option Row4) (h : BestE tab_a_5 (w.drop rg) o) : verbW (rg : Int) w o = verW rg w := by
 unfold verW
 dsimp only
 cases o with
 | none =>
  rw [long_none same5 h]
  dsimp only
  rw [if_neg (fun q => absurd q.1 (Int.lt_irrefl 0))]
  rfl
 | some r =>
  rw [long_some same5 h]
  dsimp only
  have hl' := h.len
  rw [List.length_drop] at hl'
  have hl : r.s.length ≤ w.length := by lia
  have h1 := ckNE (by decide +kernel) r h.1
  have hk := ckR (a := 1) (b := 2) (by decide +kernel) r h.1
  rw [sub_nat hl]
  have hlen : (w.take (w.length - r.s.length)).length = w.length - r.s.length := by rw [List.length_take]; lia
  rw [hlen]
  unfold verbW
  dsimp only
  have hc : r.res = 1 ∨ r.res = 2 := by lia
  rcases hc with h3 | h3
  ·rw [if_pos h3, h3]
   have e : dVer 1 ≠ [97, 110, 121] := by decide
   unfold verbMay
   by_cases h4 : (rg : Int) < ((w.length - r.s.length : Nat) : Int)
   ·have hn : w.length - r.s.length - 1 < w.length := by lia
    have hg : w[w.length - r.s.length - 1]? = some w[w.length - r.s.length - 1] := List.getElem?_eq_getElem hn
    have hv := vAt_get w (w.length - r.s.length - 1) hn (i := ((w.length - r.s.length : Nat) : Int) - 1) (by lia)
    have hgd : w.getD (w.length - r.s.length - 1) 0 = w[w.length - r.s.length - 1] := by rw [List.getD_eq_getElem?_getD, hg]; rfl
    have htk : (w.take (w.length - r.s.length)).getD (w.length - r.s.length - 1) 0 = w[w.length - r.s.length - 1] := by
     rw [List.getD_eq_getElem?_getD, List.getElem?_take, if_pos (by lia), hg]; rfl
    have hu : endsW (w.take (w.length - r.s.length)) [117] = Nat.beq w[w.length - r.s.length - 1] 117 := by
     have e3 : w.take (w.length - r.s.length) = w.take (w.length - r.s.length - 1) ++ [w[w.length - r.s.length - 1]] := by
      have := List.take_succ_eq_append_getElem hn
      rw [show w.length - r.s.length - 1 + 1 = w.length - r.s.length by lia] at this
      exact this
     rw [e3]
     apply Bool.eq_iff_iff.mpr
     rw [beq_eq, ends_ex]
     constructor
     ·rintro ⟨u, q⟩
      have := (List.append_inj' q rfl).2
      injection this
     ·intro q; exact ⟨_, by rw [q]⟩
    rw [decide_eq_true h4, hv, hgd, hg, htk, hu, Bool.true_and]
    dsimp only
    generalize w[w.length - r.s.length - 1] = t
    cases q1 : vw t with
    | false => rw [if_pos (show (!false || t.beq 117) = true from rfl), if_pos ⟨by lia, .inr ⟨h4, .inr rfl⟩⟩]
    | true =>
     by_cases q2 : Nat.beq t 117 = true
     ·rw [if_pos (show (!true || t.beq 117) = true from q2), if_pos ⟨by lia, .inr ⟨h4, .inl q2⟩⟩]
     ·rw [if_neg (show ¬ (!true || t.beq 117) = true from q2), if_neg (fun q => by
       rcases q.2 with q | q
       ·exact e q
       ·rcases q.2 with q | q
        ·exact q2 q
        ·cases q)]
   ·rw [decide_eq_false h4, Bool.false_and, if_neg (by decide), if_neg (fun q => by
     rcases q.2 with q | q
     ·exact e q
     ·exact h4 q.1)]
  ·rw [if_neg (by lia), h3]
   have e : dVer 2 = [97, 110, 121] := rfl
   rw [e, if_pos ⟨by lia, .inl rfl⟩]
theorem ver_out (w : List Nat) (rg : Nat) (h : ¬ (rg : Int) ≤ w.length) : verW rg w = w := by
 have hd : w.drop rg = [] := List.drop_of_length_le (by lia)
 unfold verW
 dsimp only
 rw [hd]
 have hb : BestE tab_a_5 [] none := fun r hr => by
  have h1 := ckNE (by decide +kernel) r hr
  cases q : endsW [] r.s with
  | false => rfl
  | true =>
   have := ends_len q
   simp at this
   rw [this] at h1
   simp at h1
 rw [long_best same5 hb]
 rw [if_neg (fun q => absurd q.1 (Int.lt_irrefl 0))]
/-! ### step 4 -/
theorem vow_eq (w : List Nat) (rg : Nat) (o : Option Row4) (h : BestE tab_a_6 w o) : vowF (rg : Int) w o = lasW rg w := by
 unfold lasW
 cases o with
 | none =>
  rw [long_none same6 h]
  dsimp only
  split
  ·rw [show ((w.length : Int) - 0).toNat = w.length by lia, List.take_length]; rfl
  ·rfl
 | some r =>
  rw [long_some same6 h]
  dsimp only
  have hl := h.len
  rw [sub_nat hl]
  unfold vowF
  dsimp only
theorem plain_law : PlainLaw := by
 intro l out w2 w3 w4 w5 w6 z4 o2 o4 o6 R
 obtain ⟨h2, b2, h3, h4, b4, h5, h6, b6, ho⟩ := R
 rw [p1_eq] at h3 h4
 rw [p2_eq] at h5 h6
 rw [pV_eq] at h6 ho
 have e3 := step0_eq w2 (firstF w2) o2 b2
 have e4 := combos_eq h4
 have e5 := std_eq w4 z4 (secondF w2) o4 b4
 rw [← h5] at e5
 have e6 : w6 = if stdZ (secondF w2 : Int) w4 z4 o4 then w5 else verW (regF w2) w5 := by
  cases hz : stdZ (secondF w2 : Int) w4 z4 o4 with
  | true =>
   rw [hz, if_pos rfl] at h6
   rw [if_pos rfl]
   exact h6
  | false =>
   rw [hz, if_neg (by decide)] at h6
   rw [if_neg (by decide)]
   by_cases hp : (regF w2 : Int) ≤ w5.length
   ·rw [if_pos hp] at h6
    obtain ⟨o5, b5, e⟩ := h6
    rw [mid_drop] at b5
    rw [e]
    exact ver_eq w5 (regF w2) o5 b5
   ·rw [if_neg hp] at h6
    rw [h6]
    exact (ver_out w5 (regF w2) hp).symm
 have e7 := vow_eq w6 (regF w2) o6 b6
 rw [ho, e7]
 unfold lawStem
 dsimp only
 rw [← h2, ← e3, ← h3, e4, e5]
 dsimp only
 rw [← e6]
theorem idx_get : ∀ (l : List Obj) (n a : Nat) (o : Obj), (idx n l).lookup a = some o → n ≤ a ∧ l[a - n]? = some o
 | [], n, a, o, h => by cases h
 | x :: l, n, a, o, h => by
  unfold idx at h
  rw [List.lookup_cons] at h
  by_cases q : a = n
  ·subst q
   simp at h
   subst h
   simp
  ·have q' : (a == n) = false := by simpa using q
   rw [q'] at h
   obtain ⟨h1, h2⟩ := idx_get l (n + 1) a o h
   refine ⟨by lia, ?_⟩
   have : a - n = (a - (n + 1)) + 1 := by lia
   rw [this, List.getElem?_cons_succ]
   exact h2
theorem fin_alive (P : Params) : ((fin P).all fun o => o.alive) = true := by kernel_rfl
theorem kp_in (w : World) (h : Heap) (Y : YPm w h) : (KP w.params).In h := fun a o e => by
 obtain ⟨_, h2⟩ := idx_get _ _ _ _ e
 rw [Nat.sub_zero] at h2
 refine Y a o ((Heap.get?_eq_some _ _ _).mpr ⟨?_, ?_⟩)
 ·simpa using h2
 ·obtain ⟨h3, h4⟩ := List.getElem?_eq_some_iff.mp h2
  rw [← h4]
  exact List.all_eq_true.mp (fin_alive w.params) _ (List.getElem_mem h3)
theorem law_at (P : Params) : nsIn (KP P) mainGlobals (S "law") = some (some (.ref 1125)) := by kernel_rfl
theorem call_at {D : Nat} {f : Addr} {st : Stmt} {q : String} {pm cd : Value} {names : List PySem.Str} (hf : FnAt f st q pm cd names) {args : List V} {v : V} (hlen : args.length = names.length) {w : World} {s : Shared} (B : Base w s.heap)
  (body : ∀ c : Cx, c.OK D → c.scope = defScope st → c.hb = s.heap → ∃ o loc' sto', retOf o = some v ∧ Sx c (execs (defBody st) c.env) (locs0 names args) [] o loc' sto')
  {A : Around} (hfr : A.frames = some []) (hh : A.handled = none) (hroom : A.depth + 20 * D + 20 ≤ 900) (hunits : A.units + 100 * D + 100 ≤ 9000) {vals : List Value} {R : Result → Shared → Prop} (hargs : RVs [] args vals)
  (k : ∀ s' ρ' val, RV ρ' v val → (∀ b o, s.heap.get? b = some o → s'.heap.get? b = some o) → Same s s' → R (.ok (.ret val)) s') : codeAny (model pw w) A (.call (.ref f) ⟨vals, []⟩) R s := by
 have R0 : Rel0 s.heap [] [] [] [] s.heap := ⟨fun _ _ e => e, Nat.le_refl _, (fun p hp => nomatch hp), [], [], rfl, trivial, ⟨(fun p hp => nomatch hp), (fun p hp => nomatch hp), List.nodup_nil⟩⟩
 obtain ⟨p, l, mg, mb, T⟩ := B.top
 have KI := B.K
 have ho : s.heap.get? f = some (ob (vT "function") (fB st q pm cd)) := KI _ _ (hf.at_ w.params)
 have hl : vals.length = names.length := by rw [← hargs.length, hlen]
 have hkeys := zip_keys (a := names) (b := vals) hl.symm
 refine codeAny_call_def (binds := names.zip vals) (body := defBody st) (Nat.lt_of_lt_of_le (by lia : A.depth < 900) (by decide)) ho rfl T.nolimit (codeRec_of KI (hf.code w.params)) rfl (BindsTo.of_eq (hf.bind vals hl)) hf.cells (fun x hx => hf.locals x.1 ?_) (fun h₀ n kp => ?_) hf.co hf.gen hf.kind
 ·rw [← hkeys]; exact List.mem_map.mpr ⟨x, hx, rfl⟩
 ·have R1 := R0.enter n kp
  let c : Cx := ⟨w, s.heap, [], A, [], [], PySem.Str.ofString q, defScope st, s.heap.objs.size, f, cd⟩
  have ok : c.OK D := ⟨B, hfr, trivial, hh, hroom, hunits, hf.kind⟩
  have RLx : RL [] (locs0 names args) (fun x => (names.zip vals).reverse.lookup x) := fun x v e => by
   obtain ⟨val, e1, e2⟩ := lookup_zip (names := names) hargs x v e
   exact ⟨val, lookup_rev (by rw [hkeys]; exact hf.nodup) e1, e2⟩
  obtain ⟨o, loc', sto', hv, bd⟩ := body c ok rfl rfl
  have step := bd [] { s with heap := h₀, toks := s.toks + (names.zip vals).length } (fun f s' => R (.ok (.ret (match f with | .ret v => v | _ => .none))) s') (fun _ _ => False) ⟨_, RLx, R1⟩ PassesOwn.never ?_
  ·exact wpAny_mono step (fun _ _ x => x) fun _ _ x => x.elim
  ·cases o with
   | next =>
    cases hv
    intro s' ρ' pf rel sm
    obtain ⟨m', _, R2⟩ := rel
    exact k s' ρ' .none rfl R2.keep ⟨sm.gens, sm.os⟩
   | ret u =>
    cases hv
    intro s' ρ' val pf rv rel sm
    obtain ⟨m', _, R2⟩ := rel
    exact k s' ρ' val rv R2.keep ⟨sm.gens, sm.os⟩
   | brk => cases hv
   | cont => cases hv
   | exc _ => cases hv
theorem ints_rvs : ∀ {xs : List Value} {ns : List Int}, IntsAre xs ns → RVs [] (ns.map V.i) xs
 | _, _, .nil => trivial
 | _, _, .cons n t h => ⟨⟨t, rfl⟩, ints_rvs h⟩
theorem walk0 (PL : PlainLaw) : WalkO qv lsv (fun _ _ => True) YPm rw0.row.toRowW dLaw [] fun f vs => PySem.call f vs := by
 intro w s₀ s₁ mg mb G Y fa o pm cd doc dV kV ho hd hcd hD hmg hg args vals as hpre hlay hrd hwl hlo
 have KX := kp_in w s₁.heap Y
 refine Ground.open G ?_
 intro T B D TE TW
 wrow_args hpre hlay hrd hwl hlo
 rename_i ns _ _ _ _ _ _ _ l xs _ hL _ _ _ hI _ hlen _
 have TR := topRead_of T
 have e1 := mg_of KX TR.g (law_at w.params)
 have e2 : mg (S "law") = some (.ref fa) := hmg
 rw [e1] at e2
 obtain rfl : (1125 : Addr) = fa := by injection e2 with e2; injection e2
 obtain ⟨⟨oc, od, odt, osl⟩, hlo1, hlo2, n0, hlo3⟩ := hL
 dsimp only at hlo2 hlo3
 subst hlo2; subst hlo3
 have hns : ns.length ≤ 1000 := by lia
 show wpAny (model pw w) callerA (call (.ref 1125) [.ref l]) _ _ s₁
 refine wpAny_call ?_
 refine call_at (D := 8) fn1125 (args := [.a l]) (v := .b true) rfl ⟨KX, _, _, _, _, TR⟩ (fun c hc hsc hcb => ?_) rfl rfl (by decide +kernel) (by decide +kernel) ⟨rfl, trivial⟩ (fun s' ρ' val rv keep sm => ?_)
 ·obtain ⟨loc', sto', h⟩ := law_body PL c (D := 0) hc hsc l ns hns ⟨xs.toArray, n0, od, osl, by rw [hcb]; exact hlo1, ints_rvs hI⟩
  exact ⟨_, loc', sto', rfl, h⟩
 ·have rv' : val = .bool true := rv
  subst rv'
  refine GoodW.toG ⟨.inl ⟨.bool true, .bool true, [], rfl, raisesW_false allW_false_nil, .bool true, ?_, fun _ => ⟨List.nodup_nil, fun a h => by cases h⟩⟩, keep, sm.os, sm.gens.trans hg⟩
  wrow_post
theorem holds_plain (PL : PlainLaw) : rw0.Holds := holds_of (walk0 PL)
end Mine
theorem PySem.Challenge.cw_is0017_01_holds : PySem.Challenge.rw_is0017_01.Holds :=
  Mine.holds_plain Mine.plain_law
