import PyProof.Rows.All
import Wide.All
import OpenK.AllK
import Wide.FinOn
import Lean
import PySem.Challenge.RW_il0122_01
open PySem PySem.W PyProof.Rows
set_option Elab.async false
set_option maxRecDepth 100000
set_option maxHeartbeats 8000000
namespace Mine
open PySem PySem.W PySem.Spec PySem.Calls PyProof.Rows
section
def progAt : List Stmt → Nat → Stmt
  | s :: _, 0 => s
  | _ :: r, n + 1 => progAt r n
  | [], _ => .Pass { line := 0, col := 0, endLine := 0, endCol := 0 }
def progFn : Stmt → Arguments × List Stmt × Scope
  | .FunctionDef _ p b _ _ _ s _ _ _ => (p, b, s)
  | _ => ({ posonlyargs := [], args := [], vararg := none, kwonlyargs := [], kw_defaults := [], kwarg := none, defaults := [] }, [], { kind := .function, names := [], isGenerator := false, isCoroutine := false })
def progCls : Stmt → List Stmt
  | .ClassDef _ _ _ b .. => b
  | _ => []
def progDoc : List Stmt → Option Str
  | .Expr (.Constant (.str t) ..) _ :: _ => some t
  | _ => none
abbrev lawTop : List Stmt := PySem.Challenge.rw_il0122_01.row.toRowW.prog.main.body
/-- the program with the statements that the call can reach: its own terms, by unification -/
noncomputable def hd.view_39 : Program := (fun (x0 x1 x2 x3 x4 x5 x6 x7 x8 x9 x10 x11 x12 x13 x14 x15 x16 x17 : Stmt) (_ : lawTop = [x0, x1, x2, x3, x4, x5, x6, x7, x8, x9, x10, x11, x12, x13, x14, x15, x16, x17]) => ({ PySem.Challenge.rw_il0122_01.row.toRowW.prog with main := { PySem.Challenge.rw_il0122_01.row.toRowW.prog.main with body := [x0, x2, x4, x5, x6, x8, x9, x10, x11, x12, x13, x14, x15, x16, x17] } } : Program)) _ _ _ _ _ _ _ _ _ _ _ _ _ _ _ _ _ _ rfl
/-- the objects that stand behind the call once the top has run, as the kit prints them, without the one that keeps the statics (it is written to when a call is refused); what is the program's own is taken from it by unification -/
noncomputable def KQ : Params → Frag := (fun (p21 : Arguments) (b21 : List Stmt) (s21 : Scope) (p28 : Arguments) (b28 : List Stmt) (s28 : Scope) (p42 : Arguments) (b42 : List Stmt) (s42 : Scope) (p50 : Arguments) (b50 : List Stmt) (s50 : Scope) (p57 : Arguments) (b57 : List Stmt) (s57 : Scope) (p64 : Arguments) (b64 : List Stmt) (s64 : Scope) (p89 : Arguments) (b89 : List Stmt) (s89 : Scope) (p96 : Arguments) (b96 : List Stmt) (s96 : Scope) (p107 : Arguments) (b107 : List Stmt) (s107 : Scope) (p114 : Arguments) (b114 : List Stmt) (s114 : Scope) (p121 : Arguments) (b121 : List Stmt) (s121 : Scope) (p128 : Arguments) (b128 : List Stmt) (s128 : Scope) (p156 : Arguments) (b156 : List Stmt) (s156 : Scope) (p170 : Arguments) (b170 : List Stmt) (s170 : Scope) (p177 : Arguments) (b177 : List Stmt) (s177 : Scope) (p184 : Arguments) (b184 : List Stmt) (s184 : Scope) (p191 : Arguments) (b191 : List Stmt) (s191 : Scope) (p196 : Arguments) (b196 : List Stmt) (s196 : Scope) (p201 : Arguments) (b201 : List Stmt) (s201 : Scope) (p206 : Arguments) (b206 : List Stmt) (s206 : Scope) (p213 : Arguments) (b213 : List Stmt) (s213 : Scope) (p218 : Arguments) (b218 : List Stmt) (s218 : Scope) (p225 : Arguments) (b225 : List Stmt) (s225 : Scope) (d28 : Str) (d89 : Str) (d96 : Str) (d107 : Str) (d114 : Str) (d128 : Str)
    (_ : progFn (progAt lawTop 0) = (p21, b21, s21))
    (_ : progFn (progAt lawTop 2) = (p28, b28, s28))
    (_ : progFn (progAt (progCls (progAt lawTop 4)) 0) = (p42, b42, s42))
    (_ : progFn (progAt (progCls (progAt lawTop 4)) 1) = (p50, b50, s50))
    (_ : progFn (progAt (progCls (progAt lawTop 4)) 2) = (p57, b57, s57))
    (_ : progFn (progAt (progCls (progAt lawTop 4)) 3) = (p64, b64, s64))
    (_ : progFn (progAt (progCls (progAt lawTop 5)) 4) = (p89, b89, s89))
    (_ : progFn (progAt (progCls (progAt lawTop 5)) 5) = (p96, b96, s96))
    (_ : progFn (progAt (progCls (progAt lawTop 5)) 6) = (p107, b107, s107))
    (_ : progFn (progAt (progCls (progAt lawTop 5)) 8) = (p114, b114, s114))
    (_ : progFn (progAt (progCls (progAt lawTop 5)) 9) = (p121, b121, s121))
    (_ : progFn (progAt (progCls (progAt lawTop 5)) 10) = (p128, b128, s128))
    (_ : progFn (progAt (progCls (progAt lawTop 6)) 0) = (p156, b156, s156))
    (_ : progFn (progAt lawTop 8) = (p170, b170, s170))
    (_ : progFn (progAt lawTop 9) = (p177, b177, s177))
    (_ : progFn (progAt lawTop 10) = (p184, b184, s184))
    (_ : progFn (progAt lawTop 11) = (p191, b191, s191))
    (_ : progFn (progAt lawTop 12) = (p196, b196, s196))
    (_ : progFn (progAt lawTop 13) = (p201, b201, s201))
    (_ : progFn (progAt lawTop 14) = (p206, b206, s206))
    (_ : progFn (progAt lawTop 15) = (p213, b213, s213))
    (_ : progFn (progAt lawTop 16) = (p218, b218, s218))
    (_ : progFn (progAt lawTop 17) = (p225, b225, s225))
    (_ : progDoc (progFn (progAt lawTop 2)).2.1 = some d28)
    (_ : progDoc (progFn (progAt (progCls (progAt lawTop 5)) 4)).2.1 = some d89)
    (_ : progDoc (progFn (progAt (progCls (progAt lawTop 5)) 5)).2.1 = some d96)
    (_ : progDoc (progFn (progAt (progCls (progAt lawTop 5)) 6)).2.1 = some d107)
    (_ : progDoc (progFn (progAt (progCls (progAt lawTop 5)) 8)).2.1 = some d114)
    (_ : progDoc (progFn (progAt (progCls (progAt lawTop 5)) 10)).2.1 = some d128) => fun P => (
  ((nat_lit 3), (@PySem.Obj.mk (@PySem.Value.type "dict") (@Option.none Nat) (@PySem.Data.dict (@List.toArray PySem.DictEntry [(@PySem.DictEntry.mk (@PySem.PyData.keyHash P (@PySem.Str.ofString "__name__")) (@PySem.Value.str (@PySem.Str.ofString "__name__") (165 : Nat)) (@PySem.Value.str (@PySem.Str.ofString "law_il0122_01") (418 : Nat))), (@PySem.DictEntry.mk (@PySem.PyData.keyHash P (@PySem.Str.ofString "__doc__")) (@PySem.Value.str (@PySem.Str.ofString "__doc__") (166 : Nat)) PySem.Value.none), (@PySem.DictEntry.mk (@PySem.PyData.keyHash P (@PySem.Str.ofString "__package__")) (@PySem.Value.str (@PySem.Str.ofString "__package__") (167 : Nat)) PySem.Value.none), (@PySem.DictEntry.mk (@PySem.PyData.keyHash P (@PySem.Str.ofString "__loader__")) (@PySem.Value.str (@PySem.Str.ofString "__loader__") (168 : Nat)) (@PySem.Value.builtin "__main__.__loader__#opaque")), (@PySem.DictEntry.mk (@PySem.PyData.keyHash P (@PySem.Str.ofString "__spec__")) (@PySem.Value.str (@PySem.Str.ofString "__spec__") (169 : Nat)) PySem.Value.none), (@PySem.DictEntry.mk (@PySem.PyData.keyHash P (@PySem.Str.ofString "__annotations__")) (@PySem.Value.str (@PySem.Str.ofString "__annotations__") (170 : Nat)) (@PySem.Value.ref (6 : Nat))), (@PySem.DictEntry.mk (@PySem.PyData.keyHash P (@PySem.Str.ofString "__builtins__")) (@PySem.Value.str (@PySem.Str.ofString "__builtins__") (171 : Nat)) (@PySem.Value.ref (4 : Nat))), (@PySem.DictEntry.mk (@PySem.PyData.keyHash P (@PySem.Str.ofString "__file__")) (@PySem.Value.str (@PySem.Str.ofString "__file__") (173 : Nat)) (@PySem.Value.str (@PySem.Str.ofString "/claim/cut.py") (172 : Nat))), (@PySem.DictEntry.mk (@PySem.PyData.keyHash P (@PySem.Str.ofString "__cached__")) (@PySem.Value.str (@PySem.Str.ofString "__cached__") (174 : Nat)) PySem.Value.none), (@PySem.DictEntry.mk (@PySem.PyData.keyHash P (@PySem.Str.ofString "_wall")) (@PySem.Value.str (@PySem.Str.ofString "_wall") (193 : Nat)) (@PySem.Value.ref (21 : Nat))), (@PySem.DictEntry.mk (@PySem.PyData.keyHash P (@PySem.Str.ofString "get_line_col")) (@PySem.Value.str (@PySem.Str.ofString "get_line_col") (205 : Nat)) (@PySem.Value.ref (28 : Nat))), (@PySem.DictEntry.mk (@PySem.PyData.keyHash P (@PySem.Str.ofString "_tuplegetter")) (@PySem.Value.str (@PySem.Str.ofString "_tuplegetter") (264 : Nat)) (@PySem.Value.ref (67 : Nat))), (@PySem.DictEntry.mk (@PySem.PyData.keyHash P (@PySem.Str.ofString "Pair")) (@PySem.Value.str (@PySem.Str.ofString "Pair") (379 : Nat)) (@PySem.Value.ref (162 : Nat))), (@PySem.DictEntry.mk (@PySem.PyData.keyHash P (@PySem.Str.ofString "_law_signs")) (@PySem.Value.str (@PySem.Str.ofString "_law_signs") (425 : Nat)) (@PySem.Value.ref (170 : Nat))), (@PySem.DictEntry.mk (@PySem.PyData.keyHash P (@PySem.Str.ofString "_law_field")) (@PySem.Value.str (@PySem.Str.ofString "_law_field") (432 : Nat)) (@PySem.Value.ref (177 : Nat))), (@PySem.DictEntry.mk (@PySem.PyData.keyHash P (@PySem.Str.ofString "_law_bare")) (@PySem.Value.str (@PySem.Str.ofString "_law_bare") (441 : Nat)) (@PySem.Value.ref (184 : Nat))), (@PySem.DictEntry.mk (@PySem.PyData.keyHash P (@PySem.Str.ofString "_law_halves")) (@PySem.Value.str (@PySem.Str.ofString "_law_halves") (449 : Nat)) (@PySem.Value.ref (191 : Nat))), (@PySem.DictEntry.mk (@PySem.PyData.keyHash P (@PySem.Str.ofString "_law_read")) (@PySem.Value.str (@PySem.Str.ofString "_law_read") (455 : Nat)) (@PySem.Value.ref (196 : Nat))), (@PySem.DictEntry.mk (@PySem.PyData.keyHash P (@PySem.Str.ofString "_law_want")) (@PySem.Value.str (@PySem.Str.ofString "_law_want") (461 : Nat)) (@PySem.Value.ref (201 : Nat))), (@PySem.DictEntry.mk (@PySem.PyData.keyHash P (@PySem.Str.ofString "_law_told")) (@PySem.Value.str (@PySem.Str.ofString "_law_told") (467 : Nat)) (@PySem.Value.ref (206 : Nat))), (@PySem.DictEntry.mk (@PySem.PyData.keyHash P (@PySem.Str.ofString "_law_cut")) (@PySem.Value.str (@PySem.Str.ofString "_law_cut") (474 : Nat)) (@PySem.Value.ref (213 : Nat))), (@PySem.DictEntry.mk (@PySem.PyData.keyHash P (@PySem.Str.ofString "_law_back")) (@PySem.Value.str (@PySem.Str.ofString "_law_back") (480 : Nat)) (@PySem.Value.ref (218 : Nat))), (@PySem.DictEntry.mk (@PySem.PyData.keyHash P (@PySem.Str.ofString "law")) (@PySem.Value.str (@PySem.Str.ofString "law") (492 : Nat)) (@PySem.Value.ref (225 : Nat)))]) (23 : Nat)) (@List.toArray (@Option PySem.Value) (@List.nil (@Option PySem.Value))))) ::
  ((nat_lit 15), (@PySem.Obj.mk (@PySem.Value.type "tuple") (@Option.none Nat) (@PySem.Data.seq (@List.toArray PySem.Value (@List.nil PySem.Value)) (0 : Nat)) (@List.toArray (@Option PySem.Value) (@List.nil (@Option PySem.Value))))) ::
  ((nat_lit 17), (@PySem.Obj.mk (@PySem.Value.type "tuple") (@Option.none Nat) (@PySem.Data.seq (@List.toArray PySem.Value [(@PySem.Value.str (@PySem.Str.ofString "k") (190 : Nat))]) (0 : Nat)) (@List.toArray (@Option PySem.Value) (@List.nil (@Option PySem.Value))))) ::
  ((nat_lit 18), (@PySem.Obj.mk (@PySem.Value.type "tuple") (@Option.none Nat) (@PySem.Data.seq (@List.toArray PySem.Value (@List.nil PySem.Value)) (0 : Nat)) (@List.toArray (@Option PySem.Value) (@List.nil (@Option PySem.Value))))) ::
  ((nat_lit 20), (@PySem.Obj.mk (@PySem.Value.type "code") (@Option.none Nat) (@PySem.Data.fields (@List.toArray PySem.Value [(@PySem.Value.str (@PySem.Str.ofString "_wall") (187 : Nat)), (@PySem.Value.str (@PySem.Str.ofString "_wall") (188 : Nat)), (@PySem.Value.str (@PySem.Str.ofString "/claim/cut.py") (189 : Nat)), (@PySem.Value.int (@OfNat.ofNat Int (nat_lit 1) (@instOfNat (nat_lit 1))) (0 : Nat)), (@PySem.Value.int (@OfNat.ofNat Int (nat_lit 1) (@instOfNat (nat_lit 1))) (0 : Nat)), (@PySem.Value.int (@OfNat.ofNat Int (nat_lit 0) (@instOfNat (nat_lit 0))) (0 : Nat)), (@PySem.Value.int (@OfNat.ofNat Int (nat_lit 0) (@instOfNat (nat_lit 0))) (0 : Nat)), (@PySem.Value.int (@OfNat.ofNat Int (nat_lit 3) (@instOfNat (nat_lit 3))) (0 : Nat)), (@PySem.Value.ref (15 : Nat)), (@PySem.Value.bool Bool.true), (@PySem.Value.int (@OfNat.ofNat Int (nat_lit 181) (@instOfNat (nat_lit 181))) (0 : Nat)), (@PySem.Value.ref (16 : Nat)), PySem.Value.none, (@PySem.Value.ref (17 : Nat)), (@PySem.Value.ref (18 : Nat)), (@PySem.Value.ref (19 : Nat)), (@PySem.Value.int (@OfNat.ofNat Int (nat_lit 191) (@instOfNat (nat_lit 191))) (0 : Nat)), (@PySem.Value.int (@OfNat.ofNat Int (nat_lit 1) (@instOfNat (nat_lit 1))) (0 : Nat)), (@PySem.Value.str (@PySem.Str.ofString "/claim/cut.py") (192 : Nat))])) (@List.toArray (@Option PySem.Value) (@List.nil (@Option PySem.Value))))) ::
  ((nat_lit 21), (@PySem.Obj.mk (@PySem.Value.type "function") (@Option.none Nat) (@PySem.Data.func (@PySem.FuncData.mk (@PySem.Str.ofString "_wall") (@PySem.Str.ofString "_wall") p21 (@PySem.FuncBody.stmts b21) s21 (3 : Nat) (@List.nil (@Prod PySem.Str Nat)) PySem.Value.none PySem.Value.none PySem.Value.none (@PySem.Value.str (@PySem.Str.ofString "__main__") (164 : Nat)) (@Option.none Nat) (@PySem.Value.ref (20 : Nat)) PySem.Value.none (0 : Nat))) (@List.toArray (@Option PySem.Value) (@List.nil (@Option PySem.Value))))) ::
  ((nat_lit 22), (@PySem.Obj.mk (@PySem.Value.type "tuple") (@Option.none Nat) (@PySem.Data.seq (@List.toArray PySem.Value (@List.nil PySem.Value)) (0 : Nat)) (@List.toArray (@Option PySem.Value) (@List.nil (@Option PySem.Value))))) ::
  ((nat_lit 24), (@PySem.Obj.mk (@PySem.Value.type "tuple") (@Option.none Nat) (@PySem.Data.seq (@List.toArray PySem.Value [(@PySem.Value.str (@PySem.Str.ofString "index") (199 : Nat)), (@PySem.Value.str (@PySem.Str.ofString "line") (200 : Nat)), (@PySem.Value.str (@PySem.Str.ofString "col") (201 : Nat))]) (0 : Nat)) (@List.toArray (@Option PySem.Value) (@List.nil (@Option PySem.Value))))) ::
  ((nat_lit 25), (@PySem.Obj.mk (@PySem.Value.type "tuple") (@Option.none Nat) (@PySem.Data.seq (@List.toArray PySem.Value (@List.nil PySem.Value)) (0 : Nat)) (@List.toArray (@Option PySem.Value) (@List.nil (@Option PySem.Value))))) ::
  ((nat_lit 27), (@PySem.Obj.mk (@PySem.Value.type "code") (@Option.none Nat) (@PySem.Data.fields (@List.toArray PySem.Value [(@PySem.Value.str (@PySem.Str.ofString "get_line_col") (196 : Nat)), (@PySem.Value.str (@PySem.Str.ofString "get_line_col") (197 : Nat)), (@PySem.Value.str (@PySem.Str.ofString "/claim/cut.py") (198 : Nat)), (@PySem.Value.int (@OfNat.ofNat Int (nat_lit 5) (@instOfNat (nat_lit 5))) (0 : Nat)), (@PySem.Value.int (@OfNat.ofNat Int (nat_lit 1) (@instOfNat (nat_lit 1))) (0 : Nat)), (@PySem.Value.int (@OfNat.ofNat Int (nat_lit 0) (@instOfNat (nat_lit 0))) (0 : Nat)), (@PySem.Value.int (@OfNat.ofNat Int (nat_lit 0) (@instOfNat (nat_lit 0))) (0 : Nat)), (@PySem.Value.int (@OfNat.ofNat Int (nat_lit 3) (@instOfNat (nat_lit 3))) (0 : Nat)), (@PySem.Value.ref (22 : Nat)), (@PySem.Value.bool Bool.true), (@PySem.Value.int (@OfNat.ofNat Int (nat_lit 181) (@instOfNat (nat_lit 181))) (0 : Nat)), (@PySem.Value.ref (23 : Nat)), PySem.Value.none, (@PySem.Value.ref (24 : Nat)), (@PySem.Value.ref (25 : Nat)), (@PySem.Value.ref (26 : Nat)), (@PySem.Value.int (@OfNat.ofNat Int (nat_lit 202) (@instOfNat (nat_lit 202))) (0 : Nat)), (@PySem.Value.int (@OfNat.ofNat Int (nat_lit 5) (@instOfNat (nat_lit 5))) (0 : Nat)), (@PySem.Value.str (@PySem.Str.ofString "/claim/cut.py") (203 : Nat))])) (@List.toArray (@Option PySem.Value) (@List.nil (@Option PySem.Value))))) ::
  ((nat_lit 28), (@PySem.Obj.mk (@PySem.Value.type "function") (@Option.none Nat) (@PySem.Data.func (@PySem.FuncData.mk (@PySem.Str.ofString "get_line_col") (@PySem.Str.ofString "get_line_col") p28 (@PySem.FuncBody.stmts b28) s28 (3 : Nat) (@List.nil (@Prod PySem.Str Nat)) PySem.Value.none PySem.Value.none (@PySem.Value.str d28 (204 : Nat)) (@PySem.Value.str (@PySem.Str.ofString "cpy313.idlelib.searchengine") (194 : Nat)) (@Option.none Nat) (@PySem.Value.ref (27 : Nat)) PySem.Value.none (0 : Nat))) (@List.toArray (@Option PySem.Value) (@List.nil (@Option PySem.Value))))) ::
  ((nat_lit 36), (@PySem.Obj.mk (@PySem.Value.type "tuple") (@Option.none Nat) (@PySem.Data.seq (@List.toArray PySem.Value (@List.nil PySem.Value)) (0 : Nat)) (@List.toArray (@Option PySem.Value) (@List.nil (@Option PySem.Value))))) ::
  ((nat_lit 38), (@PySem.Obj.mk (@PySem.Value.type "tuple") (@Option.none Nat) (@PySem.Data.seq (@List.toArray PySem.Value [(@PySem.Value.str (@PySem.Str.ofString "self") (223 : Nat)), (@PySem.Value.str (@PySem.Str.ofString "index") (224 : Nat)), (@PySem.Value.str (@PySem.Str.ofString "doc") (225 : Nat))]) (0 : Nat)) (@List.toArray (@Option PySem.Value) (@List.nil (@Option PySem.Value))))) ::
  ((nat_lit 39), (@PySem.Obj.mk (@PySem.Value.type "tuple") (@Option.none Nat) (@PySem.Data.seq (@List.toArray PySem.Value (@List.nil PySem.Value)) (0 : Nat)) (@List.toArray (@Option PySem.Value) (@List.nil (@Option PySem.Value))))) ::
  ((nat_lit 41), (@PySem.Obj.mk (@PySem.Value.type "code") (@Option.none Nat) (@PySem.Data.fields (@List.toArray PySem.Value [(@PySem.Value.str (@PySem.Str.ofString "__init__") (220 : Nat)), (@PySem.Value.str (@PySem.Str.ofString "_tuplegetter.__init__") (221 : Nat)), (@PySem.Value.str (@PySem.Str.ofString "/claim/cut.py") (222 : Nat)), (@PySem.Value.int (@OfNat.ofNat Int (nat_lit 12) (@instOfNat (nat_lit 12))) (0 : Nat)), (@PySem.Value.int (@OfNat.ofNat Int (nat_lit 3) (@instOfNat (nat_lit 3))) (0 : Nat)), (@PySem.Value.int (@OfNat.ofNat Int (nat_lit 0) (@instOfNat (nat_lit 0))) (0 : Nat)), (@PySem.Value.int (@OfNat.ofNat Int (nat_lit 0) (@instOfNat (nat_lit 0))) (0 : Nat)), (@PySem.Value.int (@OfNat.ofNat Int (nat_lit 3) (@instOfNat (nat_lit 3))) (0 : Nat)), (@PySem.Value.ref (36 : Nat)), (@PySem.Value.bool Bool.true), (@PySem.Value.int (@OfNat.ofNat Int (nat_lit 181) (@instOfNat (nat_lit 181))) (0 : Nat)), (@PySem.Value.ref (37 : Nat)), PySem.Value.none, (@PySem.Value.ref (38 : Nat)), (@PySem.Value.ref (39 : Nat)), (@PySem.Value.ref (40 : Nat)), (@PySem.Value.int (@OfNat.ofNat Int (nat_lit 226) (@instOfNat (nat_lit 226))) (0 : Nat)), (@PySem.Value.int (@OfNat.ofNat Int (nat_lit 12) (@instOfNat (nat_lit 12))) (0 : Nat)), (@PySem.Value.str (@PySem.Str.ofString "/claim/cut.py") (227 : Nat))])) (@List.toArray (@Option PySem.Value) (@List.nil (@Option PySem.Value))))) ::
  ((nat_lit 42), (@PySem.Obj.mk (@PySem.Value.type "function") (@Option.none Nat) (@PySem.Data.func (@PySem.FuncData.mk (@PySem.Str.ofString "__init__") (@PySem.Str.ofString "_tuplegetter.__init__") p42 (@PySem.FuncBody.stmts b42) s42 (3 : Nat) (@List.nil (@Prod PySem.Str Nat)) PySem.Value.none PySem.Value.none PySem.Value.none (@PySem.Value.str (@PySem.Str.ofString "cpy313.importlib.metadata._collections") (206 : Nat)) (@Option.none Nat) (@PySem.Value.ref (41 : Nat)) PySem.Value.none (0 : Nat))) (@List.toArray (@Option PySem.Value) (@List.nil (@Option PySem.Value))))) ::
  ((nat_lit 43), (@PySem.Obj.mk (@PySem.Value.type "tuple") (@Option.none Nat) (@PySem.Data.seq (@List.toArray PySem.Value [PySem.Value.none]) (0 : Nat)) (@List.toArray (@Option PySem.Value) (@List.nil (@Option PySem.Value))))) ::
  ((nat_lit 44), (@PySem.Obj.mk (@PySem.Value.type "tuple") (@Option.none Nat) (@PySem.Data.seq (@List.toArray PySem.Value (@List.nil PySem.Value)) (0 : Nat)) (@List.toArray (@Option PySem.Value) (@List.nil (@Option PySem.Value))))) ::
  ((nat_lit 46), (@PySem.Obj.mk (@PySem.Value.type "tuple") (@Option.none Nat) (@PySem.Data.seq (@List.toArray PySem.Value [(@PySem.Value.str (@PySem.Str.ofString "self") (232 : Nat)), (@PySem.Value.str (@PySem.Str.ofString "obj") (233 : Nat)), (@PySem.Value.str (@PySem.Str.ofString "objtype") (234 : Nat))]) (0 : Nat)) (@List.toArray (@Option PySem.Value) (@List.nil (@Option PySem.Value))))) ::
  ((nat_lit 47), (@PySem.Obj.mk (@PySem.Value.type "tuple") (@Option.none Nat) (@PySem.Data.seq (@List.toArray PySem.Value (@List.nil PySem.Value)) (0 : Nat)) (@List.toArray (@Option PySem.Value) (@List.nil (@Option PySem.Value))))) ::
  ((nat_lit 49), (@PySem.Obj.mk (@PySem.Value.type "code") (@Option.none Nat) (@PySem.Data.fields (@List.toArray PySem.Value [(@PySem.Value.str (@PySem.Str.ofString "__get__") (229 : Nat)), (@PySem.Value.str (@PySem.Str.ofString "_tuplegetter.__get__") (230 : Nat)), (@PySem.Value.str (@PySem.Str.ofString "/claim/cut.py") (231 : Nat)), (@PySem.Value.int (@OfNat.ofNat Int (nat_lit 16) (@instOfNat (nat_lit 16))) (0 : Nat)), (@PySem.Value.int (@OfNat.ofNat Int (nat_lit 3) (@instOfNat (nat_lit 3))) (0 : Nat)), (@PySem.Value.int (@OfNat.ofNat Int (nat_lit 0) (@instOfNat (nat_lit 0))) (0 : Nat)), (@PySem.Value.int (@OfNat.ofNat Int (nat_lit 0) (@instOfNat (nat_lit 0))) (0 : Nat)), (@PySem.Value.int (@OfNat.ofNat Int (nat_lit 3) (@instOfNat (nat_lit 3))) (0 : Nat)), (@PySem.Value.ref (44 : Nat)), (@PySem.Value.bool Bool.true), (@PySem.Value.int (@OfNat.ofNat Int (nat_lit 181) (@instOfNat (nat_lit 181))) (0 : Nat)), (@PySem.Value.ref (45 : Nat)), PySem.Value.none, (@PySem.Value.ref (46 : Nat)), (@PySem.Value.ref (47 : Nat)), (@PySem.Value.ref (48 : Nat)), (@PySem.Value.int (@OfNat.ofNat Int (nat_lit 235) (@instOfNat (nat_lit 235))) (0 : Nat)), (@PySem.Value.int (@OfNat.ofNat Int (nat_lit 16) (@instOfNat (nat_lit 16))) (0 : Nat)), (@PySem.Value.str (@PySem.Str.ofString "/claim/cut.py") (236 : Nat))])) (@List.toArray (@Option PySem.Value) (@List.nil (@Option PySem.Value))))) ::
  ((nat_lit 50), (@PySem.Obj.mk (@PySem.Value.type "function") (@Option.none Nat) (@PySem.Data.func (@PySem.FuncData.mk (@PySem.Str.ofString "__get__") (@PySem.Str.ofString "_tuplegetter.__get__") p50 (@PySem.FuncBody.stmts b50) s50 (3 : Nat) (@List.nil (@Prod PySem.Str Nat)) (@PySem.Value.ref (43 : Nat)) PySem.Value.none PySem.Value.none (@PySem.Value.str (@PySem.Str.ofString "cpy313.importlib.metadata._collections") (206 : Nat)) (@Option.none Nat) (@PySem.Value.ref (49 : Nat)) PySem.Value.none (0 : Nat))) (@List.toArray (@Option PySem.Value) (@List.nil (@Option PySem.Value))))) ::
  ((nat_lit 51), (@PySem.Obj.mk (@PySem.Value.type "tuple") (@Option.none Nat) (@PySem.Data.seq (@List.toArray PySem.Value (@List.nil PySem.Value)) (0 : Nat)) (@List.toArray (@Option PySem.Value) (@List.nil (@Option PySem.Value))))) ::
  ((nat_lit 53), (@PySem.Obj.mk (@PySem.Value.type "tuple") (@Option.none Nat) (@PySem.Data.seq (@List.toArray PySem.Value [(@PySem.Value.str (@PySem.Str.ofString "self") (241 : Nat)), (@PySem.Value.str (@PySem.Str.ofString "obj") (242 : Nat)), (@PySem.Value.str (@PySem.Str.ofString "value") (243 : Nat))]) (0 : Nat)) (@List.toArray (@Option PySem.Value) (@List.nil (@Option PySem.Value))))) ::
  ((nat_lit 54), (@PySem.Obj.mk (@PySem.Value.type "tuple") (@Option.none Nat) (@PySem.Data.seq (@List.toArray PySem.Value (@List.nil PySem.Value)) (0 : Nat)) (@List.toArray (@Option PySem.Value) (@List.nil (@Option PySem.Value))))) ::
  ((nat_lit 56), (@PySem.Obj.mk (@PySem.Value.type "code") (@Option.none Nat) (@PySem.Data.fields (@List.toArray PySem.Value [(@PySem.Value.str (@PySem.Str.ofString "__set__") (238 : Nat)), (@PySem.Value.str (@PySem.Str.ofString "_tuplegetter.__set__") (239 : Nat)), (@PySem.Value.str (@PySem.Str.ofString "/claim/cut.py") (240 : Nat)), (@PySem.Value.int (@OfNat.ofNat Int (nat_lit 23) (@instOfNat (nat_lit 23))) (0 : Nat)), (@PySem.Value.int (@OfNat.ofNat Int (nat_lit 3) (@instOfNat (nat_lit 3))) (0 : Nat)), (@PySem.Value.int (@OfNat.ofNat Int (nat_lit 0) (@instOfNat (nat_lit 0))) (0 : Nat)), (@PySem.Value.int (@OfNat.ofNat Int (nat_lit 0) (@instOfNat (nat_lit 0))) (0 : Nat)), (@PySem.Value.int (@OfNat.ofNat Int (nat_lit 3) (@instOfNat (nat_lit 3))) (0 : Nat)), (@PySem.Value.ref (51 : Nat)), (@PySem.Value.bool Bool.true), (@PySem.Value.int (@OfNat.ofNat Int (nat_lit 181) (@instOfNat (nat_lit 181))) (0 : Nat)), (@PySem.Value.ref (52 : Nat)), PySem.Value.none, (@PySem.Value.ref (53 : Nat)), (@PySem.Value.ref (54 : Nat)), (@PySem.Value.ref (55 : Nat)), (@PySem.Value.int (@OfNat.ofNat Int (nat_lit 244) (@instOfNat (nat_lit 244))) (0 : Nat)), (@PySem.Value.int (@OfNat.ofNat Int (nat_lit 23) (@instOfNat (nat_lit 23))) (0 : Nat)), (@PySem.Value.str (@PySem.Str.ofString "/claim/cut.py") (245 : Nat))])) (@List.toArray (@Option PySem.Value) (@List.nil (@Option PySem.Value))))) ::
  ((nat_lit 57), (@PySem.Obj.mk (@PySem.Value.type "function") (@Option.none Nat) (@PySem.Data.func (@PySem.FuncData.mk (@PySem.Str.ofString "__set__") (@PySem.Str.ofString "_tuplegetter.__set__") p57 (@PySem.FuncBody.stmts b57) s57 (3 : Nat) (@List.nil (@Prod PySem.Str Nat)) PySem.Value.none PySem.Value.none PySem.Value.none (@PySem.Value.str (@PySem.Str.ofString "cpy313.importlib.metadata._collections") (206 : Nat)) (@Option.none Nat) (@PySem.Value.ref (56 : Nat)) PySem.Value.none (0 : Nat))) (@List.toArray (@Option PySem.Value) (@List.nil (@Option PySem.Value))))) ::
  ((nat_lit 58), (@PySem.Obj.mk (@PySem.Value.type "tuple") (@Option.none Nat) (@PySem.Data.seq (@List.toArray PySem.Value (@List.nil PySem.Value)) (0 : Nat)) (@List.toArray (@Option PySem.Value) (@List.nil (@Option PySem.Value))))) ::
  ((nat_lit 60), (@PySem.Obj.mk (@PySem.Value.type "tuple") (@Option.none Nat) (@PySem.Data.seq (@List.toArray PySem.Value [(@PySem.Value.str (@PySem.Str.ofString "self") (250 : Nat)), (@PySem.Value.str (@PySem.Str.ofString "obj") (251 : Nat))]) (0 : Nat)) (@List.toArray (@Option PySem.Value) (@List.nil (@Option PySem.Value))))) ::
  ((nat_lit 61), (@PySem.Obj.mk (@PySem.Value.type "tuple") (@Option.none Nat) (@PySem.Data.seq (@List.toArray PySem.Value (@List.nil PySem.Value)) (0 : Nat)) (@List.toArray (@Option PySem.Value) (@List.nil (@Option PySem.Value))))) ::
  ((nat_lit 63), (@PySem.Obj.mk (@PySem.Value.type "code") (@Option.none Nat) (@PySem.Data.fields (@List.toArray PySem.Value [(@PySem.Value.str (@PySem.Str.ofString "__delete__") (247 : Nat)), (@PySem.Value.str (@PySem.Str.ofString "_tuplegetter.__delete__") (248 : Nat)), (@PySem.Value.str (@PySem.Str.ofString "/claim/cut.py") (249 : Nat)), (@PySem.Value.int (@OfNat.ofNat Int (nat_lit 26) (@instOfNat (nat_lit 26))) (0 : Nat)), (@PySem.Value.int (@OfNat.ofNat Int (nat_lit 2) (@instOfNat (nat_lit 2))) (0 : Nat)), (@PySem.Value.int (@OfNat.ofNat Int (nat_lit 0) (@instOfNat (nat_lit 0))) (0 : Nat)), (@PySem.Value.int (@OfNat.ofNat Int (nat_lit 0) (@instOfNat (nat_lit 0))) (0 : Nat)), (@PySem.Value.int (@OfNat.ofNat Int (nat_lit 3) (@instOfNat (nat_lit 3))) (0 : Nat)), (@PySem.Value.ref (58 : Nat)), (@PySem.Value.bool Bool.true), (@PySem.Value.int (@OfNat.ofNat Int (nat_lit 181) (@instOfNat (nat_lit 181))) (0 : Nat)), (@PySem.Value.ref (59 : Nat)), PySem.Value.none, (@PySem.Value.ref (60 : Nat)), (@PySem.Value.ref (61 : Nat)), (@PySem.Value.ref (62 : Nat)), (@PySem.Value.int (@OfNat.ofNat Int (nat_lit 252) (@instOfNat (nat_lit 252))) (0 : Nat)), (@PySem.Value.int (@OfNat.ofNat Int (nat_lit 26) (@instOfNat (nat_lit 26))) (0 : Nat)), (@PySem.Value.str (@PySem.Str.ofString "/claim/cut.py") (253 : Nat))])) (@List.toArray (@Option PySem.Value) (@List.nil (@Option PySem.Value))))) ::
  ((nat_lit 64), (@PySem.Obj.mk (@PySem.Value.type "function") (@Option.none Nat) (@PySem.Data.func (@PySem.FuncData.mk (@PySem.Str.ofString "__delete__") (@PySem.Str.ofString "_tuplegetter.__delete__") p64 (@PySem.FuncBody.stmts b64) s64 (3 : Nat) (@List.nil (@Prod PySem.Str Nat)) PySem.Value.none PySem.Value.none PySem.Value.none (@PySem.Value.str (@PySem.Str.ofString "cpy313.importlib.metadata._collections") (206 : Nat)) (@Option.none Nat) (@PySem.Value.ref (63 : Nat)) PySem.Value.none (0 : Nat))) (@List.toArray (@Option PySem.Value) (@List.nil (@Option PySem.Value))))) ::
  ((nat_lit 65), (@PySem.Obj.mk (@PySem.Value.type "tuple") (@Option.none Nat) (@PySem.Data.seq (@List.toArray PySem.Value [(@PySem.Value.str (@PySem.Str.ofString "__doc__") (255 : Nat)), (@PySem.Value.str (@PySem.Str.ofString "index") (256 : Nat))]) (0 : Nat)) (@List.toArray (@Option PySem.Value) (@List.nil (@Option PySem.Value))))) ::
  ((nat_lit 66), (@PySem.Obj.mk (@PySem.Value.type "dict") (@Option.none Nat) (@PySem.Data.dict (@List.toArray PySem.DictEntry [(@PySem.DictEntry.mk (@PySem.PyData.keyHash P (@PySem.Str.ofString "__module__")) (@PySem.Value.str (@PySem.Str.ofString "__module__") (215 : Nat)) (@PySem.Value.str (@PySem.Str.ofString "cpy313.importlib.metadata._collections") (206 : Nat))), (@PySem.DictEntry.mk (@PySem.PyData.keyHash P (@PySem.Str.ofString "__firstlineno__")) (@PySem.Value.str (@PySem.Str.ofString "__firstlineno__") (219 : Nat)) (@PySem.Value.int (@OfNat.ofNat Int (nat_lit 10) (@instOfNat (nat_lit 10))) (218 : Nat))), (@PySem.DictEntry.mk (@PySem.PyData.keyHash P (@PySem.Str.ofString "__init__")) (@PySem.Value.str (@PySem.Str.ofString "__init__") (228 : Nat)) (@PySem.Value.ref (42 : Nat))), (@PySem.DictEntry.mk (@PySem.PyData.keyHash P (@PySem.Str.ofString "__get__")) (@PySem.Value.str (@PySem.Str.ofString "__get__") (237 : Nat)) (@PySem.Value.ref (50 : Nat))), (@PySem.DictEntry.mk (@PySem.PyData.keyHash P (@PySem.Str.ofString "__set__")) (@PySem.Value.str (@PySem.Str.ofString "__set__") (246 : Nat)) (@PySem.Value.ref (57 : Nat))), (@PySem.DictEntry.mk (@PySem.PyData.keyHash P (@PySem.Str.ofString "__delete__")) (@PySem.Value.str (@PySem.Str.ofString "__delete__") (254 : Nat)) (@PySem.Value.ref (64 : Nat))), (@PySem.DictEntry.mk (@PySem.PyData.keyHash P (@PySem.Str.ofString "__static_attributes__")) (@PySem.Value.str (@PySem.Str.ofString "__static_attributes__") (257 : Nat)) (@PySem.Value.ref (65 : Nat))), (@PySem.DictEntry.mk (@PySem.PyData.keyHash P (@PySem.Str.ofString "__dict__")) (@PySem.Value.str (@PySem.Str.ofString "__dict__") (259 : Nat)) (@PySem.Value.ref (68 : Nat))), (@PySem.DictEntry.mk (@PySem.PyData.keyHash P (@PySem.Str.ofString "__weakref__")) (@PySem.Value.str (@PySem.Str.ofString "__weakref__") (261 : Nat)) (@PySem.Value.ref (69 : Nat))), (@PySem.DictEntry.mk (@PySem.PyData.keyHash P (@PySem.Str.ofString "__doc__")) (@PySem.Value.str (@PySem.Str.ofString "__doc__") (262 : Nat)) PySem.Value.none)]) (4 : Nat)) (@List.toArray (@Option PySem.Value) (@List.nil (@Option PySem.Value))))) ::
  ((nat_lit 67), (@PySem.Obj.mk (@PySem.Value.type "type") (@Option.none Nat) (@PySem.Data.cls (@PySem.ClassData.mk (@PySem.Str.ofString "_tuplegetter") [(@PySem.Value.type "object")] [(@PySem.Value.ref (67 : Nat)), (@PySem.Value.type "object")] (66 : Nat) (@PySem.Str.ofString "_tuplegetter") Bool.true (@List.nil PySem.Str) (@List.nil PySem.Value) Bool.false (@Option.none Bool) Bool.false)) (@List.toArray (@Option PySem.Value) [(@Option.none PySem.Value), (@Option.none PySem.Value), (@Option.some PySem.Value (@PySem.Value.str (@PySem.Str.ofString "_tuplegetter") (208 : Nat))), (@Option.some PySem.Value (@PySem.Value.str (@PySem.Str.ofString "_tuplegetter") (216 : Nat))), (@Option.some PySem.Value (@PySem.Value.builtin "object.__new__")), (@Option.some PySem.Value (@PySem.Value.bool Bool.true))]))) ::
  ((nat_lit 68), (@PySem.Obj.mk (@PySem.Value.type "getset_descriptor") (@Option.none Nat) (@PySem.Data.fields (@List.toArray PySem.Value [(@PySem.Value.str (@PySem.Str.ofString "__dict__") (258 : Nat)), (@PySem.Value.ref (67 : Nat)), (@PySem.Value.builtin "function.__dict__"), (@PySem.Value.builtin "function.__dict__#set")])) (@List.toArray (@Option PySem.Value) (@List.nil (@Option PySem.Value))))) ::
  ((nat_lit 69), (@PySem.Obj.mk (@PySem.Value.type "getset_descriptor") (@Option.none Nat) (@PySem.Data.fields (@List.toArray PySem.Value [(@PySem.Value.str (@PySem.Str.ofString "__weakref__") (260 : Nat)), (@PySem.Value.ref (67 : Nat)), (@PySem.Value.builtin "ExceptionGroup.__weakref__"), PySem.Value.none])) (@List.toArray (@Option PySem.Value) (@List.nil (@Option PySem.Value))))) ::
  ((nat_lit 72), (@PySem.Obj.mk (@PySem.Value.type "tuple") (@Option.none Nat) (@PySem.Data.seq (@List.toArray PySem.Value [(@PySem.Value.type "tuple")]) (0 : Nat)) (@List.toArray (@Option PySem.Value) (@List.nil (@Option PySem.Value))))) ::
  ((nat_lit 75), (@PySem.Obj.mk (@PySem.Value.type "cell") (@Option.none Nat) (@PySem.Data.cell (@Option.some PySem.Value (@PySem.Value.ref (139 : Nat)))) (@List.toArray (@Option PySem.Value) (@List.nil (@Option PySem.Value))))) ::
  ((nat_lit 80), (@PySem.Obj.mk (@PySem.Value.type "tuple") (@Option.none Nat) (@PySem.Data.seq (@List.toArray PySem.Value (@List.nil PySem.Value)) (0 : Nat)) (@List.toArray (@Option PySem.Value) (@List.nil (@Option PySem.Value))))) ::
  ((nat_lit 81), (@PySem.Obj.mk (@PySem.Value.type "tuple") (@Option.none Nat) (@PySem.Data.seq (@List.toArray PySem.Value [(@PySem.Value.str (@PySem.Str.ofString "name") (281 : Nat)), (@PySem.Value.str (@PySem.Str.ofString "value") (282 : Nat))]) (0 : Nat)) (@List.toArray (@Option PySem.Value) (@List.nil (@Option PySem.Value))))) ::
  ((nat_lit 82), (@PySem.Obj.mk (@PySem.Value.type "dict") (@Option.none Nat) (@PySem.Data.dict (@List.toArray PySem.DictEntry (@List.nil PySem.DictEntry)) (0 : Nat)) (@List.toArray (@Option PySem.Value) (@List.nil (@Option PySem.Value))))) ::
  ((nat_lit 83), (@PySem.Obj.mk (@PySem.Value.type "tuple") (@Option.none Nat) (@PySem.Data.seq (@List.toArray PySem.Value (@List.nil PySem.Value)) (0 : Nat)) (@List.toArray (@Option PySem.Value) (@List.nil (@Option PySem.Value))))) ::
  ((nat_lit 85), (@PySem.Obj.mk (@PySem.Value.type "tuple") (@Option.none Nat) (@PySem.Data.seq (@List.toArray PySem.Value [(@PySem.Value.str (@PySem.Str.ofString "_cls") (288 : Nat)), (@PySem.Value.str (@PySem.Str.ofString "name") (289 : Nat)), (@PySem.Value.str (@PySem.Str.ofString "value") (290 : Nat))]) (0 : Nat)) (@List.toArray (@Option PySem.Value) (@List.nil (@Option PySem.Value))))) ::
  ((nat_lit 86), (@PySem.Obj.mk (@PySem.Value.type "tuple") (@Option.none Nat) (@PySem.Data.seq (@List.toArray PySem.Value (@List.nil PySem.Value)) (0 : Nat)) (@List.toArray (@Option PySem.Value) (@List.nil (@Option PySem.Value))))) ::
  ((nat_lit 88), (@PySem.Obj.mk (@PySem.Value.type "code") (@Option.none Nat) (@PySem.Data.fields (@List.toArray PySem.Value [(@PySem.Value.str (@PySem.Str.ofString "__new__") (285 : Nat)), (@PySem.Value.str (@PySem.Str.ofString "Pair.__new__") (286 : Nat)), (@PySem.Value.str (@PySem.Str.ofString "/claim/cut.py") (287 : Nat)), (@PySem.Value.int (@OfNat.ofNat Int (nat_lit 34) (@instOfNat (nat_lit 34))) (0 : Nat)), (@PySem.Value.int (@OfNat.ofNat Int (nat_lit 3) (@instOfNat (nat_lit 3))) (0 : Nat)), (@PySem.Value.int (@OfNat.ofNat Int (nat_lit 0) (@instOfNat (nat_lit 0))) (0 : Nat)), (@PySem.Value.int (@OfNat.ofNat Int (nat_lit 0) (@instOfNat (nat_lit 0))) (0 : Nat)), (@PySem.Value.int (@OfNat.ofNat Int (nat_lit 3) (@instOfNat (nat_lit 3))) (0 : Nat)), (@PySem.Value.ref (83 : Nat)), (@PySem.Value.bool Bool.true), (@PySem.Value.int (@OfNat.ofNat Int (nat_lit 181) (@instOfNat (nat_lit 181))) (0 : Nat)), (@PySem.Value.ref (84 : Nat)), PySem.Value.none, (@PySem.Value.ref (85 : Nat)), (@PySem.Value.ref (86 : Nat)), (@PySem.Value.ref (87 : Nat)), (@PySem.Value.int (@OfNat.ofNat Int (nat_lit 291) (@instOfNat (nat_lit 291))) (0 : Nat)), (@PySem.Value.int (@OfNat.ofNat Int (nat_lit 34) (@instOfNat (nat_lit 34))) (0 : Nat)), (@PySem.Value.str (@PySem.Str.ofString "/claim/cut.py") (292 : Nat))])) (@List.toArray (@Option PySem.Value) (@List.nil (@Option PySem.Value))))) ::
  ((nat_lit 89), (@PySem.Obj.mk (@PySem.Value.type "function") (@Option.none Nat) (@PySem.Data.func (@PySem.FuncData.mk (@PySem.Str.ofString "__new__") (@PySem.Str.ofString "Pair.__new__") p89 (@PySem.FuncBody.stmts b89) s89 (3 : Nat) (@List.nil (@Prod PySem.Str Nat)) PySem.Value.none PySem.Value.none (@PySem.Value.str d89 (293 : Nat)) (@PySem.Value.str (@PySem.Str.ofString "cpy313.importlib.metadata._collections") (206 : Nat)) (@Option.none Nat) (@PySem.Value.ref (88 : Nat)) PySem.Value.none (0 : Nat))) (@List.toArray (@Option PySem.Value) (@List.nil (@Option PySem.Value))))) ::
  ((nat_lit 90), (@PySem.Obj.mk (@PySem.Value.type "tuple") (@Option.none Nat) (@PySem.Data.seq (@List.toArray PySem.Value (@List.nil PySem.Value)) (0 : Nat)) (@List.toArray (@Option PySem.Value) (@List.nil (@Option PySem.Value))))) ::
  ((nat_lit 92), (@PySem.Obj.mk (@PySem.Value.type "tuple") (@Option.none Nat) (@PySem.Data.seq (@List.toArray PySem.Value [(@PySem.Value.str (@PySem.Str.ofString "cls") (298 : Nat)), (@PySem.Value.str (@PySem.Str.ofString "iterable") (299 : Nat)), (@PySem.Value.str (@PySem.Str.ofString "result") (300 : Nat))]) (0 : Nat)) (@List.toArray (@Option PySem.Value) (@List.nil (@Option PySem.Value))))) ::
  ((nat_lit 93), (@PySem.Obj.mk (@PySem.Value.type "tuple") (@Option.none Nat) (@PySem.Data.seq (@List.toArray PySem.Value (@List.nil PySem.Value)) (0 : Nat)) (@List.toArray (@Option PySem.Value) (@List.nil (@Option PySem.Value))))) ::
  ((nat_lit 95), (@PySem.Obj.mk (@PySem.Value.type "code") (@Option.none Nat) (@PySem.Data.fields (@List.toArray PySem.Value [(@PySem.Value.str (@PySem.Str.ofString "_make") (295 : Nat)), (@PySem.Value.str (@PySem.Str.ofString "Pair._make") (296 : Nat)), (@PySem.Value.str (@PySem.Str.ofString "/claim/cut.py") (297 : Nat)), (@PySem.Value.int (@OfNat.ofNat Int (nat_lit 38) (@instOfNat (nat_lit 38))) (0 : Nat)), (@PySem.Value.int (@OfNat.ofNat Int (nat_lit 2) (@instOfNat (nat_lit 2))) (0 : Nat)), (@PySem.Value.int (@OfNat.ofNat Int (nat_lit 0) (@instOfNat (nat_lit 0))) (0 : Nat)), (@PySem.Value.int (@OfNat.ofNat Int (nat_lit 0) (@instOfNat (nat_lit 0))) (0 : Nat)), (@PySem.Value.int (@OfNat.ofNat Int (nat_lit 3) (@instOfNat (nat_lit 3))) (0 : Nat)), (@PySem.Value.ref (90 : Nat)), (@PySem.Value.bool Bool.true), (@PySem.Value.int (@OfNat.ofNat Int (nat_lit 181) (@instOfNat (nat_lit 181))) (0 : Nat)), (@PySem.Value.ref (91 : Nat)), PySem.Value.none, (@PySem.Value.ref (92 : Nat)), (@PySem.Value.ref (93 : Nat)), (@PySem.Value.ref (94 : Nat)), (@PySem.Value.int (@OfNat.ofNat Int (nat_lit 301) (@instOfNat (nat_lit 301))) (0 : Nat)), (@PySem.Value.int (@OfNat.ofNat Int (nat_lit 38) (@instOfNat (nat_lit 38))) (0 : Nat)), (@PySem.Value.str (@PySem.Str.ofString "/claim/cut.py") (302 : Nat))])) (@List.toArray (@Option PySem.Value) (@List.nil (@Option PySem.Value))))) ::
  ((nat_lit 96), (@PySem.Obj.mk (@PySem.Value.type "function") (@Option.none Nat) (@PySem.Data.func (@PySem.FuncData.mk (@PySem.Str.ofString "_make") (@PySem.Str.ofString "Pair._make") p96 (@PySem.FuncBody.stmts b96) s96 (3 : Nat) (@List.nil (@Prod PySem.Str Nat)) PySem.Value.none PySem.Value.none (@PySem.Value.str d96 (303 : Nat)) (@PySem.Value.str (@PySem.Str.ofString "cpy313.importlib.metadata._collections") (206 : Nat)) (@Option.some Nat (99 : Nat)) (@PySem.Value.ref (95 : Nat)) PySem.Value.none (0 : Nat))) (@List.toArray (@Option PySem.Value) (@List.nil (@Option PySem.Value))))) ::
  ((nat_lit 97), (@PySem.Obj.mk (@PySem.Value.type "dict") (@Option.none Nat) (@PySem.Data.dict (@List.toArray PySem.DictEntry [(@PySem.DictEntry.mk (@PySem.PyData.keyHash P (@PySem.Str.ofString "__module__")) (@PySem.Value.str (@PySem.Str.ofString "__module__") (305 : Nat)) (@PySem.Value.str (@PySem.Str.ofString "cpy313.importlib.metadata._collections") (206 : Nat))), (@PySem.DictEntry.mk (@PySem.PyData.keyHash P (@PySem.Str.ofString "__name__")) (@PySem.Value.str (@PySem.Str.ofString "__name__") (308 : Nat)) (@PySem.Value.str (@PySem.Str.ofString "_make") (307 : Nat))), (@PySem.DictEntry.mk (@PySem.PyData.keyHash P (@PySem.Str.ofString "__qualname__")) (@PySem.Value.str (@PySem.Str.ofString "__qualname__") (311 : Nat)) (@PySem.Value.str (@PySem.Str.ofString "Pair._make") (310 : Nat))), (@PySem.DictEntry.mk (@PySem.PyData.keyHash P (@PySem.Str.ofString "__doc__")) (@PySem.Value.str (@PySem.Str.ofString "__doc__") (313 : Nat)) (@PySem.Value.str d96 (303 : Nat))), (@PySem.DictEntry.mk (@PySem.PyData.keyHash P (@PySem.Str.ofString "__annotations__")) (@PySem.Value.str (@PySem.Str.ofString "__annotations__") (315 : Nat)) (@PySem.Value.ref (99 : Nat)))]) (5 : Nat)) (@List.toArray (@Option PySem.Value) (@List.nil (@Option PySem.Value))))) ::
  ((nat_lit 98), (@PySem.Obj.mk (@PySem.Value.type "classmethod") (@Option.some Nat (97 : Nat)) (@PySem.Data.fields (@List.toArray PySem.Value [(@PySem.Value.ref (96 : Nat)), (@PySem.Value.bool Bool.false)])) (@List.toArray (@Option PySem.Value) (@List.nil (@Option PySem.Value))))) ::
  ((nat_lit 99), (@PySem.Obj.mk (@PySem.Value.type "dict") (@Option.none Nat) (@PySem.Data.dict (@List.toArray PySem.DictEntry (@List.nil PySem.DictEntry)) (0 : Nat)) (@List.toArray (@Option PySem.Value) (@List.nil (@Option PySem.Value))))) ::
  ((nat_lit 100), (@PySem.Obj.mk (@PySem.Value.type "tuple") (@Option.none Nat) (@PySem.Data.seq (@List.toArray PySem.Value [(@PySem.Value.ref (75 : Nat))]) (0 : Nat)) (@List.toArray (@Option PySem.Value) (@List.nil (@Option PySem.Value))))) ::
  ((nat_lit 101), (@PySem.Obj.mk (@PySem.Value.type "tuple") (@Option.none Nat) (@PySem.Data.seq (@List.toArray PySem.Value [(@PySem.Value.str (@PySem.Str.ofString "__class__") (320 : Nat))]) (0 : Nat)) (@List.toArray (@Option PySem.Value) (@List.nil (@Option PySem.Value))))) ::
  ((nat_lit 103), (@PySem.Obj.mk (@PySem.Value.type "tuple") (@Option.none Nat) (@PySem.Data.seq (@List.toArray PySem.Value [(@PySem.Value.str (@PySem.Str.ofString "self") (321 : Nat)), (@PySem.Value.str (@PySem.Str.ofString "kwds") (322 : Nat)), (@PySem.Value.str (@PySem.Str.ofString "result") (323 : Nat))]) (0 : Nat)) (@List.toArray (@Option PySem.Value) (@List.nil (@Option PySem.Value))))) ::
  ((nat_lit 104), (@PySem.Obj.mk (@PySem.Value.type "tuple") (@Option.none Nat) (@PySem.Data.seq (@List.toArray PySem.Value (@List.nil PySem.Value)) (0 : Nat)) (@List.toArray (@Option PySem.Value) (@List.nil (@Option PySem.Value))))) ::
  ((nat_lit 106), (@PySem.Obj.mk (@PySem.Value.type "code") (@Option.none Nat) (@PySem.Data.fields (@List.toArray PySem.Value [(@PySem.Value.str (@PySem.Str.ofString "_replace") (317 : Nat)), (@PySem.Value.str (@PySem.Str.ofString "Pair._replace") (318 : Nat)), (@PySem.Value.str (@PySem.Str.ofString "/claim/cut.py") (319 : Nat)), (@PySem.Value.int (@OfNat.ofNat Int (nat_lit 46) (@instOfNat (nat_lit 46))) (0 : Nat)), (@PySem.Value.int (@OfNat.ofNat Int (nat_lit 1) (@instOfNat (nat_lit 1))) (0 : Nat)), (@PySem.Value.int (@OfNat.ofNat Int (nat_lit 1) (@instOfNat (nat_lit 1))) (0 : Nat)), (@PySem.Value.int (@OfNat.ofNat Int (nat_lit 0) (@instOfNat (nat_lit 0))) (0 : Nat)), (@PySem.Value.int (@OfNat.ofNat Int (nat_lit 11) (@instOfNat (nat_lit 11))) (0 : Nat)), (@PySem.Value.ref (101 : Nat)), (@PySem.Value.bool Bool.true), (@PySem.Value.int (@OfNat.ofNat Int (nat_lit 181) (@instOfNat (nat_lit 181))) (0 : Nat)), (@PySem.Value.ref (102 : Nat)), PySem.Value.none, (@PySem.Value.ref (103 : Nat)), (@PySem.Value.ref (104 : Nat)), (@PySem.Value.ref (105 : Nat)), (@PySem.Value.int (@OfNat.ofNat Int (nat_lit 324) (@instOfNat (nat_lit 324))) (0 : Nat)), (@PySem.Value.int (@OfNat.ofNat Int (nat_lit 46) (@instOfNat (nat_lit 46))) (0 : Nat)), (@PySem.Value.str (@PySem.Str.ofString "/claim/cut.py") (325 : Nat))])) (@List.toArray (@Option PySem.Value) (@List.nil (@Option PySem.Value))))) ::
  ((nat_lit 107), (@PySem.Obj.mk (@PySem.Value.type "function") (@Option.none Nat) (@PySem.Data.func (@PySem.FuncData.mk (@PySem.Str.ofString "_replace") (@PySem.Str.ofString "Pair._replace") p107 (@PySem.FuncBody.stmts b107) s107 (3 : Nat) [(@Prod.mk PySem.Str Nat (@PySem.Str.ofString "__class__") (75 : Nat))] PySem.Value.none PySem.Value.none (@PySem.Value.str d107 (326 : Nat)) (@PySem.Value.str (@PySem.Str.ofString "cpy313.importlib.metadata._collections") (206 : Nat)) (@Option.none Nat) (@PySem.Value.ref (106 : Nat)) (@PySem.Value.ref (100 : Nat)) (0 : Nat))) (@List.toArray (@Option PySem.Value) (@List.nil (@Option PySem.Value))))) ::
  ((nat_lit 108), (@PySem.Obj.mk (@PySem.Value.type "tuple") (@Option.none Nat) (@PySem.Data.seq (@List.toArray PySem.Value (@List.nil PySem.Value)) (0 : Nat)) (@List.toArray (@Option PySem.Value) (@List.nil (@Option PySem.Value))))) ::
  ((nat_lit 110), (@PySem.Obj.mk (@PySem.Value.type "tuple") (@Option.none Nat) (@PySem.Data.seq (@List.toArray PySem.Value [(@PySem.Value.str (@PySem.Str.ofString "self") (332 : Nat))]) (0 : Nat)) (@List.toArray (@Option PySem.Value) (@List.nil (@Option PySem.Value))))) ::
  ((nat_lit 111), (@PySem.Obj.mk (@PySem.Value.type "tuple") (@Option.none Nat) (@PySem.Data.seq (@List.toArray PySem.Value (@List.nil PySem.Value)) (0 : Nat)) (@List.toArray (@Option PySem.Value) (@List.nil (@Option PySem.Value))))) ::
  ((nat_lit 113), (@PySem.Obj.mk (@PySem.Value.type "code") (@Option.none Nat) (@PySem.Data.fields (@List.toArray PySem.Value [(@PySem.Value.str (@PySem.Str.ofString "__repr__") (329 : Nat)), (@PySem.Value.str (@PySem.Str.ofString "Pair.__repr__") (330 : Nat)), (@PySem.Value.str (@PySem.Str.ofString "/claim/cut.py") (331 : Nat)), (@PySem.Value.int (@OfNat.ofNat Int (nat_lit 57) (@instOfNat (nat_lit 57))) (0 : Nat)), (@PySem.Value.int (@OfNat.ofNat Int (nat_lit 1) (@instOfNat (nat_lit 1))) (0 : Nat)), (@PySem.Value.int (@OfNat.ofNat Int (nat_lit 0) (@instOfNat (nat_lit 0))) (0 : Nat)), (@PySem.Value.int (@OfNat.ofNat Int (nat_lit 0) (@instOfNat (nat_lit 0))) (0 : Nat)), (@PySem.Value.int (@OfNat.ofNat Int (nat_lit 3) (@instOfNat (nat_lit 3))) (0 : Nat)), (@PySem.Value.ref (108 : Nat)), (@PySem.Value.bool Bool.true), (@PySem.Value.int (@OfNat.ofNat Int (nat_lit 181) (@instOfNat (nat_lit 181))) (0 : Nat)), (@PySem.Value.ref (109 : Nat)), PySem.Value.none, (@PySem.Value.ref (110 : Nat)), (@PySem.Value.ref (111 : Nat)), (@PySem.Value.ref (112 : Nat)), (@PySem.Value.int (@OfNat.ofNat Int (nat_lit 333) (@instOfNat (nat_lit 333))) (0 : Nat)), (@PySem.Value.int (@OfNat.ofNat Int (nat_lit 57) (@instOfNat (nat_lit 57))) (0 : Nat)), (@PySem.Value.str (@PySem.Str.ofString "/claim/cut.py") (334 : Nat))])) (@List.toArray (@Option PySem.Value) (@List.nil (@Option PySem.Value))))) ::
  ((nat_lit 114), (@PySem.Obj.mk (@PySem.Value.type "function") (@Option.none Nat) (@PySem.Data.func (@PySem.FuncData.mk (@PySem.Str.ofString "__repr__") (@PySem.Str.ofString "Pair.__repr__") p114 (@PySem.FuncBody.stmts b114) s114 (3 : Nat) (@List.nil (@Prod PySem.Str Nat)) PySem.Value.none PySem.Value.none (@PySem.Value.str d114 (335 : Nat)) (@PySem.Value.str (@PySem.Str.ofString "cpy313.importlib.metadata._collections") (206 : Nat)) (@Option.none Nat) (@PySem.Value.ref (113 : Nat)) PySem.Value.none (0 : Nat))) (@List.toArray (@Option PySem.Value) (@List.nil (@Option PySem.Value))))) ::
  ((nat_lit 115), (@PySem.Obj.mk (@PySem.Value.type "tuple") (@Option.none Nat) (@PySem.Data.seq (@List.toArray PySem.Value (@List.nil PySem.Value)) (0 : Nat)) (@List.toArray (@Option PySem.Value) (@List.nil (@Option PySem.Value))))) ::
  ((nat_lit 117), (@PySem.Obj.mk (@PySem.Value.type "tuple") (@Option.none Nat) (@PySem.Data.seq (@List.toArray PySem.Value [(@PySem.Value.str (@PySem.Str.ofString "self") (340 : Nat))]) (0 : Nat)) (@List.toArray (@Option PySem.Value) (@List.nil (@Option PySem.Value))))) ::
  ((nat_lit 118), (@PySem.Obj.mk (@PySem.Value.type "tuple") (@Option.none Nat) (@PySem.Data.seq (@List.toArray PySem.Value (@List.nil PySem.Value)) (0 : Nat)) (@List.toArray (@Option PySem.Value) (@List.nil (@Option PySem.Value))))) ::
  ((nat_lit 120), (@PySem.Obj.mk (@PySem.Value.type "code") (@Option.none Nat) (@PySem.Data.fields (@List.toArray PySem.Value [(@PySem.Value.str (@PySem.Str.ofString "_asdict") (337 : Nat)), (@PySem.Value.str (@PySem.Str.ofString "Pair._asdict") (338 : Nat)), (@PySem.Value.str (@PySem.Str.ofString "/claim/cut.py") (339 : Nat)), (@PySem.Value.int (@OfNat.ofNat Int (nat_lit 61) (@instOfNat (nat_lit 61))) (0 : Nat)), (@PySem.Value.int (@OfNat.ofNat Int (nat_lit 1) (@instOfNat (nat_lit 1))) (0 : Nat)), (@PySem.Value.int (@OfNat.ofNat Int (nat_lit 0) (@instOfNat (nat_lit 0))) (0 : Nat)), (@PySem.Value.int (@OfNat.ofNat Int (nat_lit 0) (@instOfNat (nat_lit 0))) (0 : Nat)), (@PySem.Value.int (@OfNat.ofNat Int (nat_lit 3) (@instOfNat (nat_lit 3))) (0 : Nat)), (@PySem.Value.ref (115 : Nat)), (@PySem.Value.bool Bool.true), (@PySem.Value.int (@OfNat.ofNat Int (nat_lit 181) (@instOfNat (nat_lit 181))) (0 : Nat)), (@PySem.Value.ref (116 : Nat)), PySem.Value.none, (@PySem.Value.ref (117 : Nat)), (@PySem.Value.ref (118 : Nat)), (@PySem.Value.ref (119 : Nat)), (@PySem.Value.int (@OfNat.ofNat Int (nat_lit 341) (@instOfNat (nat_lit 341))) (0 : Nat)), (@PySem.Value.int (@OfNat.ofNat Int (nat_lit 61) (@instOfNat (nat_lit 61))) (0 : Nat)), (@PySem.Value.str (@PySem.Str.ofString "/claim/cut.py") (342 : Nat))])) (@List.toArray (@Option PySem.Value) (@List.nil (@Option PySem.Value))))) ::
  ((nat_lit 121), (@PySem.Obj.mk (@PySem.Value.type "function") (@Option.none Nat) (@PySem.Data.func (@PySem.FuncData.mk (@PySem.Str.ofString "_asdict") (@PySem.Str.ofString "Pair._asdict") p121 (@PySem.FuncBody.stmts b121) s121 (3 : Nat) (@List.nil (@Prod PySem.Str Nat)) PySem.Value.none PySem.Value.none PySem.Value.none (@PySem.Value.str (@PySem.Str.ofString "cpy313.importlib.metadata._collections") (206 : Nat)) (@Option.none Nat) (@PySem.Value.ref (120 : Nat)) PySem.Value.none (0 : Nat))) (@List.toArray (@Option PySem.Value) (@List.nil (@Option PySem.Value))))) ::
  ((nat_lit 122), (@PySem.Obj.mk (@PySem.Value.type "tuple") (@Option.none Nat) (@PySem.Data.seq (@List.toArray PySem.Value (@List.nil PySem.Value)) (0 : Nat)) (@List.toArray (@Option PySem.Value) (@List.nil (@Option PySem.Value))))) ::
  ((nat_lit 124), (@PySem.Obj.mk (@PySem.Value.type "tuple") (@Option.none Nat) (@PySem.Data.seq (@List.toArray PySem.Value [(@PySem.Value.str (@PySem.Str.ofString "self") (347 : Nat))]) (0 : Nat)) (@List.toArray (@Option PySem.Value) (@List.nil (@Option PySem.Value))))) ::
  ((nat_lit 125), (@PySem.Obj.mk (@PySem.Value.type "tuple") (@Option.none Nat) (@PySem.Data.seq (@List.toArray PySem.Value (@List.nil PySem.Value)) (0 : Nat)) (@List.toArray (@Option PySem.Value) (@List.nil (@Option PySem.Value))))) ::
  ((nat_lit 127), (@PySem.Obj.mk (@PySem.Value.type "code") (@Option.none Nat) (@PySem.Data.fields (@List.toArray PySem.Value [(@PySem.Value.str (@PySem.Str.ofString "__getnewargs__") (344 : Nat)), (@PySem.Value.str (@PySem.Str.ofString "Pair.__getnewargs__") (345 : Nat)), (@PySem.Value.str (@PySem.Str.ofString "/claim/cut.py") (346 : Nat)), (@PySem.Value.int (@OfNat.ofNat Int (nat_lit 64) (@instOfNat (nat_lit 64))) (0 : Nat)), (@PySem.Value.int (@OfNat.ofNat Int (nat_lit 1) (@instOfNat (nat_lit 1))) (0 : Nat)), (@PySem.Value.int (@OfNat.ofNat Int (nat_lit 0) (@instOfNat (nat_lit 0))) (0 : Nat)), (@PySem.Value.int (@OfNat.ofNat Int (nat_lit 0) (@instOfNat (nat_lit 0))) (0 : Nat)), (@PySem.Value.int (@OfNat.ofNat Int (nat_lit 3) (@instOfNat (nat_lit 3))) (0 : Nat)), (@PySem.Value.ref (122 : Nat)), (@PySem.Value.bool Bool.true), (@PySem.Value.int (@OfNat.ofNat Int (nat_lit 181) (@instOfNat (nat_lit 181))) (0 : Nat)), (@PySem.Value.ref (123 : Nat)), PySem.Value.none, (@PySem.Value.ref (124 : Nat)), (@PySem.Value.ref (125 : Nat)), (@PySem.Value.ref (126 : Nat)), (@PySem.Value.int (@OfNat.ofNat Int (nat_lit 348) (@instOfNat (nat_lit 348))) (0 : Nat)), (@PySem.Value.int (@OfNat.ofNat Int (nat_lit 64) (@instOfNat (nat_lit 64))) (0 : Nat)), (@PySem.Value.str (@PySem.Str.ofString "/claim/cut.py") (349 : Nat))])) (@List.toArray (@Option PySem.Value) (@List.nil (@Option PySem.Value))))) ::
  ((nat_lit 128), (@PySem.Obj.mk (@PySem.Value.type "function") (@Option.none Nat) (@PySem.Data.func (@PySem.FuncData.mk (@PySem.Str.ofString "__getnewargs__") (@PySem.Str.ofString "Pair.__getnewargs__") p128 (@PySem.FuncBody.stmts b128) s128 (3 : Nat) (@List.nil (@Prod PySem.Str Nat)) PySem.Value.none PySem.Value.none (@PySem.Value.str d128 (350 : Nat)) (@PySem.Value.str (@PySem.Str.ofString "cpy313.importlib.metadata._collections") (206 : Nat)) (@Option.none Nat) (@PySem.Value.ref (127 : Nat)) PySem.Value.none (0 : Nat))) (@List.toArray (@Option PySem.Value) (@List.nil (@Option PySem.Value))))) ::
  ((nat_lit 129), (@PySem.Obj.mk (@PySem.Value.type "tuple") (@Option.none Nat) (@PySem.Data.seq (@List.toArray PySem.Value [(@PySem.Value.str (@PySem.Str.ofString "name") (352 : Nat)), (@PySem.Value.str (@PySem.Str.ofString "value") (353 : Nat))]) (0 : Nat)) (@List.toArray (@Option PySem.Value) (@List.nil (@Option PySem.Value))))) ::
  ((nat_lit 130), (@PySem.Obj.mk (@PySem.Value.type "dict") (@Option.none Nat) (@PySem.Data.dict (@List.toArray PySem.DictEntry [(@PySem.DictEntry.mk (@PySem.PyData.keyHash P (@PySem.Str.ofString "index")) (@PySem.Value.str (@PySem.Str.ofString "index") (361 : Nat)) (@PySem.Value.int (@OfNat.ofNat Int (nat_lit 0) (@instOfNat (nat_lit 0))) (355 : Nat))), (@PySem.DictEntry.mk (@PySem.PyData.keyHash P (@PySem.Str.ofString "__doc__")) (@PySem.Value.str (@PySem.Str.ofString "__doc__") (363 : Nat)) (@PySem.Value.str (@PySem.Str.ofString "Alias for field number 0") (356 : Nat)))]) (2 : Nat)) (@List.toArray (@Option PySem.Value) (@List.nil (@Option PySem.Value))))) ::
  ((nat_lit 131), (@PySem.Obj.mk (@PySem.Value.ref (67 : Nat)) (@Option.some Nat (130 : Nat)) PySem.Data.plain (@List.toArray (@Option PySem.Value) (@List.nil (@Option PySem.Value))))) ::
  ((nat_lit 133), (@PySem.Obj.mk (@PySem.Value.type "dict") (@Option.none Nat) (@PySem.Data.dict (@List.toArray PySem.DictEntry [(@PySem.DictEntry.mk (@PySem.PyData.keyHash P (@PySem.Str.ofString "index")) (@PySem.Value.str (@PySem.Str.ofString "index") (371 : Nat)) (@PySem.Value.int (@OfNat.ofNat Int (nat_lit 1) (@instOfNat (nat_lit 1))) (365 : Nat))), (@PySem.DictEntry.mk (@PySem.PyData.keyHash P (@PySem.Str.ofString "__doc__")) (@PySem.Value.str (@PySem.Str.ofString "__doc__") (373 : Nat)) (@PySem.Value.str (@PySem.Str.ofString "Alias for field number 1") (366 : Nat)))]) (2 : Nat)) (@List.toArray (@Option PySem.Value) (@List.nil (@Option PySem.Value))))) ::
  ((nat_lit 134), (@PySem.Obj.mk (@PySem.Value.ref (67 : Nat)) (@Option.some Nat (133 : Nat)) PySem.Data.plain (@List.toArray (@Option PySem.Value) (@List.nil (@Option PySem.Value))))) ::
  ((nat_lit 136), (@PySem.Obj.mk (@PySem.Value.type "tuple") (@Option.none Nat) (@PySem.Data.seq (@List.toArray PySem.Value (@List.nil PySem.Value)) (0 : Nat)) (@List.toArray (@Option PySem.Value) (@List.nil (@Option PySem.Value))))) ::
  ((nat_lit 138), (@PySem.Obj.mk (@PySem.Value.type "dict") (@Option.none Nat) (@PySem.Data.dict (@List.toArray PySem.DictEntry [(@PySem.DictEntry.mk (@PySem.PyData.keyHash P (@PySem.Str.ofString "__module__")) (@PySem.Value.str (@PySem.Str.ofString "__module__") (272 : Nat)) (@PySem.Value.str (@PySem.Str.ofString "cpy313.importlib.metadata._collections") (206 : Nat))), (@PySem.DictEntry.mk (@PySem.PyData.keyHash P (@PySem.Str.ofString "__firstlineno__")) (@PySem.Value.str (@PySem.Str.ofString "__firstlineno__") (276 : Nat)) (@PySem.Value.int (@OfNat.ofNat Int (nat_lit 28) (@instOfNat (nat_lit 28))) (275 : Nat))), (@PySem.DictEntry.mk (@PySem.PyData.keyHash P (@PySem.Str.ofString "__doc__")) (@PySem.Value.str (@PySem.Str.ofString "__doc__") (278 : Nat)) (@PySem.Value.str (@PySem.Str.ofString "Pair(name, value)") (277 : Nat))), (@PySem.DictEntry.mk (@PySem.PyData.keyHash P (@PySem.Str.ofString "__slots__")) (@PySem.Value.str (@PySem.Str.ofString "__slots__") (280 : Nat)) (@PySem.Value.ref (80 : Nat))), (@PySem.DictEntry.mk (@PySem.PyData.keyHash P (@PySem.Str.ofString "_fields")) (@PySem.Value.str (@PySem.Str.ofString "_fields") (283 : Nat)) (@PySem.Value.ref (81 : Nat))), (@PySem.DictEntry.mk (@PySem.PyData.keyHash P (@PySem.Str.ofString "_field_defaults")) (@PySem.Value.str (@PySem.Str.ofString "_field_defaults") (284 : Nat)) (@PySem.Value.ref (82 : Nat))), (@PySem.DictEntry.mk (@PySem.PyData.keyHash P (@PySem.Str.ofString "__new__")) (@PySem.Value.str (@PySem.Str.ofString "__new__") (294 : Nat)) (@PySem.Value.ref (140 : Nat))), (@PySem.DictEntry.mk (@PySem.PyData.keyHash P (@PySem.Str.ofString "_make")) (@PySem.Value.str (@PySem.Str.ofString "_make") (316 : Nat)) (@PySem.Value.ref (98 : Nat))), (@PySem.DictEntry.mk (@PySem.PyData.keyHash P (@PySem.Str.ofString "_replace")) (@PySem.Value.str (@PySem.Str.ofString "_replace") (327 : Nat)) (@PySem.Value.ref (107 : Nat))), (@PySem.DictEntry.mk (@PySem.PyData.keyHash P (@PySem.Str.ofString "__replace__")) (@PySem.Value.str (@PySem.Str.ofString "__replace__") (328 : Nat)) (@PySem.Value.ref (107 : Nat))), (@PySem.DictEntry.mk (@PySem.PyData.keyHash P (@PySem.Str.ofString "__repr__")) (@PySem.Value.str (@PySem.Str.ofString "__repr__") (336 : Nat)) (@PySem.Value.ref (114 : Nat))), (@PySem.DictEntry.mk (@PySem.PyData.keyHash P (@PySem.Str.ofString "_asdict")) (@PySem.Value.str (@PySem.Str.ofString "_asdict") (343 : Nat)) (@PySem.Value.ref (121 : Nat))), (@PySem.DictEntry.mk (@PySem.PyData.keyHash P (@PySem.Str.ofString "__getnewargs__")) (@PySem.Value.str (@PySem.Str.ofString "__getnewargs__") (351 : Nat)) (@PySem.Value.ref (128 : Nat))), (@PySem.DictEntry.mk (@PySem.PyData.keyHash P (@PySem.Str.ofString "__match_args__")) (@PySem.Value.str (@PySem.Str.ofString "__match_args__") (354 : Nat)) (@PySem.Value.ref (129 : Nat))), (@PySem.DictEntry.mk (@PySem.PyData.keyHash P (@PySem.Str.ofString "name")) (@PySem.Value.str (@PySem.Str.ofString "name") (364 : Nat)) (@PySem.Value.ref (131 : Nat))), (@PySem.DictEntry.mk (@PySem.PyData.keyHash P (@PySem.Str.ofString "value")) (@PySem.Value.str (@PySem.Str.ofString "value") (374 : Nat)) (@PySem.Value.ref (134 : Nat))), (@PySem.DictEntry.mk (@PySem.PyData.keyHash P (@PySem.Str.ofString "__static_attributes__")) (@PySem.Value.str (@PySem.Str.ofString "__static_attributes__") (375 : Nat)) (@PySem.Value.ref (136 : Nat)))]) (2 : Nat)) (@List.toArray (@Option PySem.Value) (@List.nil (@Option PySem.Value))))) ::
  ((nat_lit 139), (@PySem.Obj.mk (@PySem.Value.type "type") (@Option.none Nat) (@PySem.Data.cls (@PySem.ClassData.mk (@PySem.Str.ofString "Pair") [(@PySem.Value.type "tuple")] [(@PySem.Value.ref (139 : Nat)), (@PySem.Value.type "tuple"), (@PySem.Value.type "object")] (138 : Nat) (@PySem.Str.ofString "Pair") Bool.false (@List.nil PySem.Str) [(@PySem.Value.ref (162 : Nat))] Bool.false (@Option.none Bool) Bool.false)) (@List.toArray (@Option PySem.Value) [(@Option.some PySem.Value (@PySem.Value.ref (72 : Nat))), (@Option.none PySem.Value), (@Option.some PySem.Value (@PySem.Value.str (@PySem.Str.ofString "Pair") (265 : Nat))), (@Option.some PySem.Value (@PySem.Value.str (@PySem.Str.ofString "Pair") (273 : Nat))), (@Option.some PySem.Value PySem.Value.none), (@Option.some PySem.Value (@PySem.Value.bool Bool.false))]))) ::
  ((nat_lit 140), (@PySem.Obj.mk (@PySem.Value.type "staticmethod") (@Option.none Nat) (@PySem.Data.fields (@List.toArray PySem.Value [(@PySem.Value.ref (89 : Nat))])) (@List.toArray (@Option PySem.Value) (@List.nil (@Option PySem.Value))))) ::
  ((nat_lit 143), (@PySem.Obj.mk (@PySem.Value.type "tuple") (@Option.none Nat) (@PySem.Data.seq (@List.toArray PySem.Value [(@PySem.Value.ref (139 : Nat))]) (0 : Nat)) (@List.toArray (@Option PySem.Value) (@List.nil (@Option PySem.Value))))) ::
  ((nat_lit 150), (@PySem.Obj.mk (@PySem.Value.type "tuple") (@Option.none Nat) (@PySem.Data.seq (@List.toArray PySem.Value (@List.nil PySem.Value)) (0 : Nat)) (@List.toArray (@Option PySem.Value) (@List.nil (@Option PySem.Value))))) ::
  ((nat_lit 152), (@PySem.Obj.mk (@PySem.Value.type "tuple") (@Option.none Nat) (@PySem.Data.seq (@List.toArray PySem.Value [(@PySem.Value.str (@PySem.Str.ofString "cls") (395 : Nat)), (@PySem.Value.str (@PySem.Str.ofString "text") (396 : Nat))]) (0 : Nat)) (@List.toArray (@Option PySem.Value) (@List.nil (@Option PySem.Value))))) ::
  ((nat_lit 153), (@PySem.Obj.mk (@PySem.Value.type "tuple") (@Option.none Nat) (@PySem.Data.seq (@List.toArray PySem.Value (@List.nil PySem.Value)) (0 : Nat)) (@List.toArray (@Option PySem.Value) (@List.nil (@Option PySem.Value))))) ::
  ((nat_lit 155), (@PySem.Obj.mk (@PySem.Value.type "code") (@Option.none Nat) (@PySem.Data.fields (@List.toArray PySem.Value [(@PySem.Value.str (@PySem.Str.ofString "parse") (392 : Nat)), (@PySem.Value.str (@PySem.Str.ofString "Pair.parse") (393 : Nat)), (@PySem.Value.str (@PySem.Str.ofString "/claim/cut.py") (394 : Nat)), (@PySem.Value.int (@OfNat.ofNat Int (nat_lit 72) (@instOfNat (nat_lit 72))) (0 : Nat)), (@PySem.Value.int (@OfNat.ofNat Int (nat_lit 2) (@instOfNat (nat_lit 2))) (0 : Nat)), (@PySem.Value.int (@OfNat.ofNat Int (nat_lit 0) (@instOfNat (nat_lit 0))) (0 : Nat)), (@PySem.Value.int (@OfNat.ofNat Int (nat_lit 0) (@instOfNat (nat_lit 0))) (0 : Nat)), (@PySem.Value.int (@OfNat.ofNat Int (nat_lit 3) (@instOfNat (nat_lit 3))) (0 : Nat)), (@PySem.Value.ref (150 : Nat)), (@PySem.Value.bool Bool.true), (@PySem.Value.int (@OfNat.ofNat Int (nat_lit 181) (@instOfNat (nat_lit 181))) (0 : Nat)), (@PySem.Value.ref (151 : Nat)), PySem.Value.none, (@PySem.Value.ref (152 : Nat)), (@PySem.Value.ref (153 : Nat)), (@PySem.Value.ref (154 : Nat)), (@PySem.Value.int (@OfNat.ofNat Int (nat_lit 397) (@instOfNat (nat_lit 397))) (0 : Nat)), (@PySem.Value.int (@OfNat.ofNat Int (nat_lit 72) (@instOfNat (nat_lit 72))) (0 : Nat)), (@PySem.Value.str (@PySem.Str.ofString "/claim/cut.py") (398 : Nat))])) (@List.toArray (@Option PySem.Value) (@List.nil (@Option PySem.Value))))) ::
  ((nat_lit 156), (@PySem.Obj.mk (@PySem.Value.type "function") (@Option.none Nat) (@PySem.Data.func (@PySem.FuncData.mk (@PySem.Str.ofString "parse") (@PySem.Str.ofString "Pair.parse") p156 (@PySem.FuncBody.stmts b156) s156 (3 : Nat) (@List.nil (@Prod PySem.Str Nat)) PySem.Value.none PySem.Value.none PySem.Value.none (@PySem.Value.str (@PySem.Str.ofString "cpy313.importlib.metadata._collections") (206 : Nat)) (@Option.some Nat (159 : Nat)) (@PySem.Value.ref (155 : Nat)) PySem.Value.none (0 : Nat))) (@List.toArray (@Option PySem.Value) (@List.nil (@Option PySem.Value))))) ::
  ((nat_lit 157), (@PySem.Obj.mk (@PySem.Value.type "dict") (@Option.none Nat) (@PySem.Data.dict (@List.toArray PySem.DictEntry [(@PySem.DictEntry.mk (@PySem.PyData.keyHash P (@PySem.Str.ofString "__module__")) (@PySem.Value.str (@PySem.Str.ofString "__module__") (400 : Nat)) (@PySem.Value.str (@PySem.Str.ofString "cpy313.importlib.metadata._collections") (206 : Nat))), (@PySem.DictEntry.mk (@PySem.PyData.keyHash P (@PySem.Str.ofString "__name__")) (@PySem.Value.str (@PySem.Str.ofString "__name__") (403 : Nat)) (@PySem.Value.str (@PySem.Str.ofString "parse") (402 : Nat))), (@PySem.DictEntry.mk (@PySem.PyData.keyHash P (@PySem.Str.ofString "__qualname__")) (@PySem.Value.str (@PySem.Str.ofString "__qualname__") (406 : Nat)) (@PySem.Value.str (@PySem.Str.ofString "Pair.parse") (405 : Nat))), (@PySem.DictEntry.mk (@PySem.PyData.keyHash P (@PySem.Str.ofString "__doc__")) (@PySem.Value.str (@PySem.Str.ofString "__doc__") (408 : Nat)) PySem.Value.none), (@PySem.DictEntry.mk (@PySem.PyData.keyHash P (@PySem.Str.ofString "__annotations__")) (@PySem.Value.str (@PySem.Str.ofString "__annotations__") (410 : Nat)) (@PySem.Value.ref (159 : Nat)))]) (5 : Nat)) (@List.toArray (@Option PySem.Value) (@List.nil (@Option PySem.Value))))) ::
  ((nat_lit 158), (@PySem.Obj.mk (@PySem.Value.type "classmethod") (@Option.some Nat (157 : Nat)) (@PySem.Data.fields (@List.toArray PySem.Value [(@PySem.Value.ref (156 : Nat)), (@PySem.Value.bool Bool.false)])) (@List.toArray (@Option PySem.Value) (@List.nil (@Option PySem.Value))))) ::
  ((nat_lit 159), (@PySem.Obj.mk (@PySem.Value.type "dict") (@Option.none Nat) (@PySem.Data.dict (@List.toArray PySem.DictEntry (@List.nil PySem.DictEntry)) (0 : Nat)) (@List.toArray (@Option PySem.Value) (@List.nil (@Option PySem.Value))))) ::
  ((nat_lit 160), (@PySem.Obj.mk (@PySem.Value.type "tuple") (@Option.none Nat) (@PySem.Data.seq (@List.toArray PySem.Value (@List.nil PySem.Value)) (0 : Nat)) (@List.toArray (@Option PySem.Value) (@List.nil (@Option PySem.Value))))) ::
  ((nat_lit 161), (@PySem.Obj.mk (@PySem.Value.type "dict") (@Option.none Nat) (@PySem.Data.dict (@List.toArray PySem.DictEntry [(@PySem.DictEntry.mk (@PySem.PyData.keyHash P (@PySem.Str.ofString "__module__")) (@PySem.Value.str (@PySem.Str.ofString "__module__") (387 : Nat)) (@PySem.Value.str (@PySem.Str.ofString "cpy313.importlib.metadata._collections") (206 : Nat))), (@PySem.DictEntry.mk (@PySem.PyData.keyHash P (@PySem.Str.ofString "__firstlineno__")) (@PySem.Value.str (@PySem.Str.ofString "__firstlineno__") (391 : Nat)) (@PySem.Value.int (@OfNat.ofNat Int (nat_lit 70) (@instOfNat (nat_lit 70))) (390 : Nat))), (@PySem.DictEntry.mk (@PySem.PyData.keyHash P (@PySem.Str.ofString "parse")) (@PySem.Value.str (@PySem.Str.ofString "parse") (411 : Nat)) (@PySem.Value.ref (158 : Nat))), (@PySem.DictEntry.mk (@PySem.PyData.keyHash P (@PySem.Str.ofString "__static_attributes__")) (@PySem.Value.str (@PySem.Str.ofString "__static_attributes__") (412 : Nat)) (@PySem.Value.ref (160 : Nat))), (@PySem.DictEntry.mk (@PySem.PyData.keyHash P (@PySem.Str.ofString "__dict__")) (@PySem.Value.str (@PySem.Str.ofString "__dict__") (414 : Nat)) (@PySem.Value.ref (163 : Nat))), (@PySem.DictEntry.mk (@PySem.PyData.keyHash P (@PySem.Str.ofString "__doc__")) (@PySem.Value.str (@PySem.Str.ofString "__doc__") (415 : Nat)) PySem.Value.none)]) (3 : Nat)) (@List.toArray (@Option PySem.Value) (@List.nil (@Option PySem.Value))))) ::
  ((nat_lit 162), (@PySem.Obj.mk (@PySem.Value.type "type") (@Option.none Nat) (@PySem.Data.cls (@PySem.ClassData.mk (@PySem.Str.ofString "Pair") [(@PySem.Value.ref (139 : Nat))] [(@PySem.Value.ref (162 : Nat)), (@PySem.Value.ref (139 : Nat)), (@PySem.Value.type "tuple"), (@PySem.Value.type "object")] (161 : Nat) (@PySem.Str.ofString "Pair") Bool.true (@List.nil PySem.Str) (@List.nil PySem.Value) Bool.false (@Option.none Bool) Bool.false)) (@List.toArray (@Option PySem.Value) [(@Option.some PySem.Value (@PySem.Value.ref (143 : Nat))), (@Option.none PySem.Value), (@Option.some PySem.Value (@PySem.Value.str (@PySem.Str.ofString "Pair") (380 : Nat))), (@Option.some PySem.Value (@PySem.Value.str (@PySem.Str.ofString "Pair") (388 : Nat))), (@Option.some PySem.Value PySem.Value.none), (@Option.some PySem.Value (@PySem.Value.bool Bool.false))]))) ::
  ((nat_lit 163), (@PySem.Obj.mk (@PySem.Value.type "getset_descriptor") (@Option.none Nat) (@PySem.Data.fields (@List.toArray PySem.Value [(@PySem.Value.str (@PySem.Str.ofString "__dict__") (413 : Nat)), (@PySem.Value.ref (162 : Nat)), (@PySem.Value.builtin "function.__dict__"), (@PySem.Value.builtin "function.__dict__#set")])) (@List.toArray (@Option PySem.Value) (@List.nil (@Option PySem.Value))))) ::
  ((nat_lit 166), (@PySem.Obj.mk (@PySem.Value.type "tuple") (@Option.none Nat) (@PySem.Data.seq (@List.toArray PySem.Value (@List.nil PySem.Value)) (0 : Nat)) (@List.toArray (@Option PySem.Value) (@List.nil (@Option PySem.Value))))) ::
  ((nat_lit 169), (@PySem.Obj.mk (@PySem.Value.type "code") (@Option.none Nat) (@PySem.Data.fields (@List.toArray PySem.Value [(@PySem.Value.str (@PySem.Str.ofString "_law_signs") (420 : Nat)), (@PySem.Value.str (@PySem.Str.ofString "_law_signs") (421 : Nat)), (@PySem.Value.str (@PySem.Str.ofString "/claim/cut.py") (422 : Nat)), (@PySem.Value.int (@OfNat.ofNat Int (nat_lit 76) (@instOfNat (nat_lit 76))) (0 : Nat)), (@PySem.Value.int (@OfNat.ofNat Int (nat_lit 1) (@instOfNat (nat_lit 1))) (0 : Nat)), (@PySem.Value.int (@OfNat.ofNat Int (nat_lit 0) (@instOfNat (nat_lit 0))) (0 : Nat)), (@PySem.Value.int (@OfNat.ofNat Int (nat_lit 0) (@instOfNat (nat_lit 0))) (0 : Nat)), (@PySem.Value.int (@OfNat.ofNat Int (nat_lit 3) (@instOfNat (nat_lit 3))) (0 : Nat)), (@PySem.Value.ref (166 : Nat)), (@PySem.Value.bool Bool.true), (@PySem.Value.int (@OfNat.ofNat Int (nat_lit 181) (@instOfNat (nat_lit 181))) (0 : Nat)), (@PySem.Value.ref (167 : Nat)), PySem.Value.none, PySem.Value.none, PySem.Value.none, (@PySem.Value.ref (168 : Nat)), (@PySem.Value.int (@OfNat.ofNat Int (nat_lit 423) (@instOfNat (nat_lit 423))) (0 : Nat)), (@PySem.Value.int (@OfNat.ofNat Int (nat_lit 76) (@instOfNat (nat_lit 76))) (0 : Nat)), (@PySem.Value.str (@PySem.Str.ofString "/claim/cut.py") (424 : Nat))])) (@List.toArray (@Option PySem.Value) (@List.nil (@Option PySem.Value))))) ::
  ((nat_lit 170), (@PySem.Obj.mk (@PySem.Value.type "function") (@Option.none Nat) (@PySem.Data.func (@PySem.FuncData.mk (@PySem.Str.ofString "_law_signs") (@PySem.Str.ofString "_law_signs") p170 (@PySem.FuncBody.stmts b170) s170 (3 : Nat) (@List.nil (@Prod PySem.Str Nat)) PySem.Value.none PySem.Value.none PySem.Value.none (@PySem.Value.str (@PySem.Str.ofString "law_il0122_01") (418 : Nat)) (@Option.none Nat) (@PySem.Value.ref (169 : Nat)) PySem.Value.none (0 : Nat))) (@List.toArray (@Option PySem.Value) (@List.nil (@Option PySem.Value))))) ::
  ((nat_lit 171), (@PySem.Obj.mk (@PySem.Value.type "tuple") (@Option.none Nat) (@PySem.Data.seq (@List.toArray PySem.Value (@List.nil PySem.Value)) (0 : Nat)) (@List.toArray (@Option PySem.Value) (@List.nil (@Option PySem.Value))))) ::
  ((nat_lit 173), (@PySem.Obj.mk (@PySem.Value.type "tuple") (@Option.none Nat) (@PySem.Data.seq (@List.toArray PySem.Value [(@PySem.Value.str (@PySem.Str.ofString "numbers") (429 : Nat))]) (0 : Nat)) (@List.toArray (@Option PySem.Value) (@List.nil (@Option PySem.Value))))) ::
  ((nat_lit 174), (@PySem.Obj.mk (@PySem.Value.type "tuple") (@Option.none Nat) (@PySem.Data.seq (@List.toArray PySem.Value (@List.nil PySem.Value)) (0 : Nat)) (@List.toArray (@Option PySem.Value) (@List.nil (@Option PySem.Value))))) ::
  ((nat_lit 176), (@PySem.Obj.mk (@PySem.Value.type "code") (@Option.none Nat) (@PySem.Data.fields (@List.toArray PySem.Value [(@PySem.Value.str (@PySem.Str.ofString "_law_field") (426 : Nat)), (@PySem.Value.str (@PySem.Str.ofString "_law_field") (427 : Nat)), (@PySem.Value.str (@PySem.Str.ofString "/claim/cut.py") (428 : Nat)), (@PySem.Value.int (@OfNat.ofNat Int (nat_lit 78) (@instOfNat (nat_lit 78))) (0 : Nat)), (@PySem.Value.int (@OfNat.ofNat Int (nat_lit 1) (@instOfNat (nat_lit 1))) (0 : Nat)), (@PySem.Value.int (@OfNat.ofNat Int (nat_lit 0) (@instOfNat (nat_lit 0))) (0 : Nat)), (@PySem.Value.int (@OfNat.ofNat Int (nat_lit 0) (@instOfNat (nat_lit 0))) (0 : Nat)), (@PySem.Value.int (@OfNat.ofNat Int (nat_lit 3) (@instOfNat (nat_lit 3))) (0 : Nat)), (@PySem.Value.ref (171 : Nat)), (@PySem.Value.bool Bool.true), (@PySem.Value.int (@OfNat.ofNat Int (nat_lit 181) (@instOfNat (nat_lit 181))) (0 : Nat)), (@PySem.Value.ref (172 : Nat)), PySem.Value.none, (@PySem.Value.ref (173 : Nat)), (@PySem.Value.ref (174 : Nat)), (@PySem.Value.ref (175 : Nat)), (@PySem.Value.int (@OfNat.ofNat Int (nat_lit 430) (@instOfNat (nat_lit 430))) (0 : Nat)), (@PySem.Value.int (@OfNat.ofNat Int (nat_lit 78) (@instOfNat (nat_lit 78))) (0 : Nat)), (@PySem.Value.str (@PySem.Str.ofString "/claim/cut.py") (431 : Nat))])) (@List.toArray (@Option PySem.Value) (@List.nil (@Option PySem.Value))))) ::
  ((nat_lit 177), (@PySem.Obj.mk (@PySem.Value.type "function") (@Option.none Nat) (@PySem.Data.func (@PySem.FuncData.mk (@PySem.Str.ofString "_law_field") (@PySem.Str.ofString "_law_field") p177 (@PySem.FuncBody.stmts b177) s177 (3 : Nat) (@List.nil (@Prod PySem.Str Nat)) PySem.Value.none PySem.Value.none PySem.Value.none (@PySem.Value.str (@PySem.Str.ofString "law_il0122_01") (418 : Nat)) (@Option.none Nat) (@PySem.Value.ref (176 : Nat)) PySem.Value.none (0 : Nat))) (@List.toArray (@Option PySem.Value) (@List.nil (@Option PySem.Value))))) ::
  ((nat_lit 178), (@PySem.Obj.mk (@PySem.Value.type "tuple") (@Option.none Nat) (@PySem.Data.seq (@List.toArray PySem.Value (@List.nil PySem.Value)) (0 : Nat)) (@List.toArray (@Option PySem.Value) (@List.nil (@Option PySem.Value))))) ::
  ((nat_lit 180), (@PySem.Obj.mk (@PySem.Value.type "tuple") (@Option.none Nat) (@PySem.Data.seq (@List.toArray PySem.Value [(@PySem.Value.str (@PySem.Str.ofString "text") (436 : Nat)), (@PySem.Value.str (@PySem.Str.ofString "front") (437 : Nat)), (@PySem.Value.str (@PySem.Str.ofString "back") (438 : Nat))]) (0 : Nat)) (@List.toArray (@Option PySem.Value) (@List.nil (@Option PySem.Value))))) ::
  ((nat_lit 181), (@PySem.Obj.mk (@PySem.Value.type "tuple") (@Option.none Nat) (@PySem.Data.seq (@List.toArray PySem.Value (@List.nil PySem.Value)) (0 : Nat)) (@List.toArray (@Option PySem.Value) (@List.nil (@Option PySem.Value))))) ::
  ((nat_lit 183), (@PySem.Obj.mk (@PySem.Value.type "code") (@Option.none Nat) (@PySem.Data.fields (@List.toArray PySem.Value [(@PySem.Value.str (@PySem.Str.ofString "_law_bare") (433 : Nat)), (@PySem.Value.str (@PySem.Str.ofString "_law_bare") (434 : Nat)), (@PySem.Value.str (@PySem.Str.ofString "/claim/cut.py") (435 : Nat)), (@PySem.Value.int (@OfNat.ofNat Int (nat_lit 82) (@instOfNat (nat_lit 82))) (0 : Nat)), (@PySem.Value.int (@OfNat.ofNat Int (nat_lit 1) (@instOfNat (nat_lit 1))) (0 : Nat)), (@PySem.Value.int (@OfNat.ofNat Int (nat_lit 0) (@instOfNat (nat_lit 0))) (0 : Nat)), (@PySem.Value.int (@OfNat.ofNat Int (nat_lit 0) (@instOfNat (nat_lit 0))) (0 : Nat)), (@PySem.Value.int (@OfNat.ofNat Int (nat_lit 3) (@instOfNat (nat_lit 3))) (0 : Nat)), (@PySem.Value.ref (178 : Nat)), (@PySem.Value.bool Bool.true), (@PySem.Value.int (@OfNat.ofNat Int (nat_lit 181) (@instOfNat (nat_lit 181))) (0 : Nat)), (@PySem.Value.ref (179 : Nat)), PySem.Value.none, (@PySem.Value.ref (180 : Nat)), (@PySem.Value.ref (181 : Nat)), (@PySem.Value.ref (182 : Nat)), (@PySem.Value.int (@OfNat.ofNat Int (nat_lit 439) (@instOfNat (nat_lit 439))) (0 : Nat)), (@PySem.Value.int (@OfNat.ofNat Int (nat_lit 82) (@instOfNat (nat_lit 82))) (0 : Nat)), (@PySem.Value.str (@PySem.Str.ofString "/claim/cut.py") (440 : Nat))])) (@List.toArray (@Option PySem.Value) (@List.nil (@Option PySem.Value))))) ::
  ((nat_lit 184), (@PySem.Obj.mk (@PySem.Value.type "function") (@Option.none Nat) (@PySem.Data.func (@PySem.FuncData.mk (@PySem.Str.ofString "_law_bare") (@PySem.Str.ofString "_law_bare") p184 (@PySem.FuncBody.stmts b184) s184 (3 : Nat) (@List.nil (@Prod PySem.Str Nat)) PySem.Value.none PySem.Value.none PySem.Value.none (@PySem.Value.str (@PySem.Str.ofString "law_il0122_01") (418 : Nat)) (@Option.none Nat) (@PySem.Value.ref (183 : Nat)) PySem.Value.none (0 : Nat))) (@List.toArray (@Option PySem.Value) (@List.nil (@Option PySem.Value))))) ::
  ((nat_lit 185), (@PySem.Obj.mk (@PySem.Value.type "tuple") (@Option.none Nat) (@PySem.Data.seq (@List.toArray PySem.Value (@List.nil PySem.Value)) (0 : Nat)) (@List.toArray (@Option PySem.Value) (@List.nil (@Option PySem.Value))))) ::
  ((nat_lit 187), (@PySem.Obj.mk (@PySem.Value.type "tuple") (@Option.none Nat) (@PySem.Data.seq (@List.toArray PySem.Value [(@PySem.Value.str (@PySem.Str.ofString "text") (445 : Nat)), (@PySem.Value.str (@PySem.Str.ofString "place") (446 : Nat))]) (0 : Nat)) (@List.toArray (@Option PySem.Value) (@List.nil (@Option PySem.Value))))) ::
  ((nat_lit 188), (@PySem.Obj.mk (@PySem.Value.type "tuple") (@Option.none Nat) (@PySem.Data.seq (@List.toArray PySem.Value (@List.nil PySem.Value)) (0 : Nat)) (@List.toArray (@Option PySem.Value) (@List.nil (@Option PySem.Value))))) ::
  ((nat_lit 190), (@PySem.Obj.mk (@PySem.Value.type "code") (@Option.none Nat) (@PySem.Data.fields (@List.toArray PySem.Value [(@PySem.Value.str (@PySem.Str.ofString "_law_halves") (442 : Nat)), (@PySem.Value.str (@PySem.Str.ofString "_law_halves") (443 : Nat)), (@PySem.Value.str (@PySem.Str.ofString "/claim/cut.py") (444 : Nat)), (@PySem.Value.int (@OfNat.ofNat Int (nat_lit 90) (@instOfNat (nat_lit 90))) (0 : Nat)), (@PySem.Value.int (@OfNat.ofNat Int (nat_lit 1) (@instOfNat (nat_lit 1))) (0 : Nat)), (@PySem.Value.int (@OfNat.ofNat Int (nat_lit 0) (@instOfNat (nat_lit 0))) (0 : Nat)), (@PySem.Value.int (@OfNat.ofNat Int (nat_lit 0) (@instOfNat (nat_lit 0))) (0 : Nat)), (@PySem.Value.int (@OfNat.ofNat Int (nat_lit 3) (@instOfNat (nat_lit 3))) (0 : Nat)), (@PySem.Value.ref (185 : Nat)), (@PySem.Value.bool Bool.true), (@PySem.Value.int (@OfNat.ofNat Int (nat_lit 181) (@instOfNat (nat_lit 181))) (0 : Nat)), (@PySem.Value.ref (186 : Nat)), PySem.Value.none, (@PySem.Value.ref (187 : Nat)), (@PySem.Value.ref (188 : Nat)), (@PySem.Value.ref (189 : Nat)), (@PySem.Value.int (@OfNat.ofNat Int (nat_lit 447) (@instOfNat (nat_lit 447))) (0 : Nat)), (@PySem.Value.int (@OfNat.ofNat Int (nat_lit 90) (@instOfNat (nat_lit 90))) (0 : Nat)), (@PySem.Value.str (@PySem.Str.ofString "/claim/cut.py") (448 : Nat))])) (@List.toArray (@Option PySem.Value) (@List.nil (@Option PySem.Value))))) ::
  ((nat_lit 191), (@PySem.Obj.mk (@PySem.Value.type "function") (@Option.none Nat) (@PySem.Data.func (@PySem.FuncData.mk (@PySem.Str.ofString "_law_halves") (@PySem.Str.ofString "_law_halves") p191 (@PySem.FuncBody.stmts b191) s191 (3 : Nat) (@List.nil (@Prod PySem.Str Nat)) PySem.Value.none PySem.Value.none PySem.Value.none (@PySem.Value.str (@PySem.Str.ofString "law_il0122_01") (418 : Nat)) (@Option.none Nat) (@PySem.Value.ref (190 : Nat)) PySem.Value.none (0 : Nat))) (@List.toArray (@Option PySem.Value) (@List.nil (@Option PySem.Value))))) ::
  ((nat_lit 192), (@PySem.Obj.mk (@PySem.Value.type "tuple") (@Option.none Nat) (@PySem.Data.seq (@List.toArray PySem.Value (@List.nil PySem.Value)) (0 : Nat)) (@List.toArray (@Option PySem.Value) (@List.nil (@Option PySem.Value))))) ::
  ((nat_lit 195), (@PySem.Obj.mk (@PySem.Value.type "code") (@Option.none Nat) (@PySem.Data.fields (@List.toArray PySem.Value [(@PySem.Value.str (@PySem.Str.ofString "_law_read") (450 : Nat)), (@PySem.Value.str (@PySem.Str.ofString "_law_read") (451 : Nat)), (@PySem.Value.str (@PySem.Str.ofString "/claim/cut.py") (452 : Nat)), (@PySem.Value.int (@OfNat.ofNat Int (nat_lit 95) (@instOfNat (nat_lit 95))) (0 : Nat)), (@PySem.Value.int (@OfNat.ofNat Int (nat_lit 1) (@instOfNat (nat_lit 1))) (0 : Nat)), (@PySem.Value.int (@OfNat.ofNat Int (nat_lit 0) (@instOfNat (nat_lit 0))) (0 : Nat)), (@PySem.Value.int (@OfNat.ofNat Int (nat_lit 0) (@instOfNat (nat_lit 0))) (0 : Nat)), (@PySem.Value.int (@OfNat.ofNat Int (nat_lit 3) (@instOfNat (nat_lit 3))) (0 : Nat)), (@PySem.Value.ref (192 : Nat)), (@PySem.Value.bool Bool.true), (@PySem.Value.int (@OfNat.ofNat Int (nat_lit 181) (@instOfNat (nat_lit 181))) (0 : Nat)), (@PySem.Value.ref (193 : Nat)), PySem.Value.none, PySem.Value.none, PySem.Value.none, (@PySem.Value.ref (194 : Nat)), (@PySem.Value.int (@OfNat.ofNat Int (nat_lit 453) (@instOfNat (nat_lit 453))) (0 : Nat)), (@PySem.Value.int (@OfNat.ofNat Int (nat_lit 95) (@instOfNat (nat_lit 95))) (0 : Nat)), (@PySem.Value.str (@PySem.Str.ofString "/claim/cut.py") (454 : Nat))])) (@List.toArray (@Option PySem.Value) (@List.nil (@Option PySem.Value))))) ::
  ((nat_lit 196), (@PySem.Obj.mk (@PySem.Value.type "function") (@Option.none Nat) (@PySem.Data.func (@PySem.FuncData.mk (@PySem.Str.ofString "_law_read") (@PySem.Str.ofString "_law_read") p196 (@PySem.FuncBody.stmts b196) s196 (3 : Nat) (@List.nil (@Prod PySem.Str Nat)) PySem.Value.none PySem.Value.none PySem.Value.none (@PySem.Value.str (@PySem.Str.ofString "law_il0122_01") (418 : Nat)) (@Option.none Nat) (@PySem.Value.ref (195 : Nat)) PySem.Value.none (0 : Nat))) (@List.toArray (@Option PySem.Value) (@List.nil (@Option PySem.Value))))) ::
  ((nat_lit 197), (@PySem.Obj.mk (@PySem.Value.type "tuple") (@Option.none Nat) (@PySem.Data.seq (@List.toArray PySem.Value (@List.nil PySem.Value)) (0 : Nat)) (@List.toArray (@Option PySem.Value) (@List.nil (@Option PySem.Value))))) ::
  ((nat_lit 200), (@PySem.Obj.mk (@PySem.Value.type "code") (@Option.none Nat) (@PySem.Data.fields (@List.toArray PySem.Value [(@PySem.Value.str (@PySem.Str.ofString "_law_want") (456 : Nat)), (@PySem.Value.str (@PySem.Str.ofString "_law_want") (457 : Nat)), (@PySem.Value.str (@PySem.Str.ofString "/claim/cut.py") (458 : Nat)), (@PySem.Value.int (@OfNat.ofNat Int (nat_lit 132) (@instOfNat (nat_lit 132))) (0 : Nat)), (@PySem.Value.int (@OfNat.ofNat Int (nat_lit 1) (@instOfNat (nat_lit 1))) (0 : Nat)), (@PySem.Value.int (@OfNat.ofNat Int (nat_lit 0) (@instOfNat (nat_lit 0))) (0 : Nat)), (@PySem.Value.int (@OfNat.ofNat Int (nat_lit 0) (@instOfNat (nat_lit 0))) (0 : Nat)), (@PySem.Value.int (@OfNat.ofNat Int (nat_lit 3) (@instOfNat (nat_lit 3))) (0 : Nat)), (@PySem.Value.ref (197 : Nat)), (@PySem.Value.bool Bool.true), (@PySem.Value.int (@OfNat.ofNat Int (nat_lit 181) (@instOfNat (nat_lit 181))) (0 : Nat)), (@PySem.Value.ref (198 : Nat)), PySem.Value.none, PySem.Value.none, PySem.Value.none, (@PySem.Value.ref (199 : Nat)), (@PySem.Value.int (@OfNat.ofNat Int (nat_lit 459) (@instOfNat (nat_lit 459))) (0 : Nat)), (@PySem.Value.int (@OfNat.ofNat Int (nat_lit 132) (@instOfNat (nat_lit 132))) (0 : Nat)), (@PySem.Value.str (@PySem.Str.ofString "/claim/cut.py") (460 : Nat))])) (@List.toArray (@Option PySem.Value) (@List.nil (@Option PySem.Value))))) ::
  ((nat_lit 201), (@PySem.Obj.mk (@PySem.Value.type "function") (@Option.none Nat) (@PySem.Data.func (@PySem.FuncData.mk (@PySem.Str.ofString "_law_want") (@PySem.Str.ofString "_law_want") p201 (@PySem.FuncBody.stmts b201) s201 (3 : Nat) (@List.nil (@Prod PySem.Str Nat)) PySem.Value.none PySem.Value.none PySem.Value.none (@PySem.Value.str (@PySem.Str.ofString "law_il0122_01") (418 : Nat)) (@Option.none Nat) (@PySem.Value.ref (200 : Nat)) PySem.Value.none (0 : Nat))) (@List.toArray (@Option PySem.Value) (@List.nil (@Option PySem.Value))))) ::
  ((nat_lit 202), (@PySem.Obj.mk (@PySem.Value.type "tuple") (@Option.none Nat) (@PySem.Data.seq (@List.toArray PySem.Value (@List.nil PySem.Value)) (0 : Nat)) (@List.toArray (@Option PySem.Value) (@List.nil (@Option PySem.Value))))) ::
  ((nat_lit 205), (@PySem.Obj.mk (@PySem.Value.type "code") (@Option.none Nat) (@PySem.Data.fields (@List.toArray PySem.Value [(@PySem.Value.str (@PySem.Str.ofString "_law_told") (462 : Nat)), (@PySem.Value.str (@PySem.Str.ofString "_law_told") (463 : Nat)), (@PySem.Value.str (@PySem.Str.ofString "/claim/cut.py") (464 : Nat)), (@PySem.Value.int (@OfNat.ofNat Int (nat_lit 140) (@instOfNat (nat_lit 140))) (0 : Nat)), (@PySem.Value.int (@OfNat.ofNat Int (nat_lit 1) (@instOfNat (nat_lit 1))) (0 : Nat)), (@PySem.Value.int (@OfNat.ofNat Int (nat_lit 0) (@instOfNat (nat_lit 0))) (0 : Nat)), (@PySem.Value.int (@OfNat.ofNat Int (nat_lit 0) (@instOfNat (nat_lit 0))) (0 : Nat)), (@PySem.Value.int (@OfNat.ofNat Int (nat_lit 3) (@instOfNat (nat_lit 3))) (0 : Nat)), (@PySem.Value.ref (202 : Nat)), (@PySem.Value.bool Bool.true), (@PySem.Value.int (@OfNat.ofNat Int (nat_lit 181) (@instOfNat (nat_lit 181))) (0 : Nat)), (@PySem.Value.ref (203 : Nat)), PySem.Value.none, PySem.Value.none, PySem.Value.none, (@PySem.Value.ref (204 : Nat)), (@PySem.Value.int (@OfNat.ofNat Int (nat_lit 465) (@instOfNat (nat_lit 465))) (0 : Nat)), (@PySem.Value.int (@OfNat.ofNat Int (nat_lit 140) (@instOfNat (nat_lit 140))) (0 : Nat)), (@PySem.Value.str (@PySem.Str.ofString "/claim/cut.py") (466 : Nat))])) (@List.toArray (@Option PySem.Value) (@List.nil (@Option PySem.Value))))) ::
  ((nat_lit 206), (@PySem.Obj.mk (@PySem.Value.type "function") (@Option.none Nat) (@PySem.Data.func (@PySem.FuncData.mk (@PySem.Str.ofString "_law_told") (@PySem.Str.ofString "_law_told") p206 (@PySem.FuncBody.stmts b206) s206 (3 : Nat) (@List.nil (@Prod PySem.Str Nat)) PySem.Value.none PySem.Value.none PySem.Value.none (@PySem.Value.str (@PySem.Str.ofString "law_il0122_01") (418 : Nat)) (@Option.none Nat) (@PySem.Value.ref (205 : Nat)) PySem.Value.none (0 : Nat))) (@List.toArray (@Option PySem.Value) (@List.nil (@Option PySem.Value))))) ::
  ((nat_lit 207), (@PySem.Obj.mk (@PySem.Value.type "tuple") (@Option.none Nat) (@PySem.Data.seq (@List.toArray PySem.Value (@List.nil PySem.Value)) (0 : Nat)) (@List.toArray (@Option PySem.Value) (@List.nil (@Option PySem.Value))))) ::
  ((nat_lit 209), (@PySem.Obj.mk (@PySem.Value.type "tuple") (@Option.none Nat) (@PySem.Data.seq (@List.toArray PySem.Value [(@PySem.Value.str (@PySem.Str.ofString "number") (471 : Nat))]) (0 : Nat)) (@List.toArray (@Option PySem.Value) (@List.nil (@Option PySem.Value))))) ::
  ((nat_lit 210), (@PySem.Obj.mk (@PySem.Value.type "tuple") (@Option.none Nat) (@PySem.Data.seq (@List.toArray PySem.Value (@List.nil PySem.Value)) (0 : Nat)) (@List.toArray (@Option PySem.Value) (@List.nil (@Option PySem.Value))))) ::
  ((nat_lit 212), (@PySem.Obj.mk (@PySem.Value.type "code") (@Option.none Nat) (@PySem.Data.fields (@List.toArray PySem.Value [(@PySem.Value.str (@PySem.Str.ofString "_law_cut") (468 : Nat)), (@PySem.Value.str (@PySem.Str.ofString "_law_cut") (469 : Nat)), (@PySem.Value.str (@PySem.Str.ofString "/claim/cut.py") (470 : Nat)), (@PySem.Value.int (@OfNat.ofNat Int (nat_lit 152) (@instOfNat (nat_lit 152))) (0 : Nat)), (@PySem.Value.int (@OfNat.ofNat Int (nat_lit 1) (@instOfNat (nat_lit 1))) (0 : Nat)), (@PySem.Value.int (@OfNat.ofNat Int (nat_lit 0) (@instOfNat (nat_lit 0))) (0 : Nat)), (@PySem.Value.int (@OfNat.ofNat Int (nat_lit 0) (@instOfNat (nat_lit 0))) (0 : Nat)), (@PySem.Value.int (@OfNat.ofNat Int (nat_lit 3) (@instOfNat (nat_lit 3))) (0 : Nat)), (@PySem.Value.ref (207 : Nat)), (@PySem.Value.bool Bool.true), (@PySem.Value.int (@OfNat.ofNat Int (nat_lit 181) (@instOfNat (nat_lit 181))) (0 : Nat)), (@PySem.Value.ref (208 : Nat)), PySem.Value.none, (@PySem.Value.ref (209 : Nat)), (@PySem.Value.ref (210 : Nat)), (@PySem.Value.ref (211 : Nat)), (@PySem.Value.int (@OfNat.ofNat Int (nat_lit 472) (@instOfNat (nat_lit 472))) (0 : Nat)), (@PySem.Value.int (@OfNat.ofNat Int (nat_lit 152) (@instOfNat (nat_lit 152))) (0 : Nat)), (@PySem.Value.str (@PySem.Str.ofString "/claim/cut.py") (473 : Nat))])) (@List.toArray (@Option PySem.Value) (@List.nil (@Option PySem.Value))))) ::
  ((nat_lit 213), (@PySem.Obj.mk (@PySem.Value.type "function") (@Option.none Nat) (@PySem.Data.func (@PySem.FuncData.mk (@PySem.Str.ofString "_law_cut") (@PySem.Str.ofString "_law_cut") p213 (@PySem.FuncBody.stmts b213) s213 (3 : Nat) (@List.nil (@Prod PySem.Str Nat)) PySem.Value.none PySem.Value.none PySem.Value.none (@PySem.Value.str (@PySem.Str.ofString "law_il0122_01") (418 : Nat)) (@Option.none Nat) (@PySem.Value.ref (212 : Nat)) PySem.Value.none (0 : Nat))) (@List.toArray (@Option PySem.Value) (@List.nil (@Option PySem.Value))))) ::
  ((nat_lit 214), (@PySem.Obj.mk (@PySem.Value.type "tuple") (@Option.none Nat) (@PySem.Data.seq (@List.toArray PySem.Value (@List.nil PySem.Value)) (0 : Nat)) (@List.toArray (@Option PySem.Value) (@List.nil (@Option PySem.Value))))) ::
  ((nat_lit 217), (@PySem.Obj.mk (@PySem.Value.type "code") (@Option.none Nat) (@PySem.Data.fields (@List.toArray PySem.Value [(@PySem.Value.str (@PySem.Str.ofString "_law_back") (475 : Nat)), (@PySem.Value.str (@PySem.Str.ofString "_law_back") (476 : Nat)), (@PySem.Value.str (@PySem.Str.ofString "/claim/cut.py") (477 : Nat)), (@PySem.Value.int (@OfNat.ofNat Int (nat_lit 156) (@instOfNat (nat_lit 156))) (0 : Nat)), (@PySem.Value.int (@OfNat.ofNat Int (nat_lit 1) (@instOfNat (nat_lit 1))) (0 : Nat)), (@PySem.Value.int (@OfNat.ofNat Int (nat_lit 0) (@instOfNat (nat_lit 0))) (0 : Nat)), (@PySem.Value.int (@OfNat.ofNat Int (nat_lit 0) (@instOfNat (nat_lit 0))) (0 : Nat)), (@PySem.Value.int (@OfNat.ofNat Int (nat_lit 3) (@instOfNat (nat_lit 3))) (0 : Nat)), (@PySem.Value.ref (214 : Nat)), (@PySem.Value.bool Bool.true), (@PySem.Value.int (@OfNat.ofNat Int (nat_lit 181) (@instOfNat (nat_lit 181))) (0 : Nat)), (@PySem.Value.ref (215 : Nat)), PySem.Value.none, PySem.Value.none, PySem.Value.none, (@PySem.Value.ref (216 : Nat)), (@PySem.Value.int (@OfNat.ofNat Int (nat_lit 478) (@instOfNat (nat_lit 478))) (0 : Nat)), (@PySem.Value.int (@OfNat.ofNat Int (nat_lit 156) (@instOfNat (nat_lit 156))) (0 : Nat)), (@PySem.Value.str (@PySem.Str.ofString "/claim/cut.py") (479 : Nat))])) (@List.toArray (@Option PySem.Value) (@List.nil (@Option PySem.Value))))) ::
  ((nat_lit 218), (@PySem.Obj.mk (@PySem.Value.type "function") (@Option.none Nat) (@PySem.Data.func (@PySem.FuncData.mk (@PySem.Str.ofString "_law_back") (@PySem.Str.ofString "_law_back") p218 (@PySem.FuncBody.stmts b218) s218 (3 : Nat) (@List.nil (@Prod PySem.Str Nat)) PySem.Value.none PySem.Value.none PySem.Value.none (@PySem.Value.str (@PySem.Str.ofString "law_il0122_01") (418 : Nat)) (@Option.none Nat) (@PySem.Value.ref (217 : Nat)) PySem.Value.none (0 : Nat))) (@List.toArray (@Option PySem.Value) (@List.nil (@Option PySem.Value))))) ::
  ((nat_lit 219), (@PySem.Obj.mk (@PySem.Value.type "tuple") (@Option.none Nat) (@PySem.Data.seq (@List.toArray PySem.Value (@List.nil PySem.Value)) (0 : Nat)) (@List.toArray (@Option PySem.Value) (@List.nil (@Option PySem.Value))))) ::
  ((nat_lit 221), (@PySem.Obj.mk (@PySem.Value.type "tuple") (@Option.none Nat) (@PySem.Data.seq (@List.toArray PySem.Value [(@PySem.Value.str (@PySem.Str.ofString "script") (484 : Nat)), (@PySem.Value.str (@PySem.Str.ofString "drawn") (485 : Nat)), (@PySem.Value.str (@PySem.Str.ofString "ahead") (486 : Nat)), (@PySem.Value.str (@PySem.Str.ofString "behind") (487 : Nat)), (@PySem.Value.str (@PySem.Str.ofString "ranged") (488 : Nat)), (@PySem.Value.str (@PySem.Str.ofString "wild") (489 : Nat))]) (0 : Nat)) (@List.toArray (@Option PySem.Value) (@List.nil (@Option PySem.Value))))) ::
  ((nat_lit 222), (@PySem.Obj.mk (@PySem.Value.type "tuple") (@Option.none Nat) (@PySem.Data.seq (@List.toArray PySem.Value (@List.nil PySem.Value)) (0 : Nat)) (@List.toArray (@Option PySem.Value) (@List.nil (@Option PySem.Value))))) ::
  ((nat_lit 224), (@PySem.Obj.mk (@PySem.Value.type "code") (@Option.none Nat) (@PySem.Data.fields (@List.toArray PySem.Value [(@PySem.Value.str (@PySem.Str.ofString "law") (481 : Nat)), (@PySem.Value.str (@PySem.Str.ofString "law") (482 : Nat)), (@PySem.Value.str (@PySem.Str.ofString "/claim/cut.py") (483 : Nat)), (@PySem.Value.int (@OfNat.ofNat Int (nat_lit 163) (@instOfNat (nat_lit 163))) (0 : Nat)), (@PySem.Value.int (@OfNat.ofNat Int (nat_lit 1) (@instOfNat (nat_lit 1))) (0 : Nat)), (@PySem.Value.int (@OfNat.ofNat Int (nat_lit 0) (@instOfNat (nat_lit 0))) (0 : Nat)), (@PySem.Value.int (@OfNat.ofNat Int (nat_lit 0) (@instOfNat (nat_lit 0))) (0 : Nat)), (@PySem.Value.int (@OfNat.ofNat Int (nat_lit 3) (@instOfNat (nat_lit 3))) (0 : Nat)), (@PySem.Value.ref (219 : Nat)), (@PySem.Value.bool Bool.true), (@PySem.Value.int (@OfNat.ofNat Int (nat_lit 181) (@instOfNat (nat_lit 181))) (0 : Nat)), (@PySem.Value.ref (220 : Nat)), PySem.Value.none, (@PySem.Value.ref (221 : Nat)), (@PySem.Value.ref (222 : Nat)), (@PySem.Value.ref (223 : Nat)), (@PySem.Value.int (@OfNat.ofNat Int (nat_lit 490) (@instOfNat (nat_lit 490))) (0 : Nat)), (@PySem.Value.int (@OfNat.ofNat Int (nat_lit 163) (@instOfNat (nat_lit 163))) (0 : Nat)), (@PySem.Value.str (@PySem.Str.ofString "/claim/cut.py") (491 : Nat))])) (@List.toArray (@Option PySem.Value) (@List.nil (@Option PySem.Value))))) ::
  ((nat_lit 225), (@PySem.Obj.mk (@PySem.Value.type "function") (@Option.none Nat) (@PySem.Data.func (@PySem.FuncData.mk (@PySem.Str.ofString "law") (@PySem.Str.ofString "law") p225 (@PySem.FuncBody.stmts b225) s225 (3 : Nat) (@List.nil (@Prod PySem.Str Nat)) PySem.Value.none PySem.Value.none PySem.Value.none (@PySem.Value.str (@PySem.Str.ofString "law_il0122_01") (418 : Nat)) (@Option.none Nat) (@PySem.Value.ref (224 : Nat)) PySem.Value.none (0 : Nat))) (@List.toArray (@Option PySem.Value) (@List.nil (@Option PySem.Value))))) ::
  [] : List (Nat × Obj))) _ _ _ _ _ _ _ _ _ _ _ _ _ _ _ _ _ _ _ _ _ _ _ _ _ _ _ _ _ _ _ _ _ _ _ _ _ _ _ _ _ _ _ _ _ _ _ _ _ _ _ _ _ _ _ _ _ _ _ _ _ _ _ _ _ _ _ _ _ _ _ _ _ _ _ rfl rfl rfl rfl rfl rfl rfl rfl rfl rfl rfl rfl rfl rfl rfl rfl rfl rfl rfl rfl rfl rfl rfl rfl rfl rfl rfl rfl rfl
noncomputable def hd.heap_39 (P : Params) : Frag := ((nat_lit 2), (@PySem.Obj.mk PySem.Value.none (@Option.none Nat) (@PySem.Data.dict (@List.toArray PySem.DictEntry (@List.nil PySem.DictEntry)) (0 : Nat)) (@List.toArray (@Option PySem.Value) (@List.nil (@Option PySem.Value))))) :: KQ P
end
section
/-! the logic of the kit, held to the stacks of which P is known -/
abbrev codesOf (Γ : PySem.Ctx) : List Code := Γ.code :: Γ.below.map (·.1)
def wpP {α : Type} (P : List Code → Prop) (M : Model) (A : Around) (t : Sem α) (Q : α → Shared → Prop) (E : Value → Shared → Prop) (s : Shared) : Prop :=
  ∀ (Γ : PySem.Ctx) p, Γ.In A → P (codesOf Γ) → Sem.wp M Γ t (fun a _ s' => Q a s') (fun e _ s' => E e s') p s
def codeP (P : List Code → Prop) (M : Model) (A : Around) (c : Code) (R : Result → Shared → Prop) (s : Shared) : Prop :=
  ∀ (Γ : PySem.Ctx) p, Γ.code = c → Γ.Below A → P (Γ.below.map (·.1)) → wpCode M Γ R p s
section
variable {α β : Type} {P P' : List Code → Prop} {M : Model} {A : Around} {E : Value → Shared → Prop} {s : Shared}
theorem wpP_of {t : Sem α} {Q : α → Shared → Prop} (h : wpAny M A t Q E s) : wpP P M A t Q E s := fun Γ p i _ => h Γ p i
theorem wpP_mono {t : Sem α} {Q Q' : α → Shared → Prop} {E' : Value → Shared → Prop} (h : wpP P M A t Q E s) (hQ : ∀ a s, Q a s → Q' a s) (hE : ∀ e s, E e s → E' e s) : wpP P M A t Q' E' s :=
  fun Γ p i k => Sem.wp_mono M Γ t (fun a _ s => hQ a s) (fun e _ s => hE e s) p s (h Γ p i k)
theorem wpP_bind {m : Sem α} {f : α → Sem β} {Q : β → Shared → Prop} (h : wpP P M A m (fun a s' => wpP P M A (f a) Q E s') E s) : wpP P M A (m >>= f) Q E s := fun Γ p i k => by
  rw [Sem.wp_bind']
  exact Sem.wp_mono M Γ m (fun a p' s' h' => h' Γ p' i k) (fun _ _ _ h' => h') p s (h Γ p i k)
/-- the part ahead walked as the kit walks it -/
theorem wpP_any {m : Sem α} {f : α → Sem β} {Q : β → Shared → Prop} (h : wpAny M A m (fun a s' => wpP P M A (f a) Q E s') E s) : wpP P M A (m >>= f) Q E s := wpP_bind (wpP_of h)
theorem wpP_pure {a : α} {Q : α → Shared → Prop} (h : Q a s) : wpP P M A (pure a) Q E s := wpP_of (wpAny_pure h)
theorem wpP_tryCatch {m : Sem α} {k : Value → Sem α} {Q : α → Shared → Prop} (h : wpP P M A m Q (fun e s' => wpP P M A (k e) Q E s') s) : wpP P M A (tryCatch m k) Q E s := fun Γ p i j => by
  rw [Sem.wp_tryCatch']
  exact Sem.wp_mono M Γ m (fun _ _ _ h' => h') (fun e p' s' h' => h' Γ p' i j) p s (h Γ p i j)
theorem wpP_onRaise {m : Sem α} {k : Value → Sem Unit} {Q : α → Shared → Prop} (h : wpP P M A m Q (fun e s' => wpP P M A (k e) (fun _ s'' => E e s'') E s') s) : wpP P M A (m.onRaise k) Q E s := fun Γ p i j => by
  rw [Sem.wp_onRaise]
  exact Sem.wp_mono M Γ m (fun _ _ _ h' => h') (fun e p' s' h' => h' Γ p' i j) p s (h Γ p i j)
theorem wpP_attempt {m : Sem α} {Q : Except Value α → Shared → Prop} (h : wpP P M A m (fun a => Q (.ok a)) (fun e => Q (.error e)) s) : wpP P M A m.attempt Q E s := fun Γ p i j => by
  rw [Sem.wp_attempt]; exact h Γ p i j
theorem wpP_holding {vs : List Value} {m : Sem α} {Q : α → Shared → Prop} (h : wpP P M A m Q E s) : wpP P M A (holding vs m) Q E s := fun Γ p i j => by
  rw [Sem.wp_holding]; exact h Γ p i j
theorem wpP_keep {vs : List Value} {m : Sem α} {Q : α → Shared → Prop} (h : wpP P M A m Q E s) : wpP P M A (m.keep vs) Q E s := fun Γ p i j => by
  rw [Sem.wp_keep]; exact h Γ p i j
theorem codeP_of {c : Code} {R : Result → Shared → Prop} (h : codeAny M A c R s) : codeP P M A c R s := fun Γ p e b _ => h Γ p e b
theorem codeP_mono {c : Code} {R R' : Result → Shared → Prop} (h : codeP P M A c R s) (hR : ∀ r s, R r s → R' r s) : codeP P M A c R' s := fun Γ p e b k => wpCode_mono hR (h Γ p e b k)
theorem wpP_runValue {c : Code} {Q : Value → Shared → Prop} (h : codeP P M A c (fun r s' => match r with | .ok (.ret v) => Q v s' | .ok _ => False | .error e => E e s') s) : wpP P M A (runValue c) Q E s := fun Γ p i k => by
  rw [Sem.wp_runValue]
  exact h _ p rfl (i.enter c none p (by intro x; cases x)) (by simpa [PySem.Ctx.enter] using k)
theorem wpP_call {f : Value} {pos : List Value} {kw : List (Str × Value)} {Q : Value → Shared → Prop} (h : codeP P M A (.call f ⟨pos, kw⟩) (fun r s' => match r with | .ok (.ret v) => Q v s' | .ok _ => False | .error e => E e s') s) :
    wpP P M A (call f pos kw) Q E s := wpP_runValue h
/-- a code entered: what is known of the stack inside -/
theorem codeP_tree {c : Code} {R : Result → Shared → Prop} (hP : ∀ l, P l → P' (c :: l))
    (h : wpP P' M (A.under c) (M.den c) (fun fin s' => match fin with | .done f => R (.ok f) s' | .again c' => c'.quiet = true ∧ codeP P M A c' R s') (fun e s' => R (.error e) s') s) : codeP P M A c R s := fun Γ p e b k => by
  rw [wpCode_iff_wp, e]
  refine Sem.wp_mono M Γ _ (fun fin p' s' h' => ?_) (fun _ _ _ h' => h') p s (h Γ p (e ▸ b.in) (by subst e; exact hP _ k))
  cases fin with
  | done f => exact h'
  | again c' => exact ⟨h'.1, h'.2 (Γ.goto c') p' rfl (b.goto c') k⟩
/-- a code entered from any stack: what it tells of the stack itself -/
theorem codeAny_tree {c : Code} {R : Result → Shared → Prop} (hP : ∀ l, P' (c :: l))
    (h : wpP P' M (A.under c) (M.den c) (fun fin s' => match fin with | .done f => R (.ok f) s' | .again c' => c'.quiet = true ∧ codeAny M A c' R s') (fun e s' => R (.error e) s') s) : codeAny M A c R s := fun Γ p e b => by
  rw [wpCode_iff_wp, e]
  refine Sem.wp_mono M Γ _ (fun fin p' s' h' => ?_) (fun _ _ _ h' => h') p s (h Γ p (e ▸ b.in) (by subst e; exact hP _))
  cases fin with
  | done f => exact h'
  | again c' => exact ⟨h'.1, h'.2 (Γ.goto c') p' rfl (b.goto c')⟩
/-- no mark of a refusal is made where the stack forbids it -/
theorem wpP_mark {own : List String} {e : Value} {Q : Unit → Shared → Prop} (hq : ∀ l, P l → pythonCodeMadeTheCall own l = false) (h : Q () s) : wpP P M A (markTheRefusal own e) Q E s := fun Γ p _ k => by
  unfold markTheRefusal stack
  rw [Sem.wp_bind']
  rw [Sem.wp_stack]
  have e : pythonCodeMadeTheCall own (((Γ.code, p) :: Γ.below).map (·.1)) = false := hq _ k
  rw [Sem.wp_pure]
  dsimp only
  rw [if_neg (by rw [e]; exact Bool.false_ne_true)]
  exact h
end
section
variable {α : Type} {P : List Code → Prop} {M : Model} {A : Around} {Q : α → Shared → Prop} {E : Value → Shared → Prop} {s : Shared}
theorem wpP_if {c : Prop} [Decidable c] {a b : Sem α} (hc : c) (h : wpP P M A a Q E s) : wpP P M A (if c then a else b) Q E s := by rw [if_pos hc]; exact h
theorem wpP_ifn {c : Prop} [Decidable c] {a b : Sem α} (hc : ¬ c) (h : wpP P M A b Q E s) : wpP P M A (if c then a else b) Q E s := by rw [if_neg hc]; exact h
theorem wpP_off {b : Bool} {x y : Sem α} (hb : b = false) (h : wpP P M A y Q E s) : wpP P M A (if b = true then x else y) Q E s := by rw [hb]; exact h
theorem wpP_on {b : Bool} {x y : Sem α} (hb : b = true) (h : wpP P M A x Q E s) : wpP P M A (if b = true then x else y) Q E s := by rw [hb]; exact h
end
/-- the claim's caller is in the stack -/
def ByCaller (l : List Code) : Prop := l.any Code.isCaller = true
theorem caller_up (c : Code) (l : List Code) (h : ByCaller l) : ByCaller (c :: l) := by unfold ByCaller at *; rw [List.any_cons, h, Bool.or_true]
theorem caller_quiet (own : List String) (l : List Code) (h : ByCaller l) : pythonCodeMadeTheCall own l = false := by
  unfold pythonCodeMadeTheCall
  refine Bool.and_eq_false_iff.mpr (.inl (Bool.and_eq_false_iff.mpr (.inl ?_)))
  have z : _ = true := h
  exact congrArg not z
/-- map's own code lies between the refusal and the frame -/
def isMapNext : Code → Bool
  | .builtin id _ => id == "map.__next__"
  | _ => false
def UnderMap (l : List Code) : Prop := (l.takeWhile (·.env?.isNone)).any isMapNext = true
theorem map_up {c : Code} (l : List Code) (hc : c.env?.isNone = true) (h : UnderMap l) : UnderMap (c :: l) := by
  unfold UnderMap at *
  rw [List.takeWhile_cons, if_pos hc, List.any_cons, h, Bool.or_true]
theorem map_here (args : Args) (l : List Code) : UnderMap (.builtin "map.__next__" args :: l) := by
  unfold UnderMap
  rw [List.takeWhile_cons, if_pos (by rfl), List.any_cons]
  rfl
theorem map_quiet (l : List Code) (h : UnderMap l) : pythonCodeMadeTheCall ["int.__new__"] l = false := by
  obtain ⟨c, hm, hc⟩ := List.any_eq_true.mp h
  unfold pythonCodeMadeTheCall
  refine Bool.and_eq_false_iff.mpr (.inr ?_)
  rw [List.all_eq_false]
  refine ⟨c, hm, ?_⟩
  cases c <;> first | (simp [isMapNext] at hc; done) | skip
  rename_i id a
  have e : id = "map.__next__" := by simpa [isMapNext] using hc
  subst e
  simp
end
section


theorem kq_no (P : Params) : (KQ P).lookup cStatics = none := by kernel_rfl
theorem kq_in {P : Params} {h : Heap} (X : (hd.heap_39 P).In h) : (KQ P).In h := fun a o e => by
  refine X a o ?_
  obtain ⟨p, hp, h2⟩ : ∃ p, hd.heap_39 P = p :: KQ P ∧ p.1 = cStatics := ⟨_, rfl, rfl⟩
  obtain ⟨b, ob⟩ := p
  rw [hp, List.lookup_cons]
  have hne : (a == b) = false := by
    cases q : a == b with
    | false => rfl
    | true =>
      have z : a = cStatics := (beq_iff_eq.mp q).trans h2
      rw [z, kq_no] at e
      cases e
  rw [hne]
  exact e

noncomputable abbrev lo : List Str := looseW hd.view_39 [Str.ofString "_tuplegetter", Str.ofString "Pair"]


/-- what is asked of the statics -/
def Stat (h : Heap) : Prop := ∃ mc, h.Ns cStatics mc ∧ mc (Str.ofString "sys.recursionlimit") = none ∧ mc (Str.ofString "thirdparty.any") = none
theorem Stat.keeps {h h' : Heap} (S : Stat h) (k : ∀ b o, h.get? b = some o → h'.get? b = some o) : Stat h' := let ⟨mc, a, b⟩ := S; ⟨mc, a.keeps k, b⟩
theorem Stat.nolimit {h : Heap} (S : Stat h) : h.NoLimit := let ⟨mc, a, b, _⟩ := S; ⟨mc, a, b⟩

/-- what a call of the def at f gives back, from any frame of a function: `pre` says what the heap bears ahead, `out` what it bears behind -/
noncomputable def Con (w : World) (f : Addr) (args : List Value) (need : Nat) (pre : Heap → Prop) (out : Heap → List (Addr × Obj) → Value → Prop) : Prop :=
  ∀ (mg mb : Str → Option Value) (dp un : Nat) (gd : Option (List Code)) (cn : Str) (cs : Scope) (a : Addr) (ccd : Value) (cl : List (Str × Addr)) (outer : List Env) (A₀ : Around) (base h₀ : Heap) (L : Addr) (m : Str → Option Value) (news : List (Addr × Obj)) (s : Shared)
    (Q E : Value → Shared → Prop),
    Below A₀ base outer h₀ → Stat base → Fr h₀ L s.heap m → (KQ w.params).In h₀ → News h₀ L s.heap news → TopRead hd.view_39 lo mg mb h₀ → Stat h₀ → cs.kind = .function → pre s.heap → dp + need < recursionLimit → un + 8 * need < cLine →
    (∀ r tl h' tk', Fr h₀ L h' m → News h₀ L h' (tl ++ news) → (∀ p ∈ tl, s.heap.get? p.1 = none) → s.heap.StaysIn h' → out h' tl r → Q r { s with heap := h', toks := tk' }) →
    wpAny (model PySem.Challenge.rw_il0122_01.row.prog w) (ktrTop dp un gd cn cs L a ccd cl outer) (call (.ref f) args) Q E s

theorem Con.clean {w : World} {f : Addr} {args : List Value} {need : Nat} {pre : Heap → Prop} {out : Heap → List (Addr × Obj) → Value → Prop}
    (h : ∀ (mg mb : Str → Option Value) (dp un : Nat) (gd : Option (List Code)) (cn : Str) (cs : Scope) (a : Addr) (ccd : Value) (cl : List (Str × Addr)) (outer : List Env) (A₀ : Around) (base h₀ : Heap) (L : Addr) (m : Str → Option Value) (s : Shared)
      (Q E : Value → Shared → Prop),
      Below A₀ base outer h₀ → Stat base → Fr h₀ L s.heap m → (KQ w.params).In h₀ → News h₀ L s.heap [] → TopRead hd.view_39 lo mg mb h₀ → Stat h₀ → cs.kind = .function → pre s.heap → dp + need < recursionLimit → un + 8 * need < cLine →
      (∀ r tl h' tk', Fr h₀ L h' m → News h₀ L h' tl → (∀ p ∈ tl, s.heap.get? p.1 = none) → s.heap.StaysIn h' → out h' tl r → Q r { s with heap := h', toks := tk' }) →
      wpAny (model PySem.Challenge.rw_il0122_01.row.prog w) (ktrTop dp un gd cn cs L a ccd cl outer) (call (.ref f) args) Q E s) : Con w f args need pre out := by
  intro mg mb dp un gd cn cs a ccd cl outer A₀ base h₀ L m news s Q E B Sb F X N T St hk hp hd hu ret
  refine h mg mb dp un gd cn cs a ccd cl outer A₀ base h₀ L m s Q E B Sb F X (fun p hp => nomatch hp) T St hk hp hd hu fun r tl h' tk' F' N' nw st o => ?_
  refine ret r tl h' tk' F' (fun p hp => ?_) nw st o
  rcases List.mem_append.mp hp with q | q
  · exact N' p q
  · exact ⟨st _ _ (N p q).1, (N p q).2⟩

section
variable {prog : Program} {w : World} {A A₀ : Around} {s : Shared} {K : Frag} {L : Addr} {h₀ base : Heap} {m mg mb : Str → Option Value} {p : Program} {loose : List Str}
/-- the def entered with nothing of the ledger hidden: what stood stays -/
theorem code_clean {env : Env} {outer : List Env} {R : Result → Shared → Prop} {name qual : Str} {params : Arguments} {body : List Stmt} {scope : Scope} {dV kV doc pm cdv ct oc : Value} {an od : Option Addr} {osl : Array (Option Value)} {f : Addr} {args : Args} {binds : List (Str × Value)}
    (B : Below A₀ base outer h₀) (F : Fr h₀ L s.heap m) (X₀ : K.In h₀) (T : TopRead p loose mg mb h₀) (St : Stat h₀) (hA : A.frames = some (env :: outer)) (hf : env.frame = some L) (hke : env.scope.kind = .function)
    (ho : K.lookup f = some ⟨oc, od, .func (fnOf name qual params body scope dV kV doc pm an cdv ct), osl⟩) (hcd : codeIn K cdv qual = true) (hroom : A.depth < recursionLimit)
    (hbind : BindsTo s (fnOf name qual params body scope dV kV doc pm an cdv ct) args binds) (hloc : ∀ y ∈ binds, scope.names.lookup y.1 = some .local)
    (h : ∀ L' h₁, Fr h₀ L s.heap m → Fr s.heap L' h₁ (fun y => binds.reverse.lookup y) → News s.heap L' h₁ [] → Below A base (env :: outer) s.heap → K.In s.heap → TopRead p loose mg mb s.heap → Stat s.heap →
      wpAny (model prog w) (A.deeper (envOf qual scope L' f cdv)) (execs body (envOf qual scope L' f cdv))
        (fun fl s' => LeaveK h₀ L m s.heap R (match fl with | .ret v => v | _ => .none) s')
        (fun e s' => wpAny (model prog w) (A.deeper (envOf qual scope L' f cdv)) (leaving (envOf qual scope L' f cdv) e) (fun _ s'' => R (.error e) s'') (fun e' s'' => R (.error e') s'') s')
        { s with heap := h₁, toks := s.toks + binds.length })
    (hco : scope.isCoroutine = false) (hgen : scope.isGenerator = false) (hk : scope.kind = .function)
    (hcell : ∀ x ∈ scope.names, x.2 ≠ .cell) : codeAny (model prog w) A (.call (.ref f) args) R s := by
  refine codeAny_call_def (fd := fnOf name qual params body scope dV kV doc pm an cdv ct) (body := body) (binds := binds) hroom ((X₀.keeps F.keep) _ _ ho) rfl (T.nolimit.keeps F.keep) (codeRec_of (X₀.keeps F.keep) hcd) rfl hbind hcell hloc (fun h₁ hns hk₁ => ?_) hco hgen hk
  have B₁ : Below A base (env :: outer) s.heap := by
    have q := pushX B F hf hke
    exact ⟨hA, q.stays, q.frames⟩
  refine wpAny_mono (h s.heap.objs.size h₁ F ⟨hns, hk₁, Nat.le_refl _⟩ (fun p hp => nomatch hp) B₁ (X₀.keeps F.keep) (T.keeps F.keep) (St.keeps F.keep)) (fun fl s' hl => ?_) fun _ _ y => y
  obtain ⟨oL, es, ep, hL, hLd, hLk, hLf⟩ := F.ns
  obtain ⟨L', m', news', F', N', k⟩ := hl
  refine k ⟨⟨oL, es, ep, F'.keep L oL hL, hLd, hLk, hLf⟩, fun b o e => F'.keep b o (F.keep b o e), F.above⟩ fun p hp => ⟨(N' p hp).1, fun q => ?_, ?_⟩
  · have := (N' p hp).2.2; rw [q, hL] at this; cases this
  · cases q : h₀.get? p.1 with
    | none => rfl
    | some o => have := (N' p hp).2.2; rw [F.keep _ _ q] at this; cases this
/-- the def entered, its end left to the caller -/
theorem code_raw {env : Env} {outer : List Env} {R : Result → Shared → Prop} {name qual : Str} {params : Arguments} {body : List Stmt} {scope : Scope} {dV kV doc pm cdv ct oc : Value} {an od : Option Addr} {osl : Array (Option Value)} {f : Addr} {args : Args} {binds : List (Str × Value)}
    (B : Below A₀ base outer h₀) (F : Fr h₀ L s.heap m) (X₀ : K.In h₀) (T : TopRead p loose mg mb h₀) (St : Stat h₀) (hA : A.frames = some (env :: outer)) (hf : env.frame = some L) (hke : env.scope.kind = .function)
    (ho : K.lookup f = some ⟨oc, od, .func (fnOf name qual params body scope dV kV doc pm an cdv ct), osl⟩) (hcd : codeIn K cdv qual = true) (hroom : A.depth < recursionLimit)
    (hbind : BindsTo s (fnOf name qual params body scope dV kV doc pm an cdv ct) args binds) (hloc : ∀ y ∈ binds, scope.names.lookup y.1 = some .local)
    (h : ∀ L' h₁, Fr h₀ L s.heap m → Fr s.heap L' h₁ (fun y => binds.reverse.lookup y) → News s.heap L' h₁ [] → Below A base (env :: outer) s.heap → K.In s.heap → TopRead p loose mg mb s.heap → Stat s.heap →
      wpAny (model prog w) (A.deeper (envOf qual scope L' f cdv)) (execs body (envOf qual scope L' f cdv))
        (fun fl s' => R (.ok (.ret (match fl with | .ret v => v | _ => .none))) s')
        (fun e s' => wpAny (model prog w) (A.deeper (envOf qual scope L' f cdv)) (leaving (envOf qual scope L' f cdv) e) (fun _ s'' => R (.error e) s'') (fun e' s'' => R (.error e') s'') s')
        { s with heap := h₁, toks := s.toks + binds.length })
    (hco : scope.isCoroutine = false) (hgen : scope.isGenerator = false) (hk : scope.kind = .function)
    (hcell : ∀ x ∈ scope.names, x.2 ≠ .cell) : codeAny (model prog w) A (.call (.ref f) args) R s := by
  refine codeAny_call_def (fd := fnOf name qual params body scope dV kV doc pm an cdv ct) (body := body) (binds := binds) hroom ((X₀.keeps F.keep) _ _ ho) rfl (T.nolimit.keeps F.keep) (codeRec_of (X₀.keeps F.keep) hcd) rfl hbind hcell hloc (fun h₁ hns hk₁ => ?_) hco hgen hk
  have B₁ : Below A base (env :: outer) s.heap := by
    have q := pushX B F hf hke
    exact ⟨hA, q.stays, q.frames⟩
  exact h s.heap.objs.size h₁ F ⟨hns, hk₁, Nat.le_refl _⟩ (fun p hp => nomatch hp) B₁ (X₀.keeps F.keep) (T.keeps F.keep) (St.keeps F.keep)
end

theorem Con.use {w : World} {f : Addr} {args : List Value} {need : Nat} {pre : Heap → Prop} {out : Heap → List (Addr × Obj) → Value → Prop} (C : Con w f args need pre out)
    {mg mb : Str → Option Value} {dp un : Nat} {gd : Option (List Code)} {cn : Str} {cs : Scope} {a : Addr} {ccd : Value} {cl : List (Str × Addr)} {outer : List Env} {A₀ : Around} {base h₀ : Heap} {L : Addr} {m : Str → Option Value} {news : List (Addr × Obj)} {s : Shared}
    {Q E : Value → Shared → Prop}
    (B : Below A₀ base outer h₀) (Sb : Stat base) (F : Fr h₀ L s.heap m) (X : (KQ w.params).In h₀) (N : News h₀ L s.heap news) (T : TopRead hd.view_39 lo mg mb h₀) (St : Stat h₀) (hk : cs.kind = .function) (hp : pre s.heap) (hd : dp + need < recursionLimit) (hu : un + 8 * need < cLine)
    (ret : ∀ r tl h' tk', Fr h₀ L h' m → News h₀ L h' (tl ++ news) → (∀ p ∈ tl, s.heap.get? p.1 = none) → s.heap.StaysIn h' → out h' tl r → Q r { s with heap := h', toks := tk' }) :
    wpAny (model PySem.Challenge.rw_il0122_01.row.prog w) (ktrTop dp un gd cn cs L a ccd cl outer) (call (.ref f) args) Q E s :=
  C _ _ _ _ _ _ _ _ _ _ _ _ _ _ _ _ _ _ _ _ B Sb F X N T St hk hp hd hu ret

/-- the value handed back, nothing made that is told of -/
theorem ret_plain {h₀ h' : Heap} {L : Addr} {m : Str → Option Value} {s : Shared} {Q : Value → Shared → Prop} {out : Heap → List (Addr × Obj) → Value → Prop} {v : Value} {tk' : Nat}
    (hret : ∀ r tl h' tk', Fr h₀ L h' m → News h₀ L h' tl → (∀ p ∈ tl, s.heap.get? p.1 = none) → s.heap.StaysIn h' → out h' tl r → Q r { s with heap := h', toks := tk' })
    (F : Fr h₀ L h' m) (st : s.heap.StaysIn h') (o : out h' [] v) : Q v { s with heap := h', toks := tk' } :=
  hret v [] h' tk' F (fun _ hp => nomatch hp) (fun _ hp => nomatch hp) st o
theorem stays_fr {g h : Heap} {L : Addr} {m : Str → Option Value} (F : Fr g L h m) : g.StaysIn h := F.keep
/-- where a walk is held -/
structure Held (P : Prop) : Prop where
  out : P
end
section

namespace MF
theorem owner_map : Manifest.owners.lookup (String.ofList ['p', 'a', 'm'].reverse) = some Manifest.sig_map := by kernel_rfl
theorem slot_map_iter : Slot "map" "__iter__" "map.__iter__" :=
  .of (owner := "map") (n := "__iter__") (by rw [typeLookup_type, builtinLookup_eq_fast]; kernel_rfl) (by decide +kernel) (by decide +kernel) (by decide +kernel)
    (by first | exact .inl (by decide +kernel) | exact .inr (by decide +kernel)) (by rw [isSubtype_type]; kernel_rfl)
theorem slot_map_next : Slot "map" "__next__" "map.__next__" :=
  .of (owner := "map") (n := "__next__") (by rw [typeLookup_type, builtinLookup_eq_fast]; kernel_rfl) (by decide +kernel) (by decide +kernel) (by decide +kernel)
    (by first | exact .inl (by decide +kernel) | exact .inr (by decide +kernel)) (by rw [isSubtype_type]; kernel_rfl)
theorem slot_map_init : Slot "map" "__init__" "object.__init__" :=
  .of (owner := "object") (n := "__init__") (by rw [typeLookup_type, builtinLookup_eq_fast]; kernel_rfl) (by decide +kernel) (by decide +kernel) (by decide +kernel)
    (by first | exact .inl (by decide +kernel) | exact .inr (by decide +kernel)) (by rw [isSubtype_type]; kernel_rfl)
theorem entry_map_next : entryFor table "map.__next__" = some Builtin.«map.__next__» := entryFor_of_tree (by kernel_rfl)
theorem entry_map_new : entryFor table "map.__new__" = some Builtin.«map.__new__» := entryFor_of_tree (by kernel_rfl)
theorem entry_map_iter : entryFor table "map.__iter__" = some Builtin.«dict_keyiterator.__iter__» :=
  entryFor_alias (id' := "dict_keyiterator.__iter__") (by kernel_rfl) (by first | rfl | decide +kernel | (unfold String.splitOn; simp +decide [String.splitOnAux])) (by decide +kernel) (by kernel_rfl)
theorem args_map_next_1 (a : Value) : argsOk "map.__next__" ⟨[a], []⟩ := by
  unfold argsOk; rw [signature?_of (id := "map.__next__") (n := ['_', '_', 't', 'x', 'e', 'n', '_', '_']) (o := ['p', 'a', 'm']) (by kernel_rfl) owner_map]; kernel_rfl
theorem args_map_iter_1 (a : Value) : argsOk "map.__iter__" ⟨[a], []⟩ := by
  unfold argsOk; rw [signature?_of (id := "map.__iter__") (n := ['_', '_', 'r', 'e', 't', 'i', '_', '_']) (o := ['p', 'a', 'm']) (by kernel_rfl) owner_map]; kernel_rfl
theorem mro_map : mroOf (.type "map") = pure [.type "map", .type "object"] := by rw [mroOf_type]; kernel_rfl
theorem lookup_map_new : typeLookup (.type "map") "__new__" = pure (some (.builtin "map.__new__")) := by rw [typeLookup_type, builtinLookup_eq_fast]; kernel_rfl
theorem sub_map : isSubtype (.type "map") (.type "map") = pure true := by rw [isSubtype_type]; kernel_rfl
theorem called_map : TypeCalled "map" "map.__new__" "object.__init__" :=
  ⟨by decide +kernel, by decide +kernel, ⟨_, _, mro_map⟩, madeBy_type mro_map lookup_map_new (by decide +kernel), by decide +kernel, sub_map, slot_map_init⟩
theorem typeCall_map_2 (a b : Value) : checkTypeCall "map" ⟨[a, b], []⟩ = pure () := by kernel_rfl
theorem newCall_map_2 (a b : Value) : checkBuiltinCall "map.__new__" ⟨[.type "map", a, b], []⟩ = pure () := by kernel_rfl
theorem map_no_len : typeLookup (.type "map") "__len__" = pure none := by rw [typeLookup_type, builtinLookup_eq_fast]; kernel_rfl
theorem map_no_hint : typeLookup (.type "map") "__length_hint__" = pure none := by rw [typeLookup_type, builtinLookup_eq_fast]; kernel_rfl
end MF
abbrev mapObj (T : Addr) (f : Value) : Obj := { cls := .type "map", dict := none, data := .fields #[.ref T, f], slots := #[] }
abbrev oneObj (it : Addr) : Obj := { cls := .type "tuple", data := .seq #[.ref it] }
abbrev iterObj (l : Addr) (i : Nat) : Obj := { cls := .type "list_iterator", data := .fields #[.ref l, .int i 0] }
abbrev mapH1 (h : Heap) (l : Addr) : Heap := h.push (iterObj l 0)
abbrev mapH2 (h : Heap) (l : Addr) : Heap := (mapH1 h l).push (oneObj h.objs.size)
abbrev mapH3 (h : Heap) (l : Addr) (f : Value) : Heap := (mapH2 h l).push (mapObj (mapH1 h l).objs.size f)

theorem meets_map_new (l : Addr) (f : Value) (xs : Array Value) :
    Meets (Builtin.«map.__new__» ⟨[.type "map", f, .ref l], []⟩) (fun _ R s => s.heap.IsList l xs ∧
      R (.ok (.ret (.ref (mapH2 s.heap l).objs.size))) { s with heap := mapH3 s.heap l f }) :=
  .of_wp fun prog w A R s h => by
    obtain ⟨hp, g, d, tk, os⟩ := s; obtain ⟨hl1, h⟩ := h
    have hsub := MF.sub_map
    have hL1 : Heap.IsList (Shared.heap ⟨hp, g, d, tk, os⟩) l xs := hl1
    wp_walk using wpAny_pyIter_list hL1
    exact ⟨_, rfl, h⟩
section
variable {prog : Program} {w : World} {A : Around} {E : Value → Shared → Prop} {s : Shared} {h₀ : Heap} {L : Addr} {m : Str → Option Value} {news : List (Addr × Obj)}
/-- map(f, l): three new objects -/
theorem call_map {l : Addr} {f : Value} {xs : Array Value} {Q : Value → Shared → Prop} (F : Fr h₀ L s.heap m) (N : News h₀ L s.heap news) (hl : s.heap.IsList l xs)
    (h : ∀ M T it h', Fr h₀ L h' m → News h₀ L h' ((M, mapObj T f) :: (T, oneObj it) :: (it, iterObj l 0) :: news) → it < T → T < M → (∀ p ∈ news, p.1 < it) → l < it → h'.IsList l xs → Q (.ref M) { s with heap := h' }) :
    wpAny (model prog w) A (call (.type "map") [f, .ref l]) Q E s := by
  refine callType_new MF.called_map (by decide) (MF.typeCall_map_2 _ _) (MF.newCall_map_2 _ _) (fun obj => PySem.F.args_object_init_3 obj _ _) MF.entry_map_new
    (meets_map_new l f xs) ⟨hl, ?_⟩
  have z1 : (mapH1 s.heap l).objs.size = s.heap.objs.size + 1 := Heap.size_push ..
  have z2 : (mapH2 s.heap l).objs.size = s.heap.objs.size + 2 := by rw [Heap.size_push, z1]
  have N1 := N.push F (iterObj l 0)
  have N2 := N1.push (F.push _) (oneObj s.heap.objs.size)
  have N3 := N2.push ((F.push _).push _) (mapObj (mapH1 s.heap l).objs.size f)
  show _ ∧ _
  refine ⟨⟨_, (N3 _ (.head _)).1, rfl⟩, h _ _ _ _ (((F.push _).push _).push _) N3 ?_ ?_ (fun p hp => Heap.lt_size (N p hp).1) ?_ (((hl.push _).push _).push _)⟩
  · rw [z1]; exact Nat.lt_succ_self _
  · rw [z1, z2]; exact Nat.lt_succ_self _
  · obtain ⟨o, ho, _⟩ := hl; exact Heap.lt_size ho
end
section
variable {prog : Program} {w : World} {A : Around} {E : Value → Shared → Prop} {s : Shared} {h₀ : Heap} {L : Addr} {m : Str → Option Value} {news : List (Addr × Obj)}
theorem map_next_item {M T it l : Addr} {i : Nat} {items : Array Value} {f x : Value} {Q : Value → Shared → Prop}
    (hM : s.heap.get? M = some (mapObj T f)) (hT : s.heap.get? T = some (oneObj it)) (hit : s.heap.IsListIter it l i) (hl : s.heap.IsList l items) (hx : items[i]? = some x) (hMi : M ≠ it) (_hTi : T ≠ it)
    (h : ∀ h', h'.IsListIter it l (i + 1) → Heap.SameBut it s.heap h' → wpAny (model prog w) A (call f [x]) Q E { s with heap := h' }) :
    wpAny (model prog w) A (Builtin.«map.__next__» ⟨[.ref M], []⟩) (fun fin s' => ∃ v, fin = .done (.ret v) ∧ Q v s') E s := by
  show wpAny _ _ (field (.ref M) 0 >>= _) _ _ s
  refine wpAny_bind (wpAny_field hM rfl (x := .ref T) rfl ?_)
  show wpAny _ _ (seqItems? (.ref T) >>= _) _ _ s
  refine wpAny_bind (wpAny_seqItems hT rfl ?_)
  simp only [List.forIn_toArray, List.forIn_cons, List.forIn_nil]
  refine wpAny_bind (wpAny_bind (wpAny_bind (wpAny_holding ?_)))
  refine wpAny_nextOf_list_item hit hl hx fun h₁ hit₁ hs₁ => wpAny_pure (wpAny_pure ?_)
  refine wpAny_bind (wpAny_field ((hs₁.2 M hMi).trans hM) rfl (x := f) rfl ?_)
  refine wpAny_bind (wpAny_holding ?_)
  refine wpAny_mono (h h₁ hit₁ hs₁) (fun v s' hv => ?_) fun _ _ z => z
  exact wpAny_bind (wpAny_letGo (wpAny_pure ⟨_, rfl, hv⟩))
theorem map_next_end {M T it l : Addr} {i : Nat} {items : Array Value} {f : Value} {Q : Fin → Shared → Prop} (hh : A.handled = none)
    (hM : s.heap.get? M = some (mapObj T f)) (hT : s.heap.get? T = some (oneObj it)) (hit : s.heap.IsListIter it l i) (hl : s.heap.IsList l items) (hx : items[i]? = none)
    (hE : ∀ h' e, Heap.ExtBut it s.heap h' → (∃ o, h'.get? e = some o ∧ o.cls = .type "StopIteration") → E (.ref e) { s with heap := h' }) :
    wpAny (model prog w) A (Builtin.«map.__next__» ⟨[.ref M], []⟩) Q E s := by
  show wpAny _ _ (field (.ref M) 0 >>= _) _ _ s
  refine wpAny_bind (wpAny_field hM rfl (x := .ref T) rfl ?_)
  show wpAny _ _ (seqItems? (.ref T) >>= _) _ _ s
  refine wpAny_bind (wpAny_seqItems hT rfl ?_)
  simp only [List.forIn_toArray, List.forIn_cons, List.forIn_nil]
  refine wpAny_bind (wpAny_bind (wpAny_bind (wpAny_holding ?_)))
  exact wpAny_nextOf_list_end hh hit hl hx hE
theorem pyNext_map_item {M T it l : Addr} {i : Nat} {items : Array Value} {f x : Value} {Q : Option Value → Shared → Prop}
    (hM : s.heap.get? M = some (mapObj T f)) (hT : s.heap.get? T = some (oneObj it)) (hit : s.heap.IsListIter it l i) (hl : s.heap.IsList l items) (hx : items[i]? = some x) (hMi : M ≠ it) (hTi : T ≠ it)
    (h : ∀ h', h'.IsListIter it l (i + 1) → Heap.SameBut it s.heap h' → wpAny (model prog w) A.in1 (call f [x]) (fun v => Q (some v))
      (fun e s' => wpAny (model prog w) A (do if ← isInstance e (.type "StopIteration") then pure none else throw e) Q E s') { s with heap := h' }) :
    wpAny (model prog w) A (pyNext (.ref M)) Q E s := by
  have hTy : s.TypeIs (.ref M) "map" := ⟨_, hM, rfl⟩
  unfold pyNext
  refine wpAny_bind (wpAny_attempt (wpAny_callSpecial?_slot (name := Str.ofString "__next__") hTy MF.slot_map_next
    (wpAny_call_entry MF.slot_map_next hTy MF.entry_map_next
      (wpAny_mono (map_next_item hM hT hit hl hx hMi hTi fun h' a b => h h' a b) (fun fin s' ⟨v, e, q⟩ => ⟨v, e, wpAny_pure q⟩) fun _ _ z => z) (MF.args_map_next_1 _))))
theorem pyNext_map_end {M T it l : Addr} {i : Nat} {items : Array Value} {f : Value} {Q : Option Value → Shared → Prop} (hh : A.handled = none)
    (hM : s.heap.get? M = some (mapObj T f)) (hT : s.heap.get? T = some (oneObj it)) (hit : s.heap.IsListIter it l i) (hl : s.heap.IsList l items) (hx : items[i]? = none)
    (hQ : ∀ h', Heap.ExtBut it s.heap h' → Q none { s with heap := h' }) : wpAny (model prog w) A (pyNext (.ref M)) Q E s := by
  have hTy : s.TypeIs (.ref M) "map" := ⟨_, hM, rfl⟩
  unfold pyNext
  refine wpAny_bind (wpAny_attempt (wpAny_callSpecial?_slot (name := Str.ofString "__next__") hTy MF.slot_map_next
    (wpAny_call_entry MF.slot_map_next hTy MF.entry_map_next (map_next_end hh hM hT hit hl hx fun h' x he' hx' => ?_) (MF.args_map_next_1 _))))
  obtain ⟨o, ho, hc⟩ := hx'
  refine wpAny_bind (wpAny_isInstance (T := "StopIteration") (b := true) ⟨o, ho, hc⟩ isSubtype_stop ?_)
  exact wpAny_pure (hQ _ he')
theorem pyIter_map {M T : Addr} {f : Value} {Q : Value → Shared → Prop} (hM : s.heap.get? M = some (mapObj T f)) (h : Q (.ref M) s) : wpAny (model prog w) A (pyIter (.ref M)) Q E s := by
  have hT : s.TypeIs (.ref M) "map" := ⟨_, hM, rfl⟩
  refine wpAny_pyIter_slot hT MF.slot_map_iter (wpAny_call_entry MF.slot_map_iter hT MF.entry_map_iter ?_ (MF.args_map_iter_1 _))
  show wpAny _ _ (ret (.ref M)) _ _ s
  exact wpAny_pure ⟨_, rfl, "map", _, hT, MF.slot_map_next.lookup, h⟩
end
end
section

section
variable {prog : Program} {w : World} {A : Around} {E : Value → Shared → Prop} {s : Shared} {h₀ : Heap} {L : Addr} {m : Str → Option Value} {news : List (Addr × Obj)}
def MapAt (M T it l : Addr) (f : Value) (items : Array Value) (i : Nat) (s : Shared) : Prop :=
  s.heap.get? M = some (mapObj T f) ∧ s.heap.get? T = some (oneObj it) ∧ s.heap.IsListIter it l i ∧ s.heap.IsList l items
theorem walks_strip {M T it l : Addr} {items : List Value} {xs : List Str} (hh : A.handled = none) (hMi : M ≠ it) (hTi : T ≠ it) (hli : l ≠ it)
    (hi : StrsAre items xs) (hz : ∀ x ∈ xs, x.length ≤ sizeLine) :
    WalksS prog w A M [M, T, it, l] [it] (fun a b => a = b) xs.length (fun i v => ∃ x t, xs[i]? = some x ∧ v = .str (Txt.strip x) t) (MapAt M T it l (.builtin "str.strip") items.toArray) where
  sub := fun b hb => by simp at hb; simp [hb]
  grefl := fun _ => rfl
  gtrans := fun _ _ _ a b => a.trans b
  frame := fun i s h' tk ⟨h1, h2, h3, h4⟩ _ hk => ⟨hk M (by simp) _ h1, hk T (by simp) _ h2, h3.at fun o e => hk it (by simp) o e, h4.at fun o e => hk l (by simp) o e⟩
  item := fun i s Q E hlt ⟨h1, h2, h3, h4⟩ hQ => by
    have hx : xs[i]? = some xs[i] := by simp [hlt]
    obtain ⟨t, ht⟩ := hi.get i xs[i] hx
    refine pyNext_map_item h1 h2 h3 h4 (x := .str xs[i] t) (by simpa using ht) hMi hTi fun h' hit' hs' => ?_
    refine wpAny_with_toks (n := s.toks) (Nat.le_refl _) ?_
    refine SC.strip (fun t' k hk => ?_) (hz _ (List.getElem_mem hlt))
    refine hQ _ _ ⟨_, _, hx, rfl⟩ ⟨(hs'.2 M hMi).trans h1, (hs'.2 T hTi).trans h2, hit', h4.extBut hs'.extBut hli⟩ ⟨fun b o hb e => hs'.extBut b o (fun q => hb (by simp [q])) e, rfl, rfl, rfl, hk⟩
  done := fun s Q E ⟨h1, h2, h3, h4⟩ hQ => by
    refine pyNext_map_end hh h1 h2 h3 h4 (by simp [hi.length]) fun h' he => hQ _ ⟨fun b o hb e => he b o (fun q => hb (by simp [q])) e, rfl, rfl, rfl, Nat.le_refl _⟩
  self := fun i s Q E ⟨h1, _⟩ hQ => pyIter_map h1 hQ

theorem collect_map {I : Addr} {fp wr : List Addr} {G : Array GenState → Array GenState → Prop} {n : Nat} {P : Nat → Value → Prop} {St : Nat → Shared → Prop} {Q : List Value → Shared → Prop}
    (W : WalksS prog w A.in1 I fp wr G n P St) (hT : ∀ i s, St i s → s.TypeIs (.ref I) "map") (hst : St 0 s) (hfp : ∀ b ∈ fp, b < s.heap.objs.size) (hI : I ∈ fp)
    (hQ : ∀ s' acc, Moved wr G s s' → ItemsOf P acc n → Q acc.toList s') (hn : n ≤ sizeLine) : wpAny (model prog w) A (collect (.ref I)) Q E s := by
  have hSf : s.heap.objs.size ∉ fp := fun hm => Nat.lt_irrefl _ (hfp _ hm)
  have hSI : s.heap.objs.size ≠ I := fun e => hSf (e ▸ hI)
  unfold collect
  refine wpAny_bind (wpAny_runValue (codeAny_builtin PySem.F.entry_proto_collect ?_))
  rw [Around.under_plainId PySem.F.plain_proto_collect _]
  show wpAny _ A.in1 (newList [] >>= fun l => again (.builtin "list.__iadd__" ⟨[l, .ref I], []⟩)) _ _ s
  refine wpAny_bind (wpAny_newObj_type ?_)
  refine wpAny_pure ⟨plainId_quiet PySem.F.plain_list_iadd _, codeAny_builtin PySem.F.entry_list_iadd ?_⟩
  rw [Around.under_plainId PySem.F.plain_list_iadd _]
  have hst₁ := W.frame 0 s (s.heap.push { cls := .type "list", data := .seq ([] : List Value).toArray }) s.toks hst (Nat.le_refl _) fun b _ o e => Heap.get?_push_of_some _ e
  show wpAny _ A.in1 (Builtin.List.listExtendWith (.ref s.heap.objs.size) (.ref I) (.ref s.heap.objs.size)) _ _ _
  unfold Builtin.List.listExtendWith
  refine wpAny_bind (wpAny_typeOf (hT 0 _ hst₁) ?_)
  have h1 : Builtin.List.listSameRef (.ref s.heap.objs.size) (.ref I) = false := by simp [Builtin.List.listSameRef, hSI]
  have h2 : (Value.type "map" == Value.type "list") = false := by decide
  have h3 : (Value.type "map" == Value.type "tuple") = false := by decide
  simp only [h1, h2, h3, Bool.or_false, Bool.false_eq_true, if_false]
  refine wpAny_bind (W.self 0 _ _ _ hst₁ ?_)
  refine wpAny_bind (wpAny_holding ?_)
  unfold Builtin.List.listLengthHint
  refine wpAny_bind (wpAny_specialOf (hT 0 _ hst₁) MF.map_no_len ?_)
  show wpAny _ A.in1 (specialOf (Value.ref I) (Str.ofString "__length_hint__") >>= _) _ _ _
  refine wpAny_bind (wpAny_specialOf (hT 0 _ hst₁) MF.map_no_hint ?_)
  refine wpAny_pure ?_
  show wpAny _ A.in1 (rule "list.extend.makes-room" >>= fun _ => Builtin.List.listTouch (.ref s.heap.objs.size) >>= fun _ =>
    again (.builtin "list.extend.loop" ⟨[.ref s.heap.objs.size, .ref I, .ref s.heap.objs.size], []⟩)) _ _ _
  refine wpAny_bind (wpAny_rule ?_)
  have hS₁ : (s.heap.push { cls := .type "list", data := .seq ([] : List Value).toArray }).get? s.heap.objs.size = some { cls := .type "list", data := .seq ([] : List Value).toArray } := Heap.get?_push_size _ rfl
  refine wpAny_bind ?_
  show wpAny _ A.in1 (updateSeq s.heap.objs.size (·.push .none) >>= fun _ => updateSeq s.heap.objs.size (·.pop)) _ _ _
  refine wpAny_bind (wpAny_updateSeq hS₁ rfl ?_)
  have hS₂ := Heap.get?_update_self (Obj.mapSeq (·.push Value.none)) hS₁ rfl
  refine wpAny_updateSeq hS₂ rfl ?_
  have hS₃ := Heap.get?_update_self (Obj.mapSeq (·.pop)) hS₂ rfl
  have oth : ∀ b o, b ≠ s.heap.objs.size → (s.heap.push { cls := .type "list", data := .seq ([] : List Value).toArray }).get? b = some o →
      (((s.heap.push { cls := .type "list", data := .seq ([] : List Value).toArray }).update s.heap.objs.size (Obj.mapSeq (·.push Value.none))).update s.heap.objs.size (Obj.mapSeq (·.pop))).get? b = some o :=
    fun b o hb e => (Heap.get?_update_other _ _ (Ne.symm hb)).trans ((Heap.get?_update_other _ _ (Ne.symm hb)).trans e)
  refine wpAny_pure ⟨plainId_quiet PySem.F.plain_extend_loop _, codeAny_extend_loopS W hn _ hSf _ n 0 _ _ _ rfl (Nat.zero_le _)
    (W.frame 0 ({ s with heap := s.heap.push { cls := .type "list", data := .seq ([] : List Value).toArray } } : Shared) _ s.toks hst₁ (Nat.le_refl _) fun b hb o e => oth b o (fun h => hSf (h ▸ hb)) e) hS₃ (ItemsOf.nil P) fun s' acc' c' hm hS' hacc => ?_⟩
  show wpAny _ A (load s.heap.objs.size >>= _) _ _ s'
  refine wpAny_bind (wpAny_load hS' ?_)
  refine wpAny_pure (hQ s' acc' (Moved.drop_new (o := { cls := .type "list", data := .seq ([] : List Value).toArray }) (tk := s.toks) (Moved.trans W.gtrans ((Moved.refl W.grefl).then_heap (by first | exact Nat.le_refl _ | exact Nat.le_succ _ | omega) fun b o hb e => ?_) hm) (Nat.le_refl _)) hacc)
  exact oth b o (fun h => hb (h ▸ List.mem_cons_self)) e

theorem moved_fr {wr : List Addr} {G : Array GenState → Array GenState → Prop} {s s' : Shared} (M : Moved wr G s s') (F : Fr h₀ L s.heap m) (hw : ∀ b ∈ wr, b ≠ L ∧ h₀.get? b = none) : Fr h₀ L s'.heap m := by
  obtain ⟨oL, es, ep, hL, r⟩ := F.ns
  exact ⟨⟨oL, es, ep, M.heap L oL (fun q => (hw L q).1 rfl) hL, r⟩, fun b o e => M.heap b o (fun q => by rw [(hw b q).2] at e; cases e) (F.keep b o e), F.above⟩
theorem strs_of_items {xs : List Str} {g : Str → Str} : ∀ {vs : List Value}, vs.length = xs.length → (∀ (j : Nat) (v : Value), vs[j]? = some v → ∃ x t, xs[j]? = some x ∧ v = Value.str (g x) t) → StrsAre vs (xs.map g) := by
  induction xs with
  | nil => intro vs hl _; rw [List.length_eq_zero_iff.mp hl]; exact .nil
  | cons x r ih =>
    intro vs hl h
    match vs, hl with
    | v :: vs', hl =>
      obtain ⟨y, t, hy, rfl⟩ := h 0 v rfl
      obtain rfl : x = y := by simpa using hy
      exact .cons _ _ (ih (by simpa using hl) fun j v' hv => by simpa using h (j + 1) v' (by simpa using hv))
/-- *map(str.strip, l): the stripped texts -/
theorem star_strip {M T it l : Addr} {items : List Value} {xs : List Str} {Q : List Value → Shared → Prop} (hh : A.handled = none) (F : Fr h₀ L s.heap m)
    (N : News h₀ L s.heap ((M, mapObj T (.builtin "str.strip")) :: (T, oneObj it) :: (it, iterObj l 0) :: news)) (hi : StrsAre items xs) (hz : ∀ x ∈ xs, x.length ≤ sizeLine) (hn : xs.length ≤ sizeLine) (hl : s.heap.IsList l items.toArray)
    (h1 : it < T) (h2 : T < M) (h3 : l < it) (h4 : ∀ p ∈ news, p.1 < it)
    (h : ∀ vs h' tk, StrsAre vs (xs.map Txt.strip) → Fr h₀ L h' m → News h₀ L h' news → Q vs { s with heap := h', toks := tk }) :
    StarOf (model prog w) A E (.ref M) Q s := by
  have a1 := (N _ (.head _)).1
  have a2 := (N _ (.tail _ (.head _))).1
  have a3 := N _ (.tail _ (.tail _ (.head _)))
  have hTy : s.TypeIs (.ref M) "map" := ⟨_, a1, rfl⟩
  unfold StarOf notIterableAtAll
  refine wpAny_bind (wpAny_specialOf hTy MF.slot_map_iter.lookup (wpAny_pure ⟨rfl, ?_⟩))
  refine collect_map (walks_strip (l := l) (M := M) (T := T) (it := it) hh (Nat.ne_of_gt (Nat.lt_trans h1 h2)) (Nat.ne_of_gt h1) (Nat.ne_of_lt h3) hi hz) (fun i s ⟨q, _⟩ => ⟨_, q, rfl⟩)
    ⟨a1, a2, ⟨_, a3.1, rfl, rfl⟩, hl⟩ ?_ (by simp) ?_ hn
  · have g1 := Heap.lt_size a1
    intro b hb
    simp only [List.mem_cons, List.not_mem_nil, or_false] at hb
    have h1 := ltN h1; have h2 := ltN h2; have h3 := ltN h3; have g1 := ltN g1
    rcases hb with rfl | rfl | rfl | rfl
    · exact g1
    · exact Nat.lt_trans h2 g1
    · exact Nat.lt_trans h1 (Nat.lt_trans h2 g1)
    · exact Nat.lt_trans h3 (Nat.lt_trans h1 (Nat.lt_trans h2 g1))
  · intro s' acc hm hacc
    obtain ⟨h', g', d', tk', os'⟩ := s'
    obtain rfl : s.gens = g' := hm.gens
    obtain rfl : d' = s.drawn := hm.drawn
    obtain rfl : os' = s.os := hm.os
    refine h acc.toList h' tk' (strs_of_items (by simpa using hacc.1) fun j v hv => hacc.2 j v (by simpa using hv)) (moved_fr hm F fun b hb => ?_) fun p hp => ?_
    · simp only [List.mem_singleton] at hb; subst hb; exact a3.2
    · have q := N p (.tail _ (.tail _ (.tail _ hp)))
      exact ⟨hm.heap _ _ (fun z => absurd (h4 p hp) (by rw [List.mem_singleton.mp z]; exact Nat.lt_irrefl _)) q.1, q.2⟩
end
end
section
section
variable {w : World} {A A₀ : Around} {E : Value → Shared → Prop} {s : Shared} {h₀ : Heap} {L : Addr} {m : Str → Option Value} {news : List (Addr × Obj)} {mc : Value} {name : Str} {C : Addr} {K : Frag} {prog : Program}

theorem looks_statics {M : Model} {h : Heap} (St : Stat h) : Looks M h (nsGet cStatics (Str.ofString "thirdparty.any")) none := by
  obtain ⟨m, hm, _, h2⟩ := St
  intro A Q E s k q
  exact wpAny_nsGet (hm.keeps k) (by rw [h2]; exact q)
theorem looks_opaque' {M : Model} {h : Heap} {C : Addr} (St : Stat h) : Looks M h (opaqueClassAbove (.ref C)) none :=
  Looks.andThen (a := false) ((looks_statics St).andThen .now) (by show Looks M h (if (!false) = true then pure none else _) none; rw [if_pos (show (!false) = true from rfl)]; exact .now)

theorem cls_bind' {g a obj tp : Value} {expr : Bool} {Q : Value → Shared → Prop} (X : K.In s.heap) (St : Stat s.heap) (b : typeIn K (.ref C) = some (.type "type")) (e : findCls K (.ref C) (.type "type") name = some (.get g a obj tp))
    (h : wpAny (model prog w) A.in1 (call g [a, obj, tp]) (fun v s' => wpAny (model prog w) A (handedOut v) Q E s') (fun _ _ => False) { s with toks := s.toks + 1 }) : wpAny (model prog w) A (getAttr (.ref C) name expr) Q E s :=
  cls_open X (looks_opaque' St) (looks_typeIn X b) (show findIn K (.type "type") "__getattribute__" = some (some (.builtin "type.__getattribute__")) from type_tga) (looks_hook X (r := none) (by rfl)) (by show subIn K _ _ = _; rfl) e
    (wpAny_bind (wpAny_holding (wpAny_mono h (fun _ _ z => wpAny_pure z) fun _ _ z => z)))
theorem cls_cm' {p : Addr} {f : Value} {rest : List Value} {expr : Bool} {Q : Value → Shared → Prop} (F : Fr h₀ L s.heap m) (X₀ : K.In h₀) (St : Stat h₀) (N : News h₀ L s.heap news) (b : typeIn K (.ref C) = some (.type "type"))
    (e : findCls K (.ref C) (.type "type") name = some (.get (.builtin "classmethod.__get__") (.ref p) .none (.ref C))) (hp : recIn K p "classmethod" = some (f :: rest))
    (h : ∀ q h', Fr h₀ L h' m → News h₀ L h' ((q, methodObj f (.ref C)) :: news) → (∀ p ∈ news, p.1 < q) → Q (.ref q) { s with heap := h', toks := s.toks + 1 }) : wpAny (model prog w) A (getAttr (.ref C) name expr) Q E s :=
  cls_bind' (X₀.keeps F.keep) (St.keeps F.keep) b e (wpAny_call (cm_get (s := { s with toks := s.toks + 1 }) (X₀.keeps F.keep) hp (handed_on rfl (h s.heap.objs.size _ (F.push _) (N.push F _) fun p hp => Heap.lt_size (N p hp).1))))
theorem cls_sm' {p : Addr} {f : Value} {rest : List Value} {expr : Bool} {Q : Value → Shared → Prop} (X : K.In s.heap) (St : Stat s.heap) (b : typeIn K (.ref C) = some (.type "type"))
    (e : findCls K (.ref C) (.type "type") name = some (.get (.builtin "staticmethod.__get__") (.ref p) .none (.ref C))) (hp : recIn K p "staticmethod" = some (f :: rest)) (hv : handedIn f = true)
    (h : Q f { s with toks := s.toks + 1 }) : wpAny (model prog w) A (getAttr (.ref C) name expr) Q E s :=
  cls_bind' X St b e (wpAny_call (sm_get (s := { s with toks := s.toks + 1 }) X hp (handed_on hv h)))

theorem attr_type {T : String} {expr : Bool} {v : Value} {Q : Value → Shared → Prop} (F : Fr h₀ L s.heap m) (X₀ : K.In h₀) (ht : typeOf (.type T) = pure (.type "type")) (hs : Manifest.isStub T = false)
    (e : findCls K (.type T) (.type "type") name = some (.val v)) (hh : handedIn v = true) (h : Q v { s with toks := s.toks + 1 }) : wpAny (model prog w) A (getAttr (.type T) name expr) Q E s := by
  have X := X₀.keeps F.keep
  have hstub : opaqueClassAbove (.type T) = pure none := by unfold opaqueClassAbove; dsimp only; rw [hs]; rfl
  have L0 : Looks (model prog w) s.heap (typeOf (.type T)) (.type "type") := Looks.of_pure ht
  have hg : findIn K (.type "type") "__getattribute__" = some (some (.builtin "type.__getattribute__")) := type_tga
  have LO : Looks (model prog w) s.heap (opaqueClassAbove (.type T)) none := Looks.of_pure hstub
  exact cls_open X LO L0 hg (looks_hook X (r := none) (by rfl)) (by show subIn K _ _ = _; rfl) e
    (wpAny_pure (by show wpAny _ _ (handedOut v) _ _ _; rw [handedOut_of hh]; exact wpAny_pure h))
end

def NewBack (K : Frag) (C : Addr) (R : Result → Shared → Prop) (r : Result) (s' : Shared) : Prop := match r with
  | .ok (.ret v) => ∃ x ox, v = .ref x ∧ s'.heap.get? x = some ox ∧ ox.cls = .ref C ∧ K.In s'.heap ∧ R (.ok (.ret v)) s'
  | .ok _ => False
  | .error e => R (.error e) s'

section
variable {w : World} {A : Around} {s : Shared} {R : Result → Shared → Prop}
theorem type_str : typeOf (.type "str") = pure (.type "type") := by first | rfl | kernel_rfl
theorem type_tuple : typeOf (.type "tuple") = pure (.type "type") := by first | rfl | kernel_rfl
theorem q_specialCall (P : Params) : specialIn (KQ P) (.ref 162) "__call__" = some (some (.builtin "type.__call__")) := by kernel_rfl
theorem q_inst (P : Params) : instIn (KQ P) (.ref 162) (.type "type") = some true := by kernel_rfl
theorem q_typ (P : Params) : typeIn (KQ P) (.ref 162) = some (.type "type") := by kernel_rfl
theorem q_new (P : Params) : findCls (KQ P) (.ref 162) (.type "type") (Str.ofString "__new__") = some (.get (.builtin "staticmethod.__get__") (.ref 140) .none (.ref 162)) := by kernel_rfl
theorem q_newrec (P : Params) : recIn (KQ P) 140 "staticmethod" = some [.ref 89] := by kernel_rfl
theorem q_self (P : Params) : mroIn (KQ P) 162 (.ref 162) = some true := by kernel_rfl
theorem q_top (P : Params) : mroIn (KQ P) 162 (.type "object") = some true := by kernel_rfl
theorem q_init (P : Params) : findIn (KQ P) (.ref 162) "__init__" = some (some (.builtin "object.__init__")) := by kernel_rfl
theorem q_made (P : Params) (S : Setting) : peek (KQ P) S (Bind.madeBy (.ref 162)) = some none := by kernel_rfl
theorem q_here (P : Params) (S : Setting) : peek (KQ P) S (Bind.madeHere "tuple.__new__" (.ref 162)) = some () := by kernel_rfl
theorem q_mro (P : Params) (S : Setting) : peek (KQ P) S (mroOf (.ref 162)) = some [.ref 162, .ref 139, .type "tuple", .type "object"] := by kernel_rfl
theorem q_clsIn (P : Params) : (clsIn (KQ P) 162).isSome = true := by kernel_rfl
theorem q_cls (P : Params) : ∃ oc d c sl, (KQ P).lookup 162 = some ⟨oc, d, .cls c, sl⟩ := by
  have h := q_clsIn P
  unfold clsIn at h
  split at h
  · rename_i oc d cd sl q; exact ⟨_, _, _, _, q⟩
  · cases h

theorem oi_three {E : Value → Shared → Prop} {x : Addr} {a b : Value} {ox : Obj} {Q : Value → Shared → Prop} (X : (KQ w.params).In s.heap) (hx : s.heap.get? x = some ox) (hc : ox.cls = .ref 162) (h : Q .none s) :
    wpAny (model PySem.Challenge.rw_il0122_01.row.prog w) A (call (.builtin "object.__init__") [.ref x, a, b]) Q E s := by
  obtain ⟨hp, g, d, tk, os⟩ := s
  have t1 : Looks (model PySem.Challenge.rw_il0122_01.row.prog w) hp (typeOf (.ref x)) (.ref 162) := by rw [← hc]; exact (Looks.ld hx).andThen .now
  have t2 : Looks (model PySem.Challenge.rw_il0122_01.row.prog w) hp (isInstance (.ref x) (.type "object")) true := t1.andThen (looks_mroIn X (q_top _))
  have t3 := looks_findIn (M := model PySem.Challenge.rw_il0122_01.row.prog w) X (q_init w.params)
  have t4 : Looks (model PySem.Challenge.rw_il0122_01.row.prog w) hp (Bind.madeBy (.ref 162)) none := Looks.of_peek X (q_made _ _)
  refine wpAny_call (codeAny_call_builtin oi_plain entry_oi (@check_slot (model PySem.Challenge.rw_il0122_01.row.prog w) _ _ _ "object.__init__" "object" "__init__" (.ref x) [a, b] [] _ oi_kind oi_split t2 (PySem.F.args_object_init_3 _ _ _) ?_))
  show wpAny _ _ (typeOf (.ref x) >>= _) _ _ _
  refine wpAny_bind (t1.at ?_)
  show wpAny _ _ (typeLookup (.ref 162) "__init__" >>= _) _ _ _
  refine wpAny_bind (t3.at ?_)
  show wpAny _ _ (Bind.madeBy (.ref 162) >>= _) _ _ _
  refine wpAny_bind (t4.at ?_)
  exact wpAny_pure h

/-- Pair(a, b): its __new__ is called, object.__init__ does nothing -/
theorem call_pair {E : Value → Shared → Prop} {a b : Value} {Q : Value → Shared → Prop} (X : (KQ w.params).In s.heap) (St : Stat s.heap)
    (h : codeAny (model PySem.Challenge.rw_il0122_01.row.prog w) (A.under (.builtin "type.__call__" ⟨[.ref 162, a, b], []⟩)) (.call (.ref 89) ⟨[.ref 162, a, b], []⟩)
      (NewBack (KQ w.params) 162 fun r s' => match r with | .ok (.ret v) => Q v s' | .ok _ => False | .error e => E e s') { s with toks := s.toks + 1 }) :
    wpAny (model PySem.Challenge.rw_il0122_01.row.prog w) A (call (.ref 162) [a, b]) Q E s := by
  obtain ⟨hp, g, d, tk, os⟩ := s
  obtain ⟨oc, od, cd, sl, hC⟩ := q_cls w.params
  refine wpAny_call (codeAny_of_tree ?_)
  show wpAny _ _ (callAny (.ref 162) _) _ _ _
  refine nd_load (X _ _ hC) ?_
  show wpAny _ _ (callAny.viaDunder (.ref 162) _) _ _ _
  unfold callAny.viaDunder
  have call := looks_specialIn (M := model PySem.Challenge.rw_il0122_01.row.prog w) X (q_specialCall w.params)
  have typ := looks_instIn (M := model PySem.Challenge.rw_il0122_01.row.prog w) X (q_inst w.params)
  have mro : Looks (model PySem.Challenge.rw_il0122_01.row.prog w) hp (mroOf (.ref 162)) [.ref 162, .ref 139, .type "tuple", .type "object"] := Looks.of_peek X (q_mro _ _)
  have made : Looks (model PySem.Challenge.rw_il0122_01.row.prog w) hp (Bind.madeBy (.ref 162)) none := Looks.of_peek X (q_made _ _)
  refine wpAny_bind (call.at ?_)
  dsimp only
  rw [tc_bind]
  refine wpAny_bind (wpAny_pure (wpAny_bind (wpAny_pure ?_)))
  refine wpAny_pure (a := Fin.again (.call (.builtin "type.__call__") ⟨[.ref 162, a, b], []⟩)) (And.intro rfl ?_)
  refine codeAny_call_builtin_at (Code.quiet_builtin _ (by decide +kernel)) entry_typeCall (check_slot tc_kind tc_split typ (tc_args _ _ _) ?_)
  show wpAny _ _ (mroOf (.ref 162) >>= _) _ _ _
  refine wpAny_bind (mro.at ?_)
  show wpAny _ _ (Bind.madeBy (.ref 162) >>= _) _ _ _
  refine wpAny_bind (made.at ?_)
  show wpAny _ _ (getAttr (.ref 162) "__new__" >>= _) _ _ _
  refine wpAny_bind (cls_sm' (s := ⟨hp, g, d, tk, os⟩) X St (q_typ _) (q_new _) (q_newrec _) rfl ?_)
  refine wpAny_bind (wpAny_holding (wpAny_call ?_))
  refine codeAny_mono h fun r s' z => ?_
  rcases r with e | (v | _ | _ | _) <;> first | exact z | exact z.elim | skip
  obtain ⟨x, ox, rfl, hx, hc, X', z⟩ := z
  obtain ⟨hp', g', d', tk', os'⟩ := s'
  have t1 : Looks (model PySem.Challenge.rw_il0122_01.row.prog w) hp' (typeOf (.ref x)) (.ref 162) := by rw [← hc]; exact (Looks.ld hx).andThen .now
  have t2 : Looks (model PySem.Challenge.rw_il0122_01.row.prog w) hp' (isInstance (.ref x) (.ref 162)) true := t1.andThen (looks_mroIn X' (q_self _))
  have t3 : Looks (model PySem.Challenge.rw_il0122_01.row.prog w) hp' (specialOf (.ref x) "__init__") (some (.builtin "object.__init__")) := t1.andThen (f := fun t => typeLookup t "__init__") (looks_findIn X' (q_init w.params))
  refine wpAny_bind (t2.at ?_)
  refine wpAny_bind (wpAny_holding ?_)
  unfold callSpecial?
  refine wpAny_bind (t3.at ?_)
  refine wpAny_holding ?_
  rw [oi_bind]
  refine wpAny_bind (wpAny_pure ?_)
  refine wpAny_bind (oi_three (s := ⟨hp', g', d', tk', os'⟩) X' hx hc (wpAny_pure ?_))
  exact wpAny_pure z
end
end
section
abbrev pairObj (its : List Value) (dx : Addr) : Obj := { cls := .ref 162, dict := some dx, data := .seq its.toArray }
abbrev tupObj (its : List Value) : Obj := { cls := .type "tuple", data := .seq its.toArray }
section
variable {w : World} {A : Around} {E : Value → Shared → Prop} {s : Shared} {h₀ : Heap} {L : Addr} {m : Str → Option Value} {news : List (Addr × Obj)}
theorem q_check (P : Params) (S : Setting) (t : Addr) : peek (KQ P) S (checkBuiltinCall "tuple.__new__" ⟨[.ref 162, .ref t], []⟩) = some () := by kernel_rfl
theorem q_isType (P : Params) (S : Setting) : peek (KQ P) S (isType (.ref 162)) = some true := by kernel_rfl
theorem q_subTup (P : Params) (S : Setting) : peek (KQ P) S (isSubtype (.ref 162) (.type "tuple")) = some true := by kernel_rfl
theorem q_noDel (P : Params) (S : Setting) : peek (KQ P) S (classHasDel 162) = some false := by kernel_rfl
theorem tuple_new {t : Addr} {its : List Value} {Q : Value → Shared → Prop} (F : Fr h₀ L s.heap m) (X₀ : (KQ w.params).In h₀) (N : News h₀ L s.heap news) (ht : (t, tupObj its) ∈ news) (hz : its.length ≤ sizeLine)
    (h : ∀ x dx h', Fr h₀ L h' m → News h₀ L h' ((x, pairObj its dx) :: (dx, dictOf [] 0) :: news) → (∀ p ∈ news, p.1 < dx) → dx < x → Q (.ref x) { s with heap := h' }) :
    wpAny (model PySem.Challenge.rw_il0122_01.row.prog w) A (call (.builtin "tuple.__new__") [.ref 162, .ref t]) Q E s := by
  have X := X₀.keeps F.keep
  have D := (N _ ht).1
  have hT' : s.TypeIs (.ref t) "tuple" := ⟨_, D, rfl⟩
  have look : ∀ {α : Type} {tr : Sem α} {r : α}, peek (KQ w.params) ⟨PySem.Challenge.rw_il0122_01.row.prog, w.params⟩ tr = some r → Looks (model PySem.Challenge.rw_il0122_01.row.prog w) s.heap tr r := fun e => Looks.of_peek X e
  refine wpAny_call (codeAny_of_tree ?_)
  show wpAny _ A.in1 (do checkBuiltinCall "tuple.__new__" ⟨[.ref 162, .ref t], []⟩; again (.builtin "tuple.__new__" ⟨[.ref 162, .ref t], []⟩)) _ _ s
  refine wpAny_bind ((look (q_check _ _ t)).here (wpAny_pure ⟨plainId_quiet PySem.F.plain_tuple_new _, codeAny_builtin PySem.F.entry_tuple_new ?_⟩))
  rw [Around.under_plainId PySem.F.plain_tuple_new _]
  show wpAny _ _ (isType (.ref 162) >>= _) _ _ _
  refine wpAny_bind ((look (q_isType _ _)).here ?_)
  show wpAny _ _ (isSubtype (.ref 162) (.type "tuple") >>= _) _ _ _
  refine wpAny_bind ((look (q_subTup _ _)).here ?_)
  show wpAny _ _ (Bind.madeHere "tuple.__new__" (.ref 162) >>= _) _ _ _
  refine wpAny_bind ((look (q_here _ _)).here ?_)
  show wpAny _ _ (typeLookup (.ref 162) "__init__" >>= _) _ _ _
  refine wpAny_bind ((looks_findIn X (q_init w.params)).here ?_)
  show wpAny _ _ (collect (.ref t) >>= _) _ _ _
  refine wpAny_bind (wpAny_collect_seq t (.inr rfl) D rfl rfl (fun h₁ hk => ?_) (by simpa using hz))
  have F₁ : Fr h₀ L h₁ m := by
    obtain ⟨oL, es, ep, hL, r⟩ := F.ns
    exact ⟨⟨oL, es, ep, hk _ _ hL, r⟩, fun b x q => hk _ _ (F.keep b x q), F.above⟩
  have N₁ : News h₀ L h₁ news := fun p hp => ⟨hk _ _ (N p hp).1, (N p hp).2⟩
  show wpAny _ _ (alloc (dictOf [] 0) >>= _) _ _ _
  refine wpAny_bind (wpAny_alloc ?_)
  have F₂ := F₁.push (dictOf [] 0)
  have N₂ := N₁.push F₁ (dictOf [] 0)
  refine wpAny_bind ?_
  unfold newObj
  have hsz : ¬ (its.toArray.toList.toArray.size > sizeLine) := by simpa using hz
  simp only [hsz, if_false]
  show wpAny _ _ (newObjAsIs (.ref 162) (.seq its.toArray.toList.toArray) (some h₁.objs.size)) _ _ _
  unfold newObjAsIs
  refine wpAny_bind (wpAny_alloc ?_)
  have e : its.toArray.toList.toArray = its.toArray := by simp
  rw [e]
  have F₃ := F₂.push (pairObj its h₁.objs.size)
  have N₃ := N₂.push F₂ (pairObj its h₁.objs.size)
  refine wpAny_bind ((Looks.of_peek (X₀.keeps F₃.keep) (q_noDel _ ⟨PySem.Challenge.rw_il0122_01.row.prog, w.params⟩)).here ?_)
  refine wpAny_pure (wpAny_pure ?_)
  exact h _ _ _ F₃ N₃ (fun p hp => Heap.lt_size (N₁ p hp).1) (by rw [Heap.size_push]; exact Nat.lt_succ_self _)
end
end
section
section
variable {w : World} {A : Around} {E : Value → Shared → Prop} {s : Shared}
theorem q_subcheck (P : Params) (S : Setting) : peek (KQ P) S (checkBuiltinCall "issubclass" ⟨[.ref 162, .type "tuple"], []⟩) = some () := by kernel_rfl
theorem q_subrun (P : Params) (S : Setting) : peek (KQ P) S ((Builtin.«issubclass.nested» ⟨[.ref 162, .type "tuple", rawInt 0], []⟩).bind fun f => match f with | .done (.ret v) => .pure v | _ => .unsupported "") = some (.bool true) := by kernel_rfl
theorem q_get (P : Params) : findIn (KQ P) (.ref 162) "__getitem__" = some (some (.builtin "tuple.__getitem__")) := by kernel_rfl
theorem done_of {M : Model} {B : Around} {t : Sem Fin} {Q : Value → Shared → Prop} {s : Shared} (h : wpAny M B (t.bind fun f => match f with | .done (.ret v) => .pure v | _ => .unsupported "") Q E s) :
    wpAny M B t (fun f s' => ∃ v, f = .done (.ret v) ∧ Q v s') E s := fun Γ p hΓ => by
  have z := h Γ p hΓ
  have z' : Sem.wp M Γ (t >>= fun f => match f with | .done (.ret v) => .pure v | _ => .unsupported "") _ _ p s := z
  rw [Sem.wp_bind'] at z'
  refine Sem.wp_mono M Γ t (fun f p' s' y => ?_) (fun _ _ _ y => y) p s z'
  rcases f with (_ | _ | _ | v) | _ <;> first | exact ⟨_, rfl, y⟩ | exact y.elim | skip
theorem sub_tuple {Q : Value → Shared → Prop} (X : (KQ w.params).In s.heap) (h : Q (.bool true) s) :
    wpAny (model PySem.Challenge.rw_il0122_01.row.prog w) A (call (.builtin "issubclass") [.ref 162, .type "tuple"]) Q E s := by
  refine wpAny_call (codeAny_of_tree ?_)
  show wpAny _ A.in1 (do checkBuiltinCall "issubclass" ⟨[.ref 162, .type "tuple"], []⟩; again (.builtin "issubclass" ⟨[.ref 162, .type "tuple"], []⟩)) _ _ s
  refine wpAny_bind ((Looks.of_peek X (q_subcheck _ ⟨PySem.Challenge.rw_il0122_01.row.prog, w.params⟩)).here (wpAny_pure ⟨plainId_quiet PySem.F.plain_issubclass _, codeAny_builtin PySem.F.entry_issubclass ?_⟩))
  rw [Around.under_plainId PySem.F.plain_issubclass _]
  refine issubclass_outer (wpAny_mono (done_of (E := fun e s' => E e s') (Q := Q) ((Looks.of_peek X (q_subrun _ ⟨PySem.Challenge.rw_il0122_01.row.prog, w.params⟩)).here h)) (fun f s' y => ?_) fun _ _ y => y)
  obtain ⟨v, rfl, y⟩ := y
  exact y
theorem gi_plain : plainId "tuple.__getitem__" = true := by decide +kernel
theorem gi_kind : builtinKind "tuple.__getitem__" = some .slot := by decide +kernel
theorem gi_split : splitId "tuple.__getitem__" = some ("tuple", "__getitem__") := by decide +kernel
theorem pair_item {x dx : Addr} {its : List Value} {k : Int} {u : Tok} {v : Value} {Q : Value → Shared → Prop} (X : (KQ w.params).In s.heap) (hx : s.heap.get? x = some (pairObj its dx))
    (hlo : -(2 ^ 63) ≤ k) (hhi : k < 2 ^ 63) {j : Nat} (hj : seqIndex? k its.toArray.size = some j) (hv : its[j]? = some v) (h : Q v s) :
    wpAny (model PySem.Challenge.rw_il0122_01.row.prog w) A (call (.builtin "tuple.__getitem__") [.ref x, .int k u]) Q E s := by
  obtain ⟨hp, g, d, tk, os⟩ := s
  have t1 : Looks (model PySem.Challenge.rw_il0122_01.row.prog w) hp (typeOf (.ref x)) (.ref 162) := (Looks.ld hx).andThen .now
  have t2 : Looks (model PySem.Challenge.rw_il0122_01.row.prog w) hp (isInstance (.ref x) (.type "tuple")) true := t1.andThen (Looks.of_peek X (q_subTup _ _))
  refine wpAny_call (codeAny_call_builtin gi_plain entry_tuple_getitem (@check_slot (model PySem.Challenge.rw_il0122_01.row.prog w) _ _ _ "tuple.__getitem__" "tuple" "__getitem__" (.ref x) [.int k u] [] _ gi_kind gi_split t2 (args_tuple_getitem _ _) ?_))
  show wpAny _ _ (Builtin.Tuple.tupleItemsOf (.ref x) >>= _) _ _ _
  unfold Builtin.Tuple.tupleItemsOf
  refine wpAny_bind (wpAny_bind (wpAny_seqItems hx rfl (wpAny_pure ?_)))
  refine wpAny_bind (wpAny_typeOf (typeIs_int _ k u) ?_)
  rw [if_neg (by decide)]
  refine wpAny_bind (wpAny_specialOf (T := "int") (typeIs_int _ k u) int_index ?_)
  rw [if_neg (by simp)]
  refine wpAny_bind (wpAny_of_eq (a := k) rfl ?_)
  rw [if_neg (by simp only [Bool.or_eq_true, decide_eq_true_eq]; omega)]
  have hv' : its.toArray[j]? = some v := by simpa using hv
  simp only [hj, Option.bind_some, hv']
  exact wpAny_pure h
end
end
section
open PySem.NumText
section
variable {M : Model} {A : Around} {E : Value → Shared → Prop} {s : Shared}
theorem wpAny_raiseNew {α : Type} {e : Addr} {Q : α → Shared → Prop} (hh : A.handled = none) (h : E (.ref e) s) : wpAny M A (raiseNew (.ref e) : Sem α) Q E s := by
  unfold raiseNew
  refine wpAny_bind (wpAny_handled ?_)
  rw [hh]
  first
    | exact wpAny_throw h
    | exact wpAny_bind (wpAny_pure (wpAny_throw h))
end
theorem codes_ascii {x : Str} (h : ∀ c ∈ x.cps.toList, 1 ≤ c ∧ c < 128) : numTextOf x = x.cps.toList ∧ numSeenOf x = x.cps.toList := by
  have e1 : numTextOf x = x.cps.toList := by
    refine if_pos ?_
    rw [← Array.all_toList, List.all_eq_true]
    intro c hc
    exact decide_eq_true (h c hc).2
  refine ⟨e1, ?_⟩
  show (numTextOf x).takeWhile _ = _
  rw [e1]
  refine takeWhile_all fun c hc => ?_
  exact bne_iff_ne.mpr (Nat.ne_of_gt (h c hc).1)
theorem repr_ok {x : Str} (h : ∀ c ∈ x.cps.toList, 1 ≤ c ∧ c < 128) (hl : x.length ≤ 640) : (reprText x).length ≤ sizeLine := by
  have z := StrLaws.reprText_len x fun c hc => by have := (h c hc).2; omega
  rw [sizeLine_eq]; omega
theorem msg_ok (y : Str) : (Str.ofString (toString "invalid literal for int() with base " ++ toString 10 ++ toString ": ") ++ ({ cps := y.cps.extract 0 200 } : Str)).length ≤ sizeLine := by
  rw [PySem.Str.length_append, sizeLine_eq]
  have h1 : (Str.ofString (toString "invalid literal for int() with base " ++ toString 10 ++ toString ": ")).length = 40 := by decide +kernel
  have h2 : ({ cps := y.cps.extract 0 200 } : Str).length ≤ 200 := by
    show (y.cps.extract 0 200).size ≤ 200
    rw [Array.size_extract]; omega
  omega
section
variable {P : List Code → Prop} {A : Around} {E : Value → Shared → Prop} {s : Shared}
/-- newExc, no mark, then raised -/
theorem raise_quiet {M : Model} {α : Type} {own : List String} {cls : String} {vs : List Value} {Q : α → Shared → Prop} (hq : ∀ l, P l → pythonCodeMadeTheCall own l = false) (hp : PlainExc cls) (hh : A.handled = none) (hz : vs.length ≤ sizeLine)
    (h : ∀ h' e, Heap.NewExc s.heap h' e cls → E (.ref e) { s with heap := h' }) :
    wpP P M A (do let e ← newExc (.type cls) vs; markTheRefusal own e; (raiseNew e : Sem α)) Q E s := by
  refine wpP_any ?_
  unfold newExc newTuple
  refine wpAny_bind (wpAny_newObj_type ?_ (by show vs.toArray.size ≤ sizeLine; rw [List.size_toArray]; exact hz))
  refine wpAny_bind (m := firstArgMember _ _) (wpAny_of_eq (a := Value.none) (by simp only [firstArgMember, hp.first]; rfl) ?_)
  rw [hp.own]
  refine wpAny_newObj_type ?_
  refine wpP_bind (wpP_mark hq (wpP_of (wpAny_raiseNew hh (h _ _ ⟨fun b o e => Heap.get?_push_of_some _ (Heap.get?_push_of_some _ e), ?_, ?_⟩))))
  · exact Heap.get?_none_of_le (by rw [Heap.size_push]; omega)
  · exact ⟨_, _, Heap.get?_push_size _ rfl, rfl, rfl⟩
set_option maxHeartbeats 4000000 in
theorem bad_quiet {prog : Program} {w : World} {Q : Value → Shared → Prop} {x : Str} {u : Tok} (hq : ∀ l, P l → pythonCodeMadeTheCall ["int.__new__"] l = false) (hh : A.handled = none) (hl : x.length ≤ 640) (ha : ∀ c ∈ x.cps.toList, 1 ≤ c ∧ c < 128) (hn : PySem.intText? x = none)
    (h : ∀ h' tk e, Heap.NewExc s.heap h' e "ValueError" → E (.ref e) { s with heap := h', toks := tk }) :
    wpP P (model prog w) A ((int_private% "intFromText") (.str x u) (numTextOf x) 10) Q E s := by
  obtain ⟨e1, e2⟩ := codes_ascii ha
  have hs : (numSeenOf x).length ≤ 640 := Nat.le_trans (seen_length x) hl
  have hr : (int_private% "readNumeral") 0 10 (numSeenOf x) = int_private% "Numeral.invalid" := by
    rcases read0 x hs with ⟨m, h1, _⟩ | ⟨_, h1 | ⟨i, _, h1⟩⟩
    · rw [hn] at h1; cases h1
    · exact h1
    · exact absurd (by rw [e1, e2]; exact beq_self_eq_true _) h1
  have hrep := repr_ok ha hl
  obtain ⟨hp, g, d, tk, os⟩ := s
  refine wpP_if hs ?_
  refine wpP_any (wpAny_pure ?_)
  dsimp only
  show wpP P _ _ (match (int_private% "readNumeral") 0 10 (numSeenOf x) with | _ => _) _ _ _
  rw [hr]
  dsimp only
  refine wpP_any (wpAny_of_eq (a := none) rfl ?_)
  refine wpP_ifn (by simp) ?_
  refine wpP_any (wpAny_rule ?_)
  refine wpP_any (wpAny_of_eq (a := none) rfl ?_)
  dsimp only
  refine wpP_any (wpAny_pyRepr_str ?_ hrep)
  refine wpP_any (wpAny_mkStr ?_ (msg_ok _))
  exact raise_quiet hq plainExc_ValueError hh (by show 1 ≤ sizeLine; decide) fun h' e n => h h' _ e n
set_option maxHeartbeats 4000000 in
theorem new_quiet {prog : Program} {w : World} {Q : Fin → Shared → Prop} {x : Str} {u : Tok} (hq : ∀ l, P l → pythonCodeMadeTheCall ["int.__new__"] l = false) (hh : A.handled = none) (hl : x.length ≤ 640) (ha : ∀ c ∈ x.cps.toList, 1 ≤ c ∧ c < 128) (hn : PySem.intText? x = none)
    (h : ∀ h' tk e, Heap.NewExc s.heap h' e "ValueError" → E (.ref e) { s with heap := h', toks := tk }) :
    wpP P (model prog w) A (Builtin.«int.__new__» ⟨[.type "int", .str x u], []⟩) Q E s := by
  obtain ⟨hp, g, d, tk, os⟩ := s
  have f1 := PySem.F.conv_sub_int
  have f2 := PySem.F.madeHere_int
  have f3 := KIN.str_int
  have f4 := KIN.str_idx
  have f5 := KIN.str_trunc
  have f6 : typeOf (.str x u) = pure (.type "str") := rfl
  refine wpP_any ?_
  repeat (any_goals (first | assumption | wp_step))
  refine wpP_ifn (by simp) ?_
  refine wpP_any (wpAny_of_eq f1 ?_)
  refine wpP_ifn (by simp) ?_
  refine wpP_any (wpAny_of_eq f2 ?_)
  refine wpP_ifn (by simp) ?_
  refine wpP_ifn (by simp) ?_
  refine wpP_any (wpAny_pure ?_)
  refine wpP_bind ?_
  refine wpP_any ?_
  repeat (any_goals (first | assumption | wp_step))
  refine wpP_any ?_
  repeat (any_goals (first | assumption | wp_step))
  refine wpP_ifn (by simp) ?_
  refine wpP_any ?_
  repeat (any_goals (first | assumption | wp_step))
  refine wpP_any ?_
  repeat (any_goals (first | assumption | wp_step))
  refine bad_quiet hq hh hl ha hn h
theorem den_builtin {prog : Program} {w : World} {id : String} {b : Builtin} {args : Args} (hb : entryFor table id = some b) : (model prog w).den (.builtin id args) = b args := by
  show (match entryFor table id with | some b => b args | none => unsupported ((withoutEnding? id "#data").getD id)) = _
  rw [hb]
/-- int(text) refused, under a stack that forbids the mark -/
theorem int_quiet {prog : Program} {w : World} {Q : Value → Shared → Prop} {x : Str} {u : Tok} (hup : ∀ c l, c.env?.isNone = true → P l → P (c :: l)) (hq : ∀ l, P l → pythonCodeMadeTheCall ["int.__new__"] l = false) (hh : A.handled = none) (hl : x.length ≤ 640) (ha : ∀ c ∈ x.cps.toList, 1 ≤ c ∧ c < 128) (hn : PySem.intText? x = none)
    (h : ∀ h' tk e, Heap.NewExc s.heap h' e "ValueError" → E (.ref e) { s with heap := h', toks := tk }) :
    wpP P (model prog w) A (call (.type "int") [.str x u]) Q E s := by
  obtain ⟨c, tl, hmro⟩ := F.called_int.mro
  have hmade := F.called_int.made
  refine wpP_call (codeP_tree (fun l => hup _ l rfl) ?_)
  show wpP _ _ _ (callAny (.type "int") _) _ _ _
  refine wpP_pure (a := Fin.again (.builtin "type.__call__" ⟨[.type "int", .str x u], []⟩)) ⟨Code.quiet_builtin _ (by decide +kernel), codeP_tree (fun l => hup _ l rfl) ?_⟩
  rw [Around.under_plain (weight_type_call_type "int" [.str x u] []) (units_type_call_type "int" [.str x u] [])]
  rw [den_builtin F.entry_type_call]
  have h1 := F.called_int.notType
  have h2 := F.called_int.canCreate
  have h3 := F.typeCall_int_1 (.str x u)
  have h4 : typeOf (.type "int") = pure (.type "type") := by first | rfl | kernel_rfl
  refine wpP_any ?_
  repeat (any_goals (first | assumption | wp_step))
  refine wpP_any (wpAny_of_eq hmro ?_)
  refine wpP_ifn (by simp) ?_
  refine wpP_any (wpAny_of_eq hmade ?_)
  refine wpP_any (wpAny_pure ?_)
  refine wpP_bind (wpP_holding (wpP_call (codeP_tree (fun l => hup _ l rfl) ?_)))
  show wpP _ _ _ (callAny (.builtin "int.__new__") _) _ _ _
  refine wpP_any (m := checkBuiltinCall "int.__new__" _) (wpAny_of_eq (F.newCall_int_1 (.str x u)) ?_)
  refine wpP_pure (a := Fin.again (.builtin "int.__new__" ⟨[.type "int", .str x u], []⟩)) ⟨plainId_quiet F.called_int.plain _, codeP_tree (fun l => hup _ l rfl) ?_⟩
  rw [den_builtin F.entry_int_new]
  exact new_quiet hq hh hl ha hn h
end
end
section
theorem sub_VS : isSubtype (.type "ValueError") (.type "StopIteration") = pure false := by rw [isSubtype_type]; kernel_rfl
theorem stat_but {h h' : Heap} {a : Addr} (S : Stat h) (hs : Heap.ExtBut a h h') (ha : cStatics ≠ a) : Stat h' := let ⟨mc, p, q⟩ := S; ⟨mc, p.extBut hs ha, q⟩
section
variable {prog : Program} {w : World} {A : Around} {E : Value → Shared → Prop} {s : Shared} {h₀ : Heap} {L : Addr} {m : Str → Option Value} {news : List (Addr × Obj)}
/-- an item that the function refuses: what it tells under map's own code -/
theorem pyNext_map_under {M T it l : Addr} {i : Nat} {items : Array Value} {f x : Value} {Q : Option Value → Shared → Prop}
    (hM : s.heap.get? M = some (mapObj T f)) (hT : s.heap.get? T = some (oneObj it)) (hit : s.heap.IsListIter it l i) (hl : s.heap.IsList l items) (hx : items[i]? = some x) (hMi : M ≠ it)
    (h : ∀ h', h'.IsListIter it l (i + 1) → Heap.SameBut it s.heap h' → wpP UnderMap (model prog w) A.in1 (call f [x]) (fun v => Q (some v))
      (fun e s' => wpAny (model prog w) A (do if ← isInstance e (.type "StopIteration") then pure none else throw e) Q E s') { s with heap := h' }) :
    wpAny (model prog w) A (pyNext (.ref M)) Q E s := by
  have hTy : s.TypeIs (.ref M) "map" := ⟨_, hM, rfl⟩
  unfold pyNext
  refine wpAny_bind (wpAny_attempt (wpAny_callSpecial?_slot (name := Str.ofString "__next__") hTy MF.slot_map_next (wpAny_call (codeAny_of_tree ?_))))
  show wpAny _ A.in1 (do checkBuiltinCall "map.__next__" _; again (.builtin "map.__next__" _)) _ _ s
  refine wpAny_bind (MF.slot_map_next.check _ _ _ _ _ _ _ _ hTy (MF.args_map_next_1 _) (wpAny_pure ⟨plainId_quiet MF.slot_map_next.plain _, codeAny_tree (map_here _) ?_⟩))
  rw [Around.under_plainId MF.slot_map_next.plain, den_builtin MF.entry_map_next]
  refine wpP_any (m := field (.ref M) 0) (wpAny_field hM rfl (x := .ref T) rfl ?_)
  refine wpP_any (m := seqItems? (.ref T)) (wpAny_seqItems hT rfl ?_)
  simp only [List.forIn_toArray, List.forIn_cons, List.forIn_nil]
  refine wpP_any (wpAny_bind (wpAny_bind (wpAny_holding ?_)))
  refine wpAny_nextOf_list_item hit hl hx fun h₁ hit₁ hs₁ => wpAny_pure (wpAny_pure ?_)
  refine wpP_any (wpAny_field ((hs₁.2 M hMi).trans hM) rfl (x := f) rfl ?_)
  refine wpP_bind (wpP_holding ?_)
  refine wpP_mono (h h₁ hit₁ hs₁) (fun v s' hv => ?_) fun _ _ z => z
  exact wpP_any (wpAny_letGo (wpP_pure (wpAny_pure hv)))
abbrev Clean (x : Str) : Prop := x.length ≤ 640 ∧ ∀ c ∈ x.cps.toList, 1 ≤ c ∧ c < 128
/-- one number drawn from map(int, ..) -/
theorem next_int {M T it l : Addr} {items : List Value} {xs : List Str} {i : Nat} {x : Str} {Q : Option Value → Shared → Prop} (hh : A.handled = none) (hMi : M ≠ it) (hTi : T ≠ it) (hli : l ≠ it) (hci : cStatics ≠ it)
    (hi : StrsAre items xs) (hx : xs[i]? = some x) (hc : Clean x) (S : Stat s.heap) (D : MapAt M T it l (.type "int") items.toArray i s)
    (ok : ∀ n h' tk, PySem.intText? x = some n → Stat h' → Heap.SameBut it s.heap h' → MapAt M T it l (.type "int") items.toArray (i + 1) { s with heap := h' } → ∀ t, Q (some (.int n t)) { s with heap := h', toks := tk })
    (bad : PySem.intText? x = none → ∀ h₁ h' tk e, Heap.ExtBut it s.heap h₁ → Heap.NewExc h₁ h' e "ValueError" → E (.ref e) { s with heap := h', toks := tk }) :
    wpAny (model prog w) A (pyNext (.ref M)) Q E s := by
  obtain ⟨h1, h2, h3, h4⟩ := D
  obtain ⟨t, ht⟩ := hi.get i x hx
  cases hn : PySem.intText? x with
  | some n =>
    refine pyNext_map_item h1 h2 h3 h4 (x := .str x t) (by simpa using ht) hMi hTi fun h' hit' hs' => ?_
    have S' : Stat h' := stat_but S hs'.extBut hci
    exact KIN.call_text hn hc.1 (ok n h' _ hn S' hs' ⟨(hs'.2 M hMi).trans h1, (hs'.2 T hTi).trans h2, hit', h4.extBut hs'.extBut hli⟩ _)
  | none =>
    refine pyNext_map_under h1 h2 h3 h4 (x := .str x t) (by simpa using ht) hMi fun h' hit' hs' => ?_
    refine int_quiet (fun c l hc k => map_up l hc k) map_quiet hh hc.1 hc.2 hn fun h₂ tk e hE => ?_
    obtain ⟨ob, tt, he, hcl, _⟩ := hE.there
    refine wpAny_bind (wpAny_isInstance (T := "ValueError") (b := false) ⟨ob, he, hcl⟩ sub_VS ?_)
    simp only [Bool.false_eq_true, if_false]
    exact wpAny_throw (bad hn h' h₂ tk e hs'.extBut hE)
def lineCol : List Str → Option (Int × Int)
  | [a, b] => match PySem.intText? a, PySem.intText? b with
    | some x, some y => some (x, y)
    | _, _ => none
  | _ => none
theorem few_ok (k : Nat) (hk : k < 2) : (Str.ofString (toString "not enough values to unpack (expected " ++ toString 2 ++ toString ", got " ++ toString k ++ toString ")")).length ≤ sizeLine := by
  match k, hk with
  | 0, _ => exact of_decide_eq_true (by kernel_rfl)
  | 1, _ => exact of_decide_eq_true (by kernel_rfl)
theorem unpack_two {M T it l : Addr} {items : List Value} {xs : List Str} {Q : List Value → Shared → Prop} (hh : A.handled = none) (F : Fr h₀ L s.heap m) (St : Stat h₀)
    (N : News h₀ L s.heap ((M, mapObj T (.type "int")) :: (T, oneObj it) :: (it, iterObj l 0) :: news)) (hi : StrsAre items xs) (hz : ∀ x ∈ xs, Clean x) (hl : s.heap.IsList l items.toArray)
    (h1 : it < T) (h2 : T < M) (h3 : l < it) (h4 : ∀ p ∈ news, p.1 < it)
    (ok : ∀ a b h' tk, lineCol xs = some (a, b) → Fr h₀ L h' m → News h₀ L h' news → ∀ t u, Q [.int a t, .int b u] { s with heap := h', toks := tk })
    (bad : lineCol xs = none → ∀ h₁ h' tk e, Fr h₀ L h₁ m → News h₀ L h₁ news → Heap.NewExc h₁ h' e "ValueError" → E (.ref e) { s with heap := h', toks := tk }) :
    wpAny (model prog w) A (unpackItems (.ref M) 2 none) Q E s := by
  have a1 := (N _ (.head _)).1
  have a2 := (N _ (.tail _ (.head _))).1
  have a3 := N _ (.tail _ (.tail _ (.head _)))
  have hTy : s.TypeIs (.ref M) "map" := ⟨_, a1, rfl⟩
  have hMi : M ≠ it := Nat.ne_of_gt (Nat.lt_trans h1 h2)
  have hTi : T ≠ it := Nat.ne_of_gt h1
  have hli : l ≠ it := Nat.ne_of_lt h3
  have hci : cStatics ≠ it := fun z => by
    obtain ⟨_, ⟨o, _, _, ho, _⟩, _⟩ := St
    have q := a3.2.2
    rw [← z, ho] at q; cases q
  have S : Stat s.heap := St.keeps F.keep
  have D : MapAt M T it l (.type "int") items.toArray 0 s := ⟨a1, a2, ⟨_, a3.1, rfl, rfl⟩, hl⟩
  have near_news : ∀ h₁, Heap.ExtBut it s.heap h₁ → News h₀ L h₁ news := fun h₁ hN p hp => by
    have q := N p (.tail _ (.tail _ (.tail _ hp)))
    exact ⟨hN _ _ (Nat.ne_of_lt (h4 p hp)) q.1, q.2⟩
  have hcL : L ≠ cStatics := fun z => by
    obtain ⟨_, ⟨o, _, _, ho, _⟩, _⟩ := St
    exact absurd (Nat.lt_of_lt_of_le (Heap.lt_size ho) F.above) (by rw [z]; exact Nat.lt_irrefl _)
  have hLi : L ≠ it := fun z => a3.2.1 z.symm
  have ext_fr : ∀ h₁, Heap.ExtBut it s.heap h₁ → Fr h₀ L h₁ m := fun h₁ hN => by
    obtain ⟨oL, es, ep, hL, r⟩ := F.ns
    exact ⟨⟨oL, es, ep, hN _ _ hLi hL, r⟩, fun b o e => hN _ _ (fun z => by rw [z, a3.2.2] at e; cases e) (F.keep _ _ e), F.above⟩
  have bad' : lineCol xs = none → ∀ h₁ h' tk e, Heap.ExtBut it s.heap h₁ → Heap.NewExc h₁ h' e "ValueError" → E (.ref e) { s with heap := h', toks := tk } :=
    fun hn h₁ h' tk e a c => bad hn h₁ h' tk e (ext_fr h₁ a) (near_news h₁ a) c
  unfold unpackItems notIterableAtAll
  refine wpAny_bind (wpAny_bind (wpAny_specialOf hTy MF.slot_map_iter.lookup (wpAny_pure ?_)))
  simp only [Bool.false_eq_true, if_false]
  refine wpAny_bind (wpAny_holding (pyIter_map a1 ?_))
  refine wpAny_bind (wpAny_holding ?_)
  show wpAny _ _ (pyNext (.ref M) >>= _) _ _ s
  refine wpAny_bind ?_
  cases xs with
  | nil =>
    refine pyNext_map_end hh a1 a2 D.2.2.1 hl (by rw [List.getElem?_toArray]; simp [hi.length]) fun h' he => wpAny_pure ?_
    show wpAny _ _ (if ([] : List Value).length < 2 then _ else _) _ _ _
    rw [if_pos (by decide)]
    refine wpAny_bind (wpAny_rule ?_)
    refine wpAny_bind (wpAny_raiseErrorMade plainExc_ValueError hh (fun h'' tk e hE => ?_) (few_ok 0 (by decide)))
    exact bad' rfl h' h'' tk e he hE
  | cons x r =>
    refine next_int (x := x) hh hMi hTi hli hci hi rfl (hz x (.head _)) S D (fun n hp tk hn Sp hs Dp t => ?_) fun hn h₁ h' tk e hN hE => ?_
    · refine wpAny_bind (wpAny_holding ?_)
      show wpAny _ _ (pyNext (.ref M) >>= _) _ _ _
      refine wpAny_bind ?_
      cases r with
      | nil =>
        refine pyNext_map_end (s := { s with heap := hp, toks := tk }) hh Dp.1 Dp.2.1 Dp.2.2.1 Dp.2.2.2 (by rw [List.getElem?_toArray]; simp [hi.length]) fun h' he => wpAny_pure (wpAny_pure ?_)
        show wpAny _ _ (if ([Value.int n t] : List Value).length < 2 then _ else _) _ _ _
        rw [if_pos (show ([Value.int n t] : List Value).length < 2 by simp)]
        refine wpAny_bind (wpAny_rule ?_)
        refine wpAny_bind (wpAny_raiseErrorMade plainExc_ValueError hh (fun h'' tk e hE => ?_) (few_ok 1 (by decide)))
        exact bad' rfl h' h'' tk e (hs.extBut.trans he) hE
      | cons y q =>
        refine next_int (s := { s with heap := hp, toks := tk }) (x := y) hh hMi hTi hli hci hi rfl (hz y (.tail _ (.head _))) Sp Dp (fun k hp2 tk2 hk Sp2 hs2 Dp2 t2 => ?_) fun hk h₁ h' tk e hN hE => ?_
        · refine wpAny_bind (wpAny_holding ?_)
          refine wpAny_pure (wpAny_pure (wpAny_pure ?_))
          show wpAny _ _ (if ([Value.int n t, Value.int k t2] : List Value).length < 2 then _ else _) _ _ _
          rw [if_neg (show ¬ ([Value.int n t, Value.int k t2] : List Value).length < 2 by simp)]
          refine wpAny_bind (wpAny_holding ?_)
          cases q with
          | nil =>
            refine pyNext_map_end (s := { s with heap := hp2, toks := tk2 }) hh Dp2.1 Dp2.2.1 Dp2.2.2.1 Dp2.2.2.2 (by rw [List.getElem?_toArray]; simp [hi.length]) fun h' he => ?_
            simp only [Option.isSome_none, Bool.false_eq_true, if_false]
            have e1 : Heap.ExtBut it s.heap h' := fun b o hb e => he b o hb (hs2.extBut b o hb (hs.extBut b o hb e))
            exact wpAny_pure (ok n k h' tk2 (by simp only [lineCol, hn, hk]) (ext_fr _ e1) (near_news _ e1) _ _)
          | cons z q =>
            refine next_int (s := { s with heap := hp2, toks := tk2 }) (x := z) hh hMi hTi hli hci hi rfl (hz z (.tail _ (.tail _ (.head _)))) Sp2 Dp2 (fun k3 hp3 tk3 hk3 Sp3 hs3 Dp3 t3 => ?_) fun hk3 h₁ h' tk e hN hE => ?_
            · simp only [Option.isSome_some, if_true]
              refine wpAny_bind (wpAny_rule ?_)
              refine wpAny_bind (wpAny_raiseErrorMade plainExc_ValueError hh (fun h'' tk e hE => ?_) (of_decide_eq_true (by kernel_rfl)))
              exact bad' rfl hp3 h'' tk e ((hs.extBut.trans hs2.extBut).trans hs3.extBut) hE
            · exact bad' rfl h₁ h' tk e ((hs.extBut.trans hs2.extBut).trans hN) hE
        · refine bad' ?_ h₁ h' tk e (hs.extBut.trans hN) hE
          cases q with
          | nil => simp only [lineCol, hn, hk]
          | cons _ _ => rfl
    · refine bad' ?_ h₁ h' tk e hN hE
      cases r with
      | nil => rfl
      | cons y q => cases q with
        | nil => simp only [lineCol, hn]
        | cons _ _ => rfl
theorem assign_two {M T it l : Addr} {items : List Value} {xs : List Str} {env : Env} {elts : List Expr} {k : Nat} {pos : Pos} {Q : Unit → Shared → Prop} (hlen : (assignEach elts env).length = 2) (hstar : (assignEach elts env).findIdx? (·.1) = none)
    (hh : A.handled = none) (F : Fr h₀ L s.heap m) (St : Stat h₀)
    (N : News h₀ L s.heap ((M, mapObj T (.type "int")) :: (T, oneObj it) :: (it, iterObj l 0) :: news)) (hi : StrsAre items xs) (hz : ∀ x ∈ xs, Clean x) (hl : s.heap.IsList l items.toArray)
    (h1 : it < T) (h2 : T < M) (h3 : l < it) (h4 : ∀ p ∈ news, p.1 < it)
    (ok : ∀ a b h' tk, lineCol xs = some (a, b) → Fr h₀ L h' m → News h₀ L h' news → ∀ t u, wpAny (model prog w) A (assignInOrder ((assignEach elts env).map (·.2)) [.int a t, .int b u]) Q E { s with heap := h', toks := tk })
    (bad : lineCol xs = none → ∀ h₁ h' tk e, Fr h₀ L h₁ m → News h₀ L h₁ news → Heap.NewExc h₁ h' e "ValueError" → E (.ref e) { s with heap := h', toks := tk }) :
    wpAny (model prog w) A (assign (.Tuple elts k pos) env (.ref M)) Q E s := by
  rw [assign_Tuple]
  refine wpAny_bind (wpAny_standAt ?_)
  unfold unpack
  rw [hlen, hstar]
  exact wpAny_bind (wpAny_holding (unpack_two hh F St N hi hz hl h1 h2 h3 h4 ok bad))
theorem assign_ok {M T it l : Addr} {items : List Value} {xs : List Str} {a b : Int} {env : Env} {elts : List Expr} {k : Nat} {pos : Pos} {Q : Unit → Shared → Prop} (hla : lineCol xs = some (a, b)) (hlen : (assignEach elts env).length = 2) (hstar : (assignEach elts env).findIdx? (·.1) = none)
    (hh : A.handled = none) (F : Fr h₀ L s.heap m) (St : Stat h₀)
    (N : News h₀ L s.heap ((M, mapObj T (.type "int")) :: (T, oneObj it) :: (it, iterObj l 0) :: news)) (hi : StrsAre items xs) (hz : ∀ x ∈ xs, Clean x) (hl : s.heap.IsList l items.toArray)
    (h1 : it < T) (h2 : T < M) (h3 : l < it) (h4 : ∀ p ∈ news, p.1 < it)
    (ok : ∀ h' tk t u, Fr h₀ L h' m → News h₀ L h' news → wpAny (model prog w) A (assignInOrder ((assignEach elts env).map (·.2)) [.int a t, .int b u]) Q E { s with heap := h', toks := tk }) :
    wpAny (model prog w) A (assign (.Tuple elts k pos) env (.ref M)) Q E s :=
  assign_two hlen hstar hh F St N hi hz hl h1 h2 h3 h4 (fun x y h' tk e F' N' t u => by rw [hla] at e; cases e; exact ok h' tk t u F' N') fun e => by rw [hla] at e; cases e
theorem assign_bad {M T it l : Addr} {items : List Value} {xs : List Str} {env : Env} {elts : List Expr} {k : Nat} {pos : Pos} {Q : Unit → Shared → Prop} (hla : lineCol xs = none) (hlen : (assignEach elts env).length = 2) (hstar : (assignEach elts env).findIdx? (·.1) = none)
    (hh : A.handled = none) (F : Fr h₀ L s.heap m) (St : Stat h₀)
    (N : News h₀ L s.heap ((M, mapObj T (.type "int")) :: (T, oneObj it) :: (it, iterObj l 0) :: news)) (hi : StrsAre items xs) (hz : ∀ x ∈ xs, Clean x) (hl : s.heap.IsList l items.toArray)
    (h1 : it < T) (h2 : T < M) (h3 : l < it) (h4 : ∀ p ∈ news, p.1 < it)
    (bad : ∀ h₁ h' tk e, Fr h₀ L h₁ m → News h₀ L h₁ news → Heap.NewExc h₁ h' e "ValueError" → E (.ref e) { s with heap := h', toks := tk }) :
    wpAny (model prog w) A (assign (.Tuple elts k pos) env (.ref M)) Q E s :=
  assign_two hlen hstar hh F St N hi hz hl h1 h2 h3 h4 (fun x y h' tk e => by rw [hla] at e; cases e) fun _ => bad
end
end
section
theorem frames_none {A : Around} {base g : Heap} {outer : List Env} (K : Below A base outer g) : ∀ b ∈ outer.filterMap (·.frame), base.get? b = none := fun _ hb => (K.frames.mem hb).1
section
variable {M : Model} {A : Around} {E : Value → Shared → Prop} {s' : Shared} {base g h₁ : Heap} {outer : List Env} {L a e : Addr} {m : Str → Option Value} {name : Str} {scope : Scope} {cd : Value} {Q : Unit → Shared → Prop} {news : List (Addr × Obj)}
/-- an exception leaves the frame in which it was made -/
theorem leave_T {cls : String} (K : Below A base outer g) (F : Fr g L h₁ m) (N : News g L h₁ news) (hx : Heap.NewExc h₁ s'.heap e cls)
    (hQ : ∀ h', RaisedSN base g outer e (.type cls) news h' → g.UpToSlots h' → Q () { s' with heap := h' }) (hk : scope.kind = .function := by rfl) :
    wpAny M (A.deeper (envOf name scope L a cd)) (leaving (envOf name scope L a cd) (.ref e)) Q E s' :=
  leave_newS K hx F N (fun h' R _ U => hQ h' R U) hk
end
section
variable {prog : Program} {w : World} {A₀ : Around} {E : Value → Shared → Prop} {s' : Shared} {base g₀ g : Heap} {outer : List Env} {L a e : Addr} {m : Str → Option Value} {name : Str} {scope : Scope} {cd : Value}
  {b₀ : Stmt} {suite : List Stmt} {pos np : Pos} {rest : List ExceptHandler} {Q : Flow → Shared → Prop} {news : List (Addr × Obj)} {P : Params}
  {mg mb : Str → Option Value} {x : Str} {X T' : String}
theorem caught_T (R : RaisedSN base g (envOf name scope L a cd :: outer) e (.type X) news s'.heap) (hsm : g.UpToSlots s'.heap) (F : Fr g₀ L g m) (K : Below A₀ base outer g₀) (Sb : Stat base)
    (XB : (KQ P).In base) (TB : TopRead hd.view_39 lo mg mb base)
    (ex : nsIn (KQ P) mainGlobals x = some none) (hv : bootBuiltins x = some (.type T')) (hn' : x ≠ "__name__")
    (hexc : isSubtype (.type T') (.type "BaseException") = pure true) (hnt : isSubtype (.type ((Manifest.find? T').elim "type" fun y => y.metatype)) (.type "tuple") = pure false) (hsub : isSubtype (.type X) (.type T') = pure true)
    (k : ∀ h' g', KtsTurn (outer.filterMap (·.frame)) g₀ g' → Fr g' L h' m → News g' L h' news → (KQ P).In g' → TopRead hd.view_39 lo mg mb g' → Stat g' →
      wpAny (model prog w) ((A₀.deeper (envOf name scope L a cd)).mark (some (.ref e))) (execs (b₀ :: suite) (envOf name scope L a cd)) Q E { s' with heap := h' })
    (hk : scope.kind = .function := by rfl) (hx : (envOf name scope L a cd).kindOf x = some .globalImplicit := by rfl) (hd : (x == ("__debug__" : Str)) = false := by decide)
    (hE : PassesOwnAt (model prog w) ((A₀.deeper (envOf name scope L a cd)).mark (some (.ref e))) (A₀.deeper (envOf name scope L a cd)) (envOf name scope L a cd) E := by passes_own) :
    wpAny (model prog w) (A₀.deeper (envOf name scope L a cd)) (noteFrame (.ref e) (envOf name scope L a cd))
      (fun _ s₂ => wpAny (model prog w) (A₀.deeper (envOf name scope L a cd)) (setFlight (.ref e) none) (fun _ s₃ =>
        wpAny (model prog w) (A₀.deeper (envOf name scope L a cd)) (handleBy (.ref e) (envOf name scope L a cd) (.ExceptHandler (some (.Name x np)) none (b₀ :: suite) pos :: rest)) Q E s₃) E s₂) E s' := by
  obtain ⟨B, a0, hB, hBG, hl, hfl⟩ := R
  have hL : B.get? L = none := by
    obtain ⟨_, ⟨L', _, hf, hn', _⟩, _⟩ := hfl.2.2.1
    obtain rfl : L = L' := Option.some.inj hf
    exact hn'
  refine wpAny_looks_onW (Around.frames_deeper K.stack) rfl hfl fun h₄ hheld₄ hsm₄ => ?_
  refine wpAny_landsW hheld₄ fun h₅ hheld hsm₅' => ?_
  have hsm₅ := hsm₄.trans hsm₅'
  obtain ⟨g₅, T₅, F₅, K₅⟩ := kts_ground K F hBG hheld.1 (hsm.trans hsm₅)
  obtain ⟨ob, hob, hobc⟩ := hheld.there
  refine wpAny_handleBy_builtin (X := X) (T := T') (b := true) hexc hnt hsub (name_B F₅ (XB.keeps K₅.stays) (TB.keeps K₅.stays) ex hv hn' ⟨rfl, ⟨ob, hob, hobc⟩, ?_⟩ hk hx hd)
  refine lands_againW hheld fun h₆ hfl₆ hsm₆ => ?_
  obtain ⟨g₆, T₆, F₆, K₆⟩ := kts_ground K F hBG hfl₆.1 ((hsm.trans hsm₅).trans hsm₆)
  have Nl : News g₆ L h₆ news := fun q hq => ⟨hfl₆.1 _ _ (hl q hq).1, (fun z => by have := (hl q hq).1; rw [z, hL] at this; cases this), T₆.none_ _ (kts_none F.keep (hl q hq).2.1)⟩
  exact wpAny_passesOwnAt hE (k h₆ g₆ T₆ F₆ Nl (XB.keeps K₆.stays) (TB.keeps K₆.stays) (Sb.keeps K₆.stays))
end
section
variable {prog : Program} {w : World} {A A₀ : Around} {s : Shared} {K : Frag} {L : Addr} {h₀ base : Heap} {m mg mb : Str → Option Value} {p : Program} {loose : List Str} {news : List (Addr × Obj)}
/-- the def entered, the ledger going along -/
theorem code_led {env : Env} {outer : List Env} {R : Result → Shared → Prop} {name qual : Str} {params : Arguments} {body : List Stmt} {scope : Scope} {dV kV doc pm cdv ct oc : Value} {an od : Option Addr} {osl : Array (Option Value)} {f : Addr} {args : Args} {binds : List (Str × Value)}
    (B : Below A₀ base outer h₀) (F : Fr h₀ L s.heap m) (X₀ : K.In h₀) (N : News h₀ L s.heap news) (T : TopRead p loose mg mb h₀) (St : Stat h₀) (hA : A.frames = some (env :: outer)) (hf : env.frame = some L) (hke : env.scope.kind = .function)
    (ho : K.lookup f = some ⟨oc, od, .func (fnOf name qual params body scope dV kV doc pm an cdv ct), osl⟩) (hcd : codeIn K cdv qual = true) (hroom : A.depth < recursionLimit)
    (hbind : BindsTo s (fnOf name qual params body scope dV kV doc pm an cdv ct) args binds) (hloc : ∀ y ∈ binds, scope.names.lookup y.1 = some .local)
    (h : ∀ g L' h₁, Fr h₀ L g m → Fr g L' h₁ (fun y => binds.reverse.lookup y) → News g L' h₁ news → Below A base (env :: outer) g → K.In g → TopRead p loose mg mb g → Stat g →
      wpAny (model prog w) (A.deeper (envOf qual scope L' f cdv)) (execs body (envOf qual scope L' f cdv))
        (fun fl s' => LeaveK h₀ L m g R (match fl with | .ret v => v | _ => .none) s')
        (fun e s' => wpAny (model prog w) (A.deeper (envOf qual scope L' f cdv)) (leaving (envOf qual scope L' f cdv) e) (fun _ s'' => R (.error e) s'') (fun e' s'' => R (.error e') s'') s')
        { s with heap := h₁, toks := s.toks + binds.length })
    (hco : scope.isCoroutine = false) (hgen : scope.isGenerator = false) (hk : scope.kind = .function)
    (hcell : ∀ x ∈ scope.names, x.2 ≠ .cell) : codeAny (model prog w) A (.call (.ref f) args) R s :=
  callX_plain (cl := []) B F N T.nolimit hA hf hke ((X₀.keeps F.keep) _ _ ho) rfl (codeRec_of (X₀.keeps F.keep) hcd) hroom hbind hloc (fun g L' h₁ FG F' N' B' st _ => h g L' h₁ FG F' N' B' (X₀.keeps st) (T.keeps st) (St.keeps st)) hcell hco hgen hk
end
end
section
section
variable {prog : Program} {w : World} {A : Around} {E : Value → Shared → Prop} {s : Shared} {h₀ h₁ : Heap} {L : Addr} {m : Str → Option Value} {news : List (Addr × Obj)}
theorem split_eq {x y : Str} {t u v : Tok} {ys : List Str} {Q : Value → Shared → Prop} (hs : Txt.splitMax x y 1 = ys) (hl : x.length ≤ 640) (hy : (y.length == 0) = false) (F : Fr h₀ L s.heap m) (N : News h₀ L s.heap news)
    (h : ∀ l vs h' tk, StrsAre vs ys → (∀ a ∈ ys, a.length ≤ 640) → h'.IsList l vs.toArray → Fr h₀ L h' m → News h₀ L h' news → Q (.ref l) { s with heap := h', toks := tk }) :
    wpAny (model prog w) A (call (.builtin "str.split") [.str x t, .str y u, .int 1 v]) Q E s := by
  subst hs
  refine splitN2A F N hy (by decide) (fun l h' tk e S hlen hL F' N' => ?_) (by rw [sizeLine_eq]; omega)
  rw [e] at S hlen
  exact h _ _ h' tk S (fun a ha => Nat.le_trans (hlen a ha) hl) hL F' fun p hp => N' p (.tail _ hp)
theorem split_dot {x y : Str} {t u : Tok} {ys : List Str} {Q : Value → Shared → Prop} (hs : Txt.split x y = ys) (hl : x.length ≤ 640) (hy : (y.length == 0) = false) (F : Fr h₀ L s.heap m) (N : News h₀ L s.heap news)
    (h : ∀ l vs h' tk, StrsAre vs ys → h'.IsList l vs.toArray → Fr h₀ L h' m → News h₀ L h' news → Q (.ref l) { s with heap := h', toks := tk }) :
    wpAny (model prog w) A (call (.builtin "str.split") [.str x t, .str y u]) Q E s := by
  subst hs
  refine splitN1A F N hy (fun l h' tk e S hlen hL F' N' => ?_) (by rw [sizeLine_eq]; omega)
  rw [e] at S
  exact h _ _ h' tk S hL F' fun p hp => N' p (.tail _ hp)
theorem star_one {M T it l : Addr} {items : List Value} {y : Str} {Q : List Value → Shared → Prop} (hh : A.handled = none) (F : Fr h₀ L s.heap m)
    (N : News h₀ L s.heap ((M, mapObj T (.builtin "str.strip")) :: (T, oneObj it) :: (it, iterObj l 0) :: news)) (hi : StrsAre items [y]) (hz : ∀ x ∈ [y], x.length ≤ 640) (hl : s.heap.IsList l items.toArray)
    (h1 : it < T) (h2 : T < M) (h3 : l < it) (h4 : ∀ p ∈ news, p.1 < it)
    (h : ∀ t h' tk, Fr h₀ L h' m → News h₀ L h' news → Q [.str (Txt.strip y) t] { s with heap := h', toks := tk }) :
    StarOf (model prog w) A E (.ref M) Q s := by
  refine star_strip hh F N hi (fun x hx => Nat.le_trans (hz x hx) (by rw [sizeLine_eq]; omega)) (by rw [sizeLine_eq]; simp) hl h1 h2 h3 h4 fun vs h' tk hv F' N' => ?_
  cases hv with
  | cons _ t r => cases r; exact h t h' tk F' N'
theorem star_two {M T it l : Addr} {items : List Value} {a b : Str} {Q : List Value → Shared → Prop} (hh : A.handled = none) (F : Fr h₀ L s.heap m)
    (N : News h₀ L s.heap ((M, mapObj T (.builtin "str.strip")) :: (T, oneObj it) :: (it, iterObj l 0) :: news)) (hi : StrsAre items [a, b]) (hz : ∀ x ∈ [a, b], x.length ≤ 640) (hl : s.heap.IsList l items.toArray)
    (h1 : it < T) (h2 : T < M) (h3 : l < it) (h4 : ∀ p ∈ news, p.1 < it)
    (h : ∀ t u h' tk, Fr h₀ L h' m → News h₀ L h' news → Q [.str (Txt.strip a) t, .str (Txt.strip b) u] { s with heap := h', toks := tk }) :
    StarOf (model prog w) A E (.ref M) Q s := by
  refine star_strip hh F N hi (fun x hx => Nat.le_trans (hz x hx) (by rw [sizeLine_eq]; omega)) (by rw [sizeLine_eq]; simp) hl h1 h2 h3 h4 fun vs h' tk hv F' N' => ?_
  cases hv with
  | cons _ t r => cases r with
    | cons _ u r => cases r; exact h t u h' tk F' N'
end
/-- what a call of the def at f, made by the law's own frame, gives back where it may have met a refusal: the frames' slots may have been turned -/
noncomputable def ConT (w : World) (f : Addr) (args : List Value) (need : Nat) (out : List (Addr × Obj) → Value → Prop) : Prop :=
  ∀ (mg mb : Str → Option Value) (dp un : Nat) (gd : Option (List Code)) (cn : Str) (cs : Scope) (a : Addr) (ccd : Value) (cl : List (Str × Addr)) (A₀ : Around) (h₀ : Heap) (L : Addr) (m : Str → Option Value) (s : Shared)
    (Q E : Value → Shared → Prop),
    Below A₀ h₀ [] h₀ → Fr h₀ L s.heap m → (KQ w.params).In h₀ → News h₀ L s.heap [] → TopRead hd.view_39 lo mg mb h₀ → Stat h₀ → cs.kind = .function → dp + need < recursionLimit → un + 8 * need < cLine →
    (∀ r tl h' tk', Fr h₀ L h' m → News h₀ L h' tl → out tl r → Q r { s with heap := h', toks := tk' }) →
    wpAny (model PySem.Challenge.rw_il0122_01.row.prog w) (ktrTop dp un gd cn cs L a ccd cl []) (call (.ref f) args) Q E s
/-- the end of a call that met a refusal -/
theorem end_T {h₀ g g' h' : Heap} {L L' : Addr} {m m' : Str → Option Value} {fs : List Addr} (F : Fr h₀ L g m) (hfs : ∀ b ∈ fs, h₀.get? b = none) (T : KtsTurn fs g g') (F' : Fr g' L' h' m') : Fr h₀ L h' m := by
  obtain ⟨oL, es, ep, hoL, hd, r⟩ := F.ns
  obtain ⟨sl, hs⟩ := T.up (b := L) (o := oL) hoL
  exact ⟨⟨_, es, ep, F'.keep _ _ hs, hd, r⟩, fun b o e => F'.keep _ _ (T.other b o (F.keep b o e) fun hm => by rw [hfs b hm] at e; cases e), F.above⟩
theorem end_news {h₀ g g' h' : Heap} {L L' : Addr} {m : Str → Option Value} {fs : List Addr} {tl : List (Addr × Obj)} (F : Fr h₀ L g m) (T : KtsTurn fs g g') (N : News g' L' h' tl) : News h₀ L h' tl := by
  intro p hp
  have hn := (N p hp).2.2
  refine ⟨(N p hp).1, fun q => ?_, ?_⟩
  · obtain ⟨oL, es, ep, hoL, hd, r⟩ := F.ns
    obtain ⟨sl, hs⟩ := T.up (b := L) (o := oL) hoL
    rw [q, hs] at hn; cases hn
  · cases e : h₀.get? p.1 with
    | none => rfl
    | some o =>
      obtain ⟨sl, hs⟩ := T.up (b := p.1) (o := o) (F.keep _ _ e)
      rw [hs] at hn; cases hn
theorem end_ret {A₁ : Around} {outer : List Env} {h₀ g' h' : Heap} {L L' : Addr} {m m' : Str → Option Value} {s : Shared} {Q : Value → Shared → Prop} {tl : List (Addr × Obj)} {out : List (Addr × Obj) → Value → Prop} {v : Value} {tk : Nat}
    (hret : ∀ r tl h' tk', Fr h₀ L h' m → News h₀ L h' tl → out tl r → Q r { s with heap := h', toks := tk' }) (F : Fr h₀ L s.heap m)
    (F' : Fr g' L' h' m') (N' : News g' L' h' tl) (T : KtsTurn (outer.filterMap (·.frame)) s.heap g') (K : Below A₁ h₀ outer s.heap) (o : out tl v) : Q v { s with heap := h', toks := tk } :=
  hret v tl h' tk (end_T F (frames_none K) T F') (end_news F T N') o
end
section
theorem newBack_to {K : Frag} {C x : Addr} {ox : Obj} {R : Result → Shared → Prop} {h : Heap} {gs dr tk os} (hx : h.get? x = some ox) (hc : ox.cls = .ref C) (X : K.In h) (z : R (.ok (.ret (.ref x))) ⟨h, gs, dr, tk, os⟩) : NewBack K C R (.ok (.ret (.ref x))) ⟨h, gs, dr, tk, os⟩ :=
  ⟨x, ox, rfl, hx, hc, X, z⟩
end
section
/-- an int whose text the model writes -/
def shownInt : ItemKind Int := ItemKind.int.within fun a => a.natAbs.log2 < 1920
theorem shown_are {vs : List Value} {ns : List Int} (h : AreOf ItemKind.int vs ns) (hb : ∀ n ∈ ns, n.natAbs.log2 < 1920) : AreOf shownInt vs ns := h.withinP hb
section
variable {w : World} {A : Around} {E : Value → Shared → Prop} {s : Shared} {h₀ : Heap} {L : Addr} {m mg mb : Str → Option Value} {news : List (Addr × Obj)} {env : Env} {scope : Scope}

theorem no_tests {C : Addr} {s₂ : Shared} {E' : Value → Shared → Prop} :
    wpAny (model PySem.Challenge.rw_il0122_01.row.prog w) A (forIn ([] : List Expr) true fun c r => if r = true then do let ok ← isTrue c (compEnv scope C env) (eval c (compEnv scope C env)); pure (ForInStep.yield ok) else pure (ForInStep.yield r))
      (fun ok s₃ => ok = true ∧ Keeps s₂ s₃) E' s₂ := wpAny_pure ⟨rfl, s₂.heap, s₂.toks, rfl, fun _ _ e => e⟩

theorem elt_shown {C : Addr} {n : Int} {t : Tok} {s₂ : Shared} {m₂ : Str → Option Value} {E' : Value → Shared → Prop} {px py pz : Pos}
    (hs : nsIn (KQ w.params) mainGlobals (Str.ofString "str") = some none) (X : (KQ w.params).In h₀) (T : TopRead hd.view_39 lo mg mb h₀) (k : ∀ b o, h₀.get? b = some o → s₂.heap.get? b = some o)
    (hg : env.globals = mainGlobals) (hbn : env.builtins = builtinsNs) (hk : scope.kind = .function) (hx : scope.names.lookup (Str.ofString "number") = some .local) (hst : scope.names.lookup (Str.ofString "str") = some .globalImplicit)
    (hb : n.natAbs.log2 < 1920) (hn : s₂.heap.Ns (compEnv scope C env).locals m₂) (hm : m₂ (Str.ofString "number") = some (.int n t)) :
    wpAny (model PySem.Challenge.rw_il0122_01.row.prog w) A (eval (.Call (.Name (Str.ofString "str") px) [.Name (Str.ofString "number") py] [] pz) (compEnv scope C env)) (fun r s₃ => Carried r (.str (Str.ofString (toString n))) ∧ Keeps s₂ s₃) E' s₂ := by
  refine wpAny_Call_NameR (Calls.Name_function_global hk hst (Calls.loadGlobal_builtin (mg := mg) (mb := mb) (show s₂.heap.Ns env.globals mg from hg ▸ T.g.keeps k) (mg_none_of X T.g hs) (show s₂.heap.Ns env.builtins mb from hbn ▸ T.b.keeps k)
    ((T.builtins _ (by decide)).trans (show bootBuiltins (Str.ofString "str") = some (.type "str") by decide +kernel)) ?_) (by decide))
  show wpAny _ _ (callWith pz (.type "str") [] (backTo pz (starEach [.Name (Str.ofString "number") py] (compEnv scope C env))) []) _ _ _
  refine PySem.callWith_type rfl (Calls.evalArgs_plain (Calls.spliced_cons (wpAny_Name (wpAny_loadName_local hk hx hn hm (Calls.spliced_nil ?_)) (by decide))))
  refine P.str_of_int hb ?_
  exact ⟨.str _ _, s₂.heap, _, rfl, fun _ _ e => e⟩

theorem comp_tuple {l : Addr} {vs : List Value} {ns : List Int} {px py pz : Pos} {Q : Value → Shared → Prop}
    (hs : nsIn (KQ w.params) mainGlobals (Str.ofString "str") = some none) (X : (KQ w.params).In h₀) (T : TopRead hd.view_39 lo mg mb h₀) 
    (hg : env.globals = mainGlobals) (hbn : env.builtins = builtinsNs) (hk : scope.kind = .function) (hx : scope.names.lookup (Str.ofString "number") = some .local) (hst : scope.names.lookup (Str.ofString "str") = some .globalImplicit)
    (hh : A.handled = none) (F : Fr h₀ L s.heap m) (N : News h₀ L s.heap news) (hl : IsTup s.heap l vs.toArray) (hi : AreOf shownInt vs ns) (hsz : ns.length ≤ sizeLine)
    (ret : ∀ D ys n h' tk, Fr h₀ L h' m → News h₀ L h' ((D, { cls := .type "list", data := .seq ys n }) :: news) → CarriedAll ys.toList (ns.map fun n => .str (Str.ofString (toString n))) → Q (.ref D) { s with heap := h', toks := tk }) :
    wpAny (model PySem.Challenge.rw_il0122_01.row.prog w) A (pyIter (.ref l)) (CompPost PySem.Challenge.rw_il0122_01.row.prog w A env scope (Str.ofString "number") [] (.Call (.Name (Str.ofString "str") px) [.Name (Str.ofString "number") py] [] pz) Q) E s := by
  have hlt : l < s.heap.objs.size := by obtain ⟨_, e, _⟩ := hl; exact Heap.lt_size e
  have hls : s.heap.IsTuple l vs.toArray := hl
  refine wpAny_pyIter_tuple hls ?_
  have up : ∀ (h' : Heap), (∀ b o', b ∉ [s.heap.objs.size] → (s.heap.push { cls := .type "tuple_iterator", data := .fields #[.ref l, .int 0 0] }).get? b = some o' → h'.get? b = some o') → ∀ b o', s.heap.get? b = some o' → h'.get? b = some o' :=
    fun h' hk b o' e => hk b o' (not_iter_of_old e) (Heap.get?_push_of_some _ e)
  refine ⟨shownInt.lift fun _ => true, fun v r => ∃ a, shownInt.is a v ∧ Carried r (.str (Str.ofString (toString a))), s.heap.objs.size, [s.heap.objs.size, l], [s.heap.objs.size], vs.toArray.size, _, _, rfl, Walks.tuple hh _ l (Nat.ne_of_lt hlt) vs.toArray, (by rw [List.size_toArray, hi.length]; exact hsz),
    ⟨⟨_, Heap.get?_push_size _ rfl, rfl, rfl⟩, hls.at fun o e => Heap.get?_push_of_some _ e⟩, ?_, ⟨?_, ?_⟩, ?_⟩
  · intro b hb
    show b < (s.heap.push _).objs.size
    rw [Heap.size_push]
    rcases List.mem_cons.mp hb with rfl | hb
    · exact Nat.lt_succ_self _
    · rw [List.mem_singleton.mp hb]; exact Nat.lt_succ_of_lt hlt
  · intro C i v s₃ m₃ E' hP hn hm _ htk
    obtain ⟨a, _, ha⟩ := hi.get i v (by simpa using hP)
    rw [ItemKind.lift_is ha]
    exact no_tests
  · intro C i v s₃ m₃ E' hP hp hn hm kk htk
    obtain ⟨a, _, ha⟩ := hi.get i v (by simpa using hP)
    obtain ⟨⟨t, rfl⟩, hb⟩ := id ha
    exact wpAny_mono (elt_shown hs X T (fun b o e => up s₃.heap kk b o (F.keep b o e)) hg hbn hk hx hst hb hn hm) (fun r s₄ h₄ => ⟨⟨_, ha, h₄.1⟩, h₄.2⟩) fun _ _ e => e
  · intro D h' tk ys vs' hnew hlD hplD hlen hP hF hkk
    have e' : vs' = vs := by simpa using walked_is hlen hP
    subst e'
    have F' := F.keeps (up h' hkk)
    obtain ⟨n, hD⟩ := hplD
    refine ret D ys n h' tk F' (fun p hp => ?_) (by have z := hi.paired (fun _ => true) _ _ hF; rwa [List.filter_eq_self.mpr (fun _ _ => rfl)] at z)
    rcases List.mem_cons.mp hp with rfl | hp
    · refine ⟨hD, fun q => ?_, ?_⟩
      · have q' : D = L := q
        obtain ⟨o, es, ep, ho, hdd, _⟩ := F.ns
        rw [q', Heap.get?_push_of_some _ ho] at hnew; cases hnew
      · show h₀.get? D = none
        cases e : h₀.get? D with
        | none => rfl
        | some o' => rw [Heap.get?_push_of_some _ (F.keep _ _ e)] at hnew; cases hnew
    · exact N.grown (up h' hkk) p hp
theorem comp_list {l : Addr} {vs : List Value} {ns : List Int} {px py pz : Pos} {Q : Value → Shared → Prop}
    (hs : nsIn (KQ w.params) mainGlobals (Str.ofString "str") = some none) (X : (KQ w.params).In h₀) (T : TopRead hd.view_39 lo mg mb h₀) 
    (hg : env.globals = mainGlobals) (hbn : env.builtins = builtinsNs) (hk : scope.kind = .function) (hx : scope.names.lookup (Str.ofString "number") = some .local) (hst : scope.names.lookup (Str.ofString "str") = some .globalImplicit)
    (hh : A.handled = none) (F : Fr h₀ L s.heap m) (N : News h₀ L s.heap news) (hls : s.heap.IsList l vs.toArray) (hi : AreOf shownInt vs ns) (hsz : ns.length ≤ sizeLine)
    (ret : ∀ D ys n h' tk, Fr h₀ L h' m → News h₀ L h' ((D, { cls := .type "list", data := .seq ys n }) :: news) → CarriedAll ys.toList (ns.map fun n => .str (Str.ofString (toString n))) → Q (.ref D) { s with heap := h', toks := tk }) :
    wpAny (model PySem.Challenge.rw_il0122_01.row.prog w) A (pyIter (.ref l)) (CompPost PySem.Challenge.rw_il0122_01.row.prog w A env scope (Str.ofString "number") [] (.Call (.Name (Str.ofString "str") px) [.Name (Str.ofString "number") py] [] pz) Q) E s := by
  have hlt : l < s.heap.objs.size := by obtain ⟨_, e, _⟩ := hls; exact Heap.lt_size e
  refine wpAny_pyIter_list hls ?_
  have up : ∀ (h' : Heap), (∀ b o', b ∉ [s.heap.objs.size] → (s.heap.push { cls := .type "list_iterator", data := .fields #[.ref l, .int 0 0] }).get? b = some o' → h'.get? b = some o') → ∀ b o', s.heap.get? b = some o' → h'.get? b = some o' :=
    fun h' hk b o' e => hk b o' (not_iter_of_old e) (Heap.get?_push_of_some _ e)
  refine ⟨shownInt.lift fun _ => true, fun v r => ∃ a, shownInt.is a v ∧ Carried r (.str (Str.ofString (toString a))), s.heap.objs.size, [s.heap.objs.size, l], [s.heap.objs.size], vs.toArray.size, _, _, rfl, Walks.list hh _ l (Nat.ne_of_lt hlt) vs.toArray, (by rw [List.size_toArray, hi.length]; exact hsz),
    ⟨⟨_, Heap.get?_push_size _ rfl, rfl, rfl⟩, hls.at fun o e => Heap.get?_push_of_some _ e⟩, ?_, ⟨?_, ?_⟩, ?_⟩
  · intro b hb
    show b < (s.heap.push _).objs.size
    rw [Heap.size_push]
    rcases List.mem_cons.mp hb with rfl | hb
    · exact Nat.lt_succ_self _
    · rw [List.mem_singleton.mp hb]; exact Nat.lt_succ_of_lt hlt
  · intro C i v s₃ m₃ E' hP hn hm _ htk
    obtain ⟨a, _, ha⟩ := hi.get i v (by simpa using hP)
    rw [ItemKind.lift_is ha]
    exact no_tests
  · intro C i v s₃ m₃ E' hP hp hn hm kk htk
    obtain ⟨a, _, ha⟩ := hi.get i v (by simpa using hP)
    obtain ⟨⟨t, rfl⟩, hb⟩ := id ha
    exact wpAny_mono (elt_shown hs X T (fun b o e => up s₃.heap kk b o (F.keep b o e)) hg hbn hk hx hst hb hn hm) (fun r s₄ h₄ => ⟨⟨_, ha, h₄.1⟩, h₄.2⟩) fun _ _ e => e
  · intro D h' tk ys vs' hnew hlD hplD hlen hP hF hkk
    have e' : vs' = vs := by simpa using walked_is hlen hP
    subst e'
    have F' := F.keeps (up h' hkk)
    obtain ⟨n, hD⟩ := hplD
    refine ret D ys n h' tk F' (fun p hp => ?_) (by have z := hi.paired (fun _ => true) _ _ hF; rwa [List.filter_eq_self.mpr (fun _ _ => rfl)] at z)
    rcases List.mem_cons.mp hp with rfl | hp
    · refine ⟨hD, fun q => ?_, ?_⟩
      · have q' : D = L := q
        obtain ⟨o, es, ep, ho, hdd, _⟩ := F.ns
        rw [q', Heap.get?_push_of_some _ ho] at hnew; cases hnew
      · show h₀.get? D = none
        cases e : h₀.get? D with
        | none => rfl
        | some o' => rw [Heap.get?_push_of_some _ (F.keep _ _ e)] at hnew; cases hnew
    · exact N.grown (up h' hkk) p hp
end
theorem q_strname (w : World) : nsIn (KQ w.params) mainGlobals (Str.ofString "str") = some none := by kernel_rfl
end
section
theorem carried_read {h : Heap} {v : Value} {d : PyData} (c : Carried v d) : Reads h v d [] := by cases c <;> constructor
theorem carried_reads {h : Heap} : ∀ {vs : List Value} {ds : List PyData}, CarriedAll vs ds → ReadsAll h vs ds []
  | _, _, .nil => .nil
  | _, _, .cons c r => by simpa using ReadsAll.cons (carried_read (h := h) c) (carried_reads r)
/-- what told gives back of a text that is read -/
def readData (a b : Str) (n₁ n₂ n₃ n₄ : Int) : PyData := .list [.str (Str.ofString "read"), .tuple [.str a, .str b], .tuple [.tuple [.int n₁, .int n₂], .tuple [.int n₃, .int n₄]], .list ([n₁, n₂, n₃, n₄].map fun n => .str (Str.ofString (toString n)))]
def refusedData (a b : Str) : PyData := .list [.str (Str.ofString "refused"), .tuple [.str a, .str b]]
def noPairData : PyData := .list [.str (Str.ofString "no pair")]
/-- the value is read as it is as long as the objects stand -/
def ReadsOn (tl : List (Addr × Obj)) (r : Value) (d : PyData) : Prop := ∃ as, ∀ h : Heap, (∀ p ∈ tl, h.get? p.1 = some p.2) → Reads h r d as
theorem ReadsOn.at {tl : List (Addr × Obj)} {r : Value} {d : PyData} (x : ReadsOn tl r d) {h₀ h : Heap} {L : Addr} (N : News h₀ L h tl) : ∃ as, Reads h r d as := let ⟨as, k⟩ := x; ⟨as, k h fun p hp => (N p hp).1⟩
theorem read_of {tl : List (Addr × Obj)} {l p q i j k : Addr} {tk ta tb t₁ t₂ t₃ t₄ : Tok} {ys : Array Value} {n n₀ : Nat} {a b : Str} {n₁ n₂ n₃ n₄ : Int} (hl : (l, W.listOf #[.str (Str.ofString "read") tk, .ref p, .ref q, .ref k] n₀) ∈ tl)
    (hp : (p, ({ cls := .type "tuple", data := .seq #[.str a ta, .str b tb] } : Obj)) ∈ tl) (hq : (q, ({ cls := .type "tuple", data := .seq #[.ref i, .ref j] } : Obj)) ∈ tl)
    (hi : (i, ({ cls := .type "tuple", data := .seq #[.int n₁ t₁, .int n₂ t₂] } : Obj)) ∈ tl) (hj : (j, ({ cls := .type "tuple", data := .seq #[.int n₃ t₃, .int n₄ t₄] } : Obj)) ∈ tl)
    (hk : (k, ({ cls := .type "list", data := .seq ys n } : Obj)) ∈ tl) (c : CarriedAll ys.toList ([n₁, n₂, n₃, n₄].map fun n => .str (Str.ofString (toString n)))) : ReadsOn tl (.ref l) (readData a b n₁ n₂ n₃ n₄) :=
  ⟨_, fun h H => reads_list_at (H _ hl) rfl rfl (.cons (.str _ _) (.cons (.tuple (H _ hp) rfl rfl (.cons (.str _ _) (.cons (.str _ _) .nil))) (.cons (.tuple (H _ hq) rfl rfl (.cons (.tuple (H _ hi) rfl rfl (.cons (.int _ _) (.cons (.int _ _) .nil))) (.cons (.tuple (H _ hj) rfl rfl (.cons (.int _ _) (.cons (.int _ _) .nil))) .nil)))
    (.cons (reads_list_at (H _ hk) rfl rfl (carried_reads c)) .nil))))⟩
theorem refused_of {tl : List (Addr × Obj)} {l p : Addr} {tk ta tb : Tok} {n₀ : Nat} {a b : Str} (hl : (l, W.listOf #[.str (Str.ofString "refused") tk, .ref p] n₀) ∈ tl)
    (hp : (p, ({ cls := .type "tuple", data := .seq #[.str a ta, .str b tb] } : Obj)) ∈ tl) : ReadsOn tl (.ref l) (refusedData a b) :=
  ⟨_, fun h H => reads_list_at (H _ hl) rfl rfl (.cons (.str _ _) (.cons (.tuple (H _ hp) rfl rfl (.cons (.str _ _) (.cons (.str _ _) .nil))) .nil))⟩
theorem nopair_of {tl : List (Addr × Obj)} {l : Addr} {tk : Tok} {n₀ : Nat} (hl : (l, W.listOf #[.str (Str.ofString "no pair") tk] n₀) ∈ tl) : ReadsOn tl (.ref l) noPairData := ⟨_, fun h H => reads_list_at (H _ hl) rfl rfl (.cons (.str _ _) .nil)⟩
theorem ret_all {h₀ h' : Heap} {L L' : Addr} {m m' : Str → Option Value} {s : Shared} {Q : Value → Shared → Prop} {out : Heap → List (Addr × Obj) → Value → Prop} {v : Value} {tk' : Nat} {tl : List (Addr × Obj)}
    (hret : ∀ r tl h' tk', Fr h₀ L h' m → News h₀ L h' tl → (∀ p ∈ tl, s.heap.get? p.1 = none) → s.heap.StaysIn h' → out h' tl r → Q r { s with heap := h', toks := tk' })
    (F : Fr h₀ L h' m) (F' : Fr s.heap L' h' m') (N : News h₀ L h' tl) (N' : News s.heap L' h' tl) (o : out h' tl v) : Q v { s with heap := h', toks := tk' } :=
  hret v tl h' tk' F N (fun q hq => (N' q hq).2.2) F'.keep o
end
section
section
variable {P P' : List Code → Prop} {w : World} {A : Around} {E : Value → Shared → Prop} {s : Shared}
theorem refused_fnP {prog : Program} {K : Frag} {R : Result → Shared → Prop} {f : Addr} {args : Args} {name qual : Str} {params : Arguments} {body : List Stmt} {scope : Scope} {dV kV doc pm cdv ct oc : Value} {an od : Option Addr} {osl : Array (Option Value)}
    (hP : ∀ l, P l → P' (.call (.ref f) args :: l)) (X : K.In s.heap) (ho : K.lookup f = some ⟨oc, od, .func (fnOf name qual params body scope dV kV doc pm an cdv ct), osl⟩) (hcd : codeIn K cdv qual = true)
    (h : wpP P' (model prog w) A.in1 (bindArgs (fnOf name qual params body scope dV kV doc pm an cdv ct) args) (fun _ _ => False) (fun e s' => R (.error e) s') s) :
    codeP P (model prog w) A (.call (.ref f) args) R s := by
  refine codeP_tree hP ?_
  show wpP P' _ A.in1 (callAny (.ref f) args) _ _ s
  simp only [callAny]
  refine wpP_any (wpAny_load (X _ _ ho) ?_)
  obtain ⟨c, oc, vs, tq, hc, hoc, hdc, hq⟩ := codeRec_of X hcd
  have hc2 : cdv = .ref c := hc
  subst hc2
  simp only [callFunction]
  refine wpP_any (m := field (.ref c) 1) (wpAny_field hoc hdc hq (wpP_any (wpAny_pure ?_)))
  exact wpP_bind (wpP_mono h (fun _ _ x => x.elim) fun _ _ x => x)
theorem binder_quiet {M : Model} {α : Type} {msg : String} {Q : α → Shared → Prop} (hq : ∀ l, P l → pythonCodeMadeTheCall [] l = false) (hm : decide ((msg : Str).length ≤ sizeLine) = true) (hh : A.handled = none)
    (h : ∀ h' tk e, Heap.NewExc s.heap h' e "TypeError" → E (.ref e) { s with heap := h', toks := tk }) : wpP P M A (theBinderRefuses msg : Sem α) Q E s := by
  unfold theBinderRefuses
  exact wpP_any (wpAny_mkStr (raise_quiet (s := { s with toks := s.toks + 1 }) hq plainExc_TypeError hh (by show 1 ≤ sizeLine; decide) fun h' e n => h h' _ e n) (of_decide_eq_true hm))
theorem short_callP {R : Result → Shared → Prop} {a : Value} (hh : A.handled = none) (X : (KQ w.params).In s.heap)
    (h : ∀ h' tk e, Heap.NewExc s.heap h' e "TypeError" → R (.error (.ref e)) { s with heap := h', toks := tk }) :
    codeP ByCaller (model PySem.Challenge.rw_il0122_01.row.prog w) A (.call (.ref 89) ⟨[.ref 162, a], []⟩) R s := by
  revert X; k_fill; intro X
  obtain ⟨hp, g, d, tk, os⟩ := s
  k_dflt (refine' refused_fnP (caller_up _) X ?ho ?cd ?_; (case ho => k_is); (case cd => k_is))
  unfold bindArgs
  refine wpP_any ?_
  repeat lk
  refine wpP_any (wpAny_of_eq (a := none) rfl ?_)
  refine wpP_off (by kernel_rfl) ?_
  refine wpP_on (by kernel_rfl) ?_
  refine wpP_any (wpAny_rule ?_)
  with_reducible refine wpP_bind (binder_quiet (caller_quiet []) ?_ hh ?_)
  · kernel_rfl
  · exact h
/-- Pair(a): refused; the caller is in the stack -/
theorem call_shortP {a : Value} {Q : Value → Shared → Prop} (hh : A.handled = none) (X : (KQ w.params).In s.heap) (St : Stat s.heap)
    (h : ∀ h' tk e, Heap.NewExc s.heap h' e "TypeError" → E (.ref e) { s with heap := h', toks := tk }) :
    wpP ByCaller (model PySem.Challenge.rw_il0122_01.row.prog w) A (call (.ref 162) [a]) Q E s := by
  obtain ⟨hp, g, d, tk, os⟩ := s
  obtain ⟨oc, od, cd, sl, hC⟩ := q_cls w.params
  refine wpP_call (codeP_tree (caller_up _) ?_)
  show wpP _ _ _ (callAny (.ref 162) _) _ _ _
  unfold callAny
  refine wpP_any (wpAny_load (X _ _ hC) ?_)
  show wpP _ _ _ (callAny.viaDunder (.ref 162) _) _ _ _
  unfold callAny.viaDunder
  have call := looks_specialIn (M := model PySem.Challenge.rw_il0122_01.row.prog w) X (q_specialCall w.params)
  have typ := looks_instIn (M := model PySem.Challenge.rw_il0122_01.row.prog w) X (q_inst w.params)
  have mro : Looks (model PySem.Challenge.rw_il0122_01.row.prog w) hp (mroOf (.ref 162)) [.ref 162, .ref 139, .type "tuple", .type "object"] := Looks.of_peek X (q_mro _ _)
  have made : Looks (model PySem.Challenge.rw_il0122_01.row.prog w) hp (Bind.madeBy (.ref 162)) none := Looks.of_peek X (q_made _ _)
  refine wpP_any (call.at ?_)
  dsimp only
  rw [tc_bind]
  refine wpP_any (wpAny_pure ?_)
  refine wpP_any (wpAny_pure ?_)
  refine wpP_pure (a := Fin.again (.call (.builtin "type.__call__") ⟨[.ref 162, a], []⟩)) (And.intro rfl (codeP_tree (caller_up _) ?_))
  show wpP _ _ _ (callAny (.builtin "type.__call__") _) _ _ _
  refine wpP_any (m := checkBuiltinCall "type.__call__" _) (check_slot tc_kind tc_split typ (tc_args _ _ _) ?_)
  refine wpP_pure (a := Fin.again (.builtin "type.__call__" ⟨[.ref 162, a], []⟩)) (And.intro (Code.quiet_builtin _ (by decide +kernel)) (codeP_tree (caller_up _) ?_))
  rw [den_builtin entry_typeCall]
  refine wpP_any (m := mroOf (.ref 162)) (mro.at ?_)
  refine wpP_any (m := Bind.madeBy (.ref 162)) (made.at ?_)
  refine wpP_any (m := getAttr (.ref 162) "__new__") (cls_sm' (s := ⟨hp, g, d, tk, os⟩) X St (q_typ _) (q_new _) (q_newrec _) rfl ?_)
  refine wpP_bind (wpP_holding (wpP_call ?_))
  exact short_callP (s := ⟨hp, g, d, tk + 1, os⟩) hh X h
end
end
section
section
variable {P : List Code → Prop} {prog : Program} {w : World} {A : Around} {E : Value → Shared → Prop} {s : Shared} {env : Env}
/-- what is known of the stack is known above any code -/
abbrev Up (P : List Code → Prop) : Prop := ∀ c l, P l → P (c :: l)
theorem codeP_func {R : Result → Shared → Prop} {body : List Stmt} (up : Up P)
    (h : wpP P (model prog w) (A.deeper env) (execs body env) (fun f s' => R (.ok (.ret (match f with | .ret v => v | _ => .none))) s')
      (fun e s' => wpAny (model prog w) (A.deeper env) (leaving env e) (fun _ s'' => R (.error e) s'') (fun e' s'' => R (.error e') s'') s') s) :
    codeP P (model prog w) A (.func body env) R s := by
  refine codeP_tree (up _) ?_
  show wpP _ _ (A.deeper env) (do point; match ← (execs body env).onRaise (leaving env) with | .ret v => ret v | _ => ret .none) _ _ s
  refine wpP_any (wpAny_point (wpP_bind (wpP_onRaise (wpP_mono h (fun f s' h' => ?_) fun _ _ h' => wpP_of h'))))
  cases f <;> exact wpP_pure h'
theorem codeP_def {R : Result → Shared → Prop} {a : Addr} {o : Obj} {fd : FuncData} {body : List Stmt} {args : Args} {binds : List (Str × Value)} (up : Up P)
    (hroom : A.depth < recursionLimit) (ho : s.heap.get? a = some o) (hdata : o.data = .func fd) (hlim : s.heap.NoLimit) (hcd : s.heap.CodeRec fd.code fd.qualname)
    (hbody : fd.body = .stmts body) (hbind : BindsTo s fd args binds) (hcell : ∀ x ∈ fd.scope.names, x.2 ≠ .cell) (hloc : ∀ x ∈ binds, fd.scope.names.lookup x.1 = some .local)
    (h : ∀ h₀, h₀.Ns s.heap.objs.size (fun x => binds.reverse.lookup x) → (∀ b o, s.heap.get? b = some o → h₀.get? b = some o) →
      wpP P (model prog w) (A.deeper (callEnv fd s.heap.objs.size a)) (execs body (callEnv fd s.heap.objs.size a)) (fun f s' => R (.ok (.ret (match f with | .ret v => v | _ => .none))) s')
        (fun e s' => wpAny (model prog w) (A.deeper (callEnv fd s.heap.objs.size a)) (leaving (callEnv fd s.heap.objs.size a) e) (fun _ s'' => R (.error e) s'') (fun e' s'' => R (.error e') s'') s')
        { s with heap := h₀, toks := s.toks + binds.length })
    (hco : fd.scope.isCoroutine = false) (hgen : fd.scope.isGenerator = false) (hk : fd.scope.kind = .function) :
    codeP P (model prog w) A (.call (.ref a) args) R s := by
  refine codeP_tree (up _) ?_
  show wpP _ _ A.in1 (callAny (.ref a) args) _ _ s
  unfold callAny
  refine wpP_any (wpAny_load ho ?_)
  obtain ⟨c, oc, vs, tq, hc, hoc, hdc, hq⟩ := hcd
  rw [hdata]
  show wpP _ _ _ (callFunction a fd args) _ _ _
  unfold callFunction
  rw [hc]
  refine wpP_any (m := field (.ref c) 1) (wpAny_field hoc hdc hq (wpP_any (wpAny_pure ?_)))
  refine wpP_any (hbind _ _ _ _ ?_)
  rw [hbody]
  refine wpP_any (wpAny_newFunctionEnv hcell hloc (fun h₁ hns hsb => ?_) hk)
  refine wpP_any (wpAny_enterFrame (hlim.fresh _ hsb) hroom ?_)
  rw [hgen, hco]
  rw [← hc]
  refine wpP_pure (And.intro rfl (codeP_func up ?_))
  exact h h₁ hns fun b o e => hsb.extBut b o (Nat.ne_of_lt (Heap.lt_size e)) (Heap.get?_push_of_some _ e)
end
section
variable {P : List Code → Prop} {M : Model} {A : Around} {E : Value → Shared → Prop} {s : Shared} {env : Env}
theorem execsP_cons {st : Stmt} {rest : List Stmt} {Q : Flow → Shared → Prop} (h : wpP P M A (exec st env) (fun f s' => match f with | .next => wpP P M A (execs rest env) Q E s' | f => Q f s') E s) : wpP P M A (execs (st :: rest) env) Q E s := by
  rw [execs_cons]
  refine wpP_bind (wpP_mono h (fun f s' h' => ?_) fun _ _ x => x)
  cases f <;> first | exact h' | exact wpP_pure h'
theorem execP_If {test : Expr} {body orelse : List Stmt} {pos : Pos} {Q : Flow → Shared → Prop} (h : wpP P M A (isTrue test env (eval test env)) (fun b s₂ => if b then wpP P M A (execs body env) Q E s₂ else wpP P M A (execs orelse env) Q E s₂) E s) :
    wpP P M A (exec (.If test body orelse pos) env) Q E s := by
  rw [exec_If]
  refine wpP_any (wpAny_standAt (wpP_bind (wpP_mono h (fun b s₂ h₂ => ?_) fun _ _ x => x)))
  cases b <;> exact h₂
theorem operateP {vs : List Value} {m : Sem Value} {Q : Value → Shared → Prop} (h : wpP P M A m Q E s) : wpP P M A (operate vs m) Q E s := fun Γ p i j => by
  rw [Sem.wp_operate]; exact h Γ p i j
theorem isTrueP_Compare {l r : Expr} {op : CmpOp} {pos : Pos} {whole : Sem Value} {Q : Bool → Shared → Prop}
    (h : wpP P M A (eval l env) (fun a s₁ => wpAny M A (eval r env) (fun b s₂ => wpAny M A (compareOp op a b) (fun c s₃ => wpAny M A (truthy c) Q E s₃) E s₂) E s₁) E s)
    (hm : behindInMarks op r = false := by with_unfolding_all rfl) : wpP P M A (isTrue (.Compare l [op] [r] pos) env whole) Q E s := by
  rw [isTrue_Compare1, markedBehindIn_of_false hm]
  refine wpP_bind (wpP_mono h (fun a s₁ h₁ => wpP_any (wpAny_holding (wpAny_mono h₁ (fun b s₂ h₂ => wpP_any (wpAny_standAt (wpP_of ?_))) fun _ _ x => x))) fun _ _ x => x)
  exact wpAny_bind (wpAny_operating (wpAny_mono h₂ (fun c s₃ h₃ => wpAny_holding h₃) fun _ _ x => x))
theorem evalP_Call {func : Expr} {args : List Expr} {pos : Pos} {Q : Value → Shared → Prop} (h : wpAny M A (eval func env) (fun f s₁ => wpP P M A (callWith pos f [] (backTo pos (starEach args env)) []) Q E s₁) E s)
    (he : eval (.Call func args [] pos) env = (do callWith pos (← eval func env) [] (backTo pos (starEach args env)) (backToKw pos (keywordEach [] env))) := by rfl) :
    wpP P M A (eval (.Call func args [] pos) env) Q E s := by
  rw [he]; exact wpP_any h
theorem evalP_Method {o : Expr} {name : Str} {apos pos : Pos} {args : List Expr} {pl : Sem Bool} {Q : Value → Shared → Prop}
    (h : wpAny M A (eval o env) (fun ov s₁ => wpAny M A (getMethod ov name pl) (fun fx s₂ => wpP P M A (callWith pos fx.1 fx.2 (backTo pos (starEach args env)) []) Q E s₂) E s₁) E s)
    (he : eval (.Call (.Attribute o name apos) args [] pos) env = (do
      let ov ← eval o env
      standAt apos.atName
      let (f, first) ← holding [ov] (getMethod ov name pl)
      callWith pos f first (backTo pos (starEach args env)) []) := by rfl) :
    wpP P M A (eval (.Call (.Attribute o name apos) args [] pos) env) Q E s := by
  rw [he]
  exact wpP_any (wpAny_mono h (fun ov s₁ h₁ => wpP_any (wpAny_standAt (wpP_any (wpAny_holding h₁)))) fun _ _ x => x)
/-- the call behind the arguments -/
theorem callWithP {f : Value} {first : List Value} {pos : Pos} {Q : Value → Shared → Prop} {P' : Heap → Prop} {args : List (Bool × Sem Value)}
    (hk : ∀ h, P' h → ∃ k, (k = Keeper.frame ∨ k = Keeper.machine ∨ k = Keeper.boundFrame) ∧ Looks M h (keeperOf f) k)
    (h : wpAny M A (evalArgs f true args []) (fun a s₁ => P' s₁.heap ∧ wpP P M A (call f (first ++ a.pos) a.kw) Q E s₁) E s) : wpP P M A (callWith pos f first args []) Q E s := by
  unfold callWith
  refine wpP_any (wpAny_holding (wpAny_mono h (fun a s₁ h₁ => wpP_any (wpAny_standAt ?_)) fun _ _ x => x))
  obtain ⟨k, hk', L⟩ := hk _ h₁.1
  refine wpP_any (L.here ?_)
  have tail : ∀ {t : Sem Value}, wpP P M A t Q E s₁ → wpP P M A (t >>= fun r => holding [r] point >>= fun _ => pure r) Q E s₁ :=
    fun ht => wpP_bind (wpP_mono ht (fun r s₂ hr => wpP_any (wpAny_holding (wpAny_point (wpP_pure hr)))) fun _ _ x => x)
  have marked (mk : Value) : wpP P M A (callMarked mk f (first ++ a.pos) a.kw) Q E s₁ := by unfold callMarked; exact wpP_keep h₁.2
  cases hst : args.any (·.1)
  · simp only [List.any_nil, Bool.or_false]
    rcases hk' with rfl | rfl | rfl <;> dsimp only <;> first | exact tail h₁.2 | (split <;> first | exact tail h₁.2 | exact tail (marked _))
  · simp only [List.any_nil, Bool.or_false]
    rcases hk' with rfl | rfl | rfl <;> dsimp only <;> first | exact tail (marked _) | exact tail (operateP h₁.2)
theorem execP_Return {e : Expr} {pos : Pos} {Q : Flow → Shared → Prop} (h : wpP P M A (eval e env) (fun v => Q (.ret v)) E s) : wpP P M A (exec (.Return (some e) pos) env) Q E s := by
  rw [exec_Return_some]
  exact wpP_any (wpAny_standAt (wpP_bind (wpP_mono h (fun v s' h' => wpP_pure h') fun _ _ x => x)))
theorem execP_Assign {x : Str} {pos' : Pos} {value : Expr} {pos : Pos} {Q : Flow → Shared → Prop} (h : wpP P M A (eval value env) (fun v s₁ => wpAny M A (storeName env x v) (fun _ => Q .next) E s₁) E s)
    (hs : swapsWith value (some (.Name x pos')) pos.line env = pure false := by rfl) : wpP P M A (exec (.Assign [.Name x pos'] value pos) env) Q E s := by
  rw [exec_Assign_Name env x pos' value pos hs]
  exact wpP_any (wpAny_standAt (wpP_bind (wpP_mono h (fun v s' h' => wpP_of (wpAny_bind (wpAny_standAt (wpAny_bind (wpAny_bindName (wpAny_mono h' (fun _ _ q => wpAny_pure q) fun _ _ x => x)))))) fun _ _ x => x)))
theorem execP_Try {body orelse : List Stmt} {h₀ : ExceptHandler} {hs : List ExceptHandler} {pos : Pos} {Q : Flow → Shared → Prop}
    (h : wpP P M A (execs body env) (fun f s₁ => match f with | .next => wpP P M A (execs orelse env) Q E s₁ | f => Q f s₁)
      (fun e s₁ => wpAny M A (noteFrame e env) (fun _ s₂ => wpAny M A (setFlight e none) (fun _ s₃ => wpAny M A (handleBy e env (h₀ :: hs)) Q E s₃) E s₂) E s₁) s) :
    wpP P M A (exec (.Try body (h₀ :: hs) orelse [] pos) env) Q E s := by
  rw [arm_exec_Try]
  refine wpP_any (wpAny_standAt ?_)
  unfold tryStmt
  simp only [List.isEmpty_nil, if_true, List.isEmpty_cons, Bool.false_and, Bool.false_eq_true, if_false]
  refine wpP_bind (wpP_attempt (wpP_mono h (fun f s₁ h₁ => ?_) fun e s₁ h₁ => ?_))
  · cases f <;> first | exact h₁ | exact wpP_pure h₁
  · exact wpP_any (wpAny_mono h₁ (fun _ _ h₂ => wpP_of (wpAny_bind h₂)) fun _ _ x => x)
theorem callWithP_K {K : Frag} {f : Value} {first : List Value} {pos : Pos} {e : Expr} {rest : List Expr} {Q : Value → Shared → Prop} (hk : keepIn K f = true)
    (h : wpAny M A (spliced (backTo pos (starEach (e :: rest) env))) (fun vs s₁ => K.In s₁.heap ∧ wpP P M A (call f (first ++ vs)) Q E s₁) E s)
    (he : starEach (e :: rest) env = (false, eval e env) :: starEach rest env := by rfl) : wpP P M A (callWith pos f first (backTo pos (starEach (e :: rest) env)) []) Q E s := by
  rw [he] at h ⊢
  exact callWithP (keeps_K hk) (evalArgs_plain h)
theorem callWithP_M {K : Frag} {q g : Addr} {self : Value} {first : List Value} {pos : Pos} {e : Expr} {rest : List Expr} {Q : Value → Shared → Prop} (hf : fnIn K g = true)
    (h : wpAny M A (spliced (backTo pos (starEach (e :: rest) env))) (fun vs s₁ => MethP K q g self s₁.heap ∧ wpP P M A (call (.ref q) (first ++ vs)) Q E s₁) E s)
    (he : starEach (e :: rest) env = (false, eval e env) :: starEach rest env := by rfl) : wpP P M A (callWith pos (.ref q) first (backTo pos (starEach (e :: rest) env)) []) Q E s := by
  rw [he] at h ⊢
  exact callWithP (keeps_M hf) (evalArgs_plain h)
theorem callWithP_S {K : Frag} {f : Value} {first : List Value} {pos p : Pos} {e : Expr} {Q : Value → Shared → Prop} (hk : keepIn K f = true)
    (h : wpAny M A (eval e env) (fun v s₁ => StarOf M A E v (fun vs s₂ => K.In s₂.heap ∧ wpP P M A (call f (first ++ vs)) Q E s₂) s₁) E s)
    (he : starEach [.Starred e p] env = [(true, eval e env)] := by rfl) : wpP P M A (callWith pos f first (backTo pos (starEach [.Starred e p] env)) []) Q E s := by
  rw [he]
  exact callWithP (keeps_K hk) (ks_lone h)
end
section
variable {P : List Code → Prop} {prog : Program} {w : World} {A : Around} {E : Value → Shared → Prop} {s : Shared} {env : Env}
theorem callP_meth {h₀ : Heap} {L q : Addr} {f self : Value} {news : List (Addr × Obj)} {pos : List Value} {kw : List (Str × Value)} {Q : Value → Shared → Prop} (up : Up P) (N : News h₀ L s.heap news) (hq : (q, methodObj f self) ∈ news)
    (h : codeP P (model prog w) A (.call f ⟨self :: pos, kw⟩) (fun r s' => match r with | .ok (.ret v) => Q v s' | .ok _ => False | .error e => E e s') s) : wpP P (model prog w) A (call (.ref q) pos kw) Q E s := by
  refine wpP_call (codeP_tree (up _) ?_)
  show wpP _ _ _ (callAny (.ref q) _) _ _ _
  unfold callAny
  refine wpP_any (wpAny_load (N _ hq).1 ?_)
  cases f <;> exact wpP_pure ⟨rfl, h⟩
end
section
variable {P : List Code → Prop} {prog : Program} {w : World} {A A₀ : Around} {s : Shared} {K : Frag} {L : Addr} {h₀ base : Heap} {m mg mb : Str → Option Value} {p : Program} {loose : List Str}
/-- the def entered, its end left to the caller -/
theorem code_rawP {env : Env} {outer : List Env} {R : Result → Shared → Prop} {name qual : Str} {params : Arguments} {body : List Stmt} {scope : Scope} {dV kV doc pm cdv ct oc : Value} {an od : Option Addr} {osl : Array (Option Value)} {f : Addr} {args : Args} {binds : List (Str × Value)} (up : Up P)
    (B : Below A₀ base outer h₀) (F : Fr h₀ L s.heap m) (X₀ : K.In h₀) (T : TopRead p loose mg mb h₀) (St : Stat h₀) (hA : A.frames = some (env :: outer)) (hf : env.frame = some L) (hke : env.scope.kind = .function)
    (ho : K.lookup f = some ⟨oc, od, .func (fnOf name qual params body scope dV kV doc pm an cdv ct), osl⟩) (hcd : codeIn K cdv qual = true) (hroom : A.depth < recursionLimit)
    (hbind : BindsTo s (fnOf name qual params body scope dV kV doc pm an cdv ct) args binds) (hloc : ∀ y ∈ binds, scope.names.lookup y.1 = some .local)
    (h : ∀ L' h₁, Fr h₀ L s.heap m → Fr s.heap L' h₁ (fun y => binds.reverse.lookup y) → News s.heap L' h₁ [] → Below A base (env :: outer) s.heap → K.In s.heap → TopRead p loose mg mb s.heap → Stat s.heap →
      wpP P (model prog w) (A.deeper (envOf qual scope L' f cdv)) (execs body (envOf qual scope L' f cdv))
        (fun fl s' => R (.ok (.ret (match fl with | .ret v => v | _ => .none))) s')
        (fun e s' => wpAny (model prog w) (A.deeper (envOf qual scope L' f cdv)) (leaving (envOf qual scope L' f cdv) e) (fun _ s'' => R (.error e) s'') (fun e' s'' => R (.error e') s'') s')
        { s with heap := h₁, toks := s.toks + binds.length })
    (hco : scope.isCoroutine = false) (hgen : scope.isGenerator = false) (hk : scope.kind = .function)
    (hcell : ∀ x ∈ scope.names, x.2 ≠ .cell) : codeP P (model prog w) A (.call (.ref f) args) R s := by
  refine codeP_def (fd := fnOf name qual params body scope dV kV doc pm an cdv ct) (body := body) (binds := binds) up hroom ((X₀.keeps F.keep) _ _ ho) rfl (T.nolimit.keeps F.keep) (codeRec_of (X₀.keeps F.keep) hcd) rfl hbind hcell hloc (fun h₁ hns hk₁ => ?_) hco hgen hk
  have B₁ : Below A base (env :: outer) s.heap := by
    have q := pushX B F hf hke
    exact ⟨hA, q.stays, q.frames⟩
  exact h s.heap.objs.size h₁ F ⟨hns, hk₁, Nat.le_refl _⟩ (fun p hp => nomatch hp) B₁ (X₀.keeps F.keep) (T.keeps F.keep) (St.keeps F.keep)
end
/-- a call made by the law's own frame, the caller in the stack -/
noncomputable def ConP (w : World) (f : Addr) (args : List Value) (need : Nat) (out : List (Addr × Obj) → Value → Prop) : Prop :=
  ∀ (mg mb : Str → Option Value) (dp un : Nat) (gd : Option (List Code)) (cn : Str) (cs : Scope) (a : Addr) (ccd : Value) (cl : List (Str × Addr)) (A₀ : Around) (h₀ : Heap) (L : Addr) (m : Str → Option Value) (s : Shared)
    (Q E : Value → Shared → Prop),
    Below A₀ h₀ [] h₀ → Fr h₀ L s.heap m → (KQ w.params).In h₀ → News h₀ L s.heap [] → TopRead hd.view_39 lo mg mb h₀ → Stat h₀ → cs.kind = .function → dp + need < recursionLimit → un + 8 * need < cLine →
    (∀ r tl h' tk', Fr h₀ L h' m → News h₀ L h' tl → out tl r → Q r { s with heap := h', toks := tk' }) →
    wpP ByCaller (model PySem.Challenge.rw_il0122_01.row.prog w) (ktrTop dp un gd cn cs L a ccd cl []) (call (.ref f) args) Q E s
end
section
/-- the signs of the text, and the mark behind them -/
inductive Mk
  | d0 | d1 | d2 | d3 | d4 | d5 | d6 | d7 | d8 | d9 | us | sp | minus | plus | dot | eq | tab | e | fin
def Mk.text : Mk → Str
  | .d0 => Str.ofString "0" | .d1 => Str.ofString "1" | .d2 => Str.ofString "2" | .d3 => Str.ofString "3" | .d4 => Str.ofString "4" | .d5 => Str.ofString "5" | .d6 => Str.ofString "6" | .d7 => Str.ofString "7" | .d8 => Str.ofString "8" | .d9 => Str.ofString "9"
  | .us => Str.ofString "_" | .sp => Str.ofString " " | .minus => Str.ofString "-" | .plus => Str.ofString "+" | .dot => Str.ofString "." | .eq => Str.ofString "=" | .tab => Str.ofString "\t" | .e => Str.ofString "e" | .fin => Str.ofString "end"
/-- what the machine keeps -/
structure RS where
  got : List Int
  state : Int
  turn : Int
  worth : Int
def RS.push (σ : RS) : Option RS := if σ.state = 2 ∨ σ.state = 4 then some ⟨σ.got ++ [σ.turn * σ.worth], 0, 1, 0⟩ else none
def RS.dig (σ : RS) (d : Int) : Option RS := if σ.state = 4 then none else some { σ with state := 2, worth := 10 * σ.worth + d }
def RS.gap (σ : RS) : Option RS := if σ.state = 1 ∨ σ.state = 3 then none else some { σ with state := if σ.state = 2 then 4 else σ.state }
def RS.step (σ : RS) : Mk → Option RS
  | .sp => σ.gap
  | .tab => σ.gap
  | .plus => if σ.state = 0 then some { σ with state := 1 } else none
  | .minus => if σ.state = 0 then some { σ with state := 1, turn := -1 } else none
  | .us => if σ.state = 2 then some { σ with state := 3 } else none
  | .d0 => σ.dig 0 | .d1 => σ.dig 1 | .d2 => σ.dig 2 | .d3 => σ.dig 3 | .d4 => σ.dig 4 | .d5 => σ.dig 5 | .d6 => σ.dig 6 | .d7 => σ.dig 7 | .d8 => σ.dig 8 | .d9 => σ.dig 9
  | .dot => if σ.got.length = 0 ∨ σ.got.length = 2 then σ.push else none
  | .eq => if σ.got.length = 1 then σ.push else none
  | .fin => if σ.got.length = 3 then σ.push else none
  | .e => none
def RS.start : RS := ⟨[], 0, 1, 0⟩
def RS.run (σ : RS) : List Mk → Option RS
  | [] => some σ
  | g :: gs => match σ.step g with
    | some σ' => σ'.run gs
    | none => none
theorem RS.run_append : ∀ (gs : List Mk) (σ : RS) (hs : List Mk), σ.run (gs ++ hs) = match σ.run gs with | some σ' => σ'.run hs | none => none
  | [], _, _ => rfl
  | g :: gs, σ, hs => by
    show (match σ.step g with | some σ' => σ'.run (gs ++ hs) | none => none) = _
    cases q : σ.step g with
    | none => simp [RS.run, q]
    | some σ' => simp only [RS.run, q]; exact RS.run_append gs σ' hs
/-- what holds of the machine all the way -/
structure RS.Fine (σ : RS) : Prop where
  t1 : -1 ≤ σ.turn
  t2 : σ.turn ≤ 1
theorem RS.Fine.step {σ σ' : RS} {g : Mk} (h : σ.Fine) (e : σ.step g = some σ') : σ'.Fine := by
  obtain ⟨h1, h2⟩ := h
  cases g <;> simp only [RS.step, RS.dig, RS.gap, RS.push] at e <;> (repeat' split at e) <;> first | (cases e; done) | (cases e; exact ⟨h1, h2⟩) | (cases e; exact ⟨by dsimp only; omega, by dsimp only; omega⟩)
theorem RS.step_len {σ σ' : RS} {g : Mk} (e : σ.step g = some σ') : σ'.got.length = σ.got.length ∨ (σ'.got.length = σ.got.length + 1 ∧ (σ.got.length = 3 → g = .fin) ∧ σ.got.length ≤ 3) := by
  cases g <;> simp only [RS.step, RS.dig, RS.gap, RS.push] at e <;> (repeat' split at e) <;> first | (cases e; done) | (cases e; exact .inl rfl) | (cases e; exact .inr ⟨by simp, by intro q; first | rfl | omega, by omega⟩)
theorem RS.run_len : ∀ {gs : List Mk} {σ σ' : RS}, (∀ g ∈ gs, g ≠ .fin) → σ.got.length ≤ 3 → σ.run gs = some σ' → σ'.got.length ≤ 3
  | [], _, _, _, h, e => by cases e; exact h
  | g :: gs, σ, σ', hf, h, e => by
    simp only [RS.run] at e
    cases q : σ.step g with
    | none => rw [q] at e; cases e
    | some σ₁ =>
      rw [q] at e
      refine RS.run_len (fun g' h' => hf g' (List.mem_cons_of_mem _ h')) ?_ e
      rcases RS.step_len q with z | ⟨z, zf, zl⟩
      · omega
      · by_cases h3 : σ.got.length = 3
        · exact absurd (zf h3) (hf g (List.mem_cons_self ..))
        · omega
theorem RS.step_fin {σ σ' : RS} (e : σ.step .fin = some σ') : σ'.got.length = 4 := by
  simp only [RS.step, RS.push] at e
  split at e
  · split at e
    · cases e; simp_all
    · cases e
  · cases e
/-- the ints of a list's items -/
inductive GotAre : List Value → List Int → Prop
  | nil : GotAre [] []
  | cons (n : Int) (t : Tok) {vs ns} : GotAre vs ns → GotAre (.int n t :: vs) (n :: ns)
theorem GotAre.snoc {n : Int} {t : Tok} : ∀ {vs : List Value} {ns : List Int}, GotAre vs ns → GotAre (vs ++ [.int n t]) (ns ++ [n])
  | _, _, .nil => .cons n t .nil
  | _, _, .cons a u r => .cons a u r.snoc
end
section
/-- the map of the frame at a turn's start -/
def RS.names (σ : RS) (ts tt tw : Tok) (m₀ : Str → Option Value) : Str → Option Value := fun z => if z = Str.ofString "state" then some (.int σ.state ts) else if z = Str.ofString "turn" then some (.int σ.turn tt) else if z = Str.ofString "worth" then some (.int σ.worth tw) else m₀ z
/-- a turn's end: it returns, or the machine goes on -/
def REnd (h₀ : Heap) (L : Addr) (G : Addr) (m₀ : Str → Option Value) (rest : List (Addr × Obj)) (s₁ : Shared) (Q : Flow → Shared → Prop) (σ : RS) (g : Mk) (f : Flow) (s₂ : Shared) : Prop :=
  match f with
  | .ret v => Q (.ret v) s₂
  | .cont => False
  | .brk => False
  | .next => ∃ h' tk m' σ' ts tt tw its c, s₂ = { s₁ with heap := h', toks := tk } ∧ σ.step g = some σ' ∧ GotAre its σ'.got ∧ Fr h₀ L h' m' ∧ News h₀ L h' ((G, W.listOf its.toArray c) :: rest) ∧ (∀ z, z ≠ Str.ofString "mark" → m' z = σ'.names ts tt tw m₀ z)
section
variable {prog : Program} {w : World} {A : Around} {E : Value → Shared → Prop} {s : Shared} {env : Env} {h₀ : Heap} {body : List Stmt} {Q : Flow → Shared → Prop}
theorem REnd.ret {L G : Addr} {m₀ : Str → Option Value} {rest : List (Addr × Obj)} {s₁ s₂ : Shared} {σ : RS} {g : Mk} {v : Value} (h : Q (.ret v) s₂) : REnd h₀ L G m₀ rest s₁ Q σ g (.ret v) s₂ := h
theorem loop_read {gs : List Mk} (hgs : ∀ g ∈ gs, g ≠ .fin) (hz : gs.length ≤ 100) {l G : Addr} {vs : List Value} {m₀ : Str → Option Value} {rest : List (Addr × Obj)} {c₀ : Nat} {t₁ t₂ t₃ : Tok} (hh : A.handled = none)
    (hv : StrsAre vs ((gs ++ [Mk.fin]).map Mk.text)) (hl : s.heap.IsList l vs.toArray) (hL : l ≠ env.locals) (hl₀ : h₀.get? l = none)
    (F : Fr h₀ env.locals s.heap m₀) (N : News h₀ env.locals s.heap ((G, W.listOf #[] c₀) :: rest)) (hlG : l ≠ G) (hlr : ∀ p ∈ rest, p.1 ≠ l)
    (hs : m₀ (Str.ofString "state") = some (.int 0 t₁)) (ht : m₀ (Str.ofString "turn") = some (.int 1 t₂)) (hw : m₀ (Str.ofString "worth") = some (.int 0 t₃))
    (turn : ∀ σ g t ts tt tw its c h tk own, σ.Fine → σ.got.length ≤ 3 → GotAre its σ.got → (σ.step g = none → RS.start.run (gs ++ [Mk.fin]) = none) → OwnOff own (G :: rest.map (·.1)) → Fr h₀ env.locals h (fun z => if z = Str.ofString "mark" then some (.str g.text t) else σ.names ts tt tw m₀ z) → News h₀ env.locals h (((G, W.listOf its.toArray c) :: rest) ++ own) →
      wpAny (model prog w) A (execs body env) (REnd h₀ env.locals G m₀ (rest ++ own) { s with heap := h, toks := tk } Q σ g) E { s with heap := h, toks := tk })
    (done : ∀ a b c d st tu wo (u : Str → Option Value) ts tt tw va vb vc vd n h tk, RS.start.run (gs ++ [Mk.fin]) = some ⟨[a, b, c, d], st, tu, wo⟩ → Fr h₀ env.locals h (fun z => if z = Str.ofString "mark" then u z else RS.names ⟨[a, b, c, d], st, tu, wo⟩ ts tt tw m₀ z) → News h₀ env.locals h ((G, W.listOf #[.int a va, .int b vb, .int c vc, .int d vd] n) :: rest) → Q .next { s with heap := h, toks := tk }) :
    wpAny (model prog w) A (pyIter (.ref l)) (fun it s₂ => LoopAtV prog w A h₀ env (Str.ofString "mark") body Q E it s₂) E s := by
  have hlt : l < s.heap.objs.size := by obtain ⟨_, e, _⟩ := hl; exact Heap.lt_size e
  refine wpAny_pyIter_list hl ?_
  have hlen : vs.length = gs.length + 1 := by rw [hv.length]; simp
  have WK : Walks prog w A s.heap.objs.size [s.heap.objs.size, l] [s.heap.objs.size] vs.toArray.size (fun i v => vs.toArray[i]? = some v) (fun i h => h.IsListIter s.heap.objs.size l i ∧ h.IsList l vs.toArray) := Walks.list hh _ l (Nat.ne_of_lt hlt) vs.toArray
  refine loop_invN (m₀ := m₀) (news := (G, W.listOf #[] c₀) :: rest) (fun i m₁ nx => ∃ σ ts tt tw its c, RS.start.run ((gs ++ [Mk.fin]).take i) = some σ ∧ σ.Fine ∧ GotAre its σ.got ∧ nx = (G, W.listOf its.toArray c) :: rest ∧ ∀ z, z ≠ Str.ofString "mark" → m₁ z = σ.names ts tt tw m₀ z) WK ?_ ?_ ?_ ?_ ?_ (F.push _) (fun p hp => ⟨Heap.get?_push_of_some _ (N p hp).1, (N p hp).2⟩) ?_ ?_ ?_
  · intro hm
    rcases List.mem_cons.mp hm with e | hm
    · exact absurd F.ns.lt (e ▸ Nat.lt_irrefl _)
    · exact hL (List.mem_singleton.mp hm).symm
  · intro b hb
    rw [List.mem_singleton.mp hb]
    exact next_is_new F
  · intro p hp hI
    exact absurd (Heap.lt_size (N p hp).1) ((List.mem_singleton.mp hI) ▸ Nat.lt_irrefl _)
  · intro p hp hI
    rcases List.mem_cons.mp hI with e | hm
    · exact absurd (Heap.lt_size (N p hp).1) (e ▸ Nat.lt_irrefl _)
    · have e := List.mem_singleton.mp hm
      rcases List.mem_cons.mp hp with rfl | hp
      · exact hlG e.symm
      · exact hlr p hp e
  · exact ⟨⟨_, Heap.get?_push_size _ rfl, rfl, rfl⟩, hl.at fun o e => Heap.get?_push_of_some _ e⟩
  · refine ⟨RS.start, t₁, t₂, t₃, [], c₀, by simp [RS.run], ⟨by decide, by decide⟩, .nil, rfl, fun z _ => ?_⟩
    unfold RS.names
    split
    · next e => rw [e, hs]; rfl
    · split
      · next e => rw [e, ht]; rfl
      · split
        · next e => rw [e, hw]; rfl
        · rfl
  · rintro i v m₁ nx h tk own hi hP - ho ⟨σ, ts, tt, tw, its, c, hrun, hfine, hgot, rfl, hm⟩ F' N'
    obtain ⟨g, hg, t, rfl⟩ : ∃ g, (gs ++ [Mk.fin])[i]? = some g ∧ ∃ t, v = .str g.text t := by
      have hP' : vs[i]? = some v := by simpa using hP
      have hi'' : i < (gs ++ [Mk.fin]).length := by simpa [hlen] using hi
      have hg : (gs ++ [Mk.fin])[i]? = some ((gs ++ [Mk.fin])[i]) := List.getElem?_eq_getElem hi''
      obtain ⟨t, ht'⟩ := hv.get i _ (by rw [List.getElem?_map, hg]; rfl)
      rw [ht'] at hP'
      cases hP'
      exact ⟨_, hg, t, rfl⟩
    rw [map_none hm] at F'
    have hi' : i < gs.length + 1 := by simpa [hlen] using hi
    have htake : (gs ++ [Mk.fin]).take i = gs.take i := by rw [List.take_append_of_le_length (by omega)]
    have hgot3 : σ.got.length ≤ 3 := RS.run_len (gs := gs.take i) (fun g' h' => hgs g' (List.mem_of_mem_take h')) (by simp [RS.start]) (htake ▸ hrun)
    have hstep : RS.start.run ((gs ++ [Mk.fin]).take (i + 1)) = σ.step g := by
      rw [List.take_add_one, hg, RS.run_append, hrun]
      simp only [Option.toList, RS.run]
      cases σ.step g <;> rfl
    have hstop : σ.step g = none → RS.start.run (gs ++ [Mk.fin]) = none := fun q => by
      rw [← List.take_append_drop (i + 1) (gs ++ [Mk.fin]), RS.run_append, hstep, q]
    refine wpAny_mono (turn σ g t ts tt tw its c h tk own hfine hgot3 hgot hstop ho F' N') (fun f s₂ p => ?_) fun _ _ e => e
    cases f with
    | ret v => exact p
    | next =>
      obtain ⟨h', tk', m', σ', ts', tt', tw', its', c', rfl, hst, hg', F₂, N₂, hm₂⟩ := p
      exact ⟨h', tk', m', (G, W.listOf its'.toArray c') :: (rest ++ own), (G, W.listOf its'.toArray c') :: rest, rfl, F₂, N₂, fun p hp => by
        rcases List.mem_cons.mp hp with rfl | hp
        · exact List.mem_cons_self ..
        · exact List.mem_cons_of_mem _ (List.mem_append.mpr (.inl hp)), fun p hp => List.mem_cons_of_mem _ (List.mem_append.mpr (.inr hp)), rfl, σ', ts', tt', tw', its', c', hstep.trans hst, hfine.step hst, hg', rfl, hm₂⟩
    | _ => exact p.elim
  · rintro m₁ nx h tk ⟨σ, ts, tt, tw, its, c, hrun, hfine, hgot, rfl, hm⟩ F' N'
    have hall : (gs ++ [Mk.fin]).take vs.toArray.size = gs ++ [Mk.fin] := List.take_of_length_le (by simp [hlen])
    rw [hall] at hrun
    have h4 : σ.got.length = 4 := by
      rw [RS.run_append] at hrun
      cases q : RS.start.run gs with
      | none => rw [q] at hrun; cases hrun
      | some σ₁ =>
        rw [q] at hrun
        simp only [RS.run] at hrun
        cases q' : σ₁.step .fin with
        | none => rw [q'] at hrun; cases hrun
        | some σ₂ => rw [q'] at hrun; cases hrun; exact RS.step_fin q'
    obtain ⟨got, st, tu, wo⟩ := σ
    obtain ⟨a, b, c', d, rfl⟩ : ∃ a b c d, got = [a, b, c, d] := by
      match got, h4 with
      | [a, b, c, d], _ => exact ⟨a, b, c, d, rfl⟩
    have hmap : (fun z => if z = Str.ofString "mark" then m₁ z else RS.names ⟨[a, b, c', d], st, tu, wo⟩ ts tt tw m₀ z) = m₁ := by
      funext z
      by_cases q : z = Str.ofString "mark"
      · rw [if_pos q]
      · rw [if_neg q, hm z q]
    rw [← hmap] at F'
    cases hgot with
    | cons _ va r => cases r with
      | cons _ vb r => cases r with
        | cons _ vc r => cases r with
          | cons _ vd r => cases r with
            | nil => exact done a b c' d st tu wo m₁ ts tt tw va vb vc vd c h tk hrun F' N'
end
end
section
theorem carried_strs : ∀ {vs : List Value} {xs : List Str}, CarriedAll vs ((xs.filter fun _ => true).map PyData.str) → StrsAre vs xs
  | [], [], _ => .nil
  | _ :: _, [], c => by cases c
  | [], _ :: _, c => by simp only [List.filter_cons_of_pos, List.map_cons] at c; cases c
  | v :: vs, x :: xs, c => by
    simp only [List.filter_cons_of_pos, List.map_cons] at c
    cases c with
    | cons a r => cases a with
      | str _ t => exact .cons _ t (carried_strs r)
theorem strs_snoc {y : Str} {t : Tok} : ∀ {vs : List Value} {xs : List Str}, StrsAre vs xs → StrsAre (vs ++ [.str y t]) (xs ++ [y])
  | _, _, .nil => .cons y t .nil
  | _, _, .cons a u r => .cons a u (strs_snoc r)
section
variable {prog : Program} {w : World} {A : Around} {E : Value → Shared → Prop} {s : Shared} {env : Env} {h₀ : Heap} {body : List Stmt} {Q : Flow → Shared → Prop}
/-- the list of the signs with the mark behind them, and the loop over it -/
theorem loop_marks {x : Str} {gs : List Mk} (hx : signs x = gs.map Mk.text) (hgs : ∀ g ∈ gs, g ≠ .fin) (hz : gs.length ≤ 100) {D l G R : Addr} {ys : List Value} {k k' c₀ kr : Nat} {te : Tok} {m₀ : Str → Option Value} {news : List (Addr × Obj)} {its : Array Value} {t₁ t₂ t₃ : Tok} (hh : A.handled = none)
    (hc : CarriedAll ys (((signs x).filter fun _ => true).map PyData.str)) (F : Fr h₀ env.locals s.heap m₀) (N : News h₀ env.locals s.heap news)
    (hD : (D, W.listOf ys.toArray k) ∈ news) (hl : (l, W.listOf #[.str (Str.ofString "end") te] k') ∈ news) (hG : (G, W.listOf #[] c₀) ∈ news) (hR : (R, W.listOf its kr) ∈ news)
    (hs : m₀ (Str.ofString "state") = some (.int 0 t₁)) (ht : m₀ (Str.ofString "turn") = some (.int 1 t₂)) (hw : m₀ (Str.ofString "worth") = some (.int 0 t₃))
    (turn : ∀ σ g t ts tt tw its' c h tk own, σ.Fine → σ.got.length ≤ 3 → GotAre its' σ.got → (σ.step g = none → RS.start.run (gs ++ [Mk.fin]) = none) → OwnOff own [G, R] → Fr h₀ env.locals h (fun z => if z = Str.ofString "mark" then some (.str g.text t) else σ.names ts tt tw m₀ z) → News h₀ env.locals h ((G, W.listOf its'.toArray c) :: (R, W.listOf its kr) :: own) →
      wpAny (model prog w) A (execs body env) (REnd h₀ env.locals G m₀ ((R, W.listOf its kr) :: own) { s with heap := h, toks := tk } Q σ g) E { s with heap := h, toks := tk })
    (done : ∀ a b c d st tu wo (u : Str → Option Value) ts tt tw va vb vc vd n h tk, RS.start.run (gs ++ [Mk.fin]) = some ⟨[a, b, c, d], st, tu, wo⟩ → Fr h₀ env.locals h (fun z => if z = Str.ofString "mark" then u z else RS.names ⟨[a, b, c, d], st, tu, wo⟩ ts tt tw m₀ z) → News h₀ env.locals h [(G, W.listOf #[.int a va, .int b vb, .int c vc, .int d vd] n), (R, W.listOf its kr)] → Q .next { s with heap := h, toks := tk }) :
    wpAny (model prog w) A (binaryOp .Add (.ref D) (.ref l)) (fun xv s₁ => wpAny (model prog w) A (pyIter xv) (fun it s₂ => LoopAtV prog w A h₀ env (Str.ofString "mark") body Q E it s₂) E s₁) E s := by
  have hlen : ys.length = gs.length := by
    have z := (carried_strs hc).length
    rw [z, hx, List.length_map]
  refine P.add_list (items := ys.toArray) (items2 := #[.str (Str.ofString "end") te]) (N _ hD).1 (N _ hl).1 ?_ (by rw [sizeLine_eq]; simp [hlen]; omega)
  have e : ys.toArray ++ #[Value.str (Str.ofString "end") te] = (ys ++ [Value.str (Str.ofString "end") te]).toArray := by simp
  rw [e]
  have F₁ := F.push ({ cls := .type "list", data := .seq (ys ++ [Value.str (Str.ofString "end") te]).toArray } : Obj)
  have N₁ := N.push F ({ cls := .type "list", data := .seq (ys ++ [Value.str (Str.ofString "end") te]).toArray } : Obj)
  have n1 := N₁ _ (List.mem_cons_self ..)
  have ne : ∀ p ∈ news, s.heap.objs.size ≠ p.1 := fun p hp q => Nat.lt_irrefl _ (q ▸ Heap.lt_size (N p hp).1 : s.heap.objs.size < s.heap.objs.size)
  refine loop_read (s := { s with heap := s.heap.push _ }) hgs hz (l := s.heap.objs.size) (G := G) (rest := [(R, W.listOf its kr)]) (c₀ := c₀) hh (vs := ys ++ [Value.str (Str.ofString "end") te]) ?_ ⟨_, n1.1, rfl, _, rfl⟩ n1.2.1 n1.2.2 F₁ ?_ (ne _ hG) ?_ hs ht hw ?_ ?_
  · rw [List.map_append, ← hx]
    exact strs_snoc (carried_strs hc)
  · intro p hp
    rcases List.mem_cons.mp hp with rfl | hp
    · exact N₁ _ (List.mem_cons_of_mem _ hG)
    · rw [List.mem_singleton.mp hp]; exact N₁ _ (List.mem_cons_of_mem _ hR)
  · intro p hp
    rw [List.mem_singleton.mp hp]; exact (ne _ hR).symm
  · exact turn
  · exact done
end
theorem got_cases {its : List Value} {got : List Int} (h : GotAre its got) (l : got.length ≤ 3) : (its = [] ∧ got = []) ∨ (∃ a t, its = [.int a t] ∧ got = [a]) ∨ (∃ a t b u, its = [.int a t, .int b u] ∧ got = [a, b]) ∨ ∃ a t b u c v, its = [.int a t, .int b u, .int c v] ∧ got = [a, b, c] := by
  cases h with
  | nil => exact .inl ⟨rfl, rfl⟩
  | cons a t r => cases r with
    | nil => exact .inr (.inl ⟨a, t, rfl, rfl⟩)
    | cons b u r => cases r with
      | nil => exact .inr (.inr (.inl ⟨a, t, b, u, rfl, rfl⟩))
      | cons c v r => cases r with
        | nil => exact .inr (.inr (.inr ⟨a, t, b, u, c, v, rfl, rfl⟩))
        | cons d y r => simp only [List.length_cons] at l; omega
end
section
section
variable {σ : RS} {g : Mk}
theorem gap_sp (h : (g.text == Str.ofString " ") = true) : σ.step g = σ.gap := by cases g <;> first | rfl | exact absurd h (by decide)
theorem gap_tab (h : (g.text == Str.ofString "\t") = true) : σ.step g = σ.gap := by cases g <;> first | rfl | exact absurd h (by decide)
theorem gap_n1 (e : σ.step g = σ.gap) (h : σ.state = 1) : σ.step g = none := by rw [e]; simp [RS.gap, h]
theorem gap_n3 (e : σ.step g = σ.gap) (h : σ.state = 3) : σ.step g = none := by rw [e]; simp [RS.gap, h]
theorem gap_s2 (e : σ.step g = σ.gap) (h1 : σ.state ≠ 1) (h3 : σ.state ≠ 3) (h2 : σ.state = 2) : σ.step g = some { σ with state := 4 } := by rw [e]; simp [RS.gap, h2]
theorem gap_s (e : σ.step g = σ.gap) (h1 : σ.state ≠ 1) (h3 : σ.state ≠ 3) (h2 : σ.state ≠ 2) : σ.step g = some σ := by rw [e]; simp [RS.gap, h1, h2, h3]
theorem plus_n (h : (g.text == Str.ofString "+") = true) (h0 : σ.state ≠ 0) : σ.step g = none := by cases g <;> first | exact absurd h (by decide) | simp [RS.step, h0]
theorem minus_n (h : (g.text == Str.ofString "-") = true) (h0 : σ.state ≠ 0) : σ.step g = none := by cases g <;> first | exact absurd h (by decide) | simp [RS.step, h0]
theorem plus_s (h : (g.text == Str.ofString "+") = true) (h0 : σ.state = 0) : σ.step g = some { σ with state := 1 } := by cases g <;> first | exact absurd h (by decide) | simp [RS.step, h0]
theorem minus_s (h : (g.text == Str.ofString "-") = true) (h0 : σ.state = 0) : σ.step g = some { σ with state := 1, turn := -1 } := by cases g <;> first | exact absurd h (by decide) | simp [RS.step, h0]
theorem not_both (h : (g.text == Str.ofString "+") = true) (h' : (g.text == Str.ofString "-") = true) : False := by cases g <;> first | exact absurd h (by decide) | exact absurd h' (by decide)
theorem us_n (h : (g.text == Str.ofString "_") = true) (h0 : σ.state ≠ 2) : σ.step g = none := by cases g <;> first | exact absurd h (by decide) | simp [RS.step, h0]
theorem us_s (h : (g.text == Str.ofString "_") = true) (h0 : σ.state = 2) : σ.step g = some { σ with state := 3 } := by cases g <;> first | exact absurd h (by decide) | simp [RS.step, h0]
theorem dig_of (h : (Builtin.Str.occurrences (Str.ofString "0123456789") g.text 0 (Str.ofString "0123456789").length 1).isEmpty = false) : σ.step g = σ.dig (Txt.find (Str.ofString "0123456789") g.text) := by
  cases g <;> first | exact absurd h (by decide +kernel) | (show σ.dig _ = σ.dig _; congr 1; decide +kernel)
theorem dig_n (h : (Builtin.Str.occurrences (Str.ofString "0123456789") g.text 0 (Str.ofString "0123456789").length 1).isEmpty = false) (h4 : σ.state = 4) : σ.step g = none := by rw [dig_of h]; simp [RS.dig, h4]
theorem dig_s (h : (Builtin.Str.occurrences (Str.ofString "0123456789") g.text 0 (Str.ofString "0123456789").length 1).isEmpty = false) (h4 : σ.state ≠ 4) : σ.step g = some { σ with state := 2, worth := 10 * σ.worth + Txt.find (Str.ofString "0123456789") g.text } := by rw [dig_of h]; simp [RS.dig, h4]
/-- the other marks -/
structure Other (g : Mk) : Prop where
  o : g = .dot ∨ g = .eq ∨ g = .e ∨ g = .fin
theorem other_of (h1 : (g.text == Str.ofString " ") = false) (h2 : (g.text == Str.ofString "\t") = false) (h3 : (g.text == Str.ofString "+") = false) (h4 : (g.text == Str.ofString "-") = false) (h5 : (g.text == Str.ofString "_") = false)
    (h : (Builtin.Str.occurrences (Str.ofString "0123456789") g.text 0 (Str.ofString "0123456789").length 1).isEmpty = true) : Other g := by
  constructor
  cases g <;> first | exact .inl rfl | exact .inr (.inl rfl) | exact .inr (.inr (.inl rfl)) | exact .inr (.inr (.inr rfl)) | exact absurd h1 (by decide) | exact absurd h2 (by decide) | exact absurd h3 (by decide) | exact absurd h4 (by decide) | exact absurd h5 (by decide) | exact absurd h (by decide +kernel)
theorem o_n0 (o : Other g) (q : σ.got = []) (h : (g.text == Str.ofString ".") = false) : σ.step g = none := by
  obtain ⟨rfl | rfl | rfl | rfl⟩ := o <;> first | exact absurd h (by decide) | simp [RS.step, q]
theorem o_n1 {a : Int} (o : Other g) (q : σ.got = [a]) (h : (g.text == Str.ofString "=") = false) : σ.step g = none := by
  obtain ⟨rfl | rfl | rfl | rfl⟩ := o <;> first | exact absurd h (by decide) | simp [RS.step, q]
theorem o_n2 {a b : Int} (o : Other g) (q : σ.got = [a, b]) (h : (g.text == Str.ofString ".") = false) : σ.step g = none := by
  obtain ⟨rfl | rfl | rfl | rfl⟩ := o <;> first | exact absurd h (by decide) | simp [RS.step, q]
theorem o_n3 {a b c : Int} (o : Other g) (q : σ.got = [a, b, c]) (h : (g.text == Str.ofString "end") = false) : σ.step g = none := by
  obtain ⟨rfl | rfl | rfl | rfl⟩ := o <;> first | exact absurd h (by decide) | simp [RS.step, q]
theorem o_p0 (q : σ.got = []) (h : (g.text == Str.ofString ".") = true) : σ.step g = σ.push := by cases g <;> first | exact absurd h (by decide) | simp [RS.step, q]
theorem o_p1 {a : Int} (q : σ.got = [a]) (h : (g.text == Str.ofString "=") = true) : σ.step g = σ.push := by cases g <;> first | exact absurd h (by decide) | simp [RS.step, q]
theorem o_p2 {a b : Int} (q : σ.got = [a, b]) (h : (g.text == Str.ofString ".") = true) : σ.step g = σ.push := by cases g <;> first | exact absurd h (by decide) | simp [RS.step, q]
theorem o_p3 {a b c : Int} (q : σ.got = [a, b, c]) (h : (g.text == Str.ofString "end") = true) : σ.step g = σ.push := by cases g <;> first | exact absurd h (by decide) | simp [RS.step, q]
theorem push_n (e : σ.step g = σ.push) (h2 : σ.state ≠ 2) (h4 : σ.state ≠ 4) : σ.step g = none := by rw [e]; simp [RS.push, h2, h4]
theorem push_2 (e : σ.step g = σ.push) (h2 : σ.state = 2) : σ.step g = some ⟨σ.got ++ [σ.turn * σ.worth], 0, 1, 0⟩ := by rw [e]; simp [RS.push, h2]
theorem push_4 (e : σ.step g = σ.push) (h4 : σ.state = 4) : σ.step g = some ⟨σ.got ++ [σ.turn * σ.worth], 0, 1, 0⟩ := by rw [e]; simp [RS.push, h4]
end
def Got3 (its : List Value) (got : List Int) : Prop := GotAre its got ∧ got.length ≤ 3
theorem name_cases (z : Str) : z = Str.ofString "state" ∨ z = Str.ofString "turn" ∨ z = Str.ofString "worth" ∨ (z ≠ Str.ofString "state" ∧ z ≠ Str.ofString "turn" ∧ z ≠ Str.ofString "worth") := by
  by_cases h1 : z = Str.ofString "state"
  · exact .inl h1
  · by_cases h2 : z = Str.ofString "turn"
    · exact .inr (.inl h2)
    · by_cases h3 : z = Str.ofString "worth"
      · exact .inr (.inr (.inl h3))
      · exact .inr (.inr (.inr ⟨h1, h2, h3⟩))
/-- what read hands back -/
def ReadOut (gs : List Mk) (tl : List (Addr × Obj)) (r : Value) : Prop :=
  (r = .none ∧ tl = [] ∧ RS.start.run (gs ++ [Mk.fin]) = none) ∨
  ∃ a b c d st tu wo T T₁ T₂ ta tb tc td, RS.start.run (gs ++ [Mk.fin]) = some ⟨[a, b, c, d], st, tu, wo⟩ ∧ r = .ref T ∧ tl = [(T, tupObj [.ref T₁, .ref T₂]), (T₂, tupObj [.int c tc, .int d td]), (T₁, tupObj [.int a ta, .int b tb])]
theorem none_out {σ : RS} {g : Mk} {gs : List Mk} (stop : σ.step g = none → RS.start.run (gs ++ [Mk.fin]) = none) (h : σ.step g = none) : ReadOut gs [] .none := .inl ⟨rfl, rfl, stop h⟩
end
section
/-- how large the machine's numbers are -/
structure RS.Small (σ : RS) (k : Nat) : Prop where
  w : σ.worth.natAbs < 10 ^ k
  t : σ.turn.natAbs ≤ 1
  g : ∀ n ∈ σ.got, n.natAbs < 10 ^ k
theorem pow_up {n k : Nat} (h : n < 10 ^ k) : n < 10 ^ (k + 1) := by rw [Nat.pow_succ]; omega
theorem RS.Small.same {σ : RS} {k : Nat} (s : σ.Small k) (st : Int) : RS.Small { σ with state := st } (k + 1) := ⟨pow_up s.w, s.t, fun n h => pow_up (s.g n h)⟩
theorem RS.Small.dig {σ σ' : RS} {k : Nat} {d : Int} (s : σ.Small k) (h0 : 0 ≤ d) (h9 : d ≤ 9) (e : σ.dig d = some σ') : σ'.Small (k + 1) := by
  unfold RS.dig at e
  split at e
  · cases e
  · cases e
    refine ⟨?_, s.t, fun n h => pow_up (s.g n h)⟩
    have := s.w
    show (10 * σ.worth + d).natAbs < 10 ^ (k + 1)
    rw [Nat.pow_succ]
    omega
theorem RS.Small.push {σ σ' : RS} {k : Nat} (s : σ.Small k) (e : σ.push = some σ') : σ'.Small (k + 1) := by
  unfold RS.push at e
  split at e
  · cases e
    refine ⟨Nat.lt_of_lt_of_le (by decide : 0 < 1) (Nat.one_le_pow _ _ (by decide)), Nat.le_refl 1, fun n h => ?_⟩
    rcases List.mem_append.mp h with h | h
    · exact pow_up (s.g n h)
    · rw [List.mem_singleton.mp h, Int.natAbs_mul]
      have := s.w
      have := s.t
      refine pow_up (Nat.lt_of_le_of_lt (Nat.mul_le_mul_right _ s.t) ?_)
      rw [Nat.one_mul]; exact s.w
  · cases e
theorem RS.Small.step {σ σ' : RS} {g : Mk} {k : Nat} (s : σ.Small k) (e : σ.step g = some σ') : σ'.Small (k + 1) := by
  cases g
  case us => simp only [RS.step] at e; split at e <;> cases e; exact s.same 3
  case sp => simp only [RS.step, RS.gap] at e; split at e <;> cases e; exact s.same _
  case tab => simp only [RS.step, RS.gap] at e; split at e <;> cases e; exact s.same _
  case plus => simp only [RS.step] at e; split at e <;> cases e; exact s.same 1
  case minus => simp only [RS.step] at e; split at e <;> cases e; exact ⟨pow_up s.w, Nat.le_refl 1, fun n h => pow_up (s.g n h)⟩
  case dot => simp only [RS.step] at e; split at e <;> first | exact s.push e | cases e
  case eq => simp only [RS.step] at e; split at e <;> first | exact s.push e | cases e
  case fin => simp only [RS.step] at e; split at e <;> first | exact s.push e | cases e
  case e => cases e
  all_goals exact s.dig (by decide) (by decide) e
theorem RS.Small.run : ∀ {gs : List Mk} {σ σ' : RS} {k : Nat}, σ.Small k → σ.run gs = some σ' → σ'.Small (k + gs.length)
  | [], _, _, _, s, e => by cases e; exact s
  | g :: gs, σ, σ', k, s, e => by
    simp only [RS.run] at e
    cases q : σ.step g with
    | none => rw [q] at e; cases e
    | some σ₁ =>
      rw [q] at e
      have z := (s.step q).run e
      rw [List.length_cons, Nat.add_comm gs.length 1, ← Nat.add_assoc]
      exact z
theorem log_small {n k : Nat} (h : n < 10 ^ k) (hk : k ≤ 500) : n.log2 < 1920 := by
  by_cases h0 : n = 0
  · rw [h0]; decide
  · rw [Nat.log2_lt h0]
    refine Nat.lt_of_lt_of_le h (Nat.le_trans (Nat.pow_le_pow_right (by decide) hk) ?_)
    decide +kernel
theorem run_shown {gs : List Mk} {got : List Int} {st tu wo : Int} (hz : gs.length ≤ 100) (e : RS.start.run (gs ++ [Mk.fin]) = some ⟨got, st, tu, wo⟩) : ∀ n ∈ got, n.natAbs.log2 < 1920 := fun n h => by
  have s : RS.Small RS.start 0 := ⟨by decide, by decide, fun n h => nomatch h⟩
  have z := (s.run e).g n h
  refine log_small z ?_
  simp
  omega
end
section
theorem pick_ints {ws : List Value} {ns : List Int} (h : IntsAre ws ns) : ∀ l : List Nat, ∃ ns', IntsAre (l.filterMap (ws.toArray[·]?)) ns' ∧ ns'.length = (l.filterMap (ws.toArray[·]?)).length
  | [] => ⟨[], .nil, rfl⟩
  | i :: l => by
    obtain ⟨ns', h', e⟩ := pick_ints h l
    rw [List.filterMap_cons]
    cases q : ws.toArray[i]? with
    | none => exact ⟨ns', h', e⟩
    | some v =>
      obtain ⟨n, t, rfl⟩ : ∃ n t, v = .int n t := by
        have q' : ws[i]? = some v := by simpa using q
        have hm := List.mem_of_getElem? q'
        clear q q' h' e
        induction h with
        | nil => cases hm
        | cons n t r ih =>
          rcases List.mem_cons.mp hm with rfl | hm
          · exact ⟨n, t, rfl⟩
          · exact ih hm
      exact ⟨n :: ns', .cons n t h', by simp [e]⟩
theorem pick_len : ∀ n : Fin 17, ∀ k : Fin 4, (sliceRange (sliceBounds (some (k.val : Int)) none (some 4) n.val).1 (sliceBounds (some (k.val : Int)) none (some 4) n.val).2.1 (sliceBounds (some (k.val : Int)) none (some 4) n.val).2.2).length ≤ 16 := by decide +kernel
theorem drawn_pick {ws : List Value} {ns : List Int} (h : IntsAre ws ns) (hz : ns.length ≤ 16) (k : Fin 4) : ∃ ns', IntsAre (slicePick ws.toArray (some (k.val : Int)) none (some 4)).toList ns' ∧ ns'.length ≤ 16 := by
  obtain ⟨ns', h', e⟩ := pick_ints h (sliceRange (sliceBounds (some (k.val : Int)) none (some 4) ws.toArray.size).1 (sliceBounds (some (k.val : Int)) none (some 4) ws.toArray.size).2.1 (sliceBounds (some (k.val : Int)) none (some 4) ws.toArray.size).2.2)
  refine ⟨ns', by unfold slicePick; simpa using h', ?_⟩
  have hw : ws.toArray.size < 17 := by
    have := h.length
    simp; omega
  have z := pick_len ⟨ws.toArray.size, hw⟩ k
  have f := List.length_filterMap_le (ws.toArray[·]?) (sliceRange (sliceBounds (some (k.val : Int)) none (some 4) ws.toArray.size).1 (sliceBounds (some (k.val : Int)) none (some 4) ws.toArray.size).2.1 (sliceBounds (some (k.val : Int)) none (some 4) ws.toArray.size).2.2)
  rw [e]
  exact Nat.le_trans f z
end
section
theorem stat_of {P : Params} {h : Heap} (X : (hd.heap_39 P).In h) (hn : h.NoLimit) : Stat h := by
  obtain ⟨mc, G, h1⟩ := hn
  refine ⟨mc, G, h1, ?_⟩
  have e : nsIn (hd.heap_39 P) cStatics (Str.ofString "thirdparty.any") = some none := by kernel_rfl
  obtain ⟨o, es, ep, ho, hd', _, hf⟩ := G
  unfold nsIn at e
  split at e
  · rename_i c d es' n' sl q
    have := X _ _ q
    rw [ho] at this
    cases this
    cases hd'
    split at e
    · cases e
    · rename_i he
      rw [← hf]
      unfold nsFind findBy
      rw [← Array.find?_toList, he]
      rfl
  · cases e
structure LawFacts (P : Params) (mg mb : Str → Option Value) (h : Heap) : Prop where
  b : Below callerA h [] h
  s : Stat h
  x : (KQ P).In h
  t : TopRead hd.view_39 lo mg mb h
theorem law_facts {P : Params} {mean : ExcName → Option Value} {mg mb : Str → Option Value} {h : Heap} (T : Top hd.view_39 lo mean mg mb h) (X : (hd.heap_39 P).In h) : LawFacts P mg mb h := ⟨below_caller h, stat_of X T.nolimit, kq_in X, topRead_of T⟩
end
section
/-! a head that holds the call to the stacks with the claim's caller: modelled on the library's own, which asks for all stacks -/
theorem thread_P {prog : Program} {w : World} {t : Sem Fin} {s : Shared} {R : Result → Shared → Prop} (hz : s.asleep)
    (h : wpP ByCaller (model prog w) callerA t (fun fin s' => ∃ f, fin = .done f ∧ R (.ok f) s' ∧ leftWithCleanup s'.gens = false) (fun e s' => R (.error e) s' ∧ leftWithCleanup s'.gens = false) s) :
    ∃ n r s' s'', runN (denote table) prog w n s ⟨t, .builtin "claim.caller" {}, default, []⟩ = .halted (outcomeOf r) s'' ∧
      schedN (denote table) prog w n (.single s ⟨t, .builtin "claim.caller" {}, default, []⟩) = .halted (outcomeOf r) s'' ∧ s''.forget = s'.forget ∧ R r s' := by
  have z := h ⟨.builtin "claim.caller" {}, none, none, [], none⟩ default caller_in rfl
  obtain ⟨n, r, s₁, s₂, a, b, c, d⟩ := wp_halts_full (M := model prog w) (R := R) hz
    (Sem.wp_mono _ _ t (fun fin p' s' h' => by obtain ⟨f, rfl, k⟩ := h'; exact k) (fun _ _ _ k => k) default s z)
  exact ⟨n, r, s₁, s₂, b, a, c, d⟩
/-- what the call must be shown to do -/
abbrev WalkP (q : Program) (loose : List Str) (XP : (Str → Option Value) → Heap → Prop) (YP : World → Heap → Prop) (r : RowW) (d : DefRec) (kwd : List (Str × Expr)) : Prop :=
  ∀ (w : World) (s₀ s₁ : Shared) (mg mb : Str → Option Value), Ground q loose r.records XP w s₀ mg mb s₁.heap → YP w s₁.heap → ∀ (a : Addr) (o : Obj) (pm cd doc dV kV : Value), s₁.heap.get? a = some o →
    o.data = .func { docDef d.name d.params d.body d.scope pm cd doc with defaults := dV, kwdefaults := kV } → s₁.heap.CodeRec cd d.name → Dflts mg s₁.heap d.params kwd dV kV → mg d.name = some (.ref a) → s₁.gens = #[] →
    ∀ (args : List WData) (vals : List Value) (as : List Addr), r.claim.pre args = true → WData.layableAll args = true → ReadsAllW r.records (classAt s₀.heap) s₁.heap vals args as → WellAll w.params s₁.heap vals args → (∀ a ∈ as, (a == sysModules) = false) →
      wpP ByCaller (model r.prog w) callerA (PySem.call (.ref a) vals) (fun v s' => GoodWG r.claim (classAt s₀.heap) (ExcName.means s₀.heap) args s₁ (.ok (.ret v)) s')
        (fun e s' => GoodWG r.claim (classAt s₀.heap) (ExcName.means s₀.heap) args s₁ (.error e) s') s₁
theorem head_P {r : OpenRow} {q : Program} {loose : List Str} {Xt : Shared → Bool} {XP : (Str → Option Value) → Heap → Prop} {α : Type} {Yf : Shared → α} {Ya : World → α} {YP : World → Heap → Prop} {d : DefRec} {kwd : List (Str × Expr)} {N : Nat}
    (left : LeftO r.prog q loose Xt Yf Ya N) (hY : ∀ w s, Yf s = Ya w → YP w s.heap) (hYk : ∀ w h h', YP w h → (∀ b o, h.get? b = some o → h'.get? b = some o) → YP w h')
    (hX : ∀ s, Xt s = true → XP (s.heap.nsMap mainGlobals) s.heap) (hXk : ∀ mg h h', XP mg h → (∀ b o, h.get? b = some o → h'.get? b = some o) → XP mg h')
    (hdef : defOf q r.name = some (d, kwd)) (hp : r.prog.theDef r.name = some (d.params, d.body, d.scope)) (hk : kwWritten? d.params.kwonlyargs d.params.kw_defaults = some kwd) (hRf : ∀ s, Xt s = true → RecFacts r.records s.heap) (hwr : (!r.writes || r.records.isEmpty) = true)
    (k1 : r.wellSaid = true) (ok : (chainsOk q && opensWell r.prog && (frees r.toRowW && r.within.isEmpty)) = true) (hb : r.prog.bare) (hw : r.toRowW.promised)
    (walk : WalkP q loose XP YP r.toRowW d kwd) : r.Holds := by
  obtain ⟨ok1, ok2⟩ := Bool.and_eq_true_iff.mp ok
  obtain ⟨hch, ho⟩ := Bool.and_eq_true_iff.mp ok1
  obtain ⟨hfr, hwi⟩ := Bool.and_eq_true_iff.mp ok2
  obtain ⟨hsame, hu, ha, hap, hm⟩ := frees_parts hfr
  have hwi' : r.toRowW.claim.within = [] := List.isEmpty_iff.mp hwi
  have hid := ident_freeW (r := r.toRowW) hu ha hap
  refine ⟨k1, hw, ⟨hb, ho, by show r.toRowW.makers.map _ = []; rw [hm]; rfl⟩, hw.witness, fun w => ⟨(left.behind hX hch w).1, fun s' hs' => ?_⟩⟩
  obtain ⟨s₀, hf, hg0, s, hT, hz, hgs, hg, G₂, y⟩ := (left.behind (XP := fun mg h => XP mg h ∧ RecFacts r.records h) (fun s hs => ⟨hX s hs, hRf s hs⟩) hch w).2 s' hs'
  obtain ⟨g1, g2, g3, g4, g5, g6, g7, g8, g9, g10, g11, g12⟩ := G₂
  have RF := g7.2
  have G₁ : Ground q loose [] XP w s (s.heap.nsMap mainGlobals) (s.heap.nsMap builtinsNs) s.heap := ⟨g1, g2, g3, g4, g5, g6, g7.1, g8, g9, g10, g11, g12⟩
  have hgens : s.gens = #[] := Array.eq_empty_of_size_eq_zero (beq_iff_eq.mp hgs)
  have G : Ground q loose r.toRowW.records XP w s _ _ s.heap := RF.ground G₁
  refine ⟨s₀, hf, hg0, s, hT, fun n hn => ?_, RF.1, RF.2.1, fun args hpre hlay ord hord => ?_⟩
  · obtain rfl : n = r.name := by split at hn <;> simp_all
    exact pinned_of_view hg G₁ hdef hp hk
  obtain ⟨⟨vs, s₁⟩, hlaid⟩ := Option.isSome_iff_exists.mp (layAllW_isSome (P := w.params) (ord := ord) G.has args r.toRowW.args s (pre_splitW hpre).1)
  have keeps := layAllW_keeps _ _ _ hlaid
  have rest := layAllW_rest _ _ _ hlaid
  obtain ⟨as, hrd, hin, hold⟩ := reads_layAllW hord _ _ _ hlaid hlay s₁.heap (fun _ _ e => e)
  have L : Laid r.toRowW.records w s s₁ args vs as := ⟨⟨ord, hord, hlaid⟩, hrd, hin, hold, keeps, rest.1.trans hgens, rest.2.2.1⟩
  have G' := G.keeps hXk keeps
  obtain ⟨a, o, pm, cd, doc, dV, kV, h1, h2, h3, h4, h5⟩ := G'.fn hdef
  have run := walk w s s₁ _ _ G' (hYk _ _ _ (hY w s y) keeps) a o pm cd doc dV kV h2 h3 h4 h5 (defOf_name hdef ▸ h1) L.gens args vs as hpre hlay L.reads L.well (L.low G.low)
  have good : ∀ res s', GoodWG r.toRowW.claim (classAt s.heap) (ExcName.means s.heap) args s₁ res s' →
      (r.toRowW.claim.Ends s args vs s₁ res s' ∧ s'.os = s.os ∧ (r.writes = true → namesKept r.prog r.keeps s.heap s'.heap ∧ ∀ x ∈ r.records, ∀ a, classAt s.heap x.1 = some a → recordClass s'.heap a x.1 (x.2.map (·.1)) = true)) ∧ leftWithCleanup s'.gens = false := fun res s' g => by
    have z := g.laid (c := r.toRowW.claim) hsame hwi' hid L
    exact ⟨⟨z.1, z.2.1, fun e => ⟨namesKept_of hT hg r.keeps keeps g.2.1.old, noTable hwr e⟩⟩, leftWithCleanup_false_of_bare z.2.2⟩
  have all : wpP ByCaller (model r.prog w) callerA (do match ← nsGet mainNs r.name with
      | some f => do ret (← PySem.call f vs)
      | none => unsupported "claim.caller:no-such-global")
      (fun fin s' => ∃ f, fin = .done f ∧ (r.toRowW.claim.Ends s args vs s₁ (.ok f) s' ∧ s'.os = s.os ∧ (r.writes = true → namesKept r.prog r.keeps s.heap s'.heap ∧ ∀ x ∈ r.records, ∀ a, classAt s.heap x.1 = some a → recordClass s'.heap a x.1 (x.2.map (·.1)) = true)) ∧ leftWithCleanup s'.gens = false)
      (fun e s' => (r.toRowW.claim.Ends s args vs s₁ (.error e) s' ∧ s'.os = s.os ∧ (r.writes = true → namesKept r.prog r.keeps s.heap s'.heap ∧ ∀ x ∈ r.records, ∀ a, classAt s.heap x.1 = some a → recordClass s'.heap a x.1 (x.2.map (·.1)) = true)) ∧ leftWithCleanup s'.gens = false) s₁ := by
    refine wpP_any (wpAny_nsGet G'.T.g ?_)
    rw [h1]
    exact wpP_bind (wpP_mono run (fun v s' g => wpP_pure ⟨_, rfl, good _ _ g⟩) fun e s' g => good _ _ g)
  obtain ⟨k, res, s₂, s₃, hrun, hsched, hfo, hends, hos, hkp⟩ := thread_P (R := fun res s' => r.toRowW.claim.Ends s args vs s₁ res s' ∧ s'.os = s.os ∧ (r.writes = true → namesKept r.prog r.keeps s.heap s'.heap ∧ ∀ x ∈ r.records, ∀ a, classAt s.heap x.1 = some a → recordClass s'.heap a x.1 (x.2.map (·.1)) = true)) (Shared.asleep_of_life rest.2.2.2 hz) all
  obtain ⟨eh, _, _, eo, _⟩ := Shared.forget_eq hfo
  have hends' := hends.congr eh
  rw [← eh] at hkp
  rw [← eo] at hos
  have hlife : s₃.heap.life = s.heap.life := (runN_life _ _ _ hrun).trans rest.2.2.2
  refine ⟨vs, s₁, hlaid, k, _, s₃, hsched, ?_, (fun _ i x hx => by rw [hgens] at hx; simp at hx), hkp, by rw [hlife], Shared.rest_eq hos⟩
  rcases hends' with ⟨v, rfl, d1, d2, d3, d4, d5⟩ | ⟨e, ob, cls, rfl, d1, d2, d3, d4, d5⟩
  · exact .inl ⟨v, rfl, d1, d2, d3, fun b o y _ => d4 b o y, d5⟩
  · exact .inr ⟨e, ob, cls, rfl, d1, d2, d3, d4, fun b o y _ => d5 b o y⟩
end
section
set_option maxHeartbeats 0
abbrev lawRow : RowW := PySem.Challenge.rw_il0122_01.row.toRowW
def objsAt : List Addr := [2, 3, 15, 17, 18, 20, 21, 22, 24, 25, 27, 28, 36, 38, 39, 41, 42, 43, 44, 46, 47, 49, 50, 51, 53, 54, 56, 57, 58, 60, 61, 63, 64, 65, 66, 67, 68, 69, 72, 75, 80, 81, 82, 83, 85, 86, 88, 89, 90, 92, 93, 95, 96, 97, 98, 99, 100, 101, 103, 104, 106, 107, 108, 110, 111, 113, 114, 115, 117, 118, 120, 121, 122, 124, 125, 127, 128, 129, 130, 131, 133, 134, 136, 138, 139, 140, 143, 150, 152, 153, 155, 156, 157, 158, 159, 160, 161, 162, 163, 166, 169, 170, 171, 173, 174, 176, 177, 178, 180, 181, 183, 184, 185, 187, 188, 190, 191, 192, 195, 196, 197, 200, 201, 202, 205, 206, 207, 209, 210, 212, 213, 214, 217, 218, 219, 221, 222, 224, 225]
theorem objsAt_are (P : Params) : objsAt = (hd.heap_39 P).map (·.1) := by kernel_rfl
theorem left_law : LeftO lawRow.prog hd.view_39 [Str.ofString "_tuplegetter", Str.ofString "Pair"] (fun s => xlAt hd.view_39 [] s && recOk (RowW.records lawRow) s)
    (Hook.obs (kHook hd.heap_39 objsAt objsAt_are)) (Hook.val (kHook hd.heap_39 objsAt objsAt_are)) 4082 := fun w => by
  unfold openEnds fencedOpening topFrom
  rw [PySem.W.Fast.te14364793385576792824, PySem.W.Fast.te10274390034422433532, PySem.W.Fast.te14289696077712309145, PySem.W.Fast.te14082659384304107361, PySem.W.Fast.te4187177175401517315, PySem.W.Fast.te1435165496053646825]
  kernel_rfl
noncomputable def lawDef : DefRec := (fun (x : DefRec × List (Str × Expr)) (_ : defOf hd.view_39 lawRow.name = some x) => x.1) _ rfl
theorem lawDef_is : defOf hd.view_39 lawRow.name = some (lawDef, []) := rfl
theorem head_law (walk : WalkP hd.view_39 [Str.ofString "_tuplegetter", Str.ofString "Pair"] (XL hd.view_39 []) (Hook.says (kHook hd.heap_39 objsAt objsAt_are)) lawRow lawDef []) : PySem.Challenge.rw_il0122_01.Holds := by
  w_on; o_law
  refine head_P (q := hd.view_39) (loose := [Str.ofString "_tuplegetter", Str.ofString "Pair"]) (Xt := fun s => xlAt hd.view_39 [] s && recOk (RowW.records lawRow) s) (XP := XL hd.view_39 []) (Yf := Hook.obs (kHook hd.heap_39 objsAt objsAt_are)) (Ya := Hook.val (kHook hd.heap_39 objsAt objsAt_are)) (YP := Hook.says (kHook hd.heap_39 objsAt objsAt_are)) (N := 4082) left_law (Hook.of _) (Hook.keeps _) (fun s e => xl_of s (Bool.and_eq_true_iff.mp e).1) XL.keeps lawDef_is (by rfl) (by rfl) (fun s e => recFacts_of (Bool.and_eq_true_iff.mp e).2) (by rfl) (by assumption) (by decide +kernel) ⟨rfl, rfl, rfl, rfl, rfl, by decide +kernel⟩ ?hw walk
  case hw => w_witness2
theorem law_cells : ∀ x ∈ lawDef.scope.names, x.2 ≠ NameKind.cell := by
  unfold lawDef
  decide
end
section
local macro_rules | `(tactic| k_room) => `(tactic| ktr_room)
local macro_rules | `(tactic| ktr_enter) => `(tactic| (refine' code_clean ?k1 ?k2 ?k3 ?k5 ?kS ?kA ?kF ?kK ?k6 ?k7 ?k8 ?k9 ?kB ?_ ?c2 ?c3 ?c4 ?c5; (case kA => exact rfl); (case kF => exact rfl); (case kK => assumption); (case k1 => k_asm); (case k2 => k_asm); (case k3 => k_asm); (case k5 => k_asm); (case kS => k_asm); (case k6 => k_is); (case k7 => k_is); (case k8 => ktr_room); (case k9 => first | exact BindsTo.of_eq rfl | exact binds_K (by k_in) rfl (by k_is) rfl rfl rfl); (case c5 => decide); (case kB => exact locs rfl); (case c2 => exact rfl); (case c3 => exact rfl); (case c4 => exact rfl); k_whole; intro L' h' FG' F' N' B' X' T' St'; (try dsimp only); (try k_fold)))
local macro_rules | `(tactic| k_enter) => `(tactic| ktr_enter)
section
def cutZ (n : Int) : Int := if n < 0 then -((-n) % 10 ^ 10) else n % 10 ^ 10
theorem cut_neg {n : Int} (h : n < 0) : -(-n).fmod (10 ^ Int.toNat 10) = cutZ n := by
  unfold cutZ; rw [if_pos h, Int.fmod_eq_emod_of_nonneg _ (by decide)]; rfl
theorem cut_pos {n : Int} (h : ¬ n < 0) : n.fmod (10 ^ Int.toNat 10) = cutZ n := by
  unfold cutZ; rw [if_neg h, Int.fmod_eq_emod_of_nonneg _ (by decide)]; rfl
theorem con_cut (w : World) (n : Int) (t : Tok) : Con w 213 [.int n t] 2 (fun _ => True) (fun _ tl r => tl = [] ∧ ∃ t', r = .int (cutZ n) t') := by
  refine Con.clean ?_
  unfold lo
  k_fill
  intro mg mb dp un gd cn cs a ccd cl outer A₀ base h₀ L m s Q E B Sb F X N T St hk hpre hd hu hret
  refine wpAny_call ?_
  k_dflt ktr_enter
  k_steps
  all_goals exact ret_plain hret (by k_asm) (stays_fr (by assumption)) ⟨rfl, _, by first | rw [cut_neg (by assumption)] | rw [cut_pos (by assumption)]⟩
/-- the sign of a number -/
def signS (n : Int) : Str := Txt.item (Str.ofString "0123456789_ -+.=\te") (n.fmod 18)
def signsS (ns : List Int) : Str := Txt.join (Str.ofString "") (ns.map signS)
theorem con_signs (w : World) (l : Addr) (vs : List Value) (ns : List Int) (hv : IntsAre vs ns) (hl : ns.length ≤ 63) : Con w 170 [.ref l] 2 (fun h => h.IsList l vs.toArray) (fun _ tl r => tl = [] ∧ ∃ t', r = .str (signsS ns) t') := by
  refine Con.clean ?_
  unfold lo
  k_fill
  intro mg mb dp un gd cn cs a ccd cl outer A₀ base h₀ L m s Q E B Sb F X N T St hk hpre hd hu hret
  refine wpAny_call ?_
  k_dflt ktr_enter
  k_steps
  exact ret_plain hret (by k_asm) (stays_fr (by assumption)) ⟨rfl, _, rfl⟩
end
section
theorem type_pair {prog : Program} {w : World} {A : Around} {E : Value → Shared → Prop} {s : Shared} {x dx : Addr} {its : List Value} {Q : Value → Shared → Prop} (hx : s.heap.get? x = some (pairObj its dx)) (hq : Q (.ref 162) s) :
    wpAny (model prog w) A (call (.type "type") [.ref x]) Q E s := call_type_obj hx rfl hq
local macro_rules | `(tactic| walk_at "call type:type") => `(tactic| (k_here; refine type_pair (Fr.keep (by k_asm) _ _ (by assumption)) ?_))
local macro_rules | `(tactic| walk_at "call builtin:issubclass") => `(tactic| (k_here; refine sub_tuple (by k_in) ?_))
local macro_rules | `(tactic| walk_at "getMethod type:tuple") => `(tactic| (k_here; refine' method_type ?F ?X ?m (by decide +kernel) ?e ?h ?_; (case F => k_asm); (case X => k_asm); (case m => exact type_tuple); (case e => k_dflt k_is); (case h => k_handed)))
local macro_rules | `(tactic| walk_at "call builtin:tuple.__getitem__") => `(tactic| (k_here; refine pair_item (by k_in) (Fr.keep (by k_asm) _ _ (by assumption)) (by decide) (by decide) (by rfl) (by rfl) ?_))
theorem con_name (w : World) (x dx : Addr) (va vb : Value) : Con w 50 [.ref 131, .ref x, .ref 162] 2 (fun h => h.get? x = some (pairObj [va, vb] dx)) (fun _ tl r => tl = [] ∧ r = va) := by
  refine Con.clean ?_
  unfold lo
  k_fill
  intro mg mb dp un gd cn cs a ccd cl outer A₀ base h₀ L m s Q E B Sb F X N T St hk hpre hd hu hret
  refine wpAny_call ?_
  k_dflt ktr_enter
  k_steps
  exact ret_plain hret (by k_asm) (stays_fr (by assumption)) ⟨rfl, rfl⟩
theorem con_value (w : World) (x dx : Addr) (va vb : Value) : Con w 50 [.ref 134, .ref x, .ref 162] 2 (fun h => h.get? x = some (pairObj [va, vb] dx)) (fun _ tl r => tl = [] ∧ r = vb) := by
  refine Con.clean ?_
  unfold lo
  k_fill
  intro mg mb dp un gd cn cs a ccd cl outer A₀ base h₀ L m s Q E B Sb F X N T St hk hpre hd hu hret
  refine wpAny_call ?_
  k_dflt ktr_enter
  k_steps
  exact ret_plain hret (by k_asm) (stays_fr (by assumption)) ⟨rfl, rfl⟩
end
end
section
section
variable {w : World} {E : Value → Shared → Prop} {s : Shared} {h₀ base : Heap} {L : Addr} {m : Str → Option Value} {news : List (Addr × Obj)}
theorem q_ga (P : Params) : findIn (KQ P) (.ref 162) "__getattribute__" = some (some (.builtin "tuple.__getattribute__")) := by kernel_rfl
theorem q_hook (P : Params) : findIn (KQ P) (.ref 162) "__getattr__" = some none := by kernel_rfl
theorem q_name (P : Params) : findObj (KQ P) 162 (some (dictOf [] 0)) (Str.ofString "name") = some (.bind (.ref 50) (.ref 131)) := by kernel_rfl
theorem q_value (P : Params) : findObj (KQ P) 162 (some (dictOf [] 0)) (Str.ofString "value") = some (.bind (.ref 50) (.ref 134)) := by kernel_rfl
theorem ga_kind : builtinKind "tuple.__getattribute__" = some .slot := by decide +kernel
theorem ga_split : splitId "tuple.__getattribute__" = some ("tuple", "__getattribute__") := by decide +kernel
theorem ga_plain : plainId "tuple.__getattribute__" = true := by decide +kernel
theorem entry_ga : entryFor table "tuple.__getattribute__" = some Builtin.«object.__getattribute__» := am_entry_tuple_getattribute

theorem pair_bind {A : Around} {x dx : Addr} {its : List Value} {name : Str} {g d : Value} {expr : Bool} {Q : Value → Shared → Prop} (X : (KQ w.params).In s.heap) (hx : s.heap.get? x = some (pairObj its dx)) (hdx : s.heap.get? dx = some (dictOf [] 0))
    (hf : findObj (KQ w.params) 162 (some (dictOf [] 0)) name = some (.bind g d))
    (h : wpAny (model PySem.Challenge.rw_il0122_01.row.prog w) A.in1 (call g [d, .ref x, .ref 162]) (fun v s' => handedIn v = true ∧ Q v s') (fun _ _ => False) { s with toks := s.toks + 1 }) :
    wpAny (model PySem.Challenge.rw_il0122_01.row.prog w) A (getAttr (.ref x) name expr) Q E s := by
  obtain ⟨hp, gs, dr, tk, os⟩ := s
  have I : InstAt hp x (pairObj its dx) 162 (some (dictOf [] 0)) := ⟨hx, rfl, rfl, hdx⟩
  have L0 := I.type (M := model PySem.Challenge.rw_il0122_01.row.prog w)
  have L1 := looks_findIn (M := model PySem.Challenge.rw_il0122_01.row.prog w) X (q_ga w.params)
  have L2 := looks_findIn (M := model PySem.Challenge.rw_il0122_01.row.prog w) X (q_hook w.params)
  have L3 := looks_find (M := model PySem.Challenge.rw_il0122_01.row.prog w) X I hf
  have L4 : Looks (model PySem.Challenge.rw_il0122_01.row.prog w) hp (isInstance (.ref x) (.type "tuple")) true := L0.andThen (Looks.of_peek X (q_subTup _ _))
  unfold getAttr getAttrBy
  refine wpAny_bind (wpAny_mkText (wpAny_holding (wpAny_bind (L0.at (wpAny_bind (L1.at ?_))))))
  show wpAny _ _ (getAttrByItsOwn _ _ _ _ _ _) _ _ _
  unfold getAttrByItsOwn hookBefore
  refine wpAny_bind ?_
  show wpAny _ _ (typeLookup (.ref 162) "__getattr__") _ _ _
  refine L2.at ?_
  refine wpAny_bind (wpAny_attempt (wpAny_holding ?_))
  unfold callGetattribute
  rw [show (expr && onTheHeap (Value.builtin "tuple.__getattribute__")) = false from Bool.and_false _, if_neg (by decide)]
  unfold boundAndCalled
  rw [PySem.F.slot_tuple_getattribute.bind]
  refine wpAny_bind (wpAny_pure ?_)
  refine wpAny_call (codeAny_call_builtin ga_plain entry_ga (@check_slot (model PySem.Challenge.rw_il0122_01.row.prog w) _ _ _ "tuple.__getattribute__" "tuple" "__getattribute__" (.ref x) [.str name tk] [] _ ga_kind ga_split L4 (PySem.F.args_tuple_getattribute_2 _ _) ?_))
  show wpAny _ _ (typeOf (.ref x) >>= _) _ _ _
  refine wpAny_bind (L0.at ?_)
  refine wpAny_bind (L3.at ?_)
  show wpAny _ _ (Builtin.ObjectAttr.bindTo g d (.ref x) (.ref 162)) _ _ _
  unfold Builtin.ObjectAttr.bindTo
  refine wpAny_bind (wpAny_holding (wpAny_mono h (fun v s' z => ?_) fun _ _ z => z.elim))
  exact wpAny_pure (handed_on z.1 z.2)
variable {mg mb : Str → Option Value} {dp un : Nat} {gd : Option (List Code)} {cn : Str} {cs : Scope} {a : Addr} {ccd : Value} {cl : List (Str × Addr)} {outer : List Env} {A₀ : Around}
theorem attr_name {x dx : Addr} {va vb : Str} {ta tb : Tok} {expr : Bool} {Q : Value → Shared → Prop} (B : Below A₀ base outer h₀) (Sb : Stat base) (F : Fr h₀ L s.heap m) (X : (KQ w.params).In h₀) (N : News h₀ L s.heap news) (T : TopRead hd.view_39 lo mg mb h₀) (St : Stat h₀) (hk : cs.kind = .function)
    (hx : (x, pairObj [.str va ta, .str vb tb] dx) ∈ news) (hdx : (dx, dictOf [] 0) ∈ news) (hd : dp + 2 < recursionLimit) (hu : un + 1 + 8 * 2 < cLine)
    (ret : ∀ h' tk, Fr h₀ L h' m → News h₀ L h' news → Q (.str va ta) { s with heap := h', toks := tk }) :
    wpAny (model PySem.Challenge.rw_il0122_01.row.prog w) (ktrTop dp un gd cn cs L a ccd cl outer) (getAttr (.ref x) (Str.ofString "name") expr) Q E s :=
  pair_bind (X.keeps F.keep) (N _ hx).1 (N _ hdx).1 (q_name _) ((con_name w x dx (.str va ta) (.str vb tb)).use (un := un + 1) (s := { s with toks := s.toks + 1 }) B Sb F X N T St hk (N _ hx).1 hd hu fun r tl h' tk' F' N' _ _ o => by
    obtain ⟨rfl, rfl⟩ := o
    exact ⟨rfl, ret h' tk' F' N'⟩)
theorem attr_value {x dx : Addr} {va vb : Str} {ta tb : Tok} {expr : Bool} {Q : Value → Shared → Prop} (B : Below A₀ base outer h₀) (Sb : Stat base) (F : Fr h₀ L s.heap m) (X : (KQ w.params).In h₀) (N : News h₀ L s.heap news) (T : TopRead hd.view_39 lo mg mb h₀) (St : Stat h₀) (hk : cs.kind = .function)
    (hx : (x, pairObj [.str va ta, .str vb tb] dx) ∈ news) (hdx : (dx, dictOf [] 0) ∈ news) (hd : dp + 2 < recursionLimit) (hu : un + 1 + 8 * 2 < cLine)
    (ret : ∀ h' tk, Fr h₀ L h' m → News h₀ L h' news → Q (.str vb tb) { s with heap := h', toks := tk }) :
    wpAny (model PySem.Challenge.rw_il0122_01.row.prog w) (ktrTop dp un gd cn cs L a ccd cl outer) (getAttr (.ref x) (Str.ofString "value") expr) Q E s :=
  pair_bind (X.keeps F.keep) (N _ hx).1 (N _ hdx).1 (q_value _) ((con_value w x dx (.str va ta) (.str vb tb)).use (un := un + 1) (s := { s with toks := s.toks + 1 }) B Sb F X N T St hk (N _ hx).1 hd hu fun r tl h' tk' F' N' _ _ o => by
    obtain ⟨rfl, rfl⟩ := o
    exact ⟨rfl, ret h' tk' F' N'⟩)
theorem newBack_intro {K : Frag} {C x : Addr} {ox : Obj} {R : Result → Shared → Prop} {s' : Shared} (N : News h₀ L s'.heap news) (hm : (x, ox) ∈ news) (hc : ox.cls = .ref C) (X : K.In s'.heap) (h : R (.ok (.ret (.ref x))) s') : NewBack K C R (.ok (.ret (.ref x))) s' :=
  ⟨x, ox, rfl, (N _ hm).1, hc, X, h⟩
end
end
section
/-- a text written with the marks -/
structure MarkText (x : Str) (gs : List Mk) : Prop where
  s : signs x = gs.map Mk.text
  f : ∀ g ∈ gs, g ≠ .fin
theorem MarkText.len {x : Str} {gs : List Mk} (h : MarkText x gs) : x.length = gs.length := by
  have z := congrArg List.length h.s
  rwa [signs_length, List.length_map] at z
theorem signs_append (x y : Str) : signs (x ++ y) = signs x ++ signs y := by
  simp [signs, PySem.Str.cps_append]
theorem MarkText.append {x y : Str} {gs hs : List Mk} (h : MarkText x gs) (k : MarkText y hs) : MarkText (x ++ y) (gs ++ hs) :=
  ⟨by rw [signs_append, h.s, k.s, List.map_append], fun g m => (List.mem_append.mp m).elim (h.f g) (k.f g)⟩
theorem mark_sign (n : Int) : ∃ g : Mk, g ≠ .fin ∧ signS n = g.text := by
  have h0 : 0 ≤ n.fmod 18 := Int.fmod_nonneg_of_pos n (by decide)
  have h1 : n.fmod 18 < 18 := Int.fmod_lt_of_pos n (by decide)
  unfold signS
  generalize n.fmod 18 = k at h0 h1
  obtain ⟨m, rfl⟩ := Int.eq_ofNat_of_zero_le h0
  have h2 : m < 18 := Int.ofNat_lt.mp h1
  match m, h2 with
  | 0, _ => exact ⟨.d0, by simp, by decide +kernel⟩
  | 1, _ => exact ⟨.d1, by simp, by decide +kernel⟩
  | 2, _ => exact ⟨.d2, by simp, by decide +kernel⟩
  | 3, _ => exact ⟨.d3, by simp, by decide +kernel⟩
  | 4, _ => exact ⟨.d4, by simp, by decide +kernel⟩
  | 5, _ => exact ⟨.d5, by simp, by decide +kernel⟩
  | 6, _ => exact ⟨.d6, by simp, by decide +kernel⟩
  | 7, _ => exact ⟨.d7, by simp, by decide +kernel⟩
  | 8, _ => exact ⟨.d8, by simp, by decide +kernel⟩
  | 9, _ => exact ⟨.d9, by simp, by decide +kernel⟩
  | 10, _ => exact ⟨.us, by simp, by decide +kernel⟩
  | 11, _ => exact ⟨.sp, by simp, by decide +kernel⟩
  | 12, _ => exact ⟨.minus, by simp, by decide +kernel⟩
  | 13, _ => exact ⟨.plus, by simp, by decide +kernel⟩
  | 14, _ => exact ⟨.dot, by simp, by decide +kernel⟩
  | 15, _ => exact ⟨.eq, by simp, by decide +kernel⟩
  | 16, _ => exact ⟨.tab, by simp, by decide +kernel⟩
  | 17, _ => exact ⟨.e, by simp, by decide +kernel⟩
  | m + 18, h => exact absurd h (Nat.not_lt.mpr (Nat.le_add_left 18 m))
end
section
local macro_rules | `(tactic| walk_at "q room") => `(tactic| ((try rw [depth_under_make]); refine Nat.lt_of_le_of_lt ?_ (by assumption); first | exact Nat.le.intro (k := 0) rfl | exact Nat.le.intro (k := 1) rfl | exact Nat.le.intro (k := 2) rfl | exact Nat.le.intro (k := 3) rfl | exact Nat.le.intro (k := 4) rfl | exact Nat.le.intro (k := 5) rfl | exact Nat.le.intro (k := 6) rfl | exact Nat.le.intro (k := 7) rfl | exact Nat.le.intro (k := 8) rfl | exact Nat.le.intro (k := 9) rfl | exact Nat.le.intro (k := 10) rfl))
local macro_rules | `(tactic| walk_at "q units") => `(tactic| (refine Nat.lt_of_le_of_lt ?_ (by assumption); first | exact Nat.le.intro (k := 28) rfl | exact Nat.le.intro (k := 27) rfl | exact Nat.le.intro (k := 29) rfl | exact Nat.le.intro (k := 20) rfl | exact Nat.le.intro (k := 36) rfl | exact Nat.le.intro (k := 13) rfl | exact Nat.le.intro (k := 12) rfl | exact Nat.le.intro (k := 14) rfl | exact Nat.le.intro (k := 11) rfl | exact Nat.le.intro (k := 21) rfl | exact Nat.le.intro (k := 19) rfl | exact Nat.le.intro (k := 5) rfl | exact Nat.le.intro (k := 4) rfl | exact Nat.le.intro (k := 3) rfl | exact Nat.le.intro (k := 35) rfl | exact Nat.le.intro (k := 37) rfl | exact Nat.le.intro (k := 44) rfl | exact Nat.le.intro (k := 45) rfl | exact Nat.le.intro (k := 43) rfl | exact Nat.le.intro (k := 61) rfl))
local macro_rules | `(tactic| k_room) => `(tactic| ktr_room)
local macro_rules | `(tactic| k_enter) => `(tactic| (refine' code_led ?k1 ?k2 ?k3 ?k4 ?k5 ?kS ?kA ?kF ?kK ?k6 ?k7 ?k8 ?k9 ?kB ?_ ?c2 ?c3 ?c4 ?c5; (case kA => exact rfl); (case kF => exact rfl); (case kK => first | exact rfl | assumption); (case k1 => k_asm); (case k2 => k_asm); (case k3 => k_asm); (case k4 => k_asm); (case k5 => k_asm); (case kS => k_asm); (case k6 => k_is); (case k7 => k_is); (case k8 => walk_at "q room"); (case k9 => first | exact BindsTo.of_eq rfl | exact binds_K (by k_in) rfl (by k_is) rfl rfl rfl); (case c5 => decide); (case kB => exact locs rfl); (case c2 => exact rfl); (case c3 => exact rfl); (case c4 => exact rfl); k_whole; intro g' L' h' FG' F' N' B' X' T' St'; (try dsimp only); (try k_fold)))
section
local macro_rules | `(tactic| walk_at "getAttr ref") => `(tactic| (k_here; k_dflt ((refine' cls_cm' ?k1 ?k2 ?k3 ?k4 ?k5 ?k6 ?k7 ?_; (case k1 => k_asm); (case k2 => k_asm); (case k3 => k_asm); (case k4 => k_asm); (case k5 => k_is); (case k6 => k_is); (case k7 => k_is); k_whole; intro q' h' F' N' l1; (try k_lt l1)))))
local macro_rules | `(tactic| walk_at "getAttr type:str") => `(tactic| (k_here; refine' attr_type ?F ?X ?m (by decide +kernel) ?e ?h ?_; (case F => k_asm); (case X => k_asm); (case m => exact type_str); (case e => k_dflt k_is); (case h => k_handed)))
local macro_rules | `(tactic| walk_at "getMethod type:tuple") => `(tactic| (k_here; refine' method_type ?F ?X ?m (by decide +kernel) ?e ?h ?_; (case F => k_asm); (case X => k_asm); (case m => exact type_tuple); (case e => k_dflt k_is); (case h => k_handed)))
local macro_rules | `(tactic| walk_at "call builtin:str.split") => `(tactic| (k_here; k_dflt (first
  | (refine' split_eq ?hs ?hl rfl ?F ?N ?_; (case hs => assumption); (case hl => assumption); (case F => k_asm); (case N => k_asm); k_whole; intro l' vs' h' tk' hv' hz' hL' F' N')
  | (refine' split_dot ?hs ?hl rfl ?F ?N ?_; (case hs => assumption); (case hl => assumption); (case F => k_asm); (case N => k_asm); k_whole; intro l' vs' h' tk' hv' hL' F' N'))))
local macro_rules | `(tactic| walk_at "call type:map") => `(tactic| (k_here; k_dflt (refine' call_map ?F ?N ?l ?_; (case F => k_asm); (case N => k_asm); (case l => assumption); k_whole); intro M' T' it' h' F' N' l1' l2' l3' l4' hL'))
local macro_rules | `(tactic| walk_at "StarOf ref") => `(tactic| (k_here; k_dflt (first
  | (refine' star_one rfl ?F ?N ?hi ?hz ?hl ?h1 ?h2 ?h3 ?h4 ?_; (case F => k_asm); (case N => k_asm); (case hi => assumption); (case hz => assumption); (case hl => assumption); (case h1 => assumption); (case h2 => assumption); (case h3 => assumption); (case h4 => assumption); k_whole; intro t' h' tk' F' N')
  | (refine' star_two rfl ?F ?N ?hi ?hz ?hl ?h1 ?h2 ?h3 ?h4 ?_; (case F => k_asm); (case N => k_asm); (case hi => assumption); (case hz => assumption); (case hl => assumption); (case h1 => assumption); (case h2 => assumption); (case h3 => assumption); (case h4 => assumption); k_whole; intro t' u' h' tk' F' N'))))
local macro_rules | `(tactic| walk_at "k stat") => `(tactic| first | assumption | exact Stat.keeps (by assumption) (Fr.keep (by assumption)))
local macro_rules | `(tactic| walk_at "leaving ref") => `(tactic| (k_here; k_dflt (refine' leave_T ?K ?F ?N ?x ?_; (case x => assumption); (case F => assumption); (case K => assumption); (case N => assumption); k_whole; intro h' R' U'; (try dsimp only at R' U' ⊢))))
local macro_rules | `(tactic| walk_at "noteFrame ref") => `(tactic| (k_here; (rename RaisedSN _ _ _ _ _ _ _ => rkX); k_dflt (first
  | (refine' caught_T (x := Str.ofString "TypeError") rkX ?U ?F ?K ?Sb ?XB ?TB ?ex PyProof.Rows.Boot.«TypeError» (by decide +kernel) PySem.F.isExc_TypeError PySem.F.notTuple_TypeError (by rw [isSubtype_type]; kernel_rfl) ?_; (case U => assumption); (case F => assumption); (case K => assumption); (case Sb => assumption); (case XB => assumption); (case TB => assumption); (case ex => k_is); k_whole; intro h' g' Tn' F' N' X' T' St')
  | (refine' caught_T (x := Str.ofString "ValueError") rkX ?U ?F ?K ?Sb ?XB ?TB ?ex PyProof.Rows.Boot.«ValueError» (by decide +kernel) PySem.F.isExc_ValueError PySem.F.notTuple_ValueError (by rw [isSubtype_type]; kernel_rfl) ?_; (case U => assumption); (case F => assumption); (case K => assumption); (case Sb => assumption); (case XB => assumption); (case TB => assumption); (case ex => k_is); k_whole; intro h' g' Tn' F' N' X' T' St'))))
local macro_rules | `(tactic| walk_at "call ref") => `(tactic| (k_here; k_dflt (refine' call_pair ?X ?S ?_; (case X => k_in); (case S => walk_at "k stat"); k_whole; k_enter)))
local macro_rules | `(tactic| walk_at "call builtin:tuple.__new__") => `(tactic| (k_here; k_dflt (refine' tuple_new ?F ?X ?N ?t ?z ?_; (case F => k_asm); (case X => k_asm); (case N => k_asm); (case t => k_mem); (case z => exact Nat.le_of_ble_eq_true rfl); k_whole; intro x' dx' h' F' N' l1 l2; (try k_lt l1); (try k_lt2 l2); (try k_sweep))))
local macro_rules | `(tactic| walk_at "NewBack") => `(tactic| (k_here; (rename News _ _ _ _ => nwX); (refine newBack_to (nwX _ (by k_mem)).1 rfl ?X ?_); (case X => k_in); k_whole; (try dsimp only)))
local macro_rules | `(tactic| walk_at "getAttr ref") => `(tactic| (k_here; (with_reducible show wpAny _ _ (getAttr _ (Str.ofString "name") _) _ _ _); (refine' attr_name ?B ?Sb ?F ?X ?N ?T ?S rfl ?x ?dx ?d ?u ?_; (case F => k_asm); (case N => k_asm); (case x => k_mem); (case dx => k_mem); (case X => k_asm); (case T => k_asm); (case S => with_reducible assumption); (case B => k_asm); (case Sb => with_reducible assumption); (case d => walk_at "q room"); (case u => walk_at "q units"); k_whole; intro h' tk' F' N'; (try k_sweep))))
local macro_rules | `(tactic| walk_at "getAttr ref") => `(tactic| (k_here; (with_reducible show wpAny _ _ (getAttr _ (Str.ofString "value") _) _ _ _); (refine' attr_value ?B ?Sb ?F ?X ?N ?T ?S rfl ?x ?dx ?d ?u ?_; (case F => k_asm); (case N => k_asm); (case x => k_mem); (case dx => k_mem); (case X => k_asm); (case T => k_asm); (case S => with_reducible assumption); (case B => k_asm); (case Sb => with_reducible assumption); (case d => walk_at "q room"); (case u => walk_at "q units"); k_whole; intro h' tk' F' N'; (try k_sweep))))
local macro_rules | `(tactic| walk_at "assign Tuple") => `(tactic| (k_here; k_dflt (first
  | (refine' assign_ok ?la rfl rfl rfl ?F ?St ?N ?hi ?hz ?hl ?h1 ?h2 ?h3 ?h4 ?_; (case F => k_asm); (case N => k_asm); (case hi => assumption); (case la => assumption); (case hz => assumption); (case St => assumption); (case hl => assumption); (case h1 => assumption); (case h2 => assumption); (case h3 => assumption); (case h4 => assumption); k_whole; intro h' tk' t' u' F' N'; (try k_sweep))
  | (refine' assign_bad ?la rfl rfl rfl ?F ?St ?N ?hi ?hz ?hl ?h1 ?h2 ?h3 ?h4 ?_; (case F => k_asm); (case N => k_asm); (case hi => assumption); (case la => assumption); (case hz => assumption); (case St => assumption); (case hl => assumption); (case h1 => assumption); (case h2 => assumption); (case h3 => assumption); (case h4 => assumption); k_whole; intro h1' h' tk' e' FB' NB' hE'))))
local macro_rules | `(tactic| walk_at "pyIter ref") => `(tactic| (k_here; (rename News _ _ _ _ => nwX); k_dflt (refine' comp_tuple (q_strname _) ?X ?T rfl rfl rfl ?x ?st rfl ?F nwX ⟨_, (nwX _ (List.Mem.head _)).1, rfl, _, rfl⟩ (shown_are (.cons ⟨_, rfl⟩ (.cons ⟨_, rfl⟩ (.cons ⟨_, rfl⟩ (.cons ⟨_, rfl⟩ .nil)))) (by assumption)) (Nat.le_of_ble_eq_true rfl) ?_; (case X => k_asm); (case T => k_asm); (case x => exact rfl); (case st => exact rfl); (case F => k_asm)); k_whole; intro D' ys' n' h' tk' F' N' c'))
section
local macro_rules | `(tactic| ktr_enter) => `(tactic| (refine' code_raw ?k1 ?k2 ?k3 ?k5 ?kS ?kA ?kF ?kK ?k6 ?k7 ?k8 ?k9 ?kB ?_ ?c2 ?c3 ?c4 ?c5; (case kA => exact rfl); (case kF => exact rfl); (case kK => assumption); (case k1 => k_asm); (case k2 => k_asm); (case k3 => k_asm); (case k5 => k_asm); (case kS => k_asm); (case k6 => k_is); (case k7 => k_is); (case k8 => walk_at "q room"); (case k9 => first | exact BindsTo.of_eq rfl | exact binds_K (by k_in) rfl (by k_is) rfl rfl rfl); (case c5 => decide); (case kB => exact locs rfl); (case c2 => exact rfl); (case c3 => exact rfl); (case c4 => exact rfl); k_whole; intro L' h' FG' F' N' B' X' T' St'; (try dsimp only); (try k_fold)))
section
section
set_option maxHeartbeats 1600000
theorem conT_bad1 (w : World) (x a b : Str) (t : Tok) (as : List Str) (hs : Txt.splitMax x (Str.ofString "=") 1 = [a, b]) (hl : x.length ≤ 640)
    (ha : (Txt.strip a).length ≤ 640) (hb : (Txt.strip b).length ≤ 640) (has : Txt.split (Txt.strip a) (Str.ofString ".") = as)
    (hca : ∀ x ∈ as, Clean x) (hla : lineCol as = none) :
    ConT w 206 [.str x t] 6 (fun tl r => ReadsOn tl r (refusedData (Txt.strip a) (Txt.strip b))) := by
  unfold ConT lo
  k_fill
  intro mg mb dp un gd cn cs a ccd cl A₀ h₀ L m s Q E B F X N T St hk hd hu hret
  refine wpAny_call ?_
  k_dflt ktr_enter
  k_steps
  refine' end_ret (s := s) hret F ?k1 ?k2 ?k3 ?k4 ?k5
  (case k1 => assumption)
  (case k2 => assumption)
  (case k3 => assumption)
  (case k4 => assumption)
  (case k5 => exact refused_of (by k_mem) (by k_mem))
theorem conT_bad2 (w : World) (x a b : Str) (t : Tok) (as bs : List Str) (n₁ n₂ : Int) (hs : Txt.splitMax x (Str.ofString "=") 1 = [a, b]) (hl : x.length ≤ 640)
    (ha : (Txt.strip a).length ≤ 640) (hb : (Txt.strip b).length ≤ 640) (has : Txt.split (Txt.strip a) (Str.ofString ".") = as) (hbs : Txt.split (Txt.strip b) (Str.ofString ".") = bs)
    (hca : ∀ x ∈ as, Clean x) (hcb : ∀ x ∈ bs, Clean x) (hla : lineCol as = some (n₁, n₂)) (hlb : lineCol bs = none) :
    ConT w 206 [.str x t] 6 (fun tl r => ReadsOn tl r (refusedData (Txt.strip a) (Txt.strip b))) := by
  unfold ConT lo
  k_fill
  intro mg mb dp un gd cn cs a ccd cl A₀ h₀ L m s Q E B F X N T St hk hd hu hret
  refine wpAny_call ?_
  k_dflt ktr_enter
  k_steps
  refine' end_ret (s := s) hret F ?k1 ?k2 ?k3 ?k4 ?k5
  (case k1 => assumption)
  (case k2 => assumption)
  (case k3 => assumption)
  (case k4 => assumption)
  (case k5 => exact refused_of (by k_mem) (by k_mem))
end
end
section
section
set_option maxHeartbeats 1600000
local macro_rules | `(tactic| walk_at "enter P") => `(tactic| (k_dflt (refine' code_rawP caller_up ?k1 ?k2 ?k3 ?k5 ?kS ?kA ?kF ?kK ?k6 ?k7 ?k8 ?k9 ?kB ?_ ?c2 ?c3 ?c4 ?c5; (case kA => exact rfl); (case kF => exact rfl); (case kK => first | exact rfl | assumption); (case k1 => k_asm); (case k2 => k_asm); (case k3 => k_asm); (case k5 => k_asm); (case kS => k_asm); (case k6 => k_is); (case k7 => k_is); (case k8 => walk_at "q room"); (case k9 => first | exact BindsTo.of_eq rfl | exact binds_K (by k_in) rfl (by k_is) rfl rfl rfl); (case c5 => decide); (case kB => exact locs rfl); (case c2 => exact rfl); (case c3 => exact rfl); (case c4 => exact rfl); k_whole; intro L' h' FG' F' N' B' X' T' St'; (try dsimp only at FG' F' N' B' X' T' St'); (try dsimp only); (try k_fold))))
theorem conP_none (w : World) (x y : Str) (t : Tok) (hs : Txt.splitMax x (Str.ofString "=") 1 = [y]) (hl : x.length ≤ 640) : ConP w 206 [.str x t] 6 (fun tl r => ReadsOn tl r noPairData) := by
  unfold ConP lo
  k_fill
  intro mg mb dp un gd cn cs a ccd cl A₀ h₀ L m s Q E B F X N T St hk hd hu hret
  refine wpP_call ?_
  walk_at "enter P"
  refine execsP_cons ?_
  refine execP_Try ?_
  refine execsP_cons ?_
  refine execP_Assign ?_ (by rfl)
  refine evalP_Method ?_ (by rfl)
  k_steps
  k_dflt (refine' callWithP_M (K := KQ w.params) (g := 156) (self := .ref 162) ?f1 ?s1 ?e1; (case f1 => k_is); (case e1 => rfl))
  k_whole
  k_steps
  rename News _ _ _ _ => nwX
  k_dflt (refine' callP_meth caller_up nwX (List.Mem.head _) ?_)
  walk_at "enter P"
  refine execsP_cons ?_
  refine execP_Return ?_
  refine evalP_Call ?_ (by rfl)
  k_steps
  k_dflt (refine' callWithP_S (K := KQ w.params) ?f2 ?s2 ?e2; (case f2 => k_is); (case e2 => rfl))
  k_whole
  k_steps
  refine call_shortP rfl (by k_in) (by first | assumption | exact Stat.keeps (by assumption) (Fr.keep (by assumption))) fun h1' tk' e' hE' => ?_
  k_whole
  k_steps
  refine' end_ret (s := s) hret F ?k1 ?k2 ?k3 ?k4 ?k5
  (case k1 => assumption)
  (case k2 => assumption)
  (case k3 => assumption)
  (case k4 => assumption)
  (case k5 => exact nopair_of (by k_mem))
end
end
end
section
local macro_rules | `(tactic| ktr_enter) => `(tactic| (refine' code_clean ?k1 ?k2 ?k3 ?k5 ?kS ?kA ?kF ?kK ?k6 ?k7 ?k8 ?k9 ?kB ?_ ?c2 ?c3 ?c4 ?c5; (case kA => exact rfl); (case kF => exact rfl); (case kK => assumption); (case k1 => k_asm); (case k2 => k_asm); (case k3 => k_asm); (case k5 => k_asm); (case kS => k_asm); (case k6 => k_is); (case k7 => k_is); (case k8 => walk_at "q room"); (case k9 => first | exact BindsTo.of_eq rfl | exact binds_K (by k_in) rfl (by k_is) rfl rfl rfl); (case c5 => decide); (case kB => exact locs rfl); (case c2 => exact rfl); (case c3 => exact rfl); (case c4 => exact rfl); k_whole; intro L' h' FG' F' N' B' X' T' St'; (try dsimp only); (try k_fold)))
section
section
local macro_rules | `(tactic| ked_read) => `(tactic| exact reads_list_at (News.get (by k_asm) (by k_mem)) rfl rfl (carried_reads (by assumption)))
set_option maxHeartbeats 1600000
theorem con_told (w : World) (x a b : Str) (t : Tok) (as bs : List Str) (n₁ n₂ n₃ n₄ : Int) (hs : Txt.splitMax x (Str.ofString "=") 1 = [a, b]) (hl : x.length ≤ 640)
    (ha : (Txt.strip a).length ≤ 640) (hb : (Txt.strip b).length ≤ 640) (has : Txt.split (Txt.strip a) (Str.ofString ".") = as) (hbs : Txt.split (Txt.strip b) (Str.ofString ".") = bs)
    (hca : ∀ x ∈ as, Clean x) (hcb : ∀ x ∈ bs, Clean x) (hla : lineCol as = some (n₁, n₂)) (hlb : lineCol bs = some (n₃, n₄)) (hsh : ∀ n ∈ [n₁, n₂, n₃, n₄], n.natAbs.log2 < 1920) :
    Con w 206 [.str x t] 6 (fun _ => True) (fun _ tl r => ReadsOn tl r (readData (Txt.strip a) (Txt.strip b) n₁ n₂ n₃ n₄)) := by
  refine Con.clean ?_
  unfold lo
  k_fill
  intro mg mb dp un gd cn cs a ccd cl outer A₀ base h₀ L m s Q E B Sb F X N T St hk hpre hd hu hret
  refine wpAny_call ?_
  k_dflt ktr_enter
  k_steps
  exact ret_all hret (by k_asm) (by with_reducible assumption) (by with_reducible assumption) (by with_reducible assumption) (read_of (by k_mem) (by k_mem) (by k_mem) (by k_mem) (by k_mem) (by k_mem) (by assumption))
end
end
end
end
section
local macro_rules | `(tactic| ktr_enter) => `(tactic| (refine' code_clean ?k1 ?k2 ?k3 ?k5 ?kS ?kA ?kF ?kK ?k6 ?k7 ?k8 ?k9 ?kB ?_ ?c2 ?c3 ?c4 ?c5; (case kA => exact rfl); (case kF => exact rfl); (case kK => assumption); (case k1 => k_asm); (case k2 => k_asm); (case k3 => k_asm); (case k5 => k_asm); (case kS => k_asm); (case k6 => k_is); (case k7 => k_is); (case k8 => walk_at "q room"); (case k9 => first | exact BindsTo.of_eq rfl | exact binds_K (by k_in) rfl (by k_is) rfl rfl rfl); (case c5 => decide); (case kB => exact locs rfl); (case c2 => exact rfl); (case c3 => exact rfl); (case c4 => exact rfl); k_whole; intro L' h' FG' F' N' B' X' T' St'; (try dsimp only); (try k_fold)))
section
inductive TextMark (x : Str) : Prop
  | mk
def blankAt (x : Str) (k : Int) : Bool := !(Builtin.Str.occurrences (Str.ofString " \t") (Txt.item x k) 0 (Str.ofString " \t").length 1).isEmpty
def upC (x : Str) (k : Int) : Bool := if k < x.length then if blankAt x k = true then true else false else false
def downC (x : Str) (f k : Int) : Bool := if f < k then if blankAt x (k - 1) = true then true else false else false
/-- what the two loops of bare find -/
structure BareSpec (x : Str) (f b : Int) : Prop where
  f0 : 0 ≤ f
  f1 : f ≤ x.length
  fall : ∀ j : Int, 0 ≤ j → j < f → upC x j = true
  fend : upC x f = false
  b1 : b ≤ x.length
  b0 : min (x.length : Int) f ≤ b
  ball : ∀ j : Int, b < j → j ≤ x.length → downC x f j = true
  bend : downC x f b = false
theorem stop_front (x : Str) : StopUp (upC x) 0 x.length := ⟨Int.natCast_nonneg _, by unfold upC; rw [if_neg (Int.lt_irrefl _)]⟩
section
variable {prog : Program} {w : World} {A : Around} {E : Value → Shared → Prop} {Q : Flow → Shared → Prop} {s : Shared} {env : Env} {h₀ : Heap} {L : Addr}
theorem while_front {x : Str} (mk : TextMark x) {test e : Expr} {p p' pa pb pos : Pos} {m : Str → Option Value} {news : List (Addr × Obj)} {t₀ : Tok}
    (F : Fr h₀ L s.heap m) (Nw : News h₀ L s.heap news) (hmi : m (Str.ofString "front") = some (.int 0 t₀))
    (gtest : ∀ (k : Int) t h₁ tk₁, 0 ≤ k → Fr h₀ L h₁ (bindM m (Str.ofString "front") (some (.int k t))) → News h₀ L h₁ news →
      wpAny (model prog w) A (isTrue test env (eval test env)) (fun b s₂ => b = upC x k ∧ Keeps { s with heap := h₁, toks := tk₁ } s₂) E { s with heap := h₁, toks := tk₁ })
    (gturn : ∀ (k : Int) t h₁ tk₁, 0 ≤ k → upC x k = true → Fr h₀ L h₁ (bindM m (Str.ofString "front") (some (.int k t))) → News h₀ L h₁ news →
      wpAny (model prog w) A (execs [.Assign [.Name (Str.ofString "front") p] (.BinOp (.Name (Str.ofString "front") p') .Add e pb) pa] env) (CntStep h₀ L s m (Str.ofString "front") news (k + 1)) E { s with heap := h₁, toks := tk₁ })
    (stop : StopUp (upC x) 0 x.length)
    (done : ∀ (k : Int) t h' tk, 0 ≤ k → k ≤ x.length → (∀ j : Int, 0 ≤ j → j < k → upC x j = true) → upC x k = false → MarkC (upC x) 0 k → Fr h₀ L h' (bindM m (Str.ofString "front") (some (.int k t))) → News h₀ L h' news → Q .next { s with heap := h', toks := tk })
    (hE : PassesOwn (model prog w) A env E := by passes_own) :
    wpAny (model prog w) A (exec (.While test [.Assign [.Name (Str.ofString "front") p] (.BinOp (.Name (Str.ofString "front") p') .Add e pb) pa] [] pos) env) Q E s := While_up F Nw hmi gtest gturn stop done hE
end
section
set_option maxHeartbeats 1600000
local macro_rules | `(tactic| walk_at "exec While") => `(tactic| (k_here; (rename Fr _ _ _ _ => F'); (rename News _ _ _ _ => N'); (refine' while_front ?mk F' N' ?hmi ?gtest ?gturn (stop_front _) ?done); (case mk => assumption); (case hmi => with_unfolding_all rfl); (case' done => intros); (case' gturn => intros); (case' gtest => intros)))
theorem con_bare (w : World) (x : Str) (t : Tok) (hl : x.length ≤ 640) : Con w 184 [.str x t] 2 (fun _ => True) (fun _ tl r => tl = [] ∧ ∃ f b t', r = .str (Txt.slice x (some f) (some b)) t' ∧ BareSpec x f b) := by
  refine Con.clean ?_
  unfold lo
  k_fill
  intro mg mb dp un gd cn cs a ccd cl outer A₀ base h₀ L m s Q E B Sb F X N T St hk hpre hd hu hret
  refine wpAny_call ?_
  have mkX : TextMark x := .mk
  k_dflt ktr_enter
  k_steps
  all_goals try exact ⟨_, _, rfl, fun _ _ e => e⟩
  all_goals first
    | (unfold upC; rw [if_neg (by assumption)])
    | (unfold upC blankAt; simp_all; done)
    | exact ret_plain hret (by k_asm) (stays_fr (by assumption)) ⟨rfl, _, _, _, rfl, ⟨by assumption, by assumption, by assumption, by assumption, by assumption, by assumption, by assumption, by assumption⟩⟩
end
end
section
section
variable {prog : Program} {w : World} {A : Around} {E : Value → Shared → Prop} {s : Shared} {h₀ : Heap} {Q : Flow → Shared → Prop}
theorem REnd.next {L G : Addr} {m₀ : Str → Option Value} {rest : List (Addr × Obj)} {s₁ : Shared} {σ σ' : RS} {g : Mk} {h' : Heap} {tk : Nat} {m' : Str → Option Value} {ts tt tw : Tok} {its : List Value} {c : Nat} (F : Fr h₀ L h' m') (N : News h₀ L h' ((G, W.listOf its.toArray c) :: rest)) (st : σ.step g = some σ') (go : GotAre its σ'.got) (mp : ∀ z, z ≠ Str.ofString "mark" → m' z = σ'.names ts tt tw m₀ z) :
    REnd h₀ L G m₀ rest s₁ Q σ g .next { s₁ with heap := h', toks := tk } := ⟨h', tk, m', σ', ts, tt, tw, its, c, rfl, st, go, F, N, mp⟩
theorem bne_f {a b : Str} (h : (a != b) = true) : (a == b) = false := by simpa [bne] using h
theorem bne_t {a b : Str} (h : (a != b) = false) : (a == b) = true := by simpa [bne] using h
theorem contra {b : Bool} (h : b = true) (h' : b = false) : False := by rw [h] at h'; cases h'
theorem ret_made3 {h₀ h' : Heap} {L L' : Addr} {m m' : Str → Option Value} {s : Shared} {Q : Value → Shared → Prop} {out : Heap → List (Addr × Obj) → Value → Prop} {v : Value} {tk' : Nat} {p q r : Addr × Obj} {rest rest' : List (Addr × Obj)}
    (hret : ∀ r tl h' tk', Fr h₀ L h' m → News h₀ L h' tl → (∀ p ∈ tl, s.heap.get? p.1 = none) → s.heap.StaysIn h' → out h' tl r → Q r { s with heap := h', toks := tk' })
    (F : Fr h₀ L h' m) (F' : Fr s.heap L' h' m') (N : News h₀ L h' (p :: q :: r :: rest)) (N' : News s.heap L' h' (p :: q :: r :: rest')) (o : out h' [p, q, r] v) : Q v { s with heap := h', toks := tk' } :=
  have sub : ∀ {t : List (Addr × Obj)} (x : Addr × Obj), x ∈ [p, q, r] → x ∈ p :: q :: r :: t := fun x hx => by
    simp only [List.mem_cons, List.not_mem_nil, or_false] at hx ⊢
    rcases hx with rfl | rfl | rfl <;> simp
  hret v [p, q, r] h' tk' F (fun x hx => N x (sub x hx)) (fun x hx => (N' x (sub x hx)).2.2) F'.keep o
end
section
set_option maxHeartbeats 4000000
local macro_rules | `(tactic| walk_at "exec For") => `(tactic| (k_here; (rename Fr _ _ _ _ => lF'); (with_unfolding_all refine' For_invVF lF' ?k1 ?k2 ?_; (case k1 => exact rfl); (case k2 => exact rfl); k_whole)))
local macro_rules | `(tactic| walk_at "binaryOp Add ref ref") => `(tactic| (k_here; (rename Fr _ _ _ _ => F'); (rename News _ _ _ _ => N'); k_dflt (refine' loop_marks ?hx ?hgs ?hz rfl ?hc F' N' ?hD ?hl ?hG ?hR rfl rfl rfl ?turn ?done; (case hc => assumption); (case hx => assumption); (case hgs => assumption); (case hz => assumption); (case hD => k_mem); (case hl => k_mem); (case hG => k_mem); (case hR => exact List.Mem.tail _ (List.Mem.tail _ (List.Mem.tail _ (List.Mem.head _))))); (case' done => (k_whole; intro a' b' c' d' st' tu' wo' u' ts' tt' tw' va' vb' vc' vd' n' h' tk' run' F' N'; (try dsimp only [envOf] at F' N'))); (case' turn => (k_whole; intro σ' g' t' ts' tt' tw' its' c' h' tk' own' fine' len' got' stop' off' F' N'; (obtain ⟨fl', fu'⟩ := fine'); (have g3' : Got3 its' (RS.got σ') := ⟨got', len'⟩); (try dsimp only [envOf] at F' N' ⊢)))))
local macro_rules | `(tactic| walk_at "call builtin:len") => `(tactic| (k_here; (rename Got3 _ _ => gq'); (rcases got_cases gq'.1 gq'.2 with ⟨e', q'⟩ | ⟨a', u', e', q'⟩ | ⟨a', u', b', v', e', q'⟩ | ⟨a', u', b', v', d', y', e', q'⟩) <;> subst e' <;> clear gq'))
theorem con_read (w : World) (x : Str) (t : Tok) (gs : List Mk) (hx : signs x = gs.map Mk.text) (hgs : ∀ g ∈ gs, g ≠ .fin) (hz : gs.length ≤ 100) : Con w 196 [.str x t] 2 (fun _ => True) (fun _ tl r => ReadOut gs tl r) := by
  have hl : x.length ≤ 640 := by
    have z := signs_length x
    rw [hx, List.length_map] at z
    omega
  refine Con.clean ?_
  unfold lo
  k_fill
  intro mg mb dp un gd cn cs a ccd cl outer A₀ base h₀ L m s Q E B Sb F X N T St hk hpre hd hu hret
  refine wpAny_call ?_
  k_dflt ktr_enter
  k_steps
  all_goals try dsimp only
  all_goals try (refine REnd.ret ?_; k_steps)
  all_goals first
    | exact ret_plain hret (by k_asm) (stays_fr (by assumption)) (none_out (by assumption) (by first | exact gap_n1 (gap_sp (by assumption)) (by assumption) | exact gap_n3 (gap_sp (by assumption)) (by assumption) | exact gap_n1 (gap_tab (by assumption)) (by assumption) | exact gap_n3 (gap_tab (by assumption)) (by assumption) | exact plus_n (by assumption) (by assumption) | exact minus_n (by assumption) (by assumption) | exact us_n (by assumption) (by assumption) | exact dig_n (by assumption) (by assumption) | exact o_n0 (other_of (by assumption) (by assumption) (by assumption) (by assumption) (by assumption) (by assumption)) (by assumption) (bne_f (by assumption)) | exact o_n1 (other_of (by assumption) (by assumption) (by assumption) (by assumption) (by assumption) (by assumption)) (by assumption) (bne_f (by assumption)) | exact o_n2 (other_of (by assumption) (by assumption) (by assumption) (by assumption) (by assumption) (by assumption)) (by assumption) (bne_f (by assumption)) | exact o_n3 (other_of (by assumption) (by assumption) (by assumption) (by assumption) (by assumption) (by assumption)) (by assumption) (bne_f (by assumption)) | exact push_n (o_p0 (by assumption) (bne_t (by assumption))) (by assumption) (by assumption) | exact push_n (o_p1 (by assumption) (bne_t (by assumption))) (by assumption) (by assumption) | exact push_n (o_p2 (by assumption) (bne_t (by assumption))) (by assumption) (by assumption) | exact push_n (o_p3 (by assumption) (bne_t (by assumption))) (by assumption) (by assumption)))
    | exact (contra (by assumption) (by assumption)).elim
    | exact (not_both (by assumption) (by assumption)).elim
    | exact ret_made3 hret (by k_asm) (by with_reducible assumption) (by with_reducible assumption) (by with_reducible assumption) (.inr ⟨_, _, _, _, _, _, _, _, _, _, _, _, _, _, by assumption, rfl, rfl⟩)
    | (refine' REnd.next ?F ?N ?st ?go ?mp; (case F => assumption); (case N => assumption); (case st => (first | exact gap_s2 (gap_sp (by assumption)) (by assumption) (by assumption) (by assumption) | exact gap_s (gap_sp (by assumption)) (by assumption) (by assumption) (by assumption) | exact gap_s2 (gap_tab (by assumption)) (by assumption) (by assumption) (by assumption) | exact gap_s (gap_tab (by assumption)) (by assumption) (by assumption) (by assumption) | exact plus_s (by assumption) (by assumption) | exact minus_s (by assumption) (by assumption) | exact us_s (by assumption) (by assumption) | exact dig_s (by assumption) (by assumption) | exact push_2 (o_p0 (by assumption) (bne_t (by assumption))) (by assumption) | exact push_2 (o_p1 (by assumption) (bne_t (by assumption))) (by assumption) | exact push_2 (o_p2 (by assumption) (bne_t (by assumption))) (by assumption) | exact push_2 (o_p3 (by assumption) (bne_t (by assumption))) (by assumption) | exact push_4 (o_p0 (by assumption) (bne_t (by assumption))) (by assumption) | exact push_4 (o_p1 (by assumption) (bne_t (by assumption))) (by assumption) | exact push_4 (o_p2 (by assumption) (bne_t (by assumption))) (by assumption) | exact push_4 (o_p3 (by assumption) (bne_t (by assumption))) (by assumption))); (case go => (first | assumption | (rename (RS.got _ = _) => q'; (show GotAre _ (_ ++ _)); rw [q']; repeat (first | exact .nil | refine .cons _ _ ?_)))); (case mp => ((intro z hz; rcases name_cases z with e0 | e0 | e0 | ⟨h1, h2, h3⟩; (subst e0; exact rfl); (subst e0; exact rfl); (subst e0; exact rfl); first | (simp only [RS.names, if_neg hz, if_neg h1, if_neg h2, if_neg h3]; done) | exact rfl))); done)
end
end
section
section
set_option maxHeartbeats 1600000
def fieldS (ns : List Int) : Str := if ns.length = 0 then Str.ofString "7" else signsS ns
theorem call_signs {w : World} {mg mb : Str → Option Value} {dp un : Nat} {gd : Option (List Code)} {cn : Str} {cs : Scope} {a : Addr} {ccd : Value} {cl : List (Str × Addr)} {outer : List Env} {A₀ : Around} {base h₀ : Heap} {L : Addr} {m : Str → Option Value} {news : List (Addr × Obj)} {s : Shared}
    {Q E : Value → Shared → Prop} {l : Addr} {vs : List Value} {ns : List Int} (hl : s.heap.IsList l vs.toArray) (hv : IntsAre vs ns) (hz : ns.length ≤ 63)
    (B : Below A₀ base outer h₀) (Sb : Stat base) (F : Fr h₀ L s.heap m) (X : (KQ w.params).In h₀) (N : News h₀ L s.heap news) (T : TopRead hd.view_39 lo mg mb h₀) (St : Stat h₀) (hk : cs.kind = .function) (hd : dp + 2 < recursionLimit) (hu : un + 8 * 2 < cLine)
    (ret : ∀ h' tk' t', Fr h₀ L h' m → News h₀ L h' news → Q (.str (signsS ns) t') { s with heap := h', toks := tk' }) :
    wpAny (model PySem.Challenge.rw_il0122_01.row.prog w) (ktrTop dp un gd cn cs L a ccd cl outer) (call (.ref 170) [.ref l]) Q E s :=
  (con_signs w l vs ns hv hz).use B Sb F X N T St hk hl hd hu fun r tl h' tk' F' N' _ _ o => by obtain ⟨rfl, t', rfl⟩ := o; exact ret h' tk' t' F' N'
theorem isList_fr {g h : Heap} {L l : Addr} {m : Str → Option Value} {vs : Array Value} (x : g.IsList l vs) (F : Fr g L h m) : h.IsList l vs := by obtain ⟨o, e, r⟩ := x; exact ⟨o, F.keep _ _ e, r⟩
local macro_rules | `(tactic| walk_at "call ref") => `(tactic| (k_here; k_dflt (refine' call_signs ?l ?v ?z ?B ?Sb ?F ?X ?N ?T ?S ?hk ?d ?u ?_; (case hk => exact rfl));  (case F => k_asm); (case N => k_asm); (case l => exact isList_fr (by assumption) (by assumption)); (case v => assumption); (case z => assumption); (case X => k_asm); (case T => k_asm); (case S => with_reducible assumption); (case B => k_asm); (case Sb => with_reducible assumption); (case d => walk_at "q room"); (case u => walk_at "q units"); k_whole; intro h' tk' t' F' N'))
theorem con_field (w : World) (l : Addr) (vs : List Value) (ns : List Int) (hv : IntsAre vs ns) (hl : ns.length ≤ 63) : Con w 177 [.ref l] 4 (fun h => h.IsList l vs.toArray) (fun _ tl r => tl = [] ∧ ∃ t', r = .str (fieldS ns) t') := by
  refine Con.clean ?_
  unfold lo
  k_fill
  intro mg mb dp un gd cn cs a ccd cl outer A₀ base h₀ L m s Q E B Sb F X N T St hk hpre hd hu hret
  refine wpAny_call ?_
  k_dflt ktr_enter
  k_steps
  all_goals exact ret_plain hret (by k_asm) (stays_fr (by assumption)) ⟨rfl, _, by unfold fieldS; first | rw [if_pos (by omega)] | rw [if_neg (by omega)]⟩
end
end
section
/-- a turn's end: it returns, or goes on with nothing but the loop's own name turned, and P holds -/
def HEnd (h₀ : Heap) (L : Addr) (y : Str) (m₀ : Str → Option Value) (led : List (Addr × Obj)) (s₁ : Shared) (Q : Flow → Shared → Prop) (P : Prop) (f : Flow) (s₂ : Shared) : Prop :=
  match f with
  | .ret v => Q (.ret v) s₂
  | .next => ∃ h' tk m', s₂ = { s₁ with heap := h', toks := tk } ∧ Fr h₀ L h' m' ∧ News h₀ L h' led ∧ (∀ z, z ≠ y → m' z = m₀ z) ∧ P
  | _ => False
section
variable {prog : Program} {w : World} {A : Around} {E : Value → Shared → Prop} {s : Shared} {env : Env} {h₀ : Heap} {y : Str} {body : List Stmt} {Q : Flow → Shared → Prop}
theorem HEnd.ret {L : Addr} {m₀ : Str → Option Value} {led : List (Addr × Obj)} {s₁ s₂ : Shared} {P : Prop} {v : Value} (h : Q (.ret v) s₂) : HEnd h₀ L y m₀ led s₁ Q P (.ret v) s₂ := h
theorem HEnd.next {L : Addr} {m₀ m' : Str → Option Value} {led : List (Addr × Obj)} {s₁ : Shared} {P : Prop} {h' : Heap} {tk : Nat} (F : Fr h₀ L h' m') (N : News h₀ L h' led) (hm : ∀ z, z ≠ y → m' z = m₀ z) (p : P) : HEnd h₀ L y m₀ led s₁ Q P .next { s₁ with heap := h', toks := tk } := ⟨h', tk, m', rfl, F, N, hm, p⟩
theorem loop_halves {x : Str} (_ : TextMark x) {r : Addr} {t₀ u₀ v₀ : Tok} {m₀ : Str → Option Value} {news : List (Addr × Obj)} (hh : A.handled = none) (hr : IsRange s.heap r 0 x.length 1 t₀ u₀ v₀) (hz : x.length ≤ 640) (F : Fr h₀ env.locals s.heap m₀) (N : News h₀ env.locals s.heap news)
    (turn : ∀ (k : Int) t h tk own, 0 ≤ k → k < (x.length : Int) → (∀ j : Int, 0 ≤ j → j < k → Txt.item x j ≠ Str.ofString "=") → OwnOff own (news.map (·.1)) → Fr h₀ env.locals h (fun z => if z = y then some (.int k t) else m₀ z) → News h₀ env.locals h (news ++ own) →
      wpAny (model prog w) A (execs body env) (HEnd h₀ env.locals y m₀ (news ++ own) { s with heap := h, toks := tk } Q (Txt.item x k ≠ Str.ofString "=")) E { s with heap := h, toks := tk })
    (done : ∀ (u : Str → Option Value) h tk, (∀ j : Int, 0 ≤ j → j < (x.length : Int) → Txt.item x j ≠ Str.ofString "=") → Fr h₀ env.locals h (fun z => if z = y then u z else m₀ z) → News h₀ env.locals h news → Q .next { s with heap := h, toks := tk }) :
    wpAny (model prog w) A (pyIter (.ref r)) (fun it s₂ => LoopAtV prog w A h₀ env y body Q E it s₂) E s := by
  have hsmall : Builtin.Range.small 0 (x.length : Int) 1 = true := small_one (by decide) (by decide) (by omega) (by omega)
  have hn : Builtin.Range.rangeSize 0 (x.length : Int) 1 = ((x.length : Nat) : Int) := by rw [rangeSize_one]; split <;> omega
  refine wpAny_pyIter_range hr hsmall ?_
  have W : Walks prog w A s.heap.objs.size [s.heap.objs.size] [s.heap.objs.size] x.length (fun i v => i < x.length ∧ ∃ t, v = .int (0 + i * 1) t)
      (fun i h => IsRangeIter h s.heap.objs.size (0 + (i : Nat) * 1) ((x.length : Int) - (i : Nat)) 1) := (Walks.range hh _ 0 1 x.length).bound
  refine loop_invN (m₀ := m₀) (news := news) (fun i m₁ nx => nx = news ∧ (∀ z, z ≠ y → m₁ z = m₀ z) ∧ ∀ j : Int, 0 ≤ j → j < (i : Int) → Txt.item x j ≠ Str.ofString "=") W ?_ ?_ ?_ ?_
    (by show IsRangeIter _ _ _ _ _; rw [hn]; simpa using Heap.get?_push_size _ rfl) (F.push _) (fun p hp => ⟨Heap.get?_push_of_some _ (N p hp).1, (N p hp).2⟩) ⟨rfl, fun _ _ => rfl, fun j a b => absurd b (by omega)⟩ ?_ ?_
  · intro hm
    exact absurd F.ns.lt ((List.mem_singleton.mp hm) ▸ Nat.lt_irrefl _)
  · intro b hb
    rw [List.mem_singleton.mp hb]
    exact next_is_new F
  · intro p hp hI
    exact absurd (Heap.lt_size (N p hp).1) ((List.mem_singleton.mp hI) ▸ Nat.lt_irrefl _)
  · intro p hp hI
    exact absurd (Heap.lt_size (N p hp).1) ((List.mem_singleton.mp hI) ▸ Nat.lt_irrefl _)
  · rintro i v m₁ nx h tk own hi ⟨_, t, rfl⟩ - ho ⟨rfl, hm, hall⟩ F' N'
    rw [map_none hm] at F'
    have e : ((0 : Int) + (i : Nat) * 1) = (i : Int) := by omega
    rw [e] at F'
    refine wpAny_mono (turn i t h tk own (by omega) (by omega) hall ho F' N') (fun f s₂ p => ?_) fun _ _ e => e
    cases f with
    | ret v => exact p
    | next =>
      obtain ⟨h', tk', m', rfl, F₂, N₂, hm₂, q⟩ := p
      exact ⟨h', tk', m', _, _, rfl, F₂, N₂, fun p hp => List.mem_append.mpr (.inl hp), fun p hp => List.mem_append.mpr (.inr hp), rfl, rfl, hm₂, fun j a b => by
        by_cases hj : j < (i : Int)
        · exact hall j a hj
        · have : j = (i : Int) := by omega
          rw [this]; exact q⟩
    | _ => exact p.elim
  · rintro m₁ nx h tk ⟨rfl, hm, hall⟩ F' N'
    refine done m₁ h tk hall ?_ N'
    rw [done_none hm]; exact F'
end
end
section
theorem ret_made {h₀ h' : Heap} {L L' : Addr} {m m' : Str → Option Value} {s : Shared} {Q : Value → Shared → Prop} {out : Heap → List (Addr × Obj) → Value → Prop} {v : Value} {tk' : Nat} {p : Addr × Obj} {rest rest' : List (Addr × Obj)}
    (hret : ∀ r tl h' tk', Fr h₀ L h' m → News h₀ L h' tl → (∀ p ∈ tl, s.heap.get? p.1 = none) → s.heap.StaysIn h' → out h' tl r → Q r { s with heap := h', toks := tk' })
    (F : Fr h₀ L h' m) (F' : Fr s.heap L' h' m') (N : News h₀ L h' (p :: rest)) (N' : News s.heap L' h' (p :: rest')) (o : out h' [p] v) : Q v { s with heap := h', toks := tk' } :=
  hret v [p] h' tk' F (fun q hq => N q (by rw [List.mem_singleton.mp hq]; exact List.Mem.head _)) (fun q hq => (N' q (by rw [List.mem_singleton.mp hq]; exact List.Mem.head _)).2.2) F'.keep o
theorem item_ne {a b : Str} (h : (a == b) = false) : a ≠ b := fun e => by rw [e] at h; simp at h
theorem item_eq {a b : Str} (h : (a == b) = true) : a = b := by simpa using h
section
set_option maxHeartbeats 1600000
theorem call_bare {w : World} {mg mb : Str → Option Value} {dp un : Nat} {gd : Option (List Code)} {cn : Str} {cs : Scope} {a : Addr} {ccd : Value} {cl : List (Str × Addr)} {outer : List Env} {A₀ : Around} {base h₀ : Heap} {L : Addr} {m : Str → Option Value} {news : List (Addr × Obj)} {s : Shared}
    {Q E : Value → Shared → Prop} {x : Str} {t : Tok} (hz : x.length ≤ 640)
    (B : Below A₀ base outer h₀) (Sb : Stat base) (F : Fr h₀ L s.heap m) (X : (KQ w.params).In h₀) (N : News h₀ L s.heap news) (T : TopRead hd.view_39 lo mg mb h₀) (St : Stat h₀) (hk : cs.kind = .function) (hd : dp + 2 < recursionLimit) (hu : un + 8 * 2 < cLine)
    (ret : ∀ h' tk' t' f b, BareSpec x f b → Fr h₀ L h' m → News h₀ L h' news → Q (.str (Txt.slice x (some f) (some b)) t') { s with heap := h', toks := tk' }) :
    wpAny (model PySem.Challenge.rw_il0122_01.row.prog w) (ktrTop dp un gd cn cs L a ccd cl outer) (call (.ref 184) [.str x t]) Q E s :=
  (con_bare w x t hz).use B Sb F X N T St hk trivial hd hu fun r tl h' tk' F' N' _ _ o => by obtain ⟨rfl, f, b, t', rfl, sp⟩ := o; exact ret h' tk' t' f b sp F' N'
local macro_rules | `(tactic| walk_at "call ref") => `(tactic| (k_here; k_dflt (refine' call_bare ?z ?B ?Sb ?F ?X ?N ?T ?S ?hk ?d ?u ?_; (case hk => exact rfl)); (case F => k_dflt k_asm); (case N => k_dflt k_asm); (case z => exact Nat.le_trans (Txt.slice_le _ _ _) (by assumption)); (case X => k_asm); (case T => k_asm); (case S => with_reducible assumption); (case B => k_asm); (case Sb => with_reducible assumption); (case d => walk_at "q room"); (case u => walk_at "q units"); k_whole; intro h' tk' t' f' b' sp' F' N'))
local macro_rules | `(tactic| walk_at "pyIter ref") => `(tactic| (k_here; (rename Fr _ _ _ _ => F'); (rename News _ _ _ _ => N'); k_dflt (refine' loop_halves ?mk rfl ?hr ?hz F' N' ?turn ?done; (case mk => assumption); (case hr => assumption); (case hz => assumption)); (case' done => (k_whole; intro u' h' tk' a' F' N')); (case' turn => (k_whole; intro k' t' h' tk' own' a' b' c' o' F' N'))))
local macro_rules | `(tactic| walk_at "HEnd") => `(tactic| first | k_dflt exact HEnd.next (by assumption) (by assumption) (fun z hz => if_neg hz) (item_ne (by assumption)) | refine HEnd.ret ?_)
/-- what halves hands back -/
def HalvesOut (x : Str) (tl : List (Addr × Obj)) (r : Value) : Prop :=
  (r = .none ∧ tl = [] ∧ ∀ j : Int, 0 ≤ j → j < (x.length : Int) → Txt.item x j ≠ Str.ofString "=") ∨
  ∃ (k : Int) (l : Addr) (ta tb : Tok) (f₁ b₁ f₂ b₂ : Int), r = .ref l ∧ tl = [(l, tupObj [.str (Txt.slice (Txt.slice x none (some k)) (some f₁) (some b₁)) ta, .str (Txt.slice (Txt.slice x (some (k + 1)) none) (some f₂) (some b₂)) tb])] ∧
    0 ≤ k ∧ k < (x.length : Int) ∧ (∀ j : Int, 0 ≤ j → j < k → Txt.item x j ≠ Str.ofString "=") ∧ Txt.item x k = Str.ofString "=" ∧ BareSpec (Txt.slice x none (some k)) f₁ b₁ ∧ BareSpec (Txt.slice x (some (k + 1)) none) f₂ b₂
theorem con_halves (w : World) (x : Str) (t : Tok) (hl : x.length ≤ 640) : Con w 191 [.str x t] 4 (fun _ => True) (fun _ tl r => HalvesOut x tl r) := by
  refine Con.clean ?_
  unfold lo
  k_fill
  intro mg mb dp un gd cn cs a ccd cl outer A₀ base h₀ L m s Q E B Sb F X N T St hk hpre hd hu hret
  refine wpAny_call ?_
  have mkX : TextMark x := .mk
  k_dflt ktr_enter
  k_steps
  · exact ret_made hret (by k_asm) (by with_reducible assumption) (by with_reducible assumption) (by with_reducible assumption) (.inr ⟨_, _, _, _, _, _, _, _, rfl, rfl, by assumption, by assumption, by assumption, item_eq (by assumption), by assumption, by assumption⟩)
  · exact ret_plain hret (by k_asm) (stays_fr (by assumption)) (.inl ⟨rfl, rfl, by assumption⟩)
end
end
section
/-- told reads the text as these halves and numbers -/
structure Tells (x a b : Str) (n₁ n₂ n₃ n₄ : Int) : Prop where
  ex : ∃ A B as bs, Txt.splitMax x (Str.ofString "=") 1 = [A, B] ∧ Txt.strip A = a ∧ Txt.strip B = b ∧ Txt.split a (Str.ofString ".") = as ∧ Txt.split b (Str.ofString ".") = bs ∧ (∀ x ∈ as, Clean x) ∧ (∀ x ∈ bs, Clean x) ∧ lineCol as = some (n₁, n₂) ∧ lineCol bs = some (n₃, n₄)
  hl : x.length ≤ 640
  ha : a.length ≤ 640
  hb : b.length ≤ 640
  hsh : ∀ n ∈ [n₁, n₂, n₃, n₄], n.natAbs.log2 < 1920
theorem call_told {w : World} {mg mb : Str → Option Value} {dp un : Nat} {gd : Option (List Code)} {cn : Str} {cs : Scope} {a : Addr} {ccd : Value} {cl : List (Str × Addr)} {outer : List Env} {A₀ : Around} {base h₀ : Heap} {L : Addr} {m : Str → Option Value} {news : List (Addr × Obj)} {s : Shared} {Q E : Value → Shared → Prop} {x p q : Str} {n₁ n₂ n₃ n₄ : Int} {t : Tok} (tells : Tells x p q n₁ n₂ n₃ n₄)
    (B : Below A₀ base outer h₀) (Sb : Stat base) (F : Fr h₀ L s.heap m) (X : (KQ w.params).In h₀) (N : News h₀ L s.heap news) (T : TopRead hd.view_39 lo mg mb h₀) (St : Stat h₀) (hk : cs.kind = .function) (hd : dp + 6 < recursionLimit) (hu : un + 8 * 6 < cLine)
    (ret : ∀ h' tk' lt tl, ReadsOn tl (.ref lt) (readData p q n₁ n₂ n₃ n₄) → Fr h₀ L h' m → News h₀ L h' (news ++ tl) → Q (.ref lt) { s with heap := h', toks := tk' }) :
    wpAny (model PySem.Challenge.rw_il0122_01.row.prog w) (ktrTop dp un gd cn cs L a ccd cl outer) (call (.ref 206) [.str x t]) Q E s := by
  obtain ⟨⟨A, B', as, bs, hs, rfl, rfl, h4, h5, h6, h7, h8, h9⟩, hl, ha, hb, hsh⟩ := tells
  refine (con_told w x A B' t as bs n₁ n₂ n₃ n₄ hs hl ha hb h4 h5 h6 h7 h8 h9 hsh).use B Sb F X N T St hk trivial hd hu fun r tl h' tk' F' N' _ _ o => ?_
  have N'' : News h₀ L h' (news ++ tl) := fun p hp => N' p (by rcases List.mem_append.mp hp with h | h; exact List.mem_append.mpr (.inr h); exact List.mem_append.mpr (.inl h))
  obtain ⟨as', rd⟩ := o.at (h := h') (h₀ := h₀) (L := L) fun p hp => N' p (List.mem_append.mpr (.inl hp))
  obtain ⟨lt, rfl⟩ : ∃ lt, r = .ref lt := by
    unfold readData at rd
    cases rd with
    | list => exact ⟨_, rfl⟩
  exact ret h' tk' lt tl o F' N''
theorem ints_areOf : ∀ {vs : List Value} {ns : List Int}, IntsAre vs ns → AreOf ItemKind.int vs ns
  | _, _, .nil => .nil
  | _, _, .cons n t r => .cons ⟨t, rfl⟩ (ints_areOf r)
def nums (ns : List Int) : List Int := List.map (fun k' => cutZ k') (List.take 4 (ns ++ [12, 5, 0, 70]))
theorem cut_small (n : Int) : (cutZ n).natAbs < 10 ^ 10 := by unfold cutZ; split <;> omega
theorem num_log (l : List Int) (i : Nat) : ((List.map (fun k' => cutZ k') l).getD i 0).natAbs.log2 < 1920 := by
  have h : ((List.map (fun k' => cutZ k') l).getD i 0).natAbs < 10 ^ 10 := by
    rw [List.getD_eq_getElem?_getD, List.getElem?_map]
    cases l[i]? with
    | none => decide
    | some a => exact cut_small a
  exact log_small h (by decide)
theorem nums_log (l : List Int) : ∀ n ∈ List.map (fun k' => cutZ k') l, n.natAbs.log2 < 1920 := fun n h => by
  obtain ⟨a, _, rfl⟩ := List.mem_map.mp h
  exact log_small (cut_small a) (by decide)
theorem nums_four (ns : List Int) : ∃ a b c d, nums ns = [a, b, c, d] := by
  have h : (nums ns).length = 4 := by simp [nums]
  match nums ns, h with
  | [a, b, c, d], _ => exact ⟨a, b, c, d, rfl⟩
theorem app_le {x y : Str} {n m : Nat} (hx : x.length ≤ n) (hy : y.length ≤ m) : (x ++ y).length ≤ n + m := by rw [PySem.Str.length_append]; omega
def sS (n : Int) : Str := Str.ofString (toString n)
def nameS (a b : Int) : Str := Str.ofString (toString a) ++ Str.ofString "." ++ Str.ofString (toString b)
def valueS (c d : Int) : Str := Str.ofString (toString c) ++ Str.ofString "\t. " ++ Str.ofString (toString d)
def textS (a b c d : Int) : Str := Str.ofString " " ++ nameS a b ++ Str.ofString " =\t" ++ valueS c d ++ Str.ofString " "
def BackTells (a b c d : Int) : Prop := Tells (textS a b c d) (nameS a b) (valueS c d) a b c d
theorem four_of {ns : List Int} {ys : List Value} {a b c d : Int} (e : nums ns = [a, b, c, d]) (h : IntsAre ys (List.map (fun k' => cutZ k') (List.take 4 (ns ++ [12, 5, 0, 70])))) : ∃ t₁ t₂ t₃ t₄, ys = [.int a t₁, .int b t₂, .int c t₃, .int d t₄] := by
  have h' : IntsAre ys [a, b, c, d] := e ▸ h
  cases h' with
  | cons _ t₁ r => cases r with
    | cons _ t₂ r => cases r with
      | cons _ t₃ r => cases r with
        | cons _ t₄ r => cases r; exact ⟨t₁, t₂, t₃, t₄, rfl⟩
/-- the list written out behind told -/
theorem want_of {tl : List (Addr × Obj)} {l p q i j k : Addr} {tk ta tb t₁ t₂ t₃ t₄ u₁ u₂ u₃ u₄ : Tok} {n n₀ : Nat} {a b : Str} {n₁ n₂ n₃ n₄ : Int} (hl : (l, W.listOf #[.str (Str.ofString "read") tk, .ref p, .ref q, .ref k] n₀) ∈ tl)
    (hp : (p, ({ cls := .type "tuple", data := .seq #[.str a ta, .str b tb] } : Obj)) ∈ tl) (hq : (q, ({ cls := .type "tuple", data := .seq #[.ref i, .ref j] } : Obj)) ∈ tl)
    (hi : (i, ({ cls := .type "tuple", data := .seq #[.int n₁ t₁, .int n₂ t₂] } : Obj)) ∈ tl) (hj : (j, ({ cls := .type "tuple", data := .seq #[.int n₃ t₃, .int n₄ t₄] } : Obj)) ∈ tl)
    (hk : (k, ({ cls := .type "list", data := .seq #[.str (Str.ofString (toString n₁)) u₁, .str (Str.ofString (toString n₂)) u₂, .str (Str.ofString (toString n₃)) u₃, .str (Str.ofString (toString n₄)) u₄] n } : Obj)) ∈ tl) : ReadsOn tl (.ref l) (readData a b n₁ n₂ n₃ n₄) :=
  read_of hl hp hq hi hj hk (.cons (.str _ _) (.cons (.str _ _) (.cons (.str _ _) (.cons (.str _ _) .nil))))
theorem char_ok (c : Char) : c.toNat < 0x110000 := by
  have h := c.valid
  rcases h with h | h
  · exact Nat.lt_trans h (by decide)
  · exact h.2
theorem strOk_of (s : String) : PyData.strOk (Str.ofString s) = true := by
  unfold PyData.strOk
  rw [Array.all_eq_true_iff_forall_mem]
  intro x hx
  have hx' : x ∈ (Str.ofString s).cps.toList := Array.mem_toList_iff.mpr hx
  rw [PySem.Str.ofString_eq_toList] at hx'
  obtain ⟨c, _, rfl⟩ := List.mem_map.mp hx'
  exact decide_eq_true (char_ok c)
theorem shaped_read {a b : Str} (ha : PyData.strOk a = true) (hb : PyData.strOk b = true) (n₁ n₂ n₃ n₄ : Int) : SeqAt.shaped (readData a b n₁ n₂ n₃ n₄) = true := by
  simp [SeqAt.shaped, readData, PyData.canLay0, PyData.canLayAll0, PyData.depth, PyData.depthAll, strOk_of, ha, hb]
theorem shaped_refused {a b : Str} (ha : PyData.strOk a = true) (hb : PyData.strOk b = true) : SeqAt.shaped (refusedData a b) = true := by
  simp [SeqAt.shaped, refusedData, PyData.canLay0, PyData.canLayAll0, PyData.depth, PyData.depthAll, strOk_of, ha, hb]
theorem shaped_none : SeqAt.shaped noPairData = true := by
  simp [SeqAt.shaped, noPairData, PyData.canLay0, PyData.canLayAll0, PyData.depth, PyData.depthAll, strOk_of]
theorem lay_of {d : PyData} (h : SeqAt.shaped d = true) : d.canLay0 = true := (Bool.and_eq_true_iff.mp h).1
theorem eq_back {prog : Program} {w : World} {A : Around} {E : Value → Shared → Prop} {s : Shared} {Q : Value → Shared → Prop} {h₀ : Heap} {L : Addr} {news tl tl' : List (Addr × Obj)} {x y : Value} {a b : Str} {n₁ n₂ n₃ n₄ : Int} (ha : PyData.strOk a = true) (hb : PyData.strOk b = true) (hu : A.units + 64 < cLine) (N : News h₀ L s.heap news) (o : ReadsOn tl x (readData a b n₁ n₂ n₃ n₄)) (o' : ReadsOn tl' y (readData a b n₁ n₂ n₃ n₄)) (sub : ∀ p ∈ tl, p ∈ news) (sub' : ∀ p ∈ tl', p ∈ news)
    (h : Q (.bool true) s) : wpAny (model prog w) A (compareOp .Eq x y) Q E s := by
  obtain ⟨as, r⟩ := o
  obtain ⟨bs, r'⟩ := o'
  refine eq_dataH (r _ fun p hp => (N _ (sub _ hp)).1) (r' _ fun p hp => (N _ (sub' _ hp)).1) (shaped_read ha hb _ _ _ _) (shaped_read ha hb _ _ _ _) hu ?_
  rw [SeqAt.eqv_refl _ (lay_of (shaped_read ha hb _ _ _ _))]; exact h
end
section
theorem mark_single {g : Mk} (h : g ≠ .fin) : signs g.text = [g.text] := by
  cases g <;> first | exact absurd rfl h | decide +kernel
theorem empty_cps : (Str.ofString "").cps = #[] := by decide +kernel
theorem fold_marks : ∀ (ns : List Int) (acc : Array Nat) (gs : List Mk), MarkText ⟨acc⟩ gs → ∃ hs, MarkText ⟨(ns.map signS).foldl (fun acc p => acc ++ (Str.ofString "").cps ++ p.cps) acc⟩ hs ∧ hs.length = gs.length + ns.length
  | [], acc, gs, h => ⟨gs, h, rfl⟩
  | n :: ns, acc, gs, h => by
    obtain ⟨g, hg, e⟩ := mark_sign n
    have h1 : MarkText (⟨acc ++ (Str.ofString "").cps ++ (signS n).cps⟩ : Str) (gs ++ [g]) := by
      have k : MarkText (signS n) [g] := ⟨by rw [e, mark_single hg]; rfl, fun g' m => by rw [List.mem_singleton.mp m]; exact hg⟩
      have z := h.append k
      have q : (⟨acc⟩ ++ signS n : Str) = ⟨acc ++ (Str.ofString "").cps ++ (signS n).cps⟩ := by
        apply PySem.Str.ext'
        rw [PySem.Str.cps_append, empty_cps, Array.append_empty]
      rw [← q]; exact z
    obtain ⟨hs, k, l⟩ := fold_marks ns _ _ h1
    exact ⟨hs, k, by rw [l, List.length_append, List.length_cons, List.length_cons, List.length_nil]; omega⟩
theorem signs_marks (ns : List Int) : ∃ gs, MarkText (signsS ns) gs ∧ gs.length = ns.length := by
  cases ns with
  | nil => exact ⟨[], ⟨by decide +kernel, fun _ h => nomatch h⟩, rfl⟩
  | cons n ns =>
    obtain ⟨g, hg, e⟩ := mark_sign n
    have k : MarkText (⟨(signS n).cps⟩ : Str) [g] := ⟨by show signs (signS n) = _; rw [e, mark_single hg]; rfl, fun g' m => by rw [List.mem_singleton.mp m]; exact hg⟩
    obtain ⟨hs, k', l⟩ := fold_marks ns _ _ k
    exact ⟨hs, k', by rw [l]; simp; omega⟩
theorem field_marks (ns : List Int) (hz : ns.length ≤ 16) : ∃ gs, MarkText (fieldS ns) gs ∧ gs.length ≤ 16 := by
  unfold fieldS
  split
  · exact ⟨[.d7], ⟨by decide +kernel, by simp⟩, by decide⟩
  · obtain ⟨gs, h, l⟩ := signs_marks ns
    exact ⟨gs, h, by omega⟩
end
section
section
set_option maxHeartbeats 1600000
theorem call_cut {w : World} {mg mb : Str → Option Value} {dp un : Nat} {gd : Option (List Code)} {cn : Str} {cs : Scope} {a : Addr} {ccd : Value} {cl : List (Str × Addr)} {outer : List Env} {A₀ : Around} {base h₀ : Heap} {L : Addr} {m : Str → Option Value} {news : List (Addr × Obj)} {s : Shared} {Q E : Value → Shared → Prop} {n : Int} {t : Tok}
    (B : Below A₀ base outer h₀) (Sb : Stat base) (F : Fr h₀ L s.heap m) (X : (KQ w.params).In h₀) (N : News h₀ L s.heap news) (T : TopRead hd.view_39 lo mg mb h₀) (St : Stat h₀) (hk : cs.kind = .function) (hd : dp + 2 < recursionLimit) (hu : un + 8 * 2 < cLine)
    (ret : ∀ h' tk' t', Fr h₀ L h' m → News h₀ L h' news → Q (.int (cutZ n) t') { s with heap := h', toks := tk' }) :
    wpAny (model PySem.Challenge.rw_il0122_01.row.prog w) (ktrTop dp un gd cn cs L a ccd cl outer) (call (.ref 213) [.int n t]) Q E s :=
  (con_cut w n t).use B Sb F X N T St hk trivial hd hu fun r tl h' tk' F' N' _ _ o => by obtain ⟨rfl, t', rfl⟩ := o; exact ret h' tk' t' F' N'
theorem len_l1 : (Str.ofString ".").length ≤ 8 := by decide +kernel
theorem len_l2 : (Str.ofString " ").length ≤ 8 := by decide +kernel
theorem len_l3 : (Str.ofString " =\t").length ≤ 8 := by decide +kernel
theorem len_l4 : (Str.ofString "\t. ").length ≤ 8 := by decide +kernel
local macro_rules | `(tactic| walk_at "len_le") => `(tactic| with_reducible first | exact len_l1 | exact len_l2 | exact len_l3 | exact len_l4 | exact int_text_len_1921 (by assumption) | (refine' app_le ?a ?b; (case a => walk_at "len_le"); (case b => walk_at "len_le")))
local macro_rules | `(tactic| walk_at "call ref") => `(tactic| (k_here; k_dflt (refine' call_cut ?B ?Sb ?F ?X ?N ?T ?S ?hk ?d ?u ?r0; (case hk => exact rfl); (case F => k_asm); (case N => k_asm); (case X => k_asm); (case T => k_asm); (case S => with_reducible assumption); (case B => k_asm); (case Sb => with_reducible assumption); (case d => walk_at "q room"); (case u => walk_at "q units")); (case' r0 => (k_whole; intro h' tk' t' F' N'))))
local macro_rules | `(tactic| walk_at "call ref") => `(tactic| (k_here; (with_reducible show wpAny _ _ (call (Value.ref 206) _) _ _ _); refine Held.out ?_))
theorem str_at0 {prog : Program} {w : World} {A : Around} {E : Value → Shared → Prop} {s : Shared} {Q : Value → Shared → Prop} {a b c d : Int} {t : Tok} (h : a.natAbs.log2 < 1920) (q : Q (.str (Str.ofString (toString a)) s.toks) { s with toks := s.toks + 1 }) : wpAny (model prog w) A (call (.type "str") [.int ([a, b, c, d].getD (Int.toNat 0) 0) t]) Q E s := P.str_of_int (a := a) h q
theorem str_at1 {prog : Program} {w : World} {A : Around} {E : Value → Shared → Prop} {s : Shared} {Q : Value → Shared → Prop} {a b c d : Int} {t : Tok} (h : b.natAbs.log2 < 1920) (q : Q (.str (Str.ofString (toString b)) s.toks) { s with toks := s.toks + 1 }) : wpAny (model prog w) A (call (.type "str") [.int ([a, b, c, d].getD (Int.toNat 1) 0) t]) Q E s := P.str_of_int (a := b) h q
theorem str_at2 {prog : Program} {w : World} {A : Around} {E : Value → Shared → Prop} {s : Shared} {Q : Value → Shared → Prop} {a b c d : Int} {t : Tok} (h : c.natAbs.log2 < 1920) (q : Q (.str (Str.ofString (toString c)) s.toks) { s with toks := s.toks + 1 }) : wpAny (model prog w) A (call (.type "str") [.int ([a, b, c, d].getD (Int.toNat 2) 0) t]) Q E s := P.str_of_int (a := c) h q
theorem str_at3 {prog : Program} {w : World} {A : Around} {E : Value → Shared → Prop} {s : Shared} {Q : Value → Shared → Prop} {a b c d : Int} {t : Tok} (h : d.natAbs.log2 < 1920) (q : Q (.str (Str.ofString (toString d)) s.toks) { s with toks := s.toks + 1 }) : wpAny (model prog w) A (call (.type "str") [.int ([a, b, c, d].getD (Int.toNat 3) 0) t]) Q E s := P.str_of_int (a := d) h q
local macro_rules | `(tactic| walk_at "call type:str") => `(tactic| (k_here; first | with_reducible refine str_at0 (by assumption) ?_ | with_reducible refine str_at1 (by assumption) ?_ | with_reducible refine str_at2 (by assumption) ?_ | with_reducible refine str_at3 (by assumption) ?_ | k_dflt (refine P.str_of_int (by assumption) ?_)))
local macro_rules | `(tactic| walk_at "binaryOp Add str str") => `(tactic| (k_here; k_dflt (refine' KXadd.add ?ka ?kb ?kc ?_; (case ka => walk_at "len_le"); (case kb => walk_at "len_le"); (case kc => exact Nat.le_of_ble_eq_true rfl)); intro _ _ _))
local macro_rules | `(tactic| walk_at "eval Subscript") => `(tactic| (k_here; (with_reducible rename IntsAre _ (List.map _ (List.take 4 _)) => hq'); (obtain ⟨t1', t2', t3', t4', e'⟩ := four_of (by assumption) hq'); clear hq'; subst e'; skip))
local macro_rules | `(tactic| walk_at "eval ListComp") => `(tactic| (k_here; (rename Tells _ _ _ _ _ _ _ => te'); k_dflt (refine ListComp_rowsP (by decide) (by decide) rfl (by decide) rfl ?_)))
local macro_rules | `(tactic| walk_at "pyIter ref") => `(tactic| (k_here; (rename News _ _ _ _ => nwX); k_dflt (refine' comp_list (q_strname _) ?X ?T rfl rfl rfl ?x ?st rfl ?F nwX ?hl (shown_are (.cons ⟨_, rfl⟩ (.cons ⟨_, rfl⟩ (.cons ⟨_, rfl⟩ (.cons ⟨_, rfl⟩ .nil)))) (by assumption)) (Nat.le_of_ble_eq_true rfl) ?_; (case X => k_asm); (case T => k_asm); (case x => exact rfl); (case st => exact rfl); (case F => k_asm); (case hl => exact ⟨_, (News.get nwX (by k_mem)), rfl, _, rfl⟩)); k_whole; intro D' ys' n' h' tk' F' N' c'))
theorem comp_lst {w : World} {A : Around} {E : Value → Shared → Prop} {s : Shared} {h₀ : Heap} {L : Addr} {m mg mb : Str → Option Value} {news : List (Addr × Obj)} {env : Env} {scope : Scope} {l : Addr} {n₁ n₂ n₃ n₄ : Int} {t₁ t₂ t₃ t₄ : Tok} {px py pz : Pos} {Q : Value → Shared → Prop}
    (X : (KQ w.params).In h₀) (T : TopRead hd.view_39 lo mg mb h₀) (hg : env.globals = mainGlobals) (hbn : env.builtins = builtinsNs) (hk : scope.kind = .function) (hx : scope.names.lookup (Str.ofString "number") = some .local) (hst : scope.names.lookup (Str.ofString "str") = some .globalImplicit)
    (hh : A.handled = none) (F : Fr h₀ L s.heap m) (N : News h₀ L s.heap news) (hm : (l, LCg.lst [.int n₁ t₁, .int n₂ t₂, .int n₃ t₃, .int n₄ t₄]) ∈ news) (gall : ∀ n ∈ [n₁, n₂, n₃, n₄], n.natAbs.log2 < 1920)
    (ret : ∀ D ys n h' tk, Fr h₀ L h' m → News h₀ L h' ((D, { cls := .type "list", data := .seq ys n }) :: news) → CarriedAll ys.toList ([n₁, n₂, n₃, n₄].map fun n => .str (Str.ofString (toString n))) → Q (.ref D) { s with heap := h', toks := tk }) :
    wpAny (model PySem.Challenge.rw_il0122_01.row.prog w) A (pyIter (.ref l)) (CompPost PySem.Challenge.rw_il0122_01.row.prog w A env scope (Str.ofString "number") [] (.Call (.Name (Str.ofString "str") px) [.Name (Str.ofString "number") py] [] pz) Q) E s :=
  comp_list (q_strname _) X T hg hbn hk hx hst hh F N ⟨_, (N _ hm).1, rfl, _, rfl⟩ (shown_are (.cons ⟨_, rfl⟩ (.cons ⟨_, rfl⟩ (.cons ⟨_, rfl⟩ (.cons ⟨_, rfl⟩ .nil)))) gall) (Nat.le_of_ble_eq_true rfl) ret
theorem con_back (w : World) (l : Addr) (vs : List Value) (ns : List Int) (n₁ n₂ n₃ n₄ : Int) (hv : IntsAre vs ns) (hl : ns.length ≤ 63) (e4 : nums ns = [n₁, n₂, n₃, n₄]) (g1 : n₁.natAbs.log2 < 1920) (g2 : n₂.natAbs.log2 < 1920) (g3 : n₃.natAbs.log2 < 1920) (g4 : n₄.natAbs.log2 < 1920)
    (gall : ∀ n ∈ [n₁, n₂, n₃, n₄], n.natAbs.log2 < 1920) (hB : BackTells n₁ n₂ n₃ n₄) (ha : PyData.strOk (nameS n₁ n₂) = true) (hb : PyData.strOk (valueS n₃ n₄) = true) : Con w 218 [.ref l] 10 (fun h => h.IsList l vs.toArray) (fun _ tl r => tl = [] ∧ r = .bool true) := by
  unfold BackTells textS nameS valueS at hB
  unfold nameS at ha
  unfold valueS at hb
  refine Con.clean ?_
  unfold lo
  k_fill
  intro mg mb dp un gd cn cs a ccd cl outer A₀ base h₀ L m s Q E B Sb F X N T St hk hpre hd hu hret
  refine wpAny_call ?_
  k_dflt ktr_enter
  k_steps
  refine Held.mk ?_
  refine' call_told ?te ?B ?Sb ?F ?X ?N ?T ?S ?hk ?d ?u ?r0
  (case te => with_reducible assumption)
  (case hk => exact rfl)
  (case F => k_asm)
  (case N => k_asm)
  (case X => k_asm)
  (case T => k_asm)
  (case S => with_reducible assumption)
  (case B => k_asm)
  (case Sb => with_reducible assumption)
  (case d => walk_at "q room")
  (case u => walk_at "q units")
  (case' r0 => (k_whole; intro h' tk' lt' tl' ro' F' N'))
  (try simp only [List.cons_append, List.nil_append] at N')
  k_steps
  rename News _ _ _ _ => nwX
  refine' comp_lst ?X ?T rfl rfl rfl ?x ?st rfl ?F nwX ?hm gall ?_
  (case hm => k_mem)
  (case X => k_asm)
  (case T => k_asm)
  (case x => exact rfl)
  (case st => exact rfl)
  (case F => k_asm)
  k_whole; intro D' ys' n' h' tk' F' N' c'
  k_steps
  rename News _ _ _ _ => nwY
  refine' eq_back ha hb ?u nwY ro' (read_of (tl := _) ?m1 ?m2 ?m3 ?m4 ?m5 ?m6 c') ?s1 (fun p hp => hp) ?_
  (case m1 => k_mem)
  (case m2 => k_mem)
  (case m3 => k_mem)
  (case m4 => k_dflt k_mem)
  (case m5 => k_dflt k_mem)
  (case m6 => k_mem)
  (case u => walk_at "q units")
  (case s1 => intro p hp; repeat (first | exact hp | refine List.mem_cons_of_mem _ ?_))
  k_whole
  k_steps
  all_goals exact ret_plain hret (by k_asm) (stays_fr (by assumption)) ⟨rfl, rfl⟩
end
end
section
section
set_option maxHeartbeats 4000000
def HalvSome (x : Str) (k : Int) (a b : Str) : Prop := ∃ f₁ b₁ f₂ b₂ : Int, a = Txt.slice (Txt.slice x none (some k)) (some f₁) (some b₁) ∧ b = Txt.slice (Txt.slice x (some (k + 1)) none) (some f₂) (some b₂) ∧
    0 ≤ k ∧ k < (x.length : Int) ∧ (∀ j : Int, 0 ≤ j → j < k → Txt.item x j ≠ Str.ofString "=") ∧ Txt.item x k = Str.ofString "=" ∧ BareSpec (Txt.slice x none (some k)) f₁ b₁ ∧ BareSpec (Txt.slice x (some (k + 1)) none) f₂ b₂
def HalvNone (x : Str) : Prop := ∀ j : Int, 0 ≤ j → j < (x.length : Int) → Txt.item x j ≠ Str.ofString "="
def WantOut (x : Str) (gs : List Mk) (h' : Heap) (r : Value) : Prop :=
  (HalvNone x ∧ ∃ as, Reads h' r noPairData as) ∨
  ∃ k a b, HalvSome x k a b ∧ ((RS.start.run (gs ++ [Mk.fin]) = none ∧ ∃ as, Reads h' r (refusedData a b) as) ∨
    ∃ n₁ n₂ n₃ n₄ st tu wo, RS.start.run (gs ++ [Mk.fin]) = some ⟨[n₁, n₂, n₃, n₄], st, tu, wo⟩ ∧ ∃ as, Reads h' r (readData a b n₁ n₂ n₃ n₄) as)
section
variable {w : World} {mg mb : Str → Option Value} {dp un : Nat} {gd : Option (List Code)} {cn : Str} {cs : Scope} {a : Addr} {ccd : Value} {cl : List (Str × Addr)} {outer : List Env} {A₀ : Around} {base h₀ : Heap} {L : Addr} {m : Str → Option Value} {news : List (Addr × Obj)} {s : Shared} {Q E : Value → Shared → Prop}
theorem call_halves {x : Str} {t : Tok} (hz : x.length ≤ 640)
    (B : Below A₀ base outer h₀) (Sb : Stat base) (F : Fr h₀ L s.heap m) (X : (KQ w.params).In h₀) (N : News h₀ L s.heap news) (T : TopRead hd.view_39 lo mg mb h₀) (St : Stat h₀) (hk : cs.kind = .function) (hd : dp + 4 < recursionLimit) (hu : un + 8 * 4 < cLine)
    (ret0 : ∀ h' tk', HalvNone x → Fr h₀ L h' m → News h₀ L h' news → Q .none { s with heap := h', toks := tk' })
    (ret1 : ∀ h' tk' k a b l ta tb, HalvSome x k a b → Fr h₀ L h' m → News h₀ L h' ((l, tupObj [.str a ta, .str b tb]) :: news) → (∀ p ∈ news, p.1 ≠ l) → Q (.ref l) { s with heap := h', toks := tk' }) :
    wpAny (model PySem.Challenge.rw_il0122_01.row.prog w) (ktrTop dp un gd cn cs L a ccd cl outer) (call (.ref 191) [.str x t]) Q E s :=
  (con_halves w x t hz).use B Sb F X N T St hk trivial hd hu fun r tl h' tk' F' N' fr _ o => by
    rcases o with ⟨rfl, rfl, o⟩ | ⟨k, l, ta, tb, f₁, b₁, f₂, b₂, rfl, rfl, z⟩
    · exact ret0 h' tk' o F' N'
    · refine ret1 h' tk' k _ _ l ta tb ⟨f₁, b₁, f₂, b₂, rfl, rfl, z⟩ F' N' fun p hp q => ?_
      have e := fr _ (List.mem_singleton.mpr rfl)
      have e' := (N p hp).1
      rw [q] at e'
      dsimp only at e
      rw [e] at e'; cases e'
theorem call_read {x : Str} {t : Tok} {gs : List Mk} (hx : signs x = gs.map Mk.text) (hgs : ∀ g ∈ gs, g ≠ .fin) (hz : gs.length ≤ 100)
    (B : Below A₀ base outer h₀) (Sb : Stat base) (F : Fr h₀ L s.heap m) (X : (KQ w.params).In h₀) (N : News h₀ L s.heap news) (T : TopRead hd.view_39 lo mg mb h₀) (St : Stat h₀) (hk : cs.kind = .function) (hd : dp + 2 < recursionLimit) (hu : un + 8 * 2 < cLine)
    (ret0 : ∀ h' tk', RS.start.run (gs ++ [Mk.fin]) = none → Fr h₀ L h' m → News h₀ L h' news → Q .none { s with heap := h', toks := tk' })
    (ret1 : ∀ h' tk' n₁ n₂ n₃ n₄ st tu wo l l₁ l₂ ta tb tc td, RS.start.run (gs ++ [Mk.fin]) = some ⟨[n₁, n₂, n₃, n₄], st, tu, wo⟩ → (∀ n ∈ [n₁, n₂, n₃, n₄], n.natAbs.log2 < 1920) → Fr h₀ L h' m → News h₀ L h' ((l, tupObj [.ref l₁, .ref l₂]) :: (l₂, tupObj [.int n₃ tc, .int n₄ td]) :: (l₁, tupObj [.int n₁ ta, .int n₂ tb]) :: news) → Q (.ref l) { s with heap := h', toks := tk' }) :
    wpAny (model PySem.Challenge.rw_il0122_01.row.prog w) (ktrTop dp un gd cn cs L a ccd cl outer) (call (.ref 196) [.str x t]) Q E s :=
  (con_read w x t gs hx hgs hz).use B Sb F X N T St hk trivial hd hu fun r tl h' tk' F' N' fr _ o => by
    rcases o with ⟨rfl, rfl, o⟩ | ⟨n₁, n₂, n₃, n₄, st, tu, wo, l, l₁, l₂, ta, tb, tc, td, hr, rfl, rfl⟩
    · exact ret0 h' tk' o F' N'
    · exact ret1 h' tk' n₁ n₂ n₃ n₄ st tu wo l l₁ l₂ ta tb tc td hr (run_shown hz hr) F' N'
end
local macro_rules | `(tactic| walk_at "call ref") => `(tactic| (k_here; k_dflt (refine' call_halves ?z ?B ?Sb ?F ?X ?N ?T ?S ?hk ?d ?u ?r0 ?r1; (case hk => exact rfl)); (case F => k_asm); (case N => k_asm); (case z => assumption); (case X => k_asm); (case T => k_asm); (case S => with_reducible assumption); (case B => k_asm); (case Sb => with_reducible assumption); (case d => walk_at "q room"); (case u => walk_at "q units"); (case' r0 => (k_whole; intro h' tk' hn' F' N')); (case' r1 => (k_whole; intro h' tk' k' a' b' l' ta' tb' hs' F' N' l1'))))
local macro_rules | `(tactic| walk_at "call ref") => `(tactic| (k_here; (with_reducible show wpAny _ _ (call (Value.ref 196) _) _ _ _); refine Held.out ?_))
local macro_rules | `(tactic| walk_at "pyIter ref") => `(tactic| (k_here; (rename News _ _ _ _ => nwX); k_dflt (refine' comp_tuple (q_strname _) ?X ?T rfl rfl rfl ?x ?st rfl ?F nwX ⟨_, (nwX _ (List.Mem.head _)).1, rfl, _, rfl⟩ (shown_are (.cons ⟨_, rfl⟩ (.cons ⟨_, rfl⟩ (.cons ⟨_, rfl⟩ (.cons ⟨_, rfl⟩ .nil)))) (by assumption)) (Nat.le_of_ble_eq_true rfl) ?_; (case X => k_asm); (case T => k_asm); (case x => exact rfl); (case st => exact rfl); (case F => k_asm)); k_whole; intro D' ys' n' h' tk' F' N' c'))
theorem con_want (w : World) (x : Str) (t : Tok) (gs : List Mk) (hx : signs x = gs.map Mk.text) (hgs : ∀ g ∈ gs, g ≠ .fin) (hz : gs.length ≤ 100) : Con w 201 [.str x t] 6 (fun _ => True) (fun h' tl r => tl = [] ∧ WantOut x gs h' r) := by
  have hl : x.length ≤ 640 := by
    have z := signs_length x
    rw [hx, List.length_map] at z
    omega
  refine Con.clean ?_
  unfold lo
  k_fill
  intro mg mb dp un gd cn cs a ccd cl outer A₀ base h₀ L m s Q E B Sb F X N T St hk hpre hd hu hret
  refine wpAny_call ?_
  k_dflt ktr_enter
  k_steps
  refine Held.mk ?_
  (refine' call_read ?x ?g ?z ?B ?Sb ?F ?X ?N ?T ?S ?hk ?d ?u ?r0 ?r1)
  (case hk => exact rfl)
  (case F => k_asm)
  (case N => k_asm)
  (case x => assumption)
  (case g => assumption)
  (case z => assumption)
  (case X => k_asm)
  (case T => k_asm)
  (case S => with_reducible assumption)
  (case B => k_asm)
  (case Sb => with_reducible assumption)
  (case d => walk_at "q room")
  (case u => walk_at "q units")
  (case' r0 => (k_whole; intro h' tk' hr' F' N'))
  (case' r1 => (k_whole; intro h' tk' n1' n2' n3' n4' st' tu' wo' l' l1' l2' ta' tb' tc' td' hr' hs' F' N'))
  all_goals k_steps
  all_goals rename News _ _ _ _ => nwX
  · exact ret_plain hret (by k_asm) (stays_fr (by assumption)) ⟨rfl, .inr ⟨_, _, _, by assumption, .inr ⟨_, _, _, _, _, _, _, by assumption, (read_of (by k_mem) (by k_mem) (by k_mem) (by k_mem) (by k_mem) (by k_mem) (by assumption)).at nwX⟩⟩⟩
  · exact ret_plain hret (by k_asm) (stays_fr (by assumption)) ⟨rfl, .inr ⟨_, _, _, by assumption, .inl ⟨by assumption, (refused_of (by k_mem) (by k_mem)).at nwX⟩⟩⟩
  · exact ret_plain hret (by k_asm) (stays_fr (by assumption)) ⟨rfl, .inl ⟨by assumption, (nopair_of (by k_mem)).at nwX⟩⟩
end
end
section
/-- told and want answer alike of the text -/
structure Twin (w : World) (x : Str) (ds : List PyData) : Prop where
  told : ∀ t, ConP w 206 [.str x t] 6 (fun tl r => ReadsOn tl r (.list ds))
  want : ∀ t, Con w 201 [.str x t] 6 (fun _ => True) (fun h' tl r => tl = [] ∧ ∃ as, Reads h' r (.list ds) as)
  shaped : SeqAt.shaped (.list ds) = true
structure TwinE (w : World) (x : Str) : Prop where
  ex : ∃ ds, Twin w x ds
/-- all that back asks for -/
structure BackOk (w : World) (l : Addr) (vs : List Value) : Prop where
  con : Con w 218 [.ref l] 10 (fun h => h.IsList l vs.toArray) (fun _ tl r => tl = [] ∧ r = .bool true)
theorem ref_of_list {h : Heap} {v : Value} {ds : List PyData} {as : List Addr} (r : Reads h v (.list ds) as) : ∃ l, v = .ref l := by
  cases r with
  | list => exact ⟨_, rfl⟩
section
variable {w : World} {mg mb : Str → Option Value} {dp un : Nat} {gd : Option (List Code)} {cn : Str} {cs : Scope} {a : Addr} {ccd : Value} {cl : List (Str × Addr)} {outer : List Env} {A₀ : Around} {base h₀ : Heap} {L : Addr} {m : Str → Option Value} {news : List (Addr × Obj)} {s : Shared} {Q E : Value → Shared → Prop}
theorem call_field {l : Addr} {its : Array Value} {k : Nat} (hm : (l, ({ cls := .type "list", data := .seq its k } : Obj)) ∈ news) (hp : ∃ ns, IntsAre its.toList ns ∧ ns.length ≤ 16)
    (B : Below A₀ base outer h₀) (Sb : Stat base) (F : Fr h₀ L s.heap m) (X : (KQ w.params).In h₀) (N : News h₀ L s.heap news) (T : TopRead hd.view_39 lo mg mb h₀) (St : Stat h₀) (hk : cs.kind = .function) (hd : dp + 4 < recursionLimit) (hu : un + 8 * 4 < cLine)
    (ret : ∀ h' tk' t' x gs, MarkText x gs → gs.length ≤ 16 → x.length ≤ 16 → Fr h₀ L h' m → News h₀ L h' news → Q (.str x t') { s with heap := h', toks := tk' }) :
    wpAny (model PySem.Challenge.rw_il0122_01.row.prog w) (ktrTop dp un gd cn cs L a ccd cl outer) (call (.ref 177) [.ref l]) Q E s := by
  obtain ⟨ns, hv, hz⟩ := hp
  obtain ⟨gs, mk, lg⟩ := field_marks ns hz
  exact (con_field w l its.toList ns hv (Nat.le_trans hz (by decide))).use B Sb F X N T St hk ⟨_, (N _ hm).1, rfl, _, by rw [Array.toArray_toList]⟩ hd hu fun r tl h' tk' F' N' _ _ o => by obtain ⟨rfl, t', rfl⟩ := o; exact ret h' tk' t' _ gs mk lg (by rw [mk.len]; exact lg) F' N'
theorem call_signs2 {l : Addr} {vs : List Value} {k : Nat} {ns : List Int} (hm : (l, ({ cls := .type "list", data := .seq vs.toArray k } : Obj)) ∈ news) (hv : IntsAre vs ns) (hz : ns.length ≤ 16)
    (B : Below A₀ base outer h₀) (Sb : Stat base) (F : Fr h₀ L s.heap m) (X : (KQ w.params).In h₀) (N : News h₀ L s.heap news) (T : TopRead hd.view_39 lo mg mb h₀) (St : Stat h₀) (hk : cs.kind = .function) (hd : dp + 2 < recursionLimit) (hu : un + 8 * 2 < cLine)
    (ret : ∀ h' tk' t' x gs, MarkText x gs → gs.length ≤ 16 → x.length ≤ 16 → Fr h₀ L h' m → News h₀ L h' news → Q (.str x t') { s with heap := h', toks := tk' }) :
    wpAny (model PySem.Challenge.rw_il0122_01.row.prog w) (ktrTop dp un gd cn cs L a ccd cl outer) (call (.ref 170) [.ref l]) Q E s := by
  obtain ⟨gs, mk, lg⟩ := signs_marks ns
  have lg' : gs.length ≤ 16 := by omega
  exact (con_signs w l vs ns hv (by omega)).use B Sb F X N T St hk ⟨_, (N _ hm).1, rfl, _, rfl⟩ hd hu fun r tl h' tk' F' N' _ _ o => by obtain ⟨rfl, t', rfl⟩ := o; exact ret h' tk' t' _ gs mk lg' (by rw [mk.len]; exact lg') F' N'
theorem law_told {x : Str} {ds : List PyData} {t : Tok} (tw : Twin w x ds) (B : Below A₀ h₀ [] h₀) (F : Fr h₀ L s.heap m) (X : (KQ w.params).In h₀) (T : TopRead hd.view_39 lo mg mb h₀) (St : Stat h₀) (hk : cs.kind = .function) (hdp : dp + 6 < recursionLimit) (hu : un + 8 * 6 < cLine)
    (ret : ∀ h' tk' lt tl, ReadsOn tl (.ref lt) (.list ds) → Fr h₀ L h' m → News h₀ L h' tl → Q (.ref lt) { s with heap := h', toks := tk' }) :
    wpP ByCaller (model PySem.Challenge.rw_il0122_01.row.prog w) (ktrTop dp un gd cn cs L a ccd cl []) (call (.ref 206) [.str x t]) Q E s := by
  refine tw.told t mg mb dp un gd cn cs a ccd cl A₀ h₀ L m s Q E B F X (fun p hp => nomatch hp) T St hk hdp hu fun r tl h' tk' F' N' o => ?_
  obtain ⟨as, rd⟩ := o.at N'
  obtain ⟨lt, rfl⟩ := ref_of_list rd
  exact ret h' tk' lt tl o F' N'
theorem law_want {x : Str} {ds : List PyData} {t : Tok} (tw : Twin w x ds) (B : Below A₀ base outer h₀) (Sb : Stat base) (F : Fr h₀ L s.heap m) (X : (KQ w.params).In h₀) (N : News h₀ L s.heap news) (T : TopRead hd.view_39 lo mg mb h₀) (St : Stat h₀) (hk : cs.kind = .function) (hdp : dp + 6 < recursionLimit) (hu : un + 8 * 6 < cLine)
    (ret : ∀ h' tk' lt, (∃ as, Reads h' (.ref lt) (.list ds) as) → Fr h₀ L h' m → News h₀ L h' news → Q (.ref lt) { s with heap := h', toks := tk' }) :
    wpAny (model PySem.Challenge.rw_il0122_01.row.prog w) (ktrTop dp un gd cn cs L a ccd cl outer) (call (.ref 201) [.str x t]) Q E s :=
  (tw.want t).use B Sb F X N T St hk trivial hdp hu fun r tl h' tk' F' N' _ _ o => by
    obtain ⟨rfl, as, rd⟩ := o
    obtain ⟨lt, rfl⟩ := ref_of_list rd
    exact ret h' tk' lt ⟨as, rd⟩ F' N'
theorem law_back {l : Addr} {vs : List Value} (bk : BackOk w l vs) (hl : s.heap.IsList l vs.toArray) (B : Below A₀ base outer h₀) (Sb : Stat base) (F : Fr h₀ L s.heap m) (X : (KQ w.params).In h₀) (N : News h₀ L s.heap news) (T : TopRead hd.view_39 lo mg mb h₀) (St : Stat h₀) (hk : cs.kind = .function) (hd : dp + 10 < recursionLimit) (hu : un + 8 * 10 < cLine)
    (ret : ∀ h' tk', Fr h₀ L h' m → Q (.bool true) { s with heap := h', toks := tk' }) :
    wpAny (model PySem.Challenge.rw_il0122_01.row.prog w) (ktrTop dp un gd cn cs L a ccd cl outer) (call (.ref 218) [.ref l]) Q E s :=
  bk.con.use B Sb F X N T St hk hl hd hu fun r tl h' tk' F' N' _ _ o => by obtain ⟨rfl, rfl⟩ := o; exact ret h' tk' F'
theorem law_ne {prog : Program} {A : Around} {x y : Value} {ds : List PyData} (hs : SeqAt.shaped (.list ds) = true) (N : News h₀ L s.heap news) (o : ReadsOn news x (.list ds)) (r : ∃ as, Reads s.heap y (.list ds) as) (hu : A.units + 64 < cLine)
    (h : Q (.bool false) s) : wpAny (model prog w) A (compareOp .NotEq x y) Q E s := by
  obtain ⟨as, ra⟩ := o.at N
  obtain ⟨bs, rb⟩ := r
  refine ne_dataH ra rb hs hs hu ?_
  rw [SeqAt.eqv_refl _ (lay_of hs)]; exact h
end
theorem mark_dot : MarkText (Str.ofString ".") [.dot] := ⟨by decide +kernel, by simp⟩
theorem mark_eq : MarkText (Str.ofString "=") [.eq] := ⟨by decide +kernel, by simp⟩
structure FillQ (K : Params → Frag) (r : OpenLaw) : Prop where
  out : True
theorem len_e1 : (Str.ofString ".").length ≤ 8 := by decide +kernel
theorem len_e2 : (Str.ofString "=").length ≤ 8 := by decide +kernel
theorem app_le' {x y : Str} {n m : Nat} (hx : x.length ≤ n) (hy : y.length ≤ m) : (x ++ y).length ≤ n + m := by rw [PySem.Str.length_append]; omega
theorem len63 {l : List Int} (h : ¬ ((63 : Nat) : Int) < (l.length : Int)) : l.length ≤ 63 := by omega
end
section
local macro_rules | `(tactic| walk_at "none") => `(tactic| skip)
local macro_rules | `(tactic| walk_at "len_le") => `(tactic| with_reducible first | exact len_e1 | exact len_e2 | assumption | (refine' app_le' ?a ?b; (case a => walk_at "len_le"); (case b => walk_at "len_le")))
local macro_rules | `(tactic| walk_at "binaryOp Add str str") => `(tactic| (k_here; k_dflt (refine' KXadd.add ?ka ?kb ?kc ?_; (case ka => walk_at "len_le"); (case kb => walk_at "len_le"); (case kc => exact Nat.le_of_ble_eq_true rfl)); intro _ _ _))
local macro_rules | `(tactic| walk_at "call ref") => `(tactic| (k_here; refine Held.out ?_))
set_option maxHeartbeats 1600000
theorem law_body (w : World) (twin : ∀ (x : Str) (gs : List Mk), MarkText x gs → gs.length ≤ 100 → TwinE w x) {mg mb : Str → Option Value} {h₀ : Heap} {L fa l : Addr} {cd : Value} {vs : List Value} {ns : List Int} {s : Shared} {Q : Flow → Shared → Prop} {E : Value → Shared → Prop}
    (bk : BackOk w l vs) (B0 : Below callerA h₀ [] h₀) (S0 : Stat h₀) (X0 : (KQ w.params).In h₀) (T0 : TopRead hd.view_39 lo mg mb h₀) (hLX : h₀.IsList l vs.toArray) (hIX : IntsAre vs ns) (hZX : ns.length ≤ 63)
    (F0 : Fr h₀ L s.heap (fun x => List.lookup x [(Str.ofString "script", Value.ref l)])) (N0 : News h₀ L s.heap [])
    (ret : ∀ h' tk' m, Fr h₀ L h' m → Q (.ret (.bool true)) { s with heap := h', toks := tk' }) :
    wpP ByCaller (model PySem.Challenge.rw_il0122_01.row.prog w) (callerA.deeper (envOf (Str.ofString "law") lawDef.scope L fa cd)) (execs lawDef.body (envOf (Str.ofString "law") lawDef.scope L fa cd)) Q E s := by
  unfold lo at T0
  unfold lawDef
  dsimp only
  have hfill : FillQ KQ PySem.Challenge.rw_il0122_01 := by
    k_fill
    exact ⟨trivial⟩
  clear hfill
  have hret : True := trivial
  refine execsP_cons (wpP_of ?_)
  k_steps
  dsimp only
  refine execsP_cons (wpP_of ?_)
  k_steps
  refine Held.mk ?_
  rename News _ _ _ _ => nwX
  k_dflt (refine' call_field (List.Mem.head _) ?hp1 B0 S0 ?F1 X0 nwX T0 S0 ?hk1 ?d1 ?u1 ?r1)
  (case F1 => k_asm)
  (case hk1 => exact rfl)
  (case d1 => decide)
  (case u1 => decide)
  (case hp1 => exact drawn_pick (by assumption) (by rw [List.length_take]; exact Nat.min_le_left _ _) 0)
  k_whole; intro h' tk' t' x1' gs1' mk1' lg1' lx1' F' N'
  k_steps
  refine Held.mk ?_
  rename News _ _ _ _ => nwX
  k_dflt (refine' call_field (List.Mem.head _) ?hp2 B0 S0 ?F2 X0 nwX T0 S0 ?hk2 ?d2 ?u2 ?r2)
  (case F2 => k_asm)
  (case hk2 => exact rfl)
  (case d2 => decide)
  (case u2 => decide)
  (case hp2 => exact drawn_pick (by assumption) (by rw [List.length_take]; exact Nat.min_le_left _ _) 1)
  k_whole; intro h' tk' t' x2' gs2' mk2' lg2' lx2' F' N'
  k_steps
  dsimp only
  refine execsP_cons (wpP_of ?_)
  k_steps
  refine Held.mk ?_
  rename News _ _ _ _ => nwX
  k_dflt (refine' call_field (List.Mem.head _) ?hp3 B0 S0 ?F3 X0 nwX T0 S0 ?hk3 ?d3 ?u3 ?r3)
  (case F3 => k_asm)
  (case hk3 => exact rfl)
  (case d3 => decide)
  (case u3 => decide)
  (case hp3 => exact drawn_pick (by assumption) (by rw [List.length_take]; exact Nat.min_le_left _ _) 2)
  k_whole; intro h' tk' t' x3' gs3' mk3' lg3' lx3' F' N'
  k_steps
  refine Held.mk ?_
  rename News _ _ _ _ => nwX
  k_dflt (refine' call_field (List.Mem.head _) ?hp4 B0 S0 ?F4 X0 nwX T0 S0 ?hk4 ?d4 ?u4 ?r4)
  (case F4 => k_asm)
  (case hk4 => exact rfl)
  (case d4 => decide)
  (case u4 => decide)
  (case hp4 => exact drawn_pick (by assumption) (by rw [List.length_take]; exact Nat.min_le_left _ _) 3)
  k_whole; intro h' tk' t' x4' gs4' mk4' lg4' lx4' F' N'
  k_steps
  dsimp only
  refine execsP_cons (wpP_of ?_)
  k_steps
  dsimp only
  refine execsP_cons (wpP_of ?_)
  k_steps
  refine Held.mk ?_
  rename News _ _ _ _ => nwX
  k_dflt (refine' call_signs2 ?m5 ?v5 ?z5 B0 S0 ?F5 X0 nwX T0 S0 ?hk5 ?d5 ?u5 ?r5)
  (case m5 => k_mem)
  (case F5 => k_asm)
  (case hk5 => exact rfl)
  (case d5 => decide)
  (case u5 => decide)
  (case v5 => assumption)
  (case z5 => rw [List.length_take]; exact Nat.min_le_left _ _)
  k_whole; intro h' tk' t' x5' gs5' mk5' lg5' lx5' F' N'
  k_steps
  dsimp only
  obtain ⟨ds1, tw1⟩ := (twin _ _ ((((mk1'.append mark_dot).append mk2').append mark_eq).append ((mk3'.append mark_dot).append mk4')) (by simp only [List.length_append, List.length_cons, List.length_nil]; omega)).ex
  obtain ⟨ds2, tw2⟩ := (twin _ _ mk5' (by omega)).ex
  refine execsP_cons (execP_If (isTrueP_Compare (evalP_Call ?_ (by rfl)) (by with_unfolding_all rfl)))
  k_steps
  k_dflt (refine' callWithP_K (K := KQ w.params) ?f6 ?s6 ?e6; (case f6 => k_is); (case e6 => rfl))
  k_whole
  k_steps
  k_dflt (refine' law_told tw1 B0 ?Fa6 X0 T0 S0 ?ka6 ?da6 ?ua6 ?ra6)
  (case Fa6 => k_asm)
  (case ka6 => exact rfl)
  (case da6 => decide)
  (case ua6 => decide)
  k_whole; intro h' tk' lt6 tl6 o6 F' N'
  k_steps
  refine Held.mk ?_
  k_dflt (refine' law_want tw1 B0 S0 ?Fb6 X0 ?Nb6 T0 S0 ?kb6 ?db6 ?ub6 ?rb6)
  (case Fb6 => k_asm)
  (case Nb6 => k_asm)
  (case kb6 => exact rfl)
  (case db6 => decide)
  (case ub6 => decide)
  k_whole; intro h' tk' lv6 r6 F' N'
  refine' law_ne tw1.shaped N' o6 r6 ?uc6 ?_
  (case uc6 => first | k_units | exact of_decide_eq_true rfl)
  k_whole
  k_steps
  refine wpP_of (wpAny_execs_nil ?_)
  dsimp only
  refine execsP_cons (execP_If (isTrueP_Compare (evalP_Call ?_ (by rfl)) (by with_unfolding_all rfl)))
  k_steps
  k_dflt (refine' callWithP_K (K := KQ w.params) ?f7 ?s7 ?e7; (case f7 => k_is); (case e7 => rfl))
  k_whole
  k_steps
  k_dflt (refine' law_told tw2 B0 ?Fa7 X0 T0 S0 ?ka7 ?da7 ?ua7 ?ra7)
  (case Fa7 => k_asm)
  (case ka7 => exact rfl)
  (case da7 => decide)
  (case ua7 => decide)
  k_whole; intro h' tk' lt7 tl7 o7 F' N'
  k_steps
  refine Held.mk ?_
  k_dflt (refine' law_want tw2 B0 S0 ?Fb7 X0 ?Nb7 T0 S0 ?kb7 ?db7 ?ub7 ?rb7)
  (case Fb7 => k_asm)
  (case Nb7 => k_asm)
  (case kb7 => exact rfl)
  (case db7 => decide)
  (case ub7 => decide)
  k_whole; intro h' tk' lv7 r7 F' N'
  refine' law_ne tw2.shaped N' o7 r7 ?uc7 ?_
  (case uc7 => first | k_units | exact of_decide_eq_true rfl)
  k_whole
  k_steps
  refine wpP_of (wpAny_execs_nil ?_)
  dsimp only
  refine execsP_cons (wpP_of ?_)
  k_steps
  refine Held.mk ?_
  k_dflt (refine' law_back bk ?l8 B0 S0 ?F8 X0 ?N8 T0 S0 ?hk8 ?d8 ?u8 ?r8)
  (case l8 => exact isList_fr hLX F')
  (case F8 => k_asm)
  (case N8 => k_asm)
  (case hk8 => exact rfl)
  (case d8 => decide)
  (case u8 => decide)
  k_whole; intro h' tk' F'
  k_steps
  exact ret _ _ _ F'
theorem law_holds (twin : ∀ (w : World) (x : Str) (gs : List Mk), MarkText x gs → gs.length ≤ 100 → TwinE w x) (back : ∀ (w : World) (l : Addr) (vs : List Value) (ns : List Int), IntsAre vs ns → ns.length ≤ 63 → BackOk w l vs) : PySem.Challenge.rw_il0122_01.Holds := head_law (by
  intro w s₀ s₁ mg mb G Y fa o pm cd doc dV kV ho hdt hcd hD hmg hg args vals as hpre hlay hrd hwl hlo
  have KX := kIn_of Y
  have TT := G.T
  obtain ⟨B0, S0, X0, T0⟩ := law_facts TT KX
  obtain rfl : dV = .none := by
    rcases hD.pos with ⟨_, e⟩ | ⟨e, _⟩
    · exact e
    · exact absurd rfl e
  obtain rfl : kV = .none := by
    rcases hD.kw with ⟨_, e⟩ | ⟨e, _⟩
    · exact e
    · exact absurd rfl e
  clear hD hmg G Y KX
  wrow_args hpre hlay hrd hwl hlo
  rename IntsAre _ _ => hIX
  rename Heap.IsList _ _ _ => hLX
  have hZX := len63 (by assumption)
  refine wpP_call ?_
  refine' codeP_def caller_up ?c1 ho hdt TT.nolimit hcd ?c2 ?c9 law_cells ?c4 ?c5 ?c6 ?c7 ?c8
  (case c1 => decide)
  (case c9 => exact BindsTo.of_eq rfl)
  (case c2 => rfl)
  (case c4 => exact locs rfl)
  (case c6 => rfl)
  (case c7 => rfl)
  (case c8 => rfl)
  intro h₁ hns hk₁
  have F0 : Fr s₁.heap s₁.heap.objs.size h₁ _ := ⟨hns, hk₁, Nat.le_refl _⟩
  have N0 : News s₁.heap s₁.heap.objs.size h₁ [] := fun p hp => nomatch hp
  refine law_body w (twin w) (back w _ _ _ hIX hZX) B0 S0 X0 T0 hLX hIX hZX F0 N0 fun h' tk' m F' => ?_
  dsimp only
  exact GoodW.toG (goodW_bool F' hg (raisesW_false (by wrow_none_raised)) (by wrow_post)))
end
end
end
section
open PySem.NumText
/-- the sign's number -/
def Mk.code : Mk → Nat
  | .d0 => 48 | .d1 => 49 | .d2 => 50 | .d3 => 51 | .d4 => 52 | .d5 => 53 | .d6 => 54 | .d7 => 55 | .d8 => 56 | .d9 => 57
  | .us => 95 | .sp => 32 | .minus => 45 | .plus => 43 | .dot => 46 | .eq => 61 | .tab => 9 | .e => 101 | .fin => 0
def Mk.blank : Mk → Bool
  | .sp => true
  | .tab => true
  | _ => false
theorem code_blank (g : Mk) : NumText.blank g.code = g.blank := by cases g <;> decide
/-- int of a text's signs -/
def intL (l : List Nat) : Option Int :=
  match digits? 10 (core l) with
  | some ds => some (worth (sign (l.dropWhile NumText.blank)).1 ds)
  | none => none
def valOf (ds : Array Nat) : Nat := ds.foldl (fun acc d => acc * 10 + d) 0
theorem valOf_push (ds : Array Nat) (d : Nat) : valOf (ds.push d) = valOf ds * 10 + d := by unfold valOf; simp
/-- what the machine has at the end of a number -/
def endv : Option RS → Option (List Int × Int)
  | some σ => if σ.state = 2 ∨ σ.state = 4 then some (σ.got, σ.turn * σ.worth) else none
  | none => none
/-- signs at the right end shed -/
def rs (l : List Nat) : List Nat := (l.reverse.dropWhile NumText.blank).reverse
theorem rs_nil : rs [] = [] := rfl
theorem rs_cons (c : Nat) (l : List Nat) : rs (c :: l) = if rs l = [] then (if NumText.blank c = true then [] else [c]) else c :: rs l := by
  unfold rs
  rw [List.reverse_cons, List.dropWhile_append]
  cases h : List.dropWhile NumText.blank l.reverse with
  | nil =>
    simp only [List.isEmpty_nil, if_true, List.reverse_nil]
    rw [List.dropWhile_cons]
    split <;> rfl
  | cons a r =>
    simp
/-- the numerals' fold, ended -/
def fin? (o : Option (Array Nat × Bool)) : Option (Array Nat) := o.bind fun p => if p.2 then some p.1 else none
theorem digits_fin (cs : List Nat) : digits? 10 cs = fin? (cs.foldlM (step 10) ((#[] : Array Nat), false)) := rfl
theorem step_blank {p : Array Nat × Bool} {c : Nat} (h : NumText.blank c = true) : step 10 p c = none := by
  unfold NumText.blank at h
  have hc : c = 32 ∨ (9 ≤ c ∧ c ≤ 13) := by simpa using h
  unfold NumText.step
  rw [if_neg (by rw [beq_iff_eq]; omega)]
  have hd : digit? c = none := by
    unfold digit?
    rw [if_neg (by simp; omega), if_neg (by simp; omega), if_neg (by simp; omega)]
  rw [hd]
theorem fold_bad {p : Array Nat × Bool} {c : Nat} {l : List Nat} (h : step 10 p c = none) : fin? ((c :: l).foldlM (step 10) p) = none := by
  rw [List.foldlM_cons, h]; rfl
theorem fold_on {p q : Array Nat × Bool} {c : Nat} {l : List Nat} (h : step 10 p c = some q) : (c :: l).foldlM (step 10) p = l.foldlM (step 10) q := by
  rw [List.foldlM_cons, h]; rfl
/-- a chunk's signs: no full stop, no end; the equals sign only where no first half ends -/
def Chunk (got : List Int) (D : List Mk) : Prop := ∀ g ∈ D, g ≠ .dot ∧ g ≠ .fin ∧ (got.length = 1 → g ≠ .eq)
theorem Chunk.tail {got : List Int} {g : Mk} {D : List Mk} (h : Chunk got (g :: D)) : Chunk got D := fun x hx => h x (List.mem_cons_of_mem _ hx)
theorem Chunk.head {got : List Int} {g : Mk} {D : List Mk} (h : Chunk got (g :: D)) : g ≠ .dot ∧ g ≠ .fin ∧ (got.length = 1 → g ≠ .eq) := h g (List.mem_cons_self ..)
/-- the digit that a mark is -/
def Mk.digit : Mk → Option Nat
  | .d0 => some 0 | .d1 => some 1 | .d2 => some 2 | .d3 => some 3 | .d4 => some 4 | .d5 => some 5 | .d6 => some 6 | .d7 => some 7 | .d8 => some 8 | .d9 => some 9
  | _ => none
theorem digit_step {g : Mk} {d : Nat} (h : g.digit = some d) (p : Array Nat × Bool) : step 10 p g.code = some (p.1.push d, true) := by
  cases g <;> simp [Mk.digit] at h <;> subst h <;> rfl
theorem digit_run {g : Mk} {d : Nat} (h : g.digit = some d) (σ : RS) : σ.step g = σ.dig (d : Int) := by
  cases g <;> simp [Mk.digit] at h <;> subst h <;> rfl
theorem digit_blank {g : Mk} {d : Nat} (h : g.digit = some d) : g.blank = false := by
  cases g <;> simp [Mk.digit] at h <;> rfl
/-- marks that no number bears inside -/
theorem other_bad {g : Mk} (hd : g.digit = none) (hu : g ≠ .us) (hb : g.blank = false) (p : Array Nat × Bool) : step 10 p g.code = none := by
  cases g <;> first | (simp [Mk.digit] at hd; done) | exact absurd rfl hu | (simp [Mk.blank] at hb; done) | rfl
theorem other_run {g : Mk} (hd : g.digit = none) (hu : g ≠ .us) (hb : g.blank = false) {got : List Int} (hc : g ≠ .dot ∧ g ≠ .fin ∧ (got.length = 1 → g ≠ .eq)) {st tu wo : Int} (hs : st ≠ 0) : (⟨got, st, tu, wo⟩ : RS).step g = none := by
  obtain ⟨h1, h2, h3⟩ := hc
  cases g <;> first | (simp [Mk.digit] at hd; done) | exact absurd rfl hu | (simp [Mk.blank] at hb; done) | exact absurd rfl h1 | exact absurd rfl h2 | (simp only [RS.step]; rw [if_neg hs]; done) | (simp only [RS.step]; rw [if_neg (fun z => h3 z rfl)]; done) | rfl
theorem run_none {σ : RS} {g : Mk} {D : List Mk} (h : σ.step g = none) : σ.run (g :: D) = none := by simp only [RS.run, h]
theorem run_on {σ σ' : RS} {g : Mk} {D : List Mk} (h : σ.step g = some σ') : σ.run (g :: D) = σ'.run D := by simp only [RS.run, h]
theorem gap_step {g : Mk} (h : g.blank = true) (σ : RS) : σ.step g = σ.gap := by cases g <;> first | rfl | (simp [Mk.blank] at h; done)
abbrev cds (D : List Mk) : List Nat := D.map Mk.code
/-- blanks behind a number -/
theorem tail4 : ∀ (D : List Mk) (got : List Int) (tu wo : Int), Chunk got D → endv ((⟨got, 4, tu, wo⟩ : RS).run D) = if rs (cds D) = [] then some (got, tu * wo) else none
  | [], got, tu, wo, _ => by
    show (if (4 : Int) = 2 ∨ (4 : Int) = 4 then some (got, tu * wo) else none) = _
    rw [if_pos (.inr rfl)]; rfl
  | g :: D, got, tu, wo, h => by
    show _ = if rs (g.code :: cds D) = [] then _ else _
    rw [rs_cons, code_blank]
    cases hb : g.blank with
    | true =>
      rw [run_on (σ' := ⟨got, 4, tu, wo⟩) (by rw [gap_step hb]; simp [RS.gap]), tail4 D got tu wo h.tail]
      by_cases hr : rs (cds D) = []
      · rw [if_pos hr, if_pos hr]; rfl
      · rw [if_neg hr, if_neg hr, if_neg (by simp)]
    | false =>
      have hz : (if rs (cds D) = [] then (if false = true then [] else [g.code]) else g.code :: rs (cds D)) ≠ [] := by split <;> simp
      rw [if_neg hz]
      have hn : (⟨got, 4, tu, wo⟩ : RS).step g = none := by
        cases hd : g.digit with
        | some d => rw [digit_run hd]; simp [RS.dig]
        | none =>
          by_cases hu : g = .us
          · subst hu; simp [RS.step]
          · exact other_run hd hu hb h.head (by decide)
      rw [run_none hn]; rfl
theorem end_only {g : Mk} {D : List Mk} {p : Array Nat × Bool} (hb : g.blank = true) : fin? ((rs (cds (g :: D))).foldlM (step 10) p) = if rs (cds D) = [] then (if p.2 then some p.1 else none) else none := by
  show fin? ((rs (g.code :: cds D)).foldlM (step 10) p) = _
  rw [rs_cons, code_blank, hb]
  by_cases hr : rs (cds D) = []
  · rw [if_pos hr, if_pos hr]; rfl
  · rw [if_neg hr, if_neg hr]
    exact fold_bad (step_blank (by rw [code_blank]; exact hb))
theorem end_on {g : Mk} {D : List Mk} (hb : g.blank = false) : rs (cds (g :: D)) = g.code :: rs (cds D) := by
  show rs (g.code :: cds D) = _
  rw [rs_cons, code_blank, hb]
  by_cases hr : rs (cds D) = []
  · rw [if_pos hr, hr]; rfl
  · rw [if_neg hr]
/-- behind a figure (b) or an underscore: the machine goes on as the numeral's fold -/
theorem mid : ∀ (D : List Mk) (got : List Int) (tu : Int) (ds : Array Nat) (b : Bool), Chunk got D →
    endv ((⟨got, if b then 2 else 3, tu, (valOf ds : Nat)⟩ : RS).run D) = (fin? ((rs (cds D)).foldlM (step 10) (ds, b))).map fun r => (got, tu * (valOf r : Nat))
  | [], got, tu, ds, b, _ => by
    cases b
    · show (if (3 : Int) = 2 ∨ (3 : Int) = 4 then some (got, tu * ((valOf ds : Nat) : Int)) else none) = _
      rw [if_neg (by decide)]; rfl
    · show (if (2 : Int) = 2 ∨ (2 : Int) = 4 then some (got, tu * ((valOf ds : Nat) : Int)) else none) = _
      rw [if_pos (.inl rfl)]; rfl
  | g :: D, got, tu, ds, b, h => by
    cases hb : g.blank with
    | true =>
      rw [end_only hb]
      cases b
      · rw [run_none (by rw [gap_step hb]; simp [RS.gap])]
        by_cases hr : rs (cds D) = []
        · rw [if_pos hr]; rfl
        · rw [if_neg hr]; rfl
      · rw [run_on (σ' := ⟨got, 4, tu, (valOf ds : Nat)⟩) (by rw [gap_step hb]; simp [RS.gap]), tail4 D got tu _ h.tail]
        by_cases hr : rs (cds D) = []
        · rw [if_pos hr, if_pos hr]; rfl
        · rw [if_neg hr, if_neg hr]; rfl
    | false =>
      rw [end_on hb]
      cases hd : g.digit with
      | some d =>
        rw [fold_on (digit_step hd _)]
        have e : (⟨got, if b then 2 else 3, tu, (valOf ds : Nat)⟩ : RS).step g = some ⟨got, 2, tu, (valOf (ds.push d) : Nat)⟩ := by
          rw [digit_run hd, valOf_push]
          cases b <;> simp [RS.dig] <;> omega
        rw [run_on e]
        exact mid D got tu (ds.push d) true h.tail
      | none =>
        by_cases hu : g = .us
        · subst hu
          cases b
          · rw [run_none (by simp [RS.step]), fold_bad (by rfl)]; rfl
          · rw [run_on (σ' := ⟨got, 3, tu, (valOf ds : Nat)⟩) (by simp [RS.step]), fold_on (q := (ds, false)) (by rfl)]
            exact mid D got tu ds false h.tail
        · rw [run_none (other_run hd hu hb h.head (by cases b <;> decide)), fold_bad (other_bad hd hu hb _)]; rfl
/-- behind a number's own sign, or where none stands -/
theorem start0 (D : List Mk) (got : List Int) (st tu : Int) (h : Chunk got D) (hs : st = 1 ∨ (st = 0 ∧ ∀ g r, D = g :: r → g.blank = false ∧ g ≠ .plus ∧ g ≠ .minus)) :
    endv ((⟨got, st, tu, 0⟩ : RS).run D) = (digits? 10 (rs (cds D))).map fun r => (got, tu * (valOf r : Nat)) := by
  rw [digits_fin]
  cases D with
  | nil =>
    show (if st = 2 ∨ st = 4 then some (got, tu * 0) else none) = _
    rw [if_neg (by rcases hs with rfl | ⟨rfl, _⟩ <;> decide)]; rfl
  | cons g D =>
    cases hb : g.blank with
    | true =>
      rw [end_only hb]
      rcases hs with rfl | ⟨rfl, hs⟩
      · rw [run_none (by rw [gap_step hb]; simp [RS.gap])]
        by_cases hr : rs (cds D) = []
        · rw [if_pos hr]; rfl
        · rw [if_neg hr]; rfl
      · have := (hs g D rfl).1; rw [hb] at this; cases this
    | false =>
      rw [end_on hb]
      cases hd : g.digit with
      | some d =>
        rw [fold_on (digit_step hd _)]
        have e : (⟨got, st, tu, 0⟩ : RS).step g = some ⟨got, 2, tu, (valOf ((#[] : Array Nat).push d) : Nat)⟩ := by
          rw [digit_run hd, valOf_push]
          have z : valOf #[] = 0 := rfl
          rw [z]
          rcases hs with rfl | ⟨rfl, _⟩ <;> simp [RS.dig]
        rw [run_on e]
        exact mid D got tu _ true h.tail
      | none =>
        by_cases hu : g = .us
        · subst hu
          rw [run_none (by rcases hs with rfl | ⟨rfl, _⟩ <;> simp [RS.step]), fold_bad (by rfl)]; rfl
        · rw [fold_bad (other_bad hd hu hb _)]
          have hn : (⟨got, st, tu, 0⟩ : RS).step g = none := by
            rcases hs with rfl | ⟨rfl, hs⟩
            · exact other_run hd hu hb h.head (by decide)
            · obtain ⟨h1, h2, h3⟩ := h.head
              obtain ⟨_, k2, k3⟩ := hs g D rfl
              cases g <;> first | (simp [Mk.digit] at hd; done) | exact absurd rfl hu | (simp [Mk.blank] at hb; done) | exact absurd rfl h1 | exact absurd rfl h2 | exact absurd rfl k2 | exact absurd rfl k3 | (simp only [RS.step]; rw [if_neg (fun z => h3 z rfl)]; done) | rfl
          rw [run_none hn]; rfl
theorem core_eq (l : List Nat) : core l = rs (sign (l.dropWhile NumText.blank)).2 := rfl
/-- a chunk read by the machine is its int -/
theorem chunk_run : ∀ (D : List Mk) (got : List Int), Chunk got D → endv ((⟨got, 0, 1, 0⟩ : RS).run D) = (intL (cds D)).map fun n => (got, n)
  | [], _, _ => rfl
  | g :: D, got, h => by
    cases hb : g.blank with
    | true =>
      rw [run_on (σ' := ⟨got, 0, 1, 0⟩) (by rw [gap_step hb]; simp [RS.gap]), chunk_run D got h.tail]
      have e : intL (cds (g :: D)) = intL (cds D) := by
        unfold intL
        rw [core_eq, core_eq]
        show (match digits? 10 (rs (sign ((g.code :: cds D).dropWhile NumText.blank)).2) with | some ds => some (worth (sign ((g.code :: cds D).dropWhile NumText.blank)).1 ds) | none => none) = _
        rw [List.dropWhile_cons, if_pos (by rw [code_blank]; exact hb)]
      rw [e]
    | false =>
      have e0 : (cds (g :: D)).dropWhile NumText.blank = g.code :: cds D := by
        show (g.code :: cds D).dropWhile NumText.blank = _
        rw [List.dropWhile_cons, if_neg (by rw [code_blank, hb]; exact Bool.false_ne_true)]
      unfold intL
      rw [core_eq, e0]
      by_cases hm : g = .minus
      · subst hm
        rw [run_on (σ' := ⟨got, 1, -1, 0⟩) (by simp [RS.step]), start0 D got 1 (-1) h.tail (.inl rfl)]
        show _ = Option.map _ (match digits? 10 (rs (cds D)) with | some ds => some (worth true ds) | none => none)
        cases digits? 10 (rs (cds D)) with
        | none => rfl
        | some ds =>
          show some (got, -1 * ((valOf ds : Nat) : Int)) = some (got, -((valOf ds : Nat) : Int))
          rw [Int.neg_one_mul]
      · by_cases hp : g = .plus
        · subst hp
          rw [run_on (σ' := ⟨got, 1, 1, 0⟩) (by simp [RS.step]), start0 D got 1 1 h.tail (.inl rfl)]
          show _ = Option.map _ (match digits? 10 (rs (cds D)) with | some ds => some (worth false ds) | none => none)
          cases digits? 10 (rs (cds D)) with
          | none => rfl
          | some ds =>
            show some (got, 1 * ((valOf ds : Nat) : Int)) = some (got, ((valOf ds : Nat) : Int))
            rw [Int.one_mul]
        · have es : sign (g.code :: cds D) = (false, g.code :: cds D) := sign_of (by cases g <;> first | exact absurd rfl hm | decide) (by cases g <;> first | exact absurd rfl hp | decide)
          rw [es, start0 (g :: D) got 0 1 h (.inr ⟨rfl, fun x r e => by cases e; exact ⟨hb, hp, hm⟩⟩)]
          show Option.map _ (digits? 10 (rs (cds (g :: D)))) = Option.map _ (match digits? 10 (rs (cds (g :: D))) with | some ds => some (worth false ds) | none => none)
          cases digits? 10 (rs (cds (g :: D))) with
          | none => rfl
          | some ds =>
            show some (got, 1 * ((valOf ds : Nat) : Int)) = some (got, ((valOf ds : Nat) : Int))
            rw [Int.one_mul]
end
section
open PySem.NumText
/-- a list of marks cut at the full stops -/
def splitM : List Mk → List (List Mk)
  | [] => [[]]
  | g :: gs => match g with
    | .dot => [] :: splitM gs
    | g => match splitM gs with
      | h :: t => (g :: h) :: t
      | [] => [[g]]
theorem splitM_dot (gs : List Mk) : splitM (.dot :: gs) = [] :: splitM gs := rfl
theorem splitM_ne : ∀ gs : List Mk, ∃ h t, splitM gs = h :: t
  | [] => ⟨_, _, rfl⟩
  | g :: gs => by
    obtain ⟨h, t, e⟩ := splitM_ne gs
    cases g <;> first | exact ⟨_, _, rfl⟩ | exact ⟨_, _, by simp only [splitM, e]; rfl⟩
theorem splitM_cons {g : Mk} (hg : g ≠ .dot) {gs h : List Mk} {t : List (List Mk)} (e : splitM gs = h :: t) : splitM (g :: gs) = (g :: h) :: t := by
  cases g <;> first | exact absurd rfl hg | simp only [splitM, e]
theorem splitM_free : ∀ {D : List Mk}, (∀ g ∈ D, g ≠ .dot) → splitM D = [D]
  | [], _ => rfl
  | g :: D, h => by
    rw [splitM_cons (h g (List.mem_cons_self ..)) (splitM_free fun x hx => h x (List.mem_cons_of_mem _ hx))]
theorem splitM_at : ∀ {D : List Mk} (R : List Mk), (∀ g ∈ D, g ≠ .dot) → splitM (D ++ .dot :: R) = D :: splitM R
  | [], _, _ => rfl
  | g :: D, R, h => by
    have e := splitM_at R fun x hx => h x (List.mem_cons_of_mem _ hx)
    show splitM (g :: (D ++ .dot :: R)) = _
    rw [splitM_cons (h g (List.mem_cons_self ..)) e]
/-- a list of marks with its first full stop, or none -/
theorem dot_cases (A : List Mk) : (∀ g ∈ A, g ≠ .dot) ∨ ∃ D R, A = D ++ .dot :: R ∧ ∀ g ∈ D, g ≠ .dot := by
  induction A with
  | nil => exact .inl fun _ h => nomatch h
  | cons g A ih =>
    by_cases hg : g = .dot
    · exact .inr ⟨[], A, by rw [hg]; rfl, fun _ h => nomatch h⟩
    · rcases ih with h | ⟨D, R, e, h⟩
      · exact .inl fun x hx => by rcases List.mem_cons.mp hx with rfl | hx; exact hg; exact h x hx
      · exact .inr ⟨g :: D, R, by rw [e]; rfl, fun x hx => by rcases List.mem_cons.mp hx with rfl | hx; exact hg; exact h x hx⟩
def intD (D : List Mk) : Option Int := intL (cds D)
/-- the pair that a half is read as -/
def pairM (gs : List Mk) : Option (Int × Int) :=
  match splitM gs with
  | [a, b] => match intD a, intD b with
    | some x, some y => some (x, y)
    | _, _ => none
  | _ => none
theorem pairM_one {D : List Mk} (h : ∀ g ∈ D, g ≠ .dot) : pairM D = none := by unfold pairM; rw [splitM_free h]
theorem pairM_two {D E : List Mk} (h : ∀ g ∈ D, g ≠ .dot) (k : ∀ g ∈ E, g ≠ .dot) : pairM (D ++ .dot :: E) = match intD D, intD E with
    | some x, some y => some (x, y)
    | _, _ => none := by unfold pairM; rw [splitM_at E h, splitM_free k]
theorem pairM_more {D E R : List Mk} (h : ∀ g ∈ D, g ≠ .dot) (k : ∀ g ∈ E, g ≠ .dot) : pairM (D ++ .dot :: (E ++ .dot :: R)) = none := by
  unfold pairM; rw [splitM_at _ h, splitM_at R k]
  obtain ⟨x, t, e⟩ := splitM_ne R
  rw [e]
/-- the machine over a chunk with its end behind it -/
theorem run_app (σ : RS) (gs hs : List Mk) : σ.run (gs ++ hs) = match σ.run gs with | some σ' => σ'.run hs | none => none := RS.run_append gs σ hs
theorem chunk_push {D : List Mk} {got : List Int} (h : Chunk got D) {s : Mk} (hs : ∀ σ : RS, σ.got = got → σ.step s = σ.push) (R : List Mk) :
    (⟨got, 0, 1, 0⟩ : RS).run (D ++ s :: R) = match intD D with | some n => (⟨got ++ [n], 0, 1, 0⟩ : RS).run R | none => none := by
  have c := chunk_run D got h
  rw [run_app]
  unfold intD
  cases e : (⟨got, 0, 1, 0⟩ : RS).run D with
  | none =>
    rw [e] at c
    cases q : intL (cds D) with
    | none => rfl
    | some n => rw [q] at c; cases c
  | some σ =>
    rw [e] at c
    unfold endv at c
    dsimp only at c ⊢
    have hg : σ.got = got := by
      clear c
      have keep : ∀ (D : List Mk) (σ τ : RS), Chunk got D → σ.got = got → σ.run D = some τ → τ.got = got := by
        intro D
        induction D with
        | nil => intro σ τ _ k q; cases q; exact k
        | cons g D ih =>
          intro σ τ hc k q
          simp only [RS.run] at q
          cases w : σ.step g with
          | none => rw [w] at q; cases q
          | some ρ =>
            rw [w] at q
            refine ih ρ τ hc.tail ?_ q
            obtain ⟨h1, h2, h3⟩ := hc.head
            cases g <;> simp only [RS.step, RS.dig, RS.gap] at w <;> first | exact absurd rfl h1 | exact absurd rfl h2 | (rw [if_neg (fun z => h3 (by rw [← k]; exact z) rfl)] at w; cases w; done) | (split at w <;> cases w <;> exact k) | (cases w; done)
      exact keep D _ _ h rfl e
    by_cases hst : σ.state = 2 ∨ σ.state = 4
    · rw [if_pos hst] at c
      cases q : intL (cds D) with
      | none => rw [q] at c; cases c
      | some n =>
        rw [q] at c
        have c' := Option.some.inj c
        have e1 : σ.turn * σ.worth = n := (Prod.mk.inj c').2
        dsimp only
        rw [run_on (σ' := ⟨got ++ [n], 0, 1, 0⟩) (by rw [hs σ hg]; unfold RS.push; rw [if_pos hst, hg, e1])]
    · rw [if_neg hst] at c
      cases q : intL (cds D) with
      | none =>
        dsimp only
        rw [run_none (by rw [hs σ hg]; unfold RS.push; rw [if_neg hst])]
      | some n => rw [q] at c; cases c
theorem chunk_stop {D : List Mk} {got : List Int} (h : Chunk got D) {s : Mk} (hs : ∀ σ : RS, σ.got = got → σ.step s = none) (R : List Mk) : (⟨got, 0, 1, 0⟩ : RS).run (D ++ s :: R) = none := by
  rw [run_app]
  cases e : (⟨got, 0, 1, 0⟩ : RS).run D with
  | none => rfl
  | some σ =>
    dsimp only
    have hg : σ.got = got := by
      have keep : ∀ (D : List Mk) (σ τ : RS), Chunk got D → σ.got = got → σ.run D = some τ → τ.got = got := by
        intro D
        induction D with
        | nil => intro σ τ _ k q; cases q; exact k
        | cons g D ih =>
          intro σ τ hc k q
          simp only [RS.run] at q
          cases w : σ.step g with
          | none => rw [w] at q; cases q
          | some ρ =>
            rw [w] at q
            refine ih ρ τ hc.tail ?_ q
            obtain ⟨h1, h2, h3⟩ := hc.head
            cases g <;> simp only [RS.step, RS.dig, RS.gap] at w <;> first | exact absurd rfl h1 | exact absurd rfl h2 | (rw [if_neg (fun z => h3 (by rw [← k]; exact z) rfl)] at w; cases w; done) | (split at w <;> cases w <;> exact k) | (cases w; done)
      exact keep D _ _ h rfl e
    rw [run_none (hs σ hg)]
theorem step_dot {σ : RS} {got : List Int} (e : σ.got = got) (h : got.length = 0 ∨ got.length = 2) : σ.step .dot = σ.push := by
  simp only [RS.step]; rw [if_pos (by rw [e]; exact h)]
theorem step_dotn {σ : RS} {got : List Int} (e : σ.got = got) (h : ¬ (got.length = 0 ∨ got.length = 2)) : σ.step .dot = none := by
  simp only [RS.step]; rw [if_neg (by rw [e]; exact h)]
theorem step_eq {σ : RS} {got : List Int} (e : σ.got = got) (h : got.length = 1) : σ.step .eq = σ.push := by
  simp only [RS.step]; rw [if_pos (by rw [e]; exact h)]
theorem step_eqn {σ : RS} {got : List Int} (e : σ.got = got) (h : got.length ≠ 1) : σ.step .eq = none := by
  simp only [RS.step]; rw [if_neg (by rw [e]; exact h)]
theorem step_fn {σ : RS} {got : List Int} (e : σ.got = got) (h : got.length = 3) : σ.step .fin = σ.push := by
  simp only [RS.step]; rw [if_pos (by rw [e]; exact h)]
theorem step_fnn {σ : RS} {got : List Int} (e : σ.got = got) (h : got.length ≠ 3) : σ.step .fin = none := by
  simp only [RS.step]; rw [if_neg (by rw [e]; exact h)]
/-- the first half -/
theorem half_one {A : List Mk} (he : ∀ g ∈ A, g ≠ .eq) (hf : ∀ g ∈ A, g ≠ .fin) (R : List Mk) :
    RS.start.run (A ++ .eq :: R) = match pairM A with | some (a, b) => (⟨[a, b], 0, 1, 0⟩ : RS).run R | none => none := by
  show (⟨[], 0, 1, 0⟩ : RS).run _ = _
  rcases dot_cases A with h | ⟨D, A', rfl, h⟩
  · rw [pairM_one h, chunk_stop (fun g hg => ⟨h g hg, hf g hg, fun z => by cases z⟩) (fun σ k => step_eqn k (by decide))]
  · have cD : Chunk [] D := fun g hg => ⟨h g hg, hf g (List.mem_append_left _ hg), fun z => by cases z⟩
    rw [List.append_assoc, List.cons_append, chunk_push cD (fun σ k => step_dot k (.inl rfl))]
    have he' : ∀ g ∈ A', g ≠ .eq := fun g hg => he g (List.mem_append_right _ (List.mem_cons_of_mem _ hg))
    have hf' : ∀ g ∈ A', g ≠ .fin := fun g hg => hf g (List.mem_append_right _ (List.mem_cons_of_mem _ hg))
    rcases dot_cases A' with h' | ⟨E, R', rfl, h'⟩
    · rw [pairM_two h h']
      cases q : intD D with
      | none => rfl
      | some n =>
        dsimp only [List.nil_append]
        rw [chunk_push (fun g hg => ⟨h' g hg, hf' g hg, fun _ => he' g hg⟩) (fun σ k => step_eq k rfl)]
        cases intD A' with
        | none => rfl
        | some m => rfl
    · rw [pairM_more h h']
      cases q : intD D with
      | none => rfl
      | some n =>
        dsimp only [List.nil_append]
        rw [List.append_assoc, List.cons_append]
        exact chunk_stop (fun g hg => ⟨h' g hg, hf' g (List.mem_append_left _ hg), fun _ => he' g (List.mem_append_left _ hg)⟩) (fun σ k => step_dotn k (by simp)) _
/-- the second half -/
theorem half_two {B : List Mk} (hf : ∀ g ∈ B, g ≠ .fin) (a b : Int) :
    (⟨[a, b], 0, 1, 0⟩ : RS).run (B ++ [.fin]) = match pairM B with | some (c, d) => some ⟨[a, b, c, d], 0, 1, 0⟩ | none => none := by
  rcases dot_cases B with h | ⟨D, B', rfl, h⟩
  · rw [pairM_one h]
    exact chunk_stop (fun g hg => ⟨h g hg, hf g hg, fun z => by cases z⟩) (fun σ k => step_fnn k (by simp)) _
  · have cD : Chunk [a, b] D := fun g hg => ⟨h g hg, hf g (List.mem_append_left _ hg), fun z => by cases z⟩
    rw [List.append_assoc, List.cons_append, chunk_push cD (fun σ k => step_dot k (.inr rfl))]
    have hf' : ∀ g ∈ B', g ≠ .fin := fun g hg => hf g (List.mem_append_right _ (List.mem_cons_of_mem _ hg))
    rcases dot_cases B' with h' | ⟨E, R', rfl, h'⟩
    · rw [pairM_two h h']
      cases q : intD D with
      | none => rfl
      | some n =>
        dsimp only [List.cons_append, List.nil_append]
        rw [chunk_push (fun g hg => ⟨h' g hg, hf' g hg, fun z => by cases z⟩) (fun σ k => step_fn k rfl)]
        cases intD B' with
        | none => rfl
        | some m => rfl
    · rw [pairM_more h h']
      cases q : intD D with
      | none => rfl
      | some n =>
        dsimp only [List.cons_append, List.nil_append]
        rw [List.append_assoc, List.cons_append]
        exact chunk_stop (fun g hg => ⟨h' g hg, hf' g (List.mem_append_left _ hg), fun z => by cases z⟩) (fun σ k => step_dotn k (by simp)) _
theorem whole_run {A B : List Mk} (he : ∀ g ∈ A, g ≠ .eq) (hf : ∀ g ∈ A, g ≠ .fin) (hg : ∀ g ∈ B, g ≠ .fin) :
    RS.start.run ((A ++ .eq :: B) ++ [.fin]) = match pairM A, pairM B with | some (a, b), some (c, d) => some ⟨[a, b, c, d], 0, 1, 0⟩ | _, _ => none := by
  rw [List.append_assoc, List.cons_append, half_one he hf]
  cases pairM A with
  | none => rfl
  | some p =>
    obtain ⟨a, b⟩ := p
    dsimp only
    rw [half_two hg]
    cases pairM B with
    | none => rfl
    | some p => rfl
/-- blanks at the ends of a half change nothing -/
def stripM (gs : List Mk) : List Mk := ((gs.dropWhile Mk.blank).reverse.dropWhile Mk.blank).reverse
theorem blank_dot {g : Mk} (h : g.blank = true) : g ≠ .dot := by rintro rfl; cases h
theorem intD_front {g : Mk} (h : g.blank = true) (D : List Mk) : intD (g :: D) = intD D := by
  unfold intD intL
  have e : (cds (g :: D)).dropWhile NumText.blank = (cds D).dropWhile NumText.blank := by
    show (g.code :: cds D).dropWhile NumText.blank = _
    rw [List.dropWhile_cons, if_pos (by rw [code_blank]; exact h)]
  rw [core_eq, core_eq, e]
theorem rs_snoc {c : Nat} (h : NumText.blank c = true) (l : List Nat) : rs (l ++ [c]) = rs l := by
  unfold rs
  rw [List.reverse_append]
  show ((c :: l.reverse).dropWhile NumText.blank).reverse = _
  rw [List.dropWhile_cons, if_pos h]
theorem intD_back {g : Mk} (h : g.blank = true) (D : List Mk) : intD (D ++ [g]) = intD D := by
  unfold intD intL
  have hc : NumText.blank g.code = true := by rw [code_blank]; exact h
  have e : cds (D ++ [g]) = cds D ++ [g.code] := by show List.map _ _ = _; rw [List.map_append]; rfl
  rw [core_eq, core_eq, e, List.dropWhile_append]
  cases q : (cds D).dropWhile NumText.blank with
  | nil =>
    simp only [List.isEmpty_nil, if_true]
    rw [List.dropWhile_cons, if_pos hc]; rfl
  | cons c r =>
    simp only [List.isEmpty_cons, Bool.false_eq_true, if_false]
    have s : sign ((c :: r) ++ [g.code]) = ((sign (c :: r)).1, (sign (c :: r)).2 ++ [g.code]) := by
      show sign (c :: (r ++ [g.code])) = _
      by_cases h1 : c = 45
      · subst h1; rfl
      · by_cases h2 : c = 43
        · subst h2; rfl
        · rw [sign_of h1 h2, sign_of h1 h2]; rfl
    rw [s]
    dsimp only
    rw [rs_snoc hc]
theorem pairM_front {g : Mk} (h : g.blank = true) (A : List Mk) : pairM (g :: A) = pairM A := by
  obtain ⟨x, t, e⟩ := splitM_ne A
  unfold pairM
  rw [splitM_cons (blank_dot h) e, e]
  match t with
  | [] => rfl
  | [y] => dsimp only; rw [intD_front h]
  | _ :: _ :: _ => rfl
theorem splitM_snoc {g : Mk} (h : g ≠ .dot) : ∀ A : List Mk, ∃ i l, splitM A = i ++ [l] ∧ splitM (A ++ [g]) = i ++ [l ++ [g]]
  | [] => ⟨[], [], rfl, splitM_free fun x hx => by rw [List.mem_singleton.mp hx]; exact h⟩
  | x :: A => by
    obtain ⟨i, l, e1, e2⟩ := splitM_snoc h A
    by_cases hx : x = .dot
    · subst hx
      exact ⟨[] :: i, l, by rw [splitM_dot, e1]; rfl, by show splitM (.dot :: (A ++ [g])) = _; rw [splitM_dot, e2]; rfl⟩
    · cases i with
      | nil => exact ⟨[], x :: l, by rw [splitM_cons hx e1]; rfl, by show splitM (x :: (A ++ [g])) = _; rw [splitM_cons hx e2]; rfl⟩
      | cons a i => exact ⟨(x :: a) :: i, l, by rw [splitM_cons hx e1]; rfl, by show splitM (x :: (A ++ [g])) = _; rw [splitM_cons hx e2]; rfl⟩
theorem pairM_back {g : Mk} (h : g.blank = true) (A : List Mk) : pairM (A ++ [g]) = pairM A := by
  obtain ⟨i, l, e1, e2⟩ := splitM_snoc (blank_dot h) A
  unfold pairM
  rw [e1, e2]
  match i with
  | [] => rfl
  | [y] => show (match intD y, intD (l ++ [g]) with | some x, some y => some (x, y) | _, _ => none) = _; rw [intD_back h]; rfl
  | [_, _] => rfl
  | _ :: _ :: _ :: _ => rfl
theorem pairM_drop : ∀ A : List Mk, pairM (A.dropWhile Mk.blank) = pairM A
  | [] => rfl
  | g :: A => by
    rw [List.dropWhile_cons]
    split
    · rename_i h; rw [pairM_drop A, pairM_front h]
    · rfl
theorem pairM_rdrop : ∀ A : List Mk, pairM ((A.dropWhile Mk.blank).reverse) = pairM A.reverse
  | [] => rfl
  | g :: A => by
    rw [List.dropWhile_cons]
    split
    · rename_i h; rw [pairM_rdrop A, List.reverse_cons, pairM_back h]
    · rfl
theorem pairM_strip (A : List Mk) : pairM (stripM A) = pairM A := by
  unfold stripM
  rw [pairM_rdrop, List.reverse_reverse, pairM_drop]
end
section
open PySem.NumText PySem.StrLaws PySem.Builtin.Str
/-- the text's signs by number -/
theorem codes_are {x : Str} {gs : List Mk} (h : MarkText x gs) : x.cps.toList = cds gs := by
  have e := h.s
  unfold signs at e
  have hf := h.f
  clear h
  generalize x.cps.toList = l at e
  induction l generalizing gs with
  | nil => cases gs with
    | nil => rfl
    | cons g gs => cases e
  | cons c l ih =>
    cases gs with
    | nil => cases e
    | cons g gs =>
      rw [List.map_cons, List.map_cons] at e
      obtain ⟨e1, e2⟩ := List.cons.inj e
      have hg := hf g (List.mem_cons_self ..)
      have hc : c = g.code := by
        have t : g.text = ⟨#[g.code]⟩ := by cases g <;> first | exact absurd rfl hg | decide +kernel
        rw [t] at e1
        have q := congrArg PySem.Str.cps e1
        simpa using q
      rw [hc, ih (fun x hx => hf x (List.mem_cons_of_mem _ hx)) e2]; rfl
theorem mark_of {x : Str} {gs : List Mk} (e : x.cps.toList = cds gs) (hf : ∀ g ∈ gs, g ≠ .fin) : MarkText x gs := by
  refine ⟨?_, hf⟩
  unfold signs
  rw [e]
  show List.map _ (List.map _ _) = _
  rw [List.map_map]
  refine List.map_congr_left fun g hg => ?_
  have h := hf g hg
  show (⟨#[g.code]⟩ : Str) = g.text
  cases g <;> first | exact absurd rfl h | decide +kernel
theorem text_ext {x y : Str} {gs : List Mk} (h : MarkText x gs) (k : MarkText y gs) : x = y := by
  apply PySem.Str.ext'
  exact Array.toList_inj.mp ((codes_are h).trans (codes_are k).symm)
theorem code_small (g : Mk) (h : g ≠ .fin) : 1 ≤ g.code ∧ g.code < 128 := by cases g <;> first | exact absurd rfl h | decide
def unMk (n : Nat) : Mk := ([.d0, .d1, .d2, .d3, .d4, .d5, .d6, .d7, .d8, .d9, .us, .sp, .minus, .plus, .dot, .eq, .tab, .e].find? fun g => g.code == n).getD .fin
theorem unMk_code (g : Mk) : unMk g.code = g := by cases g <;> rfl
theorem code_inj {g h : Mk} (e : g.code = h.code) : g = h := by rw [← unMk_code g, e, unMk_code]
theorem space_blank (g : Mk) (h : g ≠ .fin) : Unicode.isSpace g.code = g.blank := by cases g <;> first | exact absurd rfl h | decide +kernel
/-- a piece of a text -/
theorem mark_sub {x : Str} {gs : List Mk} (h : MarkText x gs) (i j : Nat) : MarkText (strSub x i j) ((gs.drop i).take (j - i)) :=
  mark_of (by rw [strSub_toList, codes_are h]; simp [List.map_drop, List.map_take]) fun g hg => h.f g (List.mem_of_mem_drop (List.mem_of_mem_take hg))
theorem slice_mid {x : Str} {gs : List Mk} (h : MarkText x gs) {i j : Int} (h0 : 0 ≤ i) (h1 : i ≤ j) (h2 : j ≤ (x.length : Int)) : MarkText (Txt.slice x (some i) (some j)) ((gs.drop i.toNat).take (j - i).toNat) := by
  have hl : x.cps.toList.length = x.length := Array.length_toList
  have e : Txt.slice x (some i) (some j) = _ := sliceText_plain (x := x) ⟨h0, h1, by rw [hl]; exact h2⟩
  rw [e]
  exact mark_of (by rw [codes_are h]; simp [List.map_drop, List.map_take]) fun g hg => h.f g (List.mem_of_mem_drop (List.mem_of_mem_take hg))
theorem slice_to {x : Str} {gs : List Mk} (h : MarkText x gs) {j : Int} (h1 : 0 ≤ j) (h2 : j ≤ (x.length : Int)) : MarkText (Txt.slice x none (some j)) (gs.take j.toNat) := by
  have hl : x.cps.toList.length = x.length := Array.length_toList
  have e : Txt.slice x none (some j) = _ := sliceText_to (x := x) ⟨h1, by rw [hl]; exact h2⟩
  rw [e]
  exact mark_of (by rw [codes_are h]; simp [List.map_take]) fun g hg => h.f g (List.mem_of_mem_take hg)
theorem slice_from {x : Str} {gs : List Mk} (h : MarkText x gs) {i : Int} (h1 : 0 ≤ i) (h2 : i ≤ (x.length : Int)) : MarkText (Txt.slice x (some i) none) (gs.drop i.toNat) := by
  have hl : x.cps.toList.length = x.length := Array.length_toList
  have e : Txt.slice x (some i) none = _ := sliceText_from (x := x) ⟨h1, by rw [hl]; exact h2⟩
  rw [e]
  refine mark_of ?_ fun g hg => h.f g (List.mem_of_mem_drop hg)
  have hg : gs.length = x.length := h.len.symm
  rw [hl]
  rw [codes_are h]
  have z : ((cds gs).drop i.toNat).take ((x.length : Int) - i).toNat = (cds gs).drop i.toNat := List.take_of_length_le (by simp; omega)
  rw [List.toList_toArray, z]
  simp [List.map_drop]
/-- a list's ends shed, by the places where they end -/
theorem dropWhile_at {α : Type} (p : α → Bool) : ∀ (l : List α) (f : Nat), f ≤ l.length → (∀ j (hj : j < l.length), j < f → p l[j] = true) → (∀ hf : f < l.length, p l[f] = false) → l.dropWhile p = l.drop f
  | [], f, h0, _, _ => by simp
  | a :: l, 0, _, _, h2 => by
    have q : p a = false := h2 (Nat.zero_lt_succ _)
    rw [List.dropWhile_cons, if_neg (by rw [q]; exact Bool.false_ne_true)]; rfl
  | a :: l, f + 1, h0, h1, h2 => by
    have ha : p a = true := h1 0 (Nat.zero_lt_succ _) (Nat.zero_lt_succ _)
    rw [List.dropWhile_cons, if_pos ha]
    exact dropWhile_at p l f (Nat.le_of_succ_le_succ h0) (fun j hj hf => h1 (j + 1) (Nat.succ_lt_succ hj) (Nat.succ_lt_succ hf)) (fun hf => h2 (Nat.succ_lt_succ hf))
theorem rdrop_at {α : Type} (p : α → Bool) (M S : List α) (hS : ∀ a ∈ S, p a = true) (hM : ∀ a N, M = N ++ [a] → p a = false) : ((M ++ S).reverse.dropWhile p).reverse = M := by
  rw [List.reverse_append, List.dropWhile_append_of_pos fun a ha => hS a (List.mem_reverse.mp ha)]
  rcases List.eq_nil_or_concat M with rfl | ⟨N, a, rfl⟩
  · rfl
  · rw [List.concat_eq_append]
    have ha := hM a N (by rw [List.concat_eq_append])
    rw [List.reverse_append]
    show ((a :: N.reverse).dropWhile p).reverse = _
    rw [List.dropWhile_cons, if_neg (by rw [ha]; exact Bool.false_ne_true)]
    simp
theorem strip_at {α : Type} (p : α → Bool) (l : List α) (f b : Nat) (hf : f ≤ l.length) (h1 : ∀ j (hj : j < l.length), j < f → p l[j] = true) (h2 : ∀ hf : f < l.length, p l[f] = false) (h3 : f ≤ b) (hb : b ≤ l.length)
    (h4 : ∀ j (hj : j < l.length), b ≤ j → p l[j] = true) (h5 : f < b → ∀ hj : b - 1 < l.length, p l[b - 1] = false) : ((l.dropWhile p).reverse.dropWhile p).reverse = (l.drop f).take (b - f) := by
  rw [dropWhile_at p l f hf h1 h2]
  have e : l.drop f = (l.drop f).take (b - f) ++ (l.drop f).drop (b - f) := (List.take_append_drop _ _).symm
  rw [e]
  rw [← e]
  conv => lhs; rw [e]
  refine rdrop_at p _ _ (fun a ha => ?_) fun a N q => ?_
  · rw [List.drop_drop] at ha
    obtain ⟨j, hj, rfl⟩ := List.mem_iff_getElem.mp ha
    rw [List.getElem_drop]
    exact h4 _ _ (by omega)
  · have hl : ((l.drop f).take (b - f)).length = b - f := by simp; omega
    have hN : N.length + 1 = b - f := by rw [q] at hl; simpa using hl
    have hlt : f < b := by omega
    have ha : a = l[b - 1]'(by omega) := by
      have z : ((l.drop f).take (b - f))[N.length]? = some a := by rw [q]; simp
      rw [List.getElem?_take_of_lt (by omega), List.getElem?_drop] at z
      have : f + N.length = b - 1 := by omega
      rw [this] at z
      exact ((List.getElem?_eq_some_iff.mp z).2).symm
    rw [ha]
    exact h5 hlt _
theorem mark_strip {x : Str} {gs : List Mk} (h : MarkText x gs) : MarkText (Txt.strip x) (stripM gs) := by
  unfold Txt.strip
  rw [PyProof.Rows.stripBy_eq]
  have tw : ∀ hs : List Mk, (∀ g ∈ hs, g ≠ .fin) → ((cds hs).takeWhile Unicode.isSpace).length = (hs.takeWhile Mk.blank).length := by
    intro hs
    induction hs with
    | nil => intro _; rfl
    | cons g hs ih =>
      intro hf
      show ((g.code :: cds hs).takeWhile _).length = _
      rw [List.takeWhile_cons, List.takeWhile_cons, space_blank g (hf g (List.mem_cons_self ..))]
      split
      · simp [ih fun x hx => hf x (List.mem_cons_of_mem _ hx)]
      · rfl
  have dt : ∀ hs : List Mk, hs.dropWhile Mk.blank = hs.drop (hs.takeWhile Mk.blank).length := by
    intro hs
    induction hs with
    | nil => rfl
    | cons g hs ih =>
      rw [List.dropWhile_cons, List.takeWhile_cons]
      split
      · simpa using ih
      · rfl
  have hl : x.length = gs.length := h.len
  have lo : stripLo Unicode.isSpace true x = (gs.takeWhile Mk.blank).length := by
    simp only [stripLo, if_true]
    rw [codes_are h, tw gs h.f]
  have hi : stripHi Unicode.isSpace true x (gs.takeWhile Mk.blank).length = gs.length - ((gs.drop (gs.takeWhile Mk.blank).length).reverse.takeWhile Mk.blank).length := by
    simp only [stripHi, if_true]
    rw [codes_are h, hl]
    have z : ((cds gs).drop (gs.takeWhile Mk.blank).length).reverse = cds (gs.drop (gs.takeWhile Mk.blank).length).reverse := by simp [List.map_drop, List.map_reverse]
    rw [z, tw _ fun g hg => h.f g (List.mem_of_mem_drop (List.mem_reverse.mp hg))]
  rw [lo, hi]
  have e : stripM gs = (gs.drop (gs.takeWhile Mk.blank).length).take (gs.length - ((gs.drop (gs.takeWhile Mk.blank).length).reverse.takeWhile Mk.blank).length - (gs.takeWhile Mk.blank).length) := by
    unfold stripM
    rw [dt gs, dt]
    rw [List.reverse_drop, List.reverse_reverse]
    congr 1
    simp
    omega
  rw [e]
  exact mark_sub h _ _
end
section
open PySem.NumText PySem.StrLaws PySem.Builtin.Str
theorem item_mark {x : Str} {gs : List Mk} (h : MarkText x gs) {k : Nat} (hk : k < gs.length) : Txt.item x (k : Int) = gs[k].text := by
  have e := codes_are h
  have q : x.cps[k]? = some gs[k].code := by
    have z : x.cps.toList[k]? = some gs[k].code := by rw [e]; show (List.map _ _)[k]? = _; rw [List.getElem?_map, List.getElem?_eq_getElem hk]; rfl
    simpa using z
  have w := PyProof.Rows.item_meets (x := x) (i := (k : Int)) (Int.natCast_nonneg _) (by simpa using q)
  rw [w]
  have hf := h.f gs[k] (List.getElem_mem hk)
  generalize gs[k] = g at hf
  cases g <;> first | exact absurd rfl hf | decide +kernel
theorem blank_mark {x : Str} {gs : List Mk} (h : MarkText x gs) {k : Nat} (hk : k < gs.length) : blankAt x (k : Int) = gs[k].blank := by
  unfold blankAt
  rw [item_mark h hk]
  have hf := h.f gs[k] (List.getElem_mem hk)
  generalize gs[k] = g at hf
  cases g <;> first | exact absurd rfl hf | decide +kernel
/-- the two loops of bare find what strip sheds -/
theorem bare_strip {x : Str} {gs : List Mk} (h : MarkText x gs) {f b : Int} (H : BareSpec x f b) : Txt.slice x (some f) (some b) = Txt.strip x := by
  obtain ⟨f0, f1, fall, fend, b1, b0, ball, bend⟩ := H
  have hl : x.length = gs.length := h.len
  have hfb : f ≤ b := by omega
  obtain ⟨f', rfl⟩ := Int.eq_ofNat_of_zero_le f0
  obtain ⟨b', rfl⟩ := Int.eq_ofNat_of_zero_le (Int.le_trans f0 hfb)
  have hf : f' ≤ gs.length := by omega
  have hb : b' ≤ gs.length := by omega
  have hfb' : f' ≤ b' := by omega
  refine text_ext (slice_mid h f0 hfb b1) ?_
  have e : ((gs.drop ((f' : Int)).toNat).take ((b' : Int) - (f' : Int)).toNat) = stripM gs := by
    have z1 : ((f' : Int)).toNat = f' := by omega
    have z2 : ((b' : Int) - (f' : Int)).toNat = b' - f' := by omega
    rw [z1, z2]
    refine (strip_at Mk.blank gs f' b' hf (fun j hj hjf => ?_) (fun hq => ?_) hfb' hb (fun j hj hbj => ?_) fun hlt hq => ?_).symm
    · have q := fall (j : Int) (by omega) (by omega)
      unfold upC at q
      rw [if_pos (by omega), blank_mark h hj] at q
      simpa using q
    · unfold upC at fend
      rw [if_pos (by omega), blank_mark h hq] at fend
      simpa using fend
    · have q := ball ((j : Int) + 1) (by omega) (by omega)
      unfold downC at q
      rw [if_pos (by omega)] at q
      have z : (j : Int) + 1 - 1 = (j : Int) := by omega
      rw [z, blank_mark h hj] at q
      simpa using q
    · unfold downC at bend
      rw [if_pos (by omega)] at bend
      have z : (b' : Int) - 1 = ((b' - 1 : Nat) : Int) := by omega
      rw [z, blank_mark h hq] at bend
      simpa using bend
  rw [e]
  exact mark_strip h
theorem eq_one : Str.ofString "=" = ⟨#[61]⟩ := by decide +kernel
theorem dot_one : Str.ofString "." = ⟨#[46]⟩ := by decide +kernel
/-- where a sign stands -/
theorem at_mark {x : Str} {gs : List Mk} (h : MarkText x gs) (g : Mk) (i : Nat) : At x ⟨#[g.code]⟩ x.length i ↔ gs[i]? = some g := by
  unfold At
  rw [subAt_one, codes_are h]
  show (List.map _ _)[i]? = _ ↔ _
  rw [List.getElem?_map]
  cases gs[i]? with
  | none => simp
  | some k => simp; exact ⟨code_inj, fun e => by rw [e]⟩
theorem not_kind {x : Str} {gs : List Mk} (h : MarkText x gs) {g : Mk} (hg : g ∈ gs) : (decide (x.length < (⟨#[g.code]⟩ : Str).length) || decide (strKind x < strKind ⟨#[g.code]⟩)) = false := by
  have hm : g.code ∈ x.cps.toList := by rw [codes_are h]; exact List.mem_map.mpr ⟨g, hg, rfl⟩
  refine Bool.or_eq_false_iff.mpr ⟨decide_eq_false ?_, decide_eq_false fun q => kind_free x g.code q hm⟩
  have hl : x.length = gs.length := h.len
  have : 0 < gs.length := List.length_pos_of_mem hg
  show ¬ x.length < 1
  omega
theorem splitMax_eq {x : Str} {A B : List Mk} (h : MarkText x (A ++ .eq :: B)) (he : ∀ g ∈ A, g ≠ .eq) : ∃ a b, Txt.splitMax x (Str.ofString "=") 1 = [a, b] ∧ MarkText a A ∧ MarkText b B := by
  rw [eq_one]
  have nk : (decide (x.length < (⟨#[61]⟩ : Str).length) || decide (strKind x < strKind ⟨#[61]⟩)) = false := not_kind h (g := .eq) (List.mem_append_right _ (List.mem_cons_self ..))
  have hl : x.length = A.length + (B.length + 1) := by rw [h.len]; simp
  have here : At x ⟨#[61]⟩ x.length A.length := (at_mark h .eq A.length).mpr (by simp)
  have one : limitOf x 1 = 1 := rfl
  unfold Txt.splitMax
  rw [one]
  rcases occ_head x ⟨#[61]⟩ 1 (Nat.le_refl 1) with ⟨_, hn⟩ | ⟨i, r, e, hi, hmin⟩
  · exact absurd here (hn _)
  · have hr : r = [] := by
      have := occ_length_le x ⟨#[61]⟩ 0 x.length 1
      rw [e] at this
      simpa using this
    subst hr
    have hiA : i = A.length := by
      rcases Nat.lt_trichotomy i A.length with hlt | heq | hgt
      · have q := (at_mark h .eq i).mp hi
        rw [List.getElem?_append_left hlt] at q
        exact absurd rfl (he _ (List.mem_of_getElem? q))
      · exact heq
      · exact absurd here (hmin _ hgt)
    subst hiA
    rw [if_neg (by rw [nk]; exact Bool.false_ne_true), e, if_neg (by simp), partsBetween_eq]
    refine ⟨strSub x 0 A.length, strSub x (A.length + 1) x.length, rfl, ?_, ?_⟩
    · have z := mark_sub h 0 A.length
      have q : ((A ++ Mk.eq :: B).drop 0).take (A.length - 0) = A := by simp
      rwa [q] at z
    · have z := mark_sub h (A.length + 1) x.length
      have q : ((A ++ Mk.eq :: B).drop (A.length + 1)).take (x.length - (A.length + 1)) = B := by
        have d : (A ++ Mk.eq :: B).drop (A.length + 1) = B := by
          rw [List.drop_append]
          simp
        rw [d, List.take_of_length_le (by omega)]
      rwa [q] at z
theorem splitMax_none {x : Str} {gs : List Mk} (h : MarkText x gs) (he : ∀ g ∈ gs, g ≠ .eq) : Txt.splitMax x (Str.ofString "=") 1 = [x] := by
  rw [eq_one]
  have one : limitOf x 1 = 1 := rfl
  unfold Txt.splitMax
  rw [one]
  split
  · rfl
  · rcases occ_head x ⟨#[61]⟩ 1 (Nat.le_refl 1) with ⟨e, _⟩ | ⟨i, r, _, hi, _⟩
    · rw [e]; rfl
    · exact absurd rfl (he _ (List.mem_of_getElem? ((at_mark h .eq i).mp hi)))
abbrev cps (y : Str) : List Nat := y.cps.toList
theorem parts_codes {x : Str} {gs : List Mk} (h : MarkText x gs) : ∀ (cuts : List Nat) (a f : Nat), ChainG x ⟨#[46]⟩ x.length a cuts f → (∀ k, f ≤ k → ¬ At x ⟨#[46]⟩ x.length k) → (partsFrom x (⟨#[46]⟩ : Str).length a cuts).map cps = (splitM (gs.drop a)).map cds
  | [], a, f, hc, hn => by
    have e : f = a := hc
    subst e
    have hfree : ∀ g ∈ gs.drop f, g ≠ .dot := by
      intro g hg q
      subst q
      obtain ⟨j, hj⟩ := List.getElem?_of_mem hg
      rw [List.getElem?_drop] at hj
      exact hn _ (by omega) ((at_mark h .dot (f + j)).mpr hj)
    rw [splitM_free hfree]
    show [cps (strSub x f x.length)] = [cds (gs.drop f)]
    have z := codes_are (mark_sub h f x.length)
    have t : (gs.drop f).take (x.length - f) = gs.drop f := List.take_of_length_le (by rw [List.length_drop, h.len]; exact Nat.le_refl _)
    rw [t] at z
    rw [show cps (strSub x f x.length) = _ from z]
  | d :: r, a, f, hc, hn => by
    obtain ⟨had, hd, hfr, hc'⟩ := hc
    have q := (at_mark h .dot d).mp hd
    have hlt : d < gs.length := (List.getElem?_eq_some_iff.mp q).1
    have hfree : ∀ g ∈ (gs.drop a).take (d - a), g ≠ .dot := by
      intro g hg w
      subst w
      obtain ⟨j, hj⟩ := List.getElem?_of_mem hg
      have hjl : j < d - a := by
        have := (List.getElem?_eq_some_iff.mp hj).1
        simp at this; omega
      rw [List.getElem?_take_of_lt hjl, List.getElem?_drop] at hj
      exact hfr (a + j) (by omega) (by omega) ((at_mark h .dot (a + j)).mpr hj)
    have e : gs.drop a = (gs.drop a).take (d - a) ++ .dot :: gs.drop (d + 1) := by
      have s1 : gs.drop a = (gs.drop a).take (d - a) ++ (gs.drop a).drop (d - a) := (List.take_append_drop _ _).symm
      have s2 : (gs.drop a).drop (d - a) = gs.drop d := by rw [List.drop_drop]; congr 1; omega
      have s3 : gs.drop d = .dot :: gs.drop (d + 1) := by
        rw [List.drop_eq_getElem_cons hlt]
        congr 1
        have := (List.getElem?_eq_some_iff.mp q).2
        exact this
      rw [s2, s3] at s1
      exact s1
    rw [e, splitM_at _ hfree]
    show cps (strSub x a d) :: (partsFrom x _ (d + 1) r).map cps = cds _ :: (splitM _).map cds
    rw [parts_codes h r (d + 1) f hc' hn]
    have z := codes_are (mark_sub h a d)
    rw [show cps (strSub x a d) = _ from z]
theorem split_codes {x : Str} {gs : List Mk} (h : MarkText x gs) : (Txt.split x (Str.ofString ".")).map cps = (splitM gs).map cds := by
  rw [dot_one]
  obtain ⟨f, hG, hn⟩ := occ_tight x ⟨#[46]⟩ (Nat.le_refl 1)
  have whole : (∀ g ∈ gs, g ≠ .dot) → [x].map cps = (splitM gs).map cds := fun hf => by
    rw [splitM_free hf]
    show [cps x] = [cds gs]
    rw [show cps x = _ from codes_are h]
  unfold Txt.split
  split
  · rename_i hc
    refine whole fun g hg q => ?_
    subst q
    have := not_kind h hg
    rw [show (⟨#[Mk.dot.code]⟩ : Str) = ⟨#[46]⟩ from rfl] at this
    rw [this] at hc; cases hc
  · split
    · rename_i he
      refine whole fun g hg q => ?_
      subst q
      have e0 : occurrences x ⟨#[46]⟩ 0 x.length (x.length + 1) = [] := List.isEmpty_iff.mp he
      rw [e0] at hG
      have ef : f = 0 := hG
      subst ef
      obtain ⟨j, hj⟩ := List.getElem?_of_mem hg
      exact hn j (Nat.zero_le _) ((at_mark h .dot j).mpr hj)
    · rw [partsBetween_eq]
      exact parts_codes h _ 0 f hG hn
theorem splitM_sub : ∀ {gs hs : List Mk}, hs ∈ splitM gs → (∀ g ∈ hs, g ∈ gs) ∧ hs.length ≤ gs.length
  | [], hs, h => by rw [List.mem_singleton.mp h]; exact ⟨(fun _ h => nomatch h), Nat.le_refl _⟩
  | g :: gs, hs, h => by
    by_cases hd : g = .dot
    · subst hd
      rw [splitM_dot] at h
      rcases List.mem_cons.mp h with rfl | h
      · exact ⟨(fun _ h => nomatch h), Nat.zero_le _⟩
      · have z := splitM_sub h
        exact ⟨fun x hx => List.mem_cons_of_mem _ (z.1 x hx), Nat.le_succ_of_le z.2⟩
    · obtain ⟨a, t, e⟩ := splitM_ne gs
      rw [splitM_cons hd e] at h
      rcases List.mem_cons.mp h with rfl | h
      · have z := splitM_sub (gs := gs) (hs := a) (by rw [e]; exact List.mem_cons_self ..)
        exact ⟨fun x hx => by
          rcases List.mem_cons.mp hx with rfl | hx
          · exact List.mem_cons_self ..
          · exact List.mem_cons_of_mem _ (z.1 x hx), by simpa using z.2⟩
      · have z := splitM_sub (gs := gs) (hs := hs) (by rw [e]; exact List.mem_cons_of_mem _ h)
        exact ⟨fun x hx => List.mem_cons_of_mem _ (z.1 x hx), Nat.le_succ_of_le z.2⟩
theorem split_clean {x : Str} {gs : List Mk} (h : MarkText x gs) (hz : gs.length ≤ 640) : ∀ y ∈ Txt.split x (Str.ofString "."), Clean y := by
  intro y hy
  have hm : cps y ∈ (splitM gs).map cds := by rw [← split_codes h]; exact List.mem_map.mpr ⟨y, hy, rfl⟩
  obtain ⟨hs, hh, e⟩ := List.mem_map.mp hm
  obtain ⟨z1, z2⟩ := splitM_sub hh
  have e' : y.cps.toList = cds hs := e.symm
  refine ⟨?_, fun c hc => ?_⟩
  · have hl : y.cps.toList.length = y.length := Array.length_toList
    rw [e'] at hl
    simp at hl
    omega
  · rw [e'] at hc
    obtain ⟨g, hg, rfl⟩ := List.mem_map.mp hc
    exact code_small g (h.f g (z1 g hg))
theorem intText_codes {y : Str} (hc : Clean y) : PySem.intText? y = intL (cps y) := by
  obtain ⟨e1, e2⟩ := codes_ascii hc.2
  unfold PySem.intText? intL
  rw [e1, e2, if_pos (beq_self_eq_true _)]
  cases q : digits? 10 (core y.cps.toList) with
  | none => rfl
  | some ds =>
    have h1 := digits_size q
    have h2 := core_length y.cps.toList
    have hl : y.cps.toList.length = y.length := Array.length_toList
    have h3 := hc.1
    dsimp only
    rw [if_pos (by omega)]
theorem lineCol_pair {x : Str} {gs : List Mk} (h : MarkText x gs) (hz : gs.length ≤ 640) : lineCol (Txt.split x (Str.ofString ".")) = pairM gs := by
  have hc := split_clean h hz
  have e := split_codes h
  unfold pairM
  generalize Txt.split x (Str.ofString ".") = ys at hc e
  generalize splitM gs = zs at e
  rcases ys with _ | ⟨y, _ | ⟨z, _ | ⟨w, ys⟩⟩⟩ <;> rcases zs with _ | ⟨a, _ | ⟨b, _ | ⟨c, zs⟩⟩⟩ <;> first | rfl | (simp at e; done) | skip
  obtain ⟨e1, e2⟩ := List.cons.inj e
  obtain ⟨e2, _⟩ := List.cons.inj e2
  show (match PySem.intText? y, PySem.intText? z with | some x, some y => some (x, y) | _, _ => none) = (match intD a, intD b with | some x, some y => some (x, y) | _, _ => none)
  rw [intText_codes (hc y (List.mem_cons_self ..)), intText_codes (hc z (List.mem_cons_of_mem _ (List.mem_cons_self ..))), e1, e2]
  rfl
/-- halves: what it finds -/
theorem halv_some {x : Str} {gs : List Mk} (h : MarkText x gs) {k : Int} {a b : Str} (H : HalvSome x k a b) :
    ∃ A B xa xb, gs = A ++ .eq :: B ∧ (∀ g ∈ A, g ≠ .eq) ∧ MarkText xa A ∧ MarkText xb B ∧ a = Txt.strip xa ∧ b = Txt.strip xb := by
  obtain ⟨f₁, b₁, f₂, b₂, rfl, rfl, k0, k1, hb, hk, s1, s2⟩ := H
  have hl : x.length = gs.length := h.len
  obtain ⟨n, rfl⟩ := Int.eq_ofNat_of_zero_le k0
  have hn : n < gs.length := by omega
  have m1 := slice_to h (j := (n : Int)) k0 (by omega)
  have m2 := slice_from h (i := (n : Int) + 1) (by omega) (by omega)
  have z1 : ((n : Int)).toNat = n := by omega
  have z2 : ((n : Int) + 1).toNat = n + 1 := by omega
  rw [z1] at m1
  rw [z2] at m2
  refine ⟨gs.take n, gs.drop (n + 1), _, _, ?_, fun g hg q => ?_, m1, m2, bare_strip m1 s1, bare_strip m2 s2⟩
  · have e : gs[n] = .eq := by
      rw [item_mark h hn] at hk
      have hf := h.f gs[n] (List.getElem_mem hn)
      generalize gs[n] = g at hk hf
      cases g <;> first | rfl | exact absurd rfl hf | exact absurd hk (by decide +kernel)
    have d := List.drop_eq_getElem_cons hn
    rw [e] at d
    rw [← d, List.take_append_drop]
  · subst q
    obtain ⟨j, hj⟩ := List.getElem?_of_mem hg
    have hjl : j < n := by
      have := (List.getElem?_eq_some_iff.mp hj).1
      simp at this; omega
    rw [List.getElem?_take_of_lt hjl] at hj
    obtain ⟨hj1, hj2⟩ := List.getElem?_eq_some_iff.mp hj
    refine hb (j : Int) (by omega) (by omega) ?_
    rw [item_mark h hj1, hj2]; rfl
theorem halv_none {x : Str} {gs : List Mk} (h : MarkText x gs) (H : HalvNone x) : ∀ g ∈ gs, g ≠ .eq := by
  intro g hg q
  subst q
  obtain ⟨j, hj⟩ := List.getElem?_of_mem hg
  obtain ⟨hj1, hj2⟩ := List.getElem?_eq_some_iff.mp hj
  have hl : x.length = gs.length := h.len
  refine H (j : Int) (by omega) (by omega) ?_
  rw [item_mark h hj1, hj2]; rfl
end
section
open PySem.NumText
theorem Con.mono {w : World} {f : Addr} {args : List Value} {need : Nat} {pre : Heap → Prop} {out out' : Heap → List (Addr × Obj) → Value → Prop} (C : Con w f args need pre out) (h : ∀ h' tl r, out h' tl r → out' h' tl r) : Con w f args need pre out' := by
  intro mg mb dp un gd cn cs a ccd cl outer A₀ base h₀ L m news s Q E B Sb F X N T St hk hp hd hu ret
  exact C.use B Sb F X N T St hk hp hd hu fun r tl h' tk' F' N' nw st o => ret r tl h' tk' F' N' nw st (h _ _ _ o)
theorem con_to_P {w : World} {f : Addr} {args : List Value} {need : Nat} {out : List (Addr × Obj) → Value → Prop} (C : Con w f args need (fun _ => True) (fun _ tl r => out tl r)) : ConP w f args need out := by
  intro mg mb dp un gd cn cs a ccd cl A₀ h₀ L m s Q E B F X N T St hk hd hu ret
  exact wpP_of (C.use B St F X N T St hk trivial hd hu fun r tl h' tk' F' N' _ _ o => ret r tl h' tk' F' (by simpa using N') o)
theorem conT_to_P {w : World} {f : Addr} {args : List Value} {need : Nat} {out : List (Addr × Obj) → Value → Prop} (C : ConT w f args need out) : ConP w f args need out := by
  intro mg mb dp un gd cn cs a ccd cl A₀ h₀ L m s Q E B F X N T St hk hd hu ret
  exact wpP_of (C mg mb dp un gd cn cs a ccd cl A₀ h₀ L m s Q E B F X N T St hk hd hu ret)
theorem eq_cases (A : List Mk) : (∀ g ∈ A, g ≠ .eq) ∨ ∃ D R, A = D ++ .eq :: R ∧ ∀ g ∈ D, g ≠ .eq := by
  induction A with
  | nil => exact .inl fun _ h => nomatch h
  | cons g A ih =>
    by_cases hg : g = .eq
    · exact .inr ⟨[], A, by rw [hg]; rfl, fun _ h => nomatch h⟩
    · rcases ih with h | ⟨D, R, e, h⟩
      · exact .inl fun x hx => by rcases List.mem_cons.mp hx with rfl | hx; exact hg; exact h x hx
      · exact .inr ⟨g :: D, R, by rw [e]; rfl, fun x hx => by rcases List.mem_cons.mp hx with rfl | hx; exact hg; exact h x hx⟩
theorem first_eq : ∀ {A A' B B' : List Mk}, (∀ g ∈ A, g ≠ .eq) → (∀ g ∈ A', g ≠ .eq) → A ++ .eq :: B = A' ++ .eq :: B' → A = A' ∧ B = B'
  | [], [], _, _, _, _, e => ⟨rfl, (List.cons.inj e).2⟩
  | [], g :: _, _, _, _, h, e => absurd (List.cons.inj e).1.symm (h g (List.mem_cons_self ..))
  | g :: _, [], _, _, h, _, e => absurd (List.cons.inj e).1 (h g (List.mem_cons_self ..))
  | g :: A, g' :: A', _, _, h, h', e => by
    obtain ⟨e1, e2⟩ := List.cons.inj e
    obtain ⟨q1, q2⟩ := first_eq (fun x hx => h x (List.mem_cons_of_mem _ hx)) (fun x hx => h' x (List.mem_cons_of_mem _ hx)) e2
    exact ⟨by rw [e1, q1], q2⟩
theorem strOk_mark {x : Str} {gs : List Mk} (h : MarkText x gs) : PyData.strOk x = true := by
  unfold PyData.strOk
  rw [Array.all_eq_true_iff_forall_mem]
  intro c hc
  have hc' : c ∈ x.cps.toList := Array.mem_toList_iff.mpr hc
  rw [codes_are h] at hc'
  obtain ⟨g, hg, rfl⟩ := List.mem_map.mp hc'
  have := (code_small g (h.f g hg)).2
  exact decide_eq_true (by omega)
theorem stripM_le (A : List Mk) : (stripM A).length ≤ A.length := by
  unfold stripM
  rw [List.length_reverse]
  refine Nat.le_trans (List.dropWhile_sublist _).length_le ?_
  rw [List.length_reverse]
  exact (List.dropWhile_sublist _).length_le
theorem twin_of (w : World) (x : Str) (gs : List Mk) (h : MarkText x gs) (hz : gs.length ≤ 100) : TwinE w x := by
  have hl : x.length ≤ 640 := by rw [h.len]; omega
  rcases eq_cases gs with he | ⟨A, B, rfl, he⟩
  · refine ⟨⟨[.str (Str.ofString "no pair")], ⟨fun t => conP_none w x x t (splitMax_none h he) hl, fun t => (con_want w x t gs h.s h.f hz).mono fun h' tl r o => ⟨o.1, ?_⟩, shaped_none⟩⟩⟩
    rcases o.2 with ⟨_, rd⟩ | ⟨k, a, b, H, _⟩
    · exact rd
    · obtain ⟨A, B, _, _, e, _⟩ := halv_some h H
      exact absurd rfl (he .eq (by rw [e]; exact List.mem_append_right _ (List.mem_cons_self ..)))
  · obtain ⟨xa, xb, hs, ma, mb⟩ := splitMax_eq h he
    have hlen : A.length + (B.length + 1) ≤ 100 := by simpa using hz
    have sa := mark_strip ma
    have sb := mark_strip mb
    have lA := stripM_le A
    have lB := stripM_le B
    have la : lineCol (Txt.split (Txt.strip xa) (Str.ofString ".")) = pairM A := (lineCol_pair sa (by omega)).trans (pairM_strip A)
    have lb : lineCol (Txt.split (Txt.strip xb) (Str.ofString ".")) = pairM B := (lineCol_pair sb (by omega)).trans (pairM_strip B)
    have ca := split_clean sa (by omega)
    have cb := split_clean sb (by omega)
    have za : (Txt.strip xa).length ≤ 640 := by rw [sa.len]; omega
    have zb : (Txt.strip xb).length ≤ 640 := by rw [sb.len]; omega
    have fa : ∀ g ∈ A, g ≠ .fin := fun g hg => h.f g (List.mem_append_left _ hg)
    have fb : ∀ g ∈ B, g ≠ .fin := fun g hg => h.f g (List.mem_append_right _ (List.mem_cons_of_mem _ hg))
    have run := whole_run he fa fb
    have oa := strOk_mark sa
    have ob := strOk_mark sb
    have find : ∀ {k : Int} {a b : Str}, HalvSome x k a b → a = Txt.strip xa ∧ b = Txt.strip xb := fun H => by
      obtain ⟨A', B', ya, yb, e, he', ma', mb', rfl, rfl⟩ := halv_some h H
      obtain ⟨rfl, rfl⟩ := first_eq he he' e
      rw [text_ext ma ma', text_ext mb mb']
      exact ⟨rfl, rfl⟩
    have some_eq : ¬ HalvNone x := fun H => halv_none h H .eq (List.mem_append_right _ (List.mem_cons_self ..)) rfl
    have refused : RS.start.run ((A ++ Mk.eq :: B) ++ [Mk.fin]) = none → (∀ t, ConP w 206 [.str x t] 6 (fun tl r => ReadsOn tl r (refusedData (Txt.strip xa) (Txt.strip xb)))) → TwinE w x := fun rn told => by
      refine ⟨⟨[.str (Str.ofString "refused"), .tuple [.str (Txt.strip xa), .str (Txt.strip xb)]], ⟨told, fun t => (con_want w x t _ h.s h.f hz).mono fun h' tl r o => ⟨o.1, ?_⟩, shaped_refused oa ob⟩⟩⟩
      rcases o.2 with ⟨H, _⟩ | ⟨k, a, b, H, ⟨_, rd⟩ | ⟨n₁, n₂, n₃, n₄, st, tu, wo, q, _⟩⟩
      · exact absurd H some_eq
      · obtain ⟨rfl, rfl⟩ := find H
        exact rd
      · rw [rn] at q; cases q
    cases pa : pairM A with
    | none =>
      rw [pa] at run la
      exact refused run fun t => conT_to_P (conT_bad1 w x xa xb t _ hs hl za zb rfl ca la)
    | some p =>
      obtain ⟨n₁, n₂⟩ := p
      rw [pa] at run la
      cases pb : pairM B with
      | none =>
        rw [pb] at run lb
        exact refused run fun t => conT_to_P (conT_bad2 w x xa xb t _ _ n₁ n₂ hs hl za zb rfl rfl ca cb la lb)
      | some q =>
        obtain ⟨n₃, n₄⟩ := q
        rw [pb] at run lb
        have shown := run_shown hz run
        refine ⟨⟨[.str (Str.ofString "read"), .tuple [.str (Txt.strip xa), .str (Txt.strip xb)], .tuple [.tuple [.int n₁, .int n₂], .tuple [.int n₃, .int n₄]], .list ([n₁, n₂, n₃, n₄].map fun n => .str (Str.ofString (toString n)))],
          ⟨fun t => con_to_P (con_told w x xa xb t _ _ n₁ n₂ n₃ n₄ hs hl za zb rfl rfl ca cb la lb shown), fun t => (con_want w x t _ h.s h.f hz).mono fun h' tl r o => ⟨o.1, ?_⟩, shaped_read oa ob _ _ _ _⟩⟩⟩
        rcases o.2 with ⟨H, _⟩ | ⟨k, a, b, H, ⟨q, _⟩ | ⟨k₁, k₂, k₃, k₄, st, tu, wo, q, rd⟩⟩
        · exact absurd H some_eq
        · rw [run] at q; cases q
        · rw [run] at q
          cases q
          obtain ⟨rfl, rfl⟩ := find H
          exact rd
end
section
open PySem.NumText
def figMk (c : Nat) : Mk := match c with
  | 48 => .d0 | 49 => .d1 | 50 => .d2 | 51 => .d3 | 52 => .d4 | 53 => .d5 | 54 => .d6 | 55 => .d7 | 56 => .d8 | _ => .d9
theorem figMk_code {c : Nat} (h : 48 ≤ c ∧ c ≤ 57) : (figMk c).code = c := by
  obtain ⟨k, rfl⟩ := Nat.le.dest h.1
  have hk : k < 10 := Nat.lt_succ_of_le (Nat.le_of_add_le_add_left h.2)
  match k, hk with
  | 0, _ => rfl
  | 1, _ => rfl
  | 2, _ => rfl
  | 3, _ => rfl
  | 4, _ => rfl
  | 5, _ => rfl
  | 6, _ => rfl
  | 7, _ => rfl
  | 8, _ => rfl
  | 9, _ => rfl
  | k + 10, h => exact absurd h (Nat.not_lt.mpr (Nat.le_add_left 10 k))
/-- marks that a written number bears -/
structure NumMk (gs : List Mk) (n : Int) : Prop where
  val : intD gs = some n
  ok : ∀ g ∈ gs, g ≠ .dot ∧ g ≠ .eq ∧ g ≠ .fin ∧ g.blank = false
  ne : gs ≠ []
  le : gs.length ≤ 11
theorem figMk_ok (c : Nat) : figMk c ≠ .dot ∧ figMk c ≠ .eq ∧ figMk c ≠ .fin ∧ (figMk c).blank = false := by
  unfold figMk
  split <;> exact ⟨by simp, by simp, by simp, rfl⟩
theorem figs_codes : ∀ {cs : List Nat}, AllDigits cs → cds (cs.map figMk) = cs
  | [], _ => rfl
  | c :: cs, h => by
    show (figMk c).code :: cds (cs.map figMk) = _
    rw [figMk_code h.head, figs_codes h.tail]
theorem digits_all (m : Nat) : AllDigits ((Nat.toDigits 10 m).map Char.toNat) := by
  intro c hc
  obtain ⟨ch, hch, e⟩ := List.mem_map.mp hc
  have r := digit_range (Nat.isDigit_of_mem_toDigits (by decide) (by decide) hch)
  rw [← e]; exact r
theorem digits_ne (m : Nat) : (Nat.toDigits 10 m).map Char.toNat ≠ [] := by
  intro e
  have h := PySem.toDigits_len_ge 10 m
  rw [List.map_eq_nil_iff.mp e] at h
  exact absurd h (by decide)
theorem digits_le {m : Nat} (h : m < 10 ^ 10) : ((Nat.toDigits 10 m).map Char.toNat).length ≤ 10 := by
  have z := KT.len_num (n := (m : Int)) (Int.natCast_nonneg _) (by omega)
  have e := KIN.signs_num m
  have l : (Str.ofString (toString (m : Int))).cps.toList.length = (Str.ofString (toString (m : Int))).length := Array.length_toList
  rw [e] at l
  omega
theorem neg_codes (m : Nat) : (Str.ofString (toString (Int.negSucc m))).cps.toList = 45 :: (Nat.toDigits 10 (m + 1)).map Char.toNat := by
  rw [signs_ofString]
  show ("-" ++ Nat.repr (m + 1)).toList.map Char.toNat = _
  rw [String.toList_append, List.map_append, Nat.toList_repr]
  rfl
theorem num_mark (n : Int) (h : n.natAbs < 10 ^ 10) : ∃ gs, MarkText (sS n) gs ∧ NumMk gs n := by
  cases n with
  | ofNat m =>
    have hm : m < 10 ^ 10 := h
    have d := digits_all m
    have e : (sS (m : Int)).cps.toList = (Nat.toDigits 10 m).map Char.toNat := KIN.signs_num m
    refine ⟨((Nat.toDigits 10 m).map Char.toNat).map figMk, mark_of (by rw [figs_codes d]; exact e) (fun g hg => ?_), ?_, fun g hg => ?_, ?_, ?_⟩
    · obtain ⟨c, _, rfl⟩ := List.mem_map.mp hg
      exact (figMk_ok c).2.2.1
    · have z : PySem.intText? (sS (m : Int)) = some (m : Int) := KIN.num_reads (Int.natCast_nonneg _) (by omega)
      have cl : Clean (sS (m : Int)) := ⟨by
        have q := KT.len_num (n := (m : Int)) (Int.natCast_nonneg _) (by omega)
        exact Nat.le_trans q (by decide), fun c hc => by rw [e] at hc; have := d c hc; omega⟩
      rw [intText_codes cl] at z
      unfold intD
      rw [figs_codes d, ← e]
      exact z
    · obtain ⟨c, _, rfl⟩ := List.mem_map.mp hg
      exact figMk_ok c
    · intro q
      exact digits_ne m (List.map_eq_nil_iff.mp q)
    · rw [List.length_map]
      exact Nat.le_succ_of_le (digits_le hm)
  | negSucc m =>
    have hm : m + 1 < 10 ^ 10 := h
    have d := digits_all (m + 1)
    have e : (sS (Int.negSucc m)).cps.toList = 45 :: (Nat.toDigits 10 (m + 1)).map Char.toNat := neg_codes m
    have dl := digits_le hm
    refine ⟨.minus :: ((Nat.toDigits 10 (m + 1)).map Char.toNat).map figMk, mark_of (by show _ = 45 :: cds _; rw [figs_codes d]; exact e) (fun g hg => ?_), ?_, fun g hg => ?_, (by simp), ?_⟩
    · rcases List.mem_cons.mp hg with rfl | hg
      · intro h; cases h
      · obtain ⟨c, _, rfl⟩ := List.mem_map.mp hg
        exact (figMk_ok c).2.2.1
    · have ln : (sS (Int.negSucc m)).length ≤ 11 := by
        have l : (sS (Int.negSucc m)).cps.toList.length = (sS (Int.negSucc m)).length := Array.length_toList
        rw [e, List.length_cons] at l
        omega
      have z : PySem.intText? (sS (Int.negSucc m)) = _ := intText_neg e d (digits_ne (m + 1)) (Nat.le_trans ln (by decide))
      have cl : Clean (sS (Int.negSucc m)) := ⟨Nat.le_trans ln (by decide), fun c hc => by
        rw [e] at hc
        rcases List.mem_cons.mp hc with rfl | hc
        · decide
        · have := d c hc; omega⟩
      rw [intText_codes cl, KIN.val_back] at z
      unfold intD
      show intL (45 :: cds _) = _
      rw [figs_codes d, ← e]
      exact z
    · rcases List.mem_cons.mp hg with rfl | hg
      · exact ⟨by simp, by simp, by simp, rfl⟩
      · obtain ⟨c, _, rfl⟩ := List.mem_map.mp hg
        exact figMk_ok c
    · rw [List.length_cons, List.length_map]
      omega
theorem mark_lit (s : String) (gs : List Mk) (e : (Str.ofString s).cps.toList = cds gs) (hf : ∀ g ∈ gs, g ≠ .fin) : MarkText (Str.ofString s) gs := mark_of e hf
/-- a half whose ends are no blanks -/
theorem strip_tight {S T M : List Mk} (hS : ∀ g ∈ S, g.blank = true) (hT : ∀ g ∈ T, g.blank = true) (h1 : ∀ g r, M = g :: r → g.blank = false) (h2 : ∀ g r, M = r ++ [g] → g.blank = false) (hM : M ≠ []) : stripM (S ++ M ++ T) = M := by
  unfold stripM
  rw [List.append_assoc, List.dropWhile_append_of_pos hS]
  have e : (M ++ T).dropWhile Mk.blank = M ++ T := by
    cases M with
    | nil => exact absurd rfl hM
    | cons g r =>
      show (g :: (r ++ T)).dropWhile _ = _
      rw [List.dropWhile_cons, if_neg (by rw [h1 g r rfl]; exact Bool.false_ne_true)]; rfl
  rw [e]
  exact rdrop_at Mk.blank M T hT fun a N q => h2 a N q
theorem num_head {gs : List Mk} {n : Int} (h : NumMk gs n) : ∃ g r, gs = g :: r ∧ g.blank = false := by
  cases gs with
  | nil => exact absurd rfl h.ne
  | cons g r => exact ⟨g, r, rfl, (h.ok g (List.mem_cons_self ..)).2.2.2⟩
theorem num_last {gs : List Mk} {n : Int} (h : NumMk gs n) : ∃ g r, gs = r ++ [g] ∧ g.blank = false := by
  rcases List.eq_nil_or_concat gs with rfl | ⟨r, g, e⟩
  · exact absurd rfl h.ne
  · rw [List.concat_eq_append] at e
    exact ⟨g, r, e, (h.ok g (by rw [e]; simp)).2.2.2⟩
/-- a half between two numbers -/
theorem half_tight {S T A B X : List Mk} {a b : Int} (hS : ∀ g ∈ S, g.blank = true) (hT : ∀ g ∈ T, g.blank = true) (ha : NumMk A a) (hb : NumMk B b) : stripM (S ++ (A ++ X ++ B) ++ T) = A ++ X ++ B := by
  obtain ⟨g, r, rfl, hg⟩ := num_head ha
  obtain ⟨k, q, rfl, hk⟩ := num_last hb
  refine strip_tight hS hT (fun x y e => ?_) (fun x y e => ?_) (by simp)
  · cases e; exact hg
  · have e' : (g :: r ++ X ++ q) ++ [k] = y ++ [x] := by rw [← e]; simp
    have := (List.append_inj' e' rfl).2
    cases this; exact hk
theorem back_tells (a b c d : Int) (ha : a.natAbs < 10 ^ 10) (hb : b.natAbs < 10 ^ 10) (hc : c.natAbs < 10 ^ 10) (hd' : d.natAbs < 10 ^ 10) : BackTells a b c d ∧ PyData.strOk (nameS a b) = true ∧ PyData.strOk (valueS c d) = true := by
  obtain ⟨ga, ma, na⟩ := num_mark a ha
  obtain ⟨gb, mb, nb⟩ := num_mark b hb
  obtain ⟨gc, mc, nc⟩ := num_mark c hc
  obtain ⟨gd, md, nd⟩ := num_mark d hd'
  have l1 := mark_lit " " [.sp] (by decide +kernel) (by simp)
  have l2 := mark_lit "." [.dot] (by decide +kernel) (by simp)
  have l3 := mark_lit " =\t" [.sp, .eq, .tab] (by decide +kernel) (by simp)
  have l4 := mark_lit "\t. " [.tab, .dot, .sp] (by decide +kernel) (by simp)
  have mn : MarkText (nameS a b) (ga ++ [.dot] ++ gb) := (ma.append l2).append mb
  have mv : MarkText (valueS c d) (gc ++ [.tab, .dot, .sp] ++ gd) := (mc.append l4).append md
  have mt : MarkText (textS a b c d) ([.sp] ++ (ga ++ [.dot] ++ gb) ++ [.sp, .eq, .tab] ++ (gc ++ [.tab, .dot, .sp] ++ gd) ++ [.sp]) := (((l1.append mn).append l3).append mv).append l1
  have e : ([.sp] ++ (ga ++ [.dot] ++ gb) ++ [.sp, .eq, .tab] ++ (gc ++ [.tab, .dot, .sp] ++ gd) ++ [.sp] : List Mk) = ([.sp] ++ (ga ++ [.dot] ++ gb) ++ [.sp]) ++ .eq :: ([.tab] ++ (gc ++ [.tab, .dot, .sp] ++ gd) ++ [.sp]) := by simp
  have mt' : MarkText (textS a b c d) (([.sp] ++ (ga ++ [.dot] ++ gb) ++ [.sp]) ++ .eq :: ([.tab] ++ (gc ++ [.tab, .dot, .sp] ++ gd) ++ [.sp])) := e ▸ mt
  have he : ∀ g ∈ ([.sp] ++ (ga ++ [.dot] ++ gb) ++ [.sp] : List Mk), g ≠ .eq := by
    intro g hg
    simp only [List.mem_append, List.mem_singleton] at hg
    rcases hg with (rfl | (hg | rfl) | hg) | rfl
    · intro h; cases h
    · exact (na.ok g hg).2.1
    · intro h; cases h
    · exact (nb.ok g hg).2.1
    · intro h; cases h
  obtain ⟨xa, xb, hs, m1, m2⟩ := splitMax_eq mt' he
  have s1 : Txt.strip xa = nameS a b := text_ext (by have z := mark_strip m1; rwa [half_tight (by simp [Mk.blank]) (by simp [Mk.blank]) na nb] at z) mn
  have s2 : Txt.strip xb = valueS c d := text_ext (by have z := mark_strip m2; rwa [half_tight (by simp [Mk.blank]) (by simp [Mk.blank]) nc nd] at z) mv
  have da := na.le
  have db := nb.le
  have dc := nc.le
  have dd := nd.le
  have ln : (ga ++ [Mk.dot] ++ gb).length ≤ 640 := by simp; omega
  have lv : (gc ++ [Mk.tab, .dot, .sp] ++ gd).length ≤ 640 := by simp; omega
  have p1 : pairM (ga ++ [Mk.dot] ++ gb) = some (a, b) := by
    have z := pairM_two (D := ga) (E := gb) (fun g hg => (na.ok g hg).1) (fun g hg => (nb.ok g hg).1)
    rw [List.append_assoc]
    show pairM (ga ++ Mk.dot :: gb) = _
    rw [z, na.val, nb.val]
  have p2 : pairM (gc ++ [Mk.tab, .dot, .sp] ++ gd) = some (c, d) := by
    have z := pairM_two (D := gc ++ [.tab]) (E := .sp :: gd) (fun g hg => by
      rcases List.mem_append.mp hg with hg | hg
      · exact (nc.ok g hg).1
      · rw [List.mem_singleton.mp hg]; intro h; cases h) (fun g hg => by
      rcases List.mem_cons.mp hg with rfl | hg
      · intro h; cases h
      · exact (nd.ok g hg).1)
    have q : gc ++ [Mk.tab, .dot, .sp] ++ gd = (gc ++ [.tab]) ++ .dot :: (.sp :: gd) := by simp
    rw [q, z, intD_back rfl, intD_front rfl, nc.val, nd.val]
  refine ⟨⟨⟨xa, xb, _, _, hs, s1, s2, rfl, rfl, split_clean mn ln, split_clean mv lv, (lineCol_pair mn ln).trans p1, (lineCol_pair mv lv).trans p2⟩, ?_, ?_, ?_, ?_⟩, strOk_mark mn, strOk_mark mv⟩
  · rw [mt.len]; simp; omega
  · rw [mn.len]; exact ln
  · rw [mv.len]; exact lv
  · intro n hn
    have hz : n.natAbs < 10 ^ 10 := by
      simp only [List.mem_cons, List.mem_nil_iff, or_false] at hn
      rcases hn with rfl | rfl | rfl | rfl <;> assumption
    exact log_small hz (by decide)
theorem back_of (w : World) (l : Addr) (vs : List Value) (ns : List Int) (hv : IntsAre vs ns) (hz : ns.length ≤ 63) : BackOk w l vs := by
  obtain ⟨a, b, c, d, e⟩ := nums_four ns
  have small : ∀ n ∈ nums ns, n.natAbs < 10 ^ 10 := fun n hn => by
    obtain ⟨k, _, rfl⟩ := List.mem_map.mp hn
    exact cut_small k
  rw [e] at small
  have ha := small a (by simp)
  have hb := small b (by simp)
  have hc := small c (by simp)
  have hd' := small d (by simp)
  obtain ⟨t, o1, o2⟩ := back_tells a b c d ha hb hc hd'
  exact ⟨con_back w l vs ns a b c d hv hz e (log_small ha (by decide)) (log_small hb (by decide)) (log_small hc (by decide)) (log_small hd' (by decide))
    (fun n hn => log_small (small n hn) (by decide)) t o1 o2⟩
end
end Mine

theorem PySem.Challenge.cw_il0122_01_holds : PySem.Challenge.rw_il0122_01.Holds :=
  Mine.law_holds (fun w x gs h hz => Mine.twin_of w x gs h hz) (fun w l vs ns hv hz => Mine.back_of w l vs ns hv hz)
