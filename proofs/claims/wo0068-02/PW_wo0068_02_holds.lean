import PyProof.Rows.All
import PyProof.GenQ
import PyProof.StrCalls6
import PyProof.StrLawsTight
import PyProof.ToksMono
import Wide.All
import KE.KIntText
import KE.KNest
import OpenK.AllK
import Wide.FinOn
import KE.KItem
import KE.KBoundM
import Lean
import PySem.Challenge.RW_wo0068_02
set_option Elab.async false
set_option compiler.extract_closed false
section Pa1
set_option compiler.extract_closed false
open PySem PySem.W PyProof.Rows
set_option maxRecDepth 1000000
set_option maxHeartbeats 0
set_option linter.unusedVariables false
noncomputable section Nc1
namespace Hd
noncomputable abbrev pw : Program := PySem.Challenge.pw_wo0068_02
noncomputable def topFn (i : Nat) : Stmt := pw.main.body.getD i (.Pass default)
noncomputable def inFn (i j : Nat) : Stmt := match topFn i with
  | .ClassDef _ _ _ b _ _ _ _ _ _ _ => b.getD j (.Pass default)
  | _ => .Pass default
noncomputable def fdOf (st : Stmt) (qual : Str) (globals : Addr) (closure : List (Str × Addr)) (defaults kwdefaults doc pyModule : Value) (ann : Option Addr) (code closureTuple : Value) (builtins : Addr) : FuncData := match st with
  | .FunctionDef n args body _ _ _ sc _ _ _ => { name := n, qualname := qual, params := args, body := .stmts body, scope := sc, globals := globals, closure := closure, defaults := defaults, kwdefaults := kwdefaults, doc := doc, pyModule := pyModule, annotations := ann, code := code, closureTuple := closureTuple, builtins := builtins }
  | _ => default
noncomputable def envT : Env := { scope := pw.main.scope, locals := mainNs, globals := mainNs, cells := [], code := .ref 13, frame := some 14 }
noncomputable def cT : Code := .body (behindTheImports pw) envT
noncomputable def seg (a n : Nat) : List Stmt := (pw.main.body.drop a).take n
noncomputable def o11_pre (P : Params) : Obj := ⟨(.type "tuple"), none, (.seq #[] 0), #[]⟩
noncomputable def o12_pre (P : Params) : Obj := ⟨.none, none, (.fields #[]), #[]⟩
noncomputable def o13_pre (P : Params) : Obj := ⟨(.type "code"), none, (.fields #[(.str ⟨#[60, 109, 111, 100, 117, 108, 101, 62]⟩ 182), (.str ⟨#[60, 109, 111, 100, 117, 108, 101, 62]⟩ 183), (.str ⟨#[47, 99, 108, 97, 105, 109, 47, 99, 117, 116, 46, 112, 121]⟩ 184), (.int 1 0), (.int 0 0), (.int 0 0), (.int 0 0), (.int 0 0), (.ref 11), (.bool false), (.int 181 0), (.ref 12), .none, .none, .none, .none, (.int 185 0), (.int 1 0), (.str ⟨#[47, 99, 108, 97, 105, 109, 47, 99, 117, 116, 46, 112, 121]⟩ 186)]), #[]⟩
noncomputable def o14_pre (P : Params) : Obj := ⟨(.type "frame"), none, .plain, #[(some (.ref 13)), (some (.ref 3)), (some (.ref 3)), none, (some (.str ⟨#[95, 95, 109, 97, 105, 110, 95, 95]⟩ 164)), none, (some (.ref 0))]⟩
noncomputable def T_pre (P : Params) : BT := (.node (boot_o_0 P) (.node (boot_o_1 P) (.node (boot_o_3 P) (.node (boot_o_7 P) .nil .nil) (.node (o11_pre P) .nil .nil)) (.node (boot_o_5 P) (.node (boot_o_9 P) .nil .nil) (.node (o13_pre P) .nil .nil))) (.node (boot_o_2 P) (.node (boot_o_4 P) (.node (boot_o_8 P) .nil .nil) (.node (o12_pre P) .nil .nil)) (.node (boot_o_6 P) (.node (boot_o_10 P) .nil .nil) (.node (o14_pre P) .nil .nil))))
noncomputable def o2_s12 (P : Params) : Obj := ⟨.none, none, (.dict #[⟨PyData.keyHash P ⟨#[116, 121, 112, 101, 46, 95, 95, 115, 117, 98, 99, 108, 97, 115, 115, 101, 115, 95, 95, 46, 69, 120, 99, 101, 112, 116, 105, 111, 110, 46, 48]⟩, .str ⟨#[116, 121, 112, 101, 46, 95, 95, 115, 117, 98, 99, 108, 97, 115, 115, 101, 115, 95, 95, 46, 69, 120, 99, 101, 112, 116, 105, 111, 110, 46, 48]⟩ 226, (.int 38 0)⟩, ⟨PyData.keyHash P ⟨#[116, 121, 112, 101, 46, 95, 95, 115, 117, 98, 99, 108, 97, 115, 115, 101, 115, 95, 95, 46, 69, 120, 99, 101, 112, 116, 105, 111, 110, 46, 110]⟩, .str ⟨#[116, 121, 112, 101, 46, 95, 95, 115, 117, 98, 99, 108, 97, 115, 115, 101, 115, 95, 95, 46, 69, 120, 99, 101, 112, 116, 105, 111, 110, 46, 110]⟩ 227, (.int 1 0)⟩] 2), #[]⟩
noncomputable def o3_s12 (P : Params) : Obj := ⟨(.type "dict"), none, (.dict #[⟨PyData.keyHash P ⟨#[95, 95, 110, 97, 109, 101, 95, 95]⟩, .str ⟨#[95, 95, 110, 97, 109, 101, 95, 95]⟩ 165, (.str ⟨#[99, 112, 121, 51, 49, 51, 46, 115, 116, 114, 105, 110, 103, 112, 114, 101, 112]⟩ 346)⟩, ⟨PyData.keyHash P ⟨#[95, 95, 100, 111, 99, 95, 95]⟩, .str ⟨#[95, 95, 100, 111, 99, 95, 95]⟩ 166, .none⟩, ⟨PyData.keyHash P ⟨#[95, 95, 112, 97, 99, 107, 97, 103, 101, 95, 95]⟩, .str ⟨#[95, 95, 112, 97, 99, 107, 97, 103, 101, 95, 95]⟩ 167, .none⟩, ⟨PyData.keyHash P ⟨#[95, 95, 108, 111, 97, 100, 101, 114, 95, 95]⟩, .str ⟨#[95, 95, 108, 111, 97, 100, 101, 114, 95, 95]⟩ 168, (.builtin "__main__.__loader__#opaque")⟩, ⟨PyData.keyHash P ⟨#[95, 95, 115, 112, 101, 99, 95, 95]⟩, .str ⟨#[95, 95, 115, 112, 101, 99, 95, 95]⟩ 169, .none⟩, ⟨PyData.keyHash P ⟨#[95, 95, 97, 110, 110, 111, 116, 97, 116, 105, 111, 110, 115, 95, 95]⟩, .str ⟨#[95, 95, 97, 110, 110, 111, 116, 97, 116, 105, 111, 110, 115, 95, 95]⟩ 170, (.ref 6)⟩, ⟨PyData.keyHash P ⟨#[95, 95, 98, 117, 105, 108, 116, 105, 110, 115, 95, 95]⟩, .str ⟨#[95, 95, 98, 117, 105, 108, 116, 105, 110, 115, 95, 95]⟩ 171, (.ref 4)⟩, ⟨PyData.keyHash P ⟨#[95, 95, 102, 105, 108, 101, 95, 95]⟩, .str ⟨#[95, 95, 102, 105, 108, 101, 95, 95]⟩ 173, (.str ⟨#[47, 99, 108, 97, 105, 109, 47, 99, 117, 116, 46, 112, 121]⟩ 172)⟩, ⟨PyData.keyHash P ⟨#[95, 95, 99, 97, 99, 104, 101, 100, 95, 95]⟩, .str ⟨#[95, 95, 99, 97, 99, 104, 101, 100, 95, 95]⟩ 174, .none⟩, ⟨PyData.keyHash P ⟨#[95, 115, 116, 114, 99, 111, 108, 108]⟩, .str ⟨#[95, 115, 116, 114, 99, 111, 108, 108]⟩ 196, (.ref 21)⟩, ⟨PyData.keyHash P ⟨#[67, 72, 65, 82, 95, 77, 65, 88]⟩, .str ⟨#[67, 72, 65, 82, 95, 77, 65, 88]⟩ 198, (.int 127 197)⟩, ⟨PyData.keyHash P ⟨#[95, 103, 114, 111, 117, 112, 105, 110, 103, 95, 105, 110, 116, 101, 114, 118, 97, 108, 115]⟩, .str ⟨#[95, 103, 114, 111, 117, 112, 105, 110, 103, 95, 105, 110, 116, 101, 114, 118, 97, 108, 115]⟩ 207, (.ref 28)⟩, ⟨PyData.keyHash P ⟨#[69, 114, 114, 111, 114]⟩, .str ⟨#[69, 114, 114, 111, 114]⟩ 229, (.ref 38)⟩, ⟨PyData.keyHash P ⟨#[101, 114, 114, 111, 114, 95, 114, 101, 112, 108, 121]⟩, .str ⟨#[101, 114, 114, 111, 114, 95, 114, 101, 112, 108, 121]⟩ 245, (.ref 51)⟩, ⟨PyData.keyHash P ⟨#[101, 114, 114, 111, 114, 95, 112, 114, 111, 116, 111]⟩, .str ⟨#[101, 114, 114, 111, 114, 95, 112, 114, 111, 116, 111]⟩ 261, (.ref 63)⟩, ⟨PyData.keyHash P ⟨#[112, 97, 114, 115, 101, 50, 50, 57]⟩, .str ⟨#[112, 97, 114, 115, 101, 50, 50, 57]⟩ 274, (.ref 72)⟩, ⟨PyData.keyHash P ⟨#[112, 97, 114, 115, 101, 50, 53, 55]⟩, .str ⟨#[112, 97, 114, 115, 101, 50, 53, 55]⟩ 285, (.ref 79)⟩, ⟨PyData.keyHash P ⟨#[95, 110, 101, 116, 114, 99, 108, 101, 120]⟩, .str ⟨#[95, 110, 101, 116, 114, 99, 108, 101, 120]⟩ 345, (.ref 117)⟩] 18), #[]⟩
noncomputable def o12_s12 (P : Params) : Obj := ⟨.none, none, (.fields #[(.int 2 0), (.int 0 0), (.ref 20), (.int 5 0), (.int 0 0), (.ref 27), (.int 18 0), (.int 0 0), (.ref 34), (.int 20 0), (.int 0 0), (.ref 47), (.int 22 0), (.int 0 0), (.ref 59), (.int 24 0), (.int 0 0), (.ref 71), (.int 41 0), (.int 0 0), (.ref 78), (.int 59 0), (.int 0 0), (.ref 85)]), #[]⟩
noncomputable def o15_s12 (P : Params) : Obj := ⟨(.type "tuple"), none, (.seq #[] 0), #[]⟩
noncomputable def o16_s12 (P : Params) : Obj := ⟨.none, none, (.fields #[]), #[]⟩
noncomputable def o17_s12 (P : Params) : Obj := ⟨(.type "tuple"), none, (.seq #[(.str ⟨#[97]⟩ 192), (.str ⟨#[98]⟩ 193)] 0), #[]⟩
noncomputable def o18_s12 (P : Params) : Obj := ⟨(.type "tuple"), none, (.seq #[] 0), #[]⟩
noncomputable def o19_s12 (P : Params) : Obj := ⟨.none, none, (.func (fdOf (topFn 1) ⟨#[95, 115, 116, 114, 99, 111, 108, 108]⟩ 0 [] .none .none .none .none none .none .none 0)), #[]⟩
noncomputable def o20_s12 (P : Params) : Obj := ⟨(.type "code"), none, (.fields #[(.str ⟨#[95, 115, 116, 114, 99, 111, 108, 108]⟩ 189), (.str ⟨#[95, 115, 116, 114, 99, 111, 108, 108]⟩ 190), (.str ⟨#[47, 99, 108, 97, 105, 109, 47, 99, 117, 116, 46, 112, 121]⟩ 191), (.int 2 0), (.int 2 0), (.int 0 0), (.int 0 0), (.int 3 0), (.ref 15), (.bool true), (.int 181 0), (.ref 16), .none, (.ref 17), (.ref 18), (.ref 19), (.int 194 0), (.int 2 0), (.str ⟨#[47, 99, 108, 97, 105, 109, 47, 99, 117, 116, 46, 112, 121]⟩ 195)]), #[]⟩
noncomputable def o21_s12 (P : Params) : Obj := ⟨(.type "function"), none, (.func (fdOf (topFn 1) ⟨#[95, 115, 116, 114, 99, 111, 108, 108]⟩ 3 [] .none .none .none (.str ⟨#[99, 112, 121, 51, 49, 51, 46, 108, 111, 99, 97, 108, 101]⟩ 187) none (.ref 20) .none 0)), #[]⟩
noncomputable def o22_s12 (P : Params) : Obj := ⟨(.type "tuple"), none, (.seq #[] 0), #[]⟩
noncomputable def o23_s12 (P : Params) : Obj := ⟨.none, none, (.fields #[]), #[]⟩
noncomputable def o24_s12 (P : Params) : Obj := ⟨(.type "tuple"), none, (.seq #[(.str ⟨#[103, 114, 111, 117, 112, 105, 110, 103]⟩ 202), (.str ⟨#[108, 97, 115, 116, 95, 105, 110, 116, 101, 114, 118, 97, 108]⟩ 203), (.str ⟨#[105, 110, 116, 101, 114, 118, 97, 108]⟩ 204)] 0), #[]⟩
noncomputable def o25_s12 (P : Params) : Obj := ⟨(.type "tuple"), none, (.seq #[] 0), #[]⟩
noncomputable def o26_s12 (P : Params) : Obj := ⟨.none, none, (.func (fdOf (topFn 3) ⟨#[95, 103, 114, 111, 117, 112, 105, 110, 103, 95, 105, 110, 116, 101, 114, 118, 97, 108, 115]⟩ 0 [] .none .none .none .none none .none .none 0)), #[]⟩
noncomputable def o27_s12 (P : Params) : Obj := ⟨(.type "code"), none, (.fields #[(.str ⟨#[95, 103, 114, 111, 117, 112, 105, 110, 103, 95, 105, 110, 116, 101, 114, 118, 97, 108, 115]⟩ 199), (.str ⟨#[95, 103, 114, 111, 117, 112, 105, 110, 103, 95, 105, 110, 116, 101, 114, 118, 97, 108, 115]⟩ 200), (.str ⟨#[47, 99, 108, 97, 105, 109, 47, 99, 117, 116, 46, 112, 121]⟩ 201), (.int 5 0), (.int 1 0), (.int 0 0), (.int 0 0), (.int 35 0), (.ref 22), (.bool true), (.int 181 0), (.ref 23), .none, (.ref 24), (.ref 25), (.ref 26), (.int 205 0), (.int 5 0), (.str ⟨#[47, 99, 108, 97, 105, 109, 47, 99, 117, 116, 46, 112, 121]⟩ 206)]), #[]⟩
noncomputable def o28_s12 (P : Params) : Obj := ⟨(.type "function"), none, (.func (fdOf (topFn 3) ⟨#[95, 103, 114, 111, 117, 112, 105, 110, 103, 95, 105, 110, 116, 101, 114, 118, 97, 108, 115]⟩ 3 [] .none .none .none (.str ⟨#[99, 112, 121, 51, 49, 51, 46, 108, 111, 99, 97, 108, 101]⟩ 187) none (.ref 27) .none 0)), #[]⟩
noncomputable def o29_s12 (P : Params) : Obj := ⟨(.type "tuple"), none, (.seq #[(.type "Exception")] 0), #[]⟩
noncomputable def o30_s12 (P : Params) : Obj := ⟨(.type "builtin_function_or_method"), none, (.fields #[(.builtin "type.__prepare__"), (.type "type")]), #[]⟩
noncomputable def o31_s12 (P : Params) : Obj := ⟨(.type "dict"), none, (.dict #[⟨PyData.keyHash P ⟨#[95, 95, 109, 111, 100, 117, 108, 101, 95, 95]⟩, .str ⟨#[95, 95, 109, 111, 100, 117, 108, 101, 95, 95]⟩ 217, (.str ⟨#[99, 112, 121, 51, 49, 51, 46, 102, 116, 112, 108, 105, 98]⟩ 208)⟩, ⟨PyData.keyHash P ⟨#[95, 95, 113, 117, 97, 108, 110, 97, 109, 101, 95, 95]⟩, .str ⟨#[95, 95, 113, 117, 97, 108, 110, 97, 109, 101, 95, 95]⟩ 219, (.str ⟨#[69, 114, 114, 111, 114]⟩ 218)⟩, ⟨PyData.keyHash P ⟨#[95, 95, 102, 105, 114, 115, 116, 108, 105, 110, 101, 110, 111, 95, 95]⟩, .str ⟨#[95, 95, 102, 105, 114, 115, 116, 108, 105, 110, 101, 110, 111, 95, 95]⟩ 221, (.int 18 220)⟩, ⟨PyData.keyHash P ⟨#[95, 95, 115, 116, 97, 116, 105, 99, 95, 97, 116, 116, 114, 105, 98, 117, 116, 101, 115, 95, 95]⟩, .str ⟨#[95, 95, 115, 116, 97, 116, 105, 99, 95, 97, 116, 116, 114, 105, 98, 117, 116, 101, 115, 95, 95]⟩ 222, (.ref 36)⟩] 4), #[]⟩
noncomputable def o32_s12 (P : Params) : Obj := ⟨(.type "tuple"), none, (.seq #[] 0), #[]⟩
noncomputable def o33_s12 (P : Params) : Obj := ⟨.none, none, (.fields #[]), #[]⟩
noncomputable def o34_s12 (P : Params) : Obj := ⟨(.type "code"), none, (.fields #[(.str ⟨#[69, 114, 114, 111, 114]⟩ 212), (.str ⟨#[69, 114, 114, 111, 114]⟩ 213), (.str ⟨#[47, 99, 108, 97, 105, 109, 47, 99, 117, 116, 46, 112, 121]⟩ 214), (.int 18 0), (.int 0 0), (.int 0 0), (.int 0 0), (.int 0 0), (.ref 32), (.bool false), (.int 181 0), (.ref 33), .none, .none, .none, .none, (.int 215 0), (.int 18 0), (.str ⟨#[47, 99, 108, 97, 105, 109, 47, 99, 117, 116, 46, 112, 121]⟩ 216)]), #[]⟩
noncomputable def o35_s12 (P : Params) : Obj := ⟨(.type "frame"), none, .plain, #[(some (.ref 34)), (some (.ref 3)), (some (.ref 31)), none, (some (.str ⟨#[99, 112, 121, 51, 49, 51, 46, 102, 116, 112, 108, 105, 98]⟩ 208)), none, (some (.ref 0))]⟩
noncomputable def o36_s12 (P : Params) : Obj := ⟨(.type "tuple"), none, (.seq #[] 0), #[]⟩
noncomputable def o37_s12 (P : Params) : Obj := ⟨(.type "dict"), none, (.dict #[⟨PyData.keyHash P ⟨#[95, 95, 109, 111, 100, 117, 108, 101, 95, 95]⟩, .str ⟨#[95, 95, 109, 111, 100, 117, 108, 101, 95, 95]⟩ 217, (.str ⟨#[99, 112, 121, 51, 49, 51, 46, 102, 116, 112, 108, 105, 98]⟩ 208)⟩, ⟨PyData.keyHash P ⟨#[95, 95, 102, 105, 114, 115, 116, 108, 105, 110, 101, 110, 111, 95, 95]⟩, .str ⟨#[95, 95, 102, 105, 114, 115, 116, 108, 105, 110, 101, 110, 111, 95, 95]⟩ 221, (.int 18 220)⟩, ⟨PyData.keyHash P ⟨#[95, 95, 115, 116, 97, 116, 105, 99, 95, 97, 116, 116, 114, 105, 98, 117, 116, 101, 115, 95, 95]⟩, .str ⟨#[95, 95, 115, 116, 97, 116, 105, 99, 95, 97, 116, 116, 114, 105, 98, 117, 116, 101, 115, 95, 95]⟩ 222, (.ref 36)⟩, ⟨PyData.keyHash P ⟨#[95, 95, 119, 101, 97, 107, 114, 101, 102, 95, 95]⟩, .str ⟨#[95, 95, 119, 101, 97, 107, 114, 101, 102, 95, 95]⟩ 224, (.ref 39)⟩, ⟨PyData.keyHash P ⟨#[95, 95, 100, 111, 99, 95, 95]⟩, .str ⟨#[95, 95, 100, 111, 99, 95, 95]⟩ 225, .none⟩] 3), #[]⟩
noncomputable def o38_s12 (P : Params) : Obj := ⟨(.type "type"), none, (.cls { name := ⟨#[69, 114, 114, 111, 114]⟩, bases := [(.type "Exception")], mro := [(.ref 38), (.type "Exception"), (.type "BaseException"), (.type "object")], ns := 37, qualname := ⟨#[69, 114, 114, 111, 114]⟩, hasDict := true, slotNames := [], subclasses := [(.ref 51), (.ref 63)], abstract := false, collection := none, hasDel := false }), #[(some (.ref 29)), none, (some (.str ⟨#[69, 114, 114, 111, 114]⟩ 210)), (some (.str ⟨#[69, 114, 114, 111, 114]⟩ 218)), (some (.builtin "Exception.__new__")), (some (.bool true))]⟩
noncomputable def o39_s12 (P : Params) : Obj := ⟨(.type "getset_descriptor"), none, (.fields #[(.str ⟨#[95, 95, 119, 101, 97, 107, 114, 101, 102, 95, 95]⟩ 223), (.ref 38), (.builtin "ExceptionGroup.__weakref__"), .none]), #[]⟩
noncomputable def o40_s12 (P : Params) : Obj := ⟨(.type "super"), none, (.fields #[(.ref 38), (.ref 38), (.ref 38)]), #[]⟩
noncomputable def o41_s12 (P : Params) : Obj := ⟨(.type "builtin_function_or_method"), none, (.fields #[(.builtin "object.__init_subclass__"), (.ref 38)]), #[]⟩
noncomputable def o42_s12 (P : Params) : Obj := ⟨(.type "tuple"), none, (.seq #[(.ref 38)] 0), #[]⟩
noncomputable def o43_s12 (P : Params) : Obj := ⟨(.type "builtin_function_or_method"), none, (.fields #[(.builtin "type.__prepare__"), (.type "type")]), #[]⟩
noncomputable def o44_s12 (P : Params) : Obj := ⟨(.type "dict"), none, (.dict #[⟨PyData.keyHash P ⟨#[95, 95, 109, 111, 100, 117, 108, 101, 95, 95]⟩, .str ⟨#[95, 95, 109, 111, 100, 117, 108, 101, 95, 95]⟩ 237, (.str ⟨#[99, 112, 121, 51, 49, 51, 46, 102, 116, 112, 108, 105, 98]⟩ 208)⟩, ⟨PyData.keyHash P ⟨#[95, 95, 113, 117, 97, 108, 110, 97, 109, 101, 95, 95]⟩, .str ⟨#[95, 95, 113, 117, 97, 108, 110, 97, 109, 101, 95, 95]⟩ 239, (.str ⟨#[101, 114, 114, 111, 114, 95, 114, 101, 112, 108, 121]⟩ 238)⟩, ⟨PyData.keyHash P ⟨#[95, 95, 102, 105, 114, 115, 116, 108, 105, 110, 101, 110, 111, 95, 95]⟩, .str ⟨#[95, 95, 102, 105, 114, 115, 116, 108, 105, 110, 101, 110, 111, 95, 95]⟩ 241, (.int 20 240)⟩, ⟨PyData.keyHash P ⟨#[95, 95, 115, 116, 97, 116, 105, 99, 95, 97, 116, 116, 114, 105, 98, 117, 116, 101, 115, 95, 95]⟩, .str ⟨#[95, 95, 115, 116, 97, 116, 105, 99, 95, 97, 116, 116, 114, 105, 98, 117, 116, 101, 115, 95, 95]⟩ 242, (.ref 49)⟩] 4), #[]⟩
noncomputable def o45_s12 (P : Params) : Obj := ⟨(.type "tuple"), none, (.seq #[] 0), #[]⟩
noncomputable def o46_s12 (P : Params) : Obj := ⟨.none, none, (.fields #[]), #[]⟩
noncomputable def o47_s12 (P : Params) : Obj := ⟨(.type "code"), none, (.fields #[(.str ⟨#[101, 114, 114, 111, 114, 95, 114, 101, 112, 108, 121]⟩ 232), (.str ⟨#[101, 114, 114, 111, 114, 95, 114, 101, 112, 108, 121]⟩ 233), (.str ⟨#[47, 99, 108, 97, 105, 109, 47, 99, 117, 116, 46, 112, 121]⟩ 234), (.int 20 0), (.int 0 0), (.int 0 0), (.int 0 0), (.int 0 0), (.ref 45), (.bool false), (.int 181 0), (.ref 46), .none, .none, .none, .none, (.int 235 0), (.int 20 0), (.str ⟨#[47, 99, 108, 97, 105, 109, 47, 99, 117, 116, 46, 112, 121]⟩ 236)]), #[]⟩
noncomputable def o48_s12 (P : Params) : Obj := ⟨(.type "frame"), none, .plain, #[(some (.ref 47)), (some (.ref 3)), (some (.ref 44)), none, (some (.str ⟨#[99, 112, 121, 51, 49, 51, 46, 102, 116, 112, 108, 105, 98]⟩ 208)), none, (some (.ref 0))]⟩
noncomputable def o49_s12 (P : Params) : Obj := ⟨(.type "tuple"), none, (.seq #[] 0), #[]⟩
noncomputable def o50_s12 (P : Params) : Obj := ⟨(.type "dict"), none, (.dict #[⟨PyData.keyHash P ⟨#[95, 95, 109, 111, 100, 117, 108, 101, 95, 95]⟩, .str ⟨#[95, 95, 109, 111, 100, 117, 108, 101, 95, 95]⟩ 237, (.str ⟨#[99, 112, 121, 51, 49, 51, 46, 102, 116, 112, 108, 105, 98]⟩ 208)⟩, ⟨PyData.keyHash P ⟨#[95, 95, 102, 105, 114, 115, 116, 108, 105, 110, 101, 110, 111, 95, 95]⟩, .str ⟨#[95, 95, 102, 105, 114, 115, 116, 108, 105, 110, 101, 110, 111, 95, 95]⟩ 241, (.int 20 240)⟩, ⟨PyData.keyHash P ⟨#[95, 95, 115, 116, 97, 116, 105, 99, 95, 97, 116, 116, 114, 105, 98, 117, 116, 101, 115, 95, 95]⟩, .str ⟨#[95, 95, 115, 116, 97, 116, 105, 99, 95, 97, 116, 116, 114, 105, 98, 117, 116, 101, 115, 95, 95]⟩ 242, (.ref 49)⟩, ⟨PyData.keyHash P ⟨#[95, 95, 100, 111, 99, 95, 95]⟩, .str ⟨#[95, 95, 100, 111, 99, 95, 95]⟩ 243, .none⟩] 2), #[]⟩
noncomputable def o51_s12 (P : Params) : Obj := ⟨(.type "type"), none, (.cls { name := ⟨#[101, 114, 114, 111, 114, 95, 114, 101, 112, 108, 121]⟩, bases := [(.ref 38)], mro := [(.ref 51), (.ref 38), (.type "Exception"), (.type "BaseException"), (.type "object")], ns := 50, qualname := ⟨#[101, 114, 114, 111, 114, 95, 114, 101, 112, 108, 121]⟩, hasDict := true, slotNames := [], subclasses := [], abstract := false, collection := none, hasDel := false }), #[(some (.ref 42)), none, (some (.str ⟨#[101, 114, 114, 111, 114, 95, 114, 101, 112, 108, 121]⟩ 230)), (some (.str ⟨#[101, 114, 114, 111, 114, 95, 114, 101, 112, 108, 121]⟩ 238)), (some (.builtin "Exception.__new__")), (some (.bool true))]⟩
noncomputable def o52_s12 (P : Params) : Obj := ⟨(.type "super"), none, (.fields #[(.ref 51), (.ref 51), (.ref 51)]), #[]⟩
noncomputable def o53_s12 (P : Params) : Obj := ⟨(.type "builtin_function_or_method"), none, (.fields #[(.builtin "object.__init_subclass__"), (.ref 51)]), #[]⟩
noncomputable def o54_s12 (P : Params) : Obj := ⟨(.type "tuple"), none, (.seq #[(.ref 38)] 0), #[]⟩
noncomputable def o55_s12 (P : Params) : Obj := ⟨(.type "builtin_function_or_method"), none, (.fields #[(.builtin "type.__prepare__"), (.type "type")]), #[]⟩
noncomputable def o56_s12 (P : Params) : Obj := ⟨(.type "dict"), none, (.dict #[⟨PyData.keyHash P ⟨#[95, 95, 109, 111, 100, 117, 108, 101, 95, 95]⟩, .str ⟨#[95, 95, 109, 111, 100, 117, 108, 101, 95, 95]⟩ 253, (.str ⟨#[99, 112, 121, 51, 49, 51, 46, 102, 116, 112, 108, 105, 98]⟩ 208)⟩, ⟨PyData.keyHash P ⟨#[95, 95, 113, 117, 97, 108, 110, 97, 109, 101, 95, 95]⟩, .str ⟨#[95, 95, 113, 117, 97, 108, 110, 97, 109, 101, 95, 95]⟩ 255, (.str ⟨#[101, 114, 114, 111, 114, 95, 112, 114, 111, 116, 111]⟩ 254)⟩, ⟨PyData.keyHash P ⟨#[95, 95, 102, 105, 114, 115, 116, 108, 105, 110, 101, 110, 111, 95, 95]⟩, .str ⟨#[95, 95, 102, 105, 114, 115, 116, 108, 105, 110, 101, 110, 111, 95, 95]⟩ 257, (.int 22 256)⟩, ⟨PyData.keyHash P ⟨#[95, 95, 115, 116, 97, 116, 105, 99, 95, 97, 116, 116, 114, 105, 98, 117, 116, 101, 115, 95, 95]⟩, .str ⟨#[95, 95, 115, 116, 97, 116, 105, 99, 95, 97, 116, 116, 114, 105, 98, 117, 116, 101, 115, 95, 95]⟩ 258, (.ref 61)⟩] 4), #[]⟩
noncomputable def o57_s12 (P : Params) : Obj := ⟨(.type "tuple"), none, (.seq #[] 0), #[]⟩
noncomputable def o58_s12 (P : Params) : Obj := ⟨.none, none, (.fields #[]), #[]⟩
noncomputable def o59_s12 (P : Params) : Obj := ⟨(.type "code"), none, (.fields #[(.str ⟨#[101, 114, 114, 111, 114, 95, 112, 114, 111, 116, 111]⟩ 248), (.str ⟨#[101, 114, 114, 111, 114, 95, 112, 114, 111, 116, 111]⟩ 249), (.str ⟨#[47, 99, 108, 97, 105, 109, 47, 99, 117, 116, 46, 112, 121]⟩ 250), (.int 22 0), (.int 0 0), (.int 0 0), (.int 0 0), (.int 0 0), (.ref 57), (.bool false), (.int 181 0), (.ref 58), .none, .none, .none, .none, (.int 251 0), (.int 22 0), (.str ⟨#[47, 99, 108, 97, 105, 109, 47, 99, 117, 116, 46, 112, 121]⟩ 252)]), #[]⟩
noncomputable def o60_s12 (P : Params) : Obj := ⟨(.type "frame"), none, .plain, #[(some (.ref 59)), (some (.ref 3)), (some (.ref 56)), none, (some (.str ⟨#[99, 112, 121, 51, 49, 51, 46, 102, 116, 112, 108, 105, 98]⟩ 208)), none, (some (.ref 0))]⟩
noncomputable def o61_s12 (P : Params) : Obj := ⟨(.type "tuple"), none, (.seq #[] 0), #[]⟩
noncomputable def o62_s12 (P : Params) : Obj := ⟨(.type "dict"), none, (.dict #[⟨PyData.keyHash P ⟨#[95, 95, 109, 111, 100, 117, 108, 101, 95, 95]⟩, .str ⟨#[95, 95, 109, 111, 100, 117, 108, 101, 95, 95]⟩ 253, (.str ⟨#[99, 112, 121, 51, 49, 51, 46, 102, 116, 112, 108, 105, 98]⟩ 208)⟩, ⟨PyData.keyHash P ⟨#[95, 95, 102, 105, 114, 115, 116, 108, 105, 110, 101, 110, 111, 95, 95]⟩, .str ⟨#[95, 95, 102, 105, 114, 115, 116, 108, 105, 110, 101, 110, 111, 95, 95]⟩ 257, (.int 22 256)⟩, ⟨PyData.keyHash P ⟨#[95, 95, 115, 116, 97, 116, 105, 99, 95, 97, 116, 116, 114, 105, 98, 117, 116, 101, 115, 95, 95]⟩, .str ⟨#[95, 95, 115, 116, 97, 116, 105, 99, 95, 97, 116, 116, 114, 105, 98, 117, 116, 101, 115, 95, 95]⟩ 258, (.ref 61)⟩, ⟨PyData.keyHash P ⟨#[95, 95, 100, 111, 99, 95, 95]⟩, .str ⟨#[95, 95, 100, 111, 99, 95, 95]⟩ 259, .none⟩] 2), #[]⟩
noncomputable def o63_s12 (P : Params) : Obj := ⟨(.type "type"), none, (.cls { name := ⟨#[101, 114, 114, 111, 114, 95, 112, 114, 111, 116, 111]⟩, bases := [(.ref 38)], mro := [(.ref 63), (.ref 38), (.type "Exception"), (.type "BaseException"), (.type "object")], ns := 62, qualname := ⟨#[101, 114, 114, 111, 114, 95, 112, 114, 111, 116, 111]⟩, hasDict := true, slotNames := [], subclasses := [], abstract := false, collection := none, hasDel := false }), #[(some (.ref 54)), none, (some (.str ⟨#[101, 114, 114, 111, 114, 95, 112, 114, 111, 116, 111]⟩ 246)), (some (.str ⟨#[101, 114, 114, 111, 114, 95, 112, 114, 111, 116, 111]⟩ 254)), (some (.builtin "Exception.__new__")), (some (.bool true))]⟩
noncomputable def o64_s12 (P : Params) : Obj := ⟨(.type "super"), none, (.fields #[(.ref 63), (.ref 63), (.ref 63)]), #[]⟩
noncomputable def o65_s12 (P : Params) : Obj := ⟨(.type "builtin_function_or_method"), none, (.fields #[(.builtin "object.__init_subclass__"), (.ref 63)]), #[]⟩
noncomputable def o66_s12 (P : Params) : Obj := ⟨(.type "tuple"), none, (.seq #[] 0), #[]⟩
noncomputable def o67_s12 (P : Params) : Obj := ⟨.none, none, (.fields #[]), #[]⟩
noncomputable def o68_s12 (P : Params) : Obj := ⟨(.type "tuple"), none, (.seq #[(.str ⟨#[114, 101, 115, 112]⟩ 265), (.str ⟨#[112, 101, 101, 114]⟩ 266), (.str ⟨#[108, 101, 102, 116]⟩ 267), (.str ⟨#[114, 105, 103, 104, 116]⟩ 268), (.str ⟨#[112, 97, 114, 116, 115]⟩ 269), (.str ⟨#[104, 111, 115, 116]⟩ 270), (.str ⟨#[112, 111, 114, 116]⟩ 271)] 0), #[]⟩
noncomputable def o69_s12 (P : Params) : Obj := ⟨(.type "tuple"), none, (.seq #[] 0), #[]⟩
noncomputable def o70_s12 (P : Params) : Obj := ⟨.none, none, (.func (fdOf (topFn 8) ⟨#[112, 97, 114, 115, 101, 50, 50, 57]⟩ 0 [] .none .none .none .none none .none .none 0)), #[]⟩
noncomputable def o71_s12 (P : Params) : Obj := ⟨(.type "code"), none, (.fields #[(.str ⟨#[112, 97, 114, 115, 101, 50, 50, 57]⟩ 262), (.str ⟨#[112, 97, 114, 115, 101, 50, 50, 57]⟩ 263), (.str ⟨#[47, 99, 108, 97, 105, 109, 47, 99, 117, 116, 46, 112, 121]⟩ 264), (.int 24 0), (.int 2 0), (.int 0 0), (.int 0 0), (.int 3 0), (.ref 66), (.bool true), (.int 181 0), (.ref 67), .none, (.ref 68), (.ref 69), (.ref 70), (.int 272 0), (.int 24 0), (.str ⟨#[47, 99, 108, 97, 105, 109, 47, 99, 117, 116, 46, 112, 121]⟩ 273)]), #[]⟩
noncomputable def o72_s12 (P : Params) : Obj := ⟨(.type "function"), none, (.func (fdOf (topFn 8) ⟨#[112, 97, 114, 115, 101, 50, 50, 57]⟩ 3 [] .none .none .none (.str ⟨#[99, 112, 121, 51, 49, 51, 46, 102, 116, 112, 108, 105, 98]⟩ 208) none (.ref 71) .none 0)), #[]⟩
noncomputable def o73_s12 (P : Params) : Obj := ⟨(.type "tuple"), none, (.seq #[] 0), #[]⟩
noncomputable def o74_s12 (P : Params) : Obj := ⟨.none, none, (.fields #[]), #[]⟩
noncomputable def o75_s12 (P : Params) : Obj := ⟨(.type "tuple"), none, (.seq #[(.str ⟨#[114, 101, 115, 112]⟩ 278), (.str ⟨#[100, 105, 114, 110, 97, 109, 101]⟩ 279), (.str ⟨#[105]⟩ 280), (.str ⟨#[110]⟩ 281), (.str ⟨#[99]⟩ 282)] 0), #[]⟩
noncomputable def o76_s12 (P : Params) : Obj := ⟨(.type "tuple"), none, (.seq #[] 0), #[]⟩
noncomputable def o77_s12 (P : Params) : Obj := ⟨.none, none, (.func (fdOf (topFn 9) ⟨#[112, 97, 114, 115, 101, 50, 53, 55]⟩ 0 [] .none .none .none .none none .none .none 0)), #[]⟩
noncomputable def o78_s12 (P : Params) : Obj := ⟨(.type "code"), none, (.fields #[(.str ⟨#[112, 97, 114, 115, 101, 50, 53, 55]⟩ 275), (.str ⟨#[112, 97, 114, 115, 101, 50, 53, 55]⟩ 276), (.str ⟨#[47, 99, 108, 97, 105, 109, 47, 99, 117, 116, 46, 112, 121]⟩ 277), (.int 41 0), (.int 1 0), (.int 0 0), (.int 0 0), (.int 3 0), (.ref 73), (.bool true), (.int 181 0), (.ref 74), .none, (.ref 75), (.ref 76), (.ref 77), (.int 283 0), (.int 41 0), (.str ⟨#[47, 99, 108, 97, 105, 109, 47, 99, 117, 116, 46, 112, 121]⟩ 284)]), #[]⟩
noncomputable def o79_s12 (P : Params) : Obj := ⟨(.type "function"), none, (.func (fdOf (topFn 9) ⟨#[112, 97, 114, 115, 101, 50, 53, 55]⟩ 3 [] .none .none .none (.str ⟨#[99, 112, 121, 51, 49, 51, 46, 102, 116, 112, 108, 105, 98]⟩ 208) none (.ref 78) .none 0)), #[]⟩
noncomputable def o80_s12 (P : Params) : Obj := ⟨(.type "tuple"), none, (.seq #[] 0), #[]⟩
noncomputable def o81_s12 (P : Params) : Obj := ⟨(.type "builtin_function_or_method"), none, (.fields #[(.builtin "type.__prepare__"), (.type "type")]), #[]⟩
noncomputable def o82_s12 (P : Params) : Obj := ⟨(.type "dict"), none, (.dict #[⟨PyData.keyHash P ⟨#[95, 95, 109, 111, 100, 117, 108, 101, 95, 95]⟩, .str ⟨#[95, 95, 109, 111, 100, 117, 108, 101, 95, 95]⟩ 295, (.str ⟨#[99, 112, 121, 51, 49, 51, 46, 110, 101, 116, 114, 99]⟩ 286)⟩, ⟨PyData.keyHash P ⟨#[95, 95, 113, 117, 97, 108, 110, 97, 109, 101, 95, 95]⟩, .str ⟨#[95, 95, 113, 117, 97, 108, 110, 97, 109, 101, 95, 95]⟩ 297, (.str ⟨#[95, 110, 101, 116, 114, 99, 108, 101, 120]⟩ 296)⟩, ⟨PyData.keyHash P ⟨#[95, 95, 102, 105, 114, 115, 116, 108, 105, 110, 101, 110, 111, 95, 95]⟩, .str ⟨#[95, 95, 102, 105, 114, 115, 116, 108, 105, 110, 101, 110, 111, 95, 95]⟩ 299, (.int 59 298)⟩, ⟨PyData.keyHash P ⟨#[95, 95, 105, 110, 105, 116, 95, 95]⟩, .str ⟨#[95, 95, 105, 110, 105, 116, 95, 95]⟩ 307, (.ref 93)⟩, ⟨PyData.keyHash P ⟨#[95, 114, 101, 97, 100, 95, 99, 104, 97, 114]⟩, .str ⟨#[95, 114, 101, 97, 100, 95, 99, 104, 97, 114]⟩ 315, (.ref 100)⟩, ⟨PyData.keyHash P ⟨#[103, 101, 116, 95, 116, 111, 107, 101, 110]⟩, .str ⟨#[103, 101, 116, 95, 116, 111, 107, 101, 110]⟩ 325, (.ref 107)⟩, ⟨PyData.keyHash P ⟨#[112, 117, 115, 104, 95, 116, 111, 107, 101, 110]⟩, .str ⟨#[112, 117, 115, 104, 95, 116, 111, 107, 101, 110]⟩ 333, (.ref 114)⟩, ⟨PyData.keyHash P ⟨#[95, 95, 115, 116, 97, 116, 105, 99, 95, 97, 116, 116, 114, 105, 98, 117, 116, 101, 115, 95, 95]⟩, .str ⟨#[95, 95, 115, 116, 97, 116, 105, 99, 95, 97, 116, 116, 114, 105, 98, 117, 116, 101, 115, 95, 95]⟩ 338, (.ref 115)⟩] 8), #[]⟩
noncomputable def o83_s12 (P : Params) : Obj := ⟨(.type "tuple"), none, (.seq #[] 0), #[]⟩
noncomputable def o84_s12 (P : Params) : Obj := ⟨.none, none, (.fields #[(.int 61 0), (.int 4 0), (.ref 92), (.int 67 0), (.int 4 0), (.ref 99), (.int 73 0), (.int 4 0), (.ref 106), (.int 100 0), (.int 4 0), (.ref 113)]), #[]⟩
noncomputable def o85_s12 (P : Params) : Obj := ⟨(.type "code"), none, (.fields #[(.str ⟨#[95, 110, 101, 116, 114, 99, 108, 101, 120]⟩ 290), (.str ⟨#[95, 110, 101, 116, 114, 99, 108, 101, 120]⟩ 291), (.str ⟨#[47, 99, 108, 97, 105, 109, 47, 99, 117, 116, 46, 112, 121]⟩ 292), (.int 59 0), (.int 0 0), (.int 0 0), (.int 0 0), (.int 0 0), (.ref 83), (.bool false), (.int 181 0), (.ref 84), .none, .none, .none, .none, (.int 293 0), (.int 59 0), (.str ⟨#[47, 99, 108, 97, 105, 109, 47, 99, 117, 116, 46, 112, 121]⟩ 294)]), #[]⟩
noncomputable def o86_s12 (P : Params) : Obj := ⟨(.type "frame"), none, .plain, #[(some (.ref 85)), (some (.ref 3)), (some (.ref 82)), none, (some (.str ⟨#[99, 112, 121, 51, 49, 51, 46, 110, 101, 116, 114, 99]⟩ 286)), none, (some (.ref 0))]⟩
noncomputable def o87_s12 (P : Params) : Obj := ⟨(.type "tuple"), none, (.seq #[] 0), #[]⟩
noncomputable def o88_s12 (P : Params) : Obj := ⟨.none, none, (.fields #[]), #[]⟩
noncomputable def o89_s12 (P : Params) : Obj := ⟨(.type "tuple"), none, (.seq #[(.str ⟨#[115, 101, 108, 102]⟩ 303), (.str ⟨#[102, 112]⟩ 304)] 0), #[]⟩
noncomputable def o90_s12 (P : Params) : Obj := ⟨(.type "tuple"), none, (.seq #[] 0), #[]⟩
noncomputable def o91_s12 (P : Params) : Obj := ⟨.none, none, (.func (fdOf (inFn 11 0) ⟨#[95, 110, 101, 116, 114, 99, 108, 101, 120, 46, 95, 95, 105, 110, 105, 116, 95, 95]⟩ 0 [] .none .none .none .none none .none .none 0)), #[]⟩
noncomputable def o92_s12 (P : Params) : Obj := ⟨(.type "code"), none, (.fields #[(.str ⟨#[95, 95, 105, 110, 105, 116, 95, 95]⟩ 300), (.str ⟨#[95, 110, 101, 116, 114, 99, 108, 101, 120, 46, 95, 95, 105, 110, 105, 116, 95, 95]⟩ 301), (.str ⟨#[47, 99, 108, 97, 105, 109, 47, 99, 117, 116, 46, 112, 121]⟩ 302), (.int 61 0), (.int 2 0), (.int 0 0), (.int 0 0), (.int 3 0), (.ref 87), (.bool true), (.int 181 0), (.ref 88), .none, (.ref 89), (.ref 90), (.ref 91), (.int 305 0), (.int 61 0), (.str ⟨#[47, 99, 108, 97, 105, 109, 47, 99, 117, 116, 46, 112, 121]⟩ 306)]), #[]⟩
noncomputable def o93_s12 (P : Params) : Obj := ⟨(.type "function"), none, (.func (fdOf (inFn 11 0) ⟨#[95, 110, 101, 116, 114, 99, 108, 101, 120, 46, 95, 95, 105, 110, 105, 116, 95, 95]⟩ 3 [] .none .none .none (.str ⟨#[99, 112, 121, 51, 49, 51, 46, 110, 101, 116, 114, 99]⟩ 286) none (.ref 92) .none 0)), #[]⟩
noncomputable def o94_s12 (P : Params) : Obj := ⟨(.type "tuple"), none, (.seq #[] 0), #[]⟩
noncomputable def o95_s12 (P : Params) : Obj := ⟨.none, none, (.fields #[]), #[]⟩
noncomputable def o96_s12 (P : Params) : Obj := ⟨(.type "tuple"), none, (.seq #[(.str ⟨#[115, 101, 108, 102]⟩ 311), (.str ⟨#[99, 104]⟩ 312)] 0), #[]⟩
noncomputable def o97_s12 (P : Params) : Obj := ⟨(.type "tuple"), none, (.seq #[] 0), #[]⟩
noncomputable def o98_s12 (P : Params) : Obj := ⟨.none, none, (.func (fdOf (inFn 11 1) ⟨#[95, 110, 101, 116, 114, 99, 108, 101, 120, 46, 95, 114, 101, 97, 100, 95, 99, 104, 97, 114]⟩ 0 [] .none .none .none .none none .none .none 0)), #[]⟩
noncomputable def o99_s12 (P : Params) : Obj := ⟨(.type "code"), none, (.fields #[(.str ⟨#[95, 114, 101, 97, 100, 95, 99, 104, 97, 114]⟩ 308), (.str ⟨#[95, 110, 101, 116, 114, 99, 108, 101, 120, 46, 95, 114, 101, 97, 100, 95, 99, 104, 97, 114]⟩ 309), (.str ⟨#[47, 99, 108, 97, 105, 109, 47, 99, 117, 116, 46, 112, 121]⟩ 310), (.int 67 0), (.int 1 0), (.int 0 0), (.int 0 0), (.int 3 0), (.ref 94), (.bool true), (.int 181 0), (.ref 95), .none, (.ref 96), (.ref 97), (.ref 98), (.int 313 0), (.int 67 0), (.str ⟨#[47, 99, 108, 97, 105, 109, 47, 99, 117, 116, 46, 112, 121]⟩ 314)]), #[]⟩
noncomputable def o100_s12 (P : Params) : Obj := ⟨(.type "function"), none, (.func (fdOf (inFn 11 1) ⟨#[95, 110, 101, 116, 114, 99, 108, 101, 120, 46, 95, 114, 101, 97, 100, 95, 99, 104, 97, 114]⟩ 3 [] .none .none .none (.str ⟨#[99, 112, 121, 51, 49, 51, 46, 110, 101, 116, 114, 99]⟩ 286) none (.ref 99) .none 0)), #[]⟩
noncomputable def o101_s12 (P : Params) : Obj := ⟨(.type "tuple"), none, (.seq #[] 0), #[]⟩
noncomputable def o102_s12 (P : Params) : Obj := ⟨.none, none, (.fields #[]), #[]⟩
noncomputable def o103_s12 (P : Params) : Obj := ⟨(.type "tuple"), none, (.seq #[(.str ⟨#[115, 101, 108, 102]⟩ 319), (.str ⟨#[116, 111, 107, 101, 110]⟩ 320), (.str ⟨#[102, 105, 116, 101, 114]⟩ 321), (.str ⟨#[99, 104]⟩ 322)] 0), #[]⟩
noncomputable def o104_s12 (P : Params) : Obj := ⟨(.type "tuple"), none, (.seq #[] 0), #[]⟩
noncomputable def o105_s12 (P : Params) : Obj := ⟨.none, none, (.func (fdOf (inFn 11 2) ⟨#[95, 110, 101, 116, 114, 99, 108, 101, 120, 46, 103, 101, 116, 95, 116, 111, 107, 101, 110]⟩ 0 [] .none .none .none .none none .none .none 0)), #[]⟩
noncomputable def o106_s12 (P : Params) : Obj := ⟨(.type "code"), none, (.fields #[(.str ⟨#[103, 101, 116, 95, 116, 111, 107, 101, 110]⟩ 316), (.str ⟨#[95, 110, 101, 116, 114, 99, 108, 101, 120, 46, 103, 101, 116, 95, 116, 111, 107, 101, 110]⟩ 317), (.str ⟨#[47, 99, 108, 97, 105, 109, 47, 99, 117, 116, 46, 112, 121]⟩ 318), (.int 73 0), (.int 1 0), (.int 0 0), (.int 0 0), (.int 3 0), (.ref 101), (.bool true), (.int 181 0), (.ref 102), .none, (.ref 103), (.ref 104), (.ref 105), (.int 323 0), (.int 73 0), (.str ⟨#[47, 99, 108, 97, 105, 109, 47, 99, 117, 116, 46, 112, 121]⟩ 324)]), #[]⟩
noncomputable def o107_s12 (P : Params) : Obj := ⟨(.type "function"), none, (.func (fdOf (inFn 11 2) ⟨#[95, 110, 101, 116, 114, 99, 108, 101, 120, 46, 103, 101, 116, 95, 116, 111, 107, 101, 110]⟩ 3 [] .none .none .none (.str ⟨#[99, 112, 121, 51, 49, 51, 46, 110, 101, 116, 114, 99]⟩ 286) none (.ref 106) .none 0)), #[]⟩
noncomputable def o108_s12 (P : Params) : Obj := ⟨(.type "tuple"), none, (.seq #[] 0), #[]⟩
noncomputable def o109_s12 (P : Params) : Obj := ⟨.none, none, (.fields #[]), #[]⟩
noncomputable def o110_s12 (P : Params) : Obj := ⟨(.type "tuple"), none, (.seq #[(.str ⟨#[115, 101, 108, 102]⟩ 329), (.str ⟨#[116, 111, 107, 101, 110]⟩ 330)] 0), #[]⟩
noncomputable def o111_s12 (P : Params) : Obj := ⟨(.type "tuple"), none, (.seq #[] 0), #[]⟩
noncomputable def o112_s12 (P : Params) : Obj := ⟨.none, none, (.func (fdOf (inFn 11 3) ⟨#[95, 110, 101, 116, 114, 99, 108, 101, 120, 46, 112, 117, 115, 104, 95, 116, 111, 107, 101, 110]⟩ 0 [] .none .none .none .none none .none .none 0)), #[]⟩
noncomputable def o113_s12 (P : Params) : Obj := ⟨(.type "code"), none, (.fields #[(.str ⟨#[112, 117, 115, 104, 95, 116, 111, 107, 101, 110]⟩ 326), (.str ⟨#[95, 110, 101, 116, 114, 99, 108, 101, 120, 46, 112, 117, 115, 104, 95, 116, 111, 107, 101, 110]⟩ 327), (.str ⟨#[47, 99, 108, 97, 105, 109, 47, 99, 117, 116, 46, 112, 121]⟩ 328), (.int 100 0), (.int 2 0), (.int 0 0), (.int 0 0), (.int 3 0), (.ref 108), (.bool true), (.int 181 0), (.ref 109), .none, (.ref 110), (.ref 111), (.ref 112), (.int 331 0), (.int 100 0), (.str ⟨#[47, 99, 108, 97, 105, 109, 47, 99, 117, 116, 46, 112, 121]⟩ 332)]), #[]⟩
noncomputable def o114_s12 (P : Params) : Obj := ⟨(.type "function"), none, (.func (fdOf (inFn 11 3) ⟨#[95, 110, 101, 116, 114, 99, 108, 101, 120, 46, 112, 117, 115, 104, 95, 116, 111, 107, 101, 110]⟩ 3 [] .none .none .none (.str ⟨#[99, 112, 121, 51, 49, 51, 46, 110, 101, 116, 114, 99]⟩ 286) none (.ref 113) .none 0)), #[]⟩
noncomputable def o115_s12 (P : Params) : Obj := ⟨(.type "tuple"), none, (.seq #[(.str ⟨#[105, 110, 115, 116, 114, 101, 97, 109]⟩ 334), (.str ⟨#[108, 105, 110, 101, 110, 111]⟩ 335), (.str ⟨#[112, 117, 115, 104, 98, 97, 99, 107]⟩ 336), (.str ⟨#[119, 104, 105, 116, 101, 115, 112, 97, 99, 101]⟩ 337)] 0), #[]⟩
noncomputable def o116_s12 (P : Params) : Obj := ⟨(.type "dict"), none, (.dict #[⟨PyData.keyHash P ⟨#[95, 95, 109, 111, 100, 117, 108, 101, 95, 95]⟩, .str ⟨#[95, 95, 109, 111, 100, 117, 108, 101, 95, 95]⟩ 295, (.str ⟨#[99, 112, 121, 51, 49, 51, 46, 110, 101, 116, 114, 99]⟩ 286)⟩, ⟨PyData.keyHash P ⟨#[95, 95, 102, 105, 114, 115, 116, 108, 105, 110, 101, 110, 111, 95, 95]⟩, .str ⟨#[95, 95, 102, 105, 114, 115, 116, 108, 105, 110, 101, 110, 111, 95, 95]⟩ 299, (.int 59 298)⟩, ⟨PyData.keyHash P ⟨#[95, 95, 105, 110, 105, 116, 95, 95]⟩, .str ⟨#[95, 95, 105, 110, 105, 116, 95, 95]⟩ 307, (.ref 93)⟩, ⟨PyData.keyHash P ⟨#[95, 114, 101, 97, 100, 95, 99, 104, 97, 114]⟩, .str ⟨#[95, 114, 101, 97, 100, 95, 99, 104, 97, 114]⟩ 315, (.ref 100)⟩, ⟨PyData.keyHash P ⟨#[103, 101, 116, 95, 116, 111, 107, 101, 110]⟩, .str ⟨#[103, 101, 116, 95, 116, 111, 107, 101, 110]⟩ 325, (.ref 107)⟩, ⟨PyData.keyHash P ⟨#[112, 117, 115, 104, 95, 116, 111, 107, 101, 110]⟩, .str ⟨#[112, 117, 115, 104, 95, 116, 111, 107, 101, 110]⟩ 333, (.ref 114)⟩, ⟨PyData.keyHash P ⟨#[95, 95, 115, 116, 97, 116, 105, 99, 95, 97, 116, 116, 114, 105, 98, 117, 116, 101, 115, 95, 95]⟩, .str ⟨#[95, 95, 115, 116, 97, 116, 105, 99, 95, 97, 116, 116, 114, 105, 98, 117, 116, 101, 115, 95, 95]⟩ 338, (.ref 115)⟩, ⟨PyData.keyHash P ⟨#[95, 95, 100, 105, 99, 116, 95, 95]⟩, .str ⟨#[95, 95, 100, 105, 99, 116, 95, 95]⟩ 340, (.ref 118)⟩, ⟨PyData.keyHash P ⟨#[95, 95, 119, 101, 97, 107, 114, 101, 102, 95, 95]⟩, .str ⟨#[95, 95, 119, 101, 97, 107, 114, 101, 102, 95, 95]⟩ 342, (.ref 119)⟩, ⟨PyData.keyHash P ⟨#[95, 95, 100, 111, 99, 95, 95]⟩, .str ⟨#[95, 95, 100, 111, 99, 95, 95]⟩ 343, .none⟩] 4), #[]⟩
noncomputable def o117_s12 (P : Params) : Obj := ⟨(.type "type"), none, (.cls { name := ⟨#[95, 110, 101, 116, 114, 99, 108, 101, 120]⟩, bases := [(.type "object")], mro := [(.ref 117), (.type "object")], ns := 116, qualname := ⟨#[95, 110, 101, 116, 114, 99, 108, 101, 120]⟩, hasDict := true, slotNames := [], subclasses := [], abstract := false, collection := none, hasDel := false }), #[none, none, (some (.str ⟨#[95, 110, 101, 116, 114, 99, 108, 101, 120]⟩ 288)), (some (.str ⟨#[95, 110, 101, 116, 114, 99, 108, 101, 120]⟩ 296)), (some (.builtin "object.__new__")), (some (.bool true))]⟩
noncomputable def o118_s12 (P : Params) : Obj := ⟨(.type "getset_descriptor"), none, (.fields #[(.str ⟨#[95, 95, 100, 105, 99, 116, 95, 95]⟩ 339), (.ref 117), (.builtin "function.__dict__"), (.builtin "function.__dict__#set")]), #[]⟩
noncomputable def o119_s12 (P : Params) : Obj := ⟨(.type "getset_descriptor"), none, (.fields #[(.str ⟨#[95, 95, 119, 101, 97, 107, 114, 101, 102, 95, 95]⟩ 341), (.ref 117), (.builtin "ExceptionGroup.__weakref__"), .none]), #[]⟩
noncomputable def o120_s12 (P : Params) : Obj := ⟨(.type "super"), none, (.fields #[(.ref 117), (.ref 117), (.ref 117)]), #[]⟩
noncomputable def o121_s12 (P : Params) : Obj := ⟨(.type "builtin_function_or_method"), none, (.fields #[(.builtin "object.__init_subclass__"), (.ref 117)]), #[]⟩
noncomputable def T_s12 (P : Params) : BT := (.node (boot_o_0 P) (.node (boot_o_1 P) (.node (o3_s12 P) (.node (boot_o_7 P) (.node (o15_s12 P) (.node (o31_s12 P) (.node (o63_s12 P) .nil .nil) (.node (o95_s12 P) .nil .nil)) (.node (o47_s12 P) (.node (o79_s12 P) .nil .nil) (.node (o111_s12 P) .nil .nil))) (.node (o23_s12 P) (.node (o39_s12 P) (.node (o71_s12 P) .nil .nil) (.node (o103_s12 P) .nil .nil)) (.node (o55_s12 P) (.node (o87_s12 P) .nil .nil) (.node (o119_s12 P) .nil .nil)))) (.node (o11_pre P) (.node (o19_s12 P) (.node (o35_s12 P) (.node (o67_s12 P) .nil .nil) (.node (o99_s12 P) .nil .nil)) (.node (o51_s12 P) (.node (o83_s12 P) .nil .nil) (.node (o115_s12 P) .nil .nil))) (.node (o27_s12 P) (.node (o43_s12 P) (.node (o75_s12 P) .nil .nil) (.node (o107_s12 P) .nil .nil)) (.node (o59_s12 P) (.node (o91_s12 P) .nil .nil) .nil)))) (.node (boot_o_5 P) (.node (boot_o_9 P) (.node (o17_s12 P) (.node (o33_s12 P) (.node (o65_s12 P) .nil .nil) (.node (o97_s12 P) .nil .nil)) (.node (o49_s12 P) (.node (o81_s12 P) .nil .nil) (.node (o113_s12 P) .nil .nil))) (.node (o25_s12 P) (.node (o41_s12 P) (.node (o73_s12 P) .nil .nil) (.node (o105_s12 P) .nil .nil)) (.node (o57_s12 P) (.node (o89_s12 P) .nil .nil) (.node (o121_s12 P) .nil .nil)))) (.node (o13_pre P) (.node (o21_s12 P) (.node (o37_s12 P) (.node (o69_s12 P) .nil .nil) (.node (o101_s12 P) .nil .nil)) (.node (o53_s12 P) (.node (o85_s12 P) .nil .nil) (.node (o117_s12 P) .nil .nil))) (.node (o29_s12 P) (.node (o45_s12 P) (.node (o77_s12 P) .nil .nil) (.node (o109_s12 P) .nil .nil)) (.node (o61_s12 P) (.node (o93_s12 P) .nil .nil) .nil))))) (.node (o2_s12 P) (.node (boot_o_4 P) (.node (boot_o_8 P) (.node (o16_s12 P) (.node (o32_s12 P) (.node (o64_s12 P) .nil .nil) (.node (o96_s12 P) .nil .nil)) (.node (o48_s12 P) (.node (o80_s12 P) .nil .nil) (.node (o112_s12 P) .nil .nil))) (.node (o24_s12 P) (.node (o40_s12 P) (.node (o72_s12 P) .nil .nil) (.node (o104_s12 P) .nil .nil)) (.node (o56_s12 P) (.node (o88_s12 P) .nil .nil) (.node (o120_s12 P) .nil .nil)))) (.node (o12_s12 P) (.node (o20_s12 P) (.node (o36_s12 P) (.node (o68_s12 P) .nil .nil) (.node (o100_s12 P) .nil .nil)) (.node (o52_s12 P) (.node (o84_s12 P) .nil .nil) (.node (o116_s12 P) .nil .nil))) (.node (o28_s12 P) (.node (o44_s12 P) (.node (o76_s12 P) .nil .nil) (.node (o108_s12 P) .nil .nil)) (.node (o60_s12 P) (.node (o92_s12 P) .nil .nil) .nil)))) (.node (boot_o_6 P) (.node (boot_o_10 P) (.node (o18_s12 P) (.node (o34_s12 P) (.node (o66_s12 P) .nil .nil) (.node (o98_s12 P) .nil .nil)) (.node (o50_s12 P) (.node (o82_s12 P) .nil .nil) (.node (o114_s12 P) .nil .nil))) (.node (o26_s12 P) (.node (o42_s12 P) (.node (o74_s12 P) .nil .nil) (.node (o106_s12 P) .nil .nil)) (.node (o58_s12 P) (.node (o90_s12 P) .nil .nil) .nil))) (.node (o14_pre P) (.node (o22_s12 P) (.node (o38_s12 P) (.node (o70_s12 P) .nil .nil) (.node (o102_s12 P) .nil .nil)) (.node (o54_s12 P) (.node (o86_s12 P) .nil .nil) (.node (o118_s12 P) .nil .nil))) (.node (o30_s12 P) (.node (o46_s12 P) (.node (o78_s12 P) .nil .nil) (.node (o110_s12 P) .nil .nil)) (.node (o62_s12 P) (.node (o94_s12 P) .nil .nil) .nil))))))
noncomputable def o3_s13 (P : Params) : Obj := ⟨(.type "dict"), none, (.dict #[⟨PyData.keyHash P ⟨#[95, 95, 110, 97, 109, 101, 95, 95]⟩, .str ⟨#[95, 95, 110, 97, 109, 101, 95, 95]⟩ 165, (.str ⟨#[99, 112, 121, 51, 49, 51, 46, 115, 116, 114, 105, 110, 103, 112, 114, 101, 112]⟩ 346)⟩, ⟨PyData.keyHash P ⟨#[95, 95, 100, 111, 99, 95, 95]⟩, .str ⟨#[95, 95, 100, 111, 99, 95, 95]⟩ 166, .none⟩, ⟨PyData.keyHash P ⟨#[95, 95, 112, 97, 99, 107, 97, 103, 101, 95, 95]⟩, .str ⟨#[95, 95, 112, 97, 99, 107, 97, 103, 101, 95, 95]⟩ 167, .none⟩, ⟨PyData.keyHash P ⟨#[95, 95, 108, 111, 97, 100, 101, 114, 95, 95]⟩, .str ⟨#[95, 95, 108, 111, 97, 100, 101, 114, 95, 95]⟩ 168, (.builtin "__main__.__loader__#opaque")⟩, ⟨PyData.keyHash P ⟨#[95, 95, 115, 112, 101, 99, 95, 95]⟩, .str ⟨#[95, 95, 115, 112, 101, 99, 95, 95]⟩ 169, .none⟩, ⟨PyData.keyHash P ⟨#[95, 95, 97, 110, 110, 111, 116, 97, 116, 105, 111, 110, 115, 95, 95]⟩, .str ⟨#[95, 95, 97, 110, 110, 111, 116, 97, 116, 105, 111, 110, 115, 95, 95]⟩ 170, (.ref 6)⟩, ⟨PyData.keyHash P ⟨#[95, 95, 98, 117, 105, 108, 116, 105, 110, 115, 95, 95]⟩, .str ⟨#[95, 95, 98, 117, 105, 108, 116, 105, 110, 115, 95, 95]⟩ 171, (.ref 4)⟩, ⟨PyData.keyHash P ⟨#[95, 95, 102, 105, 108, 101, 95, 95]⟩, .str ⟨#[95, 95, 102, 105, 108, 101, 95, 95]⟩ 173, (.str ⟨#[47, 99, 108, 97, 105, 109, 47, 99, 117, 116, 46, 112, 121]⟩ 172)⟩, ⟨PyData.keyHash P ⟨#[95, 95, 99, 97, 99, 104, 101, 100, 95, 95]⟩, .str ⟨#[95, 95, 99, 97, 99, 104, 101, 100, 95, 95]⟩ 174, .none⟩, ⟨PyData.keyHash P ⟨#[95, 115, 116, 114, 99, 111, 108, 108]⟩, .str ⟨#[95, 115, 116, 114, 99, 111, 108, 108]⟩ 196, (.ref 21)⟩, ⟨PyData.keyHash P ⟨#[67, 72, 65, 82, 95, 77, 65, 88]⟩, .str ⟨#[67, 72, 65, 82, 95, 77, 65, 88]⟩ 198, (.int 127 197)⟩, ⟨PyData.keyHash P ⟨#[95, 103, 114, 111, 117, 112, 105, 110, 103, 95, 105, 110, 116, 101, 114, 118, 97, 108, 115]⟩, .str ⟨#[95, 103, 114, 111, 117, 112, 105, 110, 103, 95, 105, 110, 116, 101, 114, 118, 97, 108, 115]⟩ 207, (.ref 28)⟩, ⟨PyData.keyHash P ⟨#[69, 114, 114, 111, 114]⟩, .str ⟨#[69, 114, 114, 111, 114]⟩ 229, (.ref 38)⟩, ⟨PyData.keyHash P ⟨#[101, 114, 114, 111, 114, 95, 114, 101, 112, 108, 121]⟩, .str ⟨#[101, 114, 114, 111, 114, 95, 114, 101, 112, 108, 121]⟩ 245, (.ref 51)⟩, ⟨PyData.keyHash P ⟨#[101, 114, 114, 111, 114, 95, 112, 114, 111, 116, 111]⟩, .str ⟨#[101, 114, 114, 111, 114, 95, 112, 114, 111, 116, 111]⟩ 261, (.ref 63)⟩, ⟨PyData.keyHash P ⟨#[112, 97, 114, 115, 101, 50, 50, 57]⟩, .str ⟨#[112, 97, 114, 115, 101, 50, 50, 57]⟩ 274, (.ref 72)⟩, ⟨PyData.keyHash P ⟨#[112, 97, 114, 115, 101, 50, 53, 55]⟩, .str ⟨#[112, 97, 114, 115, 101, 50, 53, 55]⟩ 285, (.ref 79)⟩, ⟨PyData.keyHash P ⟨#[95, 110, 101, 116, 114, 99, 108, 101, 120]⟩, .str ⟨#[95, 110, 101, 116, 114, 99, 108, 101, 120]⟩ 345, (.ref 117)⟩, ⟨PyData.keyHash P ⟨#[98, 49, 95, 115, 101, 116]⟩, .str ⟨#[98, 49, 95, 115, 101, 116]⟩ 407, (.ref 129)⟩] 19), #[]⟩
noncomputable def o122_s13 (P : Params) : Obj := ⟨(.type "list"), none, (.seq #[(.int 173 348), (.int 847 349), (.int 6150 350), (.int 6155 351), (.int 6156 352), (.int 6157 353), (.int 8203 354), (.int 8204 355), (.int 8205 356), (.int 8288 357), (.int 65279 358)] 0), #[]⟩
noncomputable def o123_s13 (P : Params) : Obj := ⟨(.type "range"), none, (.fields #[(.int 65024 359), (.int 65040 360), (.int 1 361)]), #[]⟩
noncomputable def o124_s13 (P : Params) : Obj := ⟨(.type "list"), none, (.seq #[(.int 65024 364), (.int 65025 365), (.int 65026 366), (.int 65027 367), (.int 65028 368), (.int 65029 369), (.int 65030 370), (.int 65031 371), (.int 65032 372), (.int 65033 373), (.int 65034 374), (.int 65035 375), (.int 65036 376), (.int 65037 377), (.int 65038 378), (.int 65039 379)] 18), #[]⟩
noncomputable def o125_s13 (P : Params) : Obj := ⟨(.type "range_iterator"), none, (.fields #[(.int 65040 0), (.int 0 0), (.int 1 0)]), #[]⟩
noncomputable def o126_s13 (P : Params) : Obj := ⟨(.type "tuple"), none, (.seq #[] 0), #[]⟩
noncomputable def o127_s13 (P : Params) : Obj := ⟨(.type "StopIteration"), none, (.fields #[(.ref 126), .none, .none, .none, (.bool false), .none]), #[]⟩
noncomputable def o128_s13 (P : Params) : Obj := ⟨(.type "list"), none, (.seq #[(.int 173 348), (.int 847 349), (.int 6150 350), (.int 6155 351), (.int 6156 352), (.int 6157 353), (.int 8203 354), (.int 8204 355), (.int 8205 356), (.int 8288 357), (.int 65279 358), (.int 65024 364), (.int 65025 365), (.int 65026 366), (.int 65027 367), (.int 65028 368), (.int 65029 369), (.int 65030 370), (.int 65031 371), (.int 65032 372), (.int 65033 373), (.int 65034 374), (.int 65035 375), (.int 65036 376), (.int 65037 377), (.int 65038 378), (.int 65039 379)] 0), #[]⟩
noncomputable def o129_s13 (P : Params) : Obj := ⟨(.type "set"), none, (.set #[(65024, (.int 65024 364)), (65025, (.int 65025 365)), (65026, (.int 65026 366)), (65027, (.int 65027 367)), (65028, (.int 65028 368)), (65029, (.int 65029 369)), (6150, (.int 6150 350)), (65030, (.int 65030 370)), (65031, (.int 65031 371)), (65032, (.int 65032 372)), (65033, (.int 65033 373)), (6155, (.int 6155 351)), (6156, (.int 6156 352)), (6157, (.int 6157 353)), (8203, (.int 8203 354)), (8204, (.int 8204 355)), (8205, (.int 8205 356)), (65034, (.int 65034 374)), (65035, (.int 65035 375)), (65036, (.int 65036 376)), (65037, (.int 65037 377)), (65038, (.int 65038 378)), (65039, (.int 65039 379)), (173, (.int 173 348)), (847, (.int 847 349)), (8288, (.int 8288 357)), (65279, (.int 65279 358))] 29 { mask := 127, place := #[0, 1, 2, 3, 4, 5, 6, 7, 8, 9, 10, 11, 12, 13, 14, 15, 16, 17, 18, 19, 20, 21, 22, 45, 79, 96, 127], dummies := #[], finger := 0, led := (!P.followText "set-order"), moves := 2, plain := true }), #[]⟩
noncomputable def o130_s13 (P : Params) : Obj := ⟨(.type "list_iterator"), none, (.fields #[.none, (.int 27 0)]), #[]⟩
noncomputable def o131_s13 (P : Params) : Obj := ⟨(.type "tuple"), none, (.seq #[] 0), #[]⟩
noncomputable def o132_s13 (P : Params) : Obj := ⟨(.type "StopIteration"), none, (.fields #[(.ref 131), .none, .none, .none, (.bool false), .none]), #[]⟩
noncomputable def T_s13 (P : Params) : BT := (.node (boot_o_0 P) (.node (boot_o_1 P) (.node (o3_s13 P) (.node (boot_o_7 P) (.node (o15_s12 P) (.node (o31_s12 P) (.node (o63_s12 P) (.node (o127_s13 P) .nil .nil) .nil) (.node (o95_s12 P) .nil .nil)) (.node (o47_s12 P) (.node (o79_s12 P) .nil .nil) (.node (o111_s12 P) .nil .nil))) (.node (o23_s12 P) (.node (o39_s12 P) (.node (o71_s12 P) .nil .nil) (.node (o103_s12 P) .nil .nil)) (.node (o55_s12 P) (.node (o87_s12 P) .nil .nil) (.node (o119_s12 P) .nil .nil)))) (.node (o11_pre P) (.node (o19_s12 P) (.node (o35_s12 P) (.node (o67_s12 P) (.node (o131_s13 P) .nil .nil) .nil) (.node (o99_s12 P) .nil .nil)) (.node (o51_s12 P) (.node (o83_s12 P) .nil .nil) (.node (o115_s12 P) .nil .nil))) (.node (o27_s12 P) (.node (o43_s12 P) (.node (o75_s12 P) .nil .nil) (.node (o107_s12 P) .nil .nil)) (.node (o59_s12 P) (.node (o91_s12 P) .nil .nil) (.node (o123_s13 P) .nil .nil))))) (.node (boot_o_5 P) (.node (boot_o_9 P) (.node (o17_s12 P) (.node (o33_s12 P) (.node (o65_s12 P) (.node (o129_s13 P) .nil .nil) .nil) (.node (o97_s12 P) .nil .nil)) (.node (o49_s12 P) (.node (o81_s12 P) .nil .nil) (.node (o113_s12 P) .nil .nil))) (.node (o25_s12 P) (.node (o41_s12 P) (.node (o73_s12 P) .nil .nil) (.node (o105_s12 P) .nil .nil)) (.node (o57_s12 P) (.node (o89_s12 P) .nil .nil) (.node (o121_s12 P) .nil .nil)))) (.node (o13_pre P) (.node (o21_s12 P) (.node (o37_s12 P) (.node (o69_s12 P) .nil .nil) (.node (o101_s12 P) .nil .nil)) (.node (o53_s12 P) (.node (o85_s12 P) .nil .nil) (.node (o117_s12 P) .nil .nil))) (.node (o29_s12 P) (.node (o45_s12 P) (.node (o77_s12 P) .nil .nil) (.node (o109_s12 P) .nil .nil)) (.node (o61_s12 P) (.node (o93_s12 P) .nil .nil) (.node (o125_s13 P) .nil .nil)))))) (.node (o2_s12 P) (.node (boot_o_4 P) (.node (boot_o_8 P) (.node (o16_s12 P) (.node (o32_s12 P) (.node (o64_s12 P) (.node (o128_s13 P) .nil .nil) .nil) (.node (o96_s12 P) .nil .nil)) (.node (o48_s12 P) (.node (o80_s12 P) .nil .nil) (.node (o112_s12 P) .nil .nil))) (.node (o24_s12 P) (.node (o40_s12 P) (.node (o72_s12 P) .nil .nil) (.node (o104_s12 P) .nil .nil)) (.node (o56_s12 P) (.node (o88_s12 P) .nil .nil) (.node (o120_s12 P) .nil .nil)))) (.node (o12_s12 P) (.node (o20_s12 P) (.node (o36_s12 P) (.node (o68_s12 P) (.node (o132_s13 P) .nil .nil) .nil) (.node (o100_s12 P) .nil .nil)) (.node (o52_s12 P) (.node (o84_s12 P) .nil .nil) (.node (o116_s12 P) .nil .nil))) (.node (o28_s12 P) (.node (o44_s12 P) (.node (o76_s12 P) .nil .nil) (.node (o108_s12 P) .nil .nil)) (.node (o60_s12 P) (.node (o92_s12 P) .nil .nil) (.node (o124_s13 P) .nil .nil))))) (.node (boot_o_6 P) (.node (boot_o_10 P) (.node (o18_s12 P) (.node (o34_s12 P) (.node (o66_s12 P) (.node (o130_s13 P) .nil .nil) .nil) (.node (o98_s12 P) .nil .nil)) (.node (o50_s12 P) (.node (o82_s12 P) .nil .nil) (.node (o114_s12 P) .nil .nil))) (.node (o26_s12 P) (.node (o42_s12 P) (.node (o74_s12 P) .nil .nil) (.node (o106_s12 P) .nil .nil)) (.node (o58_s12 P) (.node (o90_s12 P) .nil .nil) (.node (o122_s13 P) .nil .nil)))) (.node (o14_pre P) (.node (o22_s12 P) (.node (o38_s12 P) (.node (o70_s12 P) .nil .nil) (.node (o102_s12 P) .nil .nil)) (.node (o54_s12 P) (.node (o86_s12 P) .nil .nil) (.node (o118_s12 P) .nil .nil))) (.node (o30_s12 P) (.node (o46_s12 P) (.node (o78_s12 P) .nil .nil) (.node (o110_s12 P) .nil .nil)) (.node (o62_s12 P) (.node (o94_s12 P) .nil .nil) (.node (o126_s13 P) .nil .nil)))))))
noncomputable def o3_s14 (P : Params) : Obj := ⟨(.type "dict"), none, (.dict #[⟨PyData.keyHash P ⟨#[95, 95, 110, 97, 109, 101, 95, 95]⟩, .str ⟨#[95, 95, 110, 97, 109, 101, 95, 95]⟩ 165, (.str ⟨#[99, 112, 121, 51, 49, 51, 46, 115, 116, 114, 105, 110, 103, 112, 114, 101, 112]⟩ 346)⟩, ⟨PyData.keyHash P ⟨#[95, 95, 100, 111, 99, 95, 95]⟩, .str ⟨#[95, 95, 100, 111, 99, 95, 95]⟩ 166, .none⟩, ⟨PyData.keyHash P ⟨#[95, 95, 112, 97, 99, 107, 97, 103, 101, 95, 95]⟩, .str ⟨#[95, 95, 112, 97, 99, 107, 97, 103, 101, 95, 95]⟩ 167, .none⟩, ⟨PyData.keyHash P ⟨#[95, 95, 108, 111, 97, 100, 101, 114, 95, 95]⟩, .str ⟨#[95, 95, 108, 111, 97, 100, 101, 114, 95, 95]⟩ 168, (.builtin "__main__.__loader__#opaque")⟩, ⟨PyData.keyHash P ⟨#[95, 95, 115, 112, 101, 99, 95, 95]⟩, .str ⟨#[95, 95, 115, 112, 101, 99, 95, 95]⟩ 169, .none⟩, ⟨PyData.keyHash P ⟨#[95, 95, 97, 110, 110, 111, 116, 97, 116, 105, 111, 110, 115, 95, 95]⟩, .str ⟨#[95, 95, 97, 110, 110, 111, 116, 97, 116, 105, 111, 110, 115, 95, 95]⟩ 170, (.ref 6)⟩, ⟨PyData.keyHash P ⟨#[95, 95, 98, 117, 105, 108, 116, 105, 110, 115, 95, 95]⟩, .str ⟨#[95, 95, 98, 117, 105, 108, 116, 105, 110, 115, 95, 95]⟩ 171, (.ref 4)⟩, ⟨PyData.keyHash P ⟨#[95, 95, 102, 105, 108, 101, 95, 95]⟩, .str ⟨#[95, 95, 102, 105, 108, 101, 95, 95]⟩ 173, (.str ⟨#[47, 99, 108, 97, 105, 109, 47, 99, 117, 116, 46, 112, 121]⟩ 172)⟩, ⟨PyData.keyHash P ⟨#[95, 95, 99, 97, 99, 104, 101, 100, 95, 95]⟩, .str ⟨#[95, 95, 99, 97, 99, 104, 101, 100, 95, 95]⟩ 174, .none⟩, ⟨PyData.keyHash P ⟨#[95, 115, 116, 114, 99, 111, 108, 108]⟩, .str ⟨#[95, 115, 116, 114, 99, 111, 108, 108]⟩ 196, (.ref 21)⟩, ⟨PyData.keyHash P ⟨#[67, 72, 65, 82, 95, 77, 65, 88]⟩, .str ⟨#[67, 72, 65, 82, 95, 77, 65, 88]⟩ 198, (.int 127 197)⟩, ⟨PyData.keyHash P ⟨#[95, 103, 114, 111, 117, 112, 105, 110, 103, 95, 105, 110, 116, 101, 114, 118, 97, 108, 115]⟩, .str ⟨#[95, 103, 114, 111, 117, 112, 105, 110, 103, 95, 105, 110, 116, 101, 114, 118, 97, 108, 115]⟩ 207, (.ref 28)⟩, ⟨PyData.keyHash P ⟨#[69, 114, 114, 111, 114]⟩, .str ⟨#[69, 114, 114, 111, 114]⟩ 229, (.ref 38)⟩, ⟨PyData.keyHash P ⟨#[101, 114, 114, 111, 114, 95, 114, 101, 112, 108, 121]⟩, .str ⟨#[101, 114, 114, 111, 114, 95, 114, 101, 112, 108, 121]⟩ 245, (.ref 51)⟩, ⟨PyData.keyHash P ⟨#[101, 114, 114, 111, 114, 95, 112, 114, 111, 116, 111]⟩, .str ⟨#[101, 114, 114, 111, 114, 95, 112, 114, 111, 116, 111]⟩ 261, (.ref 63)⟩, ⟨PyData.keyHash P ⟨#[112, 97, 114, 115, 101, 50, 50, 57]⟩, .str ⟨#[112, 97, 114, 115, 101, 50, 50, 57]⟩ 274, (.ref 72)⟩, ⟨PyData.keyHash P ⟨#[112, 97, 114, 115, 101, 50, 53, 55]⟩, .str ⟨#[112, 97, 114, 115, 101, 50, 53, 55]⟩ 285, (.ref 79)⟩, ⟨PyData.keyHash P ⟨#[95, 110, 101, 116, 114, 99, 108, 101, 120]⟩, .str ⟨#[95, 110, 101, 116, 114, 99, 108, 101, 120]⟩ 345, (.ref 117)⟩, ⟨PyData.keyHash P ⟨#[98, 49, 95, 115, 101, 116]⟩, .str ⟨#[98, 49, 95, 115, 101, 116]⟩ 407, (.ref 129)⟩, ⟨PyData.keyHash P ⟨#[105, 110, 95, 116, 97, 98, 108, 101, 95, 98, 49]⟩, .str ⟨#[105, 110, 95, 116, 97, 98, 108, 101, 95, 98, 49]⟩ 414, (.ref 139)⟩] 20), #[]⟩
noncomputable def o12_s14 (P : Params) : Obj := ⟨.none, none, (.fields #[(.int 2 0), (.int 0 0), (.ref 20), (.int 5 0), (.int 0 0), (.ref 27), (.int 18 0), (.int 0 0), (.ref 34), (.int 20 0), (.int 0 0), (.ref 47), (.int 22 0), (.int 0 0), (.ref 59), (.int 24 0), (.int 0 0), (.ref 71), (.int 41 0), (.int 0 0), (.ref 78), (.int 59 0), (.int 0 0), (.ref 85), (.int 104 0), (.int 0 0), (.ref 138)]), #[]⟩
noncomputable def o133_s14 (P : Params) : Obj := ⟨(.type "tuple"), none, (.seq #[] 0), #[]⟩
noncomputable def o134_s14 (P : Params) : Obj := ⟨.none, none, (.fields #[]), #[]⟩
noncomputable def o135_s14 (P : Params) : Obj := ⟨(.type "tuple"), none, (.seq #[(.str ⟨#[99, 111, 100, 101]⟩ 411)] 0), #[]⟩
noncomputable def o136_s14 (P : Params) : Obj := ⟨(.type "tuple"), none, (.seq #[] 0), #[]⟩
noncomputable def o137_s14 (P : Params) : Obj := ⟨.none, none, (.func (fdOf (topFn 14) ⟨#[105, 110, 95, 116, 97, 98, 108, 101, 95, 98, 49]⟩ 0 [] .none .none .none .none none .none .none 0)), #[]⟩
noncomputable def o138_s14 (P : Params) : Obj := ⟨(.type "code"), none, (.fields #[(.str ⟨#[105, 110, 95, 116, 97, 98, 108, 101, 95, 98, 49]⟩ 408), (.str ⟨#[105, 110, 95, 116, 97, 98, 108, 101, 95, 98, 49]⟩ 409), (.str ⟨#[47, 99, 108, 97, 105, 109, 47, 99, 117, 116, 46, 112, 121]⟩ 410), (.int 104 0), (.int 1 0), (.int 0 0), (.int 0 0), (.int 3 0), (.ref 133), (.bool true), (.int 181 0), (.ref 134), .none, (.ref 135), (.ref 136), (.ref 137), (.int 412 0), (.int 104 0), (.str ⟨#[47, 99, 108, 97, 105, 109, 47, 99, 117, 116, 46, 112, 121]⟩ 413)]), #[]⟩
noncomputable def o139_s14 (P : Params) : Obj := ⟨(.type "function"), none, (.func (fdOf (topFn 14) ⟨#[105, 110, 95, 116, 97, 98, 108, 101, 95, 98, 49]⟩ 3 [] .none .none .none (.str ⟨#[99, 112, 121, 51, 49, 51, 46, 115, 116, 114, 105, 110, 103, 112, 114, 101, 112]⟩ 346) none (.ref 138) .none 0)), #[]⟩
noncomputable def T_s14 (P : Params) : BT := (.node (boot_o_0 P) (.node (boot_o_1 P) (.node (o3_s14 P) (.node (boot_o_7 P) (.node (o15_s12 P) (.node (o31_s12 P) (.node (o63_s12 P) (.node (o127_s13 P) .nil .nil) .nil) (.node (o95_s12 P) .nil .nil)) (.node (o47_s12 P) (.node (o79_s12 P) .nil .nil) (.node (o111_s12 P) .nil .nil))) (.node (o23_s12 P) (.node (o39_s12 P) (.node (o71_s12 P) (.node (o135_s14 P) .nil .nil) .nil) (.node (o103_s12 P) .nil .nil)) (.node (o55_s12 P) (.node (o87_s12 P) .nil .nil) (.node (o119_s12 P) .nil .nil)))) (.node (o11_pre P) (.node (o19_s12 P) (.node (o35_s12 P) (.node (o67_s12 P) (.node (o131_s13 P) .nil .nil) .nil) (.node (o99_s12 P) .nil .nil)) (.node (o51_s12 P) (.node (o83_s12 P) .nil .nil) (.node (o115_s12 P) .nil .nil))) (.node (o27_s12 P) (.node (o43_s12 P) (.node (o75_s12 P) (.node (o139_s14 P) .nil .nil) .nil) (.node (o107_s12 P) .nil .nil)) (.node (o59_s12 P) (.node (o91_s12 P) .nil .nil) (.node (o123_s13 P) .nil .nil))))) (.node (boot_o_5 P) (.node (boot_o_9 P) (.node (o17_s12 P) (.node (o33_s12 P) (.node (o65_s12 P) (.node (o129_s13 P) .nil .nil) .nil) (.node (o97_s12 P) .nil .nil)) (.node (o49_s12 P) (.node (o81_s12 P) .nil .nil) (.node (o113_s12 P) .nil .nil))) (.node (o25_s12 P) (.node (o41_s12 P) (.node (o73_s12 P) (.node (o137_s14 P) .nil .nil) .nil) (.node (o105_s12 P) .nil .nil)) (.node (o57_s12 P) (.node (o89_s12 P) .nil .nil) (.node (o121_s12 P) .nil .nil)))) (.node (o13_pre P) (.node (o21_s12 P) (.node (o37_s12 P) (.node (o69_s12 P) (.node (o133_s14 P) .nil .nil) .nil) (.node (o101_s12 P) .nil .nil)) (.node (o53_s12 P) (.node (o85_s12 P) .nil .nil) (.node (o117_s12 P) .nil .nil))) (.node (o29_s12 P) (.node (o45_s12 P) (.node (o77_s12 P) .nil .nil) (.node (o109_s12 P) .nil .nil)) (.node (o61_s12 P) (.node (o93_s12 P) .nil .nil) (.node (o125_s13 P) .nil .nil)))))) (.node (o2_s12 P) (.node (boot_o_4 P) (.node (boot_o_8 P) (.node (o16_s12 P) (.node (o32_s12 P) (.node (o64_s12 P) (.node (o128_s13 P) .nil .nil) .nil) (.node (o96_s12 P) .nil .nil)) (.node (o48_s12 P) (.node (o80_s12 P) .nil .nil) (.node (o112_s12 P) .nil .nil))) (.node (o24_s12 P) (.node (o40_s12 P) (.node (o72_s12 P) (.node (o136_s14 P) .nil .nil) .nil) (.node (o104_s12 P) .nil .nil)) (.node (o56_s12 P) (.node (o88_s12 P) .nil .nil) (.node (o120_s12 P) .nil .nil)))) (.node (o12_s14 P) (.node (o20_s12 P) (.node (o36_s12 P) (.node (o68_s12 P) (.node (o132_s13 P) .nil .nil) .nil) (.node (o100_s12 P) .nil .nil)) (.node (o52_s12 P) (.node (o84_s12 P) .nil .nil) (.node (o116_s12 P) .nil .nil))) (.node (o28_s12 P) (.node (o44_s12 P) (.node (o76_s12 P) .nil .nil) (.node (o108_s12 P) .nil .nil)) (.node (o60_s12 P) (.node (o92_s12 P) .nil .nil) (.node (o124_s13 P) .nil .nil))))) (.node (boot_o_6 P) (.node (boot_o_10 P) (.node (o18_s12 P) (.node (o34_s12 P) (.node (o66_s12 P) (.node (o130_s13 P) .nil .nil) .nil) (.node (o98_s12 P) .nil .nil)) (.node (o50_s12 P) (.node (o82_s12 P) .nil .nil) (.node (o114_s12 P) .nil .nil))) (.node (o26_s12 P) (.node (o42_s12 P) (.node (o74_s12 P) (.node (o138_s14 P) .nil .nil) .nil) (.node (o106_s12 P) .nil .nil)) (.node (o58_s12 P) (.node (o90_s12 P) .nil .nil) (.node (o122_s13 P) .nil .nil)))) (.node (o14_pre P) (.node (o22_s12 P) (.node (o38_s12 P) (.node (o70_s12 P) (.node (o134_s14 P) .nil .nil) .nil) (.node (o102_s12 P) .nil .nil)) (.node (o54_s12 P) (.node (o86_s12 P) .nil .nil) (.node (o118_s12 P) .nil .nil))) (.node (o30_s12 P) (.node (o46_s12 P) (.node (o78_s12 P) .nil .nil) (.node (o110_s12 P) .nil .nil)) (.node (o62_s12 P) (.node (o94_s12 P) .nil .nil) (.node (o126_s13 P) .nil .nil)))))))
noncomputable def o3_s15 (P : Params) : Obj := ⟨(.type "dict"), none, (.dict #[⟨PyData.keyHash P ⟨#[95, 95, 110, 97, 109, 101, 95, 95]⟩, .str ⟨#[95, 95, 110, 97, 109, 101, 95, 95]⟩ 165, (.str ⟨#[99, 112, 121, 51, 49, 51, 46, 115, 116, 114, 105, 110, 103, 112, 114, 101, 112]⟩ 346)⟩, ⟨PyData.keyHash P ⟨#[95, 95, 100, 111, 99, 95, 95]⟩, .str ⟨#[95, 95, 100, 111, 99, 95, 95]⟩ 166, .none⟩, ⟨PyData.keyHash P ⟨#[95, 95, 112, 97, 99, 107, 97, 103, 101, 95, 95]⟩, .str ⟨#[95, 95, 112, 97, 99, 107, 97, 103, 101, 95, 95]⟩ 167, .none⟩, ⟨PyData.keyHash P ⟨#[95, 95, 108, 111, 97, 100, 101, 114, 95, 95]⟩, .str ⟨#[95, 95, 108, 111, 97, 100, 101, 114, 95, 95]⟩ 168, (.builtin "__main__.__loader__#opaque")⟩, ⟨PyData.keyHash P ⟨#[95, 95, 115, 112, 101, 99, 95, 95]⟩, .str ⟨#[95, 95, 115, 112, 101, 99, 95, 95]⟩ 169, .none⟩, ⟨PyData.keyHash P ⟨#[95, 95, 97, 110, 110, 111, 116, 97, 116, 105, 111, 110, 115, 95, 95]⟩, .str ⟨#[95, 95, 97, 110, 110, 111, 116, 97, 116, 105, 111, 110, 115, 95, 95]⟩ 170, (.ref 6)⟩, ⟨PyData.keyHash P ⟨#[95, 95, 98, 117, 105, 108, 116, 105, 110, 115, 95, 95]⟩, .str ⟨#[95, 95, 98, 117, 105, 108, 116, 105, 110, 115, 95, 95]⟩ 171, (.ref 4)⟩, ⟨PyData.keyHash P ⟨#[95, 95, 102, 105, 108, 101, 95, 95]⟩, .str ⟨#[95, 95, 102, 105, 108, 101, 95, 95]⟩ 173, (.str ⟨#[47, 99, 108, 97, 105, 109, 47, 99, 117, 116, 46, 112, 121]⟩ 172)⟩, ⟨PyData.keyHash P ⟨#[95, 95, 99, 97, 99, 104, 101, 100, 95, 95]⟩, .str ⟨#[95, 95, 99, 97, 99, 104, 101, 100, 95, 95]⟩ 174, .none⟩, ⟨PyData.keyHash P ⟨#[95, 115, 116, 114, 99, 111, 108, 108]⟩, .str ⟨#[95, 115, 116, 114, 99, 111, 108, 108]⟩ 196, (.ref 21)⟩, ⟨PyData.keyHash P ⟨#[67, 72, 65, 82, 95, 77, 65, 88]⟩, .str ⟨#[67, 72, 65, 82, 95, 77, 65, 88]⟩ 198, (.int 127 197)⟩, ⟨PyData.keyHash P ⟨#[95, 103, 114, 111, 117, 112, 105, 110, 103, 95, 105, 110, 116, 101, 114, 118, 97, 108, 115]⟩, .str ⟨#[95, 103, 114, 111, 117, 112, 105, 110, 103, 95, 105, 110, 116, 101, 114, 118, 97, 108, 115]⟩ 207, (.ref 28)⟩, ⟨PyData.keyHash P ⟨#[69, 114, 114, 111, 114]⟩, .str ⟨#[69, 114, 114, 111, 114]⟩ 229, (.ref 38)⟩, ⟨PyData.keyHash P ⟨#[101, 114, 114, 111, 114, 95, 114, 101, 112, 108, 121]⟩, .str ⟨#[101, 114, 114, 111, 114, 95, 114, 101, 112, 108, 121]⟩ 245, (.ref 51)⟩, ⟨PyData.keyHash P ⟨#[101, 114, 114, 111, 114, 95, 112, 114, 111, 116, 111]⟩, .str ⟨#[101, 114, 114, 111, 114, 95, 112, 114, 111, 116, 111]⟩ 261, (.ref 63)⟩, ⟨PyData.keyHash P ⟨#[112, 97, 114, 115, 101, 50, 50, 57]⟩, .str ⟨#[112, 97, 114, 115, 101, 50, 50, 57]⟩ 274, (.ref 72)⟩, ⟨PyData.keyHash P ⟨#[112, 97, 114, 115, 101, 50, 53, 55]⟩, .str ⟨#[112, 97, 114, 115, 101, 50, 53, 55]⟩ 285, (.ref 79)⟩, ⟨PyData.keyHash P ⟨#[95, 110, 101, 116, 114, 99, 108, 101, 120]⟩, .str ⟨#[95, 110, 101, 116, 114, 99, 108, 101, 120]⟩ 345, (.ref 117)⟩, ⟨PyData.keyHash P ⟨#[98, 49, 95, 115, 101, 116]⟩, .str ⟨#[98, 49, 95, 115, 101, 116]⟩ 407, (.ref 129)⟩, ⟨PyData.keyHash P ⟨#[105, 110, 95, 116, 97, 98, 108, 101, 95, 98, 49]⟩, .str ⟨#[105, 110, 95, 116, 97, 98, 108, 101, 95, 98, 49]⟩ 414, (.ref 139)⟩, ⟨PyData.keyHash P ⟨#[98, 51, 95, 101, 120, 99, 101, 112, 116, 105, 111, 110, 115]⟩, .str ⟨#[98, 51, 95, 101, 120, 99, 101, 112, 116, 105, 111, 110, 115]⟩ 2365, (.ref 140)⟩] 21), #[]⟩
noncomputable def o3_s27 (P : Params) : Obj := ⟨(.type "dict"), none, (.dict #[⟨PyData.keyHash P ⟨#[95, 95, 110, 97, 109, 101, 95, 95]⟩, .str ⟨#[95, 95, 110, 97, 109, 101, 95, 95]⟩ 165, (.str ⟨#[108, 97, 119, 95, 119, 111, 48, 48, 54, 56, 95, 48, 50]⟩ 2374)⟩, ⟨PyData.keyHash P ⟨#[95, 95, 100, 111, 99, 95, 95]⟩, .str ⟨#[95, 95, 100, 111, 99, 95, 95]⟩ 166, .none⟩, ⟨PyData.keyHash P ⟨#[95, 95, 112, 97, 99, 107, 97, 103, 101, 95, 95]⟩, .str ⟨#[95, 95, 112, 97, 99, 107, 97, 103, 101, 95, 95]⟩ 167, .none⟩, ⟨PyData.keyHash P ⟨#[95, 95, 108, 111, 97, 100, 101, 114, 95, 95]⟩, .str ⟨#[95, 95, 108, 111, 97, 100, 101, 114, 95, 95]⟩ 168, (.builtin "__main__.__loader__#opaque")⟩, ⟨PyData.keyHash P ⟨#[95, 95, 115, 112, 101, 99, 95, 95]⟩, .str ⟨#[95, 95, 115, 112, 101, 99, 95, 95]⟩ 169, .none⟩, ⟨PyData.keyHash P ⟨#[95, 95, 97, 110, 110, 111, 116, 97, 116, 105, 111, 110, 115, 95, 95]⟩, .str ⟨#[95, 95, 97, 110, 110, 111, 116, 97, 116, 105, 111, 110, 115, 95, 95]⟩ 170, (.ref 6)⟩, ⟨PyData.keyHash P ⟨#[95, 95, 98, 117, 105, 108, 116, 105, 110, 115, 95, 95]⟩, .str ⟨#[95, 95, 98, 117, 105, 108, 116, 105, 110, 115, 95, 95]⟩ 171, (.ref 4)⟩, ⟨PyData.keyHash P ⟨#[95, 95, 102, 105, 108, 101, 95, 95]⟩, .str ⟨#[95, 95, 102, 105, 108, 101, 95, 95]⟩ 173, (.str ⟨#[47, 99, 108, 97, 105, 109, 47, 99, 117, 116, 46, 112, 121]⟩ 172)⟩, ⟨PyData.keyHash P ⟨#[95, 95, 99, 97, 99, 104, 101, 100, 95, 95]⟩, .str ⟨#[95, 95, 99, 97, 99, 104, 101, 100, 95, 95]⟩ 174, .none⟩, ⟨PyData.keyHash P ⟨#[95, 115, 116, 114, 99, 111, 108, 108]⟩, .str ⟨#[95, 115, 116, 114, 99, 111, 108, 108]⟩ 196, (.ref 21)⟩, ⟨PyData.keyHash P ⟨#[67, 72, 65, 82, 95, 77, 65, 88]⟩, .str ⟨#[67, 72, 65, 82, 95, 77, 65, 88]⟩ 198, (.int 127 197)⟩, ⟨PyData.keyHash P ⟨#[95, 103, 114, 111, 117, 112, 105, 110, 103, 95, 105, 110, 116, 101, 114, 118, 97, 108, 115]⟩, .str ⟨#[95, 103, 114, 111, 117, 112, 105, 110, 103, 95, 105, 110, 116, 101, 114, 118, 97, 108, 115]⟩ 207, (.ref 28)⟩, ⟨PyData.keyHash P ⟨#[69, 114, 114, 111, 114]⟩, .str ⟨#[69, 114, 114, 111, 114]⟩ 229, (.ref 38)⟩, ⟨PyData.keyHash P ⟨#[101, 114, 114, 111, 114, 95, 114, 101, 112, 108, 121]⟩, .str ⟨#[101, 114, 114, 111, 114, 95, 114, 101, 112, 108, 121]⟩ 245, (.ref 51)⟩, ⟨PyData.keyHash P ⟨#[101, 114, 114, 111, 114, 95, 112, 114, 111, 116, 111]⟩, .str ⟨#[101, 114, 114, 111, 114, 95, 112, 114, 111, 116, 111]⟩ 261, (.ref 63)⟩, ⟨PyData.keyHash P ⟨#[112, 97, 114, 115, 101, 50, 50, 57]⟩, .str ⟨#[112, 97, 114, 115, 101, 50, 50, 57]⟩ 274, (.ref 72)⟩, ⟨PyData.keyHash P ⟨#[112, 97, 114, 115, 101, 50, 53, 55]⟩, .str ⟨#[112, 97, 114, 115, 101, 50, 53, 55]⟩ 285, (.ref 79)⟩, ⟨PyData.keyHash P ⟨#[95, 110, 101, 116, 114, 99, 108, 101, 120]⟩, .str ⟨#[95, 110, 101, 116, 114, 99, 108, 101, 120]⟩ 345, (.ref 117)⟩, ⟨PyData.keyHash P ⟨#[98, 49, 95, 115, 101, 116]⟩, .str ⟨#[98, 49, 95, 115, 101, 116]⟩ 407, (.ref 129)⟩, ⟨PyData.keyHash P ⟨#[105, 110, 95, 116, 97, 98, 108, 101, 95, 98, 49]⟩, .str ⟨#[105, 110, 95, 116, 97, 98, 108, 101, 95, 98, 49]⟩ 414, (.ref 139)⟩, ⟨PyData.keyHash P ⟨#[98, 51, 95, 101, 120, 99, 101, 112, 116, 105, 111, 110, 115]⟩, .str ⟨#[98, 51, 95, 101, 120, 99, 101, 112, 116, 105, 111, 110, 115]⟩ 2365, (.ref 140)⟩, ⟨PyData.keyHash P ⟨#[109, 97, 112, 95, 116, 97, 98, 108, 101, 95, 98, 51]⟩, .str ⟨#[109, 97, 112, 95, 116, 97, 98, 108, 101, 95, 98, 51]⟩ 2373, (.ref 185)⟩, ⟨PyData.keyHash P ⟨#[95, 108, 97, 119, 95, 104, 101, 97, 112, 115]⟩, .str ⟨#[95, 108, 97, 119, 95, 104, 101, 97, 112, 115]⟩ 2384, (.ref 192)⟩, ⟨PyData.keyHash P ⟨#[95, 108, 97, 119, 95, 115, 116, 101, 112]⟩, .str ⟨#[95, 108, 97, 119, 95, 115, 116, 101, 112]⟩ 2390, (.ref 197)⟩, ⟨PyData.keyHash P ⟨#[95, 108, 97, 119, 95, 116, 97, 112, 101]⟩, .str ⟨#[95, 108, 97, 119, 95, 116, 97, 112, 101]⟩ 2405, (.ref 204)⟩, ⟨PyData.keyHash P ⟨#[95, 108, 97, 119, 95, 119, 111, 114, 100]⟩, .str ⟨#[95, 108, 97, 119, 95, 119, 111, 114, 100]⟩ 2415, (.ref 211)⟩, ⟨PyData.keyHash P ⟨#[95, 108, 97, 119, 95, 112, 97, 103, 101]⟩, .str ⟨#[95, 108, 97, 119, 95, 112, 97, 103, 101]⟩ 2427, (.ref 218)⟩, ⟨PyData.keyHash P ⟨#[95, 108, 97, 119, 95, 108, 101, 120, 101, 114]⟩, .str ⟨#[95, 108, 97, 119, 95, 108, 101, 120, 101, 114]⟩ 2437, (.ref 225)⟩, ⟨PyData.keyHash P ⟨#[95, 108, 97, 119, 95, 115, 101, 101, 110]⟩, .str ⟨#[95, 108, 97, 119, 95, 115, 101, 101, 110]⟩ 2447, (.ref 232)⟩, ⟨PyData.keyHash P ⟨#[95, 108, 97, 119, 95, 114, 117, 108, 101]⟩, .str ⟨#[95, 108, 97, 119, 95, 114, 117, 108, 101]⟩ 2465, (.ref 239)⟩, ⟨PyData.keyHash P ⟨#[95, 108, 97, 119, 95, 108, 105, 110, 101]⟩, .str ⟨#[95, 108, 97, 119, 95, 108, 105, 110, 101]⟩ 2471, (.ref 244)⟩, ⟨PyData.keyHash P ⟨#[108, 97, 119]⟩, .str ⟨#[108, 97, 119]⟩ 2477, (.ref 249)⟩] 32), #[]⟩
noncomputable def o12_s27 (P : Params) : Obj := ⟨.none, none, (.fields #[(.int 2 0), (.int 0 0), (.ref 20), (.int 5 0), (.int 0 0), (.ref 27), (.int 18 0), (.int 0 0), (.ref 34), (.int 20 0), (.int 0 0), (.ref 47), (.int 22 0), (.int 0 0), (.ref 59), (.int 24 0), (.int 0 0), (.ref 71), (.int 41 0), (.int 0 0), (.ref 78), (.int 59 0), (.int 0 0), (.ref 85), (.int 104 0), (.int 0 0), (.ref 138), (.int 107 0), (.int 0 0), (.ref 184), (.int 113 0), (.int 0 0), (.ref 191), (.int 118 0), (.int 0 0), (.ref 196), (.int 123 0), (.int 0 0), (.ref 203), (.int 137 0), (.int 0 0), (.ref 210), (.int 146 0), (.int 0 0), (.ref 217), (.int 151 0), (.int 0 0), (.ref 224), (.int 161 0), (.int 0 0), (.ref 231), (.int 171 0), (.int 0 0), (.ref 238), (.int 197 0), (.int 0 0), (.ref 243), (.int 208 0), (.int 0 0), (.ref 248)]), #[]⟩
noncomputable def o179_s27 (P : Params) : Obj := ⟨(.type "tuple"), none, (.seq #[] 0), #[]⟩
noncomputable def o180_s27 (P : Params) : Obj := ⟨.none, none, (.fields #[]), #[]⟩
noncomputable def o181_s27 (P : Params) : Obj := ⟨(.type "tuple"), none, (.seq #[(.str ⟨#[99, 111, 100, 101]⟩ 2369), (.str ⟨#[114]⟩ 2370)] 0), #[]⟩
noncomputable def o182_s27 (P : Params) : Obj := ⟨(.type "tuple"), none, (.seq #[] 0), #[]⟩
noncomputable def o183_s27 (P : Params) : Obj := ⟨.none, none, (.func (fdOf (topFn 16) ⟨#[109, 97, 112, 95, 116, 97, 98, 108, 101, 95, 98, 51]⟩ 0 [] .none .none .none .none none .none .none 0)), #[]⟩
noncomputable def o184_s27 (P : Params) : Obj := ⟨(.type "code"), none, (.fields #[(.str ⟨#[109, 97, 112, 95, 116, 97, 98, 108, 101, 95, 98, 51]⟩ 2366), (.str ⟨#[109, 97, 112, 95, 116, 97, 98, 108, 101, 95, 98, 51]⟩ 2367), (.str ⟨#[47, 99, 108, 97, 105, 109, 47, 99, 117, 116, 46, 112, 121]⟩ 2368), (.int 107 0), (.int 1 0), (.int 0 0), (.int 0 0), (.int 3 0), (.ref 179), (.bool true), (.int 181 0), (.ref 180), .none, (.ref 181), (.ref 182), (.ref 183), (.int 2371 0), (.int 107 0), (.str ⟨#[47, 99, 108, 97, 105, 109, 47, 99, 117, 116, 46, 112, 121]⟩ 2372)]), #[]⟩
noncomputable def o185_s27 (P : Params) : Obj := ⟨(.type "function"), none, (.func (fdOf (topFn 16) ⟨#[109, 97, 112, 95, 116, 97, 98, 108, 101, 95, 98, 51]⟩ 3 [] .none .none .none (.str ⟨#[99, 112, 121, 51, 49, 51, 46, 115, 116, 114, 105, 110, 103, 112, 114, 101, 112]⟩ 346) none (.ref 184) .none 0)), #[]⟩
noncomputable def o186_s27 (P : Params) : Obj := ⟨(.type "tuple"), none, (.seq #[] 0), #[]⟩
noncomputable def o187_s27 (P : Params) : Obj := ⟨.none, none, (.fields #[]), #[]⟩
noncomputable def o188_s27 (P : Params) : Obj := ⟨(.type "tuple"), none, (.seq #[(.str ⟨#[115, 99, 114, 105, 112, 116]⟩ 2379), (.str ⟨#[104, 101, 97, 112, 115]⟩ 2380), (.str ⟨#[112, 108, 97, 99, 101]⟩ 2381)] 0), #[]⟩
noncomputable def o189_s27 (P : Params) : Obj := ⟨(.type "tuple"), none, (.seq #[] 0), #[]⟩
noncomputable def o190_s27 (P : Params) : Obj := ⟨.none, none, (.func (fdOf (topFn 18) ⟨#[95, 108, 97, 119, 95, 104, 101, 97, 112, 115]⟩ 0 [] .none .none .none .none none .none .none 0)), #[]⟩
noncomputable def o191_s27 (P : Params) : Obj := ⟨(.type "code"), none, (.fields #[(.str ⟨#[95, 108, 97, 119, 95, 104, 101, 97, 112, 115]⟩ 2376), (.str ⟨#[95, 108, 97, 119, 95, 104, 101, 97, 112, 115]⟩ 2377), (.str ⟨#[47, 99, 108, 97, 105, 109, 47, 99, 117, 116, 46, 112, 121]⟩ 2378), (.int 113 0), (.int 1 0), (.int 0 0), (.int 0 0), (.int 3 0), (.ref 186), (.bool true), (.int 181 0), (.ref 187), .none, (.ref 188), (.ref 189), (.ref 190), (.int 2382 0), (.int 113 0), (.str ⟨#[47, 99, 108, 97, 105, 109, 47, 99, 117, 116, 46, 112, 121]⟩ 2383)]), #[]⟩
noncomputable def o192_s27 (P : Params) : Obj := ⟨(.type "function"), none, (.func (fdOf (topFn 18) ⟨#[95, 108, 97, 119, 95, 104, 101, 97, 112, 115]⟩ 3 [] .none .none .none (.str ⟨#[108, 97, 119, 95, 119, 111, 48, 48, 54, 56, 95, 48, 50]⟩ 2374) none (.ref 191) .none 0)), #[]⟩
noncomputable def o193_s27 (P : Params) : Obj := ⟨(.type "tuple"), none, (.seq #[] 0), #[]⟩
noncomputable def o194_s27 (P : Params) : Obj := ⟨.none, none, (.fields #[]), #[]⟩
noncomputable def o195_s27 (P : Params) : Obj := ⟨.none, none, (.func (fdOf (topFn 19) ⟨#[95, 108, 97, 119, 95, 115, 116, 101, 112]⟩ 0 [] .none .none .none .none none .none .none 0)), #[]⟩
noncomputable def o196_s27 (P : Params) : Obj := ⟨(.type "code"), none, (.fields #[(.str ⟨#[95, 108, 97, 119, 95, 115, 116, 101, 112]⟩ 2385), (.str ⟨#[95, 108, 97, 119, 95, 115, 116, 101, 112]⟩ 2386), (.str ⟨#[47, 99, 108, 97, 105, 109, 47, 99, 117, 116, 46, 112, 121]⟩ 2387), (.int 118 0), (.int 2 0), (.int 0 0), (.int 0 0), (.int 3 0), (.ref 193), (.bool true), (.int 181 0), (.ref 194), .none, .none, .none, (.ref 195), (.int 2388 0), (.int 118 0), (.str ⟨#[47, 99, 108, 97, 105, 109, 47, 99, 117, 116, 46, 112, 121]⟩ 2389)]), #[]⟩
noncomputable def o197_s27 (P : Params) : Obj := ⟨(.type "function"), none, (.func (fdOf (topFn 19) ⟨#[95, 108, 97, 119, 95, 115, 116, 101, 112]⟩ 3 [] .none .none .none (.str ⟨#[108, 97, 119, 95, 119, 111, 48, 48, 54, 56, 95, 48, 50]⟩ 2374) none (.ref 196) .none 0)), #[]⟩
noncomputable def o198_s27 (P : Params) : Obj := ⟨(.type "tuple"), none, (.seq #[] 0), #[]⟩
noncomputable def o199_s27 (P : Params) : Obj := ⟨.none, none, (.fields #[]), #[]⟩
noncomputable def o200_s27 (P : Params) : Obj := ⟨(.type "tuple"), none, (.seq #[(.str ⟨#[115, 105, 122, 101]⟩ 2394), (.str ⟨#[115, 116, 101, 112]⟩ 2395), (.str ⟨#[119, 105, 100, 116, 104]⟩ 2396), (.str ⟨#[115, 101, 101, 100]⟩ 2397), (.str ⟨#[107, 105, 110, 100, 115]⟩ 2398), (.str ⟨#[117, 110, 115, 101, 101, 110]⟩ 2399), (.str ⟨#[116, 97, 112, 101]⟩ 2400), (.str ⟨#[112, 108, 97, 99, 101]⟩ 2401), (.str ⟨#[116, 111, 108, 100]⟩ 2402)] 0), #[]⟩
noncomputable def o201_s27 (P : Params) : Obj := ⟨(.type "tuple"), none, (.seq #[] 0), #[]⟩
noncomputable def o202_s27 (P : Params) : Obj := ⟨.none, none, (.func (fdOf (topFn 20) ⟨#[95, 108, 97, 119, 95, 116, 97, 112, 101]⟩ 0 [] .none .none .none .none none .none .none 0)), #[]⟩
noncomputable def o203_s27 (P : Params) : Obj := ⟨(.type "code"), none, (.fields #[(.str ⟨#[95, 108, 97, 119, 95, 116, 97, 112, 101]⟩ 2391), (.str ⟨#[95, 108, 97, 119, 95, 116, 97, 112, 101]⟩ 2392), (.str ⟨#[47, 99, 108, 97, 105, 109, 47, 99, 117, 116, 46, 112, 121]⟩ 2393), (.int 123 0), (.int 4 0), (.int 0 0), (.int 0 0), (.int 3 0), (.ref 198), (.bool true), (.int 181 0), (.ref 199), .none, (.ref 200), (.ref 201), (.ref 202), (.int 2403 0), (.int 123 0), (.str ⟨#[47, 99, 108, 97, 105, 109, 47, 99, 117, 116, 46, 112, 121]⟩ 2404)]), #[]⟩
noncomputable def o204_s27 (P : Params) : Obj := ⟨(.type "function"), none, (.func (fdOf (topFn 20) ⟨#[95, 108, 97, 119, 95, 116, 97, 112, 101]⟩ 3 [] .none .none .none (.str ⟨#[108, 97, 119, 95, 119, 111, 48, 48, 54, 56, 95, 48, 50]⟩ 2374) none (.ref 203) .none 0)), #[]⟩
noncomputable def o205_s27 (P : Params) : Obj := ⟨(.type "tuple"), none, (.seq #[] 0), #[]⟩
noncomputable def o206_s27 (P : Params) : Obj := ⟨.none, none, (.fields #[]), #[]⟩
noncomputable def o207_s27 (P : Params) : Obj := ⟨(.type "tuple"), none, (.seq #[(.str ⟨#[116, 101, 120, 116]⟩ 2409), (.str ⟨#[119, 97, 121]⟩ 2410), (.str ⟨#[119, 111, 114, 100]⟩ 2411), (.str ⟨#[115, 105, 103, 110]⟩ 2412)] 0), #[]⟩
noncomputable def o208_s27 (P : Params) : Obj := ⟨(.type "tuple"), none, (.seq #[] 0), #[]⟩
noncomputable def o209_s27 (P : Params) : Obj := ⟨.none, none, (.func (fdOf (topFn 21) ⟨#[95, 108, 97, 119, 95, 119, 111, 114, 100]⟩ 0 [] .none .none .none .none none .none .none 0)), #[]⟩
noncomputable def o210_s27 (P : Params) : Obj := ⟨(.type "code"), none, (.fields #[(.str ⟨#[95, 108, 97, 119, 95, 119, 111, 114, 100]⟩ 2406), (.str ⟨#[95, 108, 97, 119, 95, 119, 111, 114, 100]⟩ 2407), (.str ⟨#[47, 99, 108, 97, 105, 109, 47, 99, 117, 116, 46, 112, 121]⟩ 2408), (.int 137 0), (.int 2 0), (.int 0 0), (.int 0 0), (.int 3 0), (.ref 205), (.bool true), (.int 181 0), (.ref 206), .none, (.ref 207), (.ref 208), (.ref 209), (.int 2413 0), (.int 137 0), (.str ⟨#[47, 99, 108, 97, 105, 109, 47, 99, 117, 116, 46, 112, 121]⟩ 2414)]), #[]⟩
noncomputable def o211_s27 (P : Params) : Obj := ⟨(.type "function"), none, (.func (fdOf (topFn 21) ⟨#[95, 108, 97, 119, 95, 119, 111, 114, 100]⟩ 3 [] .none .none .none (.str ⟨#[108, 97, 119, 95, 119, 111, 48, 48, 54, 56, 95, 48, 50]⟩ 2374) none (.ref 210) .none 0)), #[]⟩
noncomputable def o212_s27 (P : Params) : Obj := ⟨(.type "tuple"), none, (.seq #[] 0), #[]⟩
noncomputable def o213_s27 (P : Params) : Obj := ⟨.none, none, (.fields #[]), #[]⟩
noncomputable def o214_s27 (P : Params) : Obj := ⟨(.type "tuple"), none, (.seq #[(.str ⟨#[115, 105, 122, 101]⟩ 2419), (.str ⟨#[116, 97, 112, 101]⟩ 2420), (.str ⟨#[115, 101, 101, 100]⟩ 2421), (.str ⟨#[109, 97, 114, 107]⟩ 2422), (.str ⟨#[102, 105, 114, 115, 116]⟩ 2423), (.str ⟨#[115, 101, 99, 111, 110, 100]⟩ 2424)] 0), #[]⟩
noncomputable def o215_s27 (P : Params) : Obj := ⟨(.type "tuple"), none, (.seq #[] 0), #[]⟩
noncomputable def o216_s27 (P : Params) : Obj := ⟨.none, none, (.func (fdOf (topFn 22) ⟨#[95, 108, 97, 119, 95, 112, 97, 103, 101]⟩ 0 [] .none .none .none .none none .none .none 0)), #[]⟩
noncomputable def o217_s27 (P : Params) : Obj := ⟨(.type "code"), none, (.fields #[(.str ⟨#[95, 108, 97, 119, 95, 112, 97, 103, 101]⟩ 2416), (.str ⟨#[95, 108, 97, 119, 95, 112, 97, 103, 101]⟩ 2417), (.str ⟨#[47, 99, 108, 97, 105, 109, 47, 99, 117, 116, 46, 112, 121]⟩ 2418), (.int 146 0), (.int 3 0), (.int 0 0), (.int 0 0), (.int 3 0), (.ref 212), (.bool true), (.int 181 0), (.ref 213), .none, (.ref 214), (.ref 215), (.ref 216), (.int 2425 0), (.int 146 0), (.str ⟨#[47, 99, 108, 97, 105, 109, 47, 99, 117, 116, 46, 112, 121]⟩ 2426)]), #[]⟩
noncomputable def o218_s27 (P : Params) : Obj := ⟨(.type "function"), none, (.func (fdOf (topFn 22) ⟨#[95, 108, 97, 119, 95, 112, 97, 103, 101]⟩ 3 [] .none .none .none (.str ⟨#[108, 97, 119, 95, 119, 111, 48, 48, 54, 56, 95, 48, 50]⟩ 2374) none (.ref 217) .none 0)), #[]⟩
noncomputable def o219_s27 (P : Params) : Obj := ⟨(.type "tuple"), none, (.seq #[] 0), #[]⟩
noncomputable def o220_s27 (P : Params) : Obj := ⟨.none, none, (.fields #[]), #[]⟩
noncomputable def o221_s27 (P : Params) : Obj := ⟨(.type "tuple"), none, (.seq #[(.str ⟨#[112, 97, 103, 101]⟩ 2431), (.str ⟨#[114, 101, 97, 100]⟩ 2432), (.str ⟨#[115, 116, 97, 110, 100]⟩ 2433)] 0), #[]⟩
noncomputable def o222_s27 (P : Params) : Obj := ⟨(.type "tuple"), none, (.seq #[(.str ⟨#[115, 105, 103, 110, 115]⟩ 2434)] 0), #[]⟩
noncomputable def o223_s27 (P : Params) : Obj := ⟨.none, none, (.func (fdOf (topFn 23) ⟨#[95, 108, 97, 119, 95, 108, 101, 120, 101, 114]⟩ 0 [] .none .none .none .none none .none .none 0)), #[]⟩
noncomputable def o224_s27 (P : Params) : Obj := ⟨(.type "code"), none, (.fields #[(.str ⟨#[95, 108, 97, 119, 95, 108, 101, 120, 101, 114]⟩ 2428), (.str ⟨#[95, 108, 97, 119, 95, 108, 101, 120, 101, 114]⟩ 2429), (.str ⟨#[47, 99, 108, 97, 105, 109, 47, 99, 117, 116, 46, 112, 121]⟩ 2430), (.int 151 0), (.int 1 0), (.int 0 0), (.int 0 0), (.int 3 0), (.ref 219), (.bool true), (.int 181 0), (.ref 220), .none, (.ref 221), (.ref 222), (.ref 223), (.int 2435 0), (.int 151 0), (.str ⟨#[47, 99, 108, 97, 105, 109, 47, 99, 117, 116, 46, 112, 121]⟩ 2436)]), #[]⟩
noncomputable def o225_s27 (P : Params) : Obj := ⟨(.type "function"), none, (.func (fdOf (topFn 23) ⟨#[95, 108, 97, 119, 95, 108, 101, 120, 101, 114]⟩ 3 [] .none .none .none (.str ⟨#[108, 97, 119, 95, 119, 111, 48, 48, 54, 56, 95, 48, 50]⟩ 2374) none (.ref 224) .none 0)), #[]⟩
noncomputable def o226_s27 (P : Params) : Obj := ⟨(.type "tuple"), none, (.seq #[] 0), #[]⟩
noncomputable def o227_s27 (P : Params) : Obj := ⟨.none, none, (.fields #[]), #[]⟩
noncomputable def o228_s27 (P : Params) : Obj := ⟨(.type "tuple"), none, (.seq #[(.str ⟨#[116, 97, 112, 101]⟩ 2441), (.str ⟨#[109, 97, 114, 107, 115]⟩ 2442), (.str ⟨#[103, 97, 112, 115]⟩ 2443), (.str ⟨#[115, 105, 103, 110]⟩ 2444)] 0), #[]⟩
noncomputable def o229_s27 (P : Params) : Obj := ⟨(.type "tuple"), none, (.seq #[] 0), #[]⟩
noncomputable def o230_s27 (P : Params) : Obj := ⟨.none, none, (.func (fdOf (topFn 24) ⟨#[95, 108, 97, 119, 95, 115, 101, 101, 110]⟩ 0 [] .none .none .none .none none .none .none 0)), #[]⟩
noncomputable def o231_s27 (P : Params) : Obj := ⟨(.type "code"), none, (.fields #[(.str ⟨#[95, 108, 97, 119, 95, 115, 101, 101, 110]⟩ 2438), (.str ⟨#[95, 108, 97, 119, 95, 115, 101, 101, 110]⟩ 2439), (.str ⟨#[47, 99, 108, 97, 105, 109, 47, 99, 117, 116, 46, 112, 121]⟩ 2440), (.int 161 0), (.int 1 0), (.int 0 0), (.int 0 0), (.int 3 0), (.ref 226), (.bool true), (.int 181 0), (.ref 227), .none, (.ref 228), (.ref 229), (.ref 230), (.int 2445 0), (.int 161 0), (.str ⟨#[47, 99, 108, 97, 105, 109, 47, 99, 117, 116, 46, 112, 121]⟩ 2446)]), #[]⟩
noncomputable def o232_s27 (P : Params) : Obj := ⟨(.type "function"), none, (.func (fdOf (topFn 24) ⟨#[95, 108, 97, 119, 95, 115, 101, 101, 110]⟩ 3 [] .none .none .none (.str ⟨#[108, 97, 119, 95, 119, 111, 48, 48, 54, 56, 95, 48, 50]⟩ 2374) none (.ref 231) .none 0)), #[]⟩
noncomputable def o233_s27 (P : Params) : Obj := ⟨(.type "tuple"), none, (.seq #[] 0), #[]⟩
noncomputable def o234_s27 (P : Params) : Obj := ⟨.none, none, (.fields #[]), #[]⟩
noncomputable def o235_s27 (P : Params) : Obj := ⟨(.type "tuple"), none, (.seq #[(.str ⟨#[115, 105, 122, 101]⟩ 2451), (.str ⟨#[115, 116, 101, 112]⟩ 2452), (.str ⟨#[119, 105, 100, 116, 104]⟩ 2453), (.str ⟨#[105]⟩ 2454), (.str ⟨#[106]⟩ 2455), (.str ⟨#[117]⟩ 2456), (.str ⟨#[118]⟩ 2457), (.str ⟨#[107]⟩ 2458), (.str ⟨#[110, 117, 109, 98, 101, 114, 115]⟩ 2459), (.str ⟨#[103, 97, 112, 115]⟩ 2460), (.str ⟨#[116, 117, 114, 110, 115]⟩ 2461), (.str ⟨#[109, 111, 114, 101]⟩ 2462)] 0), #[]⟩
noncomputable def o236_s27 (P : Params) : Obj := ⟨(.type "tuple"), none, (.seq #[] 0), #[]⟩
noncomputable def o237_s27 (P : Params) : Obj := ⟨.none, none, (.func (fdOf (topFn 25) ⟨#[95, 108, 97, 119, 95, 114, 117, 108, 101]⟩ 0 [] .none .none .none .none none .none .none 0)), #[]⟩
noncomputable def o238_s27 (P : Params) : Obj := ⟨(.type "code"), none, (.fields #[(.str ⟨#[95, 108, 97, 119, 95, 114, 117, 108, 101]⟩ 2448), (.str ⟨#[95, 108, 97, 119, 95, 114, 117, 108, 101]⟩ 2449), (.str ⟨#[47, 99, 108, 97, 105, 109, 47, 99, 117, 116, 46, 112, 121]⟩ 2450), (.int 171 0), (.int 3 0), (.int 0 0), (.int 0 0), (.int 3 0), (.ref 233), (.bool true), (.int 181 0), (.ref 234), .none, (.ref 235), (.ref 236), (.ref 237), (.int 2463 0), (.int 171 0), (.str ⟨#[47, 99, 108, 97, 105, 109, 47, 99, 117, 116, 46, 112, 121]⟩ 2464)]), #[]⟩
noncomputable def o239_s27 (P : Params) : Obj := ⟨(.type "function"), none, (.func (fdOf (topFn 25) ⟨#[95, 108, 97, 119, 95, 114, 117, 108, 101]⟩ 3 [] .none .none .none (.str ⟨#[108, 97, 119, 95, 119, 111, 48, 48, 54, 56, 95, 48, 50]⟩ 2374) none (.ref 238) .none 0)), #[]⟩
noncomputable def o240_s27 (P : Params) : Obj := ⟨(.type "tuple"), none, (.seq #[] 0), #[]⟩
noncomputable def o241_s27 (P : Params) : Obj := ⟨.none, none, (.fields #[]), #[]⟩
noncomputable def o242_s27 (P : Params) : Obj := ⟨.none, none, (.func (fdOf (topFn 26) ⟨#[95, 108, 97, 119, 95, 108, 105, 110, 101]⟩ 0 [] .none .none .none .none none .none .none 0)), #[]⟩
noncomputable def o243_s27 (P : Params) : Obj := ⟨(.type "code"), none, (.fields #[(.str ⟨#[95, 108, 97, 119, 95, 108, 105, 110, 101]⟩ 2466), (.str ⟨#[95, 108, 97, 119, 95, 108, 105, 110, 101]⟩ 2467), (.str ⟨#[47, 99, 108, 97, 105, 109, 47, 99, 117, 116, 46, 112, 121]⟩ 2468), (.int 197 0), (.int 3 0), (.int 0 0), (.int 0 0), (.int 3 0), (.ref 240), (.bool true), (.int 181 0), (.ref 241), .none, .none, .none, (.ref 242), (.int 2469 0), (.int 197 0), (.str ⟨#[47, 99, 108, 97, 105, 109, 47, 99, 117, 116, 46, 112, 121]⟩ 2470)]), #[]⟩
noncomputable def o244_s27 (P : Params) : Obj := ⟨(.type "function"), none, (.func (fdOf (topFn 26) ⟨#[95, 108, 97, 119, 95, 108, 105, 110, 101]⟩ 3 [] .none .none .none (.str ⟨#[108, 97, 119, 95, 119, 111, 48, 48, 54, 56, 95, 48, 50]⟩ 2374) none (.ref 243) .none 0)), #[]⟩
noncomputable def o245_s27 (P : Params) : Obj := ⟨(.type "tuple"), none, (.seq #[] 0), #[]⟩
noncomputable def o246_s27 (P : Params) : Obj := ⟨.none, none, (.fields #[]), #[]⟩
noncomputable def o247_s27 (P : Params) : Obj := ⟨.none, none, (.func (fdOf (topFn 27) ⟨#[108, 97, 119]⟩ 0 [] .none .none .none .none none .none .none 0)), #[]⟩
noncomputable def o248_s27 (P : Params) : Obj := ⟨(.type "code"), none, (.fields #[(.str ⟨#[108, 97, 119]⟩ 2472), (.str ⟨#[108, 97, 119]⟩ 2473), (.str ⟨#[47, 99, 108, 97, 105, 109, 47, 99, 117, 116, 46, 112, 121]⟩ 2474), (.int 208 0), (.int 1 0), (.int 0 0), (.int 0 0), (.int 3 0), (.ref 245), (.bool true), (.int 181 0), (.ref 246), .none, .none, .none, (.ref 247), (.int 2475 0), (.int 208 0), (.str ⟨#[47, 99, 108, 97, 105, 109, 47, 99, 117, 116, 46, 112, 121]⟩ 2476)]), #[]⟩
noncomputable def o249_s27 (P : Params) : Obj := ⟨(.type "function"), none, (.func (fdOf (topFn 27) ⟨#[108, 97, 119]⟩ 3 [] .none .none .none (.str ⟨#[108, 97, 119, 95, 119, 111, 48, 48, 54, 56, 95, 48, 50]⟩ 2374) none (.ref 248) .none 0)), #[]⟩
end Hd
end Nc1
end Pa1
section Pa2
set_option compiler.extract_closed false
open PySem PySem.W PyProof.Rows
set_option maxRecDepth 100000
namespace Hd
noncomputable abbrev B0 : List Frame := [topFrame ⟨0,0,0,0⟩]
noncomputable abbrev annT : Option Value := some (.ref 6)
noncomputable abbrev sgo (w : World) (n : Nat) (S : SharedT) (t : Thread) : Option (SharedT × Thread) := segGoT treeTable pw w 11 annT 1 n S t
theorem sgo_add (w : World) : ∀ (n k : Nat) (S S1 : SharedT) (t t1 : Thread), sgo w n S t = some (S1, t1) → sgo w (n + k) S t = sgo w k S1 t1
  | 0, k, S, S1, t, t1, h => by
    have h : some (S, t) = some (S1, t1) := h
    cases h
    rw [Nat.zero_add]
  | n + 1, k, S, S1, t, t1, h => by
    rw [show n + 1 + k = (n + k) + 1 by omega]
    have e1 : ∀ m, sgo w (m + 1) S t = match endAt 1 t with
        | some _ => none
        | none => match stepOk 11 annT t with
          | false => none
          | true => match stepT (denote treeTable) pw w S t with
            | some (s', t') => sgo w m s' t'
            | none => none := fun _ => rfl
    rw [e1] at h ⊢
    cases he : endAt 1 t with
    | some x => rw [he] at h; cases h
    | none =>
      rw [he] at h
      cases hk : stepOk 11 annT t with
      | false => rw [hk] at h; cases h
      | true =>
        rw [hk] at h
        cases hs : stepT (denote treeTable) pw w S t with
        | none => rw [hs] at h; cases h
        | some r =>
          obtain ⟨s', t'⟩ := r
          rw [hs] at h
          exact sgo_add w n k s' S1 t' t1 h
noncomputable def Go (w : World) {α : Type} (t : Sem α) (S : SharedT) (q : Pos) (v : α) (S' : SharedT) (q' : Pos) (n : Nat) : Prop :=
  ∀ (K : α → Sem Fin) (H : Value → Sem Fin) (gd : Bool → Bool) (lv : List Value → List Value), sgo w n S ⟨t.wrap K H gd lv, cT, q, B0⟩ = some (S', ⟨K v, cT, q', B0⟩)
variable {w : World} {α β : Type} {S S' S1 S2 : SharedT} {q q' q1 q2 : Pos} {n k : Nat}
theorem Go.pure (v : α) : Go w (Pure.pure v : Sem α) S q v S q 0 := fun _ _ _ _ => rfl
theorem Go.bind {m : Sem α} {f : α → Sem β} {v : α} {u : β} (h : Go w m S q v S1 q1 n) (g : Go w (f v) S1 q1 u S2 q2 k) : Go w (m >>= f) S q u S2 q2 (n + k) := fun K H gd lv => by
  rw [Sem.bind_eq_wrap', Sem.wrap_wrap]
  rw [sgo_add w n k _ _ _ _ (h _ _ _ _)]
  exact g K H _ _
theorem Go.keep {m : Sem α} {v : α} (vs : List Value) (h : Go w m S q v S' q' n) : Go w (m.keep vs) S q v S' q' n := fun K H gd lv => by
  rw [Sem.keep_eq_wrap, Sem.wrap_wrap]; exact h _ _ _ _
theorem Go.holding {m : Sem α} {v : α} (vs : List Value) (h : Go w m S q v S' q' n) : Go w (holding vs m) S q v S' q' n := by
  unfold PySem.holding
  split
  · exact h
  · exact h.keep _
theorem Go.onRaise {m : Sem α} {v : α} (x : Value → Sem Unit) (h : Go w m S q v S' q' n) : Go w (m.onRaise x) S q v S' q' n := fun K H gd lv => by
  rw [Sem.onRaise_eq_wrap, Sem.wrap_wrap]; exact h _ _ _ _
theorem Go.tryCatch {m : Sem α} {v : α} (x : Value → Sem α) (h : Go w m S q v S' q' n) : Go w (m.tryCatch x) S q v S' q' n := fun K H gd lv => by
  rw [Sem.tryCatch_eq_wrap, Sem.wrap_wrap]; exact h _ _ _ _
theorem Go.rule (tag : String) : Go w (rule tag) S q () S q 1 := fun _ _ _ _ => rfl
theorem Go.point : Go w point S q () S q 1 := fun _ _ _ _ => rfl
theorem Go.standAt (p : Pos) : Go w (standAt p) S q () S p 1 := fun _ _ _ _ => rfl
theorem Go.fresh : Go w fresh S q S.toks { S with toks := S.toks + 1 } q 1 := fun _ _ _ _ => by
  obtain ⟨T, n, l, g, d, t, o⟩ := S
  rfl
theorem Go.ask : Go w ask S q ⟨pw, w.params⟩ S q 1 := fun _ _ _ _ => by
  obtain ⟨T, n, l, g, d, t, o⟩ := S
  rfl
theorem Go.alloc {o : Obj} (h : ((S.tree.ins S.n o).get S.n).isSome = true) : Go w (alloc o) S q S.n { S with tree := S.tree.ins S.n o, n := S.n + 1 } q 1 := fun _ _ _ _ => by
  obtain ⟨T, n, l, g, d, t, os⟩ := S
  dsimp only at h
  unfold sgo segGoT
  show (match stepT _ _ _ _ _ with | some (s', t') => _ | none => _) = _
  simp only [PySem.alloc, Sem.wrap, stepT, h]
  rfl
theorem Go.loadPart {a : Addr} {p : Option Value} {o : Obj} (ha : a < S.n) (h : S.tree.get a = some o) (ho : alive o = some o) : Go w (loadPart a p) S q o S q 1 := fun _ _ _ _ => by
  obtain ⟨T, n, l, g, d, t, os⟩ := S
  dsimp only at h ha
  have hb : Nat.blt a n = true := Nat.ble_eq_true_of_le ha
  unfold sgo segGoT
  show (match stepT _ _ _ _ _ with | some (s', t') => _ | none => _) = _
  simp only [PySem.loadPart, Sem.wrap, stepT, hb, h, ho]
  rfl
theorem Go.updatePart {a : Addr} {p : Option Value} {f : Obj → Obj} {o : Obj} (ha : a < S.n) (h : S.tree.get a = some o) (ho : alive o = some o) (hn : 11 ≤ a) : Go w (updatePart a p f) S q () { S with tree := S.tree.set a f } q 1 := fun K H gd lv => by
  obtain ⟨T, n, l, g, d, t, os⟩ := S
  dsimp only at h ha
  have hb : Nat.blt a n = true := Nat.ble_eq_true_of_le ha
  have hc : Nat.ble 11 a = true := Nat.ble_eq_true_of_le hn
  unfold sgo segGoT
  have hk : stepOk 11 annT ⟨(PySem.updatePart a p f).wrap K H gd lv, cT, q, B0⟩ = true := by
    show (_ && (Nat.ble 11 a || _ || _ || _)) = true
    rw [hc]; rfl
  rw [hk]
  show (match stepT _ _ _ _ _ with | some (s', t') => _ | none => _) = _
  simp only [PySem.updatePart, Sem.wrap, stepT, hb, h, ho]
  rfl
theorem hash1 (i : Int) (t : Tok) : Go w (PySem.call (.builtin "int.__hash__") [.int i t]) S q (.int (rawHash i) S.toks) { S with toks := S.toks + 1 } q 4 := fun K H gd lv => by
  obtain ⟨T, n, l, g, d, tk, os⟩ := S
  kernel_rfl!
theorem Go.cast {m : Sem α} {v v' : α} (h : Go w m S q v S' q' n) (e : v = v') (ek : n = k) : Go w m S q v' S' q' k := e ▸ ek ▸ h
theorem spec_hash (i : Int) (t : Tok) : specialOf (.int i t) "__hash__" = Pure.pure (some (.builtin "int.__hash__")) := by kernel_rfl!
theorem bind_hash (i : Int) (t : Tok) : bindSpecial (.builtin "int.__hash__") (.int i t) = Pure.pure (.builtin "int.__hash__", [.int i t]) := by kernel_rfl!
theorem pure_bind' (a : α) (f : α → Sem β) : ((Pure.pure a : Sem α) >>= f) = f a := rfl
theorem bsib (i : Int) (t : Tok) : Go w (bindSpecialIfBound? (.int i t) "__hash__") S q (some (.builtin "int.__hash__", [.int i t])) S q 1 := by
  unfold bindSpecialIfBound?
  rw [spec_hash, pure_bind']
  dsimp only
  rw [bind_hash, pure_bind']
  refine Go.cast (n := 1 + 0) (Go.bind Go.ask ?_) rfl rfl
  dsimp only
  split
  · exact Go.pure _
  · exact Go.tryCatch _ (Go.pure _)
theorem hashI (i : Int) (t : Tok) (h0 : 0 ≤ i) (h1 : i < 2305843009213693951) : Go w (pyHash (.int i t)) S q i { S with toks := S.toks + 1 } q 5 := by
  have hr : rawHash i = i := by
    obtain ⟨m, rfl⟩ := Int.eq_ofNat_of_zero_le h0
    unfold rawHash
    have e : ((m : Int).natAbs : Int) % ((2 ^ 61 - 1 : Nat) : Int) = (m : Int) := by
      rw [Int.natAbs_natCast, Int.emod_eq_of_lt (by omega) (by rw [show ((2 ^ 61 - 1 : Nat) : Int) = 2305843009213693951 from rfl]; omega)]
    dsimp only
    have e2 : ((m : Int) == -1) = false := beq_eq_false_iff_ne.mpr (by omega)
    have e4 : ¬ ((m : Int) < 0) := by omega
    rw [e, if_neg e4, e2]; rfl
  have hc : cRoomFor "hash" [Value.int i t] = Pure.pure () := rfl
  have e3 : (i == -1) = false := beq_eq_false_iff_ne.mpr (by omega)
  unfold pyHash
  show Go w (pyHashByItsType (.int i t)) S q i _ q 5
  unfold pyHashByItsType
  rw [hc, pure_bind', spec_hash, pure_bind', if_neg (by decide)]
  dsimp only
  rw [pure_bind']
  dsimp only [Option.isNone]
  rw [if_neg (by decide)]
  unfold callSpecialIfBoundUnlessNone?
  refine Go.cast (n := (1 + (4 + 0)) + 0) (Go.bind (v := some (.int (rawHash i) S.toks)) (S1 := { S with toks := S.toks + 1 }) (q1 := q) (Go.holding _ (Go.bind (bsib i t) ?_)) ?_) rfl rfl
  · exact Go.bind (hash1 i t) (Go.pure _)
  · rw [hr]
    show Go w (pyHashByItsType.reduced i) _ q i _ q 0
    unfold pyHashByItsType.reduced
    rw [if_pos (by simp; omega), e3]
    exact Go.pure _
noncomputable def ent (x : Int × Tok × Str × Tok) : DictEntry := ⟨x.1, .int x.1 x.2.1, .str x.2.2.1 x.2.2.2⟩
noncomputable abbrev Quad := Int × Tok × Str × Tok
noncomputable def dob (l : List Quad) (ep : Nat) : Obj := { cls := .type "dict", data := .dict (l.map ent).toArray ep }
theorem places_nil (l : List Quad) (i : Int) (hne : ∀ x ∈ l, x.1 ≠ i) : placesWithHash (l.map ent).toArray.size (fun j => (l.map ent).toArray[j]?.map (·.hash)) i = [] := by
  unfold placesWithHash
  refine List.filter_eq_nil_iff.mpr fun j _ => ?_
  simp only [List.getElem?_toArray, List.getElem?_map, Option.map_map]
  cases h : l[j]? with
  | none => simp
  | some x =>
    have := hne x (List.mem_of_getElem? h)
    simpa [ent] using this
theorem find_none (d : Addr) (l : List Quad) (ep : Nat) (i : Int) (t : Tok) (ha : d < S.n) (h : S.tree.get d = some (dob l ep)) (hne : ∀ x ∈ l, x.1 ≠ i) : Go w (dictFind d (.int i t) i) S q none S q 1 := by
  unfold dictFind
  refine Go.holding _ ?_
  refine Go.cast (n := 1 + 0) (Go.bind (v := (l.map ent).toArray) (S1 := S) (q1 := q) ?_ ?_) rfl rfl
  · unfold dictEntries
    exact Go.cast (n := 1 + 0) (Go.bind (Go.loadPart ha h rfl) (Go.pure _)) rfl rfl
  · dsimp only
    rw [places_nil l i hne]
    exact Go.pure _
theorem look_behind (d : Addr) (p : Option Value) (l : List Quad) (ep : Nat) (hl : l.length < 100000) (ha : d < S.n) (h : S.tree.get d = some (dob l ep)) : Go w (lookBehind d p) S q () S q 1 := by
  unfold lookBehind
  refine Go.cast (n := 1 + 0) (Go.bind (Go.loadPart ha h rfl) ?_) rfl rfl
  have : (dob l ep).data.pastItsLine = none := by
    show (if (l.map ent).toArray.size > sizeLine + 1 then some "dict:memory" else none) = none
    rw [if_neg]
    simp [sizeLine]; omega
  rw [this]
  exact Go.pure _
theorem upd_keys (d : Addr) (l : List Quad) (ep : Nat) (x : Quad) (p : Option Value) (hn : 11 ≤ d) (hl : l.length + 1 < 100000) (ha : d < S.n) (h : S.tree.get d = some (dob l ep)) :
    Go w (updateDictKeys d (·.push (ent x)) p) S q () { S with tree := S.tree.set d (Obj.mapDictKeys (·.push (ent x))) } q 3 := by
  unfold updateDictKeys
  refine Go.cast (n := 1 + (1 + 1)) (Go.bind (Go.loadPart ha h rfl) (Go.bind (Go.updatePart ha h rfl hn) ?_)) rfl rfl
  refine look_behind d p (l ++ [x]) (ep + 1) (by simp; omega) ha ?_
  show (S.tree.set d _).get d = _
  rw [BT.get_set, if_pos rfl, h]
  simp [dob, Obj.mapDictKeys]
theorem set_new (d : Addr) (l : List Quad) (ep : Nat) (i : Int) (t : Tok) (x : Str) (u : Tok) (h0 : 0 ≤ i) (h1 : i < 2305843009213693951) (hne : ∀ x ∈ l, x.1 ≠ i) (hn : 11 ≤ d) (hl : l.length + 1 < 100000) (ha : d < S.n) (h : S.tree.get d = some (dob l ep)) :
    Go w (dictSet d (.int i t) (.str x u)) S q () { S with toks := S.toks + 1, tree := S.tree.set d (Obj.mapDictKeys (·.push (ent (i, t, x, u)))) } q 10 := by
  unfold dictSet
  refine Go.holding _ (Go.cast (n := 5 + 5) (Go.bind (hashI i t h0 h1) ?_) rfl rfl)
  unfold dictSetHashed
  refine Go.holding _ (Go.cast (n := 1 + (1 + 3)) (Go.bind (find_none d l ep i t ha h hne) ?_) rfl rfl)
  exact Go.bind (Go.rule _) (upd_keys d l ep (i, t, x, u) _ hn hl ha h)
end Hd
end Pa2
section Pa3
set_option compiler.extract_closed false
open PySem PySem.W PyProof.Rows
set_option maxRecDepth 100000
namespace Hd
theorem bt_set_set (f g : Obj → Obj) : ∀ (T : BT) (a : Nat), (T.set a f).set a g = T.set a (fun o => g (f o))
  | .nil, a => rfl
  | .node v l r, a => by
    rw [BT.set_node, BT.set_node]
    by_cases h : a = 0
    · rw [if_pos h, if_pos h, BT.set_node, if_pos h]
    · rw [if_neg h, if_neg h]
      by_cases p : a % 2 = 1
      · rw [if_pos p, if_pos p, BT.set_node, if_neg h, if_pos p, bt_set_set f g l]
      · rw [if_neg p, if_neg p, BT.set_node, if_neg h, if_neg p, bt_set_set f g r]
theorem bt_set_const (f : Obj → Obj) (o : Obj) : ∀ (T : BT) (a : Nat), T.get a = some o → T.set a f = T.set a (fun _ => f o)
  | .nil, a, _ => rfl
  | .node v l r, a, h => by
    rw [BT.get_node] at h
    rw [BT.set_node, BT.set_node]
    by_cases h0 : a = 0
    · rw [if_pos h0] at h ⊢; rw [if_pos h0]; cases h; rfl
    · rw [if_neg h0] at h ⊢; rw [if_neg h0]
      by_cases p : a % 2 = 1
      · rw [if_pos p] at h ⊢; rw [if_pos p, bt_set_const f o l _ h]
      · rw [if_neg p] at h ⊢; rw [if_neg p, bt_set_const f o r _ h]
theorem bt_set_same (o : Obj) : ∀ (T : BT) (a : Nat), T.get a = some o → T.set a (fun _ => o) = T
  | .nil, a, _ => rfl
  | .node v l r, a, h => by
    rw [BT.get_node] at h
    rw [BT.set_node]
    by_cases h0 : a = 0
    · rw [if_pos h0] at h ⊢; cases h; rfl
    · rw [if_neg h0] at h ⊢
      by_cases p : a % 2 = 1
      · rw [if_pos p] at h ⊢; rw [bt_set_same o l _ h]
      · rw [if_neg p] at h ⊢; rw [bt_set_same o r _ h]
theorem bt_ins_set (o : Obj) (f : Obj → Obj) : ∀ (T : BT) (a : Nat), ((T.ins a o).get a).isSome = true → (T.ins a o).set a f = T.ins a (f o)
  | .nil, a, h => by
    have e : (BT.nil.ins a o) = .node o .nil .nil := rfl
    have e' : (BT.nil.ins a (f o)) = .node (f o) .nil .nil := rfl
    rw [e, BT.get_node] at h
    by_cases h0 : a = 0
    · rw [e, e', BT.set_node, if_pos h0]
    · rw [if_neg h0] at h
      exfalso; revert h; by_cases p : a % 2 = 1 <;> simp [p, BT.get]
  | .node v l r, a, h => by
    rw [BT.ins_node] at h ⊢
    rw [BT.ins_node]
    by_cases h0 : a = 0
    · rw [if_pos h0, if_pos h0, BT.set_node, if_pos h0]
    · rw [if_neg h0] at h ⊢
      rw [if_neg h0]
      by_cases p : a % 2 = 1
      · rw [if_pos p] at h ⊢
        rw [BT.get_node, if_neg h0, if_pos p] at h
        rw [if_pos p, BT.set_node, if_neg h0, if_pos p, bt_ins_set o f l _ h]
      · rw [if_neg p] at h ⊢
        rw [BT.get_node, if_neg h0, if_neg p] at h
        rw [if_neg p, BT.set_node, if_neg h0, if_neg p, bt_ins_set o f r _ h]
theorem bt_ins_ok (o o' : Obj) : ∀ (T : BT) (a : Nat), ((T.ins a o).get a).isSome = true → ((T.ins a o').get a).isSome = true
  | .nil, a, h => by
    have e : ∀ x, (BT.nil.ins a x) = .node x .nil .nil := fun _ => rfl
    rw [e, BT.get_node] at h ⊢
    by_cases h0 : a = 0
    · rw [if_pos h0]; rfl
    · rw [if_neg h0] at h ⊢
      exact h
  | .node v l r, a, h => by
    rw [BT.ins_node] at h ⊢
    by_cases h0 : a = 0
    · rw [if_pos h0, BT.get_node, if_pos h0]; rfl
    · rw [if_neg h0] at h ⊢
      by_cases p : a % 2 = 1
      · rw [if_pos p, BT.get_node, if_neg h0, if_pos p] at h ⊢
        exact bt_ins_ok o o' l _ h
      · rw [if_neg p, BT.get_node, if_neg h0, if_neg p] at h ⊢
        exact bt_ins_ok o o' r _ h
noncomputable abbrev KV := Int × Str
noncomputable def quadsL : Nat → List KV → List Quad
  | _, [] => []
  | t, (i, x) :: r => (i, t, x, t + 1) :: quadsL (t + 3) r
noncomputable def quadsS : Nat → List KV → List Quad
  | _, [] => []
  | t, (i, x) :: r => (i, t, x, t + 1) :: quadsS (t + 2) r
theorem quadsL_len : ∀ (l : List KV) (t : Nat), (quadsL t l).length = l.length
  | [], _ => rfl
  | (_, _) :: r, t => by simp [quadsL, quadsL_len r]
theorem quadsS_len : ∀ (l : List KV) (t : Nat), (quadsS t l).length = l.length
  | [], _ => rfl
  | (_, _) :: r, t => by simp [quadsS, quadsS_len r]
theorem quadsL_fst : ∀ (l : List KV) (t : Nat), (quadsL t l).map (·.1) = l.map (·.1)
  | [], _ => rfl
  | (_, _) :: r, t => by simp [quadsL, quadsL_fst r]
theorem quadsS_fst : ∀ (l : List KV) (t : Nat), (quadsS t l).map (·.1) = l.map (·.1)
  | [], _ => rfl
  | (_, _) :: r, t => by simp [quadsS, quadsS_fst r]
variable {w : World} {α β : Type} {S S' S1 S2 : SharedT} {q q' q1 q2 : Pos} {n k : Nat}
noncomputable def kT (x : KV) : Sem Value := mkInt x.1
noncomputable def vT (p : Pos) (x : KV) : Sem Value := do let v ← mkText x.2; standAt p; pure v
noncomputable def prT (p : Pos) (x : KV) : Sem Value × Sem Value := (kT x, vT p x)
theorem kT_go (x : KV) : Go w (kT x) S q (.int x.1 S.toks) { S with toks := S.toks + 1 } q 1 := by
  unfold kT mkInt
  exact Go.cast (n := 1 + 0) (Go.bind Go.fresh (Go.pure _)) rfl rfl
theorem vT_go (p : Pos) (x : KV) : Go w (vT p x) S q (.str x.2 S.toks) { S with toks := S.toks + 1 } p 2 := by
  unfold vT mkText
  exact Go.cast (n := (1 + 0) + (1 + 0)) (Go.bind (Go.bind Go.fresh (Go.pure _)) (Go.bind (Go.standAt p) (Go.pure _))) rfl rfl
theorem Go.forNil {σ : Type} (b : σ) (f : α → σ → Sem (ForInStep σ)) : Go w (forIn ([] : List α) b f) S q b S q 0 := Go.pure _
theorem Go.forCons {σ : Type} {a : α} {l : List α} {b b1 b2 : σ} {f : α → σ → Sem (ForInStep σ)} (h : Go w (f a b) S q (.yield b1) S1 q1 n) (g : Go w (forIn l b1 f) S1 q1 b2 S2 q2 k) : Go w (forIn (a :: l) b f) S q b2 S2 q2 (n + k) := by
  rw [List.forIn_cons]
  exact Go.bind h g
theorem fillL (d : Addr) (p : Pos) (f : Sem Value × Sem Value → PUnit → Sem (ForInStep PUnit)) (hf : ∀ k v u, f (k, v) u = (do let kv ← k; let vv ← holding [kv] v; holding [kv, vv] (dictSet d kv vv); pure (.yield ⟨⟩))) :
   ∀ (l : List KV) (acc : List Quad) (ep : Nat) (S : SharedT) (q : Pos), 11 ≤ d → d < S.n → S.tree.get d = some (dob acc ep) → acc.length + l.length < 100000 → (∀ x ∈ l, 0 ≤ x.1 ∧ x.1 < 2305843009213693951) → ((acc.map (·.1)) ++ l.map (·.1)).Nodup →
    Go w (forIn (l.map (prT p)) PUnit.unit f) S q PUnit.unit { S with tree := S.tree.set d (fun _ => dob (acc ++ quadsL S.toks l) (ep + l.length)), toks := S.toks + 3 * l.length } (if l.isEmpty then q else p) (13 * l.length)
  | [], acc, ep, S, q, hn, ha, h, hl, hb, hd => by
    have : S.tree.set d (fun _ => dob (acc ++ quadsL S.toks []) (ep + ([] : List KV).length)) = S.tree := by
      simp only [quadsL, List.append_nil, List.length_nil, Nat.add_zero]
      exact bt_set_same _ _ _ h
    rw [this]
    exact Go.forNil _ _
  | x :: r, acc, ep, S, q, hn, ha, h, hl, hb, hd => by
    have hd' := hd
    rw [List.map_cons]
    have step : Go w (f (prT p x) PUnit.unit) S q (.yield PUnit.unit) { S with tree := S.tree.set d (fun _ => dob (acc ++ [(x.1, S.toks, x.2, S.toks + 1)]) (ep + 1)), toks := S.toks + 3 } p 13 := by
      unfold prT
      rw [hf]
      refine Go.cast (n := 1 + (2 + (10 + 0))) (Go.bind (kT_go x) (Go.bind (Go.holding _ (vT_go p x)) (Go.bind (v := ()) (S1 := { S with tree := S.tree.set d (fun _ => dob (acc ++ [(x.1, S.toks, x.2, S.toks + 1)]) (ep + 1)), toks := S.toks + 3 }) (q1 := p) (Go.holding _ ?_) (Go.pure _)))) rfl rfl
      have e : S.tree.set d (fun _ => dob (acc ++ [(x.1, S.toks, x.2, S.toks + 1)]) (ep + 1)) = S.tree.set d (Obj.mapDictKeys (·.push (ent (x.1, S.toks, x.2, S.toks + 1)))) := by
        rw [bt_set_const (Obj.mapDictKeys (·.push (ent (x.1, S.toks, x.2, S.toks + 1)))) _ _ _ h]
        congr 1
        funext _
        simp [dob, Obj.mapDictKeys, ent]
      rw [e]
      have hx := hb x (List.mem_cons_self ..)
      refine set_new (S := { S with toks := S.toks + 1 + 1 }) d acc ep x.1 S.toks x.2 (S.toks + 1) hx.1 hx.2 ?_ hn (by simp at hl; omega) ha h
      intro y hy hxy
      rw [List.nodup_append] at hd'
      exact hd'.2.2 _ (List.mem_map_of_mem hy) _ (List.mem_map_of_mem (List.mem_cons_self ..)) hxy
    refine Go.cast (n := 13 + 13 * r.length) (Go.forCons step ?_) rfl (by simp; omega)
    have ih := fillL d p f hf r (acc ++ [(x.1, S.toks, x.2, S.toks + 1)]) (ep + 1) { S with tree := S.tree.set d (fun _ => dob (acc ++ [(x.1, S.toks, x.2, S.toks + 1)]) (ep + 1)), toks := S.toks + 3 } p hn ha
      (by show (S.tree.set d _).get d = _; rw [BT.get_set, if_pos rfl, h]; rfl) (by simp at hl ⊢; omega) (fun y hy => hb y (List.mem_cons_of_mem _ hy)) (by simpa using hd)
    have e1 : (if r.isEmpty then p else p) = p := by split <;> rfl
    rw [e1] at ih
    have e2 : (if (x :: r).isEmpty then q else p) = p := rfl
    rw [e2]
    have e3 : ({ S with tree := S.tree.set d (fun _ => dob (acc ++ quadsL S.toks (x :: r)) (ep + (x :: r).length)), toks := S.toks + 3 * (x :: r).length } : SharedT) =
        { ({ S with tree := S.tree.set d (fun _ => dob (acc ++ [(x.1, S.toks, x.2, S.toks + 1)]) (ep + 1)), toks := S.toks + 3 } : SharedT) with tree := (S.tree.set d (fun _ => dob (acc ++ [(x.1, S.toks, x.2, S.toks + 1)]) (ep + 1))).set d (fun _ => dob (acc ++ [(x.1, S.toks, x.2, S.toks + 1)] ++ quadsL (S.toks + 3) r) (ep + 1 + r.length)), toks := S.toks + 3 + 3 * r.length } := by
      rw [bt_set_set]
      obtain ⟨x1, x2⟩ := x
      have a1 : acc ++ quadsL S.toks ((x1, x2) :: r) = acc ++ [(x1, S.toks, x2, S.toks + 1)] ++ quadsL (S.toks + 3) r := by simp [quadsL]
      have a2 : ep + ((x1, x2) :: r).length = ep + 1 + r.length := by simp; omega
      have a3 : S.toks + 3 * ((x1, x2) :: r).length = S.toks + 3 + 3 * r.length := by simp; omega
      rw [a1, a2, a3]
    rw [e3]
    exact ih
end Hd
end Pa3
section Pa4
set_option compiler.extract_closed false
open PySem PySem.W PyProof.Rows
set_option maxRecDepth 100000
namespace Hd
variable {w : World} {α β : Type} {S S' S1 S2 : SharedT} {q q' q1 q2 : Pos} {n k : Nat}
theorem subL (p : Pos) (l : List KV) (hlen : 15 < l.length) (hl : l.length < 1000) (hn : 11 ≤ S.n) (hi : ((S.tree.ins S.n (dob [] 0)).get S.n).isSome = true) (hb : ∀ x ∈ l, 0 ≤ x.1 ∧ x.1 < 2305843009213693951) (hd : (l.map (·.1)).Nodup) :
    Go w (subDict (l.map (prT p))) S q S.n { S with tree := S.tree.ins S.n (dob (quadsL S.toks l) l.length), n := S.n + 1, toks := S.toks + 3 * l.length } p (2 + 13 * l.length) := by
  unfold subDict
  have g : (S.tree.ins S.n (dob [] 0)).get S.n = some (dob [] 0) := by rw [BT.get_ins _ _ _ hi, if_pos rfl]
  refine Go.cast (n := 1 + ((1 + 13 * l.length) + 0)) (Go.bind (v := S.n) (S1 := { S with tree := S.tree.ins S.n (dob [] 0), n := S.n + 1 }) (q1 := q) (Go.alloc hi) (Go.bind (v := ()) (Go.holding _ ?_) (Go.pure _))) rfl (by omega)
  rw [if_neg (by simp; omega)]
  refine Go.bind (Go.rule _) ?_
  have := fillL (w := w) S.n p (fun (x : Sem Value × Sem Value) (_ : PUnit) => (do let kv ← x.1; let vv ← holding [kv] x.2; holding [kv, vv] (dictSet S.n kv vv); Pure.pure (.yield ⟨⟩))) (fun _ _ _ => rfl) l [] 0 { S with tree := S.tree.ins S.n (dob [] 0), n := S.n + 1 } q hn (Nat.lt_succ_self _) g (by simp; omega) hb (by simpa using hd)
  have e : (if l.isEmpty then q else p) = p := by cases l with | nil => simp at hlen | cons => rfl
  rw [e] at this
  dsimp only at this
  rw [bt_ins_set _ _ _ _ hi] at this
  simpa using this
theorem evalS (p : Pos) : ∀ (l : List KV) (S : SharedT) (q : Pos), Go w (evalPairs (l.map (prT p))) S q ((quadsS S.toks l).map fun x => (Value.int x.1 x.2.1, Value.str x.2.2.1 x.2.2.2)) { S with toks := S.toks + 2 * l.length } (if l.isEmpty then q else p) (3 * l.length)
  | [], S, q => Go.pure _
  | x :: r, S, q => by
    obtain ⟨x1, x2⟩ := x
    rw [List.map_cons]
    show Go w (do let kv ← kT (x1, x2); let vv ← holding [kv] (vT p (x1, x2)); let rest ← holding [kv, vv] (evalPairs (r.map (prT p))); Pure.pure ((kv, vv) :: rest)) S q _ _ _ _
    have ih := evalS p r { S with toks := S.toks + 2 } p
    have e1 : (if r.isEmpty then p else p) = p := by split <;> rfl
    rw [e1] at ih
    have e3 : S.toks + 2 * ((x1, x2) :: r).length = S.toks + 2 + 2 * r.length := by simp; omega
    rw [e3]
    exact Go.cast (n := 1 + (2 + (3 * r.length + 0))) (Go.bind (kT_go _) (Go.bind (Go.holding _ (vT_go p _)) (Go.bind (Go.holding _ ih) (Go.pure _)))) rfl (by simp; omega)
theorem storeS (d : Addr) (f : Value × Value → PUnit → Sem (ForInStep PUnit)) (hf : ∀ k v u, f (k, v) u = (do dictSet d k v; Pure.pure (.yield ⟨⟩))) :
   ∀ (l : List Quad) (acc : List Quad) (ep : Nat) (S : SharedT) (q : Pos), 11 ≤ d → d < S.n → S.tree.get d = some (dob acc ep) → acc.length + l.length < 100000 → (∀ x ∈ l, 0 ≤ x.1 ∧ x.1 < 2305843009213693951) → ((acc.map (·.1)) ++ l.map (·.1)).Nodup →
    Go w (forIn (l.map fun x => (Value.int x.1 x.2.1, Value.str x.2.2.1 x.2.2.2)) PUnit.unit f) S q PUnit.unit { S with tree := S.tree.set d (fun _ => dob (acc ++ l) (ep + l.length)), toks := S.toks + l.length } q (10 * l.length)
  | [], acc, ep, S, q, hn, ha, h, hl, hb, hd => by
    have : S.tree.set d (fun _ => dob (acc ++ []) (ep + ([] : List Quad).length)) = S.tree := by
      simp only [List.append_nil, List.length_nil, Nat.add_zero]
      exact bt_set_same _ _ _ h
    rw [this]
    exact Go.forNil _ _
  | x :: r, acc, ep, S, q, hn, ha, h, hl, hb, hd => by
    have hd' := hd
    rw [List.map_cons]
    have step : Go w (f (Value.int x.1 x.2.1, Value.str x.2.2.1 x.2.2.2) PUnit.unit) S q (.yield PUnit.unit) { S with tree := S.tree.set d (fun _ => dob (acc ++ [x]) (ep + 1)), toks := S.toks + 1 } q 10 := by
      rw [hf]
      refine Go.cast (n := 10 + 0) (Go.bind (v := ()) (S1 := { S with tree := S.tree.set d (fun _ => dob (acc ++ [x]) (ep + 1)), toks := S.toks + 1 }) (q1 := q) ?_ (Go.pure _)) rfl rfl
      have e : S.tree.set d (fun _ => dob (acc ++ [x]) (ep + 1)) = S.tree.set d (Obj.mapDictKeys (·.push (ent (x.1, x.2.1, x.2.2.1, x.2.2.2)))) := by
        rw [bt_set_const (Obj.mapDictKeys (·.push (ent (x.1, x.2.1, x.2.2.1, x.2.2.2)))) _ _ _ h]
        congr 1
        funext _
        simp [dob, Obj.mapDictKeys, ent]
      rw [e]
      have hx := hb x (List.mem_cons_self ..)
      refine set_new d acc ep x.1 x.2.1 x.2.2.1 x.2.2.2 hx.1 hx.2 ?_ hn (by simp at hl; omega) ha h
      intro y hy hxy
      rw [List.nodup_append] at hd'
      exact hd'.2.2 _ (List.mem_map_of_mem hy) _ (List.mem_map_of_mem (List.mem_cons_self ..)) hxy
    refine Go.cast (n := 10 + 10 * r.length) (Go.forCons step ?_) rfl (by simp; omega)
    have ih := storeS d f hf r (acc ++ [x]) (ep + 1) { S with tree := S.tree.set d (fun _ => dob (acc ++ [x]) (ep + 1)), toks := S.toks + 1 } q hn ha
      (by show (S.tree.set d _).get d = _; rw [BT.get_set, if_pos rfl, h]; rfl) (by simp at hl ⊢; omega) (fun y hy => hb y (List.mem_cons_of_mem _ hy)) (by simpa using hd)
    have e3 : ({ S with tree := S.tree.set d (fun _ => dob (acc ++ x :: r) (ep + (x :: r).length)), toks := S.toks + (x :: r).length } : SharedT) =
        { ({ S with tree := S.tree.set d (fun _ => dob (acc ++ [x]) (ep + 1)), toks := S.toks + 1 } : SharedT) with tree := (S.tree.set d (fun _ => dob (acc ++ [x]) (ep + 1))).set d (fun _ => dob (acc ++ [x] ++ r) (ep + 1 + r.length)), toks := S.toks + 1 + r.length } := by
      rw [bt_set_set]
      have a1 : acc ++ x :: r = acc ++ [x] ++ r := by simp
      have a2 : ep + (x :: r).length = ep + 1 + r.length := by simp; omega
      have a3 : S.toks + (x :: r).length = S.toks + 1 + r.length := by simp; omega
      rw [a1, a2, a3]
    rw [e3]
    exact ih
theorem subS (p : Pos) (l : List KV) (hlen : l.length ≤ 15) (h0 : l ≠ []) (hn : 11 ≤ S.n) (hi : ((S.tree.ins S.n (dob [] 0)).get S.n).isSome = true) (hb : ∀ x ∈ l, 0 ≤ x.1 ∧ x.1 < 2305843009213693951) (hd : (l.map (·.1)).Nodup) :
    Go w (subDict (l.map (prT p))) S q S.n { S with tree := S.tree.ins S.n (dob (quadsS S.toks l) l.length), n := S.n + 1, toks := S.toks + 3 * l.length } p (1 + 13 * l.length) := by
  unfold subDict
  have g : (S.tree.ins S.n (dob [] 0)).get S.n = some (dob [] 0) := by rw [BT.get_ins _ _ _ hi, if_pos rfl]
  refine Go.cast (n := 1 + ((3 * l.length + (10 * l.length)) + 0)) (Go.bind (v := S.n) (S1 := { S with tree := S.tree.ins S.n (dob [] 0), n := S.n + 1 }) (q1 := q) (Go.alloc hi) (Go.bind (v := ()) (Go.holding _ ?_) (Go.pure _))) rfl (by omega)
  rw [if_pos (by simp; omega)]
  have ev := evalS (w := w) p l { S with tree := S.tree.ins S.n (dob [] 0), n := S.n + 1 } q
  have e : (if l.isEmpty then q else p) = p := by cases l with | nil => exact absurd rfl h0 | cons => rfl
  rw [e] at ev
  refine Go.bind ev (Go.holding _ ?_)
  have hq : (quadsS S.toks l).map (·.1) = l.map (·.1) := quadsS_fst l _
  have := storeS (w := w) S.n (fun (x : Value × Value) (_ : PUnit) => (do dictSet S.n x.1 x.2; Pure.pure (.yield ⟨⟩))) (fun _ _ _ => rfl) (quadsS S.toks l) [] 0 { S with tree := S.tree.ins S.n (dob [] 0), n := S.n + 1, toks := S.toks + 2 * l.length } p hn (Nat.lt_succ_self _) g (by simp [quadsS_len]; omega)
    (fun x hx => by
      have : x.1 ∈ l.map (·.1) := hq ▸ List.mem_map_of_mem hx
      obtain ⟨y, hy, e⟩ := List.mem_map.mp this
      rw [← e]; exact hb y hy) (by simpa [hq] using hd)
  dsimp only at this
  rw [bt_ins_set _ _ _ _ hi] at this
  simp only [quadsS_len, List.nil_append, Nat.zero_add] at this
  have a : S.toks + 2 * l.length + l.length = S.toks + 3 * l.length := by omega
  rw [a] at this
  exact Go.bind (n := 10 * l.length) (k := 0) this (Go.pure _)
theorem dob_push (l : List Quad) (ep : Nat) (x : Quad) : Obj.mapDictKeys (·.push (ent x)) (dob l ep) = dob (l ++ [x]) (ep + 1) := by
  simp [dob, Obj.mapDictKeys]
theorem mergeLoop (d a : Addr) (c m0 : List Quad) (ea e0 : Nat) (hda : d ≠ a) (hd11 : 11 ≤ d) (hnd : ((m0 ++ c).map (·.1)).Nodup) (hb : ∀ x ∈ c, 0 ≤ x.1 ∧ x.1 < 2305843009213693951) (hl : m0.length + c.length < 100000)
   (f : Nat → PUnit → Sem (ForInStep PUnit)) (G : DictEntry → Sem (ForInStep PUnit)) (N U : Sem (ForInStep PUnit)) (hf : ∀ i u, f i u = (dictEntries a >>= fun es => match es[i]? with | some e => G e | none => N))
   (hG : ∀ e, G e = (holding [e.key, e.val] (dictPut d e.hash e.key e.val) >>= fun _ => dictEpoch a >>= fun ep' => if (ep' != ea) = true then U else Pure.pure (.yield ⟨⟩))) :
   ∀ (m j : Nat) (S : SharedT), j + m = c.length → d < S.n → a < S.n → S.tree.get d = some (dob (m0 ++ c.take j) (e0 + j)) → S.tree.get a = some (dob c ea) →
    Go w (forIn (List.range' j m) PUnit.unit f) S q PUnit.unit { S with tree := S.tree.set d (fun _ => dob (m0 ++ c) (e0 + c.length)) } q (6 * m)
  | 0, j, S, hj, hdn, han, h, ha => by
    have hj' : j = c.length := by omega
    subst hj'
    rw [List.take_length] at h
    rw [bt_set_same _ _ _ h]
    exact Go.forNil _ _
  | m + 1, j, S, hj, hdn, han, h, ha => by
    have hlt : j < c.length := by omega
    rw [List.range'_succ]
    have hx : c[j]? = some c[j] := List.getElem?_eq_getElem hlt
    have et : c.take (j + 1) = c.take j ++ [c[j]] := by rw [List.take_succ, hx]; rfl
    have step : Go w (f j PUnit.unit) S q (.yield PUnit.unit) { S with tree := S.tree.set d (fun _ => dob (m0 ++ c.take (j + 1)) (e0 + (j + 1))) } q 6 := by
      rw [hf]
      refine Go.cast (n := 1 + (4 + (1 + 0))) (Go.bind (v := (c.map ent).toArray) (S1 := S) (q1 := q) ?_ ?_) rfl rfl
      · unfold dictEntries
        exact Go.cast (n := 1 + 0) (Go.bind (Go.loadPart han ha rfl) (Go.pure _)) rfl rfl
      have e1 : (c.map ent).toArray[j]? = some (ent c[j]) := by simp [hlt]
      rw [e1]
      dsimp only
      rw [hG]
      refine Go.bind (v := ()) (S1 := { S with tree := S.tree.set d (fun _ => dob (m0 ++ c.take (j + 1)) (e0 + (j + 1))) }) (q1 := q) (Go.holding _ ?_) ?_
      · unfold dictPut
        refine Go.cast (n := 1 + 3) (Go.bind (find_none d (m0 ++ c.take j) (e0 + j) _ _ hdn h ?_) ?_) rfl rfl
        · intro y hy hxy
          have hnd' : ((m0 ++ c.take j).map (·.1) ++ (c.drop j).map (·.1)).Nodup := by
            rw [← List.map_append, List.append_assoc, List.take_append_drop]; exact hnd
          rw [List.nodup_append] at hnd'
          have hm : c[j] ∈ c.drop j := by
            rw [List.drop_eq_getElem_cons hlt]; exact List.mem_cons_self ..
          exact hnd'.2.2 _ (List.mem_map_of_mem hy) _ (List.mem_map_of_mem hm) hxy
        · have e : S.tree.set d (fun _ => dob (m0 ++ c.take (j + 1)) (e0 + (j + 1))) = S.tree.set d (Obj.mapDictKeys (·.push (ent c[j]))) := by
            rw [bt_set_const (Obj.mapDictKeys (·.push (ent c[j]))) _ _ _ h]
            rw [dob_push, et, List.append_assoc]
            rfl
          rw [e]
          exact upd_keys d (m0 ++ c.take j) (e0 + j) c[j] none hd11 (by rw [List.length_append, List.length_take]; omega) hdn h
      · refine Go.bind (v := ea) (S1 := { S with tree := S.tree.set d (fun _ => dob (m0 ++ c.take (j + 1)) (e0 + (j + 1))) }) (q1 := q) ?_ ?_
        · unfold dictEpoch
          refine Go.cast (n := 1 + 0) (Go.bind (Go.loadPart (o := dob c ea) han ?_ rfl) (Go.pure _)) rfl rfl
          show (S.tree.set d _).get a = _
          rw [BT.get_set, if_neg (Ne.symm hda)]; exact ha
        · rw [if_neg (by simp)]
          exact Go.pure _
    refine Go.cast (n := 6 + 6 * m) (Go.forCons step ?_) rfl (by omega)
    have ih := mergeLoop d a c m0 ea e0 hda hd11 hnd hb hl f G N U hf hG m (j + 1) { S with tree := S.tree.set d (fun _ => dob (m0 ++ c.take (j + 1)) (e0 + (j + 1))) } (by omega) hdn han
      (by show (S.tree.set d _).get d = _; rw [BT.get_set, if_pos rfl, h]; rfl) (by show (S.tree.set d _).get a = _; rw [BT.get_set, if_neg (Ne.symm hda)]; exact ha)
    dsimp only at ih
    rw [bt_set_set] at ih
    exact ih
theorem mro_dict : mroOf (.type "dict") = Pure.pure [.type "dict", .type "object"] := by kernel_rfl!
theorem iter_dict : typeLookup (.type "dict") "__iter__" = Pure.pure (some (.builtin "dict.__iter__")) := by kernel_rfl!
theorem typeOf_dob (a : Addr) (l : List Quad) (ep : Nat) (ha : a < S.n) (h : S.tree.get a = some (dob l ep)) : Go w (typeOf (.ref a)) S q (.type "dict") S q 1 := by
  show Go w (do let o ← loadPart a (some headPart); Pure.pure o.cls) S q _ S q 1
  exact Go.cast (n := 1 + 0) (Go.bind (Go.loadPart ha h rfl) (Go.pure _)) rfl rfl
theorem merge (d a : Addr) (c m0 : List Quad) (ea e0 : Nat) (hda : d ≠ a) (hd11 : 11 ≤ d) (ha1 : (a == sysModules) = false) (hm0 : m0 ≠ []) (hnd : ((m0 ++ c).map (·.1)).Nodup) (hb : ∀ x ∈ c, 0 ≤ x.1 ∧ x.1 < 2305843009213693951) (hl : m0.length + c.length < 100000)
    (hdn : d < S.n) (han : a < S.n) (h : S.tree.get d = some (dob m0 e0)) (ha : S.tree.get a = some (dob c ea)) :
    Go w (mergeMapping d (.ref a) false) S q () { S with tree := S.tree.set d (fun _ => dob (m0 ++ c) (e0 + c.length)) } q (5 + 6 * c.length) := by
  unfold mergeMapping
  refine Go.cast (n := 1 + (1 + (1 + (1 + (1 + 6 * c.length))))) (Go.bind (v := true) (S1 := S) (q1 := q) ?_ ?_) rfl (by omega)
  · unfold isInstance
    refine Go.cast (n := 1 + 0) (Go.bind (typeOf_dob a c ea han ha) ?_) rfl rfl
    unfold isSubtype
    rw [mro_dict, pure_bind']
    exact Go.pure _
  rw [if_pos rfl]
  refine Go.bind (v := some (.builtin "dict.__iter__")) (S1 := S) (q1 := q) ?_ ?_
  · unfold specialOf
    refine Go.cast (n := 1 + 0) (Go.bind (typeOf_dob a c ea han ha) ?_) rfl rfl
    rw [iter_dict]
    exact Go.pure _
  rw [pure_bind']
  have e0' : (some (Value.builtin "dict.__iter__") == some (Value.builtin "dict.__iter__")) = true := by decide
  rw [e0']
  dsimp only
  rw [if_neg (by rw [ha1]; exact Bool.false_ne_true)]
  refine Go.bind (v := (m0.map ent).toArray) (S1 := S) (q1 := q) ?_ ?_
  · unfold dictEntries
    exact Go.cast (n := 1 + 0) (Go.bind (Go.loadPart hdn h rfl) (Go.pure _)) rfl rfl
  have he : (m0.map ent).toArray.isEmpty = false := by
    cases m0 with
    | nil => exact absurd rfl hm0
    | cons x r => rfl
  rw [he, if_neg Bool.false_ne_true]
  refine Go.bind (v := (c.map ent).toArray) (S1 := S) (q1 := q) ?_ ?_
  · unfold dictEntries
    exact Go.cast (n := 1 + 0) (Go.bind (Go.loadPart han ha rfl) (Go.pure _)) rfl rfl
  refine Go.bind (v := ea) (S1 := S) (q1 := q) ?_ ?_
  · unfold dictEpoch
    exact Go.cast (n := 1 + 0) (Go.bind (Go.loadPart han ha rfl) (Go.pure _)) rfl rfl
  have hsz : (c.map ent).toArray.size = c.length := by simp
  rw [hsz, List.range_eq_range']
  refine Go.bind (n := 6 * c.length) (k := 0) (mergeLoop (w := w) (q := q) d a c m0 ea e0 hda hd11 hnd hb hl _
    (fun e => (holding [e.key, e.val] (dictPut d e.hash e.key e.val) >>= fun _ => dictEpoch a >>= fun ep' => if (ep' != ea) = true then ((unsupported "dict.changed-during-merge" : Sem PUnit) >>= fun _ => Pure.pure (.yield ⟨⟩)) else Pure.pure (.yield ⟨⟩)))
    ((unsupported "dict.changed-during-merge" : Sem PUnit) >>= fun _ => Pure.pure (.yield ⟨⟩)) ((unsupported "dict.changed-during-merge" : Sem PUnit) >>= fun _ => Pure.pure (.yield ⟨⟩)) ?_ (fun _ => rfl) c.length 0 S (by omega) hdn han (by simpa using h) ha) (Go.pure _)
  intro i u
  refine congrArg (fun g => dictEntries a >>= g) (funext fun es => ?_)
  cases es[i]? <;> rfl
end Hd
end Pa4
section Pa5
set_option compiler.extract_closed false
open PySem PySem.W PyProof.Rows
set_option maxRecDepth 100000
namespace Hd
variable {w : World} {α β : Type} {S S' S1 S2 : SharedT} {q q' q1 q2 : Pos} {n k : Nat}
theorem bind_assoc_sem {α β γ : Type} (m : Sem α) (f : α → Sem β) (g : β → Sem γ) : ((m >>= f) >>= g) = (m >>= fun a => f a >>= g) := by
  rw [Sem.bind_eq_wrap', Sem.bind_eq_wrap', Sem.bind_eq_wrap', Sem.wrap_wrap]
  exact Sem.wrap_congr _ _ _ (fun a => (Sem.bind_eq_wrap' _ _).symm) fun _ => rfl
noncomputable abbrev Fl := List (Sem Value × Sem Value) → Option Addr → Sem (Option Addr)
structure FlushOf (w : World) (fl : Fl) : Prop where
  nil : ∀ {S q main}, Go w (fl [] main) S q main S q 0
  one : ∀ {run S q a S' q' n}, run ≠ [] → Go w (subDict run) S q a S' q' n → Go w (fl run none) S q (some a) S' q' n
  more : ∀ {run d S q a S' q' S2 q2 n k}, run ≠ [] → Go w (subDict run) S q a S' q' n → Go w (mergeMapping d (.ref a) false) S' q' () S2 q2 k → Go w (fl run (some d)) S q (some d) S2 q2 (n + k)
theorem disp_eq (w : World) (items : List (Option (Sem Value) × Sem Value)) : ∃ fl : Fl, FlushOf w fl ∧ ∃ f : (Option (Sem Value) × Sem Value) → (Option Addr × List (Sem Value × Sem Value)) → Sem (ForInStep (Option Addr × List (Sem Value × Sem Value))),
    dictDisplay items = (forIn items ((none : Option Addr), ([] : List (Sem Value × Sem Value))) f >>= fun r => fl r.2 r.1 >>= fun m => match m with | some d => Pure.pure (.ref d) | none => newDict) ∧
    (∀ p main run, (run ++ [p]).length ≠ 17 → f (some p.1, p.2) (main, run) = Pure.pure (.yield (main, run ++ [p]))) ∧
    (∀ p main run, (run ++ [p]).length = 17 → f (some p.1, p.2) (main, run) = (fl (run ++ [p]) main >>= fun m' => Pure.pure (.yield (m', [])))) := by
  unfold dictDisplay
  lift_lets
  intro fl
  have ne : ∀ {run : List (Sem Value × Sem Value)}, run ≠ [] → ¬ run.isEmpty = true := fun {run} h e => h (List.isEmpty_iff.mp e)
  refine ⟨fl, ⟨fun {S q main} => Go.pure _, fun {run S q a S' q' n} h g => ?_, fun {run d S q a S' q' S2 q2 n k} h g g2 => ?_⟩, _, rfl, fun p main run h => ?_, fun p main run h => ?_⟩
  · dsimp only [fl]
    rw [if_neg (ne h)]
    exact Go.bind (n := n) (k := 0) g (Go.pure _)
  · dsimp only [fl]
    rw [if_neg (ne h)]
    exact Go.bind (Go.holding _ g) (Go.bind (n := k) (k := 0) (Go.onRaise _ (Go.holding _ g2)) (Go.pure _))
  · dsimp only
    rw [if_neg (by simpa using h)]
  · dsimp only
    rw [if_pos (by simpa using h)]
noncomputable abbrev ItF := (Option (Sem Value) × Sem Value) → (Option Addr × List (Sem Value × Sem Value)) → Sem (ForInStep (Option Addr × List (Sem Value × Sem Value)))
noncomputable def itT (p : Pos) (x : KV) : Option (Sem Value) × Sem Value := (some (kT x), vT p x)
theorem gather (f : ItF) (hA : ∀ p main run, (run ++ [p]).length ≠ 17 → f (some p.1, p.2) (main, run) = Pure.pure (.yield (main, run ++ [p]))) (p : Pos) (main : Option Addr) : ∀ (a : List KV) (rest : List (Option (Sem Value) × Sem Value)) (run : List (Sem Value × Sem Value)), run.length + a.length < 17 →
    forIn (a.map (itT p) ++ rest) (main, run) f = forIn rest (main, run ++ a.map (prT p)) f
  | [], rest, run, _ => by simp
  | x :: r, rest, run, h => by
    rw [List.map_cons, List.cons_append, List.forIn_cons]
    have : f (itT p x) (main, run) = Pure.pure (.yield (main, run ++ [prT p x])) := hA (prT p x) main run (by simp at h ⊢; omega)
    rw [this]
    show forIn (r.map (itT p) ++ rest) (main, run ++ [prT p x]) f = _
    rw [gather f hA p main r rest _ (by simp at h ⊢; omega)]
    simp
theorem gather17 {fl : Fl} (f : ItF) (hA : ∀ p main run, (run ++ [p]).length ≠ 17 → f (some p.1, p.2) (main, run) = Pure.pure (.yield (main, run ++ [p])))
    (hB : ∀ p main run, (run ++ [p]).length = 17 → f (some p.1, p.2) (main, run) = (fl (run ++ [p]) main >>= fun m' => Pure.pure (.yield (m', [])))) (p : Pos) (main : Option Addr) (c : List KV) (rest : List (Option (Sem Value) × Sem Value)) (hc : c.length = 17) :
    forIn (c.map (itT p) ++ rest) (main, ([] : List (Sem Value × Sem Value))) f = (fl (c.map (prT p)) main >>= fun m' => forIn rest (m', []) f) := by
  have hne : c ≠ [] := by intro e; rw [e] at hc; simp at hc
  have hs : c = c.dropLast ++ [c.getLast hne] := (List.dropLast_concat_getLast hne).symm
  have hl : c.dropLast.length = 16 := by simp [hc]
  generalize c.dropLast = a at hs hl
  generalize c.getLast hne = x at hs
  as_aux_lemma =>
    subst hs
    rw [List.map_append, List.append_assoc, gather f hA p main a _ [] (by simp [hl])]
    rw [List.map_cons, List.map_nil, List.singleton_append, List.forIn_cons, List.nil_append]
    have : f (itT p x) (main, a.map (prT p)) = (fl (a.map (prT p) ++ [prT p x]) main >>= fun m' => Pure.pure (.yield (m', []))) := hB (prT p x) main _ (by simp [hl])
    rw [this, List.map_append]
    simp only [bind_assoc_sem]
    rfl
noncomputable def Present (T : BT) (n : Nat) : Prop := ∀ i, i < n → (T.get i).isSome = true
theorem Present.ins : ∀ (T : BT) (n : Nat) (o : Obj), Present T n → ((T.ins n o).get n).isSome = true
  | .nil, n, o, h => by
    cases n with
    | zero => rfl
    | succ m => exact absurd (h 0 (Nat.succ_pos _)) (by simp [BT.get])
  | .node v l r, n, o, h => by
    rw [BT.ins_node]
    by_cases h0 : n = 0
    · rw [if_pos h0, BT.get_node, if_pos h0]; rfl
    · rw [if_neg h0]
      by_cases p : n % 2 = 1
      · rw [if_pos p, BT.get_node, if_neg h0, if_pos p]
        refine Present.ins l _ o fun j hj => ?_
        have := h (2 * j + 1) (by omega)
        rw [BT.get_node, if_neg (by omega), if_pos (by omega)] at this
        rwa [show (2 * j + 1) / 2 = j by omega] at this
      · rw [if_neg p, BT.get_node, if_neg h0, if_neg p]
        refine Present.ins r _ o fun j hj => ?_
        have := h (2 * j + 2) (by omega)
        rw [BT.get_node, if_neg (by omega), if_neg (by omega)] at this
        rwa [show (2 * j + 2) / 2 - 1 = j by omega] at this
theorem Present.after {T : BT} {n : Nat} (o : Obj) (h : Present T n) : Present (T.ins n o) (n + 1) := fun i hi => by
  rw [BT.get_ins _ _ _ (Present.ins T n o h)]
  by_cases e : i = n
  · rw [if_pos e]; rfl
  · rw [if_neg e]; exact h i (by omega)
theorem Present.upd {T : BT} {n : Nat} (a : Nat) (f : Obj → Obj) (h : Present T n) : Present (T.set a f) n := fun i hi => by
  rw [BT.get_set]
  by_cases e : i = a
  · rw [if_pos e]
    have := h i hi
    rw [e] at this
    cases hq : T.get a with
    | none => rw [hq] at this; cases this
    | some x => rfl
  · rw [if_neg e]; exact h i hi
noncomputable def chS (S : SharedT) (d : Nat) (m qs : List Quad) : SharedT := { S with tree := (S.tree.ins S.n (dob qs qs.length)).set d (fun _ => dob (m ++ qs) (m.length + qs.length)), n := S.n + 1, toks := S.toks + 3 * qs.length }
theorem flush_some {fl : Fl} (F : FlushOf w fl) (p : Pos) (d : Nat) (m : List Quad) (c : List KV) (h0 : c ≠ []) (hlen : c.length ≤ 17 ∧ c.length ≠ 16) (hd11 : 11 ≤ d) (hdn : d < S.n) (hm : m ≠ []) (hmd : S.tree.get d = some (dob m m.length)) (hP : Present S.tree S.n)
    (hb : ∀ x ∈ c, 0 ≤ x.1 ∧ x.1 < 2305843009213693951) (hnd : (m.map (·.1) ++ c.map (·.1)).Nodup) (hl : m.length < 90000) :
    ∃ qs : List Quad, qs = (if c.length ≤ 15 then quadsS S.toks c else quadsL S.toks c) ∧ Go w (fl (c.map (prT p)) (some d)) S q (some d) (chS S d m qs) p ((if c.length ≤ 15 then 1 else 2) + 13 * c.length + (5 + 6 * c.length)) := by
  have hnc : (c.map (·.1)).Nodup := (List.nodup_append.mp hnd).2.1
  have hsn : (S.n == sysModules) = false := by
    have : S.n ≠ sysModules := by
      have : sysModules = 1 := rfl
      rw [this]; omega
    exact beq_eq_false_iff_ne.mpr this
  have key : ∀ (qs : List Quad) (k : Nat), qs.length = c.length → qs.map (·.1) = c.map (·.1) →
      Go w (subDict (c.map (prT p))) S q S.n { S with tree := S.tree.ins S.n (dob qs c.length), n := S.n + 1, toks := S.toks + 3 * c.length } p k →
      Go w (fl (c.map (prT p)) (some d)) S q (some d) (chS S d m qs) p (k + (5 + 6 * c.length)) := fun qs k hql hqf hg => by
    have hm' := merge (w := w) (q := p) (S := { S with tree := S.tree.ins S.n (dob qs c.length), n := S.n + 1, toks := S.toks + 3 * c.length }) d S.n qs m c.length m.length (Nat.ne_of_lt hdn) hd11 hsn hm
      (by rw [List.map_append, hqf]; exact hnd) (fun x hx => by
        have : x.1 ∈ c.map (·.1) := hqf ▸ List.mem_map_of_mem hx
        obtain ⟨y, hy, e⟩ := List.mem_map.mp this
        rw [← e]; exact hb y hy) (by omega) (Nat.lt_succ_of_lt hdn) (Nat.lt_succ_self _)
      (by show (S.tree.ins S.n _).get d = _
          rw [BT.get_ins _ _ _ (Present.ins _ _ _ hP), if_neg (by omega)]; exact hmd)
      (by show (S.tree.ins S.n _).get S.n = _
          rw [BT.get_ins _ _ _ (Present.ins _ _ _ hP), if_pos rfl])
    rw [hql] at hm'
    have e : chS S d m qs = { S with tree := (S.tree.ins S.n (dob qs c.length)).set d (fun _ => dob (m ++ qs) (m.length + c.length)), n := S.n + 1, toks := S.toks + 3 * c.length } := by
      unfold chS; rw [hql]
    rw [e]
    exact F.more (by cases c with | nil => exact absurd rfl h0 | cons => exact List.cons_ne_nil _ _) hg hm'
  by_cases h15 : c.length ≤ 15
  · refine ⟨_, rfl, ?_⟩
    rw [if_pos h15, if_pos h15]
    exact key _ _ (quadsS_len _ _) (quadsS_fst _ _) (subS p c h15 h0 (by omega) (Present.ins _ _ _ hP) hb hnc)
  · refine ⟨_, rfl, ?_⟩
    rw [if_neg h15, if_neg h15]
    exact key _ _ (quadsL_len _ _) (quadsL_fst _ _) (subL p c (by omega) (by omega) (by omega) (Present.ins _ _ _ hP) hb hnc)
noncomputable def dispLoop : Nat → SharedT → Nat → List Quad → List KV → SharedT
  | 0, S, _, _, _ => S
  | f + 1, S, d, m, l => match l with
    | [] => S
    | _ :: _ => match Nat.ble l.length 15 with
      | true => chS S d m (quadsS S.toks l)
      | false => dispLoop f (chS S d m (quadsL S.toks (l.take 17))) d (m ++ quadsL S.toks (l.take 17)) (l.drop 17)
noncomputable def dispN : Nat → Nat → Nat
  | 0, _ => 0
  | f + 1, l => match l with
    | 0 => 0
    | _ + 1 => match Nat.ble l 15 with
      | true => 6 + 19 * l
      | false => 330 + dispN f (l - 17)
theorem disp_go {fl : Fl} (F : FlushOf w fl) (f : ItF) (hA : ∀ p main run, (run ++ [p]).length ≠ 17 → f (some p.1, p.2) (main, run) = Pure.pure (.yield (main, run ++ [p])))
    (hB : ∀ p main run, (run ++ [p]).length = 17 → f (some p.1, p.2) (main, run) = (fl (run ++ [p]) main >>= fun m' => Pure.pure (.yield (m', [])))) (p : Pos) (d : Nat) :
    ∀ (fu : Nat) (l : List KV) (S : SharedT) (m : List Quad), l.length ≤ 17 * fu → l.length % 17 ≤ 15 → 11 ≤ d → d < S.n → m ≠ [] → S.tree.get d = some (dob m m.length) → Present S.tree S.n →
      (∀ x ∈ l, 0 ≤ x.1 ∧ x.1 < 2305843009213693951) → (m.map (·.1) ++ l.map (·.1)).Nodup → m.length + l.length < 90000 →
      Go w (forIn (l.map (itT p)) (some d, ([] : List (Sem Value × Sem Value))) f >>= fun r => fl r.2 r.1) S p (some d) (dispLoop fu S d m l) p (dispN fu l.length)
  | 0, l, S, m, hfu, h17, hd11, hdn, hm, hmd, hP, hb, hnd, hl => by
    have : l = [] := List.eq_nil_of_length_eq_zero (by omega)
    subst this
    exact Go.bind (n := 0) (k := 0) (Go.forNil _ _) F.nil
  | fu + 1, l, S, m, hfu, h17, hd11, hdn, hm, hmd, hP, hb, hnd, hl => by
    cases hlc : l with
    | nil => exact Go.bind (n := 0) (k := 0) (Go.forNil _ _) F.nil
    | cons x0 r0 =>
      rw [← hlc]
      have hne : l ≠ [] := by rw [hlc]; exact List.cons_ne_nil _ _
      have hpos : 0 < l.length := List.length_pos_iff.mpr hne
      by_cases h15 : l.length ≤ 15
      · have e1 : dispLoop (fu + 1) S d m l = chS S d m (quadsS S.toks l) := by
          unfold dispLoop; rw [hlc] at h15 ⊢
          have : Nat.ble (x0 :: r0).length 15 = true := Nat.ble_eq_true_of_le h15
          simp only [this]
        have e2 : dispN (fu + 1) l.length = (1 + 13 * l.length) + (5 + 6 * l.length) := by
          obtain ⟨k, hk⟩ : ∃ k, l.length = k + 1 := ⟨l.length - 1, by omega⟩
          unfold dispN; rw [hk] at h15 ⊢
          have : Nat.ble (k + 1) 15 = true := Nat.ble_eq_true_of_le h15
          simp only [this]; omega
        rw [e1, e2]
        have g := gather f hA p (some d) l [] [] (by simp; omega)
        rw [List.append_nil, List.nil_append] at g
        rw [g]
        obtain ⟨qs, hqs, hg⟩ := flush_some (w := w) (q := p) F p d m l hne (by omega) hd11 hdn hm hmd hP hb hnd (by omega)
        rw [if_pos h15] at hqs
        subst hqs
        rw [if_pos h15] at hg
        exact Go.cast (n := 0 + ((1 + 13 * l.length) + (5 + 6 * l.length))) (Go.bind (Go.forNil _ _) hg) rfl (by omega)
      · have h17' : 17 ≤ l.length := by omega
        have ht : (l.take 17).length = 17 := by rw [List.length_take]; omega
        have hsp : l = l.take 17 ++ l.drop 17 := (List.take_append_drop 17 l).symm
        have e1 : dispLoop (fu + 1) S d m l = dispLoop fu (chS S d m (quadsL S.toks (l.take 17))) d (m ++ quadsL S.toks (l.take 17)) (l.drop 17) := by
          conv => lhs; unfold dispLoop
          have : Nat.ble l.length 15 = false := by
            cases hq : Nat.ble l.length 15 with
            | false => rfl
            | true => exact absurd (Nat.le_of_ble_eq_true hq) h15
          rw [hlc] at this ⊢
          simp only [this]
        have e2 : dispN (fu + 1) l.length = 330 + dispN fu (l.drop 17).length := by
          rw [List.length_drop]
          obtain ⟨k, hk⟩ : ∃ k, l.length = k + 1 := ⟨l.length - 1, by omega⟩
          conv => lhs; unfold dispN
          rw [hk] at h15 ⊢
          have : Nat.ble (k + 1) 15 = false := by
            cases hq : Nat.ble (k + 1) 15 with
            | false => rfl
            | true => exact absurd (Nat.le_of_ble_eq_true hq) h15
          simp only [this]
        rw [e1, e2]
        have g : forIn (l.map (itT p)) (some d, ([] : List (Sem Value × Sem Value))) f = (fl ((l.take 17).map (prT p)) (some d) >>= fun m' => forIn ((l.drop 17).map (itT p)) (m', []) f) := by
          conv => lhs; rw [hsp, List.map_append]
          exact gather17 f hA hB p (some d) _ _ ht
        rw [g, bind_assoc_sem]
        have hnd1 : (m.map (·.1) ++ (l.take 17).map (·.1)).Nodup := by
          refine List.Nodup.sublist ?_ hnd
          exact List.Sublist.append_left (List.Sublist.map _ (List.take_sublist ..)) _
        have hnd2 : ((m ++ quadsL S.toks (l.take 17)).map (·.1) ++ (l.drop 17).map (·.1)).Nodup := by
          rw [List.map_append, quadsL_fst, List.append_assoc, ← List.map_append, List.take_append_drop]; exact hnd
        obtain ⟨qs, hqs, hg⟩ := flush_some (w := w) (q := p) F p d m (l.take 17) (by intro e; rw [e] at ht; simp at ht) (by omega) hd11 hdn hm hmd hP (fun x hx => hb x (List.mem_of_mem_take hx)) hnd1 (by omega)
        rw [if_neg (by omega)] at hqs
        subst hqs
        rw [if_neg (by omega), ht] at hg
        refine Go.bind (n := 330) hg ?_
        have hml : (m ++ quadsL S.toks (l.take 17)).length = m.length + (quadsL S.toks (l.take 17)).length := List.length_append
        refine disp_go F f hA hB p d fu (l.drop 17) (chS S d m (quadsL S.toks (l.take 17))) (m ++ quadsL S.toks (l.take 17)) (by rw [List.length_drop]; omega) (by rw [List.length_drop]; omega) hd11 (Nat.lt_succ_of_lt hdn) (by simp [hm]) ?_ ?_ (fun x hx => hb x (List.mem_of_mem_drop hx)) hnd2 (by rw [hml, quadsL_len, ht, List.length_drop]; omega)
        · show ((S.tree.ins S.n _).set d _).get d = _
          rw [BT.get_set, if_pos rfl, BT.get_ins _ _ _ (Present.ins _ _ _ hP), if_neg (by omega), hmd, hml]
          rfl
        · exact Present.upd _ _ (Present.after _ hP)
end Hd
end Pa5
section Pa6
set_option compiler.extract_closed false
open PySem PySem.W PyProof.Rows
set_option maxRecDepth 1000000
set_option linter.unusedVariables false
noncomputable section Nc6
namespace Hd
noncomputable def litI : Option PySem.Expr → Option Int
  | some (.Constant c _ _) => (match c with | .int i => some i | _ => none)
  | _ => none
noncomputable def litX : PySem.Expr → Option PySem.Str
  | .Constant c _ _ => (match c with | .str x => some x | _ => none)
  | _ => none
noncomputable def litP (k : Option PySem.Expr) (v : PySem.Expr) : Option KV := (litI k).bind fun i => (litX v).map fun x => (i, x)
noncomputable def litsOf : List (Option PySem.Expr) → List PySem.Expr → List KV
  | k :: ks, v :: vs => (match litP k v with | some q => q :: litsOf ks vs | none => [])
  | _, _ => []
noncomputable def allLit : List (Option PySem.Expr) → List PySem.Expr → Bool
  | k :: ks, v :: vs => (litP k v).isSome && allLit ks vs
  | [], [] => true
  | _, _ => false
noncomputable def dKeys : List (Option PySem.Expr) := match topFn 15 with | .Assign _ (.Dict ks _ _) _ => ks | _ => []
noncomputable def dVals : List PySem.Expr := match topFn 15 with | .Assign _ (.Dict _ vs _) _ => vs | _ => []
noncomputable def dPos : Pos := match topFn 15 with | .Assign _ (.Dict _ _ p) _ => p | _ => default
noncomputable def dStPos : Pos := match topFn 15 with | .Assign _ _ p => p | _ => default
noncomputable def dTgt : List PySem.Expr := match topFn 15 with | .Assign t _ _ => t | _ => []
noncomputable def L3 : List KV := litsOf dKeys dVals
noncomputable def qsAt (t : Nat) : Nat → List KV → List Quad
  | 0, _ => []
  | f + 1, l => match Nat.ble l.length 15 with
    | true => quadsS t l
    | false => quadsL t (l.take 17) ++ qsAt (t + 51) f (l.drop 17)
noncomputable def bx140 (P : Params) : Obj := dob (qsAt 415 40 L3) 650
noncomputable def bx141 (P : Params) : Obj := dob (quadsL 466 ((L3.drop 17).take 17)) 17
noncomputable def bx142 (P : Params) : Obj := dob (quadsL 517 ((L3.drop 34).take 17)) 17
noncomputable def bx143 (P : Params) : Obj := dob (quadsL 568 ((L3.drop 51).take 17)) 17
noncomputable def bx144 (P : Params) : Obj := dob (quadsL 619 ((L3.drop 68).take 17)) 17
noncomputable def bx145 (P : Params) : Obj := dob (quadsL 670 ((L3.drop 85).take 17)) 17
noncomputable def bx146 (P : Params) : Obj := dob (quadsL 721 ((L3.drop 102).take 17)) 17
noncomputable def bx147 (P : Params) : Obj := dob (quadsL 772 ((L3.drop 119).take 17)) 17
noncomputable def bx148 (P : Params) : Obj := dob (quadsL 823 ((L3.drop 136).take 17)) 17
noncomputable def bx149 (P : Params) : Obj := dob (quadsL 874 ((L3.drop 153).take 17)) 17
noncomputable def bx150 (P : Params) : Obj := dob (quadsL 925 ((L3.drop 170).take 17)) 17
noncomputable def bx151 (P : Params) : Obj := dob (quadsL 976 ((L3.drop 187).take 17)) 17
noncomputable def bx152 (P : Params) : Obj := dob (quadsL 1027 ((L3.drop 204).take 17)) 17
noncomputable def bx153 (P : Params) : Obj := dob (quadsL 1078 ((L3.drop 221).take 17)) 17
noncomputable def bx154 (P : Params) : Obj := dob (quadsL 1129 ((L3.drop 238).take 17)) 17
noncomputable def bx155 (P : Params) : Obj := dob (quadsL 1180 ((L3.drop 255).take 17)) 17
noncomputable def bx156 (P : Params) : Obj := dob (quadsL 1231 ((L3.drop 272).take 17)) 17
noncomputable def bx157 (P : Params) : Obj := dob (quadsL 1282 ((L3.drop 289).take 17)) 17
noncomputable def bx158 (P : Params) : Obj := dob (quadsL 1333 ((L3.drop 306).take 17)) 17
noncomputable def bx159 (P : Params) : Obj := dob (quadsL 1384 ((L3.drop 323).take 17)) 17
noncomputable def bx160 (P : Params) : Obj := dob (quadsL 1435 ((L3.drop 340).take 17)) 17
noncomputable def bx161 (P : Params) : Obj := dob (quadsL 1486 ((L3.drop 357).take 17)) 17
noncomputable def bx162 (P : Params) : Obj := dob (quadsL 1537 ((L3.drop 374).take 17)) 17
noncomputable def bx163 (P : Params) : Obj := dob (quadsL 1588 ((L3.drop 391).take 17)) 17
noncomputable def bx164 (P : Params) : Obj := dob (quadsL 1639 ((L3.drop 408).take 17)) 17
noncomputable def bx165 (P : Params) : Obj := dob (quadsL 1690 ((L3.drop 425).take 17)) 17
noncomputable def bx166 (P : Params) : Obj := dob (quadsL 1741 ((L3.drop 442).take 17)) 17
noncomputable def bx167 (P : Params) : Obj := dob (quadsL 1792 ((L3.drop 459).take 17)) 17
noncomputable def bx168 (P : Params) : Obj := dob (quadsL 1843 ((L3.drop 476).take 17)) 17
noncomputable def bx169 (P : Params) : Obj := dob (quadsL 1894 ((L3.drop 493).take 17)) 17
noncomputable def bx170 (P : Params) : Obj := dob (quadsL 1945 ((L3.drop 510).take 17)) 17
noncomputable def bx171 (P : Params) : Obj := dob (quadsL 1996 ((L3.drop 527).take 17)) 17
noncomputable def bx172 (P : Params) : Obj := dob (quadsL 2047 ((L3.drop 544).take 17)) 17
noncomputable def bx173 (P : Params) : Obj := dob (quadsL 2098 ((L3.drop 561).take 17)) 17
noncomputable def bx174 (P : Params) : Obj := dob (quadsL 2149 ((L3.drop 578).take 17)) 17
noncomputable def bx175 (P : Params) : Obj := dob (quadsL 2200 ((L3.drop 595).take 17)) 17
noncomputable def bx176 (P : Params) : Obj := dob (quadsL 2251 ((L3.drop 612).take 17)) 17
noncomputable def bx177 (P : Params) : Obj := dob (quadsL 2302 ((L3.drop 629).take 17)) 17
noncomputable def bx178 (P : Params) : Obj := dob (quadsS 2353 ((L3.drop 646).take 4)) 4
noncomputable def T_s15 (P : Params) : BT := (.node (boot_o_0 P) (.node (boot_o_1 P) (.node (o3_s15 P) (.node (boot_o_7 P) (.node (o15_s12 P) (.node (o31_s12 P) (.node (o63_s12 P) (.node (o127_s13 P) .nil .nil) .nil) (.node (o95_s12 P) (.node (bx159 P) .nil .nil) .nil)) (.node (o47_s12 P) (.node (o79_s12 P) (.node (bx143 P) .nil .nil) .nil) (.node (o111_s12 P) (.node (bx175 P) .nil .nil) .nil))) (.node (o23_s12 P) (.node (o39_s12 P) (.node (o71_s12 P) (.node (o135_s14 P) .nil .nil) .nil) (.node (o103_s12 P) (.node (bx167 P) .nil .nil) .nil)) (.node (o55_s12 P) (.node (o87_s12 P) (.node (bx151 P) .nil .nil) .nil) (.node (o119_s12 P) .nil .nil)))) (.node (o11_pre P) (.node (o19_s12 P) (.node (o35_s12 P) (.node (o67_s12 P) (.node (o131_s13 P) .nil .nil) .nil) (.node (o99_s12 P) (.node (bx163 P) .nil .nil) .nil)) (.node (o51_s12 P) (.node (o83_s12 P) (.node (bx147 P) .nil .nil) .nil) (.node (o115_s12 P) .nil .nil))) (.node (o27_s12 P) (.node (o43_s12 P) (.node (o75_s12 P) (.node (o139_s14 P) .nil .nil) .nil) (.node (o107_s12 P) (.node (bx171 P) .nil .nil) .nil)) (.node (o59_s12 P) (.node (o91_s12 P) (.node (bx155 P) .nil .nil) .nil) (.node (o123_s13 P) .nil .nil))))) (.node (boot_o_5 P) (.node (boot_o_9 P) (.node (o17_s12 P) (.node (o33_s12 P) (.node (o65_s12 P) (.node (o129_s13 P) .nil .nil) .nil) (.node (o97_s12 P) (.node (bx161 P) .nil .nil) .nil)) (.node (o49_s12 P) (.node (o81_s12 P) (.node (bx145 P) .nil .nil) .nil) (.node (o113_s12 P) (.node (bx177 P) .nil .nil) .nil))) (.node (o25_s12 P) (.node (o41_s12 P) (.node (o73_s12 P) (.node (o137_s14 P) .nil .nil) .nil) (.node (o105_s12 P) (.node (bx169 P) .nil .nil) .nil)) (.node (o57_s12 P) (.node (o89_s12 P) (.node (bx153 P) .nil .nil) .nil) (.node (o121_s12 P) .nil .nil)))) (.node (o13_pre P) (.node (o21_s12 P) (.node (o37_s12 P) (.node (o69_s12 P) (.node (o133_s14 P) .nil .nil) .nil) (.node (o101_s12 P) (.node (bx165 P) .nil .nil) .nil)) (.node (o53_s12 P) (.node (o85_s12 P) (.node (bx149 P) .nil .nil) .nil) (.node (o117_s12 P) .nil .nil))) (.node (o29_s12 P) (.node (o45_s12 P) (.node (o77_s12 P) (.node (bx141 P) .nil .nil) .nil) (.node (o109_s12 P) (.node (bx173 P) .nil .nil) .nil)) (.node (o61_s12 P) (.node (o93_s12 P) (.node (bx157 P) .nil .nil) .nil) (.node (o125_s13 P) .nil .nil)))))) (.node (o2_s12 P) (.node (boot_o_4 P) (.node (boot_o_8 P) (.node (o16_s12 P) (.node (o32_s12 P) (.node (o64_s12 P) (.node (o128_s13 P) .nil .nil) .nil) (.node (o96_s12 P) (.node (bx160 P) .nil .nil) .nil)) (.node (o48_s12 P) (.node (o80_s12 P) (.node (bx144 P) .nil .nil) .nil) (.node (o112_s12 P) (.node (bx176 P) .nil .nil) .nil))) (.node (o24_s12 P) (.node (o40_s12 P) (.node (o72_s12 P) (.node (o136_s14 P) .nil .nil) .nil) (.node (o104_s12 P) (.node (bx168 P) .nil .nil) .nil)) (.node (o56_s12 P) (.node (o88_s12 P) (.node (bx152 P) .nil .nil) .nil) (.node (o120_s12 P) .nil .nil)))) (.node (o12_s14 P) (.node (o20_s12 P) (.node (o36_s12 P) (.node (o68_s12 P) (.node (o132_s13 P) .nil .nil) .nil) (.node (o100_s12 P) (.node (bx164 P) .nil .nil) .nil)) (.node (o52_s12 P) (.node (o84_s12 P) (.node (bx148 P) .nil .nil) .nil) (.node (o116_s12 P) .nil .nil))) (.node (o28_s12 P) (.node (o44_s12 P) (.node (o76_s12 P) (.node (bx140 P) .nil .nil) .nil) (.node (o108_s12 P) (.node (bx172 P) .nil .nil) .nil)) (.node (o60_s12 P) (.node (o92_s12 P) (.node (bx156 P) .nil .nil) .nil) (.node (o124_s13 P) .nil .nil))))) (.node (boot_o_6 P) (.node (boot_o_10 P) (.node (o18_s12 P) (.node (o34_s12 P) (.node (o66_s12 P) (.node (o130_s13 P) .nil .nil) .nil) (.node (o98_s12 P) (.node (bx162 P) .nil .nil) .nil)) (.node (o50_s12 P) (.node (o82_s12 P) (.node (bx146 P) .nil .nil) .nil) (.node (o114_s12 P) (.node (bx178 P) .nil .nil) .nil))) (.node (o26_s12 P) (.node (o42_s12 P) (.node (o74_s12 P) (.node (o138_s14 P) .nil .nil) .nil) (.node (o106_s12 P) (.node (bx170 P) .nil .nil) .nil)) (.node (o58_s12 P) (.node (o90_s12 P) (.node (bx154 P) .nil .nil) .nil) (.node (o122_s13 P) .nil .nil)))) (.node (o14_pre P) (.node (o22_s12 P) (.node (o38_s12 P) (.node (o70_s12 P) (.node (o134_s14 P) .nil .nil) .nil) (.node (o102_s12 P) (.node (bx166 P) .nil .nil) .nil)) (.node (o54_s12 P) (.node (o86_s12 P) (.node (bx150 P) .nil .nil) .nil) (.node (o118_s12 P) .nil .nil))) (.node (o30_s12 P) (.node (o46_s12 P) (.node (o78_s12 P) (.node (bx142 P) .nil .nil) .nil) (.node (o110_s12 P) (.node (bx174 P) .nil .nil) .nil)) (.node (o62_s12 P) (.node (o94_s12 P) (.node (bx158 P) .nil .nil) .nil) (.node (o126_s13 P) .nil .nil)))))))
noncomputable def T_s27 (P : Params) : BT := (.node (boot_o_0 P) (.node (boot_o_1 P) (.node (o3_s27 P) (.node (boot_o_7 P) (.node (o15_s12 P) (.node (o31_s12 P) (.node (o63_s12 P) (.node (o127_s13 P) .nil .nil) (.node (o191_s27 P) .nil .nil)) (.node (o95_s12 P) (.node (bx159 P) .nil .nil) (.node (o223_s27 P) .nil .nil))) (.node (o47_s12 P) (.node (o79_s12 P) (.node (bx143 P) .nil .nil) (.node (o207_s27 P) .nil .nil)) (.node (o111_s12 P) (.node (bx175 P) .nil .nil) (.node (o239_s27 P) .nil .nil)))) (.node (o23_s12 P) (.node (o39_s12 P) (.node (o71_s12 P) (.node (o135_s14 P) .nil .nil) (.node (o199_s27 P) .nil .nil)) (.node (o103_s12 P) (.node (bx167 P) .nil .nil) (.node (o231_s27 P) .nil .nil))) (.node (o55_s12 P) (.node (o87_s12 P) (.node (bx151 P) .nil .nil) (.node (o215_s27 P) .nil .nil)) (.node (o119_s12 P) (.node (o183_s27 P) .nil .nil) (.node (o247_s27 P) .nil .nil))))) (.node (o11_pre P) (.node (o19_s12 P) (.node (o35_s12 P) (.node (o67_s12 P) (.node (o131_s13 P) .nil .nil) (.node (o195_s27 P) .nil .nil)) (.node (o99_s12 P) (.node (bx163 P) .nil .nil) (.node (o227_s27 P) .nil .nil))) (.node (o51_s12 P) (.node (o83_s12 P) (.node (bx147 P) .nil .nil) (.node (o211_s27 P) .nil .nil)) (.node (o115_s12 P) (.node (o179_s27 P) .nil .nil) (.node (o243_s27 P) .nil .nil)))) (.node (o27_s12 P) (.node (o43_s12 P) (.node (o75_s12 P) (.node (o139_s14 P) .nil .nil) (.node (o203_s27 P) .nil .nil)) (.node (o107_s12 P) (.node (bx171 P) .nil .nil) (.node (o235_s27 P) .nil .nil))) (.node (o59_s12 P) (.node (o91_s12 P) (.node (bx155 P) .nil .nil) (.node (o219_s27 P) .nil .nil)) (.node (o123_s13 P) (.node (o187_s27 P) .nil .nil) .nil))))) (.node (boot_o_5 P) (.node (boot_o_9 P) (.node (o17_s12 P) (.node (o33_s12 P) (.node (o65_s12 P) (.node (o129_s13 P) .nil .nil) (.node (o193_s27 P) .nil .nil)) (.node (o97_s12 P) (.node (bx161 P) .nil .nil) (.node (o225_s27 P) .nil .nil))) (.node (o49_s12 P) (.node (o81_s12 P) (.node (bx145 P) .nil .nil) (.node (o209_s27 P) .nil .nil)) (.node (o113_s12 P) (.node (bx177 P) .nil .nil) (.node (o241_s27 P) .nil .nil)))) (.node (o25_s12 P) (.node (o41_s12 P) (.node (o73_s12 P) (.node (o137_s14 P) .nil .nil) (.node (o201_s27 P) .nil .nil)) (.node (o105_s12 P) (.node (bx169 P) .nil .nil) (.node (o233_s27 P) .nil .nil))) (.node (o57_s12 P) (.node (o89_s12 P) (.node (bx153 P) .nil .nil) (.node (o217_s27 P) .nil .nil)) (.node (o121_s12 P) (.node (o185_s27 P) .nil .nil) (.node (o249_s27 P) .nil .nil))))) (.node (o13_pre P) (.node (o21_s12 P) (.node (o37_s12 P) (.node (o69_s12 P) (.node (o133_s14 P) .nil .nil) (.node (o197_s27 P) .nil .nil)) (.node (o101_s12 P) (.node (bx165 P) .nil .nil) (.node (o229_s27 P) .nil .nil))) (.node (o53_s12 P) (.node (o85_s12 P) (.node (bx149 P) .nil .nil) (.node (o213_s27 P) .nil .nil)) (.node (o117_s12 P) (.node (o181_s27 P) .nil .nil) (.node (o245_s27 P) .nil .nil)))) (.node (o29_s12 P) (.node (o45_s12 P) (.node (o77_s12 P) (.node (bx141 P) .nil .nil) (.node (o205_s27 P) .nil .nil)) (.node (o109_s12 P) (.node (bx173 P) .nil .nil) (.node (o237_s27 P) .nil .nil))) (.node (o61_s12 P) (.node (o93_s12 P) (.node (bx157 P) .nil .nil) (.node (o221_s27 P) .nil .nil)) (.node (o125_s13 P) (.node (o189_s27 P) .nil .nil) .nil)))))) (.node (o2_s12 P) (.node (boot_o_4 P) (.node (boot_o_8 P) (.node (o16_s12 P) (.node (o32_s12 P) (.node (o64_s12 P) (.node (o128_s13 P) .nil .nil) (.node (o192_s27 P) .nil .nil)) (.node (o96_s12 P) (.node (bx160 P) .nil .nil) (.node (o224_s27 P) .nil .nil))) (.node (o48_s12 P) (.node (o80_s12 P) (.node (bx144 P) .nil .nil) (.node (o208_s27 P) .nil .nil)) (.node (o112_s12 P) (.node (bx176 P) .nil .nil) (.node (o240_s27 P) .nil .nil)))) (.node (o24_s12 P) (.node (o40_s12 P) (.node (o72_s12 P) (.node (o136_s14 P) .nil .nil) (.node (o200_s27 P) .nil .nil)) (.node (o104_s12 P) (.node (bx168 P) .nil .nil) (.node (o232_s27 P) .nil .nil))) (.node (o56_s12 P) (.node (o88_s12 P) (.node (bx152 P) .nil .nil) (.node (o216_s27 P) .nil .nil)) (.node (o120_s12 P) (.node (o184_s27 P) .nil .nil) (.node (o248_s27 P) .nil .nil))))) (.node (o12_s27 P) (.node (o20_s12 P) (.node (o36_s12 P) (.node (o68_s12 P) (.node (o132_s13 P) .nil .nil) (.node (o196_s27 P) .nil .nil)) (.node (o100_s12 P) (.node (bx164 P) .nil .nil) (.node (o228_s27 P) .nil .nil))) (.node (o52_s12 P) (.node (o84_s12 P) (.node (bx148 P) .nil .nil) (.node (o212_s27 P) .nil .nil)) (.node (o116_s12 P) (.node (o180_s27 P) .nil .nil) (.node (o244_s27 P) .nil .nil)))) (.node (o28_s12 P) (.node (o44_s12 P) (.node (o76_s12 P) (.node (bx140 P) .nil .nil) (.node (o204_s27 P) .nil .nil)) (.node (o108_s12 P) (.node (bx172 P) .nil .nil) (.node (o236_s27 P) .nil .nil))) (.node (o60_s12 P) (.node (o92_s12 P) (.node (bx156 P) .nil .nil) (.node (o220_s27 P) .nil .nil)) (.node (o124_s13 P) (.node (o188_s27 P) .nil .nil) .nil))))) (.node (boot_o_6 P) (.node (boot_o_10 P) (.node (o18_s12 P) (.node (o34_s12 P) (.node (o66_s12 P) (.node (o130_s13 P) .nil .nil) (.node (o194_s27 P) .nil .nil)) (.node (o98_s12 P) (.node (bx162 P) .nil .nil) (.node (o226_s27 P) .nil .nil))) (.node (o50_s12 P) (.node (o82_s12 P) (.node (bx146 P) .nil .nil) (.node (o210_s27 P) .nil .nil)) (.node (o114_s12 P) (.node (bx178 P) .nil .nil) (.node (o242_s27 P) .nil .nil)))) (.node (o26_s12 P) (.node (o42_s12 P) (.node (o74_s12 P) (.node (o138_s14 P) .nil .nil) (.node (o202_s27 P) .nil .nil)) (.node (o106_s12 P) (.node (bx170 P) .nil .nil) (.node (o234_s27 P) .nil .nil))) (.node (o58_s12 P) (.node (o90_s12 P) (.node (bx154 P) .nil .nil) (.node (o218_s27 P) .nil .nil)) (.node (o122_s13 P) (.node (o186_s27 P) .nil .nil) .nil)))) (.node (o14_pre P) (.node (o22_s12 P) (.node (o38_s12 P) (.node (o70_s12 P) (.node (o134_s14 P) .nil .nil) (.node (o198_s27 P) .nil .nil)) (.node (o102_s12 P) (.node (bx166 P) .nil .nil) (.node (o230_s27 P) .nil .nil))) (.node (o54_s12 P) (.node (o86_s12 P) (.node (bx150 P) .nil .nil) (.node (o214_s27 P) .nil .nil)) (.node (o118_s12 P) (.node (o182_s27 P) .nil .nil) (.node (o246_s27 P) .nil .nil)))) (.node (o30_s12 P) (.node (o46_s12 P) (.node (o78_s12 P) (.node (bx142 P) .nil .nil) (.node (o206_s27 P) .nil .nil)) (.node (o110_s12 P) (.node (bx174 P) .nil .nil) (.node (o238_s27 P) .nil .nil))) (.node (o62_s12 P) (.node (o94_s12 P) (.node (bx158 P) .nil .nil) (.node (o222_s27 P) .nil .nil)) (.node (o126_s13 P) (.node (o190_s27 P) .nil .nil) .nil)))))))
theorem litI_spec {k : Option PySem.Expr} {i : Int} (h : litI k = some i) : ∃ a b, k = some (.Constant (.int i) a b) := by
  unfold litI at h
  split at h
  · rename_i c a b
    cases c <;> first | (cases h; exact ⟨a, b, rfl⟩) | cases h
  · cases h
theorem litX_spec {v : PySem.Expr} {x : PySem.Str} (h : litX v = some x) : ∃ a b, v = .Constant (.str x) a b := by
  unfold litX at h
  split at h
  · rename_i c a b
    cases c <;> first | (cases h; exact ⟨a, b, rfl⟩) | cases h
  · cases h
theorem litP_spec {k : Option PySem.Expr} {v : PySem.Expr} {q : KV} (h : litP k v = some q) : ∃ a b c d, k = some (.Constant (.int q.1) a b) ∧ v = .Constant (.str q.2) c d := by
  unfold litP at h
  cases e1 : litI k with
  | none => rw [e1] at h; cases h
  | some i =>
    cases e2 : litX v with
    | none => rw [e1, e2] at h; cases h
    | some x =>
      rw [e1, e2] at h
      cases h
      obtain ⟨a, b, f1⟩ := litI_spec e1
      obtain ⟨c, d, f2⟩ := litX_spec e2
      exact ⟨a, b, c, d, f1, f2⟩
theorem lits_eq (p : Pos) (ks : List (Option PySem.Expr)) : ∀ vs : List PySem.Expr, allLit ks vs = true →
    (evalEachOpt ks envT).zip ((evalEach vs envT).map fun v => do let x ← v; standAt p; Pure.pure x) = (litsOf ks vs).map (itT p) := by
  induction ks with
  | nil => intro vs h; cases vs <;> rfl
  | cons k ks ih =>
    intro vs h
    cases vs with
    | nil => rfl
    | cons v vs =>
      have h' : ((litP k v).isSome && allLit ks vs) = true := h
      rw [Bool.and_eq_true] at h'
      obtain ⟨q, hq⟩ := Option.isSome_iff_exists.mp h'.1
      obtain ⟨a, b, c, d, rfl, rfl⟩ := litP_spec hq
      have e : litsOf (some (.Constant (.int q.1) a b) :: ks) (.Constant (.str q.2) c d :: vs) = q :: litsOf ks vs := rfl
      rw [e, List.map_cons, ← ih vs h'.2]
      rfl
theorem lit_ok : allLit dKeys dVals = true := by kernel_rfl!
noncomputable def rising : Int → List KV → Bool
  | _, [] => true
  | b, (i, _) :: r => decide (b < i) && rising i r
theorem L3_rising : rising (-1) L3 = true := by kernel_rfl!
theorem L3_len : L3.length = 650 := by kernel_rfl!
noncomputable def below (b : Int) : List KV → Bool
  | [] => true
  | (i, _) :: r => decide (i < b) && below b r
theorem L3_below : below 2305843009213693951 L3 = true := by kernel_rfl!
theorem rising_gt : ∀ (l : List KV) (b : Int), rising b l = true → ∀ x ∈ l, b < x.1
  | [], _, _, _, h => nomatch h
  | (i, y) :: r, b, h, x, hx => by
    simp only [rising, Bool.and_eq_true, decide_eq_true_eq] at h
    rcases List.mem_cons.mp hx with rfl | hx
    · exact h.1
    · exact Int.lt_trans h.1 (rising_gt r i h.2 x hx)
theorem rising_nodup : ∀ (l : List KV) (b : Int), rising b l = true → (l.map (·.1)).Nodup
  | [], _, _ => List.nodup_nil
  | (i, y) :: r, b, h => by
    simp only [rising, Bool.and_eq_true, decide_eq_true_eq] at h
    rw [List.map_cons, List.nodup_cons]
    refine ⟨fun hm => ?_, rising_nodup r i h.2⟩
    obtain ⟨x, hx, e⟩ := List.mem_map.mp hm
    have := rising_gt r i h.2 x hx
    omega
theorem below_lt : ∀ (l : List KV) (b : Int), below b l = true → ∀ x ∈ l, x.1 < b
  | [], _, _, _, h => nomatch h
  | (i, y) :: r, b, h, x, hx => by
    simp only [below, Bool.and_eq_true, decide_eq_true_eq] at h
    rcases List.mem_cons.mp hx with rfl | hx
    · exact h.1
    · exact below_lt r b h.2 x hx
theorem L3_bounds : ∀ x ∈ L3, 0 ≤ x.1 ∧ x.1 < 2305843009213693951 := fun x hx => ⟨by have := rising_gt _ _ L3_rising x hx; omega, below_lt _ _ L3_below x hx⟩
noncomputable def S14 (w : World) (os : OsState) : SharedT := ⟨T_s14 w.params, 140, {}, #[], {}, 415, os⟩
noncomputable def m1 : List Quad := quadsL 415 (L3.take 17)
noncomputable def S14b (w : World) (os : OsState) : SharedT := { S14 w os with tree := (S14 w os).tree.ins 140 (dob m1 17), n := 141, toks := 466 }
theorem pres14 (w : World) (os : OsState) : Present (S14 w os).tree 140 := by
  have h : (List.range 140).all (fun i => ((S14 w os).tree.get i).isSome) = true := by kernel_rfl!
  intro i hi
  exact List.all_eq_true.mp h i (List.mem_range.mpr hi)
theorem disp_all (w : World) (os : OsState) (q : Pos) : Go w (dictDisplay (L3.map (itT dPos))) (S14 w os) q (.ref 140) (dispLoop 40 (S14b w os) 140 m1 (L3.drop 17)) dPos (223 + dispN 40 633) := by
  obtain ⟨fl, F, f, e, hA, hB⟩ := disp_eq w (L3.map (itT dPos))
  rw [e]
  have hl := L3_len
  have ht : (L3.take 17).length = 17 := by rw [List.length_take, hl]; rfl
  have hd : (L3.drop 17).length = 633 := by rw [List.length_drop, hl]
  have hsp : L3.map (itT dPos) = (L3.take 17).map (itT dPos) ++ (L3.drop 17).map (itT dPos) := by rw [← List.map_append, List.take_append_drop]
  rw [hsp, gather17 f hA hB dPos none _ _ ht, bind_assoc_sem]
  have hnd := rising_nodup _ _ L3_rising
  have hne : L3.take 17 ≠ [] := by intro e; rw [e] at ht; simp at ht
  have first : Go w (fl ((L3.take 17).map (prT dPos)) none) (S14 w os) q (some 140) (S14b w os) dPos 223 := by
    have := subL (w := w) (S := S14 w os) (q := q) dPos (L3.take 17) (by omega) (by omega) (by show 11 ≤ 140; omega) (Present.ins _ _ _ (pres14 w os)) (fun x hx => L3_bounds x (List.mem_of_mem_take hx)) (List.Nodup.sublist (List.Sublist.map _ (List.take_sublist ..)) hnd)
    rw [ht] at this
    exact F.one (by cases hq : L3.take 17 with | nil => exact absurd hq hne | cons => exact List.cons_ne_nil _ _) this
  refine Go.bind first ?_
  have hmap : m1.map (·.1) = (L3.take 17).map (·.1) := quadsL_fst _ _
  have hm1l : m1.length = 17 := by unfold m1; rw [quadsL_len, ht]
  have loop := disp_go (w := w) F f hA hB dPos 140 40 (L3.drop 17) (S14b w os) m1 (by omega) (by rw [hd]; decide) (by omega) (by show 140 < 141; omega) (by intro e; rw [e] at hm1l; simp at hm1l)
    (by show ((S14 w os).tree.ins 140 _).get 140 = _; rw [BT.get_ins _ _ _ (Present.ins _ _ _ (pres14 w os)), if_pos rfl, hm1l]) (Present.after _ (pres14 w os))
    (fun x hx => L3_bounds x (List.mem_of_mem_drop hx)) (by rw [hmap, ← List.map_append, List.take_append_drop]; exact hnd) (by omega)
  rw [hd] at loop
  show Go w (forIn ((L3.drop 17).map (itT dPos)) (some 140, []) f >>= fun r => (fl r.2 r.1 >>= _)) _ _ _ _ _ _
  rw [← bind_assoc_sem (forIn ((L3.drop 17).map (itT dPos)) (some 140, []) f) (fun r => fl r.2 r.1)]
  exact Go.bind (n := dispN 40 633) (k := 0) loop (Go.pure _)
noncomputable def tailT : Sem Flow := assignStores envT (.ref 140) none ((assignEach dTgt envT).map (·.2))
theorem stmt_eq : exec (topFn 15) envT = (standAt dStPos >>= fun _ => eval (.Dict dKeys dVals dPos) envT >>= fun v => assignStores envT v none ((assignEach dTgt envT).map (·.2))) := by kernel_rfl!
set_option maxHeartbeats 0 in
theorem tail_go (w : World) (os : OsState) (K : Flow → Sem Fin) (H : Value → Sem Fin) (gd : Bool → Bool) (lv : List Value → List Value) :
  sgo w 7 (dispLoop 40 (S14b w os) 140 m1 (L3.drop 17)) ⟨tailT.wrap K H gd lv, cT, dPos, B0⟩ = some (⟨T_s15 w.params, 179, {}, #[], {}, 2366, os⟩, ⟨K .next, cT, ⟨106, 0, 106, 13⟩, B0⟩) := by kernel_rfl!
end Hd
end Nc6
end Pa6
section Pa7
set_option compiler.extract_closed false
open PySem PySem.W PyProof.Rows
set_option maxRecDepth 1000000
set_option maxHeartbeats 0
set_option linter.unusedVariables false
noncomputable section Nc7
namespace Hd
theorem run_go (w : World) : ∀ (n k : Nat) (S S1 : SharedT) (t t1 : Thread), sgo w n S t = some (S1, t1) → segRunT treeTable pw w 11 annT 1 (n + k) S t = segRunT treeTable pw w 11 annT 1 k S1 t1
  | 0, k, S, S1, t, t1, h => by
    have h : some (S, t) = some (S1, t1) := h
    cases h
    rw [Nat.zero_add]
  | n + 1, k, S, S1, t, t1, h => by
    rw [show n + 1 + k = (n + k) + 1 by omega]
    have e1 : sgo w (n + 1) S t = match endAt 1 t with
        | some _ => none
        | none => match stepOk 11 annT t with
          | false => none
          | true => match stepT (denote treeTable) pw w S t with
            | some (s', t') => sgo w n s' t'
            | none => none := rfl
    have e2 : segRunT treeTable pw w 11 annT 1 (n + k + 1) S t = match endAt 1 t with
        | some f => some (f, S, t.code, t.pos)
        | none => match stepOk 11 annT t with
          | false => none
          | true => match stepT (denote treeTable) pw w S t with
            | some (s', t') => segRunT treeTable pw w 11 annT 1 (n + k) s' t'
            | none => none := rfl
    rw [e1] at h
    rw [e2]
    cases he : endAt 1 t with
    | some x => rw [he] at h; cases h
    | none =>
      rw [he] at h
      cases hk : stepOk 11 annT t with
      | false => rw [hk] at h; cases h
      | true =>
        rw [hk] at h
        cases hs : stepT (denote treeTable) pw w S t with
        | none => rw [hs] at h; cases h
        | some r =>
          obtain ⟨s', t'⟩ := r
          rw [hs] at h
          exact run_go w n k s' S1 t' t1 h
theorem dict_stmt (w : World) (os : OsState) (q : Pos) : Go w (execs [topFn 15] envT) (S14 w os) q .next ⟨T_s15 w.params, 179, {}, #[], {}, 2366, os⟩ ⟨106, 0, 106, 13⟩ 12524 := by
  rw [execs_cons, stmt_eq]
  refine Go.cast (n := (1 + ((1 + (223 + dispN 40 633)) + 7)) + 0) (Go.bind (v := .next) (S1 := ⟨T_s15 w.params, 179, {}, #[], {}, 2366, os⟩) (q1 := ⟨106, 0, 106, 13⟩) ?_ (Go.pure _)) rfl (by decide +kernel)
  refine Go.bind (Go.standAt _) (Go.bind (v := .ref 140) (S1 := dispLoop 40 (S14b w os) 140 m1 (L3.drop 17)) (q1 := dPos) ?_ ?_)
  · rw [arm_eval_Dict, lits_eq dPos dKeys dVals lit_ok]
    exact Go.bind (Go.standAt _) (disp_all w os _)
  · exact fun K H gd lv => tail_go w os K H gd lv
noncomputable abbrev St (T : Params → BT) (n t : Nat) (w : World) (os : OsState) : SharedT := ⟨T w.params, n, {}, #[], {}, t, os⟩
noncomputable abbrev SegS (w : World) (os : OsState) (T T' : Params → BT) (n t n' t' : Nat) (a k N : Nat) (q q' : Pos) : Prop :=
  segRunT treeTable pw w 11 (some (.ref 6)) 1 N (St T n t w os) (piecesOf (seg a k) envT cT q B0) = some (.next, St T' n' t' w os, cT, q')
noncomputable abbrev SegF (w : World) (os : OsState) (T T' : Params → BT) (n t n' t' : Nat) (a k N : Nat) (q q' : Pos) : Prop :=
  PySem.W.Fast.tw10110043849684766642 PySem.W.Fast.tw14364793385576792824 pw w 11 (some (.ref 6)) 1 N (St T n t w os) (piecesOf (seg a k) envT cT q B0) = some (.next, St T' n' t' w os, cT, q')
theorem of_fast {w : World} {os : OsState} {T T' : Params → BT} {n t n' t' a k N : Nat} {q q' : Pos} (h : SegF w os T T' n t n' t' a k N q q') : SegS w os T T' n t n' t' a k N q q' := by
  unfold SegS
  rw [PySem.W.Fast.te10110043849684766642, PySem.W.Fast.te14364793385576792824]
  exact h
theorem segA (w : World) (os : OsState) : SegF w os T_pre T_s12 15 187 122 348 0 13 1300 ⟨0,0,0,0⟩ ⟨102, 0, 102, 8⟩ := by unfold SegF; kernel_rfl!
noncomputable def wF (w : World) (a b : Bool) : World := (w.withFollow "special-get-raises" b).withFollow "set-order" a
theorem segB00 (w : World) (os : OsState) : SegF (wF w false false) os T_s12 T_s13 122 348 133 408 13 1 1100 ⟨102, 0, 102, 8⟩ ⟨103, 0, 103, 6⟩ := by unfold SegF; kernel_rfl!
theorem segB01 (w : World) (os : OsState) : SegF (wF w false true) os T_s12 T_s13 122 348 133 408 13 1 1100 ⟨102, 0, 102, 8⟩ ⟨103, 0, 103, 6⟩ := by unfold SegF; kernel_rfl!
theorem segB10 (w : World) (os : OsState) : SegF (wF w true false) os T_s12 T_s13 122 348 133 408 13 1 1100 ⟨102, 0, 102, 8⟩ ⟨103, 0, 103, 6⟩ := by unfold SegF; kernel_rfl!
theorem segB11 (w : World) (os : OsState) : SegF (wF w true true) os T_s12 T_s13 122 348 133 408 13 1 1100 ⟨102, 0, 102, 8⟩ ⟨103, 0, 103, 6⟩ := by unfold SegF; kernel_rfl!
theorem segB (w : World) : ∀ os, SegS w os T_s12 T_s13 122 348 133 408 13 1 1100 ⟨102, 0, 102, 8⟩ ⟨103, 0, 103, 6⟩ :=
  byRow2 "set-order" (P := fun w => ∀ os, SegS w os T_s12 T_s13 122 348 133 408 13 1 1100 ⟨102, 0, 102, 8⟩ ⟨103, 0, 103, 6⟩)
   (byRow2 "special-get-raises" (P := fun w => ∀ os, SegS (w.withFollow "set-order" false) os T_s12 T_s13 122 348 133 408 13 1 1100 ⟨102, 0, 102, 8⟩ ⟨103, 0, 103, 6⟩) (fun w os => of_fast (segB00 w os)) (fun w os => of_fast (segB01 w os)))
   (byRow2 "special-get-raises" (P := fun w => ∀ os, SegS (w.withFollow "set-order" true) os T_s12 T_s13 122 348 133 408 13 1 1100 ⟨102, 0, 102, 8⟩ ⟨103, 0, 103, 6⟩) (fun w os => of_fast (segB10 w os)) (fun w os => of_fast (segB11 w os))) w
theorem segM (w : World) (os : OsState) : SegF w os T_s13 T_s14 133 408 140 415 14 1 40 ⟨103, 0, 103, 6⟩ ⟨104, 0, 105, 30⟩ := by unfold SegF; kernel_rfl!
theorem segC (w : World) (os : OsState) : SegS w os T_s14 T_s15 140 415 179 2366 15 1 12525 ⟨104, 0, 105, 30⟩ ⟨106, 0, 106, 13⟩ := by
  have hseg : seg 15 1 = [topFn 15] := by kernel_rfl!
  have hgo := (dict_stmt w os ⟨104, 0, 105, 30⟩) doneF deadEnd id id
  have hr := run_go w 12524 1 _ _ _ _ hgo
  unfold SegS
  rw [hseg]
  exact hr
theorem segD (w : World) (os : OsState) : SegF w os T_s15 T_s27 179 2366 250 2478 16 12 1300 ⟨106, 0, 106, 13⟩ ⟨208, 0, 225, 75⟩ := by unfold SegF; kernel_rfl!
end Hd
end Nc7
end Pa7
section Pa8
set_option compiler.extract_closed false
open PySem PySem.W PyProof.Rows
set_option maxRecDepth 1000000
set_option maxHeartbeats 0
set_option linter.unusedVariables false
noncomputable section Nc8
namespace Hd
noncomputable def asK : List Addr := [0, 1, 2, 3, 4, 5, 6, 7, 8, 9, 10, 11, 12, 13, 14, 15, 16, 17, 18, 19, 20, 21, 22, 23, 24, 25, 26, 27, 28, 29, 30, 31, 32, 33, 34, 35, 36, 37, 38, 39, 40, 41, 42, 43, 44, 45, 46, 47, 48, 49, 50, 51, 52, 53, 54, 55, 56, 57, 58, 59, 60, 61, 62, 63, 64, 65, 66, 67, 68, 69, 70, 71, 72, 73, 74, 75, 76, 77, 78, 79, 80, 81, 82, 83, 84, 85, 86, 87, 88, 89, 90, 91, 92, 93, 94, 95, 96, 97, 98, 99, 100, 101, 102, 103, 104, 105, 106, 107, 108, 109, 110, 111, 112, 113, 114, 115, 116, 117, 118, 119, 120, 121, 122, 123, 124, 125, 126, 127, 128, 129, 130, 131, 132, 133, 134, 135, 136, 137, 138, 139, 140, 141, 142, 143, 144, 145, 146, 147, 148, 149, 150, 151, 152, 153, 154, 155, 156, 157, 158, 159, 160, 161, 162, 163, 164, 165, 166, 167, 168, 169, 170, 171, 172, 173, 174, 175, 176, 177, 178, 179, 180, 181, 182, 183, 184, 185, 186, 187, 188, 189, 190, 191, 192, 193, 194, 195, 196, 197, 198, 199, 200, 201, 202, 203, 204, 205, 206, 207, 208, 209, 210, 211, 212, 213, 214, 215, 216, 217, 218, 219, 220, 221, 222, 223, 224, 225, 226, 227, 228, 229, 230, 231, 232, 233, 234, 235, 236, 237, 238, 239, 240, 241, 242, 243, 244, 245, 246, 247, 248, 249]
noncomputable def Kf (P : Params) : Frag := [(0, boot_o_0 P), (1, boot_o_1 P), (2, o2_s12 P), (3, o3_s27 P), (4, boot_o_4 P), (5, boot_o_5 P), (6, boot_o_6 P), (7, boot_o_7 P), (8, boot_o_8 P), (9, boot_o_9 P), (10, boot_o_10 P), (11, o11_pre P), (12, o12_s27 P), (13, o13_pre P), (14, o14_pre P), (15, o15_s12 P), (16, o16_s12 P), (17, o17_s12 P), (18, o18_s12 P), (19, o19_s12 P), (20, o20_s12 P), (21, o21_s12 P), (22, o22_s12 P), (23, o23_s12 P), (24, o24_s12 P), (25, o25_s12 P), (26, o26_s12 P), (27, o27_s12 P), (28, o28_s12 P), (29, o29_s12 P), (30, o30_s12 P), (31, o31_s12 P), (32, o32_s12 P), (33, o33_s12 P), (34, o34_s12 P), (35, o35_s12 P), (36, o36_s12 P), (37, o37_s12 P), (38, o38_s12 P), (39, o39_s12 P), (40, o40_s12 P), (41, o41_s12 P), (42, o42_s12 P), (43, o43_s12 P), (44, o44_s12 P), (45, o45_s12 P), (46, o46_s12 P), (47, o47_s12 P), (48, o48_s12 P), (49, o49_s12 P), (50, o50_s12 P), (51, o51_s12 P), (52, o52_s12 P), (53, o53_s12 P), (54, o54_s12 P), (55, o55_s12 P), (56, o56_s12 P), (57, o57_s12 P), (58, o58_s12 P), (59, o59_s12 P), (60, o60_s12 P), (61, o61_s12 P), (62, o62_s12 P), (63, o63_s12 P), (64, o64_s12 P), (65, o65_s12 P), (66, o66_s12 P), (67, o67_s12 P), (68, o68_s12 P), (69, o69_s12 P), (70, o70_s12 P), (71, o71_s12 P), (72, o72_s12 P), (73, o73_s12 P), (74, o74_s12 P), (75, o75_s12 P), (76, o76_s12 P), (77, o77_s12 P), (78, o78_s12 P), (79, o79_s12 P), (80, o80_s12 P), (81, o81_s12 P), (82, o82_s12 P), (83, o83_s12 P), (84, o84_s12 P), (85, o85_s12 P), (86, o86_s12 P), (87, o87_s12 P), (88, o88_s12 P), (89, o89_s12 P), (90, o90_s12 P), (91, o91_s12 P), (92, o92_s12 P), (93, o93_s12 P), (94, o94_s12 P), (95, o95_s12 P), (96, o96_s12 P), (97, o97_s12 P), (98, o98_s12 P), (99, o99_s12 P), (100, o100_s12 P), (101, o101_s12 P), (102, o102_s12 P), (103, o103_s12 P), (104, o104_s12 P), (105, o105_s12 P), (106, o106_s12 P), (107, o107_s12 P), (108, o108_s12 P), (109, o109_s12 P), (110, o110_s12 P), (111, o111_s12 P), (112, o112_s12 P), (113, o113_s12 P), (114, o114_s12 P), (115, o115_s12 P), (116, o116_s12 P), (117, o117_s12 P), (118, o118_s12 P), (119, o119_s12 P), (120, o120_s12 P), (121, o121_s12 P), (122, o122_s13 P), (123, o123_s13 P), (124, o124_s13 P), (125, o125_s13 P), (126, o126_s13 P), (127, o127_s13 P), (128, o128_s13 P), (129, o129_s13 P), (130, o130_s13 P), (131, o131_s13 P), (132, o132_s13 P), (133, o133_s14 P), (134, o134_s14 P), (135, o135_s14 P), (136, o136_s14 P), (137, o137_s14 P), (138, o138_s14 P), (139, o139_s14 P), (140, bx140 P), (141, bx141 P), (142, bx142 P), (143, bx143 P), (144, bx144 P), (145, bx145 P), (146, bx146 P), (147, bx147 P), (148, bx148 P), (149, bx149 P), (150, bx150 P), (151, bx151 P), (152, bx152 P), (153, bx153 P), (154, bx154 P), (155, bx155 P), (156, bx156 P), (157, bx157 P), (158, bx158 P), (159, bx159 P), (160, bx160 P), (161, bx161 P), (162, bx162 P), (163, bx163 P), (164, bx164 P), (165, bx165 P), (166, bx166 P), (167, bx167 P), (168, bx168 P), (169, bx169 P), (170, bx170 P), (171, bx171 P), (172, bx172 P), (173, bx173 P), (174, bx174 P), (175, bx175 P), (176, bx176 P), (177, bx177 P), (178, bx178 P), (179, o179_s27 P), (180, o180_s27 P), (181, o181_s27 P), (182, o182_s27 P), (183, o183_s27 P), (184, o184_s27 P), (185, o185_s27 P), (186, o186_s27 P), (187, o187_s27 P), (188, o188_s27 P), (189, o189_s27 P), (190, o190_s27 P), (191, o191_s27 P), (192, o192_s27 P), (193, o193_s27 P), (194, o194_s27 P), (195, o195_s27 P), (196, o196_s27 P), (197, o197_s27 P), (198, o198_s27 P), (199, o199_s27 P), (200, o200_s27 P), (201, o201_s27 P), (202, o202_s27 P), (203, o203_s27 P), (204, o204_s27 P), (205, o205_s27 P), (206, o206_s27 P), (207, o207_s27 P), (208, o208_s27 P), (209, o209_s27 P), (210, o210_s27 P), (211, o211_s27 P), (212, o212_s27 P), (213, o213_s27 P), (214, o214_s27 P), (215, o215_s27 P), (216, o216_s27 P), (217, o217_s27 P), (218, o218_s27 P), (219, o219_s27 P), (220, o220_s27 P), (221, o221_s27 P), (222, o222_s27 P), (223, o223_s27 P), (224, o224_s27 P), (225, o225_s27 P), (226, o226_s27 P), (227, o227_s27 P), (228, o228_s27 P), (229, o229_s27 P), (230, o230_s27 P), (231, o231_s27 P), (232, o232_s27 P), (233, o233_s27 P), (234, o234_s27 P), (235, o235_s27 P), (236, o236_s27 P), (237, o237_s27 P), (238, o238_s27 P), (239, o239_s27 P), (240, o240_s27 P), (241, o241_s27 P), (242, o242_s27 P), (243, o243_s27 P), (244, o244_s27 P), (245, o245_s27 P), (246, o246_s27 P), (247, o247_s27 P), (248, o248_s27 P), (249, o249_s27 P)]
theorem asK_eq (P : Params) : asK = (Kf P).map (·.1) := by kernel_rfl!
noncomputable def hookK : Hook := kHook Kf asK asK_eq
noncomputable def qv : Program := { pw with main := { pw.main with body := seg 27 1 } }
noncomputable def looseN : List Str := (pw.boundNames.filter fun x => x != ("law" : Str))
noncomputable def Sfin (w : World) (os : OsState) : SharedT := St T_s27 250 2478 w os
theorem openE : ∀ w : World, (fencedOpening treeTable pw w 40000).map (fun s => (s.heap, s.gens, s.drawn, s.toks)) = some (boot_heap w.params, Array.mk [], boot_drawn, boot_toks) :=
  boot_open (by kernel_rfl!) (by decide +kernel) (fun s => by kernel_rfl!)
theorem sizeE (w : World) : ((boot_heap w.params).isNs mainGlobals && (Array.mk [] : Array GenState).size == 0, (boot_heap w.params).objs.size, (boot_heap w.params).nsMap mainGlobals "__annotations__") = (true, 11, some (.ref 6)) := by kernel_rfl!
theorem preE (w : World) (os : OsState) : topGo treeTable pw w 11 annT 12 ⟨boot_heap w.params, Array.mk [], boot_drawn, boot_toks, os⟩ (topStub pw) = some ((St T_pre 15 187 w os).abs, ⟨denote treeTable cT, cT, ⟨0,0,0,0⟩, B0⟩) := by kernel_rfl!
theorem blockE (w : World) (os : OsState) : segRun treeTable pw w 11 annT 1 1 (St T_pre 15 187 w os).abs (blockOf (behindTheImports pw) envT cT ⟨0,0,0,0⟩ B0) = some (.next, (St T_pre 15 187 w os).abs, cT, ⟨0,0,0,0⟩) := by kernel_rfl!
theorem finE (w : World) (os : OsState) : topRun treeTable pw w 11 annT 2 (Sfin w os).abs ⟨doneF .next, cT, ⟨208, 0, 225, 75⟩, B0⟩ = some (Sfin w os).abs := by kernel_rfl!
theorem bodyE : behindTheImports pw = seg 0 13 ++ (seg 13 1 ++ (seg 14 1 ++ (seg 15 1 ++ (seg 16 12 ++ [])))) := by kernel_rfl!
theorem runE (w : World) (os : OsState) : topRun treeTable pw w 11 annT (12 + (1 + (1300 + (1100 + (40 + (12525 + (1300 + 2))))))) ⟨boot_heap w.params, Array.mk [], boot_drawn, boot_toks, os⟩ (topStub pw) = some (Sfin w os).abs := by
  refine go_top (preE w os) (piece_block (blockE w os) ?_)
  have h : topRun treeTable pw w 11 annT (1300 + (1100 + (40 + (12525 + (1300 + 2))))) (St T_pre 15 187 w os).abs (restOf (seg 0 13 ++ (seg 13 1 ++ (seg 14 1 ++ (seg 15 1 ++ (seg 16 12 ++ []))))) envT cT ⟨0,0,0,0⟩ B0) = some (Sfin w os).abs :=
    piece_app (segRun_of (of_fast (segA w os))) (piece_app (segRun_of (segB w os)) (piece_app (segRun_of (of_fast (segM w os))) (piece_app (segRun_of (segC w os)) (piece_app (segRun_of (of_fast (segD w os))) (piece_nil (finE w os))))))
  rw [← bodyE] at h
  exact h
noncomputable abbrev XtN : Shared → Bool := fun s => xlAt qv [] s && recOk [] s
theorem looks1 (w : World) (os : OsState) : (staticsOk (importedModules pw.main.body) (boot_heap w.params) (Sfin w os).abs.heap && namesBound pw (Sfin w os).abs.heap && gensDone (Sfin w os).abs && laidKept (boot_heap w.params) (Sfin w os).abs.heap) = true := by kernel_rfl!
theorem looks2 (w : World) (os : OsState) : PySem.W.Fast.tw4187177175401517315 qv looseN (importedModules pw.main.body) XtN true (Sfin w os).abs = openGood qv looseN := by kernel_rfl!
theorem looks3 (w : World) (os : OsState) : hookK.obs (Sfin w os).abs = hookK.val w := by kernel_rfl!
theorem left : LeftO pw qv looseN XtN hookK.obs hookK.val 40000 := by
  refine LeftO.of_pieces (H₀ := boot_heap) (H₁ := fun P => absHeap (T_s27 P) 250 {}) (gs₀ := Array.mk []) (gs₁ := #[]) (d₀ := boot_drawn) (d₁ := {}) (k₀ := boot_toks) (k₁ := 2478) (m₀ := 11) (ann := annT) (M := 12 + (1 + (1300 + (1100 + (40 + (12525 + (1300 + 2))))))) openE sizeE (fun w os => runE w os) (by decide +kernel) (fun w => ?_)
  funext os
  have l1 := looks1 w os
  have l2 : openSeen qv looseN (importedModules pw.main.body) XtN true (Sfin w os).abs = openGood qv looseN := by
    rw [PySem.W.Fast.te4187177175401517315]; exact looks2 w os
  have l3 := looks3 w os
  exact Prod.ext l1 (Prod.ext l2 l3)
end Hd
end Nc8
end Pa8
section Pa9
set_option compiler.extract_closed false
open PySem PySem.W PyProof.Rows
set_option maxRecDepth 1000000
set_option maxHeartbeats 0
noncomputable section Nc9
namespace Hd
abbrev rowN : OpenRow := PySem.Challenge.rw_wo0068_02.row
noncomputable def lawDef : DefRec := match topFn 27 with
  | .FunctionDef n args body _ _ _ sc _ _ p => { name := n, params := args, body := body, scope := sc, pos := p }
  | _ => { name := "law", params := default, body := [], scope := default, pos := default }
theorem defE : defOf qv rowN.name = some (lawDef, []) := by kernel_rfl!
theorem theDefE : rowN.prog.theDef rowN.name = some (lawDef.params, lawDef.body, lawDef.scope) := by kernel_rfl!
theorem kwE : kwWritten? lawDef.params.kwonlyargs lawDef.params.kw_defaults = some [] := by kernel_rfl!
theorem okE : (chainsOk qv && opensWell rowN.prog && (frees rowN.toRowW && rowN.within.isEmpty)) = true := by decide +kernel
theorem bareE : rowN.prog.bare := ⟨rfl, rfl, rfl, rfl, rfl, by kernel_rfl!⟩
theorem main (call : WalkO qv looseN (XL qv []) hookK.says rowN.toRowW lawDef [] fun f vs => PySem.call f vs) (said : rowN.wellSaid = true) (hw : rowN.toRowW.promised) : rowN.Holds :=
  holds_open (q := qv) (loose := looseN) (Xt := XtN) (XP := XL qv []) (Yf := hookK.obs) (Ya := hookK.val) (YP := hookK.says) (N := 40000) left hookK.of hookK.keeps (fun s e => xl_of s (Bool.and_eq_true_iff.mp e).1) XL.keeps defE theDefE kwE (fun s e => recFacts_of (Bool.and_eq_true_iff.mp e).2) rfl said okE bareE hw call
theorem said0 : OpenLaw.wellSaid PySem.Challenge.rw_wo0068_02 = true := by
  rw [PySem.W.Fast.te9446332074065402090]
  unfold PySem.W.Fast.tw9446332074065402090
  repeat refine look_both ?_ (by decide +kernel)
  decide +kernel
theorem fin (call : WalkO qv looseN (XL qv []) hookK.says rowN.toRowW lawDef [] fun f vs => PySem.call f vs) : PySem.Challenge.rw_wo0068_02.Holds :=
  holds_law said0 fun said => main call said (by w_witness2)
end Hd
end Nc9
end Pa9
section Pa10
set_option compiler.extract_closed false
open PySem PySem.W PySem.Calls PyProof.Rows
set_option maxRecDepth 100000
set_option linter.unusedVariables false
namespace Mine
inductive AV where
  | none | bool (b : Bool) | int (i : Int) | str (x : Str) | tup (xs : List AV) | ref (n : Nat) | fn (k : Nat) | rng (a b : Int)
inductive AO where
  | list (xs : List AV)
  | dict (es : List (Str × AV)) (pin : Option Obj)
  | inst (cls : Nat) (d : Nat)
  | ns (es : List (Str × AV))
  | meth (k : Nat) (self : Nat)
  | citer (m : Nat) (x : Str) (done : Bool)
  | clos (i : Nat) (j : Nat)
  | cell (v : AV)
  | code
  | tab (fresh : Bool)
noncomputable abbrev AH := Nat → Option AO
noncomputable def AH.upd (H : AH) (n : Nat) (o : AO) : AH := fun i => if i = n then some o else H i
structure Mp where
  f : Nat → Addr
  n : Nat
structure ClosD where
  name : Str
  qual : Str
  params : Arguments
  body : List Stmt
  scope : Scope
  free : Str
structure Gx where
  prog : Program
  w : World
  fv : Nat → Value
  h₀ : Heap
  mg : Str → Option Value
  mb : Str → Option Value
  hg : h₀.Ns mainGlobals mg
  hb : h₀.Ns builtinsNs mb
  lim : h₀.NoLimit
  K : Frag
  kin : K.In h₀
  tabP : Addr
  clo : ClosD
  hmain : Value
noncomputable abbrev tupleOf (vs : List Value) : Obj := { cls := .type "tuple", data := .seq vs.toArray }
noncomputable abbrev rngOf (a b : Int) (t u v : Tok) : Obj := { cls := .type "range", data := .fields #[.int a t, .int b u, .int 1 v] }
inductive Frozen : Obj → Prop
  | tup (vs : List Value) : Frozen (tupleOf vs)
  | rng (a b : Int) (t u v : Tok) : Frozen (rngOf a b t u v)
noncomputable abbrev lstOf (vs : List Value) (n : Nat) : Obj := { cls := .type "list", data := .seq vs.toArray n }
mutual
noncomputable def RV (fv : Nat → Value) (h : Heap) (m : Mp) : AV → Value → Prop
  | .none, v => v = .none
  | .bool b, v => v = .bool b
  | .int i, v => ∃ t, v = .int i t
  | .str x, v => ∃ t, v = .str x t
  | .tup xs, v => ∃ a vs, v = .ref a ∧ h.get? a = some (tupleOf vs) ∧ RVs fv h m xs vs
  | .ref n, v => n < m.n ∧ v = .ref (m.f n)
  | .fn k, v => v = fv k
  | .rng a b, v => ∃ ad t u w, v = .ref ad ∧ h.get? ad = some (rngOf a b t u w)
noncomputable def RVs (fv : Nat → Value) (h : Heap) (m : Mp) : List AV → List Value → Prop
  | [], vs => vs = []
  | x :: xs, vs => ∃ v r, vs = v :: r ∧ RV fv h m x v ∧ RVs fv h m xs r
end
structure Later (h : Heap) (m : Mp) (h' : Heap) (m' : Mp) : Prop where
  n : m.n ≤ m'.n
  f : ∀ i, i < m.n → m'.f i = m.f i
  tup : ∀ a o, Frozen o → h.get? a = some o → h'.get? a = some o
theorem Later.refl (h : Heap) (m : Mp) : Later h m h m := ⟨Nat.le_refl _, fun _ _ => rfl, fun _ _ _ e => e⟩
theorem Later.trans {h h' h'' : Heap} {m m' m'' : Mp} (x : Later h m h' m') (y : Later h' m' h'' m'') : Later h m h'' m'' :=
  ⟨Nat.le_trans x.n y.n, fun i hi => (y.f i (Nat.lt_of_lt_of_le hi x.n)).trans (x.f i hi), fun a o z e => y.tup a o z (x.tup a o z e)⟩
mutual
theorem RV.later {fv : Nat → Value} {h h' : Heap} {m m' : Mp} (L : Later h m h' m') : ∀ (x : AV) (v : Value), RV fv h m x v → RV fv h' m' x v
  | .none, v, e => by simp only [RV] at e ⊢; exact e
  | .bool b, v, e => by simp only [RV] at e ⊢; exact e
  | .int i, v, e => by simp only [RV] at e ⊢; exact e
  | .str s, v, e => by simp only [RV] at e ⊢; exact e
  | .fn k, v, e => by simp only [RV] at e ⊢; exact e
  | .rng a b, v, e => by
    simp only [RV] at e ⊢
    obtain ⟨ad, t, u, w, e1, e2⟩ := e
    exact ⟨ad, t, u, w, e1, L.tup ad _ (.rng a b t u w) e2⟩
  | .ref n, v, e => by
    simp only [RV] at e ⊢
    exact ⟨Nat.lt_of_lt_of_le e.1 L.n, by rw [L.f n e.1]; exact e.2⟩
  | .tup xs, v, e => by
    simp only [RV] at e ⊢
    obtain ⟨a, vs, e1, e2, e3⟩ := e
    exact ⟨a, vs, e1, L.tup a _ (.tup vs) e2, RVs.later L xs vs e3⟩
theorem RVs.later {fv : Nat → Value} {h h' : Heap} {m m' : Mp} (L : Later h m h' m') : ∀ (xs : List AV) (vs : List Value), RVs fv h m xs vs → RVs fv h' m' xs vs
  | [], vs, e => by simp only [RVs] at e ⊢; exact e
  | x :: xs, vs, e => by
    simp only [RVs] at e ⊢
    obtain ⟨v, r, e1, e2, e3⟩ := e
    exact ⟨v, r, e1, RV.later L x v e2, RVs.later L xs r e3⟩
end
noncomputable def REs (fv : Nat → Value) (h : Heap) (m : Mp) : List (Str × AV) → List (Str × Value) → Prop
  | [], vs => vs = []
  | (k, x) :: xs, vs => ∃ v r, vs = (k, v) :: r ∧ RV fv h m x v ∧ REs fv h m xs r
theorem REs.later {fv : Nat → Value} {h h' : Heap} {m m' : Mp} (L : Later h m h' m') : ∀ (xs : List (Str × AV)) (vs : List (Str × Value)), REs fv h m xs vs → REs fv h' m' xs vs
  | [], vs, e => by simp only [REs] at e ⊢; exact e
  | (k, x) :: xs, vs, e => by
    simp only [REs] at e ⊢
    obtain ⟨v, r, e1, e2, e3⟩ := e
    exact ⟨v, r, e1, RV.later L x v e2, REs.later L xs r e3⟩
noncomputable def RNs (fv : Nat → Value) (h : Heap) (m : Mp) : List (Str × AV) → List DictEntry → Prop
  | [], l => l = []
  | (k, x) :: es, l => ∃ hs t v r, l = ⟨hs, .str k t, v⟩ :: r ∧ RV fv h m x v ∧ RNs fv h m es r
theorem RNs.later {fv : Nat → Value} {h h' : Heap} {m m' : Mp} (L : Later h m h' m') : ∀ (xs : List (Str × AV)) (vs : List DictEntry), RNs fv h m xs vs → RNs fv h' m' xs vs
  | [], vs, e => by simp only [RNs] at e ⊢; exact e
  | (k, x) :: xs, vs, e => by
    simp only [RNs] at e ⊢
    obtain ⟨hs, t, v, r, e1, e2, e3⟩ := e
    exact ⟨hs, t, v, r, e1, RV.later L x v e2, RNs.later L xs r e3⟩
noncomputable def RO (G : Gx) (h : Heap) (m : Mp) (o : Obj) : AO → Prop
  | .list xs => ∃ vs n, o = lstOf vs n ∧ RVs G.fv h m xs vs
  | .dict es pin => (∃ kvs, o.IsDictOf (strKind G.prog G.w) kvs ∧ REs G.fv h m es kvs) ∧ ∀ p, pin = some p → o = p
  | .ns es => ∃ l n, o = { cls := .type "dict", data := .dict l.toArray n } ∧ RNs G.fv h m es l
  | .inst k d => d < m.n ∧ ∃ C, G.fv k = .ref C ∧ o = { cls := .ref C, dict := some (m.f d) }
  | .meth k self => self < m.n ∧ o = { cls := .type "method", data := .fields #[G.fv k, .ref (m.f self)] }
  | .citer c x done => c < m.n ∧ ∃ t, o = { cls := .type "callable_iterator", data := .fields (if done then #[.none, .none, .bool true] else #[.ref (m.f c), .str x t, .bool false]) }
  | .clos i j => i < m.n ∧ j < m.n ∧ ∃ doc pm ctv, o = fnMade G.clo.name G.clo.qual G.clo.params G.clo.body G.clo.scope [(G.clo.free, m.f i)] doc pm (m.f j) ctv
  | .cell v => ∃ cv, o.data = .cell (some cv) ∧ RV G.fv h m v cv
  | .code => ∃ vs t, o.data = .fields vs ∧ vs[1]? = some (.str G.clo.qual t)
  | .tab b => ∃ ps, o = tabObj ps ∧ (b = true → ps = #[])
theorem RO.later {G : Gx} {h h' : Heap} {m m' : Mp} (L : Later h m h' m') {o : Obj} : ∀ {x : AO}, RO G h m o x → RO G h' m' o x
  | .list xs, ⟨vs, n, e, r⟩ => ⟨vs, n, e, RVs.later L _ _ r⟩
  | .dict es pin, ⟨⟨kvs, e, r⟩, q⟩ => ⟨⟨kvs, e, REs.later L _ _ r⟩, q⟩
  | .ns es, ⟨l, n, e, r⟩ => ⟨l, n, e, RNs.later L _ _ r⟩
  | .inst k d, ⟨hd, C, e1, e2⟩ => ⟨Nat.lt_of_lt_of_le hd L.n, C, e1, by rw [L.f d hd]; exact e2⟩
  | .meth k d, ⟨hd, e2⟩ => ⟨Nat.lt_of_lt_of_le hd L.n, by rw [L.f d hd]; exact e2⟩
  | .citer c x done, ⟨hd, t, e2⟩ => ⟨Nat.lt_of_lt_of_le hd L.n, t, by rw [L.f c hd]; exact e2⟩
  | .cell v, ⟨cv, e, r⟩ => ⟨cv, e, RV.later L _ _ r⟩
  | .code, e => e
  | .tab b, e => e
  | .clos i j, ⟨h1, h2, doc, pm, ctv, e⟩ => ⟨Nat.lt_of_lt_of_le h1 L.n, Nat.lt_of_lt_of_le h2 L.n, doc, pm, ctv, by rw [L.f i h1, L.f j h2]; exact e⟩
theorem RO.noTup {G : Gx} {h : Heap} {m : Mp} {o : Obj} (z : Frozen o) : ∀ {x : AO}, ¬ RO G h m o x := by
  intro x hx
  cases z <;> cases x with
  | list xs => obtain ⟨_, _, e, _⟩ := hx; simp [lstOf] at e
  | dict es pin => obtain ⟨⟨kvs, ⟨es', ep, _, e, _⟩, r⟩, _⟩ := hx; simp at e
  | ns es => obtain ⟨l, n, e, r⟩ := hx; simp at e
  | inst k d => obtain ⟨hd, C, e1, e2⟩ := hx; simp at e2
  | meth k d => obtain ⟨hd, e2⟩ := hx; simp at e2
  | citer c x done => obtain ⟨hd, t, e2⟩ := hx; simp at e2
  | clos k c => obtain ⟨_, _, doc, pm, ctv, e⟩ := hx; simp at e
  | cell v => obtain ⟨cv, e, r⟩ := hx; simp at e
  | code => obtain ⟨vs, t, e, e2⟩ := hx; simp at e; try (subst e; simp at e2)
  | tab b => obtain ⟨ps, e, _⟩ := hx; simp at e
structure HR (G : Gx) (H : AH) (m : Mp) (s : Shared) : Prop where
  dom : ∀ i o, H i = some o → i < m.n
  inj : ∀ i j o o', H i = some o → H j = some o' → m.f i = m.f j → i = j
  obj : ∀ i x, H i = some x → ∃ o, s.heap.get? (m.f i) = some o ∧ RO G s.heap m o x
  base : ∀ b o, G.h₀.get? b = some o → s.heap.get? b = some o
  above : ∀ i o, H i = some o → G.h₀.get? (m.f i) = none
  gens : AllBare s.gens
  zero : 0 < m.n ∧ m.f 0 = G.tabP
structure Ext (own : Addr → Prop) (H : AH) (m : Mp) (s : Shared) (H' : AH) (m' : Mp) (s' : Shared) : Prop where
  n : m.n ≤ m'.n
  f : ∀ i, i < m.n → m'.f i = m.f i
  fresh : ∀ i o, H' i = some o → (i < m.n ∧ ∃ o', H i = some o') ∨ (m.n ≤ i ∧ (s.heap.get? (m'.f i) = none ∨ own (m'.f i)))
  kept : ∀ a o, s.heap.get? a = some o → (∀ i o', H i = some o' → m.f i ≠ a) → ¬ own a → s'.heap.get? a = some o
  tup : ∀ a o, Frozen o → s.heap.get? a = some o → s'.heap.get? a = some o
  os : s'.os = s.os
  gens : ∀ (g : Nat) (x : GenState), s.gens[g]? = some x → s'.gens[g]? = some x
  live : ∀ a, (s.heap.get? a).isSome = true → (s'.heap.get? a).isSome = true
theorem Ext.later {own : Addr → Prop} {H H' : AH} {m m' : Mp} {s s' : Shared} (x : Ext own H m s H' m' s') : Later s.heap m s'.heap m' := ⟨x.n, x.f, x.tup⟩
theorem Ext.refl (own : Addr → Prop) (G : Gx) {H : AH} {m : Mp} {s : Shared} (hr : HR G H m s) : Ext own H m s H m s :=
  ⟨Nat.le_refl _, fun _ _ => rfl, fun i o e => .inl ⟨hr.dom i o e, o, e⟩, fun _ _ e _ _ => e, fun _ _ _ e => e, rfl, fun _ _ e => e, fun _ e => e⟩
theorem Ext.trans {own : Addr → Prop} {H H' H'' : AH} {m m' m'' : Mp} {s s' s'' : Shared} (x : Ext own H m s H' m' s') (y : Ext own H' m' s' H'' m'' s'') : Ext own H m s H'' m'' s'' where
  n := Nat.le_trans x.n y.n
  f := fun i hi => (y.f i (Nat.lt_of_lt_of_le hi x.n)).trans (x.f i hi)
  fresh := fun i o e => by
    rcases y.fresh i o e with ⟨hi, o', e'⟩ | ⟨hi, e'⟩
    · rcases x.fresh i o' e' with h | ⟨h1, h2⟩
      · exact .inl h
      · exact .inr ⟨h1, by rw [y.f i hi]; exact h2⟩
    · refine .inr ⟨Nat.le_trans x.n hi, e'.imp (fun e' => ?_) id⟩
      cases hq : s.heap.get? (m''.f i) with
      | none => rfl
      | some o2 =>
        have := x.live (m''.f i) (by rw [hq]; rfl)
        rw [e'] at this; cases this
  kept := fun a o e hn ho => by
    refine y.kept a o (x.kept a o e hn ho) (fun i o' e' => ?_) ho
    rcases x.fresh i o' e' with ⟨hi, o2, e2⟩ | ⟨h1, h2 | h2⟩
    · rw [x.f i hi]; exact hn i o2 e2
    · intro q; rw [q, e] at h2; cases h2
    · intro q; exact ho (q ▸ h2)
  tup := fun a o z e => y.tup a o z (x.tup a o z e)
  os := y.os.trans x.os
  gens := fun g z e => y.gens g z (x.gens g z e)
  live := fun a e => y.live a (x.live a e)
end Mine
end Pa10
section Pa11
set_option compiler.extract_closed false
open PySem PySem.W PySem.Calls PyProof.Rows
set_option maxRecDepth 100000
set_option linter.unusedVariables false
namespace Mine
inductive Res where
  | loc (k : Nat) (w : Bool)
  | glob (k : Nat)
structure St where
  ρ : List (Option AV)
  H : AH
structure Cx (G : Gx) where
  env : Env
  res : Str → Option Res
  kind : env.scope.kind = .function
  globals : env.globals = mainGlobals
  builtins : env.builtins = builtinsNs
  loc : ∀ x k b, res x = some (.loc k b) → (x == ("__debug__" : Str)) = false ∧ (x == ("__classdict__" : Str)) = false ∧ ((b = true ∧ env.kindOf x = some .local) ∨ ((env.kindOf x = some .cell ∨ (b = false ∧ env.kindOf x = some .free)) ∧ ∃ c, env.cells.lookup x = some c))
  inj : ∀ x y k b b', res x = some (.loc k b) → res y = some (.loc k b') → x = y
  glob : ∀ x k, res x = some (.glob k) → (x == ("__debug__" : Str)) = false ∧ env.kindOf x = some .globalImplicit ∧ (G.mg x = some (G.fv k) ∨ (G.mg x = none ∧ G.mb x = some (G.fv k)))
  cinj : ∀ x y c, env.cells.lookup x = some c → env.cells.lookup y = some c → x = y
  cL : ∀ x c, env.cells.lookup x = some c → c ≠ env.locals
variable {G : Gx}
noncomputable def Cx.own (X : Cx G) (a : Addr) : Prop := a = X.env.locals ∨ ∃ x k, X.res x = some (.loc k true) ∧ X.env.cells.lookup x = some a
noncomputable def Cx.resv (X : Cx G) (a : Addr) : Prop := a = X.env.locals ∨ ∃ x k b, X.res x = some (.loc k b) ∧ X.env.cells.lookup x = some a
theorem Cx.own_resv {X : Cx G} {a : Addr} : X.own a → X.resv a
  | .inl e => .inl e
  | .inr ⟨x, k, h, e⟩ => .inr ⟨x, k, true, h, e⟩
structure FR (X : Cx G) (ρ : List (Option AV)) (H : AH) (m : Mp) (s : Shared) : Prop where
  ns : ∃ mp, s.heap.Ns X.env.locals mp ∧ ∀ x k b v, X.res x = some (.loc k b) → X.env.kindOf x = some .local → ρ[k]? = some (some v) → ∃ cv, mp x = some cv ∧ RV G.fv s.heap m v cv
  cells : ∀ x k b c, X.res x = some (.loc k b) → X.env.kindOf x ≠ some .local → X.env.cells.lookup x = some c → ∃ ov, s.heap.IsCell c ov ∧ ∀ v, ρ[k]? = some (some v) → ∃ cv, ov = some cv ∧ RV G.fv s.heap m v cv
  clive : ∀ x k b c, X.res x = some (.loc k b) → X.env.cells.lookup x = some c → ∃ ov, s.heap.IsCell c ov
  apart : ∀ i o, H i = some o → ¬ X.resv (m.f i)
  old : ∀ a, X.own a → G.h₀.get? a = none
theorem FR.live {X : Cx G} {ρ : List (Option AV)} {H : AH} {m : Mp} {s : Shared} (F : FR X ρ H m s) {a : Addr} : X.resv a → (s.heap.get? a).isSome = true
  | .inl e => by
    obtain ⟨mp, ⟨o, es, ep, h, _⟩, _⟩ := F.ns
    rw [e, h]; rfl
  | .inr ⟨x, k, b, hx, e⟩ => by
    obtain ⟨ov, o, h, _⟩ := F.clive x k b a hx e
    rw [h]; rfl
noncomputable def NoE : Value → Shared → Prop := fun _ _ => False
structure OkA (r : Nat) (A : Around) : Prop where
  handled : A.handled = none
  depth : A.depth + 2 * r < recursionLimit
  units : A.units + 20 * r + 40 < cLine
theorem OkA.le {r r' : Nat} {A : Around} (x : OkA r A) (h : r' ≤ r) : OkA r' A := ⟨x.handled, by have := x.depth; omega, by have := x.units; omega⟩
inductive PostG {α β : Type} (rel : Heap → Mp → α → β → Prop) (X : Cx G) (σ : St) (m : Mp) (s : Shared) (K : α → St → Prop) (c : β) (s' : Shared) : Prop
  | mk (a : α) (σ' : St) (m' : Mp) (hK : K a σ') (hE : Ext X.own σ.H m s σ'.H m' s') (hR : HR G σ'.H m' s') (hF : FR X σ'.ρ σ'.H m' s') (hv : rel s'.heap m' a c) : PostG rel X σ m s K c s'
noncomputable abbrev Post (X : Cx G) (σ : St) (m : Mp) (s : Shared) (K : AV → St → Prop) (cv : Value) (s' : Shared) : Prop := PostG (RV G.fv) X σ m s K cv s'
noncomputable def EV (X : Cx G) (r : Nat) (t : Sem Value) (σ : St) (K : AV → St → Prop) : Prop :=
  ∀ A m s, OkA r A → HR G σ.H m s → FR X σ.ρ σ.H m s → wpAny (model G.prog G.w) A t (Post X σ m s K) NoE s
theorem Post.trans {X : Cx G} {σ σ1 : St} {m m1 : Mp} {s s1 : Shared} {K : AV → St → Prop} {cv : Value} {s' : Shared} (e : Ext X.own σ.H m s σ1.H m1 s1) : Post X σ1 m1 s1 K cv s' → Post X σ m s K cv s'
  | ⟨v, σ', m', hK, hE, hR, hF, hv⟩ => ⟨v, σ', m', hK, e.trans hE, hR, hF, hv⟩
theorem noE_any {M : Model} {A : Around} {α : Type} {t : Sem α} {Q : α → Shared → Prop} {E : Value → Shared → Prop} {s : Shared} (h : wpAny M A t Q NoE s) : wpAny M A t Q E s := wpAny_mono h (fun _ _ x => x) fun _ _ x => x.elim
theorem HR.toks {H : AH} {m : Mp} {s : Shared} (h : HR G H m s) (t : Nat) : HR G H m { s with toks := t } := ⟨h.dom, h.inj, h.obj, h.base, h.above, h.gens, h.zero⟩
theorem FR.toks {X : Cx G} {ρ : List (Option AV)} {H : AH} {m : Mp} {s : Shared} (h : FR X ρ H m s) (t : Nat) : FR X ρ H m { s with toks := t } := ⟨h.ns, h.cells, h.clive, h.apart, h.old⟩
theorem post_pure {X : Cx G} {σ : St} {m : Mp} {s : Shared} {K : AV → St → Prop} {v : AV} {cv : Value} {t : Nat} (hr : HR G σ.H m s) (hf : FR X σ.ρ σ.H m s) (hK : K v σ) (hv : RV G.fv s.heap m v cv) : Post X σ m s K cv { s with toks := t } :=
  ⟨v, σ, m, hK, ⟨Nat.le_refl _, fun _ _ => rfl, fun i o e => .inl ⟨hr.dom i o e, o, e⟩, fun _ _ e _ _ => e, fun _ _ _ e => e, rfl, fun _ _ e => e, fun _ e => e⟩, hr.toks t, hf.toks t, hv⟩
theorem HR.grow {H : AH} {m : Mp} {s s' : Shared} (h : HR G H m s) (hk : ∀ a o, s.heap.get? a = some o → s'.heap.get? a = some o) (hg : AllBare s'.gens) : HR G H m s' :=
  ⟨h.dom, h.inj, fun i x e => let ⟨o, h1, h2⟩ := h.obj i x e; ⟨o, hk _ _ h1, h2.later ⟨Nat.le_refl _, fun _ _ => rfl, fun a o _ e => hk _ _ e⟩⟩, fun b o e => hk b o (h.base b o e), h.above, hg, h.zero⟩
theorem FR.grow {X : Cx G} {ρ : List (Option AV)} {H : AH} {m : Mp} {s s' : Shared} (h : FR X ρ H m s) (hk : ∀ a o, s.heap.get? a = some o → s'.heap.get? a = some o) : FR X ρ H m s' := by
  have L : Later s.heap m s'.heap m := ⟨Nat.le_refl _, fun _ _ => rfl, fun a o _ e => hk _ _ e⟩
  refine ⟨?_, fun x k b c h1 h2 h3 => ?_, fun x k b c hx e => let ⟨ov, z⟩ := h.clive x k b c hx e; ⟨ov, z.keeps hk⟩, h.apart, h.old⟩
  · obtain ⟨mp, n, f⟩ := h.ns
    exact ⟨mp, n.keeps hk, fun x k b v h1 h2 h3 => let ⟨cv, e, r⟩ := f x k b v h1 h2 h3; ⟨cv, e, RV.later L _ _ r⟩⟩
  · obtain ⟨ov, n, f⟩ := h.cells x k b c h1 h2 h3
    exact ⟨ov, n.keeps hk, fun v h4 => let ⟨cv, e, r⟩ := f v h4; ⟨cv, e, RV.later L _ _ r⟩⟩
theorem Ext.grow {own : Addr → Prop} {H : AH} {m : Mp} {s s' : Shared} (h : HR G H m s) (hk : ∀ a o, s.heap.get? a = some o → s'.heap.get? a = some o) (ho : s'.os = s.os) (hgn : s'.gens = s.gens) : Ext own H m s H m s' :=
  ⟨Nat.le_refl _, fun _ _ => rfl, fun i o e => .inl ⟨h.dom i o e, o, e⟩, fun a o e _ _ => hk a o e, fun a o _ e => hk _ _ e, ho, fun g z e => by rw [hgn]; exact e, fun a e => by
    cases q : s.heap.get? a with
    | none => rw [q] at e; cases e
    | some o => rw [hk a o q]; rfl⟩
theorem post_grow {X : Cx G} {σ : St} {m : Mp} {s s' : Shared} {K : AV → St → Prop} {v : AV} {cv : Value} (hr : HR G σ.H m s) (hf : FR X σ.ρ σ.H m s) (hk : ∀ a o, s.heap.get? a = some o → s'.heap.get? a = some o) (hg : s'.gens = s.gens) (ho : s'.os = s.os)
    (hK : K v σ) (hv : RV G.fv s'.heap m v cv) : Post X σ m s K cv s' :=
  ⟨v, σ, m, hK, .grow hr hk ho hg, hr.grow hk (by rw [hg]; exact hr.gens), hf.grow hk, hv⟩
noncomputable def Mp.put (m : Mp) (a : Addr) : Mp := ⟨fun i => if i = m.n then a else m.f i, m.n + 1⟩
theorem Mp.put_n (m : Mp) (a : Addr) : (m.put a).f m.n = a := if_pos rfl
theorem Mp.put_lt (m : Mp) (a : Addr) {i : Nat} (h : i < m.n) : (m.put a).f i = m.f i := if_neg (Nat.ne_of_lt h)
theorem post_new {X : Cx G} {σ : St} {m : Mp} {s s' : Shared} {K : AV → St → Prop} {x : AO} {a : Addr} {o : Obj} (hr : HR G σ.H m s) (hf : FR X σ.ρ σ.H m s) (hk : ∀ a o, s.heap.get? a = some o → s'.heap.get? a = some o) (hg : s'.gens = s.gens) (hos : s'.os = s.os)
    (ha : s.heap.get? a = none) (ho : s'.heap.get? a = some o) (hx : RO G s'.heap (m.put a) o x) (hK : ∀ n, σ.H n = none → K (.ref n) ⟨σ.ρ, σ.H.upd n x⟩) : Post X σ m s K (.ref a) s' := by
  have hn : σ.H m.n = none := by
    cases q : σ.H m.n with
    | none => rfl
    | some o => exact absurd (hr.dom _ _ q) (Nat.lt_irrefl _)
  have L : Later s.heap m s'.heap (m.put a) := ⟨Nat.le_succ _, fun i hi => Mp.put_lt m a hi, fun a o _ e => hk _ _ e⟩
  have hne : ∀ i o, σ.H i = some o → m.f i ≠ a := fun i o e q => by
    obtain ⟨o', h1, _⟩ := hr.obj i o e
    rw [q, ha] at h1; cases h1
  have hupd : ∀ i y, (σ.H.upd m.n x) i = some y → (i = m.n ∧ y = x) ∨ (i < m.n ∧ σ.H i = some y) := fun i y e => by
    unfold AH.upd at e
    by_cases q : i = m.n
    · rw [if_pos q] at e; exact .inl ⟨q, (Option.some.inj e).symm⟩
    · rw [if_neg q] at e; exact .inr ⟨hr.dom i y e, e⟩
  refine ⟨.ref m.n, ⟨σ.ρ, σ.H.upd m.n x⟩, m.put a, hK m.n hn, ⟨Nat.le_succ _, fun i hi => Mp.put_lt m a hi, fun i y e => ?_, fun b o' e _ _ => hk b o' e, fun b o _ e => hk _ _ e, hos, fun g z e => by rw [hg]; exact e, fun b e => ?_⟩, ⟨fun i y e => ?_, fun i j y y' e e' q => ?_, fun i y e => ?_, fun b o' e => hk b o' (hr.base b o' e), fun i y e => ?_, by rw [hg]; exact hr.gens, ⟨Nat.lt_succ_of_lt hr.zero.1, (Mp.put_lt m a hr.zero.1).trans hr.zero.2⟩⟩, ⟨?_, ?_, ?_, fun i y e => ?_, hf.old⟩, ?_⟩
  · rcases hupd i y e with ⟨rfl, rfl⟩ | ⟨hi, e'⟩
    · exact .inr ⟨Nat.le_refl _, .inl (by rw [Mp.put_n]; exact ha)⟩
    · exact .inl ⟨hi, y, e'⟩
  · cases q : s.heap.get? b with
    | none => rw [q] at e; cases e
    | some o' => rw [hk b o' q]; rfl
  · rcases hupd i y e with ⟨rfl, rfl⟩ | ⟨hi, e'⟩
    · exact Nat.lt_succ_self _
    · exact Nat.lt_succ_of_lt hi
  · rcases hupd i y e with ⟨rfl, rfl⟩ | ⟨hi, e1⟩ <;> rcases hupd j y' e' with ⟨rfl, rfl⟩ | ⟨hj, e2⟩
    · rfl
    · rw [Mp.put_n, Mp.put_lt m a hj] at q; exact absurd q.symm (hne j y' e2)
    · rw [Mp.put_n, Mp.put_lt m a hi] at q; exact absurd q (hne i y e1)
    · rw [Mp.put_lt m a hi, Mp.put_lt m a hj] at q; exact hr.inj i j y y' e1 e2 q
  · rcases hupd i y e with ⟨rfl, rfl⟩ | ⟨hi, e1⟩
    · rw [Mp.put_n]; exact ⟨o, ho, hx⟩
    · obtain ⟨o', h1, h2⟩ := hr.obj i y e1
      rw [Mp.put_lt m a hi]
      exact ⟨o', hk _ _ h1, h2.later L⟩
  · rcases hupd i y e with ⟨rfl, rfl⟩ | ⟨hi, e1⟩
    · rw [Mp.put_n]
      cases q : G.h₀.get? a with
      | none => rfl
      | some o' => rw [hr.base a o' q] at ha; cases ha
    · rw [Mp.put_lt m a hi]; exact hr.above i y e1
  · obtain ⟨mp, n, f⟩ := (hf.grow hk).ns
    obtain ⟨mp', n', f'⟩ := hf.ns
    exact ⟨mp', n'.keeps hk, fun y k b v h1 h2 h3 => let ⟨cv, e, r⟩ := f' y k b v h1 h2 h3; ⟨cv, e, RV.later L _ _ r⟩⟩
  · intro y k b c h1 h2 h3
    obtain ⟨ov, n, f⟩ := hf.cells y k b c h1 h2 h3
    exact ⟨ov, n.keeps hk, fun v h4 => let ⟨cv, e, r⟩ := f v h4; ⟨cv, e, RV.later L _ _ r⟩⟩
  · exact (hf.grow hk).clive
  · rcases hupd i y e with ⟨rfl, rfl⟩ | ⟨hi, e1⟩
    · rw [Mp.put_n]
      intro q
      have := hf.live q
      rw [ha] at this; cases this
    · rw [Mp.put_lt m a hi]; exact hf.apart i y e1
  · simp only [RV]
    exact ⟨Nat.lt_succ_self _, by rw [Mp.put_n]⟩
theorem post_turn {X : Cx G} {σ : St} {m : Mp} {s s' : Shared} {K : AV → St → Prop} {i : Nat} {y x : AO} {o : Obj} {v : AV} {cv : Value} (hr : HR G σ.H m s) (hf : FR X σ.ρ σ.H m s) (hi : σ.H i = some y) (hs : Heap.SameBut (m.f i) s.heap s'.heap) (hg : s'.gens = s.gens) (hos : s'.os = s.os)
    (ho : s'.heap.get? (m.f i) = some o) (hx : Later s.heap m s'.heap m → RO G s'.heap m o x) (hv : Later s.heap m s'.heap m → RV G.fv s'.heap m v cv) (hK : K v ⟨σ.ρ, σ.H.upd i x⟩) : Post X σ m s K cv s' := by
  obtain ⟨o0, h0, r0⟩ := hr.obj i y hi
  have htup : ∀ b o', Frozen o' → s.heap.get? b = some o' → b ≠ m.f i := fun b o' z e q => by
    rw [q, h0] at e; cases e; exact RO.noTup z r0
  have L : Later s.heap m s'.heap m := ⟨Nat.le_refl _, fun _ _ => rfl, fun b o' z e => (hs.2 b (htup b o' z e)).trans e⟩
  have hin : i < m.n := hr.dom i y hi
  have hupd : ∀ j z, (σ.H.upd i x) j = some z → (j = i ∧ z = x) ∨ (j ≠ i ∧ σ.H j = some z) := fun j z e => by
    unfold AH.upd at e
    by_cases q : j = i
    · rw [if_pos q] at e; exact .inl ⟨q, (Option.some.inj e).symm⟩
    · rw [if_neg q] at e; exact .inr ⟨q, e⟩
  have hL : X.env.locals ≠ m.f i := fun q => hf.apart i y hi (.inl q.symm)
  have hc : ∀ z k b c, X.res z = some (.loc k b) → X.env.cells.lookup z = some c → c ≠ m.f i := fun z k b c hz e q => hf.apart i y hi (.inr ⟨z, k, b, hz, q ▸ e⟩)
  refine ⟨v, ⟨σ.ρ, σ.H.upd i x⟩, m, hK, ⟨Nat.le_refl _, fun _ _ => rfl, fun j z e => ?_, fun b o' e hn _ => (hs.2 b (fun q => hn i y hi q.symm)).trans e, L.tup, hos, fun g z e => by rw [hg]; exact e, fun b e => ?_⟩, ⟨fun j z e => ?_, fun j k z z' e e' q => ?_, fun j z e => ?_, fun b o' e => ?_, fun j z e => ?_, by rw [hg]; exact hr.gens, hr.zero⟩, ⟨?_, ?_, ?_, fun j z e => ?_, hf.old⟩, hv L⟩
  · rcases hupd j z e with ⟨rfl, rfl⟩ | ⟨_, e'⟩
    · exact .inl ⟨hin, y, hi⟩
    · exact .inl ⟨hr.dom j z e', z, e'⟩
  · by_cases q : b = m.f i
    · rw [q, ho]; rfl
    · rw [hs.2 b q]; exact e
  · rcases hupd j z e with ⟨rfl, rfl⟩ | ⟨_, e'⟩
    · exact hin
    · exact hr.dom j z e'
  · have g : ∀ {j z}, (σ.H.upd i x) j = some z → ∃ z', σ.H j = some z' := fun {j z} e => by
      rcases hupd j z e with ⟨rfl, rfl⟩ | ⟨_, e'⟩
      · exact ⟨y, hi⟩
      · exact ⟨z, e'⟩
    obtain ⟨z1, e1⟩ := g e
    obtain ⟨z2, e2⟩ := g e'
    exact hr.inj j k z1 z2 e1 e2 q
  · rcases hupd j z e with ⟨rfl, rfl⟩ | ⟨hne, e'⟩
    · exact ⟨o, ho, hx L⟩
    · obtain ⟨o', h1, h2⟩ := hr.obj j z e'
      have : m.f j ≠ m.f i := fun q => hne (hr.inj j i z y e' hi q)
      exact ⟨o', (hs.2 _ this).trans h1, h2.later L⟩
  · have : b ≠ m.f i := fun q => by
      have := hr.above i y hi
      rw [← q, e] at this; cases this
    exact (hs.2 b this).trans (hr.base b o' e)
  · rcases hupd j z e with ⟨rfl, rfl⟩ | ⟨_, e'⟩
    · exact hr.above _ y hi
    · exact hr.above j z e'
  · obtain ⟨mp, n, f⟩ := hf.ns
    exact ⟨mp, n.sameBut hs hL, fun z k b v h1 h2 h3 => let ⟨cv, e, r⟩ := f z k b v h1 h2 h3; ⟨cv, e, RV.later L _ _ r⟩⟩
  · intro z k b c h1 h2 h3
    obtain ⟨ov, n, f⟩ := hf.cells z k b c h1 h2 h3
    exact ⟨ov, n.sameBut hs (hc z k b c h1 h3), fun v h4 => let ⟨cv, e, r⟩ := f v h4; ⟨cv, e, RV.later L _ _ r⟩⟩
  · intro z k b c hz e
    obtain ⟨ov, n⟩ := hf.clive z k b c hz e
    exact ⟨ov, n.sameBut hs (hc z k b c hz e)⟩
  · rcases hupd j z e with ⟨rfl, rfl⟩ | ⟨_, e'⟩
    · exact hf.apart _ y hi
    · exact hf.apart j z e'
theorem own_turn {X : Cx G} {ρ : List (Option AV)} {H : AH} {m : Mp} {s s' : Shared} {a : Addr} {o : Obj} (hr : HR G H m s) (hf : FR X ρ H m s) (ha : X.own a) (h0 : s.heap.get? a = some o) (hnt : ¬ Frozen o) (hs : Heap.SameBut a s.heap s'.heap) (hl : (s'.heap.get? a).isSome = true) (hg : s'.gens = s.gens) (hos : s'.os = s.os) :
    Later s.heap m s'.heap m ∧ HR G H m s' ∧ Ext X.own H m s H m s' := by
  have L : Later s.heap m s'.heap m := ⟨Nat.le_refl _, fun _ _ => rfl, fun b o' z e => (hs.2 b (fun q => hnt (by rw [q, h0] at e; exact Option.some.inj e ▸ z))).trans e⟩
  have hm : ∀ i y, H i = some y → m.f i ≠ a := fun i y e q => hf.apart i y e (q ▸ Cx.own_resv ha)
  refine ⟨L, ⟨hr.dom, hr.inj, fun i y e => ?_, fun b o' e => ?_, hr.above, by rw [hg]; exact hr.gens, hr.zero⟩, ⟨Nat.le_refl _, fun _ _ => rfl, fun i o e => .inl ⟨hr.dom i o e, o, e⟩, fun b o' e _ hno => (hs.2 b (fun q => hno (q ▸ ha))).trans e, L.tup, hos, fun g z e => by rw [hg]; exact e, fun b e => ?_⟩⟩
  · obtain ⟨o', h1, h2⟩ := hr.obj i y e
    exact ⟨o', (hs.2 _ (hm i y e)).trans h1, h2.later L⟩
  · have : b ≠ a := fun q => by
      have := hf.old a ha
      rw [← q, e] at this; cases this
    exact (hs.2 b this).trans (hr.base b o' e)
  · by_cases q : b = a
    · rw [q]; exact hl
    · rw [hs.2 b q]; exact e
theorem getset_ne {ρ : List (Option AV)} {k j : Nat} {v : Option AV} (h : j ≠ k) : (ρ.set k v)[j]? = ρ[j]? := List.getElem?_set_ne (Ne.symm h)
theorem store_any {X : Cx G} {A : Around} {σ : St} {m : Mp} {s : Shared} {x : Str} {k : Nat} {v : AV} {cv : Value} (hr : HR G σ.H m s) (hf : FR X σ.ρ σ.H m s) (hx : X.res x = some (.loc k true)) (hv : RV G.fv s.heap m v cv) :
    wpAny (model G.prog G.w) A (storeName X.env x cv) (fun _ s' => Ext X.own σ.H m s σ.H m s' ∧ HR G σ.H m s' ∧ FR X (σ.ρ.set k (some v)) σ.H m s') NoE s := by
  obtain ⟨_, _, hk⟩ := X.loc x k true hx
  rcases hk with ⟨_, hk⟩ | ⟨hk, c, hc⟩
  · obtain ⟨mp, hn, hm⟩ := hf.ns
    refine wpAny_storeName_local hk hn (fun h' hn' hs => ?_) (by rw [X.kind]; rfl)
    obtain ⟨o, es, ep, ho, hd, _⟩ := id hn
    obtain ⟨o', es', ep', ho', hd', _⟩ := id hn'
    have ⟨L, hr', he⟩ := own_turn (s' := { s with heap := h', toks := s.toks + 1 }) hr hf (.inl rfl) ho (fun z => by cases z <;> cases hd) hs (by show (h'.get? _).isSome = true; rw [ho']; rfl) rfl rfl
    refine ⟨he, hr', ⟨⟨_, hn', fun y j b u h1 h2 h3 => ?_⟩, fun y j b c h1 h2 h3 => ?_, fun y j b c hy e => ?_, hf.apart, hf.old⟩⟩
    · by_cases q : y = x
      · subst q
        rw [hx] at h1; cases h1
        rw [if_pos rfl]
        by_cases hlt : k < σ.ρ.length
        · rw [List.getElem?_set_self hlt] at h3
          cases h3
          exact ⟨cv, rfl, RV.later L _ _ hv⟩
        · rw [List.getElem?_eq_none (by rw [List.length_set]; omega)] at h3; cases h3
      · have hj : j ≠ k := fun e => q (X.inj y x k b true (e ▸ h1) hx)
        rw [getset_ne hj] at h3
        rw [if_neg q]
        obtain ⟨cu, e, r⟩ := hm y j b u h1 h2 h3
        exact ⟨cu, e, RV.later L _ _ r⟩
    · have hj : j ≠ k := fun e => by
        have := X.inj y x k b true (e ▸ h1) hx
        rw [this] at h2; exact h2 hk
      obtain ⟨ov, n, f⟩ := hf.cells y j b c h1 h2 h3
      refine ⟨ov, n.sameBut hs (X.cL y c h3), fun u h4 => ?_⟩
      rw [getset_ne hj] at h4
      obtain ⟨cu, e, r⟩ := f u h4
      exact ⟨cu, e, RV.later L _ _ r⟩
    · obtain ⟨ov, n⟩ := hf.clive y j b c hy e
      exact ⟨ov, n.sameBut hs (X.cL y c e)⟩
  · have hk : X.env.kindOf x = some .cell := by
      rcases hk with hk | ⟨q, _⟩
      · exact hk
      · cases q
    obtain ⟨ov, hcell⟩ := hf.clive x k true c hx hc
    refine wpAny_storeName_cell X.kind hk hc hcell (fun h' hn' hs => ?_)
    obtain ⟨o, ho, hd⟩ := id hcell
    obtain ⟨o', ho', hd'⟩ := id hn'
    have ⟨L, hr', he⟩ := own_turn (s' := { s with heap := h' }) hr hf (.inr ⟨x, k, hx, hc⟩) ho (fun z => by cases z <;> cases hd) hs (by show (h'.get? _).isSome = true; rw [ho']; rfl) rfl rfl
    refine ⟨he, hr', ⟨?_, fun y j b c' h1 h2 h3 => ?_, fun y j b c' hy e => ?_, hf.apart, hf.old⟩⟩
    · obtain ⟨mp, hn, hm⟩ := hf.ns
      refine ⟨mp, hn.sameBut hs (Ne.symm (X.cL x c hc)), fun y j b u h1 h2 h3 => ?_⟩
      have hj : j ≠ k := fun e => by
        have := X.inj y x k b true (e ▸ h1) hx
        rw [this, hk] at h2; cases h2
      rw [getset_ne hj] at h3
      obtain ⟨cu, e, r⟩ := hm y j b u h1 h2 h3
      exact ⟨cu, e, RV.later L _ _ r⟩
    · by_cases q : y = x
      · subst q
        rw [hx] at h1; cases h1
        rw [hc] at h3; cases h3
        refine ⟨some cv, hn', fun u h4 => ?_⟩
        by_cases hlt : k < σ.ρ.length
        · rw [List.getElem?_set_self hlt] at h4
          cases h4
          exact ⟨cv, rfl, RV.later L _ _ hv⟩
        · rw [List.getElem?_eq_none (by rw [List.length_set]; omega)] at h4; cases h4
      · have hj : j ≠ k := fun e => q (X.inj y x k b true (e ▸ h1) hx)
        have hcc : c' ≠ c := fun e => q (X.cinj y x c (e ▸ h3) hc)
        obtain ⟨ov', n, f⟩ := hf.cells y j b c' h1 h2 h3
        refine ⟨ov', n.sameBut hs hcc, fun u h4 => ?_⟩
        rw [getset_ne hj] at h4
        obtain ⟨cu, e, r⟩ := f u h4
        exact ⟨cu, e, RV.later L _ _ r⟩
    · by_cases q : c' = c
      · exact ⟨some cv, q ▸ hn'⟩
      · obtain ⟨ov', n⟩ := hf.clive y j b c' hy e
        exact ⟨ov', n.sameBut hs q⟩
theorem load_any {X : Cx G} {A : Around} {σ : St} {m : Mp} {s : Shared} {x : Str} {k : Nat} {b : Bool} {v : AV} {Q : Value → Shared → Prop} (hf : FR X σ.ρ σ.H m s) (hx : X.res x = some (.loc k b)) (hv : σ.ρ[k]? = some (some v)) (h : ∀ cv, RV G.fv s.heap m v cv → Q cv s) :
    wpAny (model G.prog G.w) A (loadName X.env x) Q NoE s := by
  obtain ⟨_, hcd, hk⟩ := X.loc x k b hx
  rcases hk with ⟨_, hk⟩ | ⟨hk, c, hc⟩
  · obtain ⟨mp, hn, hm⟩ := hf.ns
    obtain ⟨cv, e, r⟩ := hm x k b v hx hk hv
    exact wpAny_loadName_local X.kind hk hn e (h cv r)
  · have hnl : X.env.kindOf x ≠ some .local := by
      rcases hk with hk | ⟨_, hk⟩ <;> rw [hk] <;> intro q <;> cases q
    obtain ⟨ov, n, f⟩ := hf.cells x k b c hx hnl hc
    obtain ⟨cv, rfl, r⟩ := f v hv
    rcases hk with hk | ⟨_, hk⟩
    · exact wpAny_loadName_cell X.kind hk hc n (h cv r)
    · exact wpAny_loadName_free X.kind hk hc n (h cv r) hcd
theorem glob_any {X : Cx G} {A : Around} {H : AH} {m : Mp} {s : Shared} {x : Str} {k : Nat} {Q : Value → Shared → Prop} (hr : HR G H m s) (hx : X.res x = some (.glob k)) (h : Q (G.fv k) s) :
    wpAny (model G.prog G.w) A (loadName X.env x) Q NoE s := by
  obtain ⟨_, hk, hg⟩ := X.glob x k hx
  unfold loadName
  simp only [Env.blockKind, X.kind, hk, ScopeKind.isAnnotationScope, Bool.false_and, Bool.false_eq_true, if_false]
  have hgl : s.heap.Ns X.env.globals G.mg := by rw [X.globals]; exact G.hg.keeps hr.base
  rcases hg with hg | ⟨hg, hb⟩
  · exact loadGlobal_global hgl hg h
  · exact loadGlobal_builtin hgl hg (by rw [X.builtins]; exact G.hb.keeps hr.base) hb h
end Mine
end Pa11
section Pa12
set_option compiler.extract_closed false
open PySem PySem.W PySem.Calls PyProof.Rows
set_option maxRecDepth 100000
set_option linter.unusedVariables false
namespace Mine
variable {G : Gx} {X : Cx G} {r : Nat} {σ : St}
noncomputable def EG {α β : Type} (rel : Heap → Mp → α → β → Prop) (X : Cx G) (r : Nat) (t : Sem β) (σ : St) (K : α → St → Prop) : Prop :=
  ∀ A m s, OkA r A → HR G σ.H m s → FR X σ.ρ σ.H m s → wpAny (model G.prog G.w) A t (PostG rel X σ m s K) NoE s
inductive AF where
  | next | brk | cont | ret (v : AV)
noncomputable def RFl (fv : Nat → Value) (h : Heap) (m : Mp) : AF → Flow → Prop
  | .next, f => f = .next
  | .brk, f => f = .brk
  | .cont, f => f = .cont
  | .ret v, f => ∃ cv, f = .ret cv ∧ RV fv h m v cv
noncomputable abbrev relU : Heap → Mp → Unit → Unit → Prop := fun _ _ _ _ => True
noncomputable abbrev relB : Heap → Mp → Bool → Bool → Prop := fun _ _ a b => a = b
noncomputable abbrev ET (X : Cx G) (r : Nat) (e : PySem.Expr) (σ : St) (K : Bool → St → Prop) : Prop := EG relB X r (isTrue e X.env (eval e X.env)) σ K
noncomputable abbrev ES (X : Cx G) (r : Nat) (t : Sem Flow) (σ : St) (K : AF → St → Prop) : Prop := EG (RFl G.fv) X r t σ K
noncomputable abbrev EL (X : Cx G) (r : Nat) (t : Sem (List Value)) (σ : St) (K : List AV → St → Prop) : Prop := EG (RVs G.fv) X r t σ K
theorem PostG.trans {α β : Type} {rel : Heap → Mp → α → β → Prop} {σ σ1 : St} {m m1 : Mp} {s s1 : Shared} {K : α → St → Prop} {c : β} {s' : Shared} (e : Ext X.own σ.H m s σ1.H m1 s1) : PostG rel X σ1 m1 s1 K c s' → PostG rel X σ m s K c s'
  | ⟨v, σ', m', hK, hE, hR, hF, hv⟩ => ⟨v, σ', m', hK, e.trans hE, hR, hF, hv⟩
theorem EV_eq {t : Sem Value} {K : AV → St → Prop} : EV X r t σ K = EG (RV G.fv) X r t σ K := rfl
theorem EG.mono {α β : Type} {rel : Heap → Mp → α → β → Prop} {t : Sem β} {K K' : α → St → Prop} (h : EG rel X r t σ K) (hK : ∀ a σ', K a σ' → K' a σ') : EG rel X r t σ K' := fun A m s hA hr hf =>
  wpAny_mono (h A m s hA hr hf) (fun c s' q1x => by obtain ⟨a, σ', m', k, x1, x2, x3, x4⟩ := q1x; exact ⟨a, σ', m', hK _ _ k, x1, x2, x3, x4⟩) fun _ _ x => x
theorem EG.bind {α β γ δ : Type} {rel : Heap → Mp → α → β → Prop} {rel' : Heap → Mp → γ → δ → Prop} {t : Sem β} {f : β → Sem δ} {K : γ → St → Prop}
    (h : EG rel X r t σ fun a σ1 => ∀ A m1 s1 c, OkA r A → HR G σ1.H m1 s1 → FR X σ1.ρ σ1.H m1 s1 → rel s1.heap m1 a c → wpAny (model G.prog G.w) A (f c) (PostG rel' X σ1 m1 s1 K) NoE s1) : EG rel' X r (t >>= f) σ K := fun A m s hA hr hf =>
  wpAny_bind (wpAny_mono (h A m s hA hr hf) (fun c s1 q2x => by obtain ⟨a, σ1, m1, k, e1, hr1, hf1, hc⟩ := q2x; exact wpAny_mono (k A m1 s1 c hA hr1 hf1 hc) (fun d s2 p => p.trans e1) fun _ _ x => x) fun _ _ x => x)
theorem EV.int {i : Int} {k : Nat} {pos : Pos} {K : AV → St → Prop} (h : K (.int i) σ) : EV X r (eval (.Constant (.int i) k pos) X.env) σ K := fun A m s hA hr hf =>
  wpAny_Constant_int (post_pure hr hf h (by simp only [RV]; exact ⟨_, rfl⟩))
theorem EV.str {x : Str} {k : Nat} {pos : Pos} {K : AV → St → Prop} (h : K (.str x) σ) : EV X r (eval (.Constant (.str x) k pos) X.env) σ K := fun A m s hA hr hf =>
  Constant_str (post_pure hr hf h (by simp only [RV]; exact ⟨_, rfl⟩))
theorem EV.none {k : Nat} {pos : Pos} {K : AV → St → Prop} (h : K .none σ) : EV X r (eval (.Constant .none k pos) X.env) σ K := fun A m s hA hr hf =>
  wpAny_Constant_none (post_pure (t := s.toks) hr hf h (by simp only [RV]))
theorem EV.bool {b : Bool} {k : Nat} {pos : Pos} {K : AV → St → Prop} (h : K (.bool b) σ) : EV X r (eval (.Constant (.bool b) k pos) X.env) σ K := fun A m s hA hr hf =>
  wpAny_Constant_bool (post_pure (t := s.toks) hr hf h (by simp only [RV]))
theorem EV.loc {x : Str} {pos : Pos} {k : Nat} {b : Bool} {v : AV} {K : AV → St → Prop} (hx : X.res x = some (.loc k b)) (hv : σ.ρ[k]? = some (some v)) (h : K v σ) : EV X r (eval (.Name x pos) X.env) σ K := fun A m s hA hr hf =>
  wpAny_Name (load_any hf hx hv fun cv hc => post_pure (t := s.toks) hr hf h hc) (X.loc x k b hx).1
theorem EV.glob {x : Str} {pos : Pos} {k : Nat} {K : AV → St → Prop} (hx : X.res x = some (.glob k)) (h : K (.fn k) σ) : EV X r (eval (.Name x pos) X.env) σ K := fun A m s hA hr hf =>
  wpAny_Name (glob_any hr hx (post_pure (t := s.toks) hr hf h (by simp only [RV]))) (X.glob x k hx).1
noncomputable def P2 (X : Cx G) (r : Nat) (f : Value → Value → Sem Value) (a b : AV) (σ : St) (K : AV → St → Prop) : Prop :=
  ∀ A m s ca cb, OkA r A → HR G σ.H m s → FR X σ.ρ σ.H m s → RV G.fv s.heap m a ca → RV G.fv s.heap m b cb → wpAny (model G.prog G.w) A (f ca cb) (Post X σ m s K) NoE s
theorem EV.two {f : Value → Value → Sem Value} {l e : PySem.Expr} {K : AV → St → Prop} {A : Around} {m : Mp} {s : Shared} (hA : OkA r A) (hr : HR G σ.H m s) (hf : FR X σ.ρ σ.H m s)
    (h : EV X r (eval l X.env) σ fun a σ1 => EV X r (eval e X.env) σ1 fun b σ2 => P2 X r f a b σ2 K) :
    wpAny (model G.prog G.w) A (eval l X.env) (fun a s₁ => wpAny (model G.prog G.w) A (eval e X.env) (fun b s₂ => wpAny (model G.prog G.w) A (f a b) (Post X σ m s K) NoE s₂) NoE s₁) NoE s :=
  wpAny_mono (h A m s hA hr hf) (fun ca s1 ⟨a, σ1, m1, k1, e1, hr1, hf1, ha⟩ =>
    wpAny_mono (k1 A m1 s1 hA hr1 hf1) (fun cb s2 ⟨b, σ2, m2, k2, e2, hr2, hf2, hb⟩ =>
      wpAny_mono (k2 A m2 s2 ca cb hA hr2 hf2 (RV.later e2.later _ _ ha) hb) (fun c s3 p => (p.trans e2).trans e1) fun _ _ x => x) fun _ _ x => x) fun _ _ x => x
theorem EV.binop {l e : PySem.Expr} {op : Operator} {pos : Pos} {K : AV → St → Prop} (h : EV X r (eval l X.env) σ fun a σ1 => EV X r (eval e X.env) σ1 fun b σ2 => P2 X r (binaryOp op) a b σ2 K) :
    EV X r (eval (.BinOp l op e pos) X.env) σ K := fun A m s hA hr hf => wpAny_BinOp (EV.two hA hr hf h)
theorem EV.cmp {l e : PySem.Expr} {op : CmpOp} {pos : Pos} {K : AV → St → Prop} (h : EV X r (eval l X.env) σ fun a σ1 => EV X r (eval e X.env) σ1 fun b σ2 => P2 X r (compareOp op) a b σ2 K) (hm : behindInMarks op e = false) :
    EV X r (eval (.Compare l [op] [e] pos) X.env) σ K := fun A m s hA hr hf => wpAny_Compare1 (EV.two hA hr hf h) hm
theorem P2.bool {f : Value → Value → Sem Value} {a b : AV} {c : Bool} {K : AV → St → Prop} (h : P2 X r f a b σ fun v σ' => v = .bool c ∧ σ' = σ) (hK : K (.bool c) σ) : P2 X r f a b σ K := fun A m s ca cb hA hr hf ha hb =>
  wpAny_mono (h A m s ca cb hA hr hf ha hb) (fun cv s' q3x => by obtain ⟨v, σ', m', ⟨e1, e2⟩, x1, x2, x3, x4⟩ := q3x; exact ⟨v, σ', m', e1 ▸ e2 ▸ hK, x1, x2, x3, x4⟩) fun _ _ x => x
section
variable {i j : Int} {K : AV → St → Prop}
theorem inv_int {h : Heap} {m : Mp} {v : Value} (e : RV G.fv h m (.int i) v) : ∃ t, v = .int i t := by simpa only [RV] using e
theorem inv_str {h : Heap} {m : Mp} {x : Str} {v : Value} (e : RV G.fv h m (.str x) v) : ∃ t, v = .str x t := by simpa only [RV] using e
theorem inv_bool {h : Heap} {m : Mp} {b : Bool} {v : Value} (e : RV G.fv h m (.bool b) v) : v = .bool b := by simpa only [RV] using e
theorem inv_none {h : Heap} {m : Mp} {v : Value} (e : RV G.fv h m .none v) : v = .none := by simpa only [RV] using e
theorem inv_ref {h : Heap} {m : Mp} {n : Nat} {v : Value} (e : RV G.fv h m (.ref n) v) : n < m.n ∧ v = .ref (m.f n) := by simpa only [RV] using e
theorem inv_fn {h : Heap} {m : Mp} {n : Nat} {v : Value} (e : RV G.fv h m (.fn n) v) : v = G.fv n := by simpa only [RV] using e
theorem rv_int {h : Heap} {m : Mp} (t : Tok) : RV G.fv h m (.int i) (.int i t) := by simp only [RV]; exact ⟨t, rfl⟩
theorem rv_str {h : Heap} {m : Mp} {x : Str} (t : Tok) : RV G.fv h m (.str x) (.str x t) := by simp only [RV]; exact ⟨t, rfl⟩
theorem rv_bool {h : Heap} {m : Mp} {b : Bool} : RV G.fv h m (.bool b) (.bool b) := by simp only [RV]
theorem rv_none {h : Heap} {m : Mp} : RV G.fv h m .none .none := by simp only [RV]
theorem rv_ref {h : Heap} {m : Mp} {n : Nat} (hn : n < m.n) : RV G.fv h m (.ref n) (.ref (m.f n)) := by simp only [RV]; exact ⟨hn, trivial⟩
theorem P2.add (h : K (.int (i + j)) σ) : P2 X r (binaryOp .Add) (.int i) (.int j) σ K := fun A m s ca cb hA hr hf ha hb => by
  obtain ⟨t, rfl⟩ := inv_int ha; obtain ⟨u, rfl⟩ := inv_int hb
  exact PyProof.Rows.add_int (post_pure hr hf h (rv_int _))
theorem P2.sub (h : K (.int (i - j)) σ) : P2 X r (binaryOp .Sub) (.int i) (.int j) σ K := fun A m s ca cb hA hr hf ha hb => by
  obtain ⟨t, rfl⟩ := inv_int ha; obtain ⟨u, rfl⟩ := inv_int hb
  exact PyProof.Rows.sub_int (post_pure hr hf h (rv_int _))
theorem P2.mul (h : K (.int (i * j)) σ) (ho : PySem.IntMulOk i j) : P2 X r (binaryOp .Mult) (.int i) (.int j) σ K := fun A m s ca cb hA hr hf ha hb => by
  obtain ⟨t, rfl⟩ := inv_int ha; obtain ⟨u, rfl⟩ := inv_int hb
  exact PyProof.Rows.mul_int (post_pure hr hf h (rv_int _)) ho
theorem P2.mod (hj : j ≠ 0) (h : K (.int (i.fmod j)) σ) : P2 X r (binaryOp .Mod) (.int i) (.int j) σ K := fun A m s ca cb hA hr hf ha hb => by
  obtain ⟨t, rfl⟩ := inv_int ha; obtain ⟨u, rfl⟩ := inv_int hb
  exact PyProof.Rows.mod_int' hj (post_pure hr hf h (rv_int _))
theorem P2.fdiv (hj : j ≠ 0) (hp : Builtin.divisionGoesByPylong i j = false) (h : K (.int (i.fdiv j)) σ) : P2 X r (binaryOp .FloorDiv) (.int i) (.int j) σ K := fun A m s ca cb hA hr hf ha hb => by
  obtain ⟨t, rfl⟩ := inv_int ha; obtain ⟨u, rfl⟩ := inv_int hb
  exact PyProof.Rows.floordiv_int hj (post_pure hr hf h (rv_int _)) (.inl hp)
theorem P2.pow (hn : 0 ≤ j) (hsz : (Builtin.Int.intBits i : Int) * j ≤ 2 ^ 27) (h : K (.int (i ^ j.toNat)) σ) : P2 X r (binaryOp .Pow) (.int i) (.int j) σ K := fun A m s ca cb hA hr hf ha hb => by
  obtain ⟨t, rfl⟩ := inv_int ha; obtain ⟨u, rfl⟩ := inv_int hb
  exact PyProof.Rows.pow_int hn hsz (post_pure hr hf h (rv_int _))
end
end Mine
end Pa12
section Pa13
set_option compiler.extract_closed false
open PySem PySem.W PySem.Calls PyProof.Rows
set_option maxRecDepth 100000
set_option linter.unusedVariables false
namespace Mine
variable {G : Gx} {X : Cx G} {r : Nat} {σ : St} {K : AV → St → Prop}
section
variable {i j : Int} {x y : Str}
theorem P2.eqI (h : K (.bool (i == j)) σ) : P2 X r (compareOp .Eq) (.int i) (.int j) σ K := fun A m s ca cb hA hr hf ha hb => by
  obtain ⟨t, rfl⟩ := inv_int ha; obtain ⟨u, rfl⟩ := inv_int hb
  exact PyProof.Rows.eq_int (post_pure (t := s.toks) hr hf h rv_bool)
theorem P2.neI (h : K (.bool (i != j)) σ) : P2 X r (compareOp .NotEq) (.int i) (.int j) σ K := fun A m s ca cb hA hr hf ha hb => by
  obtain ⟨t, rfl⟩ := inv_int ha; obtain ⟨u, rfl⟩ := inv_int hb
  exact PyProof.Rows.ne_int (post_pure (t := s.toks) hr hf h rv_bool)
theorem P2.ltI (h : K (.bool (decide (i < j))) σ) : P2 X r (compareOp .Lt) (.int i) (.int j) σ K := fun A m s ca cb hA hr hf ha hb => by
  obtain ⟨t, rfl⟩ := inv_int ha; obtain ⟨u, rfl⟩ := inv_int hb
  exact PyProof.Rows.lt_int (post_pure (t := s.toks) hr hf h rv_bool)
theorem P2.leI (h : K (.bool (decide (i ≤ j))) σ) : P2 X r (compareOp .LtE) (.int i) (.int j) σ K := fun A m s ca cb hA hr hf ha hb => by
  obtain ⟨t, rfl⟩ := inv_int ha; obtain ⟨u, rfl⟩ := inv_int hb
  exact PyProof.Rows.le_int (post_pure (t := s.toks) hr hf h rv_bool)
theorem P2.gtI (h : K (.bool (decide (j < i))) σ) : P2 X r (compareOp .Gt) (.int i) (.int j) σ K := fun A m s ca cb hA hr hf ha hb => by
  obtain ⟨t, rfl⟩ := inv_int ha; obtain ⟨u, rfl⟩ := inv_int hb
  exact PyProof.Rows.gt_int (post_pure (t := s.toks) hr hf h rv_bool)
theorem P2.geI (h : K (.bool (decide (j ≤ i))) σ) : P2 X r (compareOp .GtE) (.int i) (.int j) σ K := fun A m s ca cb hA hr hf ha hb => by
  obtain ⟨t, rfl⟩ := inv_int ha; obtain ⟨u, rfl⟩ := inv_int hb
  exact PyProof.Rows.ge_int (post_pure (t := s.toks) hr hf h rv_bool)
theorem P2.eqS (h : K (.bool (x == y)) σ) : P2 X r (compareOp .Eq) (.str x) (.str y) σ K := fun A m s ca cb hA hr hf ha hb => by
  obtain ⟨t, rfl⟩ := inv_str ha; obtain ⟨u, rfl⟩ := inv_str hb
  exact PyProof.Rows.eq_str (post_pure (t := s.toks) hr hf h rv_bool)
theorem P2.neS (h : K (.bool (x != y)) σ) : P2 X r (compareOp .NotEq) (.str x) (.str y) σ K := fun A m s ca cb hA hr hf ha hb => by
  obtain ⟨t, rfl⟩ := inv_str ha; obtain ⟨u, rfl⟩ := inv_str hb
  exact PyProof.Rows.ne_str (post_pure (t := s.toks) hr hf h rv_bool)
theorem P2.ltS (h : K (.bool (x.cps.toList < y.cps.toList)) σ) : P2 X r (compareOp .Lt) (.str x) (.str y) σ K := fun A m s ca cb hA hr hf ha hb => by
  obtain ⟨t, rfl⟩ := inv_str ha; obtain ⟨u, rfl⟩ := inv_str hb
  exact PySem.P.lt_str (post_pure (t := s.toks) hr hf h rv_bool)
theorem P2.gtS (h : K (.bool (y.cps.toList < x.cps.toList)) σ) : P2 X r (compareOp .Gt) (.str x) (.str y) σ K := fun A m s ca cb hA hr hf ha hb => by
  obtain ⟨t, rfl⟩ := inv_str ha; obtain ⟨u, rfl⟩ := inv_str hb
  exact PySem.P.gt_str (post_pure (t := s.toks) hr hf h rv_bool)
theorem P2.addS (hsz : x.length + y.length ≤ sizeLine) (h : K (.str (x ++ y)) σ) : P2 X r (binaryOp .Add) (.str x) (.str y) σ K := fun A m s ca cb hA hr hf ha hb => by
  obtain ⟨t, rfl⟩ := inv_str ha; obtain ⟨u, rfl⟩ := inv_str hb
  exact PyProof.Rows.add_str (fun t' tk => post_pure hr hf h (rv_str _)) hsz
theorem P2.iaddS (hsz : x.length + y.length ≤ sizeLine) (h : K (.str (x ++ y)) σ) : P2 X r (inplaceOp .Add) (.str x) (.str y) σ K := fun A m s ca cb hA hr hf ha hb => by
  obtain ⟨t, rfl⟩ := inv_str ha; obtain ⟨u, rfl⟩ := inv_str hb
  exact PyProof.Rows.iadd_str (fun t' tk => post_pure hr hf h (rv_str _)) hsz
theorem P2.subB {p q : Bool} (h : K (.int (b2i p - b2i q)) σ) : P2 X r (binaryOp .Sub) (.bool p) (.bool q) σ K := fun A m s ca cb hA hr hf ha hb => by
  rw [inv_bool ha, inv_bool hb]
  exact PyProof.Rows.sub_bool (post_pure hr hf h (rv_int _))
theorem P2.isNone (h : K (.bool true) σ) : P2 X r (compareOp .Is) .none .none σ K := fun A m s ca cb hA hr hf ha hb => by
  rw [inv_none ha, inv_none hb]
  exact PySem.is_none (post_pure (t := s.toks) hr hf h rv_bool)
theorem P2.isNoneS (h : K (.bool false) σ) : P2 X r (compareOp .Is) (.str x) .none σ K := fun A m s ca cb hA hr hf ha hb => by
  obtain ⟨t, rfl⟩ := inv_str ha; rw [inv_none hb]
  exact PySem.is_none (post_pure (t := s.toks) hr hf h rv_bool)
theorem P2.isNotNone (h : K (.bool false) σ) : P2 X r (compareOp .IsNot) .none .none σ K := fun A m s ca cb hA hr hf ha hb => by
  rw [inv_none ha, inv_none hb]
  exact PySem.isNot_none (post_pure (t := s.toks) hr hf h rv_bool)
theorem P2.isNotNoneS (h : K (.bool true) σ) : P2 X r (compareOp .IsNot) (.str x) .none σ K := fun A m s ca cb hA hr hf ha hb => by
  obtain ⟨t, rfl⟩ := inv_str ha; rw [inv_none hb]
  exact PySem.isNot_none (post_pure (t := s.toks) hr hf h rv_bool)
theorem EV.neg {e : PySem.Expr} {pos : Pos} (h : EV X r (eval e X.env) σ fun a σ1 => ∃ i, a = .int i ∧ K (.int (-i)) σ1) : EV X r (eval (.UnaryOp .USub e pos) X.env) σ K := fun A m s hA hr hf =>
  wpAny_UnaryOp (wpAny_mono (h A m s hA hr hf) (fun ca s1 ⟨a, σ1, m1, ⟨i, ea, k⟩, e1, hr1, hf1, hc⟩ => by
    subst ea
    obtain ⟨t, rfl⟩ := inv_int hc
    exact PyProof.Rows.neg_int (Post.trans e1 (post_pure hr1 hf1 k (rv_int _)))) fun _ _ x => x)
theorem EV.ife {t a b : PySem.Expr} {pos : Pos} (h : ET X r t σ fun c σ1 => (c = true → EV X r (eval a X.env) σ1 K) ∧ (c = false → EV X r (eval b X.env) σ1 K)) : EV X r (eval (.IfExp t a b pos) X.env) σ K := fun A m s hA hr hf =>
  wpAny_IfExp (wpAny_mono (h A m s hA hr hf) (fun c s1 ⟨a', σ1, m1, k, e1, hr1, hf1, hc⟩ => by
    subst hc
    cases a' with
    | true => exact wpAny_mono (k.1 rfl A m1 s1 hA hr1 hf1) (fun _ _ p => p.trans e1) fun _ _ x => x
    | false => exact wpAny_mono (k.2 rfl A m1 s1 hA hr1 hf1) (fun _ _ p => p.trans e1) fun _ _ x => x) fun _ _ x => x)
end
section
variable {KB : Bool → St → Prop} {e e' : PySem.Expr} {pos : Pos}
theorem postB {m : Mp} {s : Shared} {b : Bool} {t : Nat} (hr : HR G σ.H m s) (hf : FR X σ.ρ σ.H m s) (hK : KB b σ) : PostG relB X σ m s KB b { s with toks := t } := by
  obtain ⟨v, σ', m', hK', x1, x2, x3, x4⟩ := post_pure (X := X) (K := fun v σ' => σ' = σ) (v := .bool b) (t := t) hr hf rfl (cv := .bool b) rv_bool
  subst hK'
  exact ⟨b, σ', m', hK, x1, x2, x3, rfl⟩
noncomputable def TR (X : Cx G) (r : Nat) (a : AV) (σ : St) (KB : Bool → St → Prop) : Prop :=
  ∀ A m s ca, OkA r A → HR G σ.H m s → FR X σ.ρ σ.H m s → RV G.fv s.heap m a ca → wpAny (model G.prog G.w) A (truthy ca) (PostG relB X σ m s KB) NoE s
theorem TR.bool {b : Bool} (h : KB b σ) : TR X r (.bool b) σ KB := fun A m s ca hA hr hf ha => by
  rw [inv_bool ha]
  exact wpAny_truthy_bool (postB (t := s.toks) hr hf h)
theorem ET.cmp {op : CmpOp} (h : EV X r (eval e X.env) σ fun a σ1 => EV X r (eval e' X.env) σ1 fun b σ2 => P2 X r (compareOp op) a b σ2 fun c σ3 => TR X r c σ3 KB) (hm : behindInMarks op e' = false) : ET X r (.Compare e [op] [e'] pos) σ KB := fun A m s hA hr hf =>
  wpAny_isTrue_Compare1 (wpAny_mono (h A m s hA hr hf) (fun ca s1 ⟨a, σ1, m1, k1, e1, hr1, hf1, ha⟩ =>
    wpAny_mono (k1 A m1 s1 hA hr1 hf1) (fun cb s2 ⟨b, σ2, m2, k2, e2, hr2, hf2, hb⟩ =>
      wpAny_mono (k2 A m2 s2 ca cb hA hr2 hf2 (RV.later e2.later _ _ ha) hb) (fun cc s3 ⟨c, σ3, m3, k3, e3, hr3, hf3, hc⟩ =>
        wpAny_mono (k3 A m3 s3 cc hA hr3 hf3 hc) (fun b s4 p => ((p.trans e3).trans e2).trans e1) fun _ _ x => x) fun _ _ x => x) fun _ _ x => x) fun _ _ x => x) hm
theorem ET.not (h : ET X r e σ fun b σ1 => KB (!b) σ1) : ET X r (.UnaryOp .Not e pos) σ KB := fun A m s hA hr hf =>
  wpAny_isTrue_Not (wpAny_mono (h A m s hA hr hf) (fun c s1 q1x => by obtain ⟨a, σ1, m1, k, e1, hr1, hf1, hc⟩ := q1x; exact ⟨!a, σ1, m1, k, e1, hr1, hf1, by rw [hc]⟩) fun _ _ x => x)
theorem ET.and2 (h : ET X r e σ fun b σ1 => (b = true → ET X r e' σ1 KB) ∧ (b = false → KB false σ1)) : ET X r (.BoolOp .And [e, e'] pos) σ KB := fun A m s hA hr hf => by
  refine wpAny_isTrue_BoolOp (wpAny_allTrue_And_cons (wpAny_mono (h A m s hA hr hf) (fun c s1 q0 => ?_) fun _ _ x => x))
  obtain ⟨a, σ1, m1, k, e1, hr1, hf1, hc⟩ := q0
  subst hc
  cases a with
  | false => exact ⟨false, σ1, m1, k.2 rfl, e1, hr1, hf1, rfl⟩
  | true => exact wpAny_allTrue_And_cons (wpAny_mono (k.1 rfl A m1 s1 hA hr1 hf1) (fun c s2 p => by
      cases c with
      | false => exact p.trans e1
      | true => exact wpAny_allTrue_And_nil (p.trans e1)) fun _ _ x => x)
theorem ET.or2 (h : ET X r e σ fun b σ1 => (b = false → ET X r e' σ1 KB) ∧ (b = true → KB true σ1)) : ET X r (.BoolOp .Or [e, e'] pos) σ KB := fun A m s hA hr hf => by
  refine wpAny_isTrue_BoolOp (wpAny_allTrue_Or_cons (wpAny_mono (h A m s hA hr hf) (fun c s1 q0 => ?_) fun _ _ x => x))
  obtain ⟨a, σ1, m1, k, e1, hr1, hf1, hc⟩ := q0
  subst hc
  cases a with
  | true => exact ⟨true, σ1, m1, k.2 rfl, e1, hr1, hf1, rfl⟩
  | false => exact wpAny_allTrue_Or_cons (wpAny_mono (k.1 rfl A m1 s1 hA hr1 hf1) (fun c s2 p => by
      cases c with
      | true => exact p.trans e1
      | false => exact wpAny_allTrue_Or_nil (p.trans e1)) fun _ _ x => x)
theorem ET.or3 {e'' : PySem.Expr} (h : ET X r e σ fun b σ1 => (b = false → ET X r e' σ1 fun b σ2 => (b = false → ET X r e'' σ2 KB) ∧ (b = true → KB true σ2)) ∧ (b = true → KB true σ1)) : ET X r (.BoolOp .Or [e, e', e''] pos) σ KB := fun A m s hA hr hf => by
  refine wpAny_isTrue_BoolOp (wpAny_allTrue_Or_cons (wpAny_mono (h A m s hA hr hf) (fun c s1 q0 => ?_) fun _ _ x => x))
  obtain ⟨a, σ1, m1, k, e1, hr1, hf1, hc⟩ := q0
  subst hc
  cases a with
  | true => exact ⟨true, σ1, m1, k.2 rfl, e1, hr1, hf1, rfl⟩
  | false => exact wpAny_allTrue_Or_cons (wpAny_mono (k.1 rfl A m1 s1 hA hr1 hf1) (fun c s2 ⟨a, σ2, m2, k2, e2, hr2, hf2, hc⟩ => by
      subst hc
      cases a with
      | true => exact ⟨true, σ2, m2, k2.2 rfl, e1.trans e2, hr2, hf2, rfl⟩
      | false => exact wpAny_allTrue_Or_cons (wpAny_mono (k2.1 rfl A m2 s2 hA hr2 hf2) (fun c s3 p => by
          cases c with
          | true => exact (p.trans e2).trans e1
          | false => exact wpAny_allTrue_Or_nil ((p.trans e2).trans e1)) fun _ _ x => x)) fun _ _ x => x)
theorem ET.val (h : EV X r (eval e X.env) σ fun a σ1 => TR X r a σ1 KB) (hs : ∀ whole, isTrue e X.env whole = (do let v ← whole; standAt e.pos; holding [v] (truthy v)) := by intros; rfl) : ET X r e σ KB := fun A m s hA hr hf => by
  rw [hs]
  refine wpAny_bind (wpAny_mono (h A m s hA hr hf) (fun ca s1 q0 => ?_) fun _ _ x => x)
  obtain ⟨a, σ1, m1, k1, e1, hr1, hf1, ha⟩ := q0
  exact wpAny_bind (wpAny_standAt (wpAny_holding (wpAny_mono (k1 A m1 s1 ca hA hr1 hf1 ha) (fun b s2 p => p.trans e1) fun _ _ x => x)))
end
section
variable {KF : AF → St → Prop} {e : PySem.Expr} {pos pos' : Pos} {body orelse rest : List Stmt} {st : Stmt}
theorem postF {m : Mp} {s : Shared} {σ1 : St} {m1 : Mp} {s1 : Shared} {f : AF} {cf : Flow} (hK : KF f σ1) (he : Ext X.own σ.H m s σ1.H m1 s1) (hr : HR G σ1.H m1 s1) (hf : FR X σ1.ρ σ1.H m1 s1) (h : RFl G.fv s1.heap m1 f cf) : PostG (RFl G.fv) X σ m s KF cf s1 := ⟨f, σ1, m1, hK, he, hr, hf, h⟩
theorem ES.nil (h : KF .next σ) : ES X r (execs [] X.env) σ KF := fun A m s hA hr hf => wpAny_execs_nil ⟨.next, σ, m, h, .refl _ G hr, hr, hf, rfl⟩
noncomputable def SeqK (X : Cx G) (r : Nat) (rest : List Stmt) (KF : AF → St → Prop) : AF → St → Prop
  | .next, σ1 => ES X r (execs rest X.env) σ1 KF
  | .brk, σ1 => KF .brk σ1
  | .cont, σ1 => KF .cont σ1
  | .ret v, σ1 => KF (.ret v) σ1
theorem SeqK_next (h : ES X r (execs rest X.env) σ KF) : SeqK X r rest KF .next σ := h
theorem SeqK_brk (h : KF .brk σ) : SeqK X r rest KF .brk σ := h
theorem SeqK_cont (h : KF .cont σ) : SeqK X r rest KF .cont σ := h
theorem SeqK_ret {v : AV} (h : KF (.ret v) σ) : SeqK X r rest KF (.ret v) σ := h
theorem ES.cons (h : ES X r (exec st X.env) σ (SeqK X r rest KF)) : ES X r (execs (st :: rest) X.env) σ KF := fun A m s hA hr hf => by
  refine wpAny_execs_cons (wpAny_mono (h A m s hA hr hf) (fun cf s1 q0 => ?_) fun _ _ x => x)
  obtain ⟨f, σ1, m1, k, e1, hr1, hf1, hc⟩ := q0
  cases f with
  | next => simp only [RFl] at hc; subst hc; exact wpAny_mono (k A m1 s1 hA hr1 hf1) (fun _ _ p => p.trans e1) fun _ _ x => x
  | brk => have hc' := hc; simp only [RFl] at hc'; subst hc'; exact ⟨.brk, σ1, m1, k, e1, hr1, hf1, hc⟩
  | cont => have hc' := hc; simp only [RFl] at hc'; subst hc'; exact ⟨.cont, σ1, m1, k, e1, hr1, hf1, hc⟩
  | ret v => have hc' := hc; simp only [RFl] at hc'; obtain ⟨cv, rfl, _⟩ := hc'; exact ⟨.ret v, σ1, m1, k, e1, hr1, hf1, hc⟩
theorem ES.assignN {x : Str} {k : Nat} (hx : X.res x = some (.loc k true)) (h : EV X r (eval e X.env) σ fun a σ1 => KF .next ⟨σ1.ρ.set k (some a), σ1.H⟩) (hs : swapsWith e (some (.Name x pos')) pos.line X.env = pure false) : ES X r (exec (.Assign [.Name x pos'] e pos) X.env) σ KF := fun A m s hA hr hf => by
  refine wpAny_Assign_Name (wpAny_mono (h A m s hA hr hf) (fun ca s1 q0 => ?_) fun _ _ x => x) hs
  obtain ⟨a, σ1, m1, k1, e1, hr1, hf1, ha⟩ := q0
  exact wpAny_mono (store_any hr1 hf1 hx ha) (fun _ s2 q2x => by obtain ⟨e2, hr2, hf2⟩ := q2x; exact ⟨.next, ⟨_, σ1.H⟩, m1, k1, e1.trans e2, hr2, hf2, rfl⟩) fun _ _ x => x
theorem ES.augN {x : Str} {k : Nat} {v : AV} {op : Operator} (hx : X.res x = some (.loc k true)) (hv : σ.ρ[k]? = some (some v)) (h : EV X r (eval e X.env) σ fun a σ1 => P2 X r (inplaceOp op) v a σ1 fun w σ2 => KF .next ⟨σ2.ρ.set k (some w), σ2.H⟩) : ES X r (exec (.AugAssign (.Name x pos') op e pos) X.env) σ KF := fun A m s hA hr hf => by
  refine wpAny_AugAssign_Name (load_any hf hx hv fun cv hcv => ?_)
  refine wpAny_mono (h A m s hA hr hf) (fun ca s1 q0 => ?_) fun _ _ x => x
  obtain ⟨a, σ1, m1, k1, e1, hr1, hf1, ha⟩ := q0
  refine wpAny_mono (k1 A m1 s1 cv ca hA hr1 hf1 (RV.later e1.later _ _ hcv) ha) (fun cw s2 q0 => ?_) fun _ _ x => x
  obtain ⟨w', σ2, m2, k2, e2, hr2, hf2, hw⟩ := q0
  exact wpAny_mono (store_any hr2 hf2 hx hw) (fun _ s3 q3x => by obtain ⟨e3, hr3, hf3⟩ := q3x; exact ⟨.next, ⟨_, σ2.H⟩, m2, k2, (e1.trans e2).trans e3, hr3, hf3, rfl⟩) fun _ _ x => x
theorem ES.if_ (h : ET X r e σ fun b σ1 => (b = true → ES X r (execs body X.env) σ1 KF) ∧ (b = false → ES X r (execs orelse X.env) σ1 KF)) : ES X r (exec (.If e body orelse pos) X.env) σ KF := fun A m s hA hr hf => by
  refine wpAny_If (wpAny_mono (h A m s hA hr hf) (fun c s1 q0 => ?_) fun _ _ x => x)
  obtain ⟨a, σ1, m1, k, e1, hr1, hf1, hc⟩ := q0
  subst hc
  cases a with
  | true => exact wpAny_mono (k.1 rfl A m1 s1 hA hr1 hf1) (fun _ _ p => p.trans e1) fun _ _ x => x
  | false => exact wpAny_mono (k.2 rfl A m1 s1 hA hr1 hf1) (fun _ _ p => p.trans e1) fun _ _ x => x
theorem ES.ret (h : EV X r (eval e X.env) σ fun a σ1 => KF (.ret a) σ1) : ES X r (exec (.Return (some e) pos) X.env) σ KF := fun A m s hA hr hf =>
  wpAny_Return_some (wpAny_mono (h A m s hA hr hf) (fun ca s1 q4x => by obtain ⟨a, σ1, m1, k1, e1, hr1, hf1, ha⟩ := q4x; exact ⟨.ret a, σ1, m1, k1, e1, hr1, hf1, by simp only [RFl]; exact ⟨ca, rfl, ha⟩⟩) fun _ _ x => x)
theorem ES.brk (h : KF .brk σ) : ES X r (exec (.Break pos) X.env) σ KF := fun A m s hA hr hf => wpAny_Break ⟨.brk, σ, m, h, .refl _ G hr, hr, hf, rfl⟩
theorem ES.cont (h : KF .cont σ) : ES X r (exec (.Continue pos) X.env) σ KF := fun A m s hA hr hf => wpAny_Continue ⟨.cont, σ, m, h, .refl _ G hr, hr, hf, rfl⟩
theorem ES.expr (h : EV X r (eval e X.env) σ fun a σ1 => a = .none ∧ KF .next σ1) (hi : interactive X.env = false) (hs : swapsWith e none pos.line X.env = pure false) : ES X r (exec (.Expr e pos) X.env) σ KF := fun A m s hA hr hf =>
  wpAny_Expr (wpAny_mono (h A m s hA hr hf) (fun ca s1 ⟨a, σ1, m1, ⟨ea, k1⟩, e1, hr1, hf1, ha⟩ => by
    subst ea
    rw [inv_none ha]
    exact ⟨.next, σ1, m1, k1, e1, hr1, hf1, rfl⟩) fun _ _ x => x) hi hs
end
end Mine
end Pa13
section Pa14
set_option compiler.extract_closed false
open PySem PySem.W PySem.Calls PyProof.Rows
set_option maxRecDepth 100000
set_option linter.unusedVariables false
namespace Mine
variable {G : Gx} {X : Cx G} {r : Nat} {σ : St} {K : AV → St → Prop}
theorem FR.ext {ρ : List (Option AV)} {H H' : AH} {m m' : Mp} {s s' : Shared} (F : FR X ρ H m s) (e : Ext (fun _ => False) H m s H' m' s') : FR X ρ H' m' s' := by
  have L := e.later
  have hk : ∀ a o, X.resv a → s.heap.get? a = some o → s'.heap.get? a = some o := fun a o ha h => e.kept a o h (fun i o' q q' => F.apart i o' q (q' ▸ ha)) (fun x => x)
  refine ⟨?_, fun x k b c h1 h2 h3 => ?_, fun x k b c hx q => ?_, fun i o q => ?_, F.old⟩
  · obtain ⟨mp, ⟨o, es, ep, ho, hd⟩, f⟩ := F.ns
    exact ⟨mp, ⟨o, es, ep, hk _ _ (.inl rfl) ho, hd⟩, fun x k b v h1 h2 h3 => let ⟨cv, e1, r1⟩ := f x k b v h1 h2 h3; ⟨cv, e1, RV.later L _ _ r1⟩⟩
  · obtain ⟨ov, ⟨o, ho, hd⟩, f⟩ := F.cells x k b c h1 h2 h3
    exact ⟨ov, ⟨o, hk _ _ (.inr ⟨x, k, b, h1, h3⟩) ho, hd⟩, fun v h4 => let ⟨cv, e1, r1⟩ := f v h4; ⟨cv, e1, RV.later L _ _ r1⟩⟩
  · obtain ⟨ov, o, ho, hd⟩ := F.clive x k b c hx q
    exact ⟨ov, o, hk _ _ (.inr ⟨x, k, b, hx, q⟩) ho, hd⟩
  · rcases e.fresh i o q with ⟨hi, o', q'⟩ | ⟨hi, q' | q'⟩
    · rw [e.f i hi]; exact F.apart i o' q'
    · intro hx
      have := F.live hx
      rw [q'] at this; cases this
    · exact q'.elim
theorem Ext.own_le {own own' : Addr → Prop} (hle : ∀ a, own a → own' a) {H H' : AH} {m m' : Mp} {s s' : Shared} (e : Ext own H m s H' m' s') : Ext own' H m s H' m' s' :=
  ⟨e.n, e.f, fun i o q => (e.fresh i o q).imp id fun ⟨h1, h2⟩ => ⟨h1, h2.imp id (hle _)⟩, fun a o h1 h2 h3 => e.kept a o h1 h2 (fun q => h3 (hle a q)), e.tup, e.os, e.gens, e.live⟩
inductive PostC (G : Gx) (H : AH) (m : Mp) (s : Shared) (K : AV → AH → Prop) (cv : Value) (s' : Shared) : Prop
  | mk (v : AV) (H' : AH) (m' : Mp) (hK : K v H') (hE : Ext (fun _ => False) H m s H' m' s') (hR : HR G H' m' s') (hv : RV G.fv s'.heap m' v cv) : PostC G H m s K cv s'
noncomputable def CallOK (G : Gx) (r : Nat) (f : Value) (args : List AV) (H : AH) (K : AV → AH → Prop) : Prop :=
  ∀ A m s cargs, OkA r A → HR G H m s → RVs G.fv s.heap m args cargs → codeAny (model G.prog G.w) A (.call f ⟨cargs, []⟩) (fun q s' => match q with
    | .ok (.ret cv) => PostC G H m s K cv s'
    | _ => False) s
noncomputable def CV (X : Cx G) (r : Nat) (f : Value) (args : List AV) (σ : St) (K : AV → St → Prop) : Prop :=
  ∀ A m s cargs, OkA r A → HR G σ.H m s → FR X σ.ρ σ.H m s → RVs G.fv s.heap m args cargs → wpAny (model G.prog G.w) A (call f cargs) (Post X σ m s K) NoE s
theorem CV.of {f : Value} {args : List AV} {r' : Nat} (h : CallOK G r' f args σ.H fun v H' => K v ⟨σ.ρ, H'⟩) (hr' : r' ≤ r) : CV X r f args σ K := fun A m s cargs hA hr hf ha =>
  wpAny_call (codeAny_mono (h A m s cargs (hA.le hr') hr ha) fun q s' hq => by
    rcases q with e | (cv | _ | _ | _) <;> first | exact hq.elim | skip
    obtain ⟨v, H', m', k, e, hr', hv⟩ := hq
    exact ⟨v, ⟨σ.ρ, H'⟩, m', k, e.own_le fun _ x => x.elim, hr', hf.ext e, hv⟩)
noncomputable def Keep (G : Gx) (f : Value) : Prop := ∃ k, (k = Keeper.frame ∨ k = Keeper.machine ∨ k = Keeper.boundFrame) ∧ Looks (model G.prog G.w) G.h₀ (keeperOf f) k
theorem Keep.builtin (id : String) : Keep G (.builtin id) := ⟨.machine, .inr (.inl rfl), fun A Q E s _ q => by show wpAny _ _ (pure _) _ _ _; exact wpAny_pure q⟩
theorem Keep.type (id : String) : Keep G (.type id) := ⟨.machine, .inr (.inl rfl), fun A Q E s _ q => by show wpAny _ _ (pure _) _ _ _; exact wpAny_pure q⟩
theorem Keep.ofK {f : Value} (hk : keepIn G.K f = true) : Keep G f := keeps_K hk _ G.kin
noncomputable def EA (X : Cx G) (r : Nat) (es : List PySem.Expr) (σ : St) (K : List AV → St → Prop) : Prop := EG (RVs G.fv) X r (spliced (es.map fun e => (false, eval e X.env))) σ K
section
variable {KL : List AV → St → Prop} {e : PySem.Expr} {es : List PySem.Expr} {pos pos' : Pos}
theorem EA.nil (h : KL [] σ) : EA X r [] σ KL := fun A m s hA hr hf => spliced_nil ⟨[], σ, m, h, .refl _ G hr, hr, hf, by simp only [RVs]⟩
theorem EA.cons (h : EV X r (eval e X.env) σ fun a σ1 => EA X r es σ1 fun as σ2 => KL (a :: as) σ2) : EA X r (e :: es) σ KL := fun A m s hA hr hf =>
  spliced_cons (wpAny_mono (h A m s hA hr hf) (fun ca s1 ⟨a, σ1, m1, k1, e1, hr1, hf1, ha⟩ =>
    wpAny_mono (k1 A m1 s1 hA hr1 hf1) (fun cs s2 ⟨as, σ2, m2, k2, e2, hr2, hf2, has⟩ =>
      ⟨a :: as, σ2, m2, k2, e1.trans e2, hr2, hf2, by simp only [RVs]; exact ⟨ca, cs, rfl, RV.later e2.later _ _ ha, has⟩⟩) fun _ _ x => x) fun _ _ x => x)
theorem rvs_append {h : Heap} {m : Mp} : ∀ {xs ys : List AV} {vs ws : List Value}, RVs G.fv h m xs vs → RVs G.fv h m ys ws → RVs G.fv h m (xs ++ ys) (vs ++ ws)
  | [], ys, vs, ws, h1, h2 => by simp only [RVs] at h1; subst h1; exact h2
  | x :: xs, ys, vs, ws, h1, h2 => by
    simp only [RVs] at h1
    obtain ⟨v, r, rfl, h1, h3⟩ := h1
    simp only [List.cons_append, RVs]
    exact ⟨v, r ++ ws, rfl, h1, rvs_append h3 h2⟩
theorem evalArgs_none {M : Model} {A : Around} {E : Value → Shared → Prop} {s : Shared} {f : Value} {Q : Args → Shared → Prop}
    (h : wpAny M A (spliced []) (fun vs s' => Q ⟨vs, []⟩ s') E s) : wpAny M A (evalArgs f true [] []) Q E s := by
  unfold evalArgs
  exact wpAny_bind (wpAny_mono h (fun _ _ q => wpAny_bind (wpAny_pure (wpAny_holding (wpAny_bind (wpAny_pure (wpAny_bind (wpAny_pure (wpAny_pure q)))))))) fun _ _ q => q)
theorem callWith_any {f : Value} {first : List AV} {cfirst : List Value} {A : Around} {m : Mp} {s : Shared} (hA : OkA r A) (hr : HR G σ.H m s) (hf : FR X σ.ρ σ.H m s) (hk : Keep G f) (h1 : RVs G.fv s.heap m first cfirst)
    (h : EA X r es σ fun as σ1 => CV X r f (first ++ as) σ1 K) : wpAny (model G.prog G.w) A (callWith pos f cfirst (es.map fun e => (false, eval e X.env)) []) (Post X σ m s K) NoE s := by
  have hplain : ((es.map fun e => (false, eval e X.env)).any (·.1) || ([] : List (Option Str × Sem Value)).any (·.1.isNone)) = false := by
    rw [List.any_nil, Bool.or_false]
    induction es with
    | nil => rfl
    | cons e es ih => rw [List.map_cons, List.any_cons]; simp
  have main : wpAny (model G.prog G.w) A (spliced (es.map fun e => (false, eval e X.env))) (fun vs s₁ => (∀ b o, G.h₀.get? b = some o → s₁.heap.get? b = some o) ∧ wpAny (model G.prog G.w) A (call f (cfirst ++ vs)) (Post X σ m s K) NoE s₁) NoE s :=
    wpAny_mono (h A m s hA hr hf) (fun cs s1 q1x => by obtain ⟨as, σ1, m1, k1, e1, hr1, hf1, ha⟩ := q1x; exact ⟨hr1.base, wpAny_mono (k1 A m1 s1 _ hA hr1 hf1 (rvs_append (RVs.later e1.later _ _ h1) ha)) (fun _ _ p => p.trans e1) fun _ _ x => x⟩) fun _ _ x => x
  refine callWith_of (P := fun hh => ∀ b o, G.h₀.get? b = some o → hh.get? b = some o) hplain (fun hh P => let ⟨k, hk, L⟩ := hk; ⟨k, hk, L.keeps P⟩) ?_
  cases es with
  | nil => exact evalArgs_none main
  | cons e es => exact evalArgs_plain main
end
end Mine
end Pa14
section Pa15
set_option compiler.extract_closed false
open PySem PySem.W PySem.Calls PyProof.Rows
set_option maxRecDepth 100000
set_option linter.unusedVariables false
namespace Mine
variable {G : Gx} {X : Cx G} {r : Nat} {σ : St} {K : AV → St → Prop}
section
variable {h : Heap} {m : Mp}
theorem rvs1 {a : AV} {cs : List Value} (e : RVs G.fv h m [a] cs) : ∃ ca, cs = [ca] ∧ RV G.fv h m a ca := by
  simp only [RVs] at e
  obtain ⟨v, r, rfl, h1, rfl⟩ := e
  exact ⟨v, rfl, h1⟩
theorem rvs2 {a b : AV} {cs : List Value} (e : RVs G.fv h m [a, b] cs) : ∃ ca cb, cs = [ca, cb] ∧ RV G.fv h m a ca ∧ RV G.fv h m b cb := by
  simp only [RVs] at e
  obtain ⟨v, r, rfl, h1, v2, r2, rfl, h2, rfl⟩ := e
  exact ⟨v, v2, rfl, h1, h2⟩
theorem rvs3 {a b c : AV} {cs : List Value} (e : RVs G.fv h m [a, b, c] cs) : ∃ ca cb cc, cs = [ca, cb, cc] ∧ RV G.fv h m a ca ∧ RV G.fv h m b cb ∧ RV G.fv h m c cc := by
  simp only [RVs] at e
  obtain ⟨v, r, rfl, h1, v2, r2, rfl, h2, v3, r3, rfl, h3, rfl⟩ := e
  exact ⟨v, v2, v3, rfl, h1, h2, h3⟩
theorem rvs_len : ∀ {xs : List AV} {cs : List Value}, RVs G.fv h m xs cs → cs.length = xs.length
  | [], cs, e => by simp only [RVs] at e; rw [e]; rfl
  | x :: xs, cs, e => by
    simp only [RVs] at e
    obtain ⟨v, r, rfl, h1, h2⟩ := e
    rw [List.length_cons, List.length_cons, rvs_len h2]
theorem rvs_get : ∀ {xs : List AV} {cs : List Value} {i : Nat} {x : AV}, RVs G.fv h m xs cs → xs[i]? = some x → ∃ c, cs[i]? = some c ∧ RV G.fv h m x c
  | [], cs, i, x, e, g => by cases g
  | y :: xs, cs, i, x, e, g => by
    simp only [RVs] at e
    obtain ⟨v, r, rfl, h1, h2⟩ := e
    cases i with
    | zero => cases g; exact ⟨v, rfl, h1⟩
    | succ i => exact rvs_get (i := i) h2 g
theorem rvs_set : ∀ {xs : List AV} {cs : List Value} {i : Nat} {x : AV} {c : Value}, RVs G.fv h m xs cs → RV G.fv h m x c → RVs G.fv h m (xs.set i x) (cs.set i c)
  | [], cs, i, x, c, e, g => by simp only [RVs] at e; subst e; simp only [List.set_nil, RVs]
  | y :: xs, cs, i, x, c, e, g => by
    simp only [RVs] at e
    obtain ⟨v, r, rfl, h1, h2⟩ := e
    cases i with
    | zero => simp only [List.set_cons_zero, RVs]; exact ⟨c, r, rfl, g, h2⟩
    | succ i => simp only [List.set_cons_succ, RVs]; exact ⟨v, _, rfl, h1, rvs_set h2 g⟩
end
theorem HR.list {H : AH} {m : Mp} {s : Shared} (hr : HR G H m s) {n : Nat} {xs : List AV} (h : H n = some (.list xs)) : ∃ vs k, s.heap.get? (m.f n) = some (lstOf vs k) ∧ RVs G.fv s.heap m xs vs := by
  obtain ⟨o, h1, vs, k, rfl, h2⟩ := hr.obj n _ h
  exact ⟨vs, k, h1, h2⟩
theorem post_list {m : Mp} {s : Shared} {xs : List AV} {vs : List Value} (hr : HR G σ.H m s) (hf : FR X σ.ρ σ.H m s) (hv : RVs G.fv s.heap m xs vs) (hK : ∀ n, σ.H n = Option.none → K (.ref n) ⟨σ.ρ, σ.H.upd n (.list xs)⟩) :
    Post X σ m s K (.ref s.heap.objs.size) { s with heap := s.heap.push (lstOf vs 0) } :=
  post_new (x := .list xs) hr hf (fun a o e => Heap.get?_push_of_some _ e) rfl rfl (Heap.get?_none_of_le (by simp)) (Heap.get?_push_size _ rfl)
    ⟨vs, 0, rfl, RVs.later ⟨Nat.le_succ _, fun i hi => Mp.put_lt m _ hi, fun a o _ e => Heap.get?_push_of_some _ e⟩ _ _ hv⟩ hK
theorem post_list_toks {m : Mp} {s : Shared} {xs : List AV} {vs : List Value} {t : Nat} (hr : HR G σ.H m s) (hf : FR X σ.ρ σ.H m s) (hv : RVs G.fv s.heap m xs vs) (hK : ∀ n, σ.H n = Option.none → K (.ref n) ⟨σ.ρ, σ.H.upd n (.list xs)⟩) :
    Post X σ m s K (.ref s.heap.objs.size) { s with heap := s.heap.push (lstOf vs 0), toks := t } :=
  post_new (x := .list xs) hr hf (fun a o e => Heap.get?_push_of_some _ e) rfl rfl (Heap.get?_none_of_le (by simp)) (Heap.get?_push_size _ rfl)
    ⟨vs, 0, rfl, RVs.later ⟨Nat.le_succ _, fun i hi => Mp.put_lt m _ hi, fun a o _ e => Heap.get?_push_of_some _ e⟩ _ _ hv⟩ hK
section
variable {es : List PySem.Expr} {e func : PySem.Expr} {pos pos' apos : Pos}
theorem EV.list (h : EA X r es σ fun xs σ1 => xs.length ≤ sizeLine ∧ ∀ n, σ1.H n = Option.none → K (.ref n) ⟨σ1.ρ, σ1.H.upd n (.list xs)⟩)
    (ht : backTo pos (starEach es X.env) = es.map fun e => (false, eval e X.env) := by rfl) : EV X r (eval (.List es pos) X.env) σ K := fun A m s hA hr hf => by
  refine wpAny_List ?_
  rw [ht]
  exact wpAny_mono (h A m s hA hr hf) (fun cs s1 q1x => by obtain ⟨xs, σ1, m1, ⟨hl, k⟩, e1, hr1, hf1, hv⟩ := q1x; exact ⟨by rw [rvs_len hv]; exact hl, Post.trans e1 (post_list hr1 hf1 hv k)⟩) fun _ _ x => x
theorem EV.tup {kk : Nat} (h : EA X r es σ fun xs σ1 => xs.length ≤ sizeLine ∧ K (.tup xs) σ1)
    (ht : backTo pos (starEach es X.env) = es.map fun e => (false, eval e X.env) := by rfl) : EV X r (eval (.Tuple es kk pos) X.env) σ K := fun A m s hA hr hf => by
  refine wpAny_Tuple ?_
  rw [ht]
  refine wpAny_mono (h A m s hA hr hf) (fun cs s1 ⟨xs, σ1, m1, ⟨hl, k⟩, e1, hr1, hf1, hv⟩ => ⟨by rw [rvs_len hv]; exact hl, Post.trans e1 ?_⟩) fun _ _ x => x
  refine post_grow hr1 hf1 (fun a o e => Heap.get?_push_of_some _ e) rfl rfl k ?_
  simp only [RV]
  exact ⟨_, cs, rfl, Heap.get?_push_size _ rfl, RVs.later ⟨Nat.le_refl _, fun _ _ => rfl, fun a o _ e => Heap.get?_push_of_some _ e⟩ _ _ hv⟩
inductive CallQ (X : Cx G) (r : Nat) (es : List PySem.Expr) (K : AV → St → Prop) (f : AV) (σ1 : St) : Prop
  | mk (k : Nat) (ef : f = .fn k) (hk : Keep G (G.fv k)) (h : EA X r es σ1 fun as σ2 => CV X r (G.fv k) as σ2 K) : CallQ X r es K f σ1
theorem EV.call (h : EV X r (eval func X.env) σ (CallQ X r es K))
    (he : eval (.Call func es [] pos) X.env = (do callWith pos (← eval func X.env) [] (es.map fun e => (false, eval e X.env)) []) := by rfl) : EV X r (eval (.Call func es [] pos) X.env) σ K := fun A m s hA hr hf => by
  rw [he]
  refine wpAny_bind (wpAny_mono (h A m s hA hr hf) (fun cf s1 q0 => ?_) fun _ _ x => x)
  obtain ⟨f, σ1, m1, ⟨k, ef, hk, h2⟩, e1, hr1, hf1, hv⟩ := q0
  subst ef
  rw [inv_fn hv]
  exact wpAny_mono (callWith_any (first := []) hA hr1 hf1 hk (by simp only [RVs]) h2) (fun _ _ p => Post.trans e1 p) fun _ _ x => x
inductive Is (σ : St) : AV → String → Prop
  | str (x : Str) : Is σ (.str x) "str"
  | list (n : Nat) (xs : List AV) : σ.H n = some (.list xs) → Is σ (.ref n) "list"
theorem Is.typeIs {a : AV} {T : String} {m : Mp} {s : Shared} {ca : Value} (h : Is σ a T) (hr : HR G σ.H m s) (hv : RV G.fv s.heap m a ca) : s.TypeIs ca T ∧ ∀ a, ca = .ref a → ∃ ob, s.heap.get? a = some ob ∧ ob.dict = none := by
  cases h with
  | str x => obtain ⟨t, rfl⟩ := inv_str hv; exact ⟨typeIs_str _ _ _, fun _ e => nomatch e⟩
  | list n xs hn =>
    obtain ⟨hlt, rfl⟩ := inv_ref hv
    obtain ⟨vs, k, ho, _⟩ := hr.list hn
    exact ⟨⟨_, ho, rfl⟩, fun a e => by cases e; exact ⟨_, ho, rfl⟩⟩
theorem EV.meth {T id : String} {name : Str} (pa : PlainAttrs T) (slot : Slot T name id) (hty : typeOf (.builtin id) = pure (.type "method_descriptor"))
    (h : EV X r (eval e X.env) σ fun ov σ1 => Is σ1 ov T ∧ EA X r es σ1 fun as σ2 => CV X r (.builtin id) (ov :: as) σ2 K)
    (hbase : attributeBase e name X.env (eval e X.env) = eval e X.env := by rfl)
    (hline : (apos.endLine == pos.line) = true := by rfl)
    (hfew : ((backTo pos (starEach es X.env)).all (fun x => !x.1) && (backToKw pos (keywordEach [] X.env)).all (fun x => x.1.isSome)
      && decide (es.length + ([] : List Keyword).length + (if ([] : List Keyword).isEmpty then 0 else 1) < 30)) = true := by rfl)
    (ht : backTo pos (starEach es X.env) = es.map fun e => (false, eval e X.env) := by rfl) : EV X r (eval (.Call (.Attribute e name apos) es [] pos) X.env) σ K := fun A m s hA hr hf => by
  refine wpAny_Call_method_late hbase hfew hline ht (wpAny_mono (h A m s hA hr hf) (fun cv s1 q0 => ?_) fun _ _ x => x)
  obtain ⟨ov, σ1, m1, ⟨his, h2⟩, e1, hr1, hf1, hv⟩ := q0
  obtain ⟨t1, t2⟩ := his.typeIs hr1 hv
  refine ⟨T, id, pa, slot, hty, t1, t2, ?_⟩
  exact wpAny_mono (callWith_any (first := [ov]) hA hr1 hf1 (Keep.builtin id) (by simp only [RVs]; exact ⟨cv, [], rfl, hv, rfl⟩) h2) (fun _ _ p => Post.trans e1 p) fun _ _ x => x
end
section
variable {x y : Str} {i j : Int} {n : Nat} {xs : List AV}
theorem CV.lower (hsz : PySem.Builtin.Str.tooLong (Txt.lower x).length = false) (h : K (.str (Txt.lower x)) σ) : CV X r (.builtin "str.lower") [.str x] σ K := fun A m s cargs hA hr hf ha => by
  obtain ⟨ca, rfl, hv1⟩ := rvs1 ha; obtain ⟨t, rfl⟩ := inv_str hv1
  exact SC.lower hsz (post_pure hr hf h (rv_str _))
theorem CV.count (h : K (.int (Txt.count x y)) σ) : CV X r (.builtin "str.count") [.str x, .str y] σ K := fun A m s cargs hA hr hf ha => by
  obtain ⟨ca, cb, rfl, ha1, hb⟩ := rvs2 ha; obtain ⟨t, rfl⟩ := inv_str ha1; obtain ⟨u, rfl⟩ := inv_str hb
  exact SC.count (post_pure hr hf h (rv_int _))
theorem CV.find (h : K (.int (Txt.find x y)) σ) : CV X r (.builtin "str.find") [.str x, .str y] σ K := fun A m s cargs hA hr hf ha => by
  obtain ⟨ca, cb, rfl, ha1, hb⟩ := rvs2 ha; obtain ⟨t, rfl⟩ := inv_str ha1; obtain ⟨u, rfl⟩ := inv_str hb
  exact SC.find (post_pure hr hf h (rv_int _))
theorem CV.ord {c : Nat} (h : K (.int c) σ) : CV X r (.builtin "ord") [.str ⟨#[c]⟩] σ K := fun A m s cargs hA hr hf ha => by
  obtain ⟨ca, rfl, hv1⟩ := rvs1 ha; obtain ⟨t, rfl⟩ := inv_str hv1
  exact PySem.P.ord_of_char (post_pure hr hf h (rv_int _))
theorem CV.chr (hi : (decide (i < 0) || decide (i > 0x10FFFF)) = false) (h : K (.str ⟨#[i.toNat]⟩) σ) : CV X r (.builtin "chr") [.int i] σ K := fun A m s cargs hA hr hf ha => by
  obtain ⟨ca, rfl, hv1⟩ := rvs1 ha; obtain ⟨t, rfl⟩ := inv_int hv1
  exact PySem.P.chr_of_int hi (post_pure hr hf h (rv_str _))
theorem CV.lenS (hfit : ¬ (x.length : Int) ≥ 2 ^ 63) (h : K (.int x.length) σ) : CV X r (.builtin "len") [.str x] σ K := fun A m s cargs hA hr hf ha => by
  obtain ⟨ca, rfl, hv1⟩ := rvs1 ha; obtain ⟨t, rfl⟩ := inv_str hv1
  exact PySem.P.len_str hfit (post_pure hr hf h (rv_int _))
theorem CV.lenL (hn : σ.H n = some (.list xs)) (hfit : (xs.length : Int) < 2 ^ 63) (h : K (.int xs.length) σ) : CV X r (.builtin "len") [.ref n] σ K := fun A m s cargs hA hr hf ha => by
  obtain ⟨ca, rfl, hv1⟩ := rvs1 ha; obtain ⟨hlt, rfl⟩ := inv_ref hv1
  obtain ⟨vs, k, ho, hv⟩ := hr.list hn
  have e : vs.length = xs.length := rvs_len hv
  have hl : s.heap.IsList (m.f n) vs.toArray := ⟨_, ho, rfl, k, rfl⟩
  refine call_len_list hl ?_ ?_
  · rw [List.size_toArray, e]; exact hfit
  · rw [List.size_toArray, e]; exact post_pure hr hf h (rv_int _)
theorem CV.strI (ha : i.natAbs.log2 < 1920) (h : K (.str (toString i : String)) σ) : CV X r (.type "str") [.int i] σ K := fun A m s cargs hA hr hf hv => by
  obtain ⟨ca, rfl, hv1⟩ := rvs1 hv; obtain ⟨t, rfl⟩ := inv_int hv1
  exact PySem.P.str_of_int ha (post_pure hr hf h (rv_str _))
theorem CV.append {a : AV} (hn : σ.H n = some (.list xs)) (hsz : xs.length ≤ sizeLine) (h : K .none ⟨σ.ρ, σ.H.upd n (.list (xs ++ [a]))⟩) : CV X r (.builtin "list.append") [.ref n, a] σ K := fun A m s cargs hA hr hf hv => by
  obtain ⟨ca, cb, rfl, hv, hb⟩ := rvs2 hv; obtain ⟨hlt, rfl⟩ := inv_ref hv
  obtain ⟨vs, k, ho, hv⟩ := hr.list hn
  refine wpAny_list_append_plain ⟨k, ho⟩ (fun h' ⟨k', ho'⟩ hs => ?_) (by rw [List.size_toArray, rvs_len hv]; exact hsz)
  exact post_turn (x := .list (xs ++ [a])) hr hf hn hs rfl rfl ho' (fun L => ⟨vs ++ [cb], k', by rw [List.push_toArray], rvs_append (RVs.later L _ _ hv) (by simp only [RVs]; exact ⟨cb, [], rfl, RV.later L _ _ hb, rfl⟩)⟩) (fun _ => rv_none) h
theorem P2.addL {n' : Nat} {ys : List AV} (hn : σ.H n = some (.list xs)) (hn' : σ.H n' = some (.list ys)) (hsz : xs.length + ys.length ≤ sizeLine) (h : ∀ k, σ.H k = Option.none → K (.ref k) ⟨σ.ρ, σ.H.upd k (.list (xs ++ ys))⟩) : P2 X r (binaryOp .Add) (.ref n) (.ref n') σ K := fun A m s ca cb hA hr hf ha hb => by
  obtain ⟨hlt, rfl⟩ := inv_ref ha; obtain ⟨hlt', rfl⟩ := inv_ref hb
  obtain ⟨vs, k, ho, hv⟩ := hr.list hn
  obtain ⟨ws, k', ho', hw⟩ := hr.list hn'
  refine PySem.P.add_list ho ho' ?_ (by rw [List.size_toArray, List.size_toArray, rvs_len hv, rvs_len hw]; exact hsz)
  rw [List.append_toArray]
  exact post_list hr hf (rvs_append hv hw) h
end
end Mine
end Pa15
section Pa16
set_option compiler.extract_closed false
open PySem PySem.W PySem.Calls PyProof.Rows
set_option maxRecDepth 100000
set_option linter.unusedVariables false
namespace Mine
variable {G : Gx} {X : Cx G} {r : Nat} {σ : St}
structure Hid (X : Cx G) (σ : St) (m : Mp) (I : Addr) : Prop where
  told : ∀ j o, σ.H j = some o → m.f j ≠ I
  resv : ¬ X.resv I
  old : G.h₀.get? I = none
theorem hid_turn {m : Mp} {s s' : Shared} {I : Addr} (hd : Hid X σ m I) (hr : HR G σ.H m s) (hf : FR X σ.ρ σ.H m s) (hk : ∀ a o, a ≠ I → s.heap.get? a = some o → s'.heap.get? a = some o)
    (hnt : ∀ o, Frozen o → s.heap.get? I ≠ some o) (hg : s'.gens = s.gens) : Later s.heap m s'.heap m ∧ HR G σ.H m s' ∧ FR X σ.ρ σ.H m s' := by
  have L : Later s.heap m s'.heap m := ⟨Nat.le_refl _, fun _ _ => rfl, fun b o z e => hk b _ (fun q => hnt o z (q ▸ e)) e⟩
  refine ⟨L, ⟨hr.dom, hr.inj, fun i x e => ?_, fun b o e => hk b o (fun q => ?_) (hr.base b o e), hr.above, by rw [hg]; exact hr.gens, hr.zero⟩, ⟨?_, fun x k b c h1 h2 h3 => ?_, fun x k b c hx e => ?_, hf.apart, hf.old⟩⟩
  · obtain ⟨o, h1, h2⟩ := hr.obj i x e
    exact ⟨o, hk _ _ (hd.told i x e) h1, h2.later L⟩
  · have := hd.old
    rw [← q, e] at this; cases this
  · obtain ⟨mp, ⟨o, es, ep, ho, hh⟩, f⟩ := hf.ns
    exact ⟨mp, ⟨o, es, ep, hk _ _ (fun q => hd.resv (.inl q.symm)) ho, hh⟩, fun x k b v h1 h2 h3 => let ⟨cv, e1, r1⟩ := f x k b v h1 h2 h3; ⟨cv, e1, RV.later L _ _ r1⟩⟩
  · obtain ⟨ov, ⟨o, ho, hh⟩, f⟩ := hf.cells x k b c h1 h2 h3
    exact ⟨ov, ⟨o, hk _ _ (fun q => hd.resv (.inr ⟨x, k, b, h1, q ▸ h3⟩)) ho, hh⟩, fun v h4 => let ⟨cv, e1, r1⟩ := f v h4; ⟨cv, e1, RV.later L _ _ r1⟩⟩
  · obtain ⟨ov, o, ho, hh⟩ := hf.clive x k b c hx e
    exact ⟨ov, o, hk _ _ (fun q => hd.resv (.inr ⟨x, k, b, hx, q ▸ e⟩)) ho, hh⟩
theorem ext_hid {own : Addr → Prop} {H0 : AH} {m0 m : Mp} {s0 s s' : Shared} {I : Addr} (e : Ext own H0 m0 s0 σ.H m s) (h0 : s0.heap.get? I = none) (hk : ∀ a o, a ≠ I → s.heap.get? a = some o → s'.heap.get? a = some o) (hos : s'.os = s.os) (hgn : s'.gens = s.gens) : Ext own H0 m0 s0 σ.H m s' := by
  have ne : ∀ a o, s0.heap.get? a = some o → a ≠ I := fun a o q q' => by rw [q', h0] at q; cases q
  refine ⟨e.n, e.f, e.fresh, fun a o h1 h2 h3 => hk a o (ne a o h1) (e.kept a o h1 h2 h3), fun a o z q => hk a _ (ne a _ q) (e.tup a o z q), hos.trans e.os, fun g z q => by rw [hgn]; exact e.gens g z q, fun a q => ?_⟩
  have := e.live a q
  cases q1 : s0.heap.get? a with
  | none => rw [q1] at q; cases q
  | some o =>
    cases q2 : s.heap.get? a with
    | none => rw [q2] at this; cases this
    | some o2 => rw [hk a o2 (ne a o q1) q2]; rfl
theorem Hid.ext {σ' : St} {m m' : Mp} {s s' : Shared} {I : Addr} (hd : Hid X σ m I) (hl : (s.heap.get? I).isSome = true) (e : Ext X.own σ.H m s σ'.H m' s') : Hid X σ' m' I := by
  refine ⟨fun j o q => ?_, hd.resv, hd.old⟩
  rcases e.fresh j o q with ⟨hj, o', q'⟩ | ⟨hj, q' | q'⟩
  · rw [e.f j hj]; exact hd.told j o' q'
  · intro q2; rw [q2] at q'; rw [q'] at hl; cases hl
  · intro q2; exact hd.resv (Cx.own_resv (q2 ▸ q'))
theorem hid_kept {σ' : St} {m m' : Mp} {s s' : Shared} {I : Addr} (hd : Hid X σ m I) (e : Ext X.own σ.H m s σ'.H m' s') : ∀ o, s.heap.get? I = some o → s'.heap.get? I = some o := fun o q =>
  e.kept I o q (fun i o' q' => hd.told i o' q') (fun q' => hd.resv (Cx.own_resv q'))
structure Itr (G : Gx) (inv : AH → Prop) (fix : Mp → Prop) (I : Addr) (S : Nat → Heap → Prop) (N : Nat) (item : Nat → AV) : Prop where
  mono : ∀ m m' : Mp, fix m → m.n ≤ m'.n → (∀ i, i < m.n → m'.f i = m.f i) → fix m'
  keep : ∀ i h h', S i h → (∀ o, h.get? I = some o → h'.get? I = some o) → S i h'
  notup : ∀ i h o, S i h → Frozen o → h.get? I ≠ some o
  live : ∀ i h, S i h → (h.get? I).isSome = true
  next : ∀ i A H m s (Q : Option Value → Shared → Prop), i < N → A.handled = none → inv H → fix m → HR G H m s → (∀ j o, H j = some o → m.f j ≠ I) → S i s.heap →
    (∀ v h' tk, S (i + 1) h' → (∀ a o, a ≠ I → s.heap.get? a = some o → h'.get? a = some o) → RV G.fv s.heap m (item i) v → Q (some v) { s with heap := h', toks := tk }) → wpAny (model G.prog G.w) A (pyNext (.ref I)) Q NoE s
  last : ∀ A H m s (Q : Option Value → Shared → Prop), A.handled = none → inv H → fix m → HR G H m s → (∀ j o, H j = some o → m.f j ≠ I) → S N s.heap →
    (∀ h' tk, (∀ a o, a ≠ I → s.heap.get? a = some o → h'.get? a = some o) → Q none { s with heap := h', toks := tk }) → wpAny (model G.prog G.w) A (pyNext (.ref I)) Q NoE s
  self : ∀ i A s (Q : Value → Shared → Prop) (E : Value → Shared → Prop), S i s.heap → Q (.ref I) s → wpAny (model G.prog G.w) A (pyIter (.ref I)) Q E s
noncomputable def LoopK (KF : AF → St → Prop) (J : St → Prop) : AF → St → Prop
  | .next, σ => J σ
  | .cont, σ => J σ
  | .brk, σ => KF .next σ
  | .ret v, σ => KF (.ret v) σ
section
variable {KF : AF → St → Prop} {x : Str} {k : Nat} {pos pos' : Pos} {body : List Stmt} {e : PySem.Expr}
theorem letGo_name {it v : Value} : letOwnedTupleGo (.Name x pos) it v = pure () := rfl
inductive ForI (X : Cx G) (fix : Mp → Prop) (I : Addr) (S : Nat → Heap → Prop) (N : Nat) (J : Nat → St → Prop) (σ0 : St) (m0 : Mp) (s0 : Shared) (n : Nat) (s1 : Shared) : Prop
  | mk (i : Nat) (σ1 : St) (m1 : Mp) (hi : i ≤ N) (hn : n = N - i) (hj : J i σ1) (he : Ext X.own σ0.H m0 s0 σ1.H m1 s1) (hr : HR G σ1.H m1 s1) (hf : FR X σ1.ρ σ1.H m1 s1) (hd : Hid X σ1 m1 I) (hS : S i s1.heap) (hfix : fix m1) : ForI X fix I S N J σ0 m0 s0 n s1
inductive WhileI (X : Cx G) (J : Nat → St → Prop) (H0 : AH) (m0 : Mp) (s0 : Shared) (n : Nat) (s1 : Shared) : Prop
  | mk (σ1 : St) (m1 : Mp) (hj : J n σ1) (he : Ext X.own H0 m0 s0 σ1.H m1 s1) (hr : HR G σ1.H m1 s1) (hf : FR X σ1.ρ σ1.H m1 s1) : WhileI X J H0 m0 s0 n s1
theorem for_core {inv : AH → Prop} {fix : Mp → Prop} {I : Addr} {S : Nat → Heap → Prop} {N : Nat} {item : Nat → AV} (W : Itr G inv fix I S N item) (hx : X.res x = some (.loc k true)) (J : Nat → St → Prop)
    (hJ : ∀ i σ, i < N → J i σ → inv σ.H ∧ ES X r (execs body X.env) ⟨σ.ρ.set k (some (item i)), σ.H⟩ (LoopK KF (J (i + 1))))
    (hN : ∀ σ, J N σ → inv σ.H ∧ KF .next σ) {A : Around} (hA : OkA r A) {σ0 : St} {m0 m : Mp} {s0 s : Shared} (h0 : s0.heap.get? I = none) (hj : J 0 σ)
    (he : Ext X.own σ0.H m0 s0 σ.H m s) (hr : HR G σ.H m s) (hf : FR X σ.ρ σ.H m s) (hd : Hid X σ m I) (hS : S 0 s.heap) (hfix : fix m) {E : Value → Shared → Prop} :
    codeAny (model G.prog G.w) A (.forLoop (.Name x pos') (.ref I) body [] X.env) (fun q s' => match q with | .ok f => PostG (RFl G.fv) X σ0 m0 s0 KF f s' | .error e => E e s') s := by
  refine codeAny_forLoop_any (ForI X fix I S N J σ0 m0 s0) ?_ N ⟨0, σ, m, Nat.zero_le _, rfl, hj, he, hr, hf, hd, hS, hfix⟩
  rintro n s1 ⟨i, σ1, m1, hi, rfl, hj1, he1, hr1, hf1, hd1, hS1, hfix1⟩
  by_cases hlt : i < N
  · obtain ⟨hinv, hb⟩ := hJ i σ1 hlt hj1
    refine noE_any (W.next i A σ1.H m1 s1 _ hlt hA.handled hinv hfix1 hr1 hd1.told hS1 fun v h' tk hS' hk hv => ?_)
    obtain ⟨L, hr2, hf2⟩ := hid_turn (s' := { s1 with heap := h', toks := tk }) hd1 hr1 hf1 hk (fun o z => W.notup i _ o hS1 z) rfl
    have he2 : Ext X.own σ0.H m0 s0 σ1.H m1 { s1 with heap := h', toks := tk } := ext_hid he1 h0 hk rfl rfl
    show wpAny _ _ (letOwnedTupleGo _ _ _) _ _ _
    rw [letGo_name]
    refine wpAny_pure (wpAny_assign_Name (noE_any (wpAny_mono (store_any (σ := σ1) hr2 hf2 hx (RV.later L _ _ hv)) (fun _ s3 q0 => ?_) fun _ _ x => x)))
    obtain ⟨e3, hr3, hf3⟩ := q0
    have hlI : ∀ s : Shared, S (i+1) s.heap → (s.heap.get? I).isSome = true := fun s => W.live (i+1) s.heap
    have hd3 := hd1.ext (s := { s1 with heap := h', toks := tk }) (hlI _ hS') (σ' := σ1) e3
    have hS3 := W.keep (i+1) _ _ hS' (hid_kept (σ' := σ1) (m := m1) (s := { s1 with heap := h', toks := tk }) hd1 e3)
    refine noE_any (wpAny_mono (hb A m1 s3 hA hr3 hf3) (fun f s4 q0 => ?_) fun _ _ x => x)
    obtain ⟨af, σ4, m4, k4, e4, hr4, hf4, hfl⟩ := q0
    have e34 := he2.trans e3
    have e04 := e34.trans e4
    have hdσ : Hid X ⟨σ1.ρ.set k (some (item i)), σ1.H⟩ m1 I := ⟨hd3.told, hd3.resv, hd3.old⟩
    have fin : J (i+1) σ4 → ∃ n', n' < N - i ∧ ForI X fix I S N J σ0 m0 s0 n' s4 := fun hj4 =>
      ⟨N - (i+1), by omega, i+1, σ4, m4, hlt, rfl, hj4, e04, hr4, hf4, hdσ.ext (W.live _ _ hS3) e4, W.keep _ _ _ hS3 (hid_kept hdσ e4), W.mono m1 m4 hfix1 e4.n e4.f⟩
    cases af with
    | next => simp only [RFl] at hfl; subst hfl; exact fin k4
    | cont => simp only [RFl] at hfl; subst hfl; exact fin k4
    | brk => simp only [RFl] at hfl; subst hfl; exact ⟨.next, σ4, m4, k4, e04, hr4, hf4, rfl⟩
    | ret v => have hfl' := hfl; simp only [RFl] at hfl'; obtain ⟨cv, rfl, _⟩ := hfl'; exact ⟨.ret v, σ4, m4, k4, e04, hr4, hf4, hfl⟩
  · have : i = N := by omega
    subst this
    obtain ⟨hinv, hK⟩ := hN σ1 hj1
    refine noE_any (W.last A σ1.H m1 s1 _ hA.handled hinv hfix1 hr1 hd1.told hS1 fun h' tk hk => ?_)
    obtain ⟨L, hr2, hf2⟩ := hid_turn (s' := { s1 with heap := h', toks := tk }) hd1 hr1 hf1 hk (fun o z => W.notup i _ o hS1 z) rfl
    exact wpAny_execs_nil ⟨.next, σ1, m1, hK, ext_hid he1 h0 hk rfl rfl, hr2, hf2, rfl⟩
theorem ES.while_ {t : PySem.Expr} (J : Nat → St → Prop)
    (hJ : ∀ n σ, J n σ → ET X r t σ fun b σ1 => (b = true → ES X r (execs body X.env) σ1 (LoopK KF fun σ2 => ∃ n', n' < n ∧ J n' σ2)) ∧ (b = false → KF .next σ1))
    (n : Nat) (hj : J n σ) : ES X r (exec (.While t body [] pos) X.env) σ KF := fun A m s hA hr hf => by
  refine wpAny_While ?_
  refine codeAny_whileLoop (WhileI X J σ.H m s) ?_ n ⟨σ, m, hj, .refl _ G hr, hr, hf⟩
  rintro n s1 ⟨σ1, m1, hj1, he1, hr1, hf1⟩
  refine noE_any (wpAny_mono (hJ n σ1 hj1 A m1 s1 hA hr1 hf1) (fun c s2 q0 => ?_) fun _ _ x => x)
  obtain ⟨b, σ2, m2, k2, e2, hr2, hf2, hc⟩ := q0
  subst hc
  cases b with
  | false =>
    refine wpAny_execs_nil ⟨.next, σ2, m2, k2.2 rfl, he1.trans e2, hr2, hf2, rfl⟩
  | true =>
    refine noE_any (wpAny_mono (k2.1 rfl A m2 s2 hA hr2 hf2) (fun f s4 q0 => ?_) fun _ _ x => x)
    obtain ⟨af, σ4, m4, k4, e4, hr4, hf4, hfl⟩ := q0
    have e04 := (he1.trans e2).trans e4
    cases af with
    | next => simp only [RFl] at hfl; subst hfl; obtain ⟨n', hn, hj⟩ := k4; exact ⟨n', hn, σ4, m4, hj, e04, hr4, hf4⟩
    | cont => simp only [RFl] at hfl; subst hfl; obtain ⟨n', hn, hj⟩ := k4; exact ⟨n', hn, σ4, m4, hj, e04, hr4, hf4⟩
    | brk => simp only [RFl] at hfl; subst hfl; exact ⟨.next, σ4, m4, k4, e04, hr4, hf4, rfl⟩
    | ret v => have hfl' := hfl; simp only [RFl] at hfl'; obtain ⟨cv, rfl, _⟩ := hfl'; exact ⟨.ret v, σ4, m4, k4, e04, hr4, hf4, hfl⟩
end
end Mine
end Pa16
section Pa17
set_option compiler.extract_closed false
open PySem PySem.W PySem.Calls PyProof.Rows
set_option maxRecDepth 100000
set_option linter.unusedVariables false
namespace Mine
variable {G : Gx} {X : Cx G} {r : Nat} {σ : St} {K : AV → St → Prop}
noncomputable def PI (X : Cx G) (a : AV) (σ : St) (inv : AH → Prop) (N : Nat) (item : Nat → AV) : Prop :=
  ∀ A m s ca Q, A.handled = none → HR G σ.H m s → FR X σ.ρ σ.H m s → RV G.fv s.heap m a ca →
    (∀ I S o fix, Itr G inv fix I S N item → fix m → s.heap.get? I = none → (∀ a o', s.heap.get? a = some o' → (s.heap.push o).get? a = some o') → S 0 (s.heap.push o) → Q (.ref I) { s with heap := s.heap.push o }) → wpAny (model G.prog G.w) A (pyIter ca) Q NoE s
theorem frozen_cls {o : Obj} (z : Frozen o) : o.cls = .type "tuple" ∨ o.cls = .type "range" := by
  cases z
  · exact .inl rfl
  · exact .inr rfl
theorem itr_rng (G : Gx) (I : Addr) (lo hi : Int) : Itr G (fun _ => True) (fun _ => True) I (fun i h => i ≤ (hi - lo).toNat ∧ IsRangeIter h I (lo + i) (((hi - lo).toNat - i : Nat) : Int) 1) (hi - lo).toNat (fun i => .int (lo + i)) where
  mono := fun _ _ _ _ _ => trivial
  keep := fun i h h' ⟨l, e⟩ k => ⟨l, k _ e⟩
  notup := fun i h o ⟨_, e⟩ z q => by
    rw [e] at q; cases q
    have := frozen_cls z
    rcases this with h | h <;> simp at h
  live := fun i h ⟨_, e⟩ => by rw [e]; rfl
  next := fun i A H m s Q hi' hA _ _ hr hd ⟨hl, hS⟩ hQ => by
    refine wpAny_pyNext_range_item hS (by omega) fun h' hit hs => ?_
    refine hQ _ h' _ ⟨hi', ?_⟩ (fun a o hne e => (hs.2 a hne).trans e) (rv_int _)
    have e1 : lo + (i : Int) + 1 = lo + ((i + 1 : Nat) : Int) := by omega
    have e2 : (((hi - lo).toNat - i : Nat) : Int) - 1 = (((hi - lo).toNat - (i + 1) : Nat) : Int) := by omega
    rw [e1, e2] at hit
    exact hit
  last := fun A H m s Q hA _ _ hr hd ⟨hl, hS⟩ hQ => by
    refine wpAny_pyNext_range_end hA hS (by omega) fun h' he => hQ h' s.toks (fun a o hne e => he a o hne e)
  self := fun i A s Q E ⟨_, hS⟩ h => wpAny_pyIter_rangeiter hS h
theorem PI.rng {lo hi : Int} (h1 : -(2 ^ 62) ≤ lo) (h2 : lo < 2 ^ 62) (h3 : -(2 ^ 62) ≤ hi) (h4 : hi < 2 ^ 62) : PI X (.rng lo hi) σ (fun _ => True) (hi - lo).toNat (fun i => .int (lo + i)) := fun A m s ca Q hA hr hf hv hQ => by
  simp only [RV] at hv
  obtain ⟨ad, t, u, w, rfl, e⟩ := hv
  refine wpAny_pyIter_range e (small_one h1 h2 h3 h4) (hQ _ _ _ _ (itr_rng G s.heap.objs.size lo hi) trivial (Heap.get?_none_of_le (by simp)) (fun a o e => Heap.get?_push_of_some _ e) ?_)
  refine ⟨Nat.zero_le _, ?_⟩
  have : Builtin.Range.rangeSize lo hi 1 = (((hi - lo).toNat - 0 : Nat) : Int) := by
    rw [rangeSize_one]; split <;> omega
  rw [this]
  have e0 : lo + ((0 : Nat) : Int) = lo := by omega
  show Heap.get? _ _ = _
  rw [e0]
  exact Heap.get?_push_size _ rfl
theorem HR.live {H : AH} {m : Mp} {s : Shared} (hr : HR G H m s) {n : Nat} {x : AO} (h : H n = some x) : n < m.n := hr.dom n x h
theorem itr_list (G : Gx) (I L : Addr) (n : Nat) (xs : List AV) : Itr G (fun H => H n = some (.list xs)) (fun m => n < m.n ∧ m.f n = L) I (fun i h => h.IsListIter I L i) xs.length (fun i => xs.getD i .none) where
  mono := fun m m' ⟨h1, h2⟩ h3 h4 => ⟨Nat.lt_of_lt_of_le h1 h3, (h4 n h1).trans h2⟩
  keep := fun i h h' ⟨o, e, q⟩ k => ⟨o, k _ e, q⟩
  notup := fun i h o ⟨o', e, hc, hd⟩ z q => by
    rw [e] at q; cases q
    cases z <;> simp at hc
  live := fun i h ⟨o, e, _⟩ => by rw [e]; rfl
  next := fun i A H m s Q hi' hA hH hfx hr hd hS hQ => by
    obtain ⟨vs, k, ho, hv⟩ := hr.list hH
    rw [hfx.2] at ho
    obtain ⟨c, hc, hcv⟩ := rvs_get (i := i) (x := xs.getD i .none) hv (by simp [hi'])
    refine wpAny_pyNext_list_item hS (items := vs.toArray) ⟨_, ho, rfl, k, rfl⟩ (x := c) (by simpa using hc) fun h' hit hs => ?_
    exact hQ _ h' s.toks hit (fun a o hne e => (hs.2 a hne).trans e) hcv
  last := fun A H m s Q hA hH hfx hr hd hS hQ => by
    obtain ⟨vs, k, ho, hv⟩ := hr.list hH
    rw [hfx.2] at ho
    have := rvs_len hv
    exact wpAny_pyNext_list_end hA hS (items := vs.toArray) ⟨_, ho, rfl, k, rfl⟩ (by simp [this]) fun h' he => hQ h' s.toks (fun a o hne e => he a o hne e)
  self := fun i A s Q E hS h => wpAny_pyIter_listiter hS h
theorem PI.list {n : Nat} {xs : List AV} (hn : σ.H n = some (.list xs)) : PI X (.ref n) σ (fun H => H n = some (.list xs)) xs.length (fun i => xs.getD i .none) := fun A m s ca Q hA hr hf hv hQ => by
  obtain ⟨hlt, rfl⟩ := inv_ref hv
  obtain ⟨vs, k, ho, hv⟩ := hr.list hn
  exact wpAny_pyIter_list (items := vs.toArray) ⟨_, ho, rfl, k, rfl⟩ (hQ _ _ _ _ (itr_list G s.heap.objs.size (m.f n) n xs) ⟨hlt, rfl⟩ (Heap.get?_none_of_le (by simp)) (fun a o e => Heap.get?_push_of_some _ e) ⟨_, Heap.get?_push_size _ rfl, rfl, rfl⟩)
theorem itr_str (G : Gx) (I : Addr) (x : Str) (t : Tok) (ty : String) (hty : ty = "str_iterator" ∨ ty = "str_ascii_iterator") : Itr G (fun _ => True) (fun _ => True) I (fun i h => h.IsStrIter I ty x t i) x.cps.size (fun i => .str ⟨#[x.cps.getD i 0]⟩) where
  mono := fun _ _ _ _ _ => trivial
  keep := fun i h h' ⟨o, e, q⟩ k => ⟨o, k _ e, q⟩
  notup := fun i h o ⟨o', e, hc, hd⟩ z q => by
    rw [e] at q; cases q
    cases z <;> rcases hty with rfl | rfl <;> simp at hc
  live := fun i h ⟨o, e, _⟩ => by rw [e]; rfl
  next := fun i A H m s Q hi' hA _ _ hr hd hS hQ => by
    rcases hty with rfl | rfl
    · refine wpAny_pyNext_wide_item hS (c := x.cps.getD i 0) (by simp [hi']) fun h' hit hs => ?_
      exact hQ _ h' _ hit (fun a o hne e => (hs.2 a hne).trans e) (rv_str _)
    · refine wpAny_pyNext_ascii_item hS (c := x.cps.getD i 0) (by simp [hi']) fun h' hit hs => ?_
      exact hQ _ h' _ hit (fun a o hne e => (hs.2 a hne).trans e) (rv_str _)
  last := fun A H m s Q hA _ _ hr hd hS hQ => by
    rcases hty with rfl | rfl
    · exact wpAny_pyNext_wide_end hA hS (by simp) fun h' he => hQ h' s.toks (fun a o hne e => he a o hne e)
    · exact wpAny_pyNext_ascii_end hA hS (by simp) fun h' he => hQ h' s.toks (fun a o hne e => he a o hne e)
  self := fun i A s Q E hS h => by
    rcases hty with rfl | rfl
    · exact wpAny_pyIter_striter_wide hS h
    · exact wpAny_pyIter_striter_ascii hS h
theorem PI.str {x : Str} : PI X (.str x) σ (fun _ => True) x.cps.size (fun i => .str ⟨#[x.cps.getD i 0]⟩) := fun A m s ca Q hA hr hf hv hQ => by
  obtain ⟨t, rfl⟩ := inv_str hv
  cases ha : x.cps.all (· < 128)
  · exact wpAny_pyIter_wide ha (hQ _ _ _ _ (itr_str G _ x t _ (.inl rfl)) trivial (Heap.get?_none_of_le (by simp)) (fun a o e => Heap.get?_push_of_some _ e) ⟨_, Heap.get?_push_size _ rfl, rfl, rfl⟩)
  · exact wpAny_pyIter_ascii ha (hQ _ _ _ _ (itr_str G _ x t _ (.inr rfl)) trivial (Heap.get?_none_of_le (by simp)) (fun a o e => Heap.get?_push_of_some _ e) ⟨_, Heap.get?_push_size _ rfl, rfl, rfl⟩)
theorem hid_new {m : Mp} {s : Shared} {I : Addr} (hr : HR G σ.H m s) (hf : FR X σ.ρ σ.H m s) (h : s.heap.get? I = none) : Hid X σ m I := by
  refine ⟨fun j o e q => ?_, fun q => ?_, ?_⟩
  · obtain ⟨o', h1, _⟩ := hr.obj j o e
    rw [q, h] at h1; cases h1
  · have := hf.live q
    rw [h] at this; cases this
  · cases q : G.h₀.get? I with
    | none => rfl
    | some o => rw [hr.base I o q] at h; cases h
section
variable {KF : AF → St → Prop} {x : Str} {k : Nat} {pos pos' : Pos} {body : List Stmt} {e : PySem.Expr}
inductive ForQ (X : Cx G) (r k : Nat) (body : List Stmt) (KF : AF → St → Prop) (a : AV) (σ1 : St) : Prop
  | mk (inv : AH → Prop) (N : Nat) (item : Nat → AV) (J : Nat → St → Prop) (hp : PI X a σ1 inv N item) (hj : J 0 σ1)
      (h1 : ∀ i σ, i < N → J i σ → inv σ.H ∧ ES X r (execs body X.env) ⟨σ.ρ.set k (some (item i)), σ.H⟩ (LoopK KF (J (i + 1)))) (h2 : ∀ σ, J N σ → inv σ.H ∧ KF .next σ) : ForQ X r k body KF a σ1
theorem ES.for_ (hx : X.res x = some (.loc k true)) (h : EV X r (eval e X.env) σ (ForQ X r k body KF))
    (hs : ∀ v, foldedSetIterable e X.env v = pure v := by intro _; rfl) : ES X r (exec (.For (.Name x pos') e body [] pos) X.env) σ KF := fun A m s hA hr hf => by
  refine wpAny_For (wpAny_mono (h A m s hA hr hf) (fun ca s1 q0 => ?_) fun _ _ x => x) hs
  obtain ⟨a, σ1, m1, ⟨inv, N, item, J, hp, hj, h1, h2⟩, e1, hr1, hf1, ha⟩ := q0
  refine noE_any (hp A m1 s1 ca _ hA.handled hr1 hf1 ha fun I S o fix W hfix hI hk hS => ?_)
  have hr2 := HR.grow (s' := { s1 with heap := s1.heap.push o }) hr1 hk hr1.gens
  have hf2 := FR.grow (s' := { s1 with heap := s1.heap.push o }) hf1 hk
  have hd := hid_new hr1 hf1 hI
  have e2 : Ext X.own σ1.H m1 s1 σ1.H m1 { s1 with heap := s1.heap.push o } := .grow hr1 hk rfl rfl
  have := for_core (E := fun e s' => cameBackBy (model G.prog G.w) A X.env NoE e s') (pos' := pos') W hx J h1 h2 hA (σ0 := σ1) (m0 := m1) (s0 := s1) hI hj e2 hr2 hf2 hd hS hfix
  exact codeAny_mono this fun q s' hq => by
    cases q with
    | ok f => exact PostG.trans e1 hq
    | error e => exact hq
end
end Mine
end Pa17
section Pa18
set_option compiler.extract_closed false
open PySem PySem.W PySem.Calls PyProof.Rows
set_option maxRecDepth 100000
set_option linter.unusedVariables false
set_option linter.unusedSimpArgs false
namespace Mine
variable {G : Gx}
noncomputable def idxOf (x : Str) : List (Str × NameKind) → Nat
  | [] => 0
  | (n, _) :: r => if x == n then 0 else idxOf x r + 1
noncomputable def resOf (names : List (Str × NameKind)) (gt : List (Str × Nat)) (wr : Bool) (x : Str) : Option Res := match names.lookup x with
  | some .local => some (.loc (idxOf x names) true)
  | some .cell => some (.loc (idxOf x names) wr)
  | some .free => some (.loc (idxOf x names) false)
  | some .globalImplicit => (gt.lookup x).map .glob
  | _ => none
theorem idxOf_get : ∀ {names : List (Str × NameKind)} {x : Str} {k : NameKind}, names.lookup x = some k → (names[idxOf x names]?).map (·.1) = some x
  | [], _, _, h => by simp at h
  | (n, k') :: r, x, k, h => by
    rw [List.lookup_cons] at h
    unfold idxOf
    cases hx : x == n with
    | true => simp only [hx, if_true, List.getElem?_cons_zero, Option.map_some]; rw [beq_iff_eq.mp hx]
    | false =>
      rw [hx] at h
      simp only [hx, Bool.false_eq_true, if_false, List.getElem?_cons_succ]
      exact idxOf_get h
theorem resOf_idx {names : List (Str × NameKind)} {gt : List (Str × Nat)} {wr : Bool} {x : Str} {k : Nat} {b : Bool} (h : resOf names gt wr x = some (.loc k b)) : k = idxOf x names ∧ ∃ kd, names.lookup x = some kd ∧ ((kd = .local ∧ b = true) ∨ (kd = .cell ∧ b = wr) ∨ (kd = .free ∧ b = false)) := by
  unfold resOf at h
  cases hl : names.lookup x with
  | none => rw [hl] at h; cases h
  | some kd =>
    rw [hl] at h
    cases kd <;> simp at h
    · exact ⟨h.1.symm, _, rfl, .inl ⟨rfl, h.2⟩⟩
    · exact ⟨h.1.symm, _, rfl, .inr (.inl ⟨rfl, h.2.symm⟩)⟩
    · exact ⟨h.1.symm, _, rfl, .inr (.inr ⟨rfl, h.2⟩)⟩
theorem resOf_inj {names : List (Str × NameKind)} {gt : List (Str × Nat)} {wr : Bool} {x y : Str} {k : Nat} {b b' : Bool} (h : resOf names gt wr x = some (.loc k b)) (h' : resOf names gt wr y = some (.loc k b')) : x = y := by
  obtain ⟨e, kd, hl, _⟩ := resOf_idx h
  obtain ⟨e', kd', hl', _⟩ := resOf_idx h'
  have g := idxOf_get hl
  have g' := idxOf_get hl'
  rw [← e] at g; rw [← e'] at g'
  rw [g] at g'
  exact Option.some.inj g'
theorem resOf_glob {names : List (Str × NameKind)} {gt : List (Str × Nat)} {wr : Bool} {x : Str} {k : Nat} (h : resOf names gt wr x = some (.glob k)) : names.lookup x = some .globalImplicit ∧ gt.lookup x = some k := by
  unfold resOf at h
  cases hl : names.lookup x with
  | none => rw [hl] at h; cases h
  | some kd =>
    rw [hl] at h
    cases kd <;> simp at h
    exact ⟨rfl, h⟩
noncomputable def plainNames (names : List (Str × NameKind)) : Bool := names.all fun x => !(x.1 == ("__debug__" : Str)) && !(x.1 == ("__classdict__" : Str))
theorem plainNames_of {names : List (Str × NameKind)} (h : plainNames names = true) {x : Str} {k : NameKind} (hl : names.lookup x = some k) : (x == ("__debug__" : Str)) = false ∧ (x == ("__classdict__" : Str)) = false := by
  have hm : (x, k) ∈ names := PySem.mem_of_lookup hl
  have := List.all_eq_true.mp h _ hm
  simpa using this
noncomputable def GT (G : Gx) (gt : List (Str × Nat)) : Prop := ∀ x k, gt.lookup x = some k → G.mg x = some (G.fv k) ∨ (G.mg x = none ∧ G.mb x = some (G.fv k))
noncomputable def mkCx (G : Gx) (gt : List (Str × Nat)) (hgt : GT G gt) (env : Env) (names : List (Str × NameKind)) (wr : Bool) (hpl : plainNames names = true) (hk : env.scope.kind = .function) (hg : env.globals = mainGlobals) (hb : env.builtins = builtinsNs)
    (hn : ∀ x k, names.lookup x = some k → env.kindOf x = some k ∨ (k = .free ∧ env.kindOf x = some .cell))
    (hc : ∀ x k, names.lookup x = some k → k = .cell ∨ k = .free → ∃ c, env.cells.lookup x = some c)
    (ci : ∀ x y c, env.cells.lookup x = some c → env.cells.lookup y = some c → x = y) (cl : ∀ x c, env.cells.lookup x = some c → c ≠ env.locals) : Cx G where
  env := env
  res := resOf names gt wr
  kind := hk
  globals := hg
  builtins := hb
  loc := fun x k b h => by
    obtain ⟨_, kd, hl, hkd⟩ := resOf_idx h
    obtain ⟨h1, h2⟩ := plainNames_of hpl hl
    refine ⟨h1, h2, ?_⟩
    rcases hkd with ⟨rfl, rfl⟩ | ⟨rfl, rfl⟩ | ⟨rfl, rfl⟩
    · rcases hn x _ hl with q | ⟨q, _⟩
      · exact .inl ⟨rfl, q⟩
      · cases q
    · rcases hn x _ hl with q | ⟨q, _⟩
      · exact .inr ⟨.inl q, hc x _ hl (.inl rfl)⟩
      · cases q
    · rcases hn x _ hl with q | ⟨_, q⟩
      · exact .inr ⟨.inr ⟨rfl, q⟩, hc x _ hl (.inr rfl)⟩
      · exact .inr ⟨.inl q, hc x _ hl (.inr rfl)⟩
  inj := fun x y k b b' h h' => resOf_inj h h'
  glob := fun x k h => by
    obtain ⟨hl, hg⟩ := resOf_glob h
    refine ⟨(plainNames_of hpl hl).1, ?_, hgt x k hg⟩
    rcases hn x _ hl with q | ⟨q, _⟩
    · exact q
    · cases q
  cinj := ci
  cL := cl
noncomputable def argOf (ps : List Str) (args : List AV) (x : Str) : Option AV := (ps.zip args).lookup x
noncomputable def rho0 (names : List (Str × NameKind)) (ps : List Str) (args : List AV) : List (Option AV) := names.map fun x => argOf ps args x.1
theorem cells_has : ∀ {names : List (Str × NameKind)} {n : Nat} {acc : List (Str × Addr)} {x : Str}, (names.lookup x = some .cell ∨ (acc.lookup x).isSome = true) → ((cellsFrom n names acc).lookup x).isSome = true
  | [], n, acc, x, h => by
    rcases h with h | h
    · simp at h
    · exact h
  | (y, k) :: r, n, acc, x, h => by
    unfold cellsFrom
    split
    · rename_i hk
      refine cells_has ?_
      by_cases hx : x == y
      · right; simp [List.lookup_cons, hx]
      · rcases h with h | h
        · left; simpa [List.lookup_cons, hx] using h
        · right; simpa [List.lookup_cons, hx] using h
    · rename_i hk
      refine cells_has ?_
      rcases h with h | h
      · by_cases hx : x == y
        · simp [List.lookup_cons, hx] at h; subst h; simp at hk
        · left; simpa [List.lookup_cons, hx] using h
      · right; exact h
theorem bindL_get {kindOf : Str → Option NameKind} : ∀ {binds : List (Str × Value)} {m : Str → Option Value} {x : Str}, kindOf x = some .local → (binds.map (·.1)).Nodup → bindL kindOf binds m x = (match binds.lookup x with | some v => some v | none => m x)
  | [], m, x, hk, hn => rfl
  | (n, v) :: r, m, x, hk, hn => by
    rw [List.map_cons, List.nodup_cons] at hn
    unfold bindL
    rw [bindL_get hk hn.2, List.lookup_cons]
    by_cases hx : x == n
    · have e := beq_iff_eq.mp hx
      subst e
      have : r.lookup x = none := by
        cases q : r.lookup x with
        | none => rfl
        | some w => exact absurd (List.mem_map.mpr ⟨_, PySem.mem_of_lookup q, rfl⟩) hn.1
      rw [this, hx, if_pos hk]; simp
    · have hne : x ≠ n := fun e => hx (by rw [e]; exact beq_self_eq_true n)
      simp only [hx]
      cases r.lookup x with
      | some w => rfl
      | none => by_cases hkn : kindOf n = some .local
                · simp [hkn, hne]
                · simp [hkn]
theorem bindC_get {kindOf : Str → Option NameKind} : ∀ {binds : List (Str × Value)} {m : Str → Option Value} {x : Str}, kindOf x ≠ some .local → (binds.map (·.1)).Nodup → bindC kindOf binds m x = (match binds.lookup x with | some v => some v | none => m x)
  | [], m, x, hk, hn => rfl
  | (n, v) :: r, m, x, hk, hn => by
    rw [List.map_cons, List.nodup_cons] at hn
    unfold bindC
    rw [bindC_get hk hn.2, List.lookup_cons]
    by_cases hx : x == n
    · have e := beq_iff_eq.mp hx
      subst e
      have : r.lookup x = none := by
        cases q : r.lookup x with
        | none => rfl
        | some w => exact absurd (List.mem_map.mpr ⟨_, PySem.mem_of_lookup q, rfl⟩) hn.1
      rw [this, hx, if_neg hk]; simp
    · have hne : x ≠ n := fun e => hx (by rw [e]; exact beq_self_eq_true n)
      simp only [hx]
      cases r.lookup x with
      | some w => rfl
      | none => by_cases hkn : kindOf n = some .local
                · simp [hkn]
                · simp [hkn, hne]
theorem rvs_lookup {h : Heap} {m : Mp} : ∀ {ps : List Str} {args : List AV} {cs : List Value} {x : Str} {v : AV}, RVs G.fv h m args cs → (ps.zip args).lookup x = some v → ∃ c, (ps.zip cs).lookup x = some c ∧ RV G.fv h m v c
  | [], args, cs, x, v, hr, hl => by simp at hl
  | p :: ps, [], cs, x, v, hr, hl => by simp at hl
  | p :: ps, a :: args, cs, x, v, hr, hl => by
    simp only [RVs] at hr
    obtain ⟨c, r, rfl, h1, h2⟩ := hr
    simp only [List.zip_cons_cons, List.lookup_cons] at hl ⊢
    cases hx : x == p with
    | true => simp only [hx] at hl ⊢; cases hl; exact ⟨c, rfl, h1⟩
    | false => simp only [hx] at hl ⊢; exact rvs_lookup h2 hl
noncomputable def RetK (K : AV → AH → Prop) : AF → St → Prop
  | .ret v, σ => K v σ.H
  | .next, σ => K .none σ.H
  | _, _ => False
inductive PostT (G : Gx) (own : Addr → Prop) (H0 : AH) (m : Mp) (s : Shared) (K : AF → AH → Prop) (cf : Flow) (s' : Shared) : Prop
  | mk (f : AF) (H' : AH) (m' : Mp) (hK : K f H') (hE : Ext own H0 m s H' m' s') (hR : HR G H' m' s') (hv : RFl G.fv s'.heap m' f cf) : PostT G own H0 m s K cf s'
noncomputable def TS (X : Cx G) (r : Nat) (t : Sem Flow) (σ : St) (K : AF → AH → Prop) : Prop :=
  ∀ A m s, OkA r A → HR G σ.H m s → FR X σ.ρ σ.H m s → wpAny (model G.prog G.w) A t (PostT G X.own σ.H m s K) NoE s
theorem ES.tail {X : Cx G} {r : Nat} {t : Sem Flow} {σ : St} {K : AF → AH → Prop} (h : ES X r t σ fun f σ' => K f σ'.H) : TS X r t σ K := fun A m s hA hr hf =>
  wpAny_mono (h A m s hA hr hf) (fun cf s' q1x => by obtain ⟨f, σ', m', k, e, hr', hf', hfl⟩ := q1x; exact ⟨f, σ'.H, m', k, e, hr', hfl⟩) fun _ _ x => x
noncomputable def RetA (K : AV → AH → Prop) : AF → AH → Prop
  | .ret v, H => K v H
  | .next, H => K .none H
  | _, _ => False
noncomputable def SeqT (X : Cx G) (r : Nat) (rest : List Stmt) (K : AF → AH → Prop) : AF → St → Prop
  | .next, σ1 => TS X r (execs rest X.env) σ1 K
  | .brk, σ1 => K .brk σ1.H
  | .cont, σ1 => K .cont σ1.H
  | .ret v, σ1 => K (.ret v) σ1.H
section
variable {X : Cx G} {r : Nat} {rest : List Stmt} {σ : St} {K : AF → AH → Prop}
theorem SeqT_next (h : TS X r (execs rest X.env) σ K) : SeqT X r rest K .next σ := h
theorem SeqT_brk (h : K .brk σ.H) : SeqT X r rest K .brk σ := h
theorem SeqT_cont (h : K .cont σ.H) : SeqT X r rest K .cont σ := h
theorem SeqT_ret {v : AV} (h : K (.ret v) σ.H) : SeqT X r rest K (.ret v) σ := h
end
theorem TS.cons {X : Cx G} {r : Nat} {st : Stmt} {rest : List Stmt} {σ : St} {K : AF → AH → Prop} (h : ES X r (exec st X.env) σ (SeqT X r rest K)) : TS X r (execs (st :: rest) X.env) σ K := fun A m s hA hr hf => by
  refine wpAny_execs_cons (wpAny_mono (h A m s hA hr hf) (fun cf s1 q0 => ?_) fun _ _ x => x)
  obtain ⟨f, σ1, m1, k, e1, hr1, hf1, hc⟩ := q0
  cases f with
  | next => simp only [RFl] at hc; subst hc; exact wpAny_mono (k A m1 s1 hA hr1 hf1) (fun _ _ q2x => by obtain ⟨f, H', m', k2, e2, hr2, hfl⟩ := q2x; exact ⟨f, H', m', k2, e1.trans e2, hr2, hfl⟩) fun _ _ x => x
  | brk => have hc' := hc; simp only [RFl] at hc'; subst hc'; exact ⟨.brk, σ1.H, m1, k, e1, hr1, hc⟩
  | cont => have hc' := hc; simp only [RFl] at hc'; subst hc'; exact ⟨.cont, σ1.H, m1, k, e1, hr1, hc⟩
  | ret v => have hc' := hc; simp only [RFl] at hc'; obtain ⟨cv, rfl, _⟩ := hc'; exact ⟨.ret v, σ1.H, m1, k, e1, hr1, hc⟩
theorem OkA.deeper {r : Nat} {A : Around} (h : OkA (r + 1) A) (env : Env) : OkA r (A.deeper env) := ⟨h.handled, by have := h.depth; show A.depth + 1 + 2 * r < _; omega, by have := h.units; show A.units + 3 + 20 * r + 40 < _; omega⟩
theorem call_enter {r : Nat} {k : Nat} {a : Addr} {o : Obj} {fd : FuncData} {body : List Stmt} {gt : List (Str × Nat)} {ps : List Str} {args : List AV} {H : AH} {K : AV → AH → Prop} (hgt : GT G gt) (hfv : G.fv k = .ref a) (ho : G.h₀.get? a = some o) (hdata : o.data = .func fd)
    (hcd : G.h₀.CodeRec fd.code fd.qualname) (hbody : fd.body = .stmts body) (hgl : fd.globals = mainGlobals) (hbt : fd.builtins = builtinsNs) (hclo : fd.closure = []) (hco : fd.scope.isCoroutine = false) (hgen : fd.scope.isGenerator = false) (hk : fd.scope.kind = .function)
    (hpl : plainNames fd.scope.names = true) (hnf : fd.scope.names.all (fun x => x.2 != .free) = true) (hnd : ps.Nodup) (hps : ps.all (fun p => fd.scope.names.lookup p == some .local || fd.scope.names.lookup p == some .cell) = true) (hlen : ps.length = args.length)
    (hbind : ∀ cs : List Value, cs.length = args.length → bindArgs fd ⟨cs, []⟩ = pure (ps.zip cs))
    (h : ∀ X : Cx G, X.res = resOf fd.scope.names gt true → X.env.scope = fd.scope → (∃ L, X.env = callEnvC fd L a) → TS X r (execs body X.env) ⟨rho0 fd.scope.names ps args, H⟩ (RetA K)) : CallOK G (r + 1) (G.fv k) args H K := fun A m s cargs hA hr ha => by
  rw [hfv]
  have hL := rvs_len ha
  have hzip : (ps.zip cargs).map (·.1) = ps := by
    rw [← List.unzip_fst, List.unzip_zip (by rw [hL]; exact hlen)]
  have hkind : ∀ x ∈ ps.zip cargs, fd.scope.names.lookup x.1 = some .local ∨ (fd.scope.names.lookup x.1 = some .cell ∧ ((cellsFrom (s.heap.objs.size + 1) fd.scope.names []).lookup x.1).isSome = true) := fun x hx => by
    have hx1 : x.1 ∈ ps := (List.of_mem_zip hx).1
    have := List.all_eq_true.mp hps _ hx1
    rcases Bool.or_eq_true_iff.mp this with q | q
    · exact .inl (beq_iff_eq.mp q)
    · have q := beq_iff_eq.mp q
      exact .inr ⟨q, cells_has (.inl q)⟩
  refine codeAny_call_cells (by have := hA.depth; omega) (hr.base a o ho) hdata ⟨_, G.lim.choose_spec.1.keeps hr.base, G.lim.choose_spec.2⟩ (hcd.keeps hr.base) hbody (hbind cargs hL) hclo hkind (fun s₁ x => ?_) hco hgen hk
  have hkeep := x.toInCall.keep
  obtain ⟨hh, tk, hs1⟩ := x.toInCall.same
  have hcells : ∀ n c, (callEnvC fd s.heap.objs.size a).cells.lookup n = some c → s.heap.get? c = none ∧ c ≠ s.heap.objs.size := fun n c e => by
    have hab := x.above n c (PySem.mem_of_lookup e)
    have : s.heap.objs.size < c := hab
    exact ⟨Heap.get?_none_of_le (Nat.le_of_lt this), Nat.ne_of_gt this⟩
  let X : Cx G := mkCx G gt hgt (callEnvC fd s.heap.objs.size a) fd.scope.names true hpl hk hgl hbt (fun x k e => .inl e) (fun x k e q => by
      rcases q with rfl | rfl
      · exact Option.isSome_iff_exists.mp (cells_has (.inl e))
      · have := List.all_eq_true.mp hnf _ (PySem.mem_of_lookup e); simp at this)
    (fun y z c e e' => name_of_addr x.apart (PySem.mem_of_lookup e) (PySem.mem_of_lookup e')) (fun x c e => (hcells x c e).2)
  have hXown : ∀ b, X.resv b → s.heap.get? b = none := fun b q => by
    rcases q with rfl | ⟨n, _, _, _, q⟩
    · exact Heap.get?_none_of_le (Nat.le_refl _)
    · exact (hcells n b q).1
  have hr1 : HR G H m s₁ := hr.grow hkeep (by rw [hs1]; exact hr.gens)
  have L : Later s.heap m s₁.heap m := ⟨Nat.le_refl _, fun _ _ => rfl, fun b o _ e => hkeep b o e⟩
  have hrho : ∀ x k b v, X.res x = some (.loc k b) → (rho0 fd.scope.names ps args)[k]? = some (some v) → ∃ c, (ps.zip cargs).lookup x = some c ∧ RV G.fv s₁.heap m v c := fun x k b v h1 h3 => by
    obtain ⟨e, kd, hl, _⟩ := resOf_idx (show resOf _ _ _ x = _ from h1)
    subst e
    have hg := idxOf_get hl
    unfold rho0 at h3
    rw [List.getElem?_map] at h3
    cases q : fd.scope.names[idxOf x fd.scope.names]? with
    | none => rw [q] at h3; cases h3
    | some z =>
      rw [q] at h3 hg
      have e1 : z.1 = x := Option.some.inj hg
      have e2 : argOf ps args z.1 = some v := Option.some.inj h3
      rw [e1] at e2
      obtain ⟨c, hc, hv⟩ := rvs_lookup ha e2
      exact ⟨c, hc, hv.later L⟩
  have hf1 : FR X (rho0 fd.scope.names ps args) H m s₁ := by
    refine ⟨⟨_, x.toInCall.ns, fun y k b v h1 h2 h3 => ?_⟩, fun y k b c h1 h2 h3 => ⟨_, x.cell y c h3, fun v h4 => ?_⟩, fun y k b c _ e => ⟨_, x.cell y c e⟩, fun i o e q => ?_, fun b q => ?_⟩
    · obtain ⟨c, hc, hv⟩ := hrho y k b v h1 h3
      refine ⟨c, ?_, hv⟩
      have := bindL_get (kindOf := (callEnvC fd s.heap.objs.size a).kindOf) (binds := ps.zip cargs) (m := fun _ => none) h2 (by rw [hzip]; exact hnd)
      rw [this, hc]
    · obtain ⟨c', hc, hv⟩ := hrho y k b v h1 h4
      refine ⟨c', ?_, hv⟩
      have := bindC_get (kindOf := (callEnvC fd s.heap.objs.size a).kindOf) (binds := ps.zip cargs) (m := fun _ => none) h2 (by rw [hzip]; exact hnd)
      rw [this, hc]
    · have := hXown _ q
      obtain ⟨o', h1, _⟩ := hr.obj i o e
      rw [this] at h1; cases h1
    · cases q1 : G.h₀.get? b with
      | none => rfl
      | some o' => have := hr.base b o' q1; rw [hXown b (Cx.own_resv q)] at this; cases this
  refine noE_any (wpAny_mono (h X rfl rfl ⟨_, rfl⟩ _ m s₁ (hA.deeper _) hr1 hf1) (fun f s2 q0 => ?_) fun _ _ x => x)
  obtain ⟨af, H2, m2, k2, e2, hr2, hfl⟩ := q0
  have e0 : Ext (fun _ => False) H m s H2 m2 s2 := by
    refine ⟨e2.n, e2.f, fun i o q => ?_, fun b o q1 q2 _ => e2.kept b o (hkeep b o q1) q2 (fun q => ?_), fun b o z q => e2.tup b o z (hkeep b o q), e2.os.trans (by rw [hs1]), fun g z q => e2.gens g z (by rw [hs1]; exact q), fun b q => e2.live b ?_⟩
    · rcases e2.fresh i o q with q | ⟨q1, q2⟩
      · exact .inl q
      · refine .inr ⟨q1, .inl (q2.elim (fun q2 => ?_) fun q2 => hXown _ (Cx.own_resv q2))⟩
        cases q3 : s.heap.get? (m2.f i) with
        | none => rfl
        | some o' => rw [hkeep _ _ q3] at q2; cases q2
    · have := hXown b (Cx.own_resv q)
      rw [q1] at this; cases this
    · cases q1 : s.heap.get? b with
      | none => rw [q1] at q; cases q
      | some o' => rw [hkeep b o' q1]; rfl
  cases af with
  | ret v => simp only [RFl] at hfl; obtain ⟨cv, rfl, hv⟩ := hfl; exact ⟨v, H2, m2, k2, e0, hr2, hv⟩
  | next => simp only [RFl] at hfl; subst hfl; exact ⟨.none, H2, m2, k2, e0, hr2, rv_none⟩
  | brk => exact k2.elim
  | cont => exact k2.elim
end Mine
end Pa18
section Pa19
set_option compiler.extract_closed false
open PySem PySem.W PySem.Calls PyProof.Rows
set_option maxRecDepth 100000
set_option linter.unusedVariables false
set_option linter.unusedSimpArgs false
namespace Mine
variable {G : Gx} {X : Cx G} {r : Nat} {σ : St} {K : AV → St → Prop}
noncomputable def clOf (cells : List (Str × Addr)) : List (Str × NameKind) → List (Str × Addr) → List (Str × Addr)
  | [], acc => acc
  | (n, k) :: r, acc => if k == .free then clOf cells r ((n, (cells.lookup n).getD 0) :: acc) else clOf cells r acc
theorem closure_go {env : Env} : ∀ (names : List (Str × NameKind)) (acc : List (Str × Addr)), (∀ x ∈ names, x.2 = .free → ∃ c, env.cells.lookup x.1 = some c) →
    (forIn names acc fun x r => (do
      match x with
      | (name, kind) => if kind == .free then do let c ← cellOf env name; pure (ForInStep.yield ((name, c) :: r)) else pure (ForInStep.yield r) : Sem (ForInStep (List (Str × Addr))))) = (pure (clOf env.cells names acc) : Sem (List (Str × Addr)))
  | [], acc, h => rfl
  | (n, k) :: r, acc, h => by
    have ih := fun acc => closure_go r acc fun x hx => h x (List.mem_cons_of_mem _ hx)
    rw [List.forIn_cons]
    unfold clOf
    cases hk : k == NameKind.free with
    | true =>
      obtain ⟨c, hc⟩ := h _ List.mem_cons_self (beq_iff_eq.mp hk)
      have hc : env.cells.lookup n = some c := hc
      simp only [hk, if_true, cellOf, hc, pure_bind, Option.getD_some]
      exact ih _
    | false =>
      simp only [hk, Bool.false_eq_true, if_false, pure_bind]
      exact ih _
theorem closureFor_eq {scope : Scope} {env : Env} (h : ∀ x ∈ scope.names, x.2 = .free → ∃ c, env.cells.lookup x.1 = some c) : closureFor scope env = pure (clOf env.cells scope.names []) := by
  have := closure_go (env := env) scope.names [] h
  unfold closureFor
  rw [← this]
  simp only [bind_pure]
theorem clOf_mem {cells : List (Str × Addr)} : ∀ {names : List (Str × NameKind)} {acc : List (Str × Addr)} {x : Str} {c : Addr}, (x, c) ∈ clOf cells names acc → (x, c) ∈ acc ∨ ((x, NameKind.free) ∈ names ∧ c = (cells.lookup x).getD 0)
  | [], acc, x, c, h => .inl h
  | (n, k) :: r, acc, x, c, h => by
    unfold clOf at h
    split at h
    · rename_i hk
      rcases clOf_mem h with h | ⟨h1, h2⟩
      · rcases List.mem_cons.mp h with h | h
        · cases h; exact .inr ⟨by rw [← beq_iff_eq.mp hk]; exact List.mem_cons_self, rfl⟩
        · exact .inl h
      · exact .inr ⟨List.mem_cons_of_mem _ h1, h2⟩
    · rcases clOf_mem h with h | ⟨h1, h2⟩
      · exact .inl h
      · exact .inr ⟨List.mem_cons_of_mem _ h1, h2⟩
theorem clOf_has {cells : List (Str × Addr)} : ∀ {names : List (Str × NameKind)} {acc : List (Str × Addr)} {x : Str}, ((x, NameKind.free) ∈ names ∨ ∃ c, (x, c) ∈ acc) → ∃ c, (x, c) ∈ clOf cells names acc
  | [], acc, x, h => by
    rcases h with h | h
    · cases h
    · exact h
  | (n, k) :: r, acc, x, h => by
    unfold clOf
    split
    · rename_i hk
      refine clOf_has ?_
      rcases h with h | ⟨c, h⟩
      · rcases List.mem_cons.mp h with h | h
        · cases h; exact .inr ⟨_, List.mem_cons_self⟩
        · exact .inl h
      · exact .inr ⟨c, List.mem_cons_of_mem _ h⟩
    · rename_i hk
      refine clOf_has ?_
      rcases h with h | h
      · rcases List.mem_cons.mp h with h | h
        · cases h; simp at hk
        · exact .inl h
      · exact .inr h
theorem lookup_of_mem {α : Type} : ∀ {l : List (Str × α)} {x : Str} {c : α}, (x, c) ∈ l → ∃ c', l.lookup x = some c'
  | (y, d) :: r, x, c, h => by
    rw [List.lookup_cons]
    cases hx : x == y with
    | true => exact ⟨d, rfl⟩
    | false =>
      rcases List.mem_cons.mp h with h | h
      · cases h; simp at hx
      · exact lookup_of_mem h
noncomputable def nodupNames (names : List (Str × NameKind)) : Bool := names.all fun x => names.lookup x.1 == some x.2
theorem FR.ext' {own : Addr → Prop} {ρ : List (Option AV)} {H H' : AH} {m m' : Mp} {s s' : Shared} (F : FR X ρ H m s) (hown : ∀ a, own a → s.heap.get? a = none) (e : Ext own H m s H' m' s') : FR X ρ H' m' s' :=
  F.ext ⟨e.n, e.f, fun i o q => (e.fresh i o q).imp id fun ⟨h1, h2⟩ => ⟨h1, .inl (h2.elim id (hown _))⟩, fun a o h1 h2 _ => e.kept a o h1 h2 (fun q => by rw [hown a q] at h1; cases h1), e.tup, e.os, e.gens, e.live⟩
theorem Ext.drop {own own' : Addr → Prop} {H H' : AH} {m m' : Mp} {s s' : Shared} (hown : ∀ a, own a → s.heap.get? a = none) (e : Ext own H m s H' m' s') : Ext own' H m s H' m' s' :=
  ⟨e.n, e.f, fun i o q => (e.fresh i o q).imp id fun ⟨h1, h2⟩ => ⟨h1, .inl (h2.elim id (hown _))⟩, fun a o h1 h2 _ => e.kept a o h1 h2 (fun q => by rw [hown a q] at h1; cases h1), e.tup, e.os, e.gens, e.live⟩
theorem adopt {ρ : List (Option AV)} {H : AH} {m : Mp} {s : Shared} {D : Addr} {o : Obj} {x : AO} (hr : HR G H m s) (hf : FR X ρ H m s) (ht : ∀ j o, H j = some o → m.f j ≠ D) (hv : ¬ X.resv D) (hb : G.h₀.get? D = none) (ho : s.heap.get? D = some o) (hx : RO G s.heap m o x) :
    H m.n = none ∧ HR G (H.upd m.n x) (m.put D) s ∧ FR X ρ (H.upd m.n x) (m.put D) s ∧ Later s.heap m s.heap (m.put D) := by
  have hn : H m.n = none := by
    cases q : H m.n with
    | none => rfl
    | some o => exact absurd (hr.dom _ _ q) (Nat.lt_irrefl _)
  have L : Later s.heap m s.heap (m.put D) := ⟨Nat.le_succ _, fun i hi => Mp.put_lt m D hi, fun a o _ e => e⟩
  have hupd : ∀ i y, (H.upd m.n x) i = some y → (i = m.n ∧ y = x) ∨ (i < m.n ∧ H i = some y) := fun i y e => by
    unfold AH.upd at e
    by_cases q : i = m.n
    · rw [if_pos q] at e; exact .inl ⟨q, (Option.some.inj e).symm⟩
    · rw [if_neg q] at e; exact .inr ⟨hr.dom i y e, e⟩
  refine ⟨hn, ⟨fun i y e => ?_, fun i j y y' e e' q => ?_, fun i y e => ?_, hr.base, fun i y e => ?_, hr.gens, ⟨Nat.lt_succ_of_lt hr.zero.1, (Mp.put_lt m D hr.zero.1).trans hr.zero.2⟩⟩, ⟨?_, ?_, hf.clive, fun i y e => ?_, hf.old⟩, L⟩
  · rcases hupd i y e with ⟨rfl, rfl⟩ | ⟨hi, e'⟩
    · exact Nat.lt_succ_self _
    · exact Nat.lt_succ_of_lt hi
  · rcases hupd i y e with ⟨rfl, rfl⟩ | ⟨hi, e1⟩ <;> rcases hupd j y' e' with ⟨rfl, rfl⟩ | ⟨hj, e2⟩
    · rfl
    · rw [Mp.put_n, Mp.put_lt m D hj] at q; exact absurd q.symm (ht j y' e2)
    · rw [Mp.put_n, Mp.put_lt m D hi] at q; exact absurd q (ht i y e1)
    · rw [Mp.put_lt m D hi, Mp.put_lt m D hj] at q; exact hr.inj i j y y' e1 e2 q
  · rcases hupd i y e with ⟨rfl, rfl⟩ | ⟨hi, e1⟩
    · rw [Mp.put_n]; exact ⟨o, ho, hx.later L⟩
    · obtain ⟨o', h1, h2⟩ := hr.obj i y e1
      rw [Mp.put_lt m D hi]
      exact ⟨o', h1, h2.later L⟩
  · rcases hupd i y e with ⟨rfl, rfl⟩ | ⟨hi, e1⟩
    · rw [Mp.put_n]; exact hb
    · rw [Mp.put_lt m D hi]; exact hr.above i y e1
  · obtain ⟨mp', n', f'⟩ := hf.ns
    exact ⟨mp', n', fun y k b v h1 h2 h3 => let ⟨cv, e, r⟩ := f' y k b v h1 h2 h3; ⟨cv, e, RV.later L _ _ r⟩⟩
  · intro y k b c h1 h2 h3
    obtain ⟨ov, n, f⟩ := hf.cells y k b c h1 h2 h3
    exact ⟨ov, n, fun v h4 => let ⟨cv, e, r⟩ := f v h4; ⟨cv, e, RV.later L _ _ r⟩⟩
  · rcases hupd i y e with ⟨rfl, rfl⟩ | ⟨hi, e1⟩
    · rw [Mp.put_n]; exact hv
    · rw [Mp.put_lt m D hi]; exact hf.apart i y e1
theorem Ext.adopt {own : Addr → Prop} {H0 H : AH} {m0 m : Mp} {s0 s : Shared} {D : Addr} {x : AO} (hr : HR G H m s) (e : Ext own H0 m0 s0 H m s) (h0 : s0.heap.get? D = none ∨ own D) : Ext own H0 m0 s0 (H.upd m.n x) (m.put D) s := by
  refine ⟨Nat.le_trans e.n (Nat.le_succ _), fun i hi => (Mp.put_lt m D (Nat.lt_of_lt_of_le hi e.n)).trans (e.f i hi), fun i o q => ?_, e.kept, e.tup, e.os, e.gens, e.live⟩
  unfold AH.upd at q
  by_cases hi : i = m.n
  · subst hi
    exact .inr ⟨e.n, h0.imp (fun h0 => by rw [Mp.put_n]; exact h0) fun h0 => by rw [Mp.put_n]; exact h0⟩
  · rw [if_neg hi] at q
    have hlt := hr.dom i o q
    rcases e.fresh i o q with h | ⟨h1, h2⟩
    · exact .inl h
    · exact .inr ⟨h1, by rw [Mp.put_lt m D hlt]; exact h2⟩
noncomputable def CT (X : Cx G) (r : Nat) (ifs : List PySem.Expr) (σ : St) (KB : Bool → St → Prop) : Prop :=
  EG relB X r (forIn ifs true fun c r => if r = true then do let ok ← isTrue c X.env (eval c X.env); pure (ForInStep.yield ok) else pure (ForInStep.yield r)) σ KB
theorem CT.nil {KB : Bool → St → Prop} (h : KB true σ) : CT X r [] σ KB := fun A m s hA hr hf => wpAny_tests_nil ⟨true, σ, m, h, .refl _ G hr, hr, hf, rfl⟩
theorem CT.one {t : PySem.Expr} {KB : Bool → St → Prop} (h : ET X r t σ KB) : CT X r [t] σ KB := fun A m s hA hr hf => wpAny_tests_one (h A m s hA hr hf)
noncomputable def rhoC (names : List (Str × NameKind)) (res : Str → Option Res) (ρ : List (Option AV)) : List (Option AV) := names.map fun x => if x.2 == .free then (match res x.1 with | some (.loc j _) => (ρ[j]?).join | _ => none) else none
structure CompCx (X Y : Cx G) (scope : Scope) (gt : List (Str × Nat)) (C : Addr) : Prop where
  env : Y.env = compEnvC scope (clOf X.env.cells scope.names []) C X.env
  res : Y.res = resOf scope.names gt false
  own : ∀ a, Y.own a → a = C
  locals : Y.env.locals = C
theorem exists_comp (gt : List (Str × Nat)) (hgt : GT G gt) {scope : Scope} (hpl : plainNames scope.names = true) (hnd : nodupNames scope.names = true) (hk : scope.kind = .function) (hnc : scope.names.all (fun x => x.2 != .cell) = true)
    (hfree : ∀ x ∈ scope.names, x.2 = .free → ∃ c, X.env.cells.lookup x.1 = some c) {C : Addr} (hC : ∀ x c, (x, NameKind.free) ∈ scope.names → X.env.cells.lookup x = some c → c ≠ C) : ∃ Y : Cx G, CompCx X Y scope gt C := by
  have hcl : ∀ x c, (clOf X.env.cells scope.names []).lookup x = some c → X.env.cells.lookup x = some c ∧ (x, NameKind.free) ∈ scope.names := fun x c h => by
    rcases clOf_mem (PySem.mem_of_lookup h) with h | ⟨h1, h2⟩
    · cases h
    · obtain ⟨c', hc'⟩ := hfree _ h1 rfl
      have hc' : X.env.cells.lookup x = some c' := hc'
      rw [hc'] at h2
      exact ⟨by rw [hc', h2]; rfl, h1⟩
  have hnd' : ∀ x k, (x, k) ∈ scope.names → scope.names.lookup x = some k := fun x k h => beq_iff_eq.mp (List.all_eq_true.mp hnd _ h)
  have hrel : ∀ x k, scope.names.lookup x = some k → (relabel scope X.env).names.lookup x = some k ∨ (k = .free ∧ (relabel scope X.env).names.lookup x = some .cell) := by
    intro x k
    unfold relabel
    simp only
    generalize scope.names = names
    induction names with
    | nil => intro h; simp at h
    | cons p r ih =>
      obtain ⟨n, kd⟩ := p
      intro h
      rw [List.lookup_cons] at h
      rw [List.map_cons]
      by_cases hc : (kd == NameKind.free && X.env.scope.kind == .function && X.env.kindOf n == some .cell) = true
      · show List.lookup x ((if _ then _ else _) :: _) = _ ∨ _ ∧ List.lookup x ((if _ then _ else _) :: _) = _
        rw [if_pos hc]
        cases hx : x == n with
        | true =>
          rw [hx] at h; cases h
          simp only [List.lookup_cons, hx]
          exact .inr ⟨beq_iff_eq.mp (by simp only [Bool.and_eq_true] at hc; exact hc.1.1), trivial⟩
        | false => rw [hx] at h; simp only [List.lookup_cons, hx]; exact ih h
      · show List.lookup x ((if _ then _ else _) :: _) = _ ∨ _ ∧ List.lookup x ((if _ then _ else _) :: _) = _
        rw [if_neg hc]
        cases hx : x == n with
        | true => rw [hx] at h; cases h; simp [List.lookup_cons, hx]
        | false => rw [hx] at h; simp only [List.lookup_cons, hx]; exact ih h
  refine ⟨mkCx G gt hgt (compEnvC scope (clOf X.env.cells scope.names []) C X.env) scope.names false hpl hk X.globals X.builtins hrel (fun x k h q => ?_) (fun x y c h h' => X.cinj x y c (hcl x c h).1 (hcl y c h').1) (fun x c h => hC x c (hcl x c h).2 (hcl x c h).1), rfl, rfl, fun a q => ?_, rfl⟩
  · rcases q with rfl | rfl
    · have := List.all_eq_true.mp hnc _ (PySem.mem_of_lookup h); simp at this
    · obtain ⟨c, hc⟩ := clOf_has (cells := X.env.cells) (acc := []) (.inl (PySem.mem_of_lookup h))
      exact lookup_of_mem hc
  · rcases q with q | ⟨x, k, h1, h2⟩
    · exact q
    · obtain ⟨_, kd, hl, hkd⟩ := resOf_idx (show resOf scope.names gt false x = _ from h1)
      have := hnd' _ _ (hcl x a h2).2
      rw [this] at hl; cases hl
      rcases hkd with ⟨q, _⟩ | ⟨q, _⟩ | ⟨_, q⟩
      · cases q
      · cases q
      · cases q
end Mine
end Pa19
section Pa20
set_option compiler.extract_closed false
open PySem PySem.W PySem.Calls PyProof.Rows
set_option maxRecDepth 100000
set_option linter.unusedVariables false
set_option linter.unusedSimpArgs false
namespace Mine
variable {G : Gx} {X : Cx G} {r : Nat} {σ : St} {K : AV → St → Prop}
theorem Hid.of {ρ ρ' : List (Option AV)} {H : AH} {m : Mp} {I : Addr} (h : Hid X ⟨ρ, H⟩ m I) : Hid X ⟨ρ', H⟩ m I := ⟨h.told, h.resv, h.old⟩
inductive CompI (Y : Cx G) (fix : Mp → Prop) (I D : Addr) (S : Nat → Heap → Prop) (N kx : Nat) (ρ : List (Option AV)) (J : Nat → List AV → AH → Prop) (H0 : AH) (m0 : Mp) (s0 : Shared) (n : Nat) (s1 : Shared) : Prop
  | mk (i : Nat) (acc : List AV) (vs : List Value) (kk : Nat) (ρ1 : List (Option AV)) (H1 : AH) (m1 : Mp) (hi : i ≤ N) (hn : n = N - i) (hj : J i acc H1) (hl : acc.length ≤ i) (hρ : ∀ a, ρ1.set kx a = ρ.set kx a) (he : Ext Y.own H0 m0 s0 H1 m1 s1) (hr : HR G H1 m1 s1) (hf : FR Y ρ1 H1 m1 s1)
      (hI : Hid Y ⟨ρ1, H1⟩ m1 I) (hD : Hid Y ⟨ρ1, H1⟩ m1 D) (hS : S i s1.heap) (hfix : fix m1) (ho : s1.heap.get? D = some (lstOf vs kk)) (hv : RVs G.fv s1.heap m1 acc vs) : CompI Y fix I D S N kx ρ J H0 m0 s0 n s1
theorem comp_core {Y : Cx G} {inv : AH → Prop} {fix : Mp → Prop} {I D : Addr} {S : Nat → Heap → Prop} {N : Nat} {item : Nat → AV} (W : Itr G inv fix I S N item) {x : Str} {kx : Nat} (hx : Y.res x = some (.loc kx true)) {ρ : List (Option AV)}
    {elt iter : PySem.Expr} {ifs : List PySem.Expr} {scope : Scope} {px pos : Pos} (hsz : N ≤ sizeLine) (J : Nat → List AV → AH → Prop)
    (hJ : ∀ i acc H, i < N → acc.length ≤ i → J i acc H → inv H ∧ CT Y r ifs ⟨ρ.set kx (some (item i)), H⟩ fun b σ1 => (b = true → EV Y r (eval elt Y.env) σ1 fun v σ2 => σ2.ρ = ρ.set kx (some (item i)) ∧ J (i + 1) (acc ++ [v]) σ2.H) ∧ (b = false → σ1.ρ = ρ.set kx (some (item i)) ∧ J (i + 1) acc σ1.H))
    (hN : ∀ acc H, J N acc H → inv H)
    {A : Around} (hA : OkA r A) {H0 H : AH} {m0 m : Mp} {s0 s : Shared} (hI0 : s0.heap.get? I = none) (hD0 : s0.heap.get? D = none) (hID : D ≠ I) (hj : J 0 [] H)
    (he : Ext Y.own H0 m0 s0 H m s) (hr : HR G H m s) (hf : FR Y ρ H m s) (hdI : Hid Y ⟨ρ, H⟩ m I) (hdD : Hid Y ⟨ρ, H⟩ m D) (hS : S 0 s.heap) (hfix : fix m) (hD : s.heap.get? D = some (lstOf [] 0)) {R : Result → Shared → Prop}
    (hR : ∀ acc H m s ρ' vs kk, J N acc H → Ext Y.own H0 m0 s0 H m s → HR G H m s → FR Y ρ' H m s → Hid Y ⟨ρ', H⟩ m D → s.heap.get? D = some (lstOf vs kk) → RVs G.fv s.heap m acc vs → R (.ok .next) s) :
    codeAny (model G.prog G.w) A (.compLoop (.ListComp elt [⟨.Name x px, iter, ifs, 0⟩] scope pos) 0 (.ref I) (.ref D) Y.env) R s := by
  refine codeAny_compLoop_tests (CompI Y fix I D S N kx ρ J H0 m0 s0) ?_ N
    ⟨0, [], [], 0, ρ, H, m, Nat.zero_le _, rfl, hj, Nat.le_refl _, fun _ => rfl, he, hr, hf, hdI, hdD, hS, hfix, hD, by simp only [RVs]⟩
  rintro n s1 ⟨i, acc, vs, kk, ρ1, H1, m1, hi, rfl, hj1, hacc, hρ, he1, hr1, hf1, hI1, hD1, hS1, hfix1, hDo, hvs⟩
  by_cases hlt : i < N
  · obtain ⟨hinv, hb⟩ := hJ i acc H1 hlt hacc hj1
    refine noE_any (W.next i A H1 m1 s1 _ hlt hA.handled hinv hfix1 hr1 hI1.told hS1 fun v h' tk hS' hk hv => ?_)
    obtain ⟨L2, hr2, hf2⟩ := hid_turn (σ := ⟨ρ1, H1⟩) (s' := { s1 with heap := h', toks := tk }) hI1 hr1 hf1 hk (fun o z => W.notup i _ o hS1 z) rfl
    have he2 : Ext Y.own H0 m0 s0 H1 m1 { s1 with heap := h', toks := tk } := ext_hid (σ := ⟨ρ1, H1⟩) he1 hI0 hk rfl rfl
    have hDo2 : h'.get? D = some (lstOf vs kk) := hk D _ hID hDo
    refine wpAny_assign_Name (noE_any (wpAny_mono (store_any (σ := ⟨ρ1, H1⟩) hr2 hf2 hx (RV.later L2 _ _ hv)) (fun _ s3 q0 => ?_) fun _ _ x => x))
    obtain ⟨e3, hr3, hf3⟩ := q0
    have hDo3 := hid_kept (σ := ⟨ρ1, H1⟩) (σ' := ⟨ρ1, H1⟩) (s := { s1 with heap := h', toks := tk }) hD1 e3 _ hDo2
    have hS3 := W.keep (i+1) _ _ hS' (hid_kept (σ := ⟨ρ1, H1⟩) (σ' := ⟨ρ1, H1⟩) (m := m1) (s := { s1 with heap := h', toks := tk }) hI1 e3)
    simp only at hf3
    rw [hρ] at hf3
    have L3 : Later s1.heap m1 s3.heap m1 := L2.trans e3.later
    refine noE_any (wpAny_mono (hb A m1 s3 hA hr3 hf3) (fun c s4 q0 => ?_) fun _ _ x => x)
    obtain ⟨b, σ4, m4, k4, e4, hr4, hf4, hc⟩ := q0
    subst hc
    have hI3 : Hid Y ⟨ρ.set kx (some (item i)), H1⟩ m1 I := hI1.of
    have hD3 : Hid Y ⟨ρ.set kx (some (item i)), H1⟩ m1 D := hD1.of
    have hI4 := hI3.ext (W.live _ _ hS3) e4
    have hD4 := hD3.ext (by rw [hDo3]; rfl) e4
    have hDo4 := hid_kept hD3 e4 _ hDo3
    have hS4 := W.keep _ _ _ hS3 (hid_kept hI3 e4)
    have hfix4 := W.mono m1 m4 hfix1 e4.n e4.f
    have e04 := (he2.trans e3).trans e4
    have L4 := L3.trans e4.later
    cases b with
    | false =>
      obtain ⟨q1, q2⟩ := k4.2 rfl
      refine ⟨N - (i+1), by omega, i+1, acc, vs, kk, σ4.ρ, σ4.H, m4, hlt, rfl, q2, by omega, fun a => by rw [q1, List.set_set], e04, hr4, hf4, hI4, hD4, hS4, hfix4, hDo4, RVs.later L4 _ _ hvs⟩
    | true =>
      refine noE_any (wpAny_mono (k4.1 rfl A m4 s4 hA hr4 hf4) (fun cv s5 q0 => ?_) fun _ _ x => x)
      obtain ⟨v5, σ5, m5, ⟨q1, q2⟩, e5, hr5, hf5, hv5⟩ := q0
      have hI5 := hI4.ext (W.live _ _ hS4) e5
      have hD5 := hD4.ext (by rw [hDo4]; rfl) e5
      have hDo5 := hid_kept hD4 e5 _ hDo4
      have hS5 := W.keep _ _ _ hS4 (hid_kept hI4 e5)
      have hfix5 := W.mono m4 m5 hfix4 e5.n e5.f
      have hvs5 := RVs.later (L4.trans e5.later) _ _ hvs
      refine noE_any (wpAny_list_append_plain ⟨kk, hDo5⟩ (fun h6 ⟨kk6, hDo6⟩ hs6 => ?_) (by rw [List.size_toArray, rvs_len hvs]; omega))
      have hk6 : ∀ a o, a ≠ D → s5.heap.get? a = some o → h6.get? a = some o := fun a o hne e => (hs6.2 a hne).trans e
      obtain ⟨L6, hr6, hf6⟩ := hid_turn (s' := { s5 with heap := h6 }) hD5 hr5 hf5 hk6 (fun o z q => by
        rw [hDo5] at q; cases q
        rcases frozen_cls z with q | q <;> simp at q) rfl
      refine ⟨N - (i+1), by omega, i+1, acc ++ [v5], vs ++ [cv], kk6, σ5.ρ, σ5.H, m5, hlt, rfl, q2, by rw [List.length_append]; simp; omega, fun a => by rw [q1, List.set_set], ext_hid (e04.trans e5) hD0 hk6 rfl rfl, hr6, hf6, hI5, hD5, W.keep _ _ _ hS5 (fun o e => hk6 I o (Ne.symm hID) e), hfix5, by show h6.get? D = _; rw [hDo6, List.push_toArray], ?_⟩
      exact rvs_append (RVs.later L6 _ _ hvs5) (by simp only [RVs]; exact ⟨cv, [], rfl, RV.later L6 _ _ hv5, rfl⟩)
  · have : i = N := by omega
    subst this
    refine noE_any (W.last A H1 m1 s1 _ hA.handled (hN acc H1 hj1) hfix1 hr1 hI1.told hS1 fun h' tk hk => ?_)
    obtain ⟨L2, hr2, hf2⟩ := hid_turn (σ := ⟨ρ1, H1⟩) (s' := { s1 with heap := h', toks := tk }) hI1 hr1 hf1 hk (fun o z => W.notup i _ o hS1 z) rfl
    exact hR acc H1 m1 _ ρ1 vs kk hj1 (ext_hid (σ := ⟨ρ1, H1⟩) he1 hI0 hk rfl rfl) hr2 hf2 hD1 (hk D _ hID hDo) (RVs.later L2 _ _ hvs)
end Mine
end Pa20
section Pa21
set_option compiler.extract_closed false
open PySem PySem.W PySem.Calls PyProof.Rows
set_option maxRecDepth 100000
set_option linter.unusedVariables false
set_option linter.unusedSimpArgs false
namespace Mine
variable {G : Gx} {X : Cx G} {r : Nat} {σ : St} {K : AV → St → Prop}
theorem relabel_free {scope : Scope} {env : Env} {y : Str} (h : scope.names.lookup y = some .free) : (relabel scope env).names.lookup y ≠ some .local := by
  unfold relabel
  simp only
  revert h
  generalize scope.names = names
  induction names with
  | nil => intro h; simp at h
  | cons p r ih =>
    obtain ⟨n, kd⟩ := p
    intro h
    rw [List.lookup_cons] at h
    rw [List.map_cons]
    by_cases hc : (kd == NameKind.free && env.scope.kind == .function && env.kindOf n == some .cell) = true
    · show List.lookup y ((if _ then _ else _) :: _) ≠ _
      rw [if_pos hc]
      cases hx : y == n with
      | true => simp [List.lookup_cons, hx]
      | false => rw [hx] at h; simp only [List.lookup_cons, hx]; exact ih h
    · show List.lookup y ((if _ then _ else _) :: _) ≠ _
      rw [if_neg hc]
      cases hx : y == n with
      | true => rw [hx] at h; cases h; simp [List.lookup_cons, hx]
      | false => rw [hx] at h; simp only [List.lookup_cons, hx]; exact ih h
noncomputable def StepK (Y : Cx G) (r : Nat) (elt : PySem.Expr) (ρ : List (Option AV)) (J : Nat → List AV → AH → Prop) (i : Nat) (acc : List AV) (b : Bool) (σ2 : St) : Prop :=
  (b = true → EV Y r (eval elt Y.env) σ2 fun v σ3 => σ3.ρ = ρ ∧ J (i + 1) (acc ++ [v]) σ3.H) ∧ (b = false → σ2.ρ = ρ ∧ J (i + 1) acc σ2.H)
inductive CompQ (X : Cx G) (r : Nat) (wr : Bool) (gt : List (Str × Nat)) (scope : Scope) (kx : Nat) (ifs : List PySem.Expr) (elt : PySem.Expr) (P : Nat → List (Option AV) → AH → Prop) (a : AV) (σ1 : St) : Prop
  | mk (inv : AH → Prop) (N : Nat) (item : Nat → AV) (J : Nat → List AV → AH → Prop) (hp : PI X a σ1 inv N item) (hz : N ≤ sizeLine) (hj : J 0 [] σ1.H)
      (hs : ∀ Y : Cx G, Y.res = resOf scope.names gt wr → Y.env.scope = relabel scope X.env → ∀ i acc H, i < N → acc.length ≤ i → J i acc H → inv H ∧ CT Y r ifs ⟨(rhoC scope.names X.res σ1.ρ).set kx (some (item i)), H⟩ (StepK Y r elt ((rhoC scope.names X.res σ1.ρ).set kx (some (item i))) J i acc))
      (he : ∀ acc H, J N acc H → inv H ∧ ∀ n, H n = Option.none → P n σ1.ρ (H.upd n (.list acc))) : CompQ X r wr gt scope kx ifs elt P a σ1
theorem ev_comp {elt iter : PySem.Expr} {ifs : List PySem.Expr} {scope : Scope} {px pos : Pos} {x : Str} {kx : Nat} (gt : List (Str × Nat)) (hgt : GT G gt)
    (hpl : plainNames scope.names = true) (hnd : nodupNames scope.names = true) (hk : scope.kind = .function) (hnc : scope.names.all (fun x => x.2 != .cell) = true)
    (hX : ∀ y ∈ scope.names, y.2 = .free → ∃ j b, X.res y.1 = some (.loc j b) ∧ X.env.kindOf y.1 ≠ some .local)
    (hx : resOf scope.names gt false x = some (.loc kx true))
    (h : EV X r (eval iter X.env) σ (CompQ X r false gt scope kx ifs elt fun n ρ H => K (.ref n) ⟨ρ, H⟩))
    (hs : ∀ v, foldedSetIterable iter X.env v = pure v := by intro _; rfl) : EV X r (eval (.ListComp elt [⟨.Name x px, iter, ifs, 0⟩] scope pos) X.env) σ K := fun A m s hA hr hf => by
  have hfree : ∀ y ∈ scope.names, y.2 = .free → ∃ c, X.env.cells.lookup y.1 = some c := fun y hy e => by
    obtain ⟨j, b, h1, h2⟩ := hX y hy e
    obtain ⟨_, _, q⟩ := X.loc y.1 j b h1
    rcases q with ⟨_, q⟩ | ⟨_, q⟩
    · exact absurd q h2
    · exact q
  have hnd' : ∀ x k, (x, k) ∈ scope.names → scope.names.lookup x = some k := fun x k h => beq_iff_eq.mp (List.all_eq_true.mp hnd _ h)
  have hnames : ∀ y ∈ scope.names, y.2 = .local → scope.names.lookup y.1 = some .local := fun y hy e => by rw [hnd' y.1 y.2 hy, e]
  rw [eval_ListComp]
  refine wpAny_comprehension_free (use := none) (e := .ListComp elt [⟨.Name x px, iter, ifs, 0⟩] scope pos) (g := ⟨.Name x px, iter, ifs, 0⟩) (gs := []) rfl hs (closureFor_eq hfree) hk hnames ?_
  show wpAny _ _ (eval iter X.env) _ _ _
  refine wpAny_mono (h A m s hA hr hf) (fun ca s1 q0 => ?_) fun _ _ x => x
  obtain ⟨a, σ1, m1, ⟨inv, N, item, J, hp, hsz, hj0, hstep, hend⟩, e1, hr1, hf1, hca⟩ := q0
  refine hp A m1 s1 ca _ hA.handled hr1 hf1 hca fun I S o fix W hfix hI hkI hS => ?_
  refine wpAny_newObj_type (wpAny_newFunctionEnv (fun y hy e => by have := List.all_eq_true.mp hnc y hy; rw [e] at this; simp at this) (by intro y hy; simp at hy) (fun h4 hns4 hsb4 => ?_) hk)
  dsimp only at hns4 hsb4 ⊢
  have hIs : I = s1.heap.objs.size := by
    by_cases hlt : I = s1.heap.objs.size
    · exact hlt
    · have hl := W.live 0 _ hS
      rw [Heap.get?_push_ne _ _ _ hlt, hI] at hl
      cases hl
  generalize hD : (s1.heap.push o).objs.size = D at *
  have hDs : D = s1.heap.objs.size + 1 := by rw [← hD, Heap.size_push]
  have hDI : D ≠ I := by rw [hDs, hIs]; exact Nat.succ_ne_self _
  generalize hH2 : (s1.heap.push o).push { cls := .type "list", dict := none, data := .seq ([] : List Value).toArray } = H2 at *
  generalize hC : H2.objs.size = C at *
  have hCs : C = s1.heap.objs.size + 2 := by rw [← hC, ← hH2, Heap.size_push, hD, hDs]
  have fresh : ∀ a, s1.heap.objs.size ≤ a → s1.heap.get? a = none := fun a ha => Heap.get?_none_of_le ha
  have k2 : ∀ a o', (s1.heap.push o).get? a = some o' → h4.get? a = some o' := fun a o' e => by
    have hlt := Heap.lt_size e
    rw [hD, hDs] at hlt
    refine (hsb4.2 a (by rw [hCs]; exact Nat.ne_of_lt (Nat.lt_of_lt_of_le hlt (Nat.le_succ _)))).trans (Heap.get?_push_of_some _ ?_)
    rw [← hH2]
    exact Heap.get?_push_of_some _ e
  have k4 : ∀ a o', s1.heap.get? a = some o' → h4.get? a = some o' := fun a o' e => k2 a o' (hkI a o' e)
  have hDo : h4.get? D = some (lstOf [] 0) := by
    refine (hsb4.2 D (by rw [hCs, hDs]; exact Nat.ne_of_lt (by omega))).trans (Heap.get?_push_of_some _ ?_)
    rw [← hH2, ← hD]
    exact Heap.get?_push_size _ rfl
  have hS4 : S 0 h4 := W.keep 0 _ _ hS (fun o' e => k2 I o' e)
  obtain ⟨Y, hY⟩ := exists_comp (X := X) gt hgt hpl hnd hk hnc hfree (C := C) (fun y c hm e q => by
    obtain ⟨j, b, hx1, _⟩ := hX _ hm rfl
    obtain ⟨ov, o', h1, _⟩ := hf1.clive y j b c hx1 e
    rw [q, fresh C (by omega)] at h1; cases h1)
  generalize hs4 : ({ s1 with heap := h4, toks := s1.toks + ([] : List (Str × Value)).length } : Shared) = s4 at *
  have hs4h : s4.heap = h4 := by rw [← hs4]
  have hr4 : HR G σ1.H m1 s4 := hr1.grow (fun a o' e => by rw [hs4h]; exact k4 a o' e) (by rw [← hs4]; exact hr1.gens)
  have hf4 : FR X σ1.ρ σ1.H m1 s4 := hf1.grow (fun a o' e => by rw [hs4h]; exact k4 a o' e)
  have eg : ∀ own, Ext own σ1.H m1 s1 σ1.H m1 s4 := fun own => .grow hr1 (fun a o' e => by rw [hs4h]; exact k4 a o' e) (by rw [← hs4]) (by rw [← hs4])
  have hdI := hid_new hr1 hf1 hI
  have hdD := hid_new hr1 hf1 (fresh D (by omega))
  have hdC := hid_new hr1 hf1 (fresh C (by omega))
  have hCells : ∀ y c, Y.env.cells.lookup y = some c → X.env.cells.lookup y = some c ∧ (y, NameKind.free) ∈ scope.names := fun y c e => by
    rw [hY.env] at e
    have e : (clOf X.env.cells scope.names []).lookup y = some c := e
    rcases clOf_mem (PySem.mem_of_lookup e) with h | ⟨h1, h2⟩
    · cases h
    · obtain ⟨c', hc'⟩ := hfree _ h1 rfl
      have hc' : X.env.cells.lookup y = some c' := hc'
      rw [hc'] at h2
      exact ⟨by rw [hc', h2]; rfl, h1⟩
  have hYresv : ∀ b, Y.resv b → b = C ∨ X.resv b := fun b q => by
    rcases q with q | ⟨y, q⟩
    · exact .inl (q.trans hY.locals)
    · obtain ⟨kq, bq, _, q⟩ := q
      obtain ⟨h1, h2⟩ := hCells y b q
      obtain ⟨j, b', hx1, _⟩ := hX _ h2 rfl
      exact .inr (.inr ⟨y, j, b', hx1, h1⟩)
  have hidY : ∀ {b}, Hid X σ1 m1 b → b ≠ C → Hid Y ⟨rhoC scope.names X.res σ1.ρ, σ1.H⟩ m1 b := fun hd hne => ⟨hd.told, fun q => by
    rcases hYresv _ q with q | q
    · exact hne q
    · exact hd.resv q, hd.old⟩
  have hrho : ∀ y k b v, Y.res y = some (.loc k b) → (rhoC scope.names X.res σ1.ρ)[k]? = some (some v) → (y, NameKind.free) ∈ scope.names ∧ ∃ j b', X.res y = some (.loc j b') ∧ σ1.ρ[j]? = some (some v) := fun y k b v h1 h3 => by
    rw [hY.res] at h1
    obtain ⟨e, kd, hl, _⟩ := resOf_idx h1
    subst e
    have hg := idxOf_get hl
    unfold rhoC at h3
    rw [List.getElem?_map] at h3
    cases q : scope.names[idxOf y scope.names]? with
    | none => rw [q] at h3; cases h3
    | some z =>
      rw [q] at h3 hg
      obtain ⟨zn, zk⟩ := z
      have e1 : zn = y := Option.some.inj hg
      subst e1
      simp only [Option.map_some, Option.some.injEq] at h3
      by_cases hz : (zk == NameKind.free) = true
      · rw [if_pos hz] at h3
        have hm : (zn, zk) ∈ scope.names := List.mem_of_getElem? q
        rw [beq_iff_eq.mp hz] at hm
        refine ⟨hm, ?_⟩
        cases q2 : X.res zn with
        | none => rw [q2] at h3; cases h3
        | some rr =>
          rw [q2] at h3
          cases rr with
          | glob _ => cases h3
          | loc j b' =>
            refine ⟨j, b', rfl, ?_⟩
            simp only at h3
            cases q3 : σ1.ρ[j]? with
            | none => rw [q3] at h3; cases h3
            | some z => rw [q3] at h3; simp at h3; rw [h3]
      · rw [if_neg hz] at h3; cases h3
  have hfY : FR Y (rhoC scope.names X.res σ1.ρ) σ1.H m1 s4 := by
    refine ⟨⟨_, by rw [hY.locals, hs4h]; exact hns4, fun y k b v h1 h2 h3 => ?_⟩, fun y k b c h1 h2 h3 => ?_, fun y k b c _ e => (let ⟨j, b', hx1, _⟩ := hX _ (hCells y c e).2 rfl; hf4.clive y j b' c hx1 (hCells y c e).1), fun i o' e q => ?_, fun b q => ?_⟩
    · obtain ⟨hm, _⟩ := hrho y k b v h1 h3
      rw [hY.env] at h2
      have := lookup_relabel_local (env := X.env) (names := scope.names) (x := y)
      exfalso
      have hl := hnd' _ _ hm
      have h2' : (relabel scope X.env).names.lookup y = some .local := h2
      exact relabel_free hl h2'
    · obtain ⟨hXc, hm⟩ := hCells y c h3
      obtain ⟨j0, b0, hx0, _⟩ := hX _ hm rfl
      obtain ⟨ov, hc⟩ := hf4.clive y j0 b0 c hx0 hXc
      refine ⟨ov, hc, fun v h4' => ?_⟩
      obtain ⟨_, j, b', h5, h6⟩ := hrho y k b v h1 h4'
      obtain ⟨_, _, h7, h8⟩ := hX (y, .free) hm rfl
      obtain ⟨ov', hc', f⟩ := hf4.cells y j b' c h5 h8 hXc
      obtain ⟨o1, g1, g2⟩ := hc
      obtain ⟨o2, g3, g4⟩ := hc'
      rw [g1] at g3; cases g3; rw [g2] at g4; cases g4
      exact f v h6
    · rcases hYresv _ q with q | q
      · exact hdC.told i o' e q
      · exact hf4.apart i o' e q
    · rw [hY.own b q]; exact hdC.old
  have hEnv : ({ newEnv scope C X.env.globals (clOf X.env.cells scope.names []) X.env.qual none Value.none (some X.env) builtinsNs with scope := relabel scope X.env } : Env) = Y.env := by rw [hY.env]; rfl
  have hloc : Y.env.locals = C := hY.locals
  have core : codeAny (model G.prog G.w) A (.compLoop (.ListComp elt [⟨.Name x px, iter, ifs, 0⟩] scope pos) 0 (.ref I) (.ref D) Y.env) (compPost (model G.prog G.w) A NoE none (Post X σ m s K) (.ref D) C) s4 := by
    refine comp_core (Y := Y) (r := r) W (by rw [hY.res]; exact hx) hsz J (fun i acc H h1 h2 h3 => hstep Y hY.res (by rw [hY.env]; rfl) i acc H h1 h2 h3) (fun acc H hj => (hend acc H hj).1) hA hI (fresh D (by omega)) hDI hj0 (eg _) hr4 hfY (hidY hdI (by rw [hIs, hCs]; exact Nat.ne_of_lt (by omega))) (hidY hdD (by rw [hDs, hCs]; exact Nat.ne_of_lt (by omega))) (by rw [hs4h]; exact hS4) hfix (by rw [hs4h]; exact hDo) ?_
    intro acc H' m' s' ρ' vs kk hj he' hr' hf' hdD' hDo' hvs'
    obtain ⟨mp, hnsC, _⟩ := hf'.ns
    refine ⟨mp, by rw [← hloc]; exact hnsC, fun h'' hs'' => ?_⟩
    have hownY : ∀ b, Y.own b → s1.heap.get? b = none := fun b q => by rw [hY.own b q]; exact fresh C (by omega)
    have hfX : FR X σ1.ρ H' m' s' := hf1.ext' hownY he'
    have hCl : (s1.heap.get? C) = none := fresh C (by omega)
    have hidC : Hid X ⟨σ1.ρ, H'⟩ m' C := ⟨fun j o' e q => hf'.apart j o' e (.inl (by rw [hloc]; exact q)), hdC.resv, hdC.old⟩
    have kC : ∀ a o', a ≠ C → s'.heap.get? a = some o' → h''.get? a = some o' := fun a o' hne e => (hs''.2 a hne).trans e
    obtain ⟨L, hr2, hf2⟩ := hid_turn (s' := { s' with heap := h'' }) hidC hr' hfX kC (fun o' z q => by
      obtain ⟨o2, es, ep, g1, g2, _⟩ := hnsC
      rw [hloc, q] at g1; cases g1
      cases z <;> cases g2) rfl
    have he2 : Ext X.own σ1.H m1 s1 H' m' { s' with heap := h'' } := ext_hid (σ := ⟨σ1.ρ, H'⟩) (Ext.drop hownY he') hCl kC rfl rfl
    have hDo2 : h''.get? D = some (lstOf vs kk) := kC D _ (by rw [hDs, hCs]; exact Nat.ne_of_lt (by omega)) hDo'
    obtain ⟨q1, q2, q3, q4⟩ := adopt (x := .list acc) (s := { s' with heap := h'' }) hr2 hf2 hdD'.told hdD.resv hdD.old hDo2 ⟨vs, kk, rfl, RVs.later L _ _ hvs'⟩
    refine ⟨.ref m'.n, ⟨σ1.ρ, H'.upd m'.n (.list acc)⟩, m'.put D, (hend acc H' hj).2 _ q1, e1.trans (Ext.adopt hr2 he2 (.inl (fresh D (by omega)))), q2, q3, ?_⟩
    simp only [RV]
    exact ⟨Nat.lt_succ_self _, by rw [Mp.put_n]⟩
  show codeAny _ _ (.compStart _ 0 (.ref I) (.ref D) _) _ s4
  rw [hEnv]
  exact codeAny_compStart_list core (W.self 0 A s4 _ _ (by rw [hs4h]; exact hS4) core)
end Mine
end Pa21
section Pa22
set_option compiler.extract_closed false
open PySem PySem.W PySem.Calls PyProof.Rows PySem.SeqAt
set_option maxRecDepth 100000
set_option linter.unusedVariables false
set_option linter.unusedSimpArgs false
namespace Mine
variable {G : Gx} {X : Cx G} {r : Nat} {σ : St} {K : AV → St → Prop}
inductive AVEq (H : AH) : Nat → AV → AV → Bool → Prop
  | int {d : Nat} (i j : Int) : AVEq H d (.int i) (.int j) (i == j)
  | str {d : Nat} (x y : Str) : AVEq H d (.str x) (.str y) (x.cps.toList == y.cps.toList)
  | bool {d : Nat} (p q : Bool) : AVEq H d (.bool p) (.bool q) (p == q)
  | list {d n n' : Nat} {xs ys : List AV} (e : Nat → Bool) : n ≠ n' → H n = some (.list xs) → H n' = some (.list ys) → xs.length = ys.length → (∀ j, j < xs.length → AVEq H d (xs.getD j .none) (ys.getD j .none) (e j)) → AVEq H (d + 1) (.ref n) (.ref n') ((List.range xs.length).all e)
theorem rvs_getD {h : Heap} {m : Mp} {xs : List AV} {cs : List Value} (hv : RVs G.fv h m xs cs) {j : Nat} (hj : j < cs.toArray.size) : RV G.fv h m (xs.getD j .none) (cs.toArray[j]) := by
  have hl := rvs_len hv
  have hj' : j < cs.length := by simpa using hj
  obtain ⟨c, h1, h2⟩ := rvs_get (i := j) (x := xs.getD j .none) hv (by rw [List.getD_eq_getElem?_getD, List.getElem?_eq_getElem (by omega)]; rfl)
  have : cs.toArray[j] = c := by
    rw [List.getElem?_eq_getElem hj'] at h1
    simpa using h1
  rw [this]; exact h2
theorem eqv {H : AH} : ∀ {d : Nat} {a b : AV} {c : Bool}, AVEq H d a b c → ∀ {A : Around} {m : Mp} {s : Shared} {ca cb : Value}, HR G H m s → RV G.fv s.heap m a ca → RV G.fv s.heap m b cb → A.units + d < cLine → EqAt A s ca cb c := by
  intro d a b c h
  induction h with
  | int i j => intro A m s ca cb hr ha hb hu; obtain ⟨t, rfl⟩ := inv_int ha; obtain ⟨u, rfl⟩ := inv_int hb; exact (PySem.MeetsSeq.EqGives.int i j t u).at A s
  | bool p q => intro A m s ca cb hr ha hb hu; have ha := inv_bool ha; have hb := inv_bool hb; subst ha; subst hb; exact EqAt.bool_bool p q
  | str x y => intro A m s ca cb hr ha hb hu; obtain ⟨t, rfl⟩ := inv_str ha; obtain ⟨u, rfl⟩ := inv_str hb; exact PySem.MeetsSeq.EqGives.at (PySem.SeqRoads2.EqGives.str x y t u) A s
  | @list d n n' xs ys e hne h1 h2 hl he ih =>
    intro A m s ca cb hr ha hb hu
    obtain ⟨l1, rfl⟩ := inv_ref ha; obtain ⟨l2, rfl⟩ := inv_ref hb
    obtain ⟨vs, k, ho, hv⟩ := hr.list h1
    obtain ⟨ws, k', ho', hw⟩ := hr.list h2
    have e1 := rvs_len hv
    have e2 := rvs_len hw
    have := RcAt.lists (A := A) (s := s) (e := e) (items := vs.toArray) (items2 := ws.toArray) ⟨_, ho, rfl, k, rfl⟩ ⟨_, ho', rfl, k', rfl⟩ (by simp [e1, e2, hl]) (by omega) (fun j q1 q2 => ih j (by simpa [e1] using q1) hr (rvs_getD hv q1) (rvs_getD hw q2) (by show A.units + 1 + d < _; omega))
    rw [List.size_toArray, e1] at this
    exact EqAt.of_refs (fun q => hne (hr.inj n n' _ _ h1 h2 q)) this
section
variable {n n' : Nat} {xs ys : List AV}
theorem units_lt {d : Nat} {A : Around} (h : OkA r A) (hd : d ≤ 30) : A.units + d < cLine := by have := h.units; omega
theorem P2.eqL {d : Nat} (e : Nat → Bool) (hd : d < 30) (h1 : σ.H n = some (.list xs)) (h2 : σ.H n' = some (.list ys)) (hl : xs.length = ys.length) (he : ∀ j, j < xs.length → AVEq σ.H d (xs.getD j .none) (ys.getD j .none) (e j)) (hK : K (.bool ((List.range xs.length).all e)) σ) : P2 X r (compareOp .Eq) (.ref n) (.ref n') σ K := fun A m s ca cb hA hr hf ha hb => by
  obtain ⟨l1, rfl⟩ := inv_ref ha; obtain ⟨l2, rfl⟩ := inv_ref hb
  obtain ⟨vs, k, ho, hv⟩ := hr.list h1
  obtain ⟨ws, k', ho', hw⟩ := hr.list h2
  have e1 := rvs_len hv
  have e2 := rvs_len hw
  have := RcAt.lists (A := A) (s := s) (e := e) (items := vs.toArray) (items2 := ws.toArray) ⟨_, ho, rfl, k, rfl⟩ ⟨_, ho', rfl, k', rfl⟩ (by simp [e1, e2, hl]) (by have := units_lt (d := 0) hA (by omega); omega) (fun j q1 q2 => eqv (he j (by simpa [e1] using q1)) hr (rvs_getD hv q1) (rvs_getD hw q2) (by show A.units + 1 + d < _; have := units_lt (d := d+1) hA (by omega); omega))
  rw [List.size_toArray, e1] at this
  exact this _ _ _ _ (post_pure (t := s.toks) hr hf hK rv_bool)
theorem P2.eqL' (h1 : σ.H n = some (.list xs)) (h2 : σ.H n' = some (.list ys)) (hl : xs.length ≠ ys.length) (hK : K (.bool false) σ) : P2 X r (compareOp .Eq) (.ref n) (.ref n') σ K := fun A m s ca cb hA hr hf ha hb => by
  obtain ⟨l1, rfl⟩ := inv_ref ha; obtain ⟨l2, rfl⟩ := inv_ref hb
  obtain ⟨vs, k, ho, hv⟩ := hr.list h1
  obtain ⟨ws, k', ho', hw⟩ := hr.list h2
  have e1 := rvs_len hv
  have e2 := rvs_len hw
  exact RcAt.lists_lengths (A := A) (s := s) (items := vs.toArray) (items2 := ws.toArray) ⟨_, ho, rfl, k, rfl⟩ ⟨_, ho', rfl, k', rfl⟩ (by simp [e1, e2, hl]) (by have := units_lt (d := 0) hA (by omega); omega) _ _ _ _ (post_pure (t := s.toks) hr hf hK rv_bool)
theorem P2.neL {d : Nat} (e : Nat → Bool) (hd : d < 30) (h1 : σ.H n = some (.list xs)) (h2 : σ.H n' = some (.list ys)) (hl : xs.length = ys.length) (he : ∀ j, j < xs.length → AVEq σ.H d (xs.getD j .none) (ys.getD j .none) (e j)) (hK : K (.bool (!(List.range xs.length).all e)) σ) : P2 X r (compareOp .NotEq) (.ref n) (.ref n') σ K := fun A m s ca cb hA hr hf ha hb => by
  obtain ⟨l1, rfl⟩ := inv_ref ha; obtain ⟨l2, rfl⟩ := inv_ref hb
  obtain ⟨vs, k, ho, hv⟩ := hr.list h1
  obtain ⟨ws, k', ho', hw⟩ := hr.list h2
  have e1 := rvs_len hv
  have e2 := rvs_len hw
  have := RcNeAt.lists (A := A) (s := s) (e := e) (items := vs.toArray) (items2 := ws.toArray) ⟨_, ho, rfl, k, rfl⟩ ⟨_, ho', rfl, k', rfl⟩ (by simp [e1, e2, hl]) (by have := units_lt (d := 0) hA (by omega); omega) (fun j q1 q2 => eqv (he j (by simpa [e1] using q1)) hr (rvs_getD hv q1) (rvs_getD hw q2) (by show A.units + 1 + d < _; have := units_lt (d := d+1) hA (by omega); omega))
  rw [List.size_toArray, e1] at this
  exact this _ _ _ _ (post_pure (t := s.toks) hr hf hK rv_bool)
theorem P2.neL' (h1 : σ.H n = some (.list xs)) (h2 : σ.H n' = some (.list ys)) (hl : xs.length ≠ ys.length) (hK : K (.bool true) σ) : P2 X r (compareOp .NotEq) (.ref n) (.ref n') σ K := fun A m s ca cb hA hr hf ha hb => by
  obtain ⟨l1, rfl⟩ := inv_ref ha; obtain ⟨l2, rfl⟩ := inv_ref hb
  obtain ⟨vs, k, ho, hv⟩ := hr.list h1
  obtain ⟨ws, k', ho', hw⟩ := hr.list h2
  have e1 := rvs_len hv
  have e2 := rvs_len hw
  exact RcNeAt.lists_lengths (A := A) (s := s) (items := vs.toArray) (items2 := ws.toArray) ⟨_, ho, rfl, k, rfl⟩ ⟨_, ho', rfl, k', rfl⟩ (by simp [e1, e2, hl]) (by have := units_lt (d := 0) hA (by omega); omega) _ _ _ _ (post_pure (t := s.toks) hr hf hK rv_bool)
theorem P2.neT {d : Nat} (e : Nat → Bool) (hd : d < 30) (he : ∀ j, j < xs.length → j < ys.length → AVEq σ.H d (xs.getD j .none) (ys.getD j .none) (e j)) (hK : K (.bool (!((List.range (min xs.length ys.length)).all e && xs.length == ys.length))) σ) : P2 X r (compareOp .NotEq) (.tup xs) (.tup ys) σ K := fun A m s ca cb hA hr hf ha hb => by
  simp only [RV] at ha hb
  obtain ⟨a1, vs, rfl, ho, hv⟩ := ha; obtain ⟨a2, ws, rfl, ho', hw⟩ := hb
  have e1 := rvs_len hv
  have e2 := rvs_len hw
  have := RcNeAt.tuples (A := A) (s := s) (e := e) (items := vs.toArray) (items2 := ws.toArray) ⟨_, ho, rfl, 0, rfl⟩ ⟨_, ho', rfl, 0, rfl⟩ (by have := units_lt (d := 0) hA (by omega); omega) (fun j q1 q2 => eqv (he j (by simpa [e1] using q1) (by simpa [e2] using q2)) hr (rvs_getD hv q1) (rvs_getD hw q2) (by show A.units + 1 + d < _; have := units_lt (d := d+1) hA (by omega); omega))
  rw [List.size_toArray, List.size_toArray, e1, e2] at this
  exact this _ _ _ _ (post_pure (t := s.toks) hr hf hK rv_bool)
theorem P2.inS {x y : Str} (hK : K (.bool !(PySem.Builtin.Str.occurrences x y 0 x.length 1).isEmpty) σ) : P2 X r (compareOp .In) (.str y) (.str x) σ K := fun A m s ca cb hA hr hf ha hb => by
  obtain ⟨t, rfl⟩ := inv_str ha; obtain ⟨u, rfl⟩ := inv_str hb
  exact PySem.P.in_str (post_pure (t := s.toks) hr hf hK rv_bool)
end
end Mine
end Pa22
section Pa23
set_option compiler.extract_closed false
open PySem PySem.W PySem.Calls PyProof.Rows PySem.SeqAt
set_option maxRecDepth 100000
set_option linter.unusedVariables false
set_option linter.unusedSimpArgs false
namespace Mine
variable {G : Gx} {X : Cx G} {r : Nat} {σ : St} {K : AV → St → Prop}
inductive SubT (σ : St) : AV → Prop
  | str (x : Str) : SubT σ (.str x)
  | list (n : Nat) (xs : List AV) : σ.H n = some (.list xs) → SubT σ (.ref n)
  | tup (xs : List AV) : SubT σ (.tup xs)
theorem SubT.typeIs {a : AV} {m : Mp} {s : Shared} {ca : Value} (h : SubT σ a) (hr : HR G σ.H m s) (hv : RV G.fv s.heap m a ca) : ∃ T id, typeLookup (.type T) "__getitem__" = pure (some (.builtin id)) ∧ s.TypeIs ca T := by
  cases h with
  | str x => obtain ⟨t, rfl⟩ := inv_str hv; exact ⟨_, _, F.slot_str_getitem.lookup, typeIs_str _ _ _⟩
  | list n xs hn =>
    obtain ⟨hlt, rfl⟩ := inv_ref hv
    obtain ⟨vs, k, ho, _⟩ := hr.list hn
    exact ⟨_, _, list_getitem_lookup, ⟨_, ho, rfl⟩⟩
  | tup xs =>
    simp only [RV] at hv
    obtain ⟨a, vs, rfl, ho, _⟩ := hv
    exact ⟨_, _, F.slot_tuple_getitem.lookup, ⟨_, ho, rfl⟩⟩
section
variable {e i : PySem.Expr} {pos pos' : Pos}
theorem ev_sub (h : EV X r (eval e X.env) σ fun a σ1 => EV X r (eval i X.env) σ1 fun b σ2 => SubT σ2 a ∧ P2 X r getItem a b σ2 K)
    (hsl : ∀ o v, subscripted i false o v = operate [o, v] (getItem o v) := by intros; rfl) : EV X r (eval (.Subscript e i pos) X.env) σ K := fun A m s hA hr hf => by
  rw [eval_Subscript]
  refine wpAny_bind (wpAny_mono (h A m s hA hr hf) (fun ca s1 q0 => ?_) fun _ _ x => x)
  obtain ⟨a, σ1, m1, k1, e1, hr1, hf1, ha⟩ := q0
  refine wpAny_bind (wpAny_holding (wpAny_mono (k1 A m1 s1 hA hr1 hf1) (fun cb s2 q0 => ?_) fun _ _ x => x))
  obtain ⟨b, σ2, m2, ⟨ht, k2⟩, e2, hr2, hf2, hb⟩ := q0
  have ha2 := RV.later e2.later _ _ ha
  obtain ⟨T, id, hl, hT⟩ := ht.typeIs hr2 ha2
  refine wpAny_bind (wpAny_standAt (wpAny_bind ?_))
  rw [getitemInPython_of_ne hT.not_modules]
  refine wpAny_bind (wpAny_specialOf hT hl ?_)
  refine wpAny_pure ?_
  rw [hsl]
  exact wpAny_bind (wpAny_operating (wpAny_mono (k2 A m2 s2 ca cb hA hr2 hf2 ha2 hb) (fun c s3 p => wpAny_bind (wpAny_letTemporaryGo (wpAny_pure ((p.trans e2).trans e1)))) fun _ _ x => x))
variable {x : Str} {n : Nat} {xs : List AV} {k : Int}
theorem P2.itemS {c : Nat} (hlo : 0 ≤ k) (hhi : k < x.length) (hfit : x.length ≤ sizeLine) (hc : x.cps[k.toNat]? = some c) (hK : K (.str ⟨#[c]⟩) σ) : P2 X r getItem (.str x) (.int k) σ K := fun A m s ca cb hA hr hf ha hb => by
  obtain ⟨t, rfl⟩ := inv_str ha; obtain ⟨u, rfl⟩ := inv_int hb
  have hs : sizeLine = 16777216 := by decide
  refine PySem.P.getItem_str (by simp only [Bool.or_eq_false_iff, decide_eq_false_iff_not]; omega) (c := c) ?_ (post_pure hr hf hK (rv_str _))
  rw [seqIndex_of hlo (by exact hhi)]
  exact hc
theorem P2.itemL {a : AV} (hn : σ.H n = some (.list xs)) (hlo : 0 ≤ k) (hhi : k < 2 ^ 63) (hx : xs[k.toNat]? = some a) (hK : K a σ) : P2 X r getItem (.ref n) (.int k) σ K := fun A m s ca cb hA hr hf ha hb => by
  obtain ⟨hlt, rfl⟩ := inv_ref ha; obtain ⟨u, rfl⟩ := inv_int hb
  obtain ⟨vs, kk, ho, hv⟩ := hr.list hn
  obtain ⟨c, hc, hcv⟩ := rvs_get hv hx
  exact wpAny_getItem_list (items := vs.toArray) ⟨_, ho, rfl, kk, rfl⟩ hlo hhi (by simpa using hc) (post_pure (t := s.toks) hr hf hK hcv)
theorem P2.itemN {a : AV} (hn : σ.H n = some (.list xs)) (h0 : k < 0) (h1 : -(xs.length : Int) ≤ k) (hfit : -(2 ^ 63) ≤ k) (hx : xs[(k + xs.length).toNat]? = some a) (hK : K a σ) : P2 X r getItem (.ref n) (.int k) σ K := fun A m s ca cb hA hr hf ha hb => by
  obtain ⟨hlt, rfl⟩ := inv_ref ha; obtain ⟨u, rfl⟩ := inv_int hb
  obtain ⟨vs, kk, ho, hv⟩ := hr.list hn
  obtain ⟨c, hc, hcv⟩ := rvs_get hv hx
  have e := rvs_len hv
  exact wpAny_getItem_list_neg (items := vs.toArray) ⟨_, ho, rfl, kk, rfl⟩ h0 (by rw [List.size_toArray, e]; exact h1) hfit (by rw [List.size_toArray, e]; simpa using hc) (post_pure (t := s.toks) hr hf hK hcv)
theorem P2.itemT {a : AV} (hlo : 0 ≤ k) (hhi : k < xs.length) (hfit : xs.length ≤ sizeLine) (hx : xs[k.toNat]? = some a) (hK : K a σ) : P2 X r getItem (.tup xs) (.int k) σ K := fun A m s ca cb hA hr hf ha hb => by
  simp only [RV] at ha
  obtain ⟨ad, vs, rfl, ho, hv⟩ := ha; obtain ⟨u, rfl⟩ := inv_int hb
  obtain ⟨c, hc, hcv⟩ := rvs_get hv hx
  have e := rvs_len hv
  have hs : sizeLine = 16777216 := by decide
  exact PySem.P.getItem_tuple (items := vs.toArray) (n := 0) ho (by omega) (by omega) (by rw [List.size_toArray, e]; exact seqIndex_of hlo hhi) (by simpa using hc) (post_pure (t := s.toks) hr hf hK hcv)
noncomputable def cutS (x : Str) (l u : Option Int) : Str := ⟨((PySem.Builtin.Str.strSliceIndices l u 1 x.length).filterMap (x.cps[·]?)).toArray⟩
noncomputable def EP (X : Cx G) (r : Nat) (e : Option PySem.Expr) (σ : St) (K : Option Int → St → Prop) : Prop := match e with
  | none => K none σ
  | some e => EV X r (eval e X.env) σ fun v σ1 => ∃ i, v = .int i ∧ K (some i) σ1
theorem EP.run {e : Option PySem.Expr} {KO : Option Int → St → Prop} (h : EP X r e σ KO) {A : Around} {m : Mp} {s : Shared} (hA : OkA r A) (hr : HR G σ.H m s) (hf : FR X σ.ρ σ.H m s) :
    wpAny (model G.prog G.w) A (evalPart e X.env) (PostG (fun _ _ (o : Option Int) v => ∃ p : Option (Int × Tok), p.map (·.1) = o ∧ v = partValue p) X σ m s KO) NoE s := by
  cases e with
  | none => exact wpAny_pure ⟨none, σ, m, h, .refl _ G hr, hr, hf, none, rfl, rfl⟩
  | some e => exact wpAny_mono (h A m s hA hr hf) (fun c s1 ⟨a, σ1, m1, ⟨i, ea, k1⟩, e1, hr1, hf1, ha⟩ => by
      subst ea
      obtain ⟨t, rfl⟩ := inv_int ha
      exact ⟨some i, σ1, m1, k1, e1, hr1, hf1, some (i, t), rfl, rfl⟩) fun _ _ x => x
noncomputable def loIx (l : Option Int) (n : Nat) : Nat := l.elim 0 (clipAt n)
noncomputable def hiIx (u : Option Int) (n : Nat) : Nat := u.elim n (clipAt n)
noncomputable def subS (x : Str) (a b : Nat) : Str := ⟨((x.cps.toList.drop a).take (b - a)).toArray⟩
theorem clip_le (n : Nat) (i : Int) : clipAt n i ≤ n := by
  have := clipAt_cast n i
  omega
theorem slice_ix (l u : Option Int) (n : Nat) : PySem.Builtin.Str.strSliceIndices l u 1 n = (List.range (hiIx u n - loIx l n)).map (loIx l n + ·) := by
  rw [← sliceRange_one]
  unfold PySem.Builtin.Str.strSliceIndices
  have hl : ((loIx l n : Nat) : Int) = (match l with | none => (if (1 : Int) > 0 then 0 else (n : Int) - 1) | some i => if (1 : Int) > 0 then max 0 (min (if i < 0 then i + (n : Int) else i) n) else max (-1) (min (if i < 0 then i + (n : Int) else i) ((n : Int) - 1))) := by
    cases l with
    | none => rfl
    | some i => exact clipAt_cast n i
  have hu : ((hiIx u n : Nat) : Int) = (match u with | none => (if (1 : Int) > 0 then (n : Int) else -1) | some i => if (1 : Int) > 0 then max 0 (min (if i < 0 then i + (n : Int) else i) n) else max (-1) (min (if i < 0 then i + (n : Int) else i) ((n : Int) - 1))) := by
    cases u with
    | none => rfl
    | some i => exact clipAt_cast n i
  rw [hl, hu]
  rfl
theorem cut_eq (x : Str) (l u : Option Int) : cutS x l u = subS x (loIx l x.length) (hiIx u x.length) := by
  unfold cutS subS
  rw [slice_ix, pick_run]
theorem cut_whole {x : Str} {l u : Option Int} (h : ((PySem.Builtin.Str.strSliceIndices l u 1 x.length).length == x.length) = true) : subS x (loIx l x.length) (hiIx u x.length) = x := by
  rw [slice_ix, List.length_map, List.length_range] at h
  have h := beq_iff_eq.mp h
  have hu : hiIx u x.length ≤ x.length := by
    cases u with
    | none => exact Nat.le_refl _
    | some i => exact clip_le _ _
  unfold subS
  have hx : x.length = x.cps.toList.length := by show x.cps.size = _; simp
  by_cases h0 : x.length = 0
  · have : x.cps.toList = [] := List.eq_nil_of_length_eq_zero (by omega)
    rw [this]
    have h2 : x.cps = #[] := by simpa using this
    cases x; simp_all
  · have ha : loIx l x.length = 0 := by omega
    rw [ha, List.drop_zero, Nat.sub_zero, List.take_of_length_le (by omega)]
theorem ev_slice {lo up : Option PySem.Expr} (h : EV X r (eval e X.env) σ fun a σ1 => ∃ x, a = .str x ∧ EP X r lo σ1 fun l σ2 => EP X r up σ2 fun u σ3 => x.length ≤ sizeLine ∧ K (.str (subS x (loIx l x.length) (hiIx u x.length))) σ3) :
    EV X r (eval (.Subscript e (.Slice lo up none pos') pos) X.env) σ K := fun A m s hA hr hf => by
  rw [eval_Subscript]
  refine wpAny_bind (wpAny_mono (h A m s hA hr hf) (fun ca s1 q0 => ?_) fun _ _ x => x)
  obtain ⟨a, σ1, m1, ⟨x, ea, k1⟩, e1, hr1, hf1, ha⟩ := q0
  subst ea
  obtain ⟨t, rfl⟩ := inv_str ha
  refine wpAny_bind (wpAny_holding (wpAny_Slice ?_))
  refine wpAny_mono (k1.run hA hr1 hf1) (fun c2 s2 q0 => ?_) fun _ _ x => x
  obtain ⟨l, σ2, m2, k2, e2, hr2, hf2, p, hp, hc2⟩ := q0
  refine wpAny_mono (k2.run hA hr2 hf2) (fun c3 s3 q0 => ?_) fun _ _ x => x
  obtain ⟨u, σ3, m3, ⟨hsz, k3⟩, e3, hr3, hf3, q, hq, hc3⟩ := q0
  rw [evalPart_none]
  refine wpAny_pure ?_
  have e03 := (e1.trans e2).trans e3
  have hk : ∀ a o, s3.heap.get? a = some o → (s3.heap.push { cls := .type "slice", data := .fields #[c2, c3, .none] }).get? a = some o := fun a o e => Heap.get?_push_of_some _ e
  refine wpAny_bind (wpAny_standAt (wpAny_bind ?_))
  rw [getitemInPython_of_ne (typeIs_str s3 x t).not_modules]
  refine wpAny_bind (wpAny_specialOf (typeIs_str _ x t) F.slot_str_getitem.lookup ?_)
  refine wpAny_pure ?_
  refine wpAny_bind (wpAny_operating ?_)
  refine wpAny_getItem_str_slice (l := p) (u := q) (st := none) ⟨_, Heap.get?_push_size _ rfl, rfl, by rw [hc2, hc3]; rfl⟩ rfl ?_
  have hle : (subS x (loIx l x.length) (hiIx u x.length)).length ≤ sizeLine := by
    have : (subS x (loIx l x.length) (hiIx u x.length)).length ≤ x.length := by
      show (List.toArray _).size ≤ x.cps.size
      simp [subS]
      omega
    omega
  have ce := cut_eq x l u
  have cw := @cut_whole x l u
  unfold cutS at ce
  unfold sliceMade slicePicked
  rw [hp, hq]
  simp only [Option.map_none, Option.getD_none, beq_self_eq_true, Bool.true_and]
  cases hb : (PySem.Builtin.Str.strSliceIndices l u 1 x.length).length == x.length with
  | true =>
    rw [if_pos rfl]
    rw [cw hb] at k3
    exact wpAny_bind (wpAny_letTemporaryGo (wpAny_pure (Post.trans e03 (post_grow hr3 hf3 hk rfl rfl k3 (rv_str _)))))
  | false =>
    rw [if_neg (by decide), ce]
    exact ⟨hle, wpAny_bind (wpAny_letTemporaryGo (wpAny_pure (Post.trans e03 (post_grow (s' := { s3 with heap := _, toks := _ }) hr3 hf3 hk rfl rfl k3 (rv_str _)))))⟩
end
end Mine
end Pa23
section Pa24
set_option compiler.extract_closed false
open PySem PySem.W PySem.Calls PyProof.Rows PySem.SeqAt
set_option maxRecDepth 100000
set_option linter.unusedVariables false
set_option linter.unusedSimpArgs false
namespace Mine
theorem mapSeq_plain (f : Array Value → Array Value) (its : Array Value) (n : Nat) : ∃ n', Obj.mapSeq f { cls := .type "list", data := .seq its n } = { cls := .type "list", data := .seq (f its) n' } := ⟨_, rfl⟩
variable {G : Gx} {X : Cx G} {r : Nat} {σ : St} {K : AV → St → Prop}
section
variable {KF : AF → St → Prop} {e o i : PySem.Expr} {pos pos' : Pos}
noncomputable def idxIn (k : Int) (n : Nat) : Option Nat := if 0 ≤ k then (if k < n then some k.toNat else none) else (if -(n : Int) ≤ k then some (k + n).toNat else none)
inductive SetLQ (KF : AF → St → Prop) (v ov iv : AV) (σ3 : St) : Prop
  | mk (n : Nat) (xs : List AV) (k : Int) (j : Nat) (eo : ov = .ref n) (ei : iv = .int k) (hn : σ3.H n = some (.list xs)) (hz : xs.length ≤ sizeLine) (hj : idxIn k xs.length = some j) (hk : KF .next ⟨σ3.ρ, σ3.H.upd n (.list (xs.set j v))⟩) : SetLQ KF v ov iv σ3
theorem es_setL (h : EV X r (eval e X.env) σ fun v σ1 => EV X r (eval o X.env) σ1 fun ov σ2 => EV X r (eval i X.env) σ2 (SetLQ KF v ov))
    (hs : swapsWith e (some (.Subscript o i pos')) pos.line X.env = pure false) : ES X r (exec (.Assign [.Subscript o i pos'] e pos) X.env) σ KF := fun A m s hA hr hf => by
  refine wpAny_Assign_Subscript (wpAny_mono (h A m s hA hr hf) (fun cv s1 q0 => ?_) fun _ _ x => x) hs
  obtain ⟨v, σ1, m1, k1, e1, hr1, hf1, hv⟩ := q0
  refine wpAny_mono (k1 A m1 s1 hA hr1 hf1) (fun co s2 q0 => ?_) fun _ _ x => x
  obtain ⟨ov, σ2, m2, k2, e2, hr2, hf2, hov⟩ := q0
  refine wpAny_mono (k2 A m2 s2 hA hr2 hf2) (fun ci s3 q0 => ?_) fun _ _ x => x
  obtain ⟨iv, σ3, m3, ⟨n, xs, k, j, eo, ei, hn, hsz, hj, k3⟩, e3, hr3, hf3, hiv⟩ := q0
  subst eo ei
  have hov3 := RV.later e3.later _ _ hov
  have hv3 := RV.later (e2.trans e3).later _ _ hv
  obtain ⟨hlt, rfl⟩ := inv_ref hov3
  obtain ⟨t, rfl⟩ := inv_int hiv
  obtain ⟨vs, kk, ho, hvs⟩ := hr3.list hn
  have el := rvs_len hvs
  have hsl : sizeLine = 16777216 := by decide
  have fin : PostG (RFl G.fv) X σ m s KF .next { s3 with heap := s3.heap.update (m3.f n) (Obj.mapSeq (·.setIfInBounds j cv)) } := by
    obtain ⟨k', hd'⟩ := mapSeq_plain (·.setIfInBounds j cv) vs.toArray kk
    obtain ⟨v', σ', m', hK, hE, hR, hF, hv'⟩ := post_turn (K := fun _ σ' => σ' = ⟨σ3.ρ, σ3.H.upd n (.list (xs.set j v))⟩) (v := .none) (cv := .none) (x := .list (xs.set j v)) hr3 hf3 hn (Heap.SameBut.update ..) (s' := { s3 with heap := s3.heap.update (m3.f n) _ }) rfl rfl ((Heap.get?_update_self _ ho (by rw [hd']; rfl)).trans (congrArg some hd')) (fun L => ⟨vs.set j cv, k', by rw [List.setIfInBounds_toArray], rvs_set (RVs.later L _ _ hvs) (RV.later L _ _ hv3)⟩) (fun _ => rv_none) rfl
    subst hK
    exact ⟨.next, _, m', k3, ((e1.trans e2).trans e3).trans hE, hR, hF, rfl⟩
  unfold idxIn at hj
  by_cases h0 : 0 ≤ k
  · rw [if_pos h0] at hj
    by_cases h1 : k < xs.length
    · rw [if_pos h1] at hj; cases hj
      exact ki_setAt ho h0 (by omega) (by rw [List.size_toArray, el]; exact h1) fin
    · rw [if_neg h1] at hj; cases hj
  · rw [if_neg h0] at hj
    by_cases h1 : -(xs.length : Int) ≤ k
    · rw [if_pos h1] at hj; cases hj
      exact ki_setBack ho (by omega) (by rw [List.size_toArray, el]; exact h1) (by omega) (by rw [List.size_toArray, el]; exact fin)
    · rw [if_neg h1] at hj; cases hj
noncomputable def stores (res : Str → Option Res) : List Str → List AV → List (Option AV) → Option (List (Option AV))
  | [], [], ρ => some ρ
  | x :: xs, v :: vs, ρ => match res x with
    | some (.loc k true) => stores res xs vs (ρ.set k (some v))
    | _ => none
  | _, _, _ => none
theorem stores_any {env : Env} (hx : X.env = env) : ∀ {names : List (Str × Pos)} {vs : List AV} {cs : List Value} {A : Around} {σ : St} {m : Mp} {s : Shared} {ρ' : List (Option AV)}, HR G σ.H m s → FR X σ.ρ σ.H m s → RVs G.fv s.heap m vs cs → stores X.res (names.map (·.1)) vs σ.ρ = some ρ' →
    wpAny (model G.prog G.w) A (assignInOrder ((assignEach (names.map fun x => .Name x.1 x.2) X.env).map (·.2)) cs) (fun _ s' => Ext X.own σ.H m s σ.H m s' ∧ HR G σ.H m s' ∧ FR X ρ' σ.H m s') NoE s := by
  intro names
  induction names with
  | nil =>
    intro vs cs A σ m s ρ' hr hf hv h
    cases vs with
    | nil =>
      cases h
      simp only [RVs] at hv
      subst hv
      exact wpAny_pure ⟨.refl _ G hr, hr, hf⟩
    | cons _ _ => cases h
  | cons x names ih =>
    intro vs cs A σ m s ρ' hr hf hv h
    cases vs with
    | nil => cases h
    | cons v vs =>
      simp only [RVs] at hv
      obtain ⟨c, cs, rfl, hc, hcs⟩ := hv
      simp only [List.map_cons, stores] at h
      cases q : X.res x.1 with
      | none => rw [q] at h; cases h
      | some rr =>
        rw [q] at h
        cases rr with
        | glob _ => cases h
        | loc k b =>
          cases b with
          | false => cases h
          | true =>
            show wpAny _ _ (do holding cs (assign (.Name x.1 x.2) X.env c); assignInOrder _ cs) _ _ _
            refine wpAny_bind (wpAny_holding (wpAny_assign_Name (wpAny_mono (store_any hr hf q hc) (fun _ s2 q0 => ?_) fun _ _ x => x)))
            obtain ⟨e2, hr2, hf2⟩ := q0
            exact wpAny_mono (ih (σ := ⟨σ.ρ.set k (some v), σ.H⟩) hr2 hf2 (RVs.later e2.later _ _ hcs) h) (fun _ s3 q1x => by obtain ⟨e3, hr3, hf3⟩ := q1x; exact ⟨e2.trans e3, hr3, hf3⟩) fun _ _ x => x
theorem assignEach_names (names : List (Str × Pos)) (env : Env) : (assignEach (names.map fun x => .Name x.1 x.2) env).length = names.length ∧ (assignEach (names.map fun x => .Name x.1 x.2) env).findIdx? (·.1) = none := by
  induction names with
  | nil => exact ⟨rfl, rfl⟩
  | cons x r ih =>
    refine ⟨congrArg (· + 1) ih.1, ?_⟩
    show List.findIdx? _ ((false, _) :: _) = none
    rw [List.findIdx?_cons, ih.2]
    rfl
theorem stores_len {res : Str → Option Res} : ∀ {names : List Str} {vs : List AV} {ρ ρ' : List (Option AV)}, stores res names vs ρ = some ρ' → names.length = vs.length
  | [], [], _, _, _ => rfl
  | [], _ :: _, _, _, h => by cases h
  | _ :: _, [], _, _, h => by cases h
  | x :: xs, v :: vs, ρ, ρ', h => by
    unfold stores at h
    split at h
    · exact congrArg (· + 1) (stores_len h)
    · cases h
theorem es_unpack {names : List (Str × Pos)} {kk : Nat} (h : EV X r (eval e X.env) σ fun v σ1 => ∃ vs ρ', v = .tup vs ∧ stores X.res (names.map (·.1)) vs σ1.ρ = some ρ' ∧ KF .next ⟨ρ', σ1.H⟩)
    (hs : swapsWithSole [.Tuple (names.map fun x => .Name x.1 x.2) kk pos'] e pos.line X.env = pure false)
    (hw : swappedStores [.Tuple (names.map fun x => .Name x.1 x.2) kk pos'] e X.env = pure none) : ES X r (exec (.Assign [.Tuple (names.map fun x => .Name x.1 x.2) kk pos'] e pos) X.env) σ KF := fun A m s hA hr hf => by
  refine Assign_Tuple (wpAny_mono (h A m s hA hr hf) (fun cv s1 q0 => ?_) fun _ _ x => x) hs hw
  obtain ⟨v, σ1, m1, ⟨vs, ρ', ev, hst, k1⟩, e1, hr1, hf1, hv⟩ := q0
  subst ev
  simp only [RV] at hv
  obtain ⟨ad, cs, rfl, ho, hcs⟩ := hv
  have hl := stores_len hst
  have hcl := rvs_len hcs
  refine assign_Tuple_tuple (items := cs.toArray) hA.handled ⟨_, ho, rfl, 0, rfl⟩ (by rw [(assignEach_names names X.env).1, List.size_toArray, hcl, ← hl, List.length_map]) (assignEach_names names X.env).2 fun h' he => ?_
  have hk : ∀ a o, s1.heap.get? a = some o → h'.get? a = some o := fun a o e => he a o (Nat.ne_of_lt (Heap.lt_size e)) e
  have hr2 : HR G σ1.H m1 { s1 with heap := h' } := hr1.grow hk hr1.gens
  have hf2 : FR X σ1.ρ σ1.H m1 { s1 with heap := h' } := hf1.grow hk
  have e2 : Ext X.own σ1.H m1 s1 σ1.H m1 { s1 with heap := h' } := .grow hr1 hk rfl rfl
  exact wpAny_mono (stores_any rfl hr2 hf2 (RVs.later e2.later _ _ hcs) hst) (fun _ s3 q2x => by obtain ⟨e3, hr3, hf3⟩ := q2x; exact ⟨.next, ⟨ρ', σ1.H⟩, m1, k1, (e1.trans e2).trans e3, hr3, hf3, rfl⟩) fun _ _ x => x
end
end Mine
end Pa24
section Pa25
set_option compiler.extract_closed false
open PySem PySem.W PySem.Calls PyProof.Rows PySem.SeqAt
set_option maxRecDepth 100000
set_option linter.unusedVariables false
set_option linter.unusedSimpArgs false
namespace Mine
variable {G : Gx} {X : Cx G} {r : Nat} {σ : St} {K : AV → St → Prop}
noncomputable def putA (name : Str) (x : AV) : List (Str × AV) → List (Str × AV)
  | [] => [(name, x)]
  | (k, y) :: r => if k == name then (k, x) :: r else (k, y) :: putA name x r
theorem isStr_str (k name : Str) (t : Tok) : (Value.str k t).isStr name = (k == name) := rfl
theorem rns_get {h : Heap} {m : Mp} {name : Str} {x : AV} : ∀ {es : List (Str × AV)} {l : List DictEntry}, RNs G.fv h m es l → es.lookup name = some x → ∃ v, getL name l = some (some v) ∧ RV G.fv h m x v
  | [], l, hr, hl => by simp at hl
  | (k, y) :: es, l, hr, hl => by
    simp only [RNs] at hr
    obtain ⟨hs, t, v, r, rfl, h1, h2⟩ := hr
    rw [List.lookup_cons] at hl
    unfold getL
    rw [List.find?_cons, isStr_str]
    cases hx : name == k with
    | true =>
      rw [hx] at hl; cases hl
      have e := beq_iff_eq.mp hx
      subst e
      rw [beq_self_eq_true]
      exact ⟨v, rfl, h1⟩
    | false =>
      rw [hx] at hl
      have : (k == name) = false := by
        cases q : k == name with
        | false => rfl
        | true => rw [beq_iff_eq.mp q, beq_self_eq_true] at hx; cases hx
      rw [this]
      obtain ⟨w, e, hw⟩ := rns_get h2 hl
      refine ⟨w, ?_, hw⟩
      unfold getL at e
      cases q : r.find? (·.key.isStr name) with
      | none => rw [q] at e; simp only at e; split at e <;> cases e
      | some z => rw [q] at e; simpa using e
theorem rns_none {h : Heap} {m : Mp} {name : Str} : ∀ {es : List (Str × AV)} {l : List DictEntry}, RNs G.fv h m es l → es.lookup name = none → getL name l = some none
  | [], l, hr, hl => by simp only [RNs] at hr; subst hr; rfl
  | (k, y) :: es, l, hr, hl => by
    simp only [RNs] at hr
    obtain ⟨hs, t, v, r, rfl, h1, h2⟩ := hr
    rw [List.lookup_cons] at hl
    cases hx : name == k with
    | true => rw [hx] at hl; cases hl
    | false =>
      rw [hx] at hl
      have : (k == name) = false := by
        cases q : k == name with
        | false => rfl
        | true => rw [beq_iff_eq.mp q, beq_self_eq_true] at hx; cases hx
      have e := rns_none h2 hl
      unfold getL at e ⊢
      rw [List.find?_cons, isStr_str, this]
      cases q : r.find? (·.key.isStr name) with
      | some z => rw [q] at e; simp at e
      | none =>
        rw [q] at e
        simp only at e ⊢
        rw [List.any_cons]
        have : DictEntry.refKey ⟨hs, .str k t, v⟩ = false := rfl
        rw [this, Bool.false_or]
        exact e
theorem rns_put {h : Heap} {m : Mp} {name : Str} {x : AV} {v : Value} {hsh : Int} {t : Tok} (hx : RV G.fv h m x v) : ∀ {es : List (Str × AV)} {l : List DictEntry}, RNs G.fv h m es l → RNs G.fv h m (putA name x es) (putL name hsh (.str name t) v l)
  | [], l, hr => by simp only [RNs] at hr; subst hr; simp only [putA, putL, RNs]; exact ⟨hsh, t, v, [], rfl, hx, rfl⟩
  | (k, y) :: es, l, hr => by
    simp only [RNs] at hr
    obtain ⟨hs, t', w, r, rfl, h1, h2⟩ := hr
    unfold putA putL
    by_cases q : (k == name) = true
    · rw [if_pos q, if_pos (show (Value.str k t').isStr name = true from q)]; simp only [RNs]; exact ⟨hs, t', v, r, rfl, hx, h2⟩
    · rw [if_neg q, if_neg (show ¬ (Value.str k t').isStr name = true from q)]; simp only [RNs]; exact ⟨hs, t', w, _, rfl, h1, rns_put hx h2⟩
theorem rns_len {h : Heap} {m : Mp} : ∀ {es : List (Str × AV)} {l : List DictEntry}, RNs G.fv h m es l → l.length = es.length
  | [], l, hr => by simp only [RNs] at hr; subst hr; rfl
  | (k, y) :: es, l, hr => by
    simp only [RNs] at hr
    obtain ⟨hs, t', w, r, rfl, h1, h2⟩ := hr
    rw [List.length_cons, List.length_cons, rns_len h2]
theorem putA_len (name : Str) (x : AV) : ∀ es : List (Str × AV), (putA name x es).length ≤ es.length + 1
  | [] => Nat.le_refl _
  | (k, y) :: r => by
    unfold putA
    split
    · simp
    · have := putA_len name x r; simp; omega
structure ClsF (G : Gx) (k : Nat) (C : Addr) : Prop where
  fv : G.fv k = .ref C
  ga : findIn G.K (.ref C) "__getattribute__" = some (some (.builtin "object.__getattribute__"))
  gx : findIn G.K (.ref C) "__getattr__" = some none
  sa : findIn G.K (.ref C) "__setattr__" = some (some (.builtin "object.__setattr__"))
  dict : hasDictIn G.K C = true
  over : plainOver G.K C = true
structure InstS (G : Gx) (H : AH) (n k d : Nat) (C : Addr) (es : List (Str × AV)) : Prop where
  inst : H n = some (.inst k d)
  dct : H d = some (.ns es)
  cls : ClsF G k C
theorem InstS.at {H : AH} {n k d : Nat} {C : Addr} {es : List (Str × AV)} {m : Mp} {s : Shared} (h : InstS G H n k d C es) (hr : HR G H m s) : ∃ l nn, InstAt s.heap (m.f n) { cls := .ref C, dict := some (m.f d) } C (some (dictOf l nn)) ∧ s.heap.get? (m.f d) = some (dictOf l nn) ∧ RNs G.fv s.heap m es l := by
  obtain ⟨o, h1, hd, C', e1, rfl⟩ := hr.obj n _ h.inst
  obtain ⟨o2, h2, l, nn, rfl, hl⟩ := hr.obj d _ h.dct
  rw [h.cls.fv] at e1; cases e1
  exact ⟨l, nn, ⟨h1, rfl, rfl, h2⟩, h2, hl⟩
noncomputable def notFn : AV → Prop
  | .fn _ => False
  | _ => True
theorem handed_of {h : Heap} {m : Mp} {x : AV} {v : Value} (hn : notFn x) (hv : RV G.fv h m x v) : handedIn v = true := by
  cases x with
  | fn k => exact hn.elim
  | none => rw [inv_none hv]; rfl
  | bool b => rw [inv_bool hv]; rfl
  | int i => obtain ⟨t, rfl⟩ := inv_int hv; rfl
  | str i => obtain ⟨t, rfl⟩ := inv_str hv; rfl
  | ref n => obtain ⟨_, rfl⟩ := inv_ref hv; rfl
  | tup xs => simp only [RV] at hv; obtain ⟨a, vs, rfl, _⟩ := hv; rfl
  | rng a b => simp only [RV] at hv; obtain ⟨a, t, u, w, rfl, _⟩ := hv; rfl
section
variable {e o : PySem.Expr} {name : Str} {pos pos' apos : Pos} {es : List PySem.Expr}
theorem P1.attr {n k d : Nat} {C : Addr} {ens : List (Str × AV)} {x : AV} (I : InstS G σ.H n k d C ens) (hf : findIn G.K (.ref C) name = some none) (hl : ens.lookup name = some x) (hx : notFn x) {A : Around} {m : Mp} {s : Shared} {expr : Bool} {Q : Value → Shared → Prop} (hr : HR G σ.H m s)
    (hQ : ∀ v, RV G.fv s.heap m x v → Q v { s with toks := s.toks + 1 }) : wpAny (model G.prog G.w) A (getAttr (.ref (m.f n)) name expr) Q NoE s := by
  obtain ⟨l, nn, Ia, hd, hns⟩ := I.at hr
  obtain ⟨v, hg, hv⟩ := rns_get hns hl
  exact get_value (G.kin.keeps hr.base) Ia I.cls.ga (findObj_own I.cls.dict hf rfl (by rw [lookIn_dict]; exact hg)) (handed_of hx hv) (hQ v hv)
inductive AttrQ (G : Gx) (name : Str) (K : AV → St → Prop) (a : AV) (σ1 : St) : Prop
  | mk (n k d : Nat) (C : Addr) (ens : List (Str × AV)) (x : AV) (ea : a = .ref n) (I : InstS G σ1.H n k d C ens) (hf : findIn G.K (.ref C) name = some none) (hl : ens.lookup name = some x) (hx : notFn x) (hk : K x σ1) : AttrQ G name K a σ1
theorem ev_attr (h : EV X r (eval e X.env) σ (AttrQ G name K))
    (hbase : attributeBase e name X.env (eval e X.env) = eval e X.env := by rfl) : EV X r (eval (.Attribute e name pos) X.env) σ K := fun A m s hA hr hf => by
  rw [arm_eval_Attribute, hbase]
  refine wpAny_bind (wpAny_mono (h A m s hA hr hf) (fun ca s1 q0 => ?_) fun _ _ x => x)
  obtain ⟨a, σ1, m1, ⟨n, k, d, C, ens, x, ea, I, hfi, hl, hx, hk⟩, e1, hr1, hf1, ha⟩ := q0
  subst ea
  obtain ⟨hlt, rfl⟩ := inv_ref ha
  refine wpAny_bind (wpAny_standAt (wpAny_bind (wpAny_holding (P1.attr I hfi hl hx hr1 fun v hv => ?_))))
  exact wpAny_bind (wpAny_letTemporaryGo (wpAny_pure (Post.trans e1 (post_pure hr1 hf1 hk hv))))
theorem set_attr {n k d : Nat} {C : Addr} {ens : List (Str × AV)} {x : AV} {cv : Value} (I : InstS G σ.H n k d C ens) (hf : findIn G.K (.ref C) name = some none) (hz : ens.length ≤ 900) {A : Around} {m : Mp} {s : Shared} {Q : Unit → Shared → Prop} (hr : HR G σ.H m s) (hv : RV G.fv s.heap m x cv)
    (hQ : ∀ h' o', Heap.SameBut (m.f d) s.heap h' → h'.get? (m.f d) = some o' → (Later s.heap m h' m → RO G h' m o' (.ns (putA name x ens))) → Q () { s with heap := h', toks := s.toks + 1 + 1 }) : wpAny (model G.prog G.w) A (setAttr (.ref (m.f n)) name cv) Q NoE s := by
  obtain ⟨l, nn, Ia, hd, hns⟩ := I.at hr
  have X0 := G.kin.keeps hr.base
  have Ia' : InstAt ({ s with toks := s.toks + 1 } : Shared).heap (m.f n) { cls := .ref C, dict := some (m.f d) } C (some (dictOf l nn)) := Ia
  refine PySem.W.set_plain X0 Ia I.cls.sa ?_
  refine osa_open (s := { s with toks := s.toks + 1 }) X0 Ia' I.cls.over (r := none) (by unfold takerIn; rw [hf]; rfl) fun b => ?_
  obtain ⟨cd, hc, hd'⟩ := any_some I.cls.dict
  refine wpAny_bind (wpAny_pure (wpAny_bind (wpAny_bind (wpAny_loadPart Ia.at_ (wpAny_bind (Looks.here (s := { s with toks := s.toks + 1 }) (looks_clsIn X0 hc) ?_))))))
  rw [hd']
  refine wpAny_pure (a := some (m.f d)) (wpAny_bind (wpAny_pure (wpAny_bind ?_)))
  unfold nsSet
  refine wpAny_bind (wpAny_bind (wpAny_askSetting (wpAny_pure (wpAny_bind (wpAny_mkText (wpAny_bind (wpAny_loadPart hd ?_)))))))
  have hnr : ∀ {es : List (Str × AV)} {l : List DictEntry}, RNs G.fv s.heap m es l → l.any (·.refKey) = false := by
    intro es
    induction es with
    | nil => intro l h; simp only [RNs] at h; subst h; rfl
    | cons p es ih =>
      intro l h
      obtain ⟨k, x⟩ := p
      simp only [RNs] at h
      obtain ⟨hs, t, v, r, rfl, _, h2⟩ := h
      rw [List.any_cons, ih h2]; rfl
  have c : (!l.toArray.any (·.key.isStr name) && l.toArray.any (·.refKey)) = false := by
    rw [← Array.any_toList, ← Array.any_toList, hnr hns, Bool.and_false]
  dsimp only
  rw [aRefKeyMayBeTheName_at, c]
  refine wpAny_updatePart hd ?_
  have hput := putName_dict name (PyData.keyHash G.w.params name) (.str name (s.toks + 1)) cv l nn
  have hg : (s.heap.update (m.f d) (Obj.putName name (PyData.keyHash G.w.params name) (.str name (s.toks + 1)) cv)).get? (m.f d) = some (dictOf (putL name (PyData.keyHash G.w.params name) (.str name (s.toks + 1)) cv l) (putN name l nn)) := by
    rw [← hput]
    exact Heap.get?_update_self _ hd (by rw [hput]; rfl)
  have hlen : (putL name (PyData.keyHash G.w.params name) (.str name (s.toks + 1)) cv l).length ≤ 1000 := by
    have h1 := rns_len (rns_put (name := name) (hsh := PyData.keyHash G.w.params name) (t := s.toks + 1) hv hns)
    have h2 := putA_len name x ens
    omega
  refine wpAny_bind (wpAny_lookBehind hg (pastItsLine_dict (by rw [List.size_toArray, sizeLine_eq]; omega)) ?_)
  refine wpAny_pure ?_
  exact hQ _ _ (Heap.SameBut.update ..) hg (fun L => ⟨_, _, rfl, rns_put (RV.later L _ _ hv) (RNs.later L _ _ hns)⟩)
variable {KF : AF → St → Prop}
inductive SetAQ (G : Gx) (name : Str) (KF : AF → St → Prop) (v ov : AV) (σ2 : St) : Prop
  | mk (n k d : Nat) (C : Addr) (ens : List (Str × AV)) (eo : ov = .ref n) (I : InstS G σ2.H n k d C ens) (hf : findIn G.K (.ref C) name = some none) (hz : ens.length ≤ 900) (hk : KF .next ⟨σ2.ρ, σ2.H.upd d (.ns (putA name v ens))⟩) : SetAQ G name KF v ov σ2
theorem es_setA (h : EV X r (eval e X.env) σ fun v σ1 => EV X r (eval o X.env) σ1 (SetAQ G name KF v))
    (hs : swapsWith e (some (.Attribute o name pos')) pos.line X.env = pure false) : ES X r (exec (.Assign [.Attribute o name pos'] e pos) X.env) σ KF := fun A m s hA hr hf => by
  refine plainObj_wpAny_Assign_Attribute (wpAny_mono (h A m s hA hr hf) (fun cv s1 q0 => ?_) fun _ _ x => x) hs
  obtain ⟨v, σ1, m1, k1, e1, hr1, hf1, hv⟩ := q0
  refine wpAny_mono (k1 A m1 s1 hA hr1 hf1) (fun co s2 q0 => ?_) fun _ _ x => x
  obtain ⟨ov, σ2, m2, ⟨n, k, d, C, ens, eo, I, hfi, hz, hk⟩, e2, hr2, hf2, hov⟩ := q0
  subst eo
  obtain ⟨hlt, rfl⟩ := inv_ref hov
  have hv2 := RV.later e2.later _ _ hv
  refine set_attr I hfi hz hr2 hv2 fun h' o' hsb ho' hro => ?_
  obtain ⟨v', σ', m', hK, hE, hR, hF, hv'⟩ := post_turn (K := fun _ σ' => σ' = ⟨σ2.ρ, σ2.H.upd d (.ns (putA name v ens))⟩) (v := .none) (cv := .none) (x := .ns (putA name v ens)) hr2 hf2 I.dct hsb (s' := { s2 with heap := h', toks := s2.toks + 1 + 1 }) rfl rfl ho' hro (fun _ => rv_none) rfl
  subst hK
  exact ⟨.next, _, m', hk, (e1.trans e2).trans hE, hR, hF, rfl⟩
inductive AugAQ2 (G : Gx) (name : Str) (KF : AF → St → Prop) (n k d : Nat) (C : Addr) (w : AV) (σ3 : St) : Prop
  | mk (ens' : List (Str × AV)) (I : InstS G σ3.H n k d C ens') (hz : ens'.length ≤ 900) (hk : KF .next ⟨σ3.ρ, σ3.H.upd d (.ns (putA name w ens'))⟩) : AugAQ2 G name KF n k d C w σ3
inductive AugAQ (X : Cx G) (r : Nat) (name : Str) (op : Operator) (e : PySem.Expr) (KF : AF → St → Prop) (ov : AV) (σ1 : St) : Prop
  | mk (n k d : Nat) (C : Addr) (ens : List (Str × AV)) (x : AV) (eo : ov = .ref n) (I : InstS G σ1.H n k d C ens) (hf : findIn G.K (.ref C) name = some none) (hl : ens.lookup name = some x) (hx : notFn x)
      (hk : EV X r (eval e X.env) σ1 fun v σ2 => P2 X r (inplaceOp op) x v σ2 (AugAQ2 G name KF n k d C)) : AugAQ X r name op e KF ov σ1
theorem es_augA {op : Operator} (h : EV X r (eval o X.env) σ (AugAQ X r name op e KF)) : ES X r (exec (.AugAssign (.Attribute o name pos') op e pos) X.env) σ KF := fun A m s hA hr hf => by
  refine wpAny_AugAssign_AttributeAny (wpAny_mono (h A m s hA hr hf) (fun co s1 q0 => ?_) fun _ _ x => x)
  obtain ⟨ov, σ1, m1, ⟨n, k, d, C, ens, x, eo, I, hfi, hl, hx, k1⟩, e1, hr1, hf1, hov⟩ := q0
  subst eo
  obtain ⟨hlt, rfl⟩ := inv_ref hov
  refine P1.attr I hfi hl hx hr1 fun cx hcx => ?_
  have hr1' := hr1.toks (s1.toks + 1)
  have hf1' := hf1.toks (s1.toks + 1)
  have e01 : Ext X.own σ1.H m1 s1 σ1.H m1 { s1 with toks := s1.toks + 1 } := .grow hr1 (fun _ _ e => e) rfl rfl
  refine wpAny_mono (k1 A m1 _ hA hr1' hf1') (fun cv s2 q0 => ?_) fun _ _ x => x
  obtain ⟨v, σ2, m2, k2, e2, hr2, hf2, hv⟩ := q0
  refine wpAny_mono (k2 A m2 s2 cx cv hA hr2 hf2 (RV.later e2.later _ _ hcx) hv) (fun cw s3 q0 => ?_) fun _ _ x => x
  obtain ⟨w, σ3, m3, ⟨ens', I3, hz, hk⟩, e3, hr3, hf3, hw⟩ := q0
  have hfn : m3.f n = m1.f n := (e3.f n (Nat.lt_of_lt_of_le hlt e2.n)).trans (e2.f n hlt)
  rw [← hfn]
  refine set_attr I3 hfi hz hr3 hw fun h' o' hsb ho' hro => ?_
  obtain ⟨v', σ', m', hK, hE, hR, hF, hv'⟩ := post_turn (K := fun _ σ' => σ' = ⟨σ3.ρ, σ3.H.upd d (.ns (putA name w ens'))⟩) (v := .none) (cv := .none) (x := .ns (putA name w ens')) hr3 hf3 I3.dct hsb (s' := { s3 with heap := h', toks := s3.toks + 1 + 1 }) rfl rfl ho' hro (fun _ => rv_none) rfl
  subst hK
  exact ⟨.next, _, m', hk, (((e1.trans e01).trans e2).trans e3).trans hE, hR, hF, rfl⟩
inductive MethIQ (X : Cx G) (r : Nat) (name : Str) (es : List PySem.Expr) (K : AV → St → Prop) (a : AV) (σ1 : St) : Prop
  | mk (n k d : Nat) (C : Addr) (ens : List (Str × AV)) (f : Addr) (kf : Nat) (ea : a = .ref n) (I : InstS G σ1.H n k d C ens) (hf : findIn G.K (.ref C) name = some (some (.ref f))) (ht : typeIn G.K (.ref f) = some (.type "function")) (hl : ens.lookup name = Option.none) (hv : G.fv kf = .ref f) (hk : Keep G (.ref f))
      (h : EA X r es σ1 fun as σ2 => CV X r (G.fv kf) (.ref n :: as) σ2 K) : MethIQ X r name es K a σ1
theorem ev_methI (h : EV X r (eval e X.env) σ (MethIQ X r name es K))
    (hbase : attributeBase e name X.env (eval e X.env) = eval e X.env := by rfl)
    (hline : (apos.endLine == pos.line) = true := by rfl)
    (hform : methodCallForm (es.length + ([] : List Keyword).length) (backTo pos (starEach es X.env)) (backToKw pos (keywordEach [] X.env)) = true := by rfl)
    (ht : backTo pos (starEach es X.env) = es.map fun e => (false, eval e X.env) := by rfl) : EV X r (eval (.Call (.Attribute e name apos) es [] pos) X.env) σ K := fun A m s hA hr hf => by
  rw [arm_eval_Call, hbase]
  refine wpAny_bind (wpAny_mono (h A m s hA hr hf) (fun ca s1 q0 => ?_) fun _ _ x => x)
  obtain ⟨a, σ1, m1, ⟨n, k, d, C, ens, f, kf, ea, I, hfi, hty, hl, hkf, hkeep, h2⟩, e1, hr1, hf1, ha⟩ := q0
  subst ea
  have ha' := ha
  obtain ⟨hlt, rfl⟩ := inv_ref ha
  refine wpAny_bind (wpAny_standAt ?_)
  have hpos : methodCallPos true e X.env apos pos = pure pos := by unfold methodCallPos; simp [hline]
  unfold methodCall
  rw [hform]
  obtain ⟨l, nn, Ia, hd, hns⟩ := I.at hr1
  refine wpAny_bind (wpAny_holding ?_)
  show wpAny _ _ (getMethod _ _ _) _ _ _
  refine method_fn (G.kin.keeps hr1.base) Ia I.cls.ga I.cls.gx hfi hty (by show (lookIn name (dictOf l nn)).map _ = _; rw [lookIn_dict, rns_none hns hl]; rfl) ?_
  refine wpAny_bind (wpAny_of_eq hpos ?_)
  rw [ht]
  rw [hkf] at h2
  exact wpAny_mono (callWith_any (first := [.ref n]) hA hr1 hf1 hkeep (by simp only [RVs]; exact ⟨_, [], rfl, ha', rfl⟩) h2) (fun _ _ p => Post.trans e1 p) fun _ _ x => x
end
end Mine
end Pa25
section Pa26
set_option compiler.extract_closed false
open PySem PySem.W PySem.Calls PyProof.Rows PySem.SeqAt
set_option maxRecDepth 100000
set_option linter.unusedVariables false
set_option linter.unusedSimpArgs false
namespace Mine
variable {G : Gx} {X : Cx G} {r : Nat} {σ : St} {K : AV → St → Prop}
theorem hr_new {H : AH} {m : Mp} {s s' : Shared} {a : Addr} {o : Obj} {x : AO} (hr : HR G H m s) (hk : ∀ a o, s.heap.get? a = some o → s'.heap.get? a = some o) (hg : s'.gens = s.gens) (hos : s'.os = s.os)
    (ha : s.heap.get? a = none) (ho : s'.heap.get? a = some o) (hx : RO G s'.heap (m.put a) o x) : H m.n = none ∧ HR G (H.upd m.n x) (m.put a) s' ∧ Ext (fun _ => False) H m s (H.upd m.n x) (m.put a) s' := by
  have hn : H m.n = none := by
    cases q : H m.n with
    | none => rfl
    | some o => exact absurd (hr.dom _ _ q) (Nat.lt_irrefl _)
  have L : Later s.heap m s'.heap (m.put a) := ⟨Nat.le_succ _, fun i hi => Mp.put_lt m a hi, fun a o _ e => hk _ _ e⟩
  have hne : ∀ i o, H i = some o → m.f i ≠ a := fun i o e q => by
    obtain ⟨o', h1, _⟩ := hr.obj i o e
    rw [q, ha] at h1; cases h1
  have hupd : ∀ i y, (H.upd m.n x) i = some y → (i = m.n ∧ y = x) ∨ (i < m.n ∧ H i = some y) := fun i y e => by
    unfold AH.upd at e
    by_cases q : i = m.n
    · rw [if_pos q] at e; exact .inl ⟨q, (Option.some.inj e).symm⟩
    · rw [if_neg q] at e; exact .inr ⟨hr.dom i y e, e⟩
  refine ⟨hn, ⟨fun i y e => ?_, fun i j y y' e e' q => ?_, fun i y e => ?_, fun b o' e => hk b o' (hr.base b o' e), fun i y e => ?_, by rw [hg]; exact hr.gens, ⟨Nat.lt_succ_of_lt hr.zero.1, (Mp.put_lt m a hr.zero.1).trans hr.zero.2⟩⟩, ⟨Nat.le_succ _, fun i hi => Mp.put_lt m a hi, fun i y e => ?_, fun b o' e _ _ => hk b o' e, fun b o _ e => hk _ _ e, hos, fun g z e => by rw [hg]; exact e, fun b e => ?_⟩⟩
  · rcases hupd i y e with ⟨rfl, rfl⟩ | ⟨hi, e'⟩
    · exact Nat.lt_succ_self _
    · exact Nat.lt_succ_of_lt hi
  · rcases hupd i y e with ⟨rfl, rfl⟩ | ⟨hi, e1⟩ <;> rcases hupd j y' e' with ⟨rfl, rfl⟩ | ⟨hj, e2⟩
    · rfl
    · rw [Mp.put_n, Mp.put_lt m a hj] at q; exact absurd q.symm (hne j y' e2)
    · rw [Mp.put_n, Mp.put_lt m a hi] at q; exact absurd q (hne i y e1)
    · rw [Mp.put_lt m a hi, Mp.put_lt m a hj] at q; exact hr.inj i j y y' e1 e2 q
  · rcases hupd i y e with ⟨rfl, rfl⟩ | ⟨hi, e1⟩
    · rw [Mp.put_n]; exact ⟨o, ho, hx⟩
    · obtain ⟨o', h1, h2⟩ := hr.obj i y e1
      rw [Mp.put_lt m a hi]
      exact ⟨o', hk _ _ h1, h2.later L⟩
  · rcases hupd i y e with ⟨rfl, rfl⟩ | ⟨hi, e1⟩
    · rw [Mp.put_n]
      cases q : G.h₀.get? a with
      | none => rfl
      | some o' => rw [hr.base a o' q] at ha; cases ha
    · rw [Mp.put_lt m a hi]; exact hr.above i y e1
  · rcases hupd i y e with ⟨rfl, rfl⟩ | ⟨hi, e'⟩
    · exact .inr ⟨Nat.le_refl _, .inl (by rw [Mp.put_n]; exact ha)⟩
    · exact .inl ⟨hi, y, e'⟩
  · cases q : s.heap.get? b with
    | none => rw [q] at e; cases e
    | some o' => rw [hk b o' q]; rfl
theorem weight_tc (C : Addr) (rest : List Value) : (Code.builtin "type.__call__" ⟨.ref C :: rest, []⟩).weight = 1 := by kernel_rfl
theorem class_call {k kI : Nat} {C fI : Addr} {args : List AV} {H : AH} {KA : AV → AH → Prop} (hcls : G.fv k = .ref C) (hm : makesIn G.K C = true) (hi : findIn G.K (.ref C) "__init__" = some (some (.ref fI))) (hty : typeIn G.K (.ref fI) = some (.type "function"))
    (h : ∀ n d, n ≠ d → H n = none → H d = none → CallOK G r (.ref fI) (.ref n :: args) ((H.upd d (.ns [])).upd n (.inst k d)) (fun v H' => v = .none ∧ KA (.ref n) H')) : CallOK G (r + 1) (.ref C) args H KA := fun A m s cargs hA hr ha => by
  obtain ⟨hh, g, dr, t, os⟩ := s
  have X0 := G.kin.keeps hr.base
  have f1 : hh.get? hh.objs.size = none := Heap.get?_none_of_le (Nat.le_refl _)
  obtain ⟨hn1, hr1, e1⟩ := hr_new (x := .ns []) (s' := ⟨hh.push emptyDict, g, dr, t, os⟩) hr (fun a o e => Heap.get?_push_of_some _ e) rfl rfl f1 (Heap.get?_push_size _ rfl) ⟨[], 0, rfl, by simp only [RNs]⟩
  have f2 : (hh.push emptyDict).get? (hh.objs.size + 1) = none := Heap.get?_none_of_le (by rw [Heap.size_push]; exact Nat.le_refl _)
  have g2 : ((hh.push emptyDict).push (instObj C hh.objs.size)).get? (hh.objs.size + 1) = some (instObj C hh.objs.size) := by
    have := Heap.get?_push_size (hh.push emptyDict) (o := instObj C hh.objs.size) rfl
    rwa [Heap.size_push] at this
  obtain ⟨hn2, hr2, e2⟩ := hr_new (x := .inst k m.n) (s' := ⟨(hh.push emptyDict).push (instObj C hh.objs.size), g, dr, t, os⟩) hr1 (fun a o e => Heap.get?_push_of_some _ e) rfl rfl f2 g2
    ⟨by show m.n < m.n + 1 + 1; omega, C, hcls, by rw [Mp.put_lt _ _ (by show m.n < m.n + 1; omega), Mp.put_n]⟩
  have hn3 : H (m.n + 1) = none := by
    cases q : H (m.n + 1) with
    | none => rfl
    | some o => have := hr.dom _ _ q; omega
  have hu : (A.under (.builtin "type.__call__" ⟨.ref C :: cargs, []⟩)).units = A.units + 1 := rfl
  have hOk : OkA r (A.under (.builtin "type.__call__" ⟨.ref C :: cargs, []⟩)) := ⟨hA.handled, by
    have h1 := hA.depth
    have : (A.under (.builtin "type.__call__" ⟨.ref C :: cargs, []⟩)).depth = A.depth + (Code.builtin "type.__call__" ⟨.ref C :: cargs, []⟩).weight := rfl
    rw [weight_tc] at this
    omega, by have := hA.units; omega⟩
  refine make_core (makes_of X0 hm) (looks_findIn X0 hi) (fun self => bind_fn X0 self hty) (.inl rfl) ?_
  have hx : (Value.ref (hh.objs.size + 1)) = .ref (((m.put hh.objs.size).put (hh.objs.size + 1)).f (m.n + 1)) := by
    have := Mp.put_n (m.put hh.objs.size) (hh.objs.size + 1)
    rw [show (m.put hh.objs.size).n = m.n + 1 from rfl] at this
    rw [this]
  refine codeAny_mono (h (m.n + 1) m.n (by omega) hn3 hn1 _ _ _ (.ref (hh.objs.size + 1) :: cargs) hOk hr2 ?_) fun q s' hq => ?_
  · simp only [RVs]
    refine ⟨_, cargs, rfl, ?_, RVs.later (e1.trans e2).later _ _ ha⟩
    simp only [RV]
    exact ⟨by show m.n + 1 < m.n + 1 + 1; omega, hx⟩
  · rcases q with e | (cv | _ | _ | _) <;> first | exact hq.elim | skip
    obtain ⟨v, H', m', ⟨rfl, k'⟩, e3, hr3, hv⟩ := hq
    refine ⟨inv_none hv, .ref (m.n + 1), H', m', k', (e1.trans e2).trans e3, hr3, ?_⟩
    simp only [RV]
    have hlt : m.n + 1 < ((m.put hh.objs.size).put (hh.objs.size + 1)).n := by show m.n + 1 < m.n + 1 + 1; omega
    exact ⟨Nat.lt_of_lt_of_le hlt e3.n, by rw [e3.f _ hlt]; exact hx⟩
section
variable {e o : PySem.Expr} {name : Str} {pos pos' apos : Pos} {es : List PySem.Expr}
inductive BoundQ (G : Gx) (name : Str) (K : AV → St → Prop) (a : AV) (σ1 : St) : Prop
  | mk (n k d : Nat) (C : Addr) (ens : List (Str × AV)) (f : Addr) (kf : Nat) (ea : a = .ref n) (I : InstS G σ1.H n k d C ens) (hf : findIn G.K (.ref C) name = some (some (.ref f))) (ht : typeIn G.K (.ref f) = some (.type "function")) (hg : specialIn G.K (.ref f) "__get__" = some (some (.builtin "function.__get__"))) (hw : takesIn G.K (.ref f) = some false) (hc : copiedNames.contains name = false) (hl : ens.lookup name = Option.none) (hv : G.fv kf = .ref f)
      (hk : ∀ q, σ1.H q = Option.none → K (.ref q) ⟨σ1.ρ, σ1.H.upd q (.meth kf n)⟩) : BoundQ G name K a σ1
theorem ev_bound (h : EV X r (eval e X.env) σ (BoundQ G name K))
    (hbase : attributeBase e name X.env (eval e X.env) = eval e X.env := by rfl) : EV X r (eval (.Attribute e name pos) X.env) σ K := fun A m s hA hr hf => by
  rw [arm_eval_Attribute, hbase]
  refine wpAny_bind (wpAny_mono (h A m s hA hr hf) (fun ca s1 q0 => ?_) fun _ _ x => x)
  obtain ⟨a, σ1, m1, ⟨n, k, d, C, ens, f, kf, ea, I, hfi, hty, hsp, htk, hcn, hl, hkf, hk⟩, e1, hr1, hf1, ha⟩ := q0
  subst ea
  obtain ⟨hlt, rfl⟩ := inv_ref ha
  obtain ⟨l, nn, Ia, hd, hns⟩ := I.at hr1
  have X0 := G.kin.keeps hr1.base
  have X0' : G.K.In ({ s1 with toks := s1.toks + 1 } : Shared).heap := X0
  refine wpAny_bind (wpAny_standAt (wpAny_bind (wpAny_holding (get_bind X0 Ia I.cls.ga (findObj_fn I.cls.dict hfi hsp htk hcn (by rw [lookIn_dict]; exact rns_none hns hl)) I.cls.gx ?_))))
  refine wpAny_call (fn_get (s := { s1 with toks := s1.toks + 1 }) X0' hty ?_)
  show wpAny _ _ (handedOut _) _ _ _
  rw [handedOut_of rfl]
  refine wpAny_pure (wpAny_bind (wpAny_letTemporaryGo (wpAny_pure (Post.trans e1 ?_))))
  refine post_new (x := .meth kf n) (s' := { s1 with heap := s1.heap.push (methodObj (.ref f) (.ref (m1.f n))), toks := s1.toks + 1 }) hr1 hf1 (fun a o e => Heap.get?_push_of_some _ e) rfl rfl (Heap.get?_none_of_le (by simp)) (Heap.get?_push_size _ rfl) ?_ hk
  refine ⟨Nat.lt_succ_of_lt hlt, ?_⟩
  rw [hkf, Mp.put_lt _ _ hlt]
end
end Mine
end Pa26
section Pa27
set_option compiler.extract_closed false
open PySem PySem.W PySem.Calls PyProof.Rows PySem.SeqAt
open PySem.Builtin
set_option maxRecDepth 100000
set_option linter.unusedVariables false
set_option linter.unusedSimpArgs false
namespace Mine
namespace F
open PySem.F
theorem m_entry_iter : entryFor table "iter" = some Builtin.«iter» := entryFor_of_tree (by kernel_rfl)
theorem m_kind_iter : builtinKind "iter" = none := by decide +kernel
theorem m_plain_iter : plainId "iter" = true := by decide +kernel
theorem m_args_iter2 (a b : Value) : argsOk "iter" ⟨[a, b], []⟩ := by unfold argsOk; kernel_rfl
theorem m_method_call : typeLookup (.type "method") "__call__" = pure (some (.builtin "method.__call__")) := by rw [typeLookup_type, builtinLookup_eq_fast]; kernel_rfl
theorem owner_citer : Manifest.owners.lookup (String.ofList ['r', 'o', 't', 'a', 'r', 'e', 't', 'i', '_', 'e', 'l', 'b', 'a', 'l', 'l', 'a', 'c'].reverse) = some Manifest.sig_callable_iterator := by kernel_rfl
theorem slot_citer_next : Slot "callable_iterator" "__next__" "callable_iterator.__next__" :=
  .of (owner := "callable_iterator") (n := "__next__") (by rw [typeLookup_type, builtinLookup_eq_fast]; kernel_rfl) (by decide +kernel) (by decide +kernel) (by decide +kernel)
    (by first | exact .inl (by decide +kernel) | exact .inr (by decide +kernel)) (by rw [isSubtype_type]; kernel_rfl)
theorem entry_citer_next : entryFor table "callable_iterator.__next__" = some Builtin.«callable_iterator.__next__» := entryFor_of_tree (by kernel_rfl)
theorem args_citer_next (a : Value) : argsOk "callable_iterator.__next__" ⟨[a], []⟩ := by
  unfold argsOk; rw [signature?_of (id := "callable_iterator.__next__") (n := ['_', '_', 't', 'x', 'e', 'n', '_', '_']) (o := ['r', 'o', 't', 'a', 'r', 'e', 't', 'i', '_', 'e', 'l', 'b', 'a', 'l', 'l', 'a', 'c']) (by kernel_rfl) owner_citer]; kernel_rfl
theorem slot_citer_iter : Slot "callable_iterator" "__iter__" "callable_iterator.__iter__" :=
  .of (owner := "callable_iterator") (n := "__iter__") (by rw [typeLookup_type, builtinLookup_eq_fast]; kernel_rfl) (by decide +kernel) (by decide +kernel) (by decide +kernel)
    (by first | exact .inl (by decide +kernel) | exact .inr (by decide +kernel)) (by rw [isSubtype_type]; kernel_rfl)
theorem entry_citer_iter : entryFor table "callable_iterator.__iter__" = some Builtin.«dict_keyiterator.__iter__» :=
  entryFor_alias (id' := "dict_keyiterator.__iter__") (by rw [fastTable_eq_tree]; kernel_rfl) rfl (by decide +kernel) (by rw [fastTable_eq_tree]; kernel_rfl)
theorem args_citer_iter (a : Value) : argsOk "callable_iterator.__iter__" ⟨[a], []⟩ := by unfold argsOk; kernel_rfl
end F
theorem wp_callBorrowed {M : Model} {A : Around} {E : Value → Shared → Prop} {s : Shared} {f : Value} {pos : List Value} {Q : Value → Shared → Prop}
    (hc : codeAny M A (.call f ⟨pos, []⟩) (fun r s' => match r with | .ok (.ret v) => Q v s' | .ok _ => False | .error e => E e s') s) : wpAny M A (callBorrowed f pos) Q E s := fun Γ p hΓ => by
  have : Sem.wp M Γ (callBorrowed f pos) (fun v _ s' => Q v s') (fun e _ s' => E e s') p s = wpCode M (Γ.enter (.call f ⟨pos, []⟩) none p) (fun r s' => match r with | .ok (.ret v) => Q v s' | .ok _ => False | .error e => E e s') p s := by
    unfold callBorrowed; rw [Sem.wp_call]; congr 1; funext r s'
    rcases r with e | (v | _ | _ | _) <;> rfl
  show Sem.wp M Γ (callBorrowed f pos) (fun v _ s' => Q v s') (fun e _ s' => E e s') p s
  rw [this]; exact hc _ p rfl (hΓ.enter _ none p (by intro x; cases x))
theorem stop_any {prog : Program} {w : World} {A : Around} {E : Value → Shared → Prop} {s : Shared} {α : Type} {Q : α → Shared → Prop} (hh : A.handled = none)
    (h : ∀ a h', (∀ b o, s.heap.get? b = some o → h'.get? b = some o) → (∃ o, h'.get? a = some o ∧ o.cls = .type "StopIteration") → E (.ref a) { s with heap := h' }) :
    wpAny (model prog w) A (newExc (.type "StopIteration") []) (fun e => wpAny (model prog w) A (raiseNew e : Sem α) Q E) E s := by
  unfold newExc newTuple raiseNew
  refine (wpAny_bind (wpAny_newObj_type (wpAny_bind (wpAny_of_eq (a := Value.none) rfl ?_)) (by size_fits)))
  refine wpAny_newObj_type (wpAny_bind (wpAny_handled ?_)) (by size_fits)
  rw [hh]
  refine wpAny_throw (h _ _ (fun b o q => Heap.get?_push_of_some _ (Heap.get?_push_of_some _ q)) ?_)
  exact ⟨_, Heap.get?_push_size _ rfl, rfl⟩
variable {G : Gx} {X : Cx G} {r : Nat} {σ : St} {K : AV → St → Prop}
theorem HR.meth {H : AH} {m : Mp} {s : Shared} (hr : HR G H m s) {n k self : Nat} (h : H n = some (.meth k self)) : self < m.n ∧ s.heap.get? (m.f n) = some (methodObj (G.fv k) (.ref (m.f self))) := by
  obtain ⟨o, h1, h2, rfl⟩ := hr.obj n _ h
  exact ⟨h2, h1⟩
theorem CV.iter2 {n kf self : Nat} {x : Str} (hn : σ.H n = some (.meth kf self)) (h : ∀ q, σ.H q = Option.none → K (.ref q) ⟨σ.ρ, σ.H.upd q (.citer n x false)⟩) : CV X r (.builtin "iter") [.ref n, .str x] σ K := fun A m s cargs hA hr hf ha => by
  obtain ⟨ca, cb, rfl, ha, hb⟩ := rvs2 ha
  obtain ⟨hlt, rfl⟩ := inv_ref ha
  obtain ⟨t, rfl⟩ := inv_str hb
  obtain ⟨hself, ho⟩ := hr.meth hn
  refine call_function_tree F.m_kind_iter F.m_plain_iter F.m_entry_iter (F.m_args_iter2 _ _) ?_
  unfold Builtin.«iter»
  refine wpAny_bind (m := someArgs "iter" 1 2 _) (wpAny_of_eq (a := [Value.ref (m.f n), .str x t]) (by first | rfl | kernel_rfl!) ?_)
  show wpAny _ _ (specialOf (.ref (m.f n)) "__call__" >>= _) _ _ _
  refine wpAny_bind (wpAny_specialOf (T := "method") ⟨_, ho, rfl⟩ F.m_method_call ?_)
  show wpAny _ _ (rule "iter.sentinel" >>= _) _ _ _
  refine wpAny_bind (wpAny_rule ?_)
  refine wpAny_bind (wpAny_newObj_type ?_)
  refine wpAny_pure ?_
  exact post_new (x := .citer n x false) (s' := { s with heap := s.heap.push _ }) hr hf (fun a o e => Heap.get?_push_of_some _ e) rfl rfl (Heap.get?_none_of_le (by simp)) (Heap.get?_push_size _ rfl)
    ⟨Nat.lt_succ_of_lt hlt, t, by rw [Mp.put_lt _ _ hlt]; rfl⟩ h
end Mine
end Pa27
section Pa28
set_option compiler.extract_closed false
open PySem PySem.W PySem.Calls PyProof.Rows PySem.SeqAt
open PySem.Builtin
set_option maxRecDepth 100000
set_option linter.unusedVariables false
set_option linter.unusedSimpArgs false
namespace Mine
variable {G : Gx} {X : Cx G} {r : Nat} {σ : St} {K : AV → St → Prop}
noncomputable def relO (G : Gx) : Heap → Mp → Option AV → Option Value → Prop := fun h m o co => match o, co with
  | none, none => True
  | some v, some cv => RV G.fv h m v cv
  | _, _ => False
noncomputable def EN (X : Cx G) (r : Nat) (q : Nat) (σ : St) (K : Option AV → St → Prop) : Prop :=
  ∀ A m s, OkA r A → HR G σ.H m s → FR X σ.ρ σ.H m s → wpAny (model G.prog G.w) A (pyNext (.ref (m.f q))) (PostG (relO G) X σ m s K) NoE s
theorem HR.citer {H : AH} {m : Mp} {s : Shared} (hr : HR G H m s) {n c : Nat} {x : Str} {d : Bool} (h : H n = some (.citer c x d)) : c < m.n ∧ ∃ t, s.heap.get? (m.f n) = some { cls := .type "callable_iterator", data := .fields (if d then #[.none, .none, .bool true] else #[.ref (m.f c), .str x t, .bool false]) } := by
  obtain ⟨o, h1, h2, t, rfl⟩ := hr.obj n _ h
  exact ⟨h2, t, h1⟩
theorem fields_rec (cls : Value) (vs : Array Value) (i : Nat) (v : Value) : Obj.mapFields (fun a => a.setIfInBounds i v) { cls := cls, data := .fields vs } = { cls := cls, data := .fields (vs.setIfInBounds i v) } := rfl
theorem EN.citer {q c kf self : Nat} {f : Addr} {fd : FuncData} {fo : Obj} {x : Str} {KO : Option AV → St → Prop} (hq : σ.H q = some (.citer c x false)) (hc : σ.H c = some (.meth kf self)) (hfv : G.fv kf = .ref f) (hfo : G.h₀.get? f = some fo) (hfd : fo.data = .func fd)
    (h : CallOK G r (G.fv kf) [.ref self] σ.H fun v H' => ∃ y, v = .str y ∧ H' q = some (.citer c x false) ∧ H' c = some (.meth kf self) ∧ ((x.cps.toList == y.cps.toList) = true → KO none ⟨σ.ρ, H'.upd q (.citer c x true)⟩) ∧ ((x.cps.toList == y.cps.toList) = false → KO (some (.str y)) ⟨σ.ρ, H'⟩)) :
    EN X (r + 1) q σ KO := fun A m s hA hr hf => by
  obtain ⟨hcl, t, ho⟩ := hr.citer hq
  obtain ⟨hself, hmo⟩ := hr.meth hc
  simp only [Bool.false_eq_true, if_false] at ho
  unfold pyNext
  refine wpAny_bind (wpAny_attempt (wpAny_callSpecial?_slot (name := Str.ofString "__next__") (T := "callable_iterator") ⟨_, ho, rfl⟩ F.slot_citer_next
    (wpAny_call (codeAny_call_builtin F.slot_citer_next.plain F.entry_citer_next (F.slot_citer_next.check _ _ _ _ _ _ _ _ ⟨_, ho, rfl⟩ (F.args_citer_next _) ?_)))))
  show wpAny _ _ (field (.ref (m.f q)) 2 >>= _) _ _ s
  refine wpAny_bind (wpAny_field ho rfl (x := .bool false) rfl ?_)
  show wpAny _ _ (field (.ref (m.f q)) 0 >>= _) _ _ s
  refine wpAny_bind (wpAny_field ho rfl (x := .ref (m.f c)) rfl ?_)
  have hfo' := hr.base f fo hfo
  have hb : ∀ (s : Shared) (hmo : s.heap.get? (m.f c) = some (methodObj (G.fv kf) (.ref (m.f self)))) (hfo' : s.heap.get? f = some fo) {Q : Bool → Shared → Prop} {A : Around} {E : Value → Shared → Prop}, Q true s → wpAny (model G.prog G.w) A (borrowsExactly (.ref (m.f c))) Q E s := fun s hmo hfo' {Q A E} h => by
    unfold borrowsExactly
    refine wpAny_bind (wpAny_load hmo ?_)
    show wpAny _ _ (match (G.fv kf) with | .ref b => _ | _ => _) _ _ _
    rw [hfv]
    refine wpAny_bind (wpAny_load hfo' ?_)
    rw [hfd]
    exact wpAny_pure h
  refine wpAny_bind (wpAny_attempt (wpAny_bind (hb s hmo hfo' ?_)))
  rw [if_pos rfl]
  have hOk : OkA r A.in1 := ⟨hA.handled, by have h1 := hA.depth; show A.depth + 2 * r < _; omega, by have := hA.units; show A.units + 1 + 20 * r + 40 < _; omega⟩
  refine wp_callBorrowed (method_call hmo (codeAny_mono (h A.in1 m s [.ref (m.f self)] hOk hr ?_) fun qr s' hq' => ?_))
  · simp only [RVs]; exact ⟨_, [], rfl, rv_ref hself, rfl⟩
  rcases qr with e | (cv | _ | _ | _) <;> first | exact hq'.elim | skip
  obtain ⟨v, H', m', ⟨y, rfl, hq2, hc2, k1, k2⟩, e1, hr', hv⟩ := hq'
  obtain ⟨u, rfl⟩ := inv_str hv
  have hqn := hr.dom q _ hq
  have hcn := hr.dom c _ hc
  have eq : m'.f q = m.f q := e1.f q hqn
  have ec : m'.f c = m.f c := e1.f c hcn
  have hf' := hf.ext e1
  obtain ⟨hcl', t', ho'⟩ := hr'.citer hq2
  simp only [Bool.false_eq_true, if_false] at ho'
  rw [eq, ec] at ho'
  show wpAny _ _ (field (.ref (m.f q)) 2 >>= _) _ _ s'
  refine wpAny_bind (wpAny_field ho' rfl (x := .bool false) rfl ?_)
  show wpAny _ _ (field (.ref (m.f q)) 1 >>= _) _ _ s'
  refine wpAny_bind (wpAny_field ho' rfl (x := .str x t') rfl ?_)
  have E0 : Ext X.own σ.H m s H' m' s' := e1.own_le fun _ x => x.elim
  refine wpAny_bind (wpAny_holding ((PySem.MeetsSeq.EqGives.at (PySem.SeqRoads2.EqGives.str x y t' u) A.in1 s') _ _ _ _ ?_))
  cases hxy : x.cps.toList == y.cps.toList with
  | false =>
    refine wpAny_pure ?_
    exact wpAny_pure ⟨some (.str y), ⟨σ.ρ, H'⟩, m', k2 hxy, E0, hr', hf', hv⟩
  | true =>
    show wpAny _ _ (rule _ >>= _) _ _ _
    refine wpAny_bind (wpAny_rule ?_)
    have hmo2 : s'.heap.get? (m.f c) = some (methodObj (G.fv kf) (.ref (m'.f self))) := by rw [← ec]; exact (hr'.meth hc2).2
    have hself2 : m'.f self = m.f self := e1.f self hself
    rw [hself2] at hmo2
    have hfo2 := hr'.base f fo hfo
    refine wpAny_bind ?_
    show wpAny _ _ (field (.ref (m.f q)) 0 >>= _) _ _ s'
    refine wpAny_bind (wpAny_field ho' rfl (x := .ref (m.f c)) rfl ?_)
    refine wpAny_bind ?_
    unfold slotLetsGo
    show wpAny _ _ (borrowsExactly (.ref (m.f c)) >>= _) _ _ s'
    refine wpAny_bind (hb s' hmo2 hfo2 ?_)
    rw [if_pos rfl]
    refine wpAny_pure ?_
    refine wpAny_bind (wpAny_setField_rec (a := m.f q) ho' (by show 0 < _; simp) fun h1 g1 s1 => ?_)
    refine wpAny_bind (wpAny_setField_rec (s := { s' with heap := h1 }) (a := m.f q) g1 (by show 1 < _; simp) fun h2 g2 s2 => ?_)
    refine (wpAny_setField_rec (s := { s' with heap := h2 }) (a := m.f q) g2 (by show 2 < _; simp) fun h3 g3 s3 => ?_)
    have g3' : h3.get? (m.f q) = some { cls := .type "callable_iterator", data := .fields #[.none, .none, .bool true] } := g3
    have s03 : Heap.SameBut (m.f q) s'.heap h3 := (s1.trans s2).trans s3
    refine wpAny_bind (stop_any hA.handled fun a h4 kp4 e4 => wpAny_bind (wpAny_isInstance (T := "StopIteration") (b := true) e4 isSubtype_stop (wpAny_pure ?_)))
    obtain ⟨v', σ3, m3, hK3, hE3, hR3, hF3, _⟩ := post_turn (X := X) (σ := ⟨σ.ρ, H'⟩) (K := fun _ σ' => σ' = ⟨σ.ρ, H'.upd q (.citer c x true)⟩) (v := .none) (cv := .none) (x := .citer c x true) hr' hf' hq2 (by rw [eq]; exact s03) (s' := { s' with heap := h3 }) rfl rfl (by rw [eq]; exact g3') (fun _ => ⟨hcl', t', rfl⟩) (fun _ => rv_none) rfl
    subst hK3
    refine ⟨none, _, m3, k1 hxy, (E0.trans hE3).trans (.grow hR3 kp4 rfl rfl), hR3.grow kp4 hR3.gens, hF3.grow kp4, trivial⟩
section
variable {KF : AF → St → Prop} {x : Str} {k : Nat} {pos pos' : Pos} {body : List Stmt} {e : PySem.Expr}
inductive ForCQ (X : Cx G) (r k : Nat) (body : List Stmt) (KF : AF → St → Prop) (a : AV) (σ1 : St) : Prop
  | mk (q c : Nat) (y : Str) (d : Bool) (ea : a = .ref q) (hq : σ1.H q = some (.citer c y d)) (J : Nat → St → Prop) (n : Nat) (hj : J n σ1) (hs : ∀ n σ, J n σ → EN X r q σ fun o σ2 => match o with
        | none => KF .next σ2
        | some v => ES X r (execs body X.env) ⟨σ2.ρ.set k (some v), σ2.H⟩ (LoopK KF fun σ3 => ∃ n', n' < n ∧ J n' σ3)) : ForCQ X r k body KF a σ1
theorem es_forC (hx : X.res x = some (.loc k true)) (h : EV X r (eval e X.env) σ (ForCQ X r k body KF))
    (hs : ∀ v, foldedSetIterable e X.env v = pure v := by intro _; rfl) : ES X r (exec (.For (.Name x pos') e body [] pos) X.env) σ KF := fun A m s hA hr hf => by
  refine wpAny_For (wpAny_mono (h A m s hA hr hf) (fun ca s1 q0 => ?_) fun _ _ x => x) hs
  obtain ⟨a, σ1, m1, ⟨q, c, y, d, ea, hq, J, n, hj, hstep⟩, e1, hr1, hf1, ha⟩ := q0
  subst ea
  obtain ⟨hlt, rfl⟩ := inv_ref ha
  obtain ⟨hcl, t, ho⟩ := hr1.citer hq
  have self : ∀ {Q : Value → Shared → Prop}, Q (.ref (m1.f q)) s1 → wpAny (model G.prog G.w) A (pyIter (.ref (m1.f q))) Q NoE s1 := fun {Q} h => by
    refine wpAny_pyIter_slot (T := "callable_iterator") ⟨_, ho, rfl⟩ F.slot_citer_iter (wpAny_call_entry F.slot_citer_iter ⟨_, ho, rfl⟩ F.entry_citer_iter ?_ (F.args_citer_iter _))
    show wpAny _ _ (ret (.ref (m1.f q))) _ _ s1
    exact wpAny_pure ⟨_, rfl, "callable_iterator", _, ⟨_, ho, rfl⟩, F.slot_citer_next.lookup, h⟩
  refine self ?_
  refine codeAny_mono (codeAny_forLoop_any (R := fun q s' => match q with | .ok f => PostG (RFl G.fv) X σ1 m1 s1 KF f s' | .error e => cameBackBy (model G.prog G.w) A X.env NoE e s')
    (WhileI X J σ1.H m1 s1) ?_ n ⟨σ1, m1, hj, .refl _ G hr1, hr1, hf1⟩) fun q s' hq => by
      cases q with
      | ok f => exact PostG.trans e1 hq
      | error e => exact hq
  rintro n s2 ⟨σ2, m2, hj2, e2, hr2, hf2⟩
  rw [← e2.f q hlt]
  refine noE_any (wpAny_mono (hstep n σ2 hj2 A m2 s2 hA hr2 hf2) (fun co s3 q0 => ?_) fun _ _ x => x)
  obtain ⟨o, σ3, m3, k3, e3, hr3, hf3, hrel⟩ := q0
  cases o with
  | none =>
    cases co with
    | some _ => exact hrel.elim
    | none => exact wpAny_execs_nil ⟨.next, σ3, m3, k3, e2.trans e3, hr3, hf3, rfl⟩
  | some v =>
    cases co with
    | none => exact hrel.elim
    | some cv =>
      show wpAny _ _ (letOwnedTupleGo _ _ _) _ _ _
      rw [letGo_name]
      refine wpAny_pure (wpAny_assign_Name (noE_any (wpAny_mono (store_any hr3 hf3 hx hrel) (fun _ s4 q0 => ?_) fun _ _ x => x)))
      obtain ⟨e4, hr4, hf4⟩ := q0
      refine noE_any (wpAny_mono (k3 A m3 s4 hA hr4 hf4) (fun f s5 q0 => ?_) fun _ _ x => x)
      obtain ⟨af, σ5, m5, k5, e5, hr5, hf5, hfl⟩ := q0
      have e05 := ((e2.trans e3).trans e4).trans e5
      cases af with
      | next => simp only [RFl] at hfl; subst hfl; obtain ⟨n', hn, hj⟩ := k5; exact ⟨n', hn, σ5, m5, hj, e05, hr5, hf5⟩
      | cont => simp only [RFl] at hfl; subst hfl; obtain ⟨n', hn, hj⟩ := k5; exact ⟨n', hn, σ5, m5, hj, e05, hr5, hf5⟩
      | brk => simp only [RFl] at hfl; subst hfl; exact ⟨.next, σ5, m5, k5, e05, hr5, hf5, rfl⟩
      | ret v => have hfl' := hfl; simp only [RFl] at hfl'; obtain ⟨cv, rfl, _⟩ := hfl'; exact ⟨.ret v, σ5, m5, k5, e05, hr5, hf5, hfl⟩
end
end Mine
end Pa28
section Pa29
set_option compiler.extract_closed false
open PySem PySem.W PySem.Calls PyProof.Rows PySem.SeqAt
open PySem.Builtin
set_option maxRecDepth 100000
set_option linter.unusedVariables false
set_option linter.unusedSimpArgs false
namespace Mine
variable {G : Gx} {X : Cx G} {r : Nat} {σ : St} {K : AV → St → Prop}
section
variable {x y : Str} {i j : Int} {n : Nat} {xs : List AV}
theorem cv_range1 (h : K (.rng 0 i) σ) : CV X r (.type "range") [.int i] σ K := fun A m s cargs hA hr hf ha => by
  obtain ⟨ca, rfl, h1⟩ := rvs1 ha; obtain ⟨t, rfl⟩ := inv_int h1
  refine call_range_1 ?_
  refine post_grow (s' := { s with heap := s.heap.push _, toks := _ }) hr hf (fun a o e => Heap.get?_push_of_some _ e) rfl rfl h ?_
  simp only [RV]
  exact ⟨_, _, _, _, rfl, Heap.get?_push_size _ rfl⟩
theorem cv_range2 (h : K (.rng i j) σ) : CV X r (.type "range") [.int i, .int j] σ K := fun A m s cargs hA hr hf ha => by
  obtain ⟨ca, cb, rfl, h1, h2⟩ := rvs2 ha; obtain ⟨t, rfl⟩ := inv_int h1; obtain ⟨u, rfl⟩ := inv_int h2
  refine call_range_2 ?_
  refine post_grow (s' := { s with heap := s.heap.push _, toks := _ }) hr hf (fun a o e => Heap.get?_push_of_some _ e) rfl rfl h ?_
  simp only [RV]
  exact ⟨_, _, _, _, rfl, Heap.get?_push_size _ rfl⟩
theorem cv_min2 (h : K (.int (if j < i then j else i)) σ) : CV X r (.builtin "min") [.int i, .int j] σ K := fun A m s cargs hA hr hf ha => by
  obtain ⟨ca, cb, rfl, h1, h2⟩ := rvs2 ha; obtain ⟨t, rfl⟩ := inv_int h1; obtain ⟨u, rfl⟩ := inv_int h2
  refine min_two_ints hA.handled fun h' tk hk => ?_
  refine post_grow (s' := { s with heap := h', toks := tk }) hr hf hk rfl rfl h ?_
  by_cases q : j < i
  · rw [if_pos q, if_pos q]; exact rv_int _
  · rw [if_neg q, if_neg q]; exact rv_int _
theorem cv_int (hn : PySem.intText? x = some i) (hl : x.length ≤ 640) (h : K (.int i) σ) : CV X r (.type "int") [.str x] σ K := fun A m s cargs hA hr hf ha => by
  obtain ⟨ca, rfl, h1⟩ := rvs1 ha; obtain ⟨t, rfl⟩ := inv_str h1
  exact PySem.W.KIN.call_text hn hl (post_pure hr hf h (rv_int _))
theorem post_listK {m : Mp} {s : Shared} {h' : Heap} {tk : Nat} {vs : List Value} {c : Nat} (hr : HR G σ.H m s) (hf : FR X σ.ρ σ.H m s) (hk : ∀ b o, s.heap.get? b = some o → h'.get? b = some o) (ho : h'.get? s.heap.objs.size = some (lstOf vs c))
    (hv : RVs G.fv h' m xs vs) (hK : ∀ n, σ.H n = Option.none → K (.ref n) ⟨σ.ρ, σ.H.upd n (.list xs)⟩) : Post X σ m s K (.ref s.heap.objs.size) { s with heap := h', toks := tk } :=
  post_new (x := .list xs) (s' := { s with heap := h', toks := tk }) hr hf hk rfl rfl (Heap.get?_none_of_le (Nat.le_refl _)) ho ⟨vs, c, rfl, RVs.later ⟨Nat.le_succ _, fun i hi => Mp.put_lt m _ hi, fun a o _ e => e⟩ _ _ hv⟩ hK
theorem rvs_of_items {h : Heap} {m : Mp} {P : Nat → Value → Prop} {item : Nat → AV} (hP : ∀ i v, P i v → RV G.fv h m (item i) v) : ∀ (vs : List Value) (k : Nat), (∀ j v, vs[j]? = some v → P (k + j) v) → RVs G.fv h m ((List.range vs.length).map fun j => item (k + j)) vs
  | [], k, hv => by simp only [List.length_nil, List.range_zero, List.map_nil, RVs]
  | v :: vs, k, hv => by
    rw [List.length_cons, List.range_succ_eq_map, List.map_cons, List.map_map]
    simp only [RVs]
    refine ⟨v, vs, rfl, hP _ _ (hv 0 v rfl), ?_⟩
    have := rvs_of_items hP vs (k + 1) (fun j w e => by
      have := hv (j + 1) w e
      rwa [show k + (j + 1) = k + 1 + j by omega] at this)
    have e : ((fun j => item (k + j)) ∘ Nat.succ) = fun j => item (k + 1 + j) := by
      funext j
      show item (k + (j + 1)) = item (k + 1 + j)
      rw [show k + (j + 1) = k + 1 + j by omega]
    rw [e]; exact this
theorem cv_listS (hsz : x.cps.size ≤ sizeLine) (h : ∀ n, σ.H n = Option.none → K (.ref n) ⟨σ.ρ, σ.H.upd n (.list ((List.range x.cps.size).map fun i => .str ⟨#[x.cps.getD i 0]⟩))⟩) : CV X r (.type "list") [.str x] σ K := fun A m s cargs hA hr hf ha => by
  obtain ⟨ca, rfl, h1⟩ := rvs1 ha; obtain ⟨t, rfl⟩ := inv_str h1
  refine call_list_str hA.handled x t (fun h' tk acc' c' hk ho hi => ?_) hsz
  have ho' : h'.get? s.heap.objs.size = some (lstOf acc'.toList c') := by rw [ho]
  refine post_listK hr hf hk ho' ?_ h
  have := rvs_of_items (G := G) (h := h') (m := m) (P := SignAt x) (item := fun i => .str ⟨#[x.cps.getD i 0]⟩) (fun i v ⟨c, u, hc, e⟩ => by
    subst e
    have : x.cps.getD i 0 = c := by rw [Array.getD_eq_getD_getElem?, hc]; rfl
    rw [this]; exact rv_str _) acc'.toList 0 (fun j v e => by rw [Nat.zero_add]; exact hi.2 j v (by simpa using e))
  have hl : acc'.toList.length = x.cps.size := by rw [Array.length_toList]; exact hi.1
  rw [hl] at this
  simpa only [Nat.zero_add] using this
theorem cv_listR {a b : Int} (h1 : -(2 ^ 62) ≤ a) (h2 : a < 2 ^ 62) (h3 : -(2 ^ 62) ≤ b) (h4 : b < 2 ^ 62) (hsz : (b - a).toNat ≤ 2 ^ 24) (h : ∀ n, σ.H n = Option.none → K (.ref n) ⟨σ.ρ, σ.H.upd n (.list ((List.range (b - a).toNat).map fun (i : Nat) => .int (a + (i : Int))))⟩) : CV X r (.type "list") [.rng a b] σ K := fun A m s cargs hA hr hf ha => by
  obtain ⟨ca, rfl, hv⟩ := rvs1 ha
  simp only [RV] at hv
  obtain ⟨ad, t, u, w, rfl, hv⟩ := hv
  refine call_list_range (n := (b - a).toNat) hA.handled hv (small_one h1 h2 h3 h4) (by rw [rangeSize_one]; split <;> omega) hsz (fun h' tk acc' c' hk ho hi => ?_)
  have ho' : h'.get? s.heap.objs.size = some (lstOf acc'.toList c') := by rw [ho]
  refine post_listK hr hf hk ho' ?_ h
  have := rvs_of_items (G := G) (h := h') (m := m) (P := fun i v => ∃ t, v = .int (a + i * 1) t) (item := fun i => .int (a + i)) (fun i v ⟨t, e⟩ => by
    subst e
    rw [Int.mul_one]; exact rv_int _) acc'.toList 0 (fun j v e => by rw [Nat.zero_add]; exact hi.2 j v (by simpa using e))
  have hl : acc'.toList.length = (b - a).toNat := by rw [Array.length_toList]; exact hi.1
  rw [hl] at this
  simpa only [Nat.zero_add] using this
theorem rvs_strs {h : Heap} {m : Mp} : ∀ {ts : List Str} {vs : List Value}, RVs G.fv h m (ts.map .str) vs → ∃ l : List (Str × Tok), vs = strValues l ∧ l.map (·.1) = ts
  | [], vs, e => by simp only [List.map_nil, RVs] at e; subst e; exact ⟨[], rfl, rfl⟩
  | t :: ts, vs, e => by
    simp only [List.map_cons, RVs] at e
    obtain ⟨v, r, rfl, h1, h2⟩ := e
    obtain ⟨u, rfl⟩ := inv_str h1
    obtain ⟨l, rfl, hl⟩ := rvs_strs h2
    exact ⟨(t, u) :: l, rfl, by rw [List.map_cons, hl]⟩
theorem rvs_of_strs {h : Heap} {m : Mp} : ∀ (l : List (Str × Tok)), RVs G.fv h m ((l.map (·.1)).map .str) (strValues l)
  | [] => by simp only [List.map_nil, RVs]; rfl
  | (t, u) :: l => by
    simp only [List.map_cons, RVs]
    exact ⟨.str t u, strValues l, rfl, rv_str _, rvs_of_strs l⟩
theorem cv_join {ts : List Str} (hn : σ.H n = some (.list (ts.map .str))) (hok : JoinOk x ts = true) (h : K (.str (Txt.join x ts)) σ) : CV X r (.builtin "str.join") [.str x, .ref n] σ K := fun A m s cargs hA hr hf ha => by
  obtain ⟨ca, cb, rfl, h1, h2⟩ := rvs2 ha; obtain ⟨t, rfl⟩ := inv_str h1; obtain ⟨hlt, rfl⟩ := inv_ref h2
  obtain ⟨vs, k, ho, hv⟩ := hr.list hn
  obtain ⟨l, rfl, hl⟩ := rvs_strs hv
  exact SC.join (l := l) ⟨_, ho, rfl, k, rfl⟩ hl hok fun t' kk => post_pure hr hf h (rv_str _)
theorem cv_pop0 {a : AV} (hn : σ.H n = some (.list (a :: xs))) (hsz : xs.length < sizeLine) (h : K a ⟨σ.ρ, σ.H.upd n (.list xs)⟩) : CV X r (.builtin "list.pop") [.ref n, .int 0] σ K := fun A m s cargs hA hr hf ha => by
  obtain ⟨ca, cb, rfl, h1, h2⟩ := rvs2 ha; obtain ⟨t, rfl⟩ := inv_int h2; obtain ⟨hlt, rfl⟩ := inv_ref h1
  obtain ⟨vs, k, ho, hv⟩ := hr.list hn
  simp only [RVs] at hv
  obtain ⟨c, cs, rfl, hc, hcs⟩ := hv
  have hl := rvs_len hcs
  refine call_meets F.slot_list_pop ⟨_, ho, rfl⟩ F.entry_list_pop (F.args_list_pop_2 _ _) (PySem.MeetsSeq.list_pop_at (m.f n) (c :: cs).toArray k 0 t 0 c (by decide) (by rw [List.size_toArray]; exact seqIndex_of (by omega) (by rw [List.length_cons]; omega)) rfl (by rw [List.size_toArray, List.length_cons, hl]; omega)) ⟨ho, ?_⟩
  obtain ⟨n', hd'⟩ := mapSeq_plain (fun xs => xs.eraseIdxIfInBounds 0) (c :: cs).toArray k
  have hg : (s.heap.update (m.f n) (Obj.mapSeq fun xs => xs.eraseIdxIfInBounds 0)).get? (m.f n) = some (lstOf cs n') := by
    rw [Heap.get?_update_self _ ho (by rw [hd']; rfl), hd']
    simp
  exact post_turn (x := .list xs) (s' := { s with heap := _ }) hr hf hn (Heap.SameBut.update ..) rfl rfl hg (fun L => ⟨cs, n', rfl, RVs.later L _ _ hcs⟩) (fun L => RV.later L _ _ hc) h
end
end Mine
end Pa29
section Pa30
set_option compiler.extract_closed false
open PySem PySem.W PySem.Calls PyProof.Rows PySem.SeqAt
open PySem.Builtin
set_option maxRecDepth 100000
set_option linter.unusedVariables false
set_option linter.unusedSimpArgs false
namespace Mine
variable {G : Gx} {X : Cx G} {r : Nat} {σ : St} {K : AV → St → Prop}
section
variable {x y : Str} {i j : Int} {n : Nat} {xs : List AV}
theorem cv_find3 (h : K (.int (Txt.find3 x y i)) σ) : CV X r (.builtin "str.find") [.str x, .str y, .int i] σ K := fun A m s cargs hA hr hf ha => by
  obtain ⟨ca, cb, cc, rfl, h1, h2, h3⟩ := rvs3 ha; obtain ⟨t, rfl⟩ := inv_str h1; obtain ⟨u, rfl⟩ := inv_str h2; obtain ⟨v, rfl⟩ := inv_int h3
  exact SC.find3 (post_pure hr hf h (rv_int _))
theorem cv_upper (hsz : PySem.Builtin.Str.tooLong (Txt.upper x).length = false) (h : K (.str (Txt.upper x)) σ) : CV X r (.builtin "str.upper") [.str x] σ K := fun A m s cargs hA hr hf ha => by
  obtain ⟨ca, rfl, hv1⟩ := rvs1 ha; obtain ⟨t, rfl⟩ := inv_str hv1
  exact SC.upper hsz (post_pure hr hf h (rv_str _))
theorem post_strs {m : Mp} {s : Shared} {l : List (Str × Tok)} {t : Nat} {ts : List Str} (hl : l.map (·.1) = ts) (hr : HR G σ.H m s) (hf : FR X σ.ρ σ.H m s) (hK : ∀ n, σ.H n = Option.none → K (.ref n) ⟨σ.ρ, σ.H.upd n (.list (ts.map .str))⟩) :
    Post X σ m s K (.ref s.heap.objs.size) { s with heap := s.heap.push (lstOf (strValues l) 0), toks := t } := by
  subst hl
  exact post_list_toks hr hf (rvs_of_strs l) hK
theorem cv_split (hy : (y.length == 0) = false) (hsz : x.length ≤ sizeLine) (hsz2 : (PySem.Builtin.Str.partsBetween x (PySem.Builtin.Str.occurrences x y 0 x.length (x.length + 1)) y.length).length ≤ sizeLine)
    (h : ∀ n, σ.H n = Option.none → K (.ref n) ⟨σ.ρ, σ.H.upd n (.list ((Txt.split x y).map .str))⟩) : CV X r (.builtin "str.split") [.str x, .str y] σ K := fun A m s cargs hA hr hf ha => by
  obtain ⟨ca, cb, rfl, h1, h2⟩ := rvs2 ha; obtain ⟨t, rfl⟩ := inv_str h1; obtain ⟨u, rfl⟩ := inv_str h2
  cases h1 : (decide (x.length < y.length) || decide (PySem.Builtin.Str.strKind x < PySem.Builtin.Str.strKind y))
  · cases hf' : (PySem.Builtin.Str.occurrences x y 0 x.length (x.length + 1)).isEmpty
    · refine call_meets F.slot_str_split (typeIs_str _ _ _) F.entry_str_split (F.args_str_split_2 _ _) (PySem.meets_str_split_sep x y t u h1 hy hf' hsz hsz2) ?_
      show wants _ NoE _ { s with toks := _, heap := s.heap.push { cls := .type "list", data := .seq (PySem.strsFrom s.toks (PySem.Builtin.Str.partsBetween x (PySem.Builtin.Str.occurrences x y 0 x.length (x.length + 1)) y.length)).toArray } }
      rw [PySem.strsFrom_eq]
      exact post_strs ((PySem.numbered_texts _ _).trans ((if_neg (ne_true_of_eq_false h1)).trans (if_neg (ne_true_of_eq_false hf'))).symm) hr hf h
    · exact call_meets F.slot_str_split (typeIs_str _ _ _) F.entry_str_split (F.args_str_split_2 _ _) (PySem.meets_str_split_not_found x y t u h1 hy hf')
        (post_strs (l := [(x, t)]) ((if_neg (ne_true_of_eq_false h1)).trans (if_pos hf')).symm hr hf h)
  · exact call_meets F.slot_str_split (typeIs_str _ _ _) F.entry_str_split (F.args_str_split_2 _ _) (PySem.meets_str_split_cannot_occur x y t u h1)
      (post_strs (l := [(x, t)]) (if_pos h1).symm hr hf h)
theorem p2_mulS (h1 : 1 < i) (h2 : i < 2 ^ 24) (h0 : 0 < x.length) (hsz : x.length * i.toNat ≤ sizeLine) (h : K (.str ⟨(List.replicate i.toNat x.cps).foldl (· ++ ·) #[]⟩) σ) : P2 X r (binaryOp .Mult) (.str x) (.int i) σ K := fun A m s ca cb hA hr hf ha hb => by
  obtain ⟨t, rfl⟩ := inv_str ha; obtain ⟨u, rfl⟩ := inv_int hb
  have hs : sizeLine = 16777216 := by decide
  have e : (i == 1 || x.length == 0) = false := by
    rw [Bool.or_eq_false_iff]; exact ⟨beq_false_of_ne (by omega), beq_false_of_ne (by omega)⟩
  have hle : x.length ≤ x.length * i.toNat := Nat.le_mul_of_pos_right _ (by omega)
  refine PySem.P.mul_str (by simp only [Bool.or_eq_false_iff, decide_eq_false_iff_not]; omega) (fun _ _ q => ?_) (fun _ _ => ?_) ?_
  · have h3 : (2 ^ 63 - 1) / i ≥ 16777216 * 16777216 / (16777216) := by
      refine Int.le_ediv_of_mul_le (by omega) ?_
      have : i < 16777216 := by omega
      omega
    omega
  · unfold PySem.Builtin.Str.tooLong; exact decide_eq_false (by omega)
  · rw [if_neg (by omega), if_neg (by rw [e]; decide)]
    refine ⟨?_, post_pure hr hf h (rv_str _)⟩
    have hlen : ∀ (k : Nat) (acc : Array Nat), ((List.replicate k x.cps).foldl (· ++ ·) acc).size = acc.size + k * x.cps.size := by
      intro k
      induction k with
      | zero => intro acc; simp
      | succ k ih => intro acc; rw [List.replicate_succ, List.foldl_cons, ih, Array.size_append, Nat.succ_mul]; omega
    show ((List.replicate i.toNat x.cps).foldl (· ++ ·) #[]).size ≤ sizeLine
    rw [hlen]
    have : i.toNat * x.cps.size = x.length * i.toNat := Nat.mul_comm _ _
    simp only [List.size_toArray, List.length_nil]
    omega
theorem p2_mulL (hn : σ.H n = some (.list xs)) (h1 : 0 ≤ i) (h2 : i < 2 ^ 24) (h0 : 0 < xs.length) (hsz : xs.length * i.toNat ≤ 2 ^ 24) (h : ∀ k, σ.H k = Option.none → K (.ref k) ⟨σ.ρ, σ.H.upd k (.list (List.replicate i.toNat xs).flatten)⟩) : P2 X r (binaryOp .Mult) (.ref n) (.int i) σ K := fun A m s ca cb hA hr hf ha hb => by
  obtain ⟨hlt, rfl⟩ := inv_ref ha; obtain ⟨u, rfl⟩ := inv_int hb
  obtain ⟨vs, kk, ho, hv⟩ := hr.list hn
  have el := rvs_len hv
  refine wpAny_binaryOp_repeat_ref (T := "list") (U := "int") (by decide) ⟨_, ho, rfl⟩ (fun s' => typeIs_int s' i u) noFill_list_mul F.fills_int_mul F.slot_int_rmul repeat_list F.slot_int_index.lookup
    (call_meets F.slot_int_rmul (typeIs_int s i u) F.entry_int_rmul (F.args_int_rmul_2 _ _) (int___rmul___int_list i u (m.f n) vs.toArray kk)
      ⟨ho, rfl, ⟨_, ho, rfl⟩, call_meets F.slot_list_mul ⟨_, ho, rfl⟩ F.entry_list_mul (F.args_list_mul_2 _ _)
        (AutoListH.list___mul___list_int_3 (m.f n) vs.toArray kk i u (by simp [PySem.Builtin.List.listFitsIndex]; omega) (by rw [List.size_toArray, el]; omega) (by simp [PySem.Builtin.List.listTooLong, sizeLine]; rw [el]; omega))
        ⟨ho, ?_⟩⟩)
  have hne : vs.toArray.isEmpty = false := by
    cases vs with
    | nil => simp at el; omega
    | cons a l => rfl
  have hfl : ∀ (k : Nat) (acc : List Value), (List.replicate k vs.toArray).foldl (fun x1 x2 => x1 ++ x2) acc.toArray = (acc ++ (List.replicate k vs).flatten).toArray := by
    intro k
    induction k with
    | zero => intro acc; simp
    | succ k ih => intro acc; rw [List.replicate_succ, List.foldl_cons, List.append_toArray, ih, List.replicate_succ, List.flatten_cons, List.append_assoc]
  have hrv : ∀ k : Nat, RVs G.fv s.heap m (List.replicate k xs).flatten (List.replicate k vs).flatten := by
    intro k
    induction k with
    | zero => simp only [List.replicate_zero, List.flatten_nil, RVs]
    | succ k ih => rw [List.replicate_succ, List.replicate_succ, List.flatten_cons, List.flatten_cons]; exact rvs_append hv ih
  have e := hfl i.toNat []
  rw [hne]
  simp only [Bool.false_eq_true, if_false]
  rw [show ((#[] : Array Value)) = ([] : List Value).toArray from rfl, e, List.nil_append]
  exact post_list hr hf (hrv i.toNat) h
theorem tr_list {KB : Bool → St → Prop} (hn : σ.H n = some (.list xs)) (hfit : xs.length ≤ sizeLine) (h : KB (!xs.isEmpty) σ) : TR X r (.ref n) σ KB := fun A m s ca hA hr hf ha => by
  obtain ⟨hlt, rfl⟩ := inv_ref ha
  obtain ⟨vs, kk, ho, hv⟩ := hr.list hn
  have el := rvs_len hv
  have hs : sizeLine = 16777216 := by decide
  refine PySem.wpAny_truthy_list (items := vs.toArray) ⟨_, ho, rfl, kk, rfl⟩ (by rw [List.size_toArray, el]; omega) ?_
  have e : (!vs.toArray.isEmpty) = (!xs.isEmpty) := by
    cases vs <;> cases xs <;> simp_all
  rw [e]
  exact postB hr hf h
end
theorem ev_and2 {e e' : PySem.Expr} {pos : Pos} (h : EV X r (eval e X.env) σ fun a σ1 => ∃ b, a = .bool b ∧ (b = true → EV X r (eval e' X.env) σ1 K) ∧ (b = false → K (.bool false) σ1)) : EV X r (eval (.BoolOp .And [e, e'] pos) X.env) σ K := fun A m s hA hr hf => by
  refine wpAny_And2 (wpAny_mono (h A m s hA hr hf) (fun cv s1 q0 => ?_) fun _ _ x => x)
  obtain ⟨a, σ1, m1, ⟨b, ea, k1, k2⟩, e1, hr1, hf1, hv⟩ := q0
  subst ea
  rw [inv_bool hv]
  refine wpAny_truthy_bool ?_
  cases b with
  | true => exact wpAny_mono (k1 rfl A m1 s1 hA hr1 hf1) (fun _ _ p => Post.trans e1 p) fun _ _ x => x
  | false => exact Post.trans e1 (post_pure (t := s1.toks) hr1 hf1 (k2 rfl) rv_bool)
end Mine
end Pa30
section Pa31
set_option compiler.extract_closed false
open PySem PySem.W PySem.Calls PyProof.Rows PySem.SeqAt
open PySem.Builtin
set_option maxRecDepth 100000
set_option linter.unusedVariables false
set_option linter.unusedSimpArgs false
namespace Mine
variable {G : Gx} {X : Cx G} {r : Nat} {σ : St} {K : AV → St → Prop}
theorem turn_grow {ρ : List (Option AV)} {H : AH} {m : Mp} {s s' : Shared} {i : Nat} {y x : AO} {o : Obj} (own : Addr → Prop) (hr : HR G H m s) (hf : FR X ρ H m s) (hi : H i = some y) (hk : ∀ b o, b ≠ m.f i → s.heap.get? b = some o → s'.heap.get? b = some o) (hg : s'.gens = s.gens) (hos : s'.os = s.os)
    (ho : s'.heap.get? (m.f i) = some o) (hx : Later s.heap m s'.heap m → RO G s'.heap m o x) : Later s.heap m s'.heap m ∧ HR G (H.upd i x) m s' ∧ FR X ρ (H.upd i x) m s' ∧ Ext own H m s (H.upd i x) m s' := by
  obtain ⟨o0, h0, r0⟩ := hr.obj i y hi
  have htup : ∀ b o', Frozen o' → s.heap.get? b = some o' → b ≠ m.f i := fun b o' z e q => by
    rw [q, h0] at e; cases e; exact RO.noTup z r0
  have L : Later s.heap m s'.heap m := ⟨Nat.le_refl _, fun _ _ => rfl, fun b o' z e => hk b o' (htup b o' z e) e⟩
  have hin : i < m.n := hr.dom i y hi
  have hupd : ∀ j z, (H.upd i x) j = some z → (j = i ∧ z = x) ∨ (j ≠ i ∧ H j = some z) := fun j z e => by
    unfold AH.upd at e
    by_cases q : j = i
    · rw [if_pos q] at e; exact .inl ⟨q, (Option.some.inj e).symm⟩
    · rw [if_neg q] at e; exact .inr ⟨q, e⟩
  have hL : X.env.locals ≠ m.f i := fun q => hf.apart i y hi (.inl q.symm)
  have hc : ∀ z k b c, X.res z = some (.loc k b) → X.env.cells.lookup z = some c → c ≠ m.f i := fun z k b c hz e q => hf.apart i y hi (.inr ⟨z, k, b, hz, q ▸ e⟩)
  refine ⟨L, ⟨fun j z e => ?_, fun j k z z' e e' q => ?_, fun j z e => ?_, fun b o' e => ?_, fun j z e => ?_, by rw [hg]; exact hr.gens, hr.zero⟩, ⟨?_, ?_, ?_, fun j z e => ?_, hf.old⟩, ⟨Nat.le_refl _, fun _ _ => rfl, fun j z e => ?_, fun b o' e hn _ => hk b o' (fun q => hn i y hi q.symm) e, L.tup, hos, fun g z e => by rw [hg]; exact e, fun b e => ?_⟩⟩
  · rcases hupd j z e with ⟨rfl, rfl⟩ | ⟨_, e'⟩
    · exact hin
    · exact hr.dom j z e'
  · have g : ∀ {j z}, (H.upd i x) j = some z → ∃ z', H j = some z' := fun {j z} e => by
      rcases hupd j z e with ⟨rfl, rfl⟩ | ⟨_, e'⟩
      · exact ⟨y, hi⟩
      · exact ⟨z, e'⟩
    obtain ⟨z1, e1⟩ := g e
    obtain ⟨z2, e2⟩ := g e'
    exact hr.inj j k z1 z2 e1 e2 q
  · rcases hupd j z e with ⟨rfl, rfl⟩ | ⟨hne, e'⟩
    · exact ⟨o, ho, hx L⟩
    · obtain ⟨o', h1, h2⟩ := hr.obj j z e'
      have : m.f j ≠ m.f i := fun q => hne (hr.inj j i z y e' hi q)
      exact ⟨o', hk _ _ this h1, h2.later L⟩
  · have : b ≠ m.f i := fun q => by
      have := hr.above i y hi
      rw [← q, e] at this; cases this
    exact hk b o' this (hr.base b o' e)
  · rcases hupd j z e with ⟨rfl, rfl⟩ | ⟨_, e'⟩
    · exact hr.above _ y hi
    · exact hr.above j z e'
  · obtain ⟨mp, ⟨o1, es, ep, ho1, hd1⟩, f⟩ := hf.ns
    exact ⟨mp, ⟨o1, es, ep, hk _ _ hL ho1, hd1⟩, fun z k b v h1 h2 h3 => let ⟨cv, e, r⟩ := f z k b v h1 h2 h3; ⟨cv, e, RV.later L _ _ r⟩⟩
  · intro z k b c h1 h2 h3
    obtain ⟨ov, ⟨o1, ho1, hd1⟩, f⟩ := hf.cells z k b c h1 h2 h3
    exact ⟨ov, ⟨o1, hk _ _ (hc z k b c h1 h3) ho1, hd1⟩, fun v h4 => let ⟨cv, e, r⟩ := f v h4; ⟨cv, e, RV.later L _ _ r⟩⟩
  · intro z k b c hz e
    obtain ⟨ov, o1, ho1, hd1⟩ := hf.clive z k b c hz e
    exact ⟨ov, o1, hk _ _ (hc z k b c hz e) ho1, hd1⟩
  · rcases hupd j z e with ⟨rfl, rfl⟩ | ⟨_, e'⟩
    · exact hf.apart _ y hi
    · exact hf.apart j z e'
  · rcases hupd j z e with ⟨rfl, rfl⟩ | ⟨_, e'⟩
    · exact .inl ⟨hin, y, hi⟩
    · exact .inl ⟨hr.dom j z e', z, e'⟩
  · by_cases q : b = m.f i
    · rw [q, ho]; rfl
    · cases q1 : s.heap.get? b with
      | none => rw [q1] at e; cases e
      | some o1 => rw [hk b o1 q q1]; rfl
structure Less (X' X : Cx G) : Prop where
  env : X'.env = X.env
  res : ∀ x k b, X'.res x = some (.loc k b) → X.res x = some (.loc k b)
theorem Less.resv {X' : Cx G} (l : Less X' X) {a : Addr} : X'.resv a → X.resv a
  | .inl e => .inl (by rw [← l.env]; exact e)
  | .inr ⟨x, k, b, h, e⟩ => .inr ⟨x, k, b, l.res x k b h, by rw [← l.env]; exact e⟩
theorem Less.own {X' : Cx G} (l : Less X' X) {a : Addr} : X'.own a → X.own a
  | .inl e => .inl (by rw [← l.env]; exact e)
  | .inr ⟨x, k, h, e⟩ => .inr ⟨x, k, l.res x k true h, by rw [← l.env]; exact e⟩
theorem FR.less {X' : Cx G} (l : Less X' X) {ρ : List (Option AV)} {H : AH} {m : Mp} {s : Shared} (F : FR X ρ H m s) : FR X' ρ H m s := by
  refine ⟨?_, fun x k b c h1 h2 h3 => ?_, fun x k b c hx q => ?_, fun i o q q2 => F.apart i o q (l.resv q2), fun a q => F.old a (l.own q)⟩
  · obtain ⟨mp, n, f⟩ := F.ns
    exact ⟨mp, by rw [l.env]; exact n, fun x k b v h1 h2 h3 => f x k b v (l.res _ _ _ h1) (by rw [← l.env]; exact h2) h3⟩
  · rw [l.env] at h2 h3
    exact F.cells x k b c (l.res _ _ _ h1) h2 h3
  · rw [l.env] at q
    exact F.clive x k b c (l.res _ _ _ hx) q
theorem AH.upd_self (H : AH) (n : Nat) (o : AO) : (H.upd n o) n = some o := if_pos rfl
theorem AH.upd_ne (H : AH) {n i : Nat} (o : AO) (h : i ≠ n) : (H.upd n o) i = H i := if_neg h
theorem ts_def {X' : Cx G} {r : Nat} {name sname : Str} {params : Arguments} {body rest : List Stmt} {scope : Scope} {pos : Pos} {qual : Str} {kr ks L : Nat} {cc cS : Addr} {KF : AF → AH → Prop}
    (l : Less X' X) (hsig : X.res sname = some (.loc ks true)) (hns : ∀ k b, X'.res sname ≠ some (.loc k b)) (hkc : X.env.kindOf sname = some .cell) (hcS : X.env.cells.lookup sname = some cS) (hrd : X'.res name = some (.loc kr true)) (hv : σ.ρ[ks]? = some (some (.ref L)))
    (h0 : σ.H 0 = some (.tab true)) (hclo : G.clo = ⟨name, qual, params, body, scope, sname⟩) (hclos : closureFor scope X.env = pure [(sname, cS)]) (hC : CodeHd G.h₀ cc G.tabP) (hcode : X.env.code = .ref cc) (hqual : qualnameIn X.env name name = qual)
    (hb : G.h₀.BuiltinsAt G.mg G.tabP) (hgP : mainGlobals ≠ G.tabP) (hd0 : params.defaults = []) (hk0 : params.kw_defaults = []) (ha : annTrees params none X.env = [])
    (h : ∀ i j q, σ.H i = none → σ.H j = none → σ.H q = none → i ≠ j → i ≠ q → j ≠ q → TS X' r (execs rest X'.env) ⟨σ.ρ.set kr (some (.ref q)), (((σ.H.upd 0 (.tab false)).upd i (.cell (.ref L))).upd j .code).upd q (.clos i j)⟩ KF) :
    TS X r (execs (.FunctionDef name params body [] none [] scope none name pos :: rest) X.env) σ KF := fun A m s hA hr hf => by
  subst hqual
  obtain ⟨oP, hoP, ps, rfl, hps⟩ := hr.obj 0 _ h0
  have hps := hps rfl
  subst hps
  rw [hr.zero.2] at hoP
  have hgs : s.heap.Ns mainGlobals G.mg := G.hg.keeps hr.base
  have hbs : s.heap.BuiltinsAt G.mg G.tabP := by
    obtain ⟨bm, ob, b1, b2, b3, b4, b5, b6⟩ := hb
    exact ⟨bm, ob, b1, b2, b3, b4, hr.base _ _ b5, b6⟩
  refine wpAny_execs_cons (nestDef_K hd0 hk0 ha (makeFunction_K (mg := G.mg) (c := cc) (P := G.tabP) (ps := #[]) hclos X.globals hgs hcode (hC.keeps hr.base) hoP trivial rfl hgP hbs fun c' ctv doc h' tk hx hge hlt hrec htb => ?_))
  obtain ⟨c₂, oc, vs, t, e2, hoc, hd, hvs⟩ := hrec
  cases e2
  generalize hs1 : ({ s with heap := h'.push (fnMade name (qualnameIn X.env name name) params body scope [(sname, cS)] doc ((G.mg "__name__").getD .none) c' ctv), toks := tk } : Shared) = s1
  as_aux_lemma =>
    have hheap : s1.heap = h'.push (fnMade name (qualnameIn X.env name name) params body scope [(sname, cS)] doc ((G.mg "__name__").getD .none) c' ctv) := by rw [← hs1]
    have kp : ∀ b o, h'.get? b = some o → s1.heap.get? b = some o := fun b o e => by rw [hheap]; exact Heap.get?_push_of_some _ e
    have k1 : ∀ b o, b ≠ m.f 0 → s.heap.get? b = some o → s1.heap.get? b = some o := fun b o hne e => kp b o (hx b o (by rw [← hr.zero.2]; exact hne) e)
    have hP1 : s1.heap.get? (m.f 0) = some (tabObj (#[] ++ #[rawInt pos.line, rawInt pos.col, .ref c'])) := kp _ _ (by rw [hr.zero.2]; exact htb)
    obtain ⟨L1, hr1, hf1, e1⟩ := turn_grow X.own hr hf h0 k1 (by rw [← hs1]) (by rw [← hs1]) hP1 (x := .tab false) (fun _ => ⟨_, rfl, fun q => by cases q⟩)
    have hf1' : FR X' σ.ρ (σ.H.upd 0 (.tab false)) m s1 := hf1.less l
    obtain ⟨ov, ⟨ocell, hoc1, hdc⟩, fc⟩ := hf1.cells sname ks true cS hsig (by rw [hkc]; intro q; cases q) hcS
    obtain ⟨cv, rfl, hcv⟩ := fc _ hv
    have hnr : ¬ X'.resv cS := by
      rintro (q | ⟨x, k, b, hx1, hx2⟩)
      · exact X.cL sname cS hcS (by rw [← l.env]; exact q)
      · rw [l.env] at hx2
        have := X.cinj x sname cS hx2 hcS
        subst this
        exact hns k b hx1
    have hreS : X.resv cS := .inr ⟨sname, ks, true, hsig, hcS⟩
    obtain ⟨n1, hr2, hf2, L2⟩ := adopt (D := cS) (x := .cell (.ref L)) hr1 hf1' (fun j o e q => hf1.apart j o e (q ▸ hreS)) hnr (hf1.old cS (.inr ⟨sname, ks, hsig, hcS⟩)) hoc1 ⟨cv, hdc, hcv⟩
    have e2 := Ext.adopt hr1 e1 (x := .cell (.ref L)) (D := cS) (.inr (.inr ⟨sname, ks, hsig, hcS⟩))
    have hcf : s.heap.get? c' = none := Heap.get?_none_of_le hge
    have fresh_resv : ∀ a, s.heap.get? a = none → ¬ X.resv a := fun a e q => by
      have := hf.live q
      rw [e] at this; cases this
    have fresh_told : ∀ {Hx : AH} {mx : Mp} {sx : Shared} {own : Addr → Prop} {a : Addr}, (∀ x, own x → X.own x) → s.heap.get? a = none → Ext own σ.H m s Hx mx sx → (∀ i o, Hx i = some o → m.n ≤ i → mx.f i ≠ a) → ∀ j o, Hx j = some o → mx.f j ≠ a := fun {Hx mx sx own a} hown e ex hn j o hj q => by
      rcases ex.fresh j o hj with ⟨h1, o', h2⟩ | ⟨h1, _⟩
      · obtain ⟨o2, h3, _⟩ := hr.obj j o' h2
        rw [ex.f j h1] at q
        rw [q, e] at h3; cases h3
      · exact hn j o hj h1 q
    have fresh_base : ∀ a, s.heap.get? a = none → G.h₀.get? a = none := fun a e => by
      cases q : G.h₀.get? a with
      | none => rfl
      | some o => rw [hr.base a o q] at e; cases e
    have hcSl : (s.heap.get? cS).isSome = true := hf.live hreS
    have hcne : cS ≠ c' := fun q => by rw [q, hcf] at hcSl; cases hcSl
    have hT2 : ∀ j o, ((σ.H.upd 0 (.tab false)).upd m.n (.cell (.ref L))) j = some o → (m.put cS).f j ≠ c' := by
      refine fresh_told (fun _ x => x) hcf e2 fun i o hi hge' => ?_
      by_cases hi' : i = m.n
      · subst hi'; rw [Mp.put_n]; exact hcne
      · rw [AH.upd_ne _ _ hi'] at hi
        exact absurd (hr1.dom i o hi) (by omega)
    obtain ⟨n2, hr3, hf3, L3⟩ := adopt (D := c') (x := .code) hr2 hf2 hT2 (fun q => fresh_resv c' hcf (l.resv q)) (fresh_base c' hcf) (kp _ _ hoc) ⟨vs, t, hd, by rw [hclo]; exact hvs⟩
    have e3 := Ext.adopt hr2 e2 (x := .code) (D := c') (.inl hcf)
    have hsz : s.heap.objs.size ≤ h'.objs.size := Nat.le_of_lt (Nat.lt_of_le_of_lt hge hlt)
    have hff : s.heap.get? h'.objs.size = none := Heap.get?_none_of_le hsz
    have hT3 : ∀ j o, (((σ.H.upd 0 (.tab false)).upd m.n (.cell (.ref L))).upd (m.put cS).n .code) j = some o → ((m.put cS).put c').f j ≠ h'.objs.size := by
      refine fresh_told (fun _ x => x) hff e3 fun i o hi hge' => ?_
      by_cases hi' : i = (m.put cS).n
      · subst hi'; rw [Mp.put_n]; exact Nat.ne_of_lt hlt
      · rw [AH.upd_ne _ _ hi'] at hi
        have hlt2 := hr2.dom i o hi
        rw [Mp.put_lt _ _ hlt2]
        have h3 : i = m.n := by have : i < m.n + 1 := hlt2; omega
        subst h3
        rw [Mp.put_n]
        intro q
        rw [q, hff] at hcSl; cases hcSl
    have hfn : s1.heap.get? h'.objs.size = some (fnMade name (qualnameIn X.env name name) params body scope [(sname, cS)] doc ((G.mg "__name__").getD .none) c' ctv) := by rw [hheap]; exact Heap.get?_push_size _ rfl
    have hmn : m.n < ((m.put cS).put c').n := by show m.n < m.n + 1 + 1; omega
    have hmn1 : (m.put cS).n < ((m.put cS).put c').n := by show m.n + 1 < m.n + 1 + 1; omega
    obtain ⟨n3, hr4, hf4, L4⟩ := adopt (D := h'.objs.size) (x := .clos m.n (m.put cS).n) hr3 hf3 hT3 (fun q => fresh_resv _ hff (l.resv q)) (fresh_base _ hff) hfn
      ⟨hmn, hmn1, doc, (G.mg "__name__").getD .none, ctv, by rw [hclo]; simp only; rw [Mp.put_n, Mp.put_lt _ _ (show m.n < (m.put cS).n from Nat.lt_succ_self _), Mp.put_n]⟩
    have e4 := Ext.adopt hr3 e3 (x := .clos m.n (m.put cS).n) (D := h'.objs.size) (.inl hff)
    rw [← l.env]
    have hvref : RV G.fv s1.heap (((m.put cS).put c').put h'.objs.size) (.ref ((m.put cS).put c').n) (.ref h'.objs.size) := by
      simp only [RV]
      exact ⟨Nat.lt_succ_self _, by rw [Mp.put_n]⟩
    refine wpAny_mono (store_any (σ := ⟨σ.ρ, _⟩) hr4 hf4 hrd hvref) (fun _ s5 q0 => ?_) fun _ _ x => x
    obtain ⟨e5, hr5, hf5⟩ := q0
    have hu : ∀ n, m.n ≤ n → σ.H n = none := fun n hn => by
      cases q : σ.H n with
      | none => rfl
      | some o => have := hr.dom n o q; omega
    have ht := h m.n (m.put cS).n ((m.put cS).put c').n (hu _ (Nat.le_refl _)) (hu _ (Nat.le_succ _)) (hu _ (by show m.n ≤ m.n + 1 + 1; omega)) (by show m.n ≠ m.n + 1; omega) (by show m.n ≠ m.n + 1 + 1; omega) (by show m.n + 1 ≠ m.n + 1 + 1; omega)
    refine wpAny_mono (ht A _ s5 hA hr5 hf5) (fun cf s6 ⟨f, H', m', kf, e6, hr6, hfl⟩ => ⟨f, H', m', kf, ?_, hr6, hfl⟩) fun _ _ x => x
    exact (e4.trans (e5.own_le fun a q => l.own q)).trans (e6.own_le fun a q => l.own q)
end Mine
end Pa31
section Pa32
set_option compiler.extract_closed false
open PySem PySem.W PySem.Calls PyProof.Rows PySem.SeqAt
open PySem.Builtin
set_option maxRecDepth 100000
set_option linter.unusedVariables false
set_option linter.unusedSimpArgs false
namespace Mine
variable {G : Gx} {X : Cx G} {r : Nat} {σ : St} {K : AV → St → Prop}
noncomputable def CallR (G : Gx) (r : Nat) (q : Nat) (args : List AV) (H : AH) (K : AV → AH → Prop) : Prop :=
  ∀ A m s cargs, OkA r A → HR G H m s → RVs G.fv s.heap m args cargs → codeAny (model G.prog G.w) A (.call (.ref (m.f q)) ⟨cargs, []⟩) (fun q s' => match q with
    | .ok (.ret cv) => PostC G H m s K cv s'
    | _ => False) s
noncomputable def CVR (X : Cx G) (r : Nat) (q : Nat) (args : List AV) (σ : St) (K : AV → St → Prop) : Prop :=
  ∀ A m s cargs, OkA r A → HR G σ.H m s → FR X σ.ρ σ.H m s → RVs G.fv s.heap m args cargs → wpAny (model G.prog G.w) A (call (.ref (m.f q)) cargs) (Post X σ m s K) NoE s
theorem CVR.of {q : Nat} {args : List AV} {r' : Nat} (h : CallR G r' q args σ.H fun v H' => K v ⟨σ.ρ, H'⟩) (hr' : r' ≤ r) : CVR X r q args σ K := fun A m s cargs hA hr hf ha =>
  wpAny_call (codeAny_mono (h A m s cargs (hA.le hr') hr ha) fun q s' hq => by
    rcases q with e | (cv | _ | _ | _) <;> first | exact hq.elim | skip
    obtain ⟨v, H', m', k, e, hr', hv⟩ := hq
    exact ⟨v, ⟨σ.ρ, H'⟩, m', k, e.own_le fun _ x => x.elim, hr', hf.ext e, hv⟩)
structure ClCx (X : Cx G) (nm : Str) (names : List (Str × NameKind)) (gt : List (Str × Nat)) : Prop where
  res : X.res = resOf names gt true
  scope : X.env.scope = G.clo.scope
theorem clos_enter {r q i j : Nat} {gt : List (Str × Nat)} {names : List (Str × NameKind)} {ps : List Str} {args : List AV} {H : AH} {K : AV → AH → Prop} (hgt : GT G gt) (hq : H q = some (.clos i j)) (hj : H j = some .code) {vc : AV} (hci : H i = some (.cell vc))
    (hco : G.clo.scope.isCoroutine = false) (hgen : G.clo.scope.isGenerator = false) (hk : G.clo.scope.kind = .function) (hpl : plainNames names = true)
    (hnames : ∀ x k, names.lookup x = some k → G.clo.scope.names.lookup x = some k ∧ k ≠ .free ∧ k ≠ .cell) (hnc : ∀ x ∈ G.clo.scope.names, x.2 ≠ .cell) (hfree : G.clo.scope.names.lookup G.clo.free = some .free)
    (hnd : ps.Nodup) (hps : ∀ p ∈ ps, G.clo.scope.names.lookup p = some .local) (hlen : ps.length = args.length)
    (hbind : ∀ (clos : List (Str × Addr)) (doc pm cd ctv : Value) (cs : List Value), cs.length = args.length → bindArgs (fnX G.clo.name G.clo.qual G.clo.params G.clo.body G.clo.scope clos .none .none doc pm none cd ctv) ⟨cs, []⟩ = pure (ps.zip cs))
    (h : ∀ X : Cx G, X.res = resOf names gt true → X.env.scope = G.clo.scope → X.env.kindOf G.clo.free = some .free → ∀ A m s, OkA r A → HR G H m s → FR X (rho0 names ps args) H m s → X.env.cells.lookup G.clo.free = some (m.f i) → i < m.n →
      wpAny (model G.prog G.w) A (execs G.clo.body X.env) (PostT G X.own H m s (RetA K)) NoE s) : CallR G (r + 1) q args H K := fun A m s cargs hA hr ha => by
  obtain ⟨o, ho, hi, hj', doc, pm, ctv, rfl⟩ := hr.obj q _ hq
  obtain ⟨oc, hoc, vs, t, hdc, hvs⟩ := hr.obj j _ hj
  have hL := rvs_len ha
  have hzip : (ps.zip cargs).map (·.1) = ps := by
    rw [← List.unzip_fst, List.unzip_zip (by rw [hL]; exact hlen)]
  have hlim : s.heap.NoLimit := ⟨_, G.lim.choose_spec.1.keeps hr.base, G.lim.choose_spec.2⟩
  refine codeAny_call_function (body := G.clo.body) (by have := hA.depth; omega) ho rfl hco hgen rfl ⟨_, oc, vs, t, rfl, hoc, hdc, hvs⟩ ?_
  rw [hbind _ _ _ _ _ _ hL]
  refine wpAny_pure (wpAny_newFunctionEnv hnc (fun x hx => hps _ (List.of_mem_zip hx).1) (fun h' hn hsb => ?_) hk)
  generalize hs1 : ({ s with heap := h', toks := s.toks + (ps.zip cargs).length } : Shared) = s₁
  as_aux_lemma =>
    have hh1 : s₁.heap = h' := by rw [← hs1]
    have hkeep : ∀ b o, s.heap.get? b = some o → s₁.heap.get? b = some o := fun b o e => by
      rw [hh1]
      exact (hsb.2 b (Nat.ne_of_lt (Heap.lt_size e))).trans (Heap.get?_push_of_some _ e)
    refine ⟨hlim.keeps hkeep, ?_⟩
    generalize hE : newEnv G.clo.scope s.heap.objs.size mainGlobals [(G.clo.free, m.f i)] (G.clo.qual ++ ".<locals>.") (some (m.f q)) (.ref (m.f j)) none builtinsNs = env
    as_aux_lemma =>
      have hcell : ∀ x c, env.cells.lookup x = some c → x = G.clo.free ∧ c = m.f i := fun x c e => by
        rw [← hE] at e
        have e : List.lookup x [(G.clo.free, m.f i)] = some c := e
        rw [List.lookup_cons] at e
        cases hx : x == G.clo.free with
        | true => rw [hx] at e; cases e; exact ⟨beq_iff_eq.mp hx, rfl⟩
        | false => rw [hx] at e; cases e
      have hloc : env.locals = s.heap.objs.size := by rw [← hE]; rfl
      have hsc : env.scope = G.clo.scope := by rw [← hE]; rfl
      have hko : ∀ x, env.kindOf x = G.clo.scope.names.lookup x := fun x => by
        unfold Env.kindOf; rw [hsc]
      obtain ⟨oi, hoi, _⟩ := hr.obj i _ hci
      let X : Cx G := mkCx G gt hgt env names true hpl (by rw [hsc]; exact hk) (by rw [← hE]; rfl) (by rw [← hE]; rfl) (fun x k e => .inl (by rw [hko]; exact (hnames x k e).1)) (fun x k e q => by
          rcases q with rfl | rfl
          · exact absurd rfl (hnames x _ e).2.2
          · exact absurd rfl (hnames x _ e).2.1)
        (fun y z c e e' => (hcell y c e).1.trans (hcell z c e').1.symm) (fun x c e => by
          rw [(hcell x c e).2, hloc]; exact Nat.ne_of_lt (Heap.lt_size hoi))
      have hXres : ∀ b, X.resv b → b = s.heap.objs.size := fun b q => by
        rcases q with q | ⟨n, k, b', hn1, q⟩
        · exact q.trans hloc
        · obtain ⟨_, kd, hl, hkd⟩ := resOf_idx (show resOf names gt true n = _ from hn1)
          have := (hcell n b q).1
          subst this
          have := (hnames _ _ hl).1
          rw [hfree] at this
          cases this
          exact absurd rfl (hnames _ _ hl).2.1
      have hLf : s.heap.get? s.heap.objs.size = none := Heap.get?_none_of_le (Nat.le_refl _)
      have hr1 : HR G H m s₁ := hr.grow hkeep (by rw [← hs1]; exact hr.gens)
      have L : Later s.heap m s₁.heap m := ⟨Nat.le_refl _, fun _ _ => rfl, fun b o _ e => hkeep b o e⟩
      have hf1 : FR X (rho0 names ps args) H m s₁ := by
        refine ⟨⟨_, by show s₁.heap.Ns env.locals _; rw [hh1, hloc]; exact hn, fun y k b v h1 h2 h3 => ?_⟩, fun y k b c h1 h2 h3 => ?_, fun y k b c h1 e => ?_, fun i o e q => ?_, fun b q => ?_⟩
        · obtain ⟨e, kd, hl, _⟩ := resOf_idx (show resOf names gt true y = _ from h1)
          subst e
          have hg := idxOf_get hl
          unfold rho0 at h3
          rw [List.getElem?_map] at h3
          cases q : names[idxOf y names]? with
          | none => rw [q] at h3; cases h3
          | some z =>
            rw [q] at h3 hg
            have e1 : z.1 = y := Option.some.inj hg
            have e2 : argOf ps args z.1 = some v := Option.some.inj h3
            rw [e1] at e2
            obtain ⟨c, hc, hv⟩ := rvs_lookup ha e2
            refine ⟨c, ?_, hv.later L⟩
            have : ∀ (l : List (Str × Value)), (l.map (·.1)).Nodup → l.reverse.lookup y = l.lookup y := by
              intro l hl
              induction l with
              | nil => rfl
              | cons a l ih =>
                obtain ⟨n, v⟩ := a
                rw [List.map_cons, List.nodup_cons] at hl
                rw [List.reverse_cons, List.lookup_append, ih hl.2, List.lookup_cons]
                cases hy : y == n with
                | true =>
                  have := beq_iff_eq.mp hy
                  subst this
                  have : l.lookup y = none := by
                    cases q : l.lookup y with
                    | none => rfl
                    | some w => exact absurd (List.mem_map.mpr ⟨_, PySem.mem_of_lookup q, rfl⟩) hl.1
                  rw [this]; simp [List.lookup_cons]
                | false => cases hz : l.lookup y <;> simp [List.lookup_cons, hy, hz]
            rw [this _ (by rw [hzip]; exact hnd)]
            exact hc
        · exfalso
          have := (hcell y c h3).1
          subst this
          obtain ⟨_, kd, hl, _⟩ := resOf_idx (show resOf names gt true _ = _ from h1)
          have := (hnames _ _ hl).1
          rw [hfree] at this
          cases this
          exact absurd rfl (hnames _ _ hl).2.1
        · exfalso
          have := (hcell y c e).1
          subst this
          obtain ⟨_, kd, hl, _⟩ := resOf_idx (show resOf names gt true _ = _ from h1)
          have := (hnames _ _ hl).1
          rw [hfree] at this
          cases this
          exact absurd rfl (hnames _ _ hl).2.1
        · have := hXres _ q
          obtain ⟨o', h1, _⟩ := hr.obj i o e
          rw [this, hLf] at h1; cases h1
        · have := hXres _ (Cx.own_resv q)
          cases q1 : G.h₀.get? b with
          | none => rfl
          | some o' => have h2 := hr.base b o' q1; rw [this, hLf] at h2; cases h2
      have hbody := h X rfl hsc (by rw [show X.env = env from rfl, hko]; exact hfree) _ m s₁ (hA.deeper env) hr1 hf1 (by rw [show X.env = env from rfl, ← hE]; show List.lookup _ [(G.clo.free, m.f i)] = _; rw [List.lookup_cons, beq_self_eq_true]) hi
      refine codeAny_func (noE_any (wpAny_mono hbody (fun f s2 q0 => ?_) fun _ _ x => x))
      obtain ⟨af, H2, m2, k2, e2, hr2, hfl⟩ := q0
      have e0 : Ext (fun _ => False) H m s H2 m2 s2 := by
        refine ⟨e2.n, e2.f, fun i o q => ?_, fun b o q1 q2 _ => e2.kept b o (hkeep b o q1) q2 (fun q => ?_), fun b o z q => e2.tup b o z (hkeep b o q), e2.os.trans (by rw [← hs1]), fun g z q => e2.gens g z (by rw [← hs1]; exact q), fun b q => e2.live b ?_⟩
        · rcases e2.fresh i o q with q | ⟨q1, q2⟩
          · exact .inl q
          · refine .inr ⟨q1, .inl (q2.elim (fun q2 => ?_) fun q2 => by rw [hXres _ (Cx.own_resv q2)]; exact hLf)⟩
            cases q3 : s.heap.get? (m2.f i) with
            | none => rfl
            | some o' => rw [hkeep _ _ q3] at q2; cases q2
        · have := hXres b (Cx.own_resv q)
          rw [this, hLf] at q1; cases q1
        · cases q1 : s.heap.get? b with
          | none => rw [q1] at q; cases q
          | some o' => rw [hkeep b o' q1]; rfl
      cases af with
      | ret v => simp only [RFl] at hfl; obtain ⟨cv, rfl, hv⟩ := hfl; exact ⟨v, H2, m2, k2, e0, hr2, hv⟩
      | next => simp only [RFl] at hfl; subst hfl; exact ⟨.none, H2, m2, k2, e0, hr2, rv_none⟩
      | brk => exact k2.elim
      | cont => exact k2.elim
end Mine
end Pa32
section Pa33
set_option compiler.extract_closed false
open PySem PySem.W PySem.Calls PyProof.Rows PySem.SeqAt
open PySem.Builtin
set_option maxRecDepth 100000
set_option linter.unusedVariables false
set_option linter.unusedSimpArgs false
namespace Mine
variable {G : Gx} {X : Cx G} {r : Nat} {σ : St} {K : AV → St → Prop}
section
variable {e i func : PySem.Expr} {es : List PySem.Expr} {name : Str} {pos pos' apos : Pos}
inductive MethOwnQ (X : Cx G) (r : Nat) (name : Str) (es : List PySem.Expr) (K : AV → St → Prop) (a : AV) (σ1 : St) : Prop
  | mk (n k d : Nat) (C : Addr) (ens : List (Str × AV)) (q i j : Nat) (ea : a = .ref n) (I : InstS G σ1.H n k d C ens) (hf : findIn G.K (.ref C) name = some Option.none) (hl : ens.lookup name = some (.ref q)) (hq : σ1.H q = some (.clos i j))
      (h : EA X r es σ1 fun as σ2 => (∃ i j, σ2.H q = some (.clos i j)) ∧ CVR X r q as σ2 K) : MethOwnQ X r name es K a σ1
theorem ev_methOwn (h : EV X r (eval e X.env) σ (MethOwnQ X r name es K))
    (hbase : attributeBase e name X.env (eval e X.env) = eval e X.env := by rfl)
    (hline : (apos.endLine == pos.line) = true := by rfl)
    (hform : methodCallForm (es.length + ([] : List Keyword).length) (backTo pos (starEach es X.env)) (backToKw pos (keywordEach [] X.env)) = true := by rfl)
    (ht : backTo pos (starEach es X.env) = es.map fun e => (false, eval e X.env) := by rfl) : EV X r (eval (.Call (.Attribute e name apos) es [] pos) X.env) σ K := fun A m s hA hr hf => by
  rw [arm_eval_Call, hbase]
  refine wpAny_bind (wpAny_mono (h A m s hA hr hf) (fun ca s1 q0 => ?_) fun _ _ x => x)
  obtain ⟨a, σ1, m1, ⟨n, k, d, C, ens, q, i, j, ea, I, hfi, hl, hq, h2⟩, e1, hr1, hf1, ha⟩ := q0
  subst ea
  obtain ⟨hlt, rfl⟩ := inv_ref ha
  refine wpAny_bind (wpAny_standAt ?_)
  have hpos : methodCallPos true e X.env apos pos = pure pos := by unfold methodCallPos; simp [hline]
  unfold methodCall
  rw [hform]
  obtain ⟨l, nn, Ia, hd, hns⟩ := I.at hr1
  refine wpAny_bind (wpAny_holding ?_)
  show wpAny _ _ (getMethod _ _ _) _ _ _
  refine method_usual (r := Option.none) (G.kin.keeps hr1.base) Ia I.cls.ga I.cls.gx hfi rfl ?_
  refine P1.attr I hfi hl trivial hr1 fun v hv => ?_
  have hqlt := hr1.dom q _ hq
  obtain ⟨_, rfl⟩ := inv_ref hv
  refine wpAny_bind (wpAny_of_eq hpos ?_)
  rw [ht]
  have hr1' := hr1.toks (s1.toks + 1)
  have hf1' := hf1.toks (s1.toks + 1)
  have e01 : Ext X.own σ1.H m1 s1 σ1.H m1 { s1 with toks := s1.toks + 1 } := .grow hr1 (fun _ _ e => e) rfl rfl
  have main : wpAny (model G.prog G.w) A (spliced (es.map fun e => (false, eval e X.env))) (fun vs s₁ => FnAt (m1.f q) s₁.heap ∧ wpAny (model G.prog G.w) A (call (.ref (m1.f q)) ([] ++ vs)) (Post X σ m s K) NoE s₁) NoE { s1 with toks := s1.toks + 1 } :=
    wpAny_mono (h2 A m1 _ hA hr1' hf1') (fun cs s2 ⟨as, σ2, m2, ⟨⟨i2, j2, hq2⟩, k2⟩, e2, hr2, hf2, has⟩ => by
      have hfq : m2.f q = m1.f q := e2.f q hqlt
      refine ⟨?_, ?_⟩
      · obtain ⟨o, ho, _, _, doc, pm, ctv, rfl⟩ := hr2.obj q _ hq2
        rw [hfq] at ho
        exact ⟨_, _, _, _, ho⟩
      · rw [← hfq]
        exact wpAny_mono (k2 A m2 s2 cs hA hr2 hf2 has) (fun _ _ p => Post.trans e1 (Post.trans e01 (Post.trans e2 p))) fun _ _ x => x) fun _ _ x => x
  have hplain : ((es.map fun e => (false, eval e X.env)).any (·.1) || ([] : List (Option Str × Sem Value)).any (·.1.isNone)) = false := by
    rw [List.any_nil, Bool.or_false]
    clear main ht hform h2
    induction es with
    | nil => rfl
    | cons e es ih => rw [List.map_cons, List.any_cons]; simp
  refine callWith_of (P := FnAt (m1.f q)) hplain keeps_F ?_
  cases es with
  | nil => exact evalArgs_none main
  | cons e es => exact evalArgs_plain main
theorem ev_subG (h : EV X r (eval e X.env) σ fun a σ1 => EV X r (eval i X.env) σ1 fun b σ2 => (∀ m s ca, HR G σ2.H m s → RV G.fv s.heap m a ca → ∃ T id, typeLookup (.type T) "__getitem__" = pure (some (.builtin id)) ∧ s.TypeIs ca T) ∧ P2 X r getItem a b σ2 K)
    (hsl : ∀ o v, subscripted i false o v = operate [o, v] (getItem o v) := by intros; rfl) : EV X r (eval (.Subscript e i pos) X.env) σ K := fun A m s hA hr hf => by
  rw [eval_Subscript]
  refine wpAny_bind (wpAny_mono (h A m s hA hr hf) (fun ca s1 q0 => ?_) fun _ _ x => x)
  obtain ⟨a, σ1, m1, k1, e1, hr1, hf1, ha⟩ := q0
  refine wpAny_bind (wpAny_holding (wpAny_mono (k1 A m1 s1 hA hr1 hf1) (fun cb s2 q0 => ?_) fun _ _ x => x))
  obtain ⟨b, σ2, m2, ⟨ht, k2⟩, e2, hr2, hf2, hb⟩ := q0
  have ha2 := RV.later e2.later _ _ ha
  obtain ⟨T, id, hl, hT⟩ := ht m2 s2 ca hr2 ha2
  refine wpAny_bind (wpAny_standAt (wpAny_bind ?_))
  rw [getitemInPython_of_ne hT.not_modules]
  refine wpAny_bind (wpAny_specialOf hT hl ?_)
  refine wpAny_pure ?_
  rw [hsl]
  exact wpAny_bind (wpAny_operating (wpAny_mono (k2 A m2 s2 ca cb hA hr2 hf2 ha2 hb) (fun c s3 p => wpAny_bind (wpAny_letTemporaryGo (wpAny_pure ((p.trans e2).trans e1)))) fun _ _ x => x))
theorem ev_methX {T id : String} (pa : PlainAttrs T) (slot : Slot T name id) (hty : typeOf (.builtin id) = pure (.type "method_descriptor"))
    (h : EV X r (eval e X.env) σ fun ov σ1 => (∀ m s ca, HR G σ1.H m s → RV G.fv s.heap m ov ca → s.TypeIs ca T ∧ ∀ a, ca = .ref a → ∃ ob, s.heap.get? a = some ob ∧ ob.dict = Option.none) ∧ EA X r es σ1 fun as σ2 => CV X r (.builtin id) (ov :: as) σ2 K)
    (hbase : attributeBase e name X.env (eval e X.env) = eval e X.env := by rfl)
    (hline : (apos.endLine == pos.line) = true := by rfl)
    (hfew : ((backTo pos (starEach es X.env)).all (fun x => !x.1) && (backToKw pos (keywordEach [] X.env)).all (fun x => x.1.isSome)
      && decide (es.length + ([] : List Keyword).length + (if ([] : List Keyword).isEmpty then 0 else 1) < 30)) = true := by rfl)
    (ht : backTo pos (starEach es X.env) = es.map fun e => (false, eval e X.env) := by rfl) : EV X r (eval (.Call (.Attribute e name apos) es [] pos) X.env) σ K := fun A m s hA hr hf => by
  refine wpAny_Call_method_late hbase hfew hline ht (wpAny_mono (h A m s hA hr hf) (fun cv s1 q0 => ?_) fun _ _ x => x)
  obtain ⟨ov, σ1, m1, ⟨his, h2⟩, e1, hr1, hf1, hv⟩ := q0
  obtain ⟨t1, t2⟩ := his m1 s1 cv hr1 hv
  refine ⟨T, id, pa, slot, hty, t1, t2, ?_⟩
  exact wpAny_mono (callWith_any (first := [ov]) hA hr1 hf1 (Keep.builtin id) (by simp only [RVs]; exact ⟨cv, [], rfl, hv, rfl⟩) h2) (fun _ _ p => Post.trans e1 p) fun _ _ x => x
end
section
variable {k : Nat} {a : Addr} {i : Int} {vs : List Value} {ns : List Int}
theorem base_typeIs {T : String} {o : Obj} (hfv : G.fv k = .ref a) (ho : G.h₀.get? a = some o) (hc : o.cls = .type T) {H : AH} {m : Mp} {s : Shared} {ca : Value} (hr : HR G H m s) (hv : RV G.fv s.heap m (.fn k) ca) : s.TypeIs ca T ∧ ∀ b, ca = .ref b → ∃ ob, s.heap.get? b = some ob ∧ ob = o := by
  rw [inv_fn hv, hfv]
  exact ⟨⟨o, hr.base _ _ ho, hc⟩, fun b e => by cases e; exact ⟨o, hr.base _ _ ho, rfl⟩⟩
theorem ints_get {n : Int} : ∀ {vs : List Value} {ns : List Int} {j : Nat}, IntsAre vs ns → ns[j]? = some n → ∃ t, vs[j]? = some (.int n t)
  | _, _, j, .nil, h => by cases h
  | _, _, 0, .cons i t r, h => by cases h; exact ⟨t, rfl⟩
  | _, _, j + 1, .cons i t r, h => ints_get (j := j) r h
theorem cv_lenB (hfv : G.fv k = .ref a) (hl : G.h₀.IsList a vs.toArray) (hi : IntsAre vs ns) (hfit : ns.length < 2 ^ 62) (h : K (.int ns.length) σ) : CV X r (.builtin "len") [.fn k] σ K := fun A m s cargs hA hr hf ha => by
  obtain ⟨ca, rfl, hv⟩ := rvs1 ha
  rw [inv_fn hv, hfv]
  have hl' : s.heap.IsList a vs.toArray := let ⟨o, ho, q⟩ := hl; ⟨o, hr.base _ _ ho, q⟩
  exact len_ints_fit hl' hi hfit (post_pure hr hf h (rv_int _))
theorem p2_itemB (hfv : G.fv k = .ref a) (hl : G.h₀.IsList a vs.toArray) (hi : IntsAre vs ns) (h0 : 0 ≤ i) (hfit : i < 2 ^ 63) {n : Int} (hx : ns[i.toNat]? = some n) (h : K (.int n) σ) : P2 X r getItem (.fn k) (.int i) σ K := fun A m s ca cb hA hr hf ha hb => by
  obtain ⟨u, rfl⟩ := inv_int hb
  rw [inv_fn ha, hfv]
  have hl' : s.heap.IsList a vs.toArray := let ⟨o, ho, q⟩ := hl; ⟨o, hr.base _ _ ho, q⟩
  obtain ⟨t, ht⟩ := ints_get hi hx
  exact wpAny_getItem_list hl' h0 hfit (by simpa using ht) (post_pure (t := s.toks) hr hf h (rv_int _))
theorem MapOf.keeps {prog : Program} {w : World} {K : Type} [DecidableEq K] {knd : KeyKind prog w K} {h h' : Heap} {a : Addr} {f : K → Option Value} (x : h.MapOf knd a f) (hk : ∀ b o, h.get? b = some o → h'.get? b = some o) : h'.MapOf knd a f :=
  let ⟨o, es, ep, ho, q⟩ := x; ⟨o, es, ep, hk _ _ ho, q⟩
noncomputable def tabSays (f : Int → Option Value) (tab : Int → Option Str) : Prop := ∀ i, match tab i with | none => f i = none | some x => ∃ t, f i = some (.str x t)
theorem cv_getB {f : Int → Option Value} {tab : Int → Option Str} (hfv : G.fv k = .ref a) (lo : (a == sysModules) = false) (hm : G.h₀.MapOf (intKind G.prog G.w) a f) (ht : tabSays f tab) (h : K (match tab i with | none => .none | some x => .str x) σ) : CV X r (.builtin "dict.get") [.fn k, .int i] σ K := fun A m s cargs hA hr hf ha => by
  obtain ⟨ca, cb, rfl, h1, h2⟩ := rvs2 ha
  obtain ⟨u, rfl⟩ := inv_int h2
  rw [inv_fn h1, hfv]
  have hm' := MapOf.keeps hm hr.base
  refine call_meetsIn PySem.F.slot_dict_get hm'.typeIs PySem.F.entry_dict_get (PySem.F.args_dict_get_2 _ _) (meets_dict_get (intKind G.prog G.w) a (intKind_is _ _ i u) lo) ⟨_, hm', ?_⟩
  have hti := ht i
  cases q : tab i with
  | none => rw [q] at hti h; simp only at hti; rw [hti]; exact post_pure hr hf h rv_none
  | some x => rw [q] at hti h; obtain ⟨t, e⟩ := hti; rw [e]; exact post_pure hr hf h (rv_str _)
theorem SetOf.keeps {prog : Program} {w : World} {K : Type} [DecidableEq K] {knd : KeyKind prog w K} {h h' : Heap} {a : Addr} {S : K → Bool} {n : Nat} (x : h.SetOf knd a S n) (hk : ∀ b o, h.get? b = some o → h'.get? b = some o) : h'.SetOf knd a S n :=
  let ⟨o, es, ep, t, ho, q⟩ := x; ⟨o, es, ep, t, hk _ _ ho, q⟩
theorem p2_inB {S : Int → Bool} {n : Nat} (hfv : G.fv k = .ref a) (hS : G.h₀.SetOf (intKind G.prog G.w) a S n) (h : K (.bool (S i)) σ) : P2 X r (compareOp .In) (.int i) (.fn k) σ K := fun A m s ca cb hA hr hf ha hb => by
  obtain ⟨u, rfl⟩ := inv_int ha
  rw [inv_fn hb, hfv]
  exact wpAny_inSet_of (isInt_self i u) rfl (SetOf.keeps hS hr.base) (post_pure hr hf h rv_bool)
end
theorem load_tcell {x : Str} {i : Nat} {v : AV} {A : Around} {m : Mp} {s : Shared} {Q : Value → Shared → Prop} (hk : X.env.kindOf x = some .free) (hc : X.env.cells.lookup x = some (m.f i)) (hi : σ.H i = some (.cell v)) (hr : HR G σ.H m s) (hcd : (x == ("__classdict__" : Str)) = false)
    (h : ∀ cv, RV G.fv s.heap m v cv → Q cv s) : wpAny (model G.prog G.w) A (loadName X.env x) Q NoE s := by
  obtain ⟨o, ho, cv, hd, hv⟩ := hr.obj i _ hi
  exact wpAny_loadName_free X.kind hk hc ⟨o, ho, hd⟩ (h cv hv) hcd
end Mine
end Pa33
section Pa34
set_option compiler.extract_closed false
open PySem PySem.W PySem.Calls PyProof.Rows
set_option maxRecDepth 100000
set_option linter.unusedVariables false
set_option linter.unusedSimpArgs false
namespace Mine
variable {G : Gx} {X : Cx G} {r : Nat} {σ : St} {K : AV → St → Prop}
theorem cellsFrom_one {xc : Str} : ∀ {names : List (Str × NameKind)} {n : Nat} {acc : List (Str × Addr)} {h : Heap}, names.filter (fun x => x.2 == .cell) = [(xc, .cell)] → cellsFrom n names acc = (xc, n) :: acc ∧ pushCells h names = h.push { cls := .type "cell", data := .cell none }
  | [], _, _, _, e => by cases e
  | (y, k) :: r, n, acc, h, e => by
    have none_of : ∀ {r : List (Str × NameKind)} {n : Nat} {acc : List (Str × Addr)} {h : Heap}, r.filter (fun x => x.2 == .cell) = [] → cellsFrom n r acc = acc ∧ pushCells h r = h := by
      intro r
      induction r with
      | nil => intro n acc h _; exact ⟨rfl, rfl⟩
      | cons a r ih =>
        obtain ⟨y, k⟩ := a
        intro n acc h e
        rw [List.filter_cons] at e
        split at e
        · cases e
        · rename_i hk
          have hk' : (k == NameKind.cell) = false := by simpa using hk
          unfold cellsFrom pushCells
          rw [hk']
          exact ih e
    rw [List.filter_cons] at e
    unfold cellsFrom pushCells
    split at e
    · rename_i hk
      have hk : (k == NameKind.cell) = true := hk
      rw [hk]
      obtain ⟨ea, eb⟩ := List.cons.inj e
      cases ea
      obtain ⟨p, q⟩ := none_of (r := r) (n := n + 1) (acc := (xc, n) :: acc) (h := h.push { cls := .type "cell", data := .cell none }) eb
      exact ⟨p, q⟩
    · rename_i hk
      have hk' : (k == NameKind.cell) = false := by simpa using hk
      rw [hk']
      exact cellsFrom_one e
theorem newFunctionEnv_one {M : Model} {A : Around} {E : Value → Shared → Prop} {s : Shared} {scope : Scope} {globals : Addr} {closure : List (Str × Addr)} {qual : Str} {func : Option Addr} {code : Value} {outer : Env} {builtins : Addr} {xc : Str} {Q : Env → Shared → Prop}
    (h1 : scope.names.filter (fun x => x.2 == .cell) = [(xc, .cell)])
    (hQ : Q { scope, locals := s.heap.objs.size, globals, cells := (xc, s.heap.objs.size + 1) :: closure, qual, func, code := outer.code, frame := outer.frame, builtins := outer.builtins } { s with heap := (s.heap.push { cls := .type "dict", data := .dict #[] }).push { cls := .type "cell", data := .cell none } }) :
    wpAny M A (newFunctionEnv scope globals closure [] qual func code (some outer) builtins) Q E s := by
  simp only [newFunctionEnv, Option.isSome_some, if_true]
  refine wpAny_bind (wpAny_alloc ?_)
  refine wpAny_bind (wpAny_layCells _ (fun name kind cells => by cases hkc : kind == NameKind.cell <;> simp [hkc]) _ _ _ _ ?_)
  obtain ⟨e1, e2⟩ := cellsFrom_one (n := (s.heap.push { cls := .type "dict", data := .dict #[] }).objs.size) (acc := closure) (h := s.heap.push { cls := .type "dict", data := .dict #[] }) h1
  rw [show ({ s with heap := s.heap.push { cls := .type "dict", data := .dict #[] } } : Shared).heap = s.heap.push { cls := .type "dict", data := .dict #[] } from rfl, e1, e2, Heap.size_push]
  exact wpAny_bind (wpAny_pure (wpAny_pure hQ))
structure CompCxC (X Y : Cx G) (scope : Scope) (gt : List (Str × Nat)) (xc : Str) (C : Addr) : Prop where
  env : Y.env = compEnvC scope ((xc, C + 1) :: clOf X.env.cells scope.names []) C X.env
  res : Y.res = resOf scope.names gt true
  own : ∀ a, Y.own a → a = C ∨ a = C + 1
  locals : Y.env.locals = C
theorem exists_compC {xc : Str} (gt : List (Str × Nat)) (hgt : GT G gt) {scope : Scope} (hpl : plainNames scope.names = true) (hnd : nodupNames scope.names = true) (hk : scope.kind = .function) (hnc : scope.names.filter (fun x => x.2 == .cell) = [(xc, .cell)])
    (hfree : ∀ x ∈ scope.names, x.2 = .free → ∃ c, X.env.cells.lookup x.1 = some c) {C : Addr} (hC : ∀ x c, (x, NameKind.free) ∈ scope.names → X.env.cells.lookup x = some c → c ≠ C ∧ c ≠ C + 1) : ∃ Y : Cx G, CompCxC X Y scope gt xc C := by
  have hcl : ∀ x c, (clOf X.env.cells scope.names []).lookup x = some c → X.env.cells.lookup x = some c ∧ (x, NameKind.free) ∈ scope.names := fun x c h => by
    rcases clOf_mem (PySem.mem_of_lookup h) with h | ⟨h1, h2⟩
    · cases h
    · obtain ⟨c', hc'⟩ := hfree _ h1 rfl
      have hc' : X.env.cells.lookup x = some c' := hc'
      rw [hc'] at h2
      exact ⟨by rw [hc', h2]; rfl, h1⟩
  have hnd' : ∀ x k, (x, k) ∈ scope.names → scope.names.lookup x = some k := fun x k h => beq_iff_eq.mp (List.all_eq_true.mp hnd _ h)
  have hrel : ∀ x k, scope.names.lookup x = some k → (relabel scope X.env).names.lookup x = some k ∨ (k = .free ∧ (relabel scope X.env).names.lookup x = some .cell) := by
    intro x k
    unfold relabel
    simp only
    generalize scope.names = names
    induction names with
    | nil => intro h; simp at h
    | cons p r ih =>
      obtain ⟨n, kd⟩ := p
      intro h
      rw [List.lookup_cons] at h
      rw [List.map_cons]
      by_cases hc : (kd == NameKind.free && X.env.scope.kind == .function && X.env.kindOf n == some .cell) = true
      · show List.lookup x ((if _ then _ else _) :: _) = _ ∨ _ ∧ List.lookup x ((if _ then _ else _) :: _) = _
        rw [if_pos hc]
        cases hx : x == n with
        | true =>
          rw [hx] at h; cases h
          simp only [List.lookup_cons, hx]
          exact .inr ⟨beq_iff_eq.mp (by simp only [Bool.and_eq_true] at hc; exact hc.1.1), trivial⟩
        | false => rw [hx] at h; simp only [List.lookup_cons, hx]; exact ih h
      · show List.lookup x ((if _ then _ else _) :: _) = _ ∨ _ ∧ List.lookup x ((if _ then _ else _) :: _) = _
        rw [if_neg hc]
        cases hx : x == n with
        | true => rw [hx] at h; cases h; simp [List.lookup_cons, hx]
        | false => rw [hx] at h; simp only [List.lookup_cons, hx]; exact ih h
  have hxc : (xc, NameKind.cell) ∈ scope.names := by
    have : (xc, NameKind.cell) ∈ scope.names.filter (fun x => x.2 == .cell) := by rw [hnc]; exact List.mem_cons_self
    exact (List.mem_filter.mp this).1
  have hcl2 : ∀ x c, (((xc, C + 1) :: clOf X.env.cells scope.names []) : List (Str × Addr)).lookup x = some c → (x = xc ∧ c = C + 1) ∨ (X.env.cells.lookup x = some c ∧ (x, NameKind.free) ∈ scope.names) := fun x c h => by
    rw [List.lookup_cons] at h
    cases hx : x == xc with
    | true => rw [hx] at h; cases h; exact .inl ⟨beq_iff_eq.mp hx, rfl⟩
    | false => rw [hx] at h; exact .inr (hcl x c h)
  refine ⟨mkCx G gt hgt (compEnvC scope ((xc, C + 1) :: clOf X.env.cells scope.names []) C X.env) scope.names true hpl hk X.globals X.builtins hrel (fun x k h q => ?_) (fun x y c h h' => ?_) (fun x c h => ?_), rfl, rfl, fun a q => ?_, rfl⟩
  · show ∃ c, (((xc, C + 1) :: clOf X.env.cells scope.names []) : List (Str × Addr)).lookup x = some c
    rw [List.lookup_cons]
    cases hx : x == xc with
    | true => exact ⟨_, rfl⟩
    | false =>
      rcases q with rfl | rfl
      · have : (x, NameKind.cell) ∈ scope.names.filter (fun x => x.2 == .cell) := List.mem_filter.mpr ⟨PySem.mem_of_lookup h, rfl⟩
        rw [hnc] at this
        simp only [List.mem_cons, List.not_mem_nil, or_false, Prod.mk.injEq, and_true] at this
        rw [this, beq_self_eq_true] at hx; cases hx
      · obtain ⟨c, hc⟩ := clOf_has (cells := X.env.cells) (acc := []) (.inl (PySem.mem_of_lookup h))
        exact lookup_of_mem hc
  · rcases hcl2 x c h with ⟨e1, e2⟩ | ⟨e1, e2⟩ <;> rcases hcl2 y c h' with ⟨e3, e4⟩ | ⟨e3, e4⟩
    · rw [e1, e3]
    · exact absurd e2 (hC y c e4 e3).2
    · exact absurd e4 (hC x c e2 e1).2
    · exact X.cinj x y c e1 e3
  · rcases hcl2 x c h with ⟨e1, e2⟩ | ⟨e1, e2⟩
    · rw [e2]; exact Nat.succ_ne_self C
    · exact (hC x c e2 e1).1
  · rcases q with q | ⟨x, k, h1, h2⟩
    · exact .inl q
    · rcases hcl2 x a h2 with ⟨e1, e2⟩ | ⟨e1, e2⟩
      · exact .inr e2
      · obtain ⟨_, kd, hl, hkd⟩ := resOf_idx (show resOf scope.names gt true x = _ from h1)
        have := hnd' _ _ e2
        rw [this] at hl; cases hl
        rcases hkd with ⟨q, _⟩ | ⟨q, _⟩ | ⟨_, q⟩
        · cases q
        · cases q
        · cases q
theorem ev_compC {xc : Str} {elt iter : PySem.Expr} {ifs : List PySem.Expr} {scope : Scope} {px pos : Pos} {x : Str} {kx : Nat} (gt : List (Str × Nat)) (hgt : GT G gt)
    (hpl : plainNames scope.names = true) (hnd : nodupNames scope.names = true) (hk : scope.kind = .function) (hnc : scope.names.filter (fun x => x.2 == .cell) = [(xc, .cell)])
    (hX : ∀ y ∈ scope.names, y.2 = .free → ∃ j b, X.res y.1 = some (.loc j b) ∧ X.env.kindOf y.1 ≠ some .local)
    (hx : resOf scope.names gt true x = some (.loc kx true))
    (h : EV X r (eval iter X.env) σ (CompQ X r true gt scope kx ifs elt fun n ρ H => K (.ref n) ⟨ρ, H⟩))
    (hs : ∀ v, foldedSetIterable iter X.env v = pure v := by intro _; rfl) : EV X r (eval (.ListComp elt [⟨.Name x px, iter, ifs, 0⟩] scope pos) X.env) σ K := fun A m s hA hr hf => by
  have hfree : ∀ y ∈ scope.names, y.2 = .free → ∃ c, X.env.cells.lookup y.1 = some c := fun y hy e => by
    obtain ⟨j, b, h1, h2⟩ := hX y hy e
    obtain ⟨_, _, q⟩ := X.loc y.1 j b h1
    rcases q with ⟨_, q⟩ | ⟨_, q⟩
    · exact absurd q h2
    · exact q
  have hnd' : ∀ x k, (x, k) ∈ scope.names → scope.names.lookup x = some k := fun x k h => beq_iff_eq.mp (List.all_eq_true.mp hnd _ h)
  have hnames : ∀ y ∈ scope.names, y.2 = .local → scope.names.lookup y.1 = some .local := fun y hy e => by rw [hnd' y.1 y.2 hy, e]
  rw [eval_ListComp]
  refine wpAny_comprehension_free (use := none) (e := .ListComp elt [⟨.Name x px, iter, ifs, 0⟩] scope pos) (g := ⟨.Name x px, iter, ifs, 0⟩) (gs := []) rfl hs (closureFor_eq hfree) hk hnames ?_
  show wpAny _ _ (eval iter X.env) _ _ _
  refine wpAny_mono (h A m s hA hr hf) (fun ca s1 q0 => ?_) fun _ _ x => x
  obtain ⟨a, σ1, m1, ⟨inv, N, item, J, hp, hsz, hj0, hstep, hend⟩, e1, hr1, hf1, hca⟩ := q0
  refine hp A m1 s1 ca _ hA.handled hr1 hf1 hca fun I S o fix W hfix hI hkI hS => ?_
  refine wpAny_newObj_type (newFunctionEnv_one hnc ?_)
  dsimp only
  have hIs : I = s1.heap.objs.size := by
    by_cases hlt : I = s1.heap.objs.size
    · exact hlt
    · have hl := W.live 0 _ hS
      rw [Heap.get?_push_ne _ _ _ hlt, hI] at hl
      cases hl
  generalize hD : (s1.heap.push o).objs.size = D at *
  have hDs : D = s1.heap.objs.size + 1 := by rw [← hD, Heap.size_push]
  have hDI : D ≠ I := by rw [hDs, hIs]; exact Nat.succ_ne_self _
  generalize hH2 : (s1.heap.push o).push { cls := .type "list", dict := none, data := .seq ([] : List Value).toArray } = H2 at *
  generalize hC : H2.objs.size = C at *
  have hCs : C = s1.heap.objs.size + 2 := by rw [← hC, ← hH2, Heap.size_push, hD, hDs]
  have fresh : ∀ a, s1.heap.objs.size ≤ a → s1.heap.get? a = none := fun a ha => Heap.get?_none_of_le ha
  have k2 : ∀ a o', (s1.heap.push o).get? a = some o' → ((H2.push { cls := .type "dict", data := .dict #[] }).push { cls := .type "cell", data := .cell none }).get? a = some o' := fun a o' e => by
    refine Heap.get?_push_of_some _ (Heap.get?_push_of_some _ ?_)
    rw [← hH2]
    exact Heap.get?_push_of_some _ e
  have hDo : ((H2.push { cls := .type "dict", data := .dict #[] }).push { cls := .type "cell", data := .cell none }).get? D = some (lstOf [] 0) := by
    refine Heap.get?_push_of_some _ (Heap.get?_push_of_some _ ?_)
    rw [← hH2, ← hD]
    exact Heap.get?_push_size _ rfl
  have hns4 : ((H2.push { cls := .type "dict", data := .dict #[] }).push { cls := .type "cell", data := .cell none }).Ns C (fun _ => none) := by
    rw [← hC]
    exact (Heap.Ns.new H2 (.type "dict")).keeps fun b o e => Heap.get?_push_of_some _ e
  have hcell4 : ((H2.push { cls := .type "dict", data := .dict #[] }).push { cls := .type "cell", data := .cell none }).IsCell (C + 1) none := by
    have : C + 1 = (H2.push { cls := .type "dict", data := .dict #[] }).objs.size := by rw [Heap.size_push, hC]
    rw [this]
    exact ⟨_, Heap.get?_push_size _ rfl, rfl⟩
  generalize hh4 : (H2.push { cls := .type "dict", data := .dict #[] }).push { cls := .type "cell", data := .cell none } = h4 at *
  have k4 : ∀ a o', s1.heap.get? a = some o' → h4.get? a = some o' := fun a o' e => k2 a o' (hkI a o' e)
  have hS4 : S 0 h4 := W.keep 0 _ _ hS (fun o' e => k2 I o' e)
  obtain ⟨Y, hY⟩ := exists_compC (X := X) gt hgt hpl hnd hk hnc hfree (C := C) (fun y c hm e => by
    obtain ⟨j, b, hx1, _⟩ := hX _ hm rfl
    obtain ⟨ov, o', h1, _⟩ := hf1.clive y j b c hx1 e
    refine ⟨fun q => ?_, fun q => ?_⟩
    · rw [q, fresh C (by omega)] at h1; cases h1
    · rw [q, fresh (C + 1) (by omega)] at h1; cases h1)
  generalize hs4 : ({ s1 with heap := h4 } : Shared) = s4 at *
  have hs4h : s4.heap = h4 := by rw [← hs4]
  have hr4 : HR G σ1.H m1 s4 := hr1.grow (fun a o' e => by rw [hs4h]; exact k4 a o' e) (by rw [← hs4]; exact hr1.gens)
  have hf4 : FR X σ1.ρ σ1.H m1 s4 := hf1.grow (fun a o' e => by rw [hs4h]; exact k4 a o' e)
  have eg : ∀ own, Ext own σ1.H m1 s1 σ1.H m1 s4 := fun own => .grow hr1 (fun a o' e => by rw [hs4h]; exact k4 a o' e) (by rw [← hs4]) (by rw [← hs4])
  have hdI := hid_new hr1 hf1 hI
  have hdD := hid_new hr1 hf1 (fresh D (by omega))
  have hdC := hid_new hr1 hf1 (fresh C (by omega))
  have hdC1 := hid_new hr1 hf1 (fresh (C + 1) (by omega))
  have hCells : ∀ y c, Y.env.cells.lookup y = some c → (y = xc ∧ c = C + 1) ∨ (X.env.cells.lookup y = some c ∧ (y, NameKind.free) ∈ scope.names) := fun y c e => by
    rw [hY.env] at e
    have e : (((xc, C + 1) :: clOf X.env.cells scope.names []) : List (Str × Addr)).lookup y = some c := e
    rw [List.lookup_cons] at e
    cases hx : y == xc with
    | true => rw [hx] at e; cases e; exact .inl ⟨beq_iff_eq.mp hx, rfl⟩
    | false =>
      rw [hx] at e
      rcases clOf_mem (PySem.mem_of_lookup e) with h | ⟨h1, h2⟩
      · cases h
      · obtain ⟨c', hc'⟩ := hfree _ h1 rfl
        have hc' : X.env.cells.lookup y = some c' := hc'
        rw [hc'] at h2
        exact .inr ⟨by rw [hc', h2]; rfl, h1⟩
  have hxcm : (xc, NameKind.cell) ∈ scope.names := by
    have : (xc, NameKind.cell) ∈ scope.names.filter (fun x => x.2 == .cell) := by rw [hnc]; exact List.mem_cons_self
    exact (List.mem_filter.mp this).1
  have hxcl : scope.names.lookup xc = some .cell := hnd' _ _ hxcm
  have hYresv : ∀ b, Y.resv b → b = C ∨ b = C + 1 ∨ X.resv b := fun b q => by
    rcases q with q | ⟨y, q⟩
    · exact .inl (q.trans hY.locals)
    · obtain ⟨kq, bq, _, q⟩ := q
      rcases hCells y b q with ⟨_, h1⟩ | ⟨h1, h2⟩
      · exact .inr (.inl h1)
      · obtain ⟨j, b', hx1, _⟩ := hX _ h2 rfl
        exact .inr (.inr (.inr ⟨y, j, b', hx1, h1⟩))
  have hidY : ∀ {b}, Hid X σ1 m1 b → b ≠ C → b ≠ C + 1 → Hid Y ⟨rhoC scope.names X.res σ1.ρ, σ1.H⟩ m1 b := fun hd hne hne1 => ⟨hd.told, fun q => by
    rcases hYresv _ q with q | q | q
    · exact hne q
    · exact hne1 q
    · exact hd.resv q, hd.old⟩
  have hrho : ∀ y k b v, Y.res y = some (.loc k b) → (rhoC scope.names X.res σ1.ρ)[k]? = some (some v) → (y, NameKind.free) ∈ scope.names ∧ ∃ j b', X.res y = some (.loc j b') ∧ σ1.ρ[j]? = some (some v) := fun y k b v h1 h3 => by
    rw [hY.res] at h1
    obtain ⟨e, kd, hl, _⟩ := resOf_idx h1
    subst e
    have hg := idxOf_get hl
    unfold rhoC at h3
    rw [List.getElem?_map] at h3
    cases q : scope.names[idxOf y scope.names]? with
    | none => rw [q] at h3; cases h3
    | some z =>
      rw [q] at h3 hg
      obtain ⟨zn, zk⟩ := z
      have e1 : zn = y := Option.some.inj hg
      subst e1
      simp only [Option.map_some, Option.some.injEq] at h3
      by_cases hz : (zk == NameKind.free) = true
      · rw [if_pos hz] at h3
        have hm : (zn, zk) ∈ scope.names := List.mem_of_getElem? q
        rw [beq_iff_eq.mp hz] at hm
        refine ⟨hm, ?_⟩
        cases q2 : X.res zn with
        | none => rw [q2] at h3; cases h3
        | some rr =>
          rw [q2] at h3
          cases rr with
          | glob _ => cases h3
          | loc j b' =>
            refine ⟨j, b', rfl, ?_⟩
            simp only at h3
            cases q3 : σ1.ρ[j]? with
            | none => rw [q3] at h3; cases h3
            | some z => rw [q3] at h3; simp at h3; rw [h3]
      · rw [if_neg hz] at h3; cases h3
  have hfY : FR Y (rhoC scope.names X.res σ1.ρ) σ1.H m1 s4 := by
    refine ⟨⟨_, by rw [hY.locals, hs4h]; exact hns4, fun y k b v h1 h2 h3 => ?_⟩, fun y k b c h1 h2 h3 => ?_, fun y k b c _ e => ?_, fun i o' e q => ?_, fun b q => ?_⟩
    · obtain ⟨hm, _⟩ := hrho y k b v h1 h3
      rw [hY.env] at h2
      have := lookup_relabel_local (env := X.env) (names := scope.names) (x := y)
      exfalso
      have hl := hnd' _ _ hm
      have h2' : (relabel scope X.env).names.lookup y = some .local := h2
      exact relabel_free hl h2'
    · rcases hCells y c h3 with ⟨rfl, hcc⟩ | ⟨hXc, hm⟩
      · refine ⟨none, by rw [hcc, hs4h]; exact hcell4, fun v h4' => ?_⟩
        obtain ⟨hm, _⟩ := hrho _ k b v h1 h4'
        rw [hnd' _ _ hm] at hxcl; cases hxcl
      obtain ⟨j0, b0, hx0, _⟩ := hX _ hm rfl
      obtain ⟨ov, hc⟩ := hf4.clive y j0 b0 c hx0 hXc
      refine ⟨ov, hc, fun v h4' => ?_⟩
      obtain ⟨_, j, b', h5, h6⟩ := hrho y k b v h1 h4'
      obtain ⟨_, _, h7, h8⟩ := hX (y, .free) hm rfl
      obtain ⟨ov', hc', f⟩ := hf4.cells y j b' c h5 h8 hXc
      obtain ⟨o1, g1, g2⟩ := hc
      obtain ⟨o2, g3, g4⟩ := hc'
      rw [g1] at g3; cases g3; rw [g2] at g4; cases g4
      exact f v h6
    · rcases hCells y c e with ⟨_, hcc⟩ | ⟨h1, h2⟩
      · exact ⟨none, by rw [hcc, hs4h]; exact hcell4⟩
      · obtain ⟨j, b', hx1, _⟩ := hX _ h2 rfl
        exact hf4.clive y j b' c hx1 h1
    · rcases hYresv _ q with q | q | q
      · exact hdC.told i o' e q
      · exact hdC1.told i o' e q
      · exact hf4.apart i o' e q
    · rcases hY.own b q with q | q
      · rw [q]; exact hdC.old
      · rw [q]; exact hdC1.old
  have hEnv : ({ ({ scope, locals := C, globals := X.env.globals, cells := (xc, C + 1) :: clOf X.env.cells scope.names [], qual := X.env.qual, func := none, code := X.env.code, frame := X.env.frame, builtins := X.env.builtins } : Env) with scope := relabel scope X.env } : Env) = Y.env := by rw [hY.env]; rfl
  have hloc : Y.env.locals = C := hY.locals
  have core : codeAny (model G.prog G.w) A (.compLoop (.ListComp elt [⟨.Name x px, iter, ifs, 0⟩] scope pos) 0 (.ref I) (.ref D) Y.env) (compPost (model G.prog G.w) A NoE none (Post X σ m s K) (.ref D) C) s4 := by
    refine comp_core (Y := Y) (r := r) W (by rw [hY.res]; exact hx) hsz J (fun i acc H h1 h2 h3 => hstep Y hY.res (by rw [hY.env]; rfl) i acc H h1 h2 h3) (fun acc H hj => (hend acc H hj).1) hA hI (fresh D (by omega)) hDI hj0 (eg _) hr4 hfY (hidY hdI (by rw [hIs, hCs]; exact Nat.ne_of_lt (by omega)) (by rw [hIs, hCs]; exact Nat.ne_of_lt (by omega))) (hidY hdD (by rw [hDs, hCs]; exact Nat.ne_of_lt (by omega)) (by rw [hDs, hCs]; exact Nat.ne_of_lt (by omega))) (by rw [hs4h]; exact hS4) hfix (by rw [hs4h]; exact hDo) ?_
    intro acc H' m' s' ρ' vs kk hj he' hr' hf' hdD' hDo' hvs'
    obtain ⟨mp, hnsC, _⟩ := hf'.ns
    refine ⟨mp, by rw [← hloc]; exact hnsC, fun h'' hs'' => ?_⟩
    have hownY : ∀ b, Y.own b → s1.heap.get? b = none := fun b q => by
      rcases hY.own b q with q | q
      · rw [q]; exact fresh C (by omega)
      · rw [q]; exact fresh (C + 1) (by omega)
    have hfX : FR X σ1.ρ H' m' s' := hf1.ext' hownY he'
    have hCl : (s1.heap.get? C) = none := fresh C (by omega)
    have hidC : Hid X ⟨σ1.ρ, H'⟩ m' C := ⟨fun j o' e q => hf'.apart j o' e (.inl (by rw [hloc]; exact q)), hdC.resv, hdC.old⟩
    have kC : ∀ a o', a ≠ C → s'.heap.get? a = some o' → h''.get? a = some o' := fun a o' hne e => (hs''.2 a hne).trans e
    obtain ⟨L, hr2, hf2⟩ := hid_turn (s' := { s' with heap := h'' }) hidC hr' hfX kC (fun o' z q => by
      obtain ⟨o2, es, ep, g1, g2, _⟩ := hnsC
      rw [hloc, q] at g1; cases g1
      cases z <;> cases g2) rfl
    have he2 : Ext X.own σ1.H m1 s1 H' m' { s' with heap := h'' } := ext_hid (σ := ⟨σ1.ρ, H'⟩) (Ext.drop hownY he') hCl kC rfl rfl
    have hDo2 : h''.get? D = some (lstOf vs kk) := kC D _ (by rw [hDs, hCs]; exact Nat.ne_of_lt (by omega)) hDo'
    obtain ⟨q1, q2, q3, q4⟩ := adopt (x := .list acc) (s := { s' with heap := h'' }) hr2 hf2 hdD'.told hdD.resv hdD.old hDo2 ⟨vs, kk, rfl, RVs.later L _ _ hvs'⟩
    refine ⟨.ref m'.n, ⟨σ1.ρ, H'.upd m'.n (.list acc)⟩, m'.put D, (hend acc H' hj).2 _ q1, e1.trans (Ext.adopt hr2 he2 (.inl (fresh D (by omega)))), q2, q3, ?_⟩
    simp only [RV]
    exact ⟨Nat.lt_succ_self _, by rw [Mp.put_n]⟩
  show codeAny _ _ (.compStart _ 0 (.ref I) (.ref D) _) _ s4
  rw [hEnv]
  exact codeAny_compStart_list core (W.self 0 A s4 _ _ (by rw [hs4h]; exact hS4) core)
end Mine
end Pa34
section Pa35
set_option compiler.extract_closed false
open PySem PySem.W PySem.Calls PyProof.Rows
set_option maxRecDepth 100000
set_option linter.unusedVariables false
set_option linter.unusedSimpArgs false
namespace Mine
variable {G : Gx} {X : Cx G} {r : Nat} {σ : St}
structure ItrG (G : Gx) (A : Around) (n0 : Nat) (xs : List AV) (L : Addr) (g : Nat) (a : Addr) (S : Nat → (Addr → Prop) → Shared → Prop) (N : Nat) (item : Nat → AV) (ends : Bool) : Prop where
  keep : ∀ i P s s', S i P s → (∀ b o, P b → s.heap.get? b = some o → s'.heap.get? b = some o) → (∀ x, s.gens[g]? = some x → s'.gens[g]? = some x) → S i P s'
  notup : ∀ i P s b o, S i P s → P b → Frozen o → s.heap.get? b ≠ some o
  live : ∀ i P s b, S i P s → P b → (s.heap.get? b).isSome = true
  self : ∀ i P (A : Around) s (Q : Value → Shared → Prop) (E : Value → Shared → Prop), S i P s → Q (.ref a) s → wpAny (model G.prog G.w) A (pyIter (.ref a)) Q E s
  next : ∀ i P H m s (Q : Option Value → Shared → Prop), i < N → HR G H m s → H n0 = some (.list xs) → m.f n0 = L → ¬ P L → S i P s →
    (∀ v h' gs tk P', S (i + 1) P' { s with heap := h', gens := gs, toks := tk } → (∀ b, P' b → P b ∨ s.heap.get? b = none) → (∀ b o, ¬ P b → s.heap.get? b = some o → h'.get? b = some o) → (∀ k x, k ≠ g → s.gens[k]? = some x → gs[k]? = some x) → AllBare gs → RV G.fv s.heap m (item i) v → Q (some v) { s with heap := h', gens := gs, toks := tk }) → wpAny (model G.prog G.w) A (pyNext (.ref a)) Q NoE s
  last : ∀ P H m s (Q : Option Value → Shared → Prop), ends = true → HR G H m s → H n0 = some (.list xs) → m.f n0 = L → ¬ P L → S N P s →
    (∀ h' gs tk, (∀ b o, ¬ P b → s.heap.get? b = some o → h'.get? b = some o) → (∀ k x, k ≠ g → s.gens[k]? = some x → gs[k]? = some x) → AllBare gs → Q none { s with heap := h', gens := gs, toks := tk }) → wpAny (model G.prog G.w) A (pyNext (.ref a)) Q NoE s
theorem gen_turn {P : Addr → Prop} {m : Mp} {s s' : Shared} (hd : ∀ b, P b → Hid X σ m b) (hr : HR G σ.H m s) (hf : FR X σ.ρ σ.H m s) (hk : ∀ b o, ¬ P b → s.heap.get? b = some o → s'.heap.get? b = some o)
    (hnt : ∀ b o, P b → Frozen o → s.heap.get? b ≠ some o) (hg : AllBare s'.gens) : Later s.heap m s'.heap m ∧ HR G σ.H m s' ∧ FR X σ.ρ σ.H m s' := by
  have L : Later s.heap m s'.heap m := ⟨Nat.le_refl _, fun _ _ => rfl, fun b o z e => hk b _ (fun q => hnt b o q z e) e⟩
  refine ⟨L, ⟨hr.dom, hr.inj, fun i x e => ?_, fun b o e => hk b o (fun q => ?_) (hr.base b o e), hr.above, hg, hr.zero⟩, ⟨?_, fun x k b c h1 h2 h3 => ?_, fun x k b c hx e => ?_, hf.apart, hf.old⟩⟩
  · obtain ⟨o, h1, h2⟩ := hr.obj i x e
    exact ⟨o, hk _ _ (fun q => (hd _ q).told i x e rfl) h1, h2.later L⟩
  · have := (hd b q).old
    rw [e] at this; cases this
  · obtain ⟨mp, ⟨o, es, ep, ho, hh⟩, f⟩ := hf.ns
    exact ⟨mp, ⟨o, es, ep, hk _ _ (fun q => (hd _ q).resv (.inl rfl)) ho, hh⟩, fun x k b v h1 h2 h3 => let ⟨cv, e1, r1⟩ := f x k b v h1 h2 h3; ⟨cv, e1, RV.later L _ _ r1⟩⟩
  · obtain ⟨ov, ⟨o, ho, hh⟩, f⟩ := hf.cells x k b c h1 h2 h3
    exact ⟨ov, ⟨o, hk _ _ (fun q => (hd _ q).resv (.inr ⟨x, k, b, h1, h3⟩)) ho, hh⟩, fun v h4 => let ⟨cv, e1, r1⟩ := f v h4; ⟨cv, e1, RV.later L _ _ r1⟩⟩
  · obtain ⟨ov, o, ho, hh⟩ := hf.clive x k b c hx e
    exact ⟨ov, o, hk _ _ (fun q => (hd _ q).resv (.inr ⟨x, k, b, hx, e⟩)) ho, hh⟩
theorem ext_gen {own : Addr → Prop} {H0 : AH} {m0 m : Mp} {s0 s s' : Shared} {P : Addr → Prop} {g : Nat} (e : Ext own H0 m0 s0 σ.H m s) (h0 : ∀ b, P b → s0.heap.get? b = none) (hg0 : s0.gens[g]? = none) (hk : ∀ b o, ¬ P b → s.heap.get? b = some o → s'.heap.get? b = some o) (hos : s'.os = s.os) (hgs : ∀ k x, k ≠ g → s.gens[k]? = some x → s'.gens[k]? = some x) : Ext own H0 m0 s0 σ.H m s' := by
  have ne : ∀ a o, s0.heap.get? a = some o → ¬ P a := fun a o q q' => by rw [h0 a q'] at q; cases q
  refine ⟨e.n, e.f, e.fresh, fun a o h1 h2 h3 => hk a o (ne a o h1) (e.kept a o h1 h2 h3), fun a o z q => hk a _ (ne a _ q) (e.tup a o z q), hos.trans e.os, fun k z q => hgs k z (fun q' => by rw [q', hg0] at q; cases q) (e.gens k z q), fun a q => ?_⟩
  have := e.live a q
  cases q1 : s0.heap.get? a with
  | none => rw [q1] at q; cases q
  | some o =>
    cases q2 : s.heap.get? a with
    | none => rw [q2] at this; cases this
    | some o2 => rw [hk a o2 (ne a o q1) q2]; rfl
section
variable {KF : AF → St → Prop} {x : Str} {k : Nat} {pos pos' : Pos} {body : List Stmt} {e : PySem.Expr}
inductive ForGI (X : Cx G) (S : Nat → (Addr → Prop) → Shared → Prop) (N : Nat) (J : Nat → St → Prop) (σ0 : St) (m0 : Mp) (s0 : Shared) (n0 : Nat) (L : Addr) (n : Nat) (s1 : Shared) : Prop
  | mk (i : Nat) (σ1 : St) (m1 : Mp) (hi : i ≤ N) (hn : n = N - i) (hj : J i σ1) (he : Ext X.own σ0.H m0 s0 σ1.H m1 s1) (hr : HR G σ1.H m1 s1) (hf : FR X σ1.ρ σ1.H m1 s1) (hP : ∃ P : Addr → Prop, (∀ b, P b → Hid X σ1 m1 b) ∧ (∀ b, P b → s0.heap.get? b = none) ∧ S i P s1) (h1 : m1.f n0 = L) (h2 : n0 < m1.n) : ForGI X S N J σ0 m0 s0 n0 L n s1
theorem forG_core {n0 : Nat} {xs : List AV} {L : Addr} {P : Addr → Prop} {g : Nat} {a : Addr} {S : Nat → (Addr → Prop) → Shared → Prop} {N : Nat} {item : Nat → AV} {ends : Bool} {A : Around} (W : ItrG G A n0 xs L g a S N item ends) (hx : X.res x = some (.loc k true)) (J : Nat → St → Prop)
    (hJ : ∀ i σ, i < N → J i σ → σ.H n0 = some (.list xs) ∧ ES X r (execs body X.env) ⟨σ.ρ.set k (some (item i)), σ.H⟩ (LoopK KF (J (i + 1))))
    (hN : ∀ σ, J N σ → σ.H n0 = some (.list xs) ∧ ends = true ∧ KF .next σ) (hA : OkA r A) {σ0 : St} {m0 m : Mp} {s0 s : Shared} (h0 : ∀ b, P b → s0.heap.get? b = none) (hg0 : s0.gens[g]? = none) (hj : J 0 σ)
    (he : Ext X.own σ0.H m0 s0 σ.H m s) (hr : HR G σ.H m s) (hf : FR X σ.ρ σ.H m s) (hd : ∀ b, P b → Hid X σ m b) (hS : S 0 P s) (hfix : m.f n0 = L) (hn0 : n0 < m.n) {E : Value → Shared → Prop} :
    codeAny (model G.prog G.w) A (.forLoop (.Name x pos') (.ref a) body [] X.env) (fun q s' => match q with | .ok f => PostG (RFl G.fv) X σ0 m0 s0 KF f s' | .error e => E e s') s := by
  refine codeAny_forLoop_any (ForGI X S N J σ0 m0 s0 n0 L) ?_ N ⟨0, σ, m, Nat.zero_le _, rfl, hj, he, hr, hf, ⟨P, hd, h0, hS⟩, hfix, hn0⟩
  rintro n s1 ⟨i, σ1, m1, hi, rfl, hj1, he1, hr1, hf1, ⟨P, hd1, h0, hS1⟩, hfix1, hn1⟩
  by_cases hlt : i < N
  · obtain ⟨hinv, hb⟩ := hJ i σ1 hlt hj1
    have hPL : ¬ P L := fun q => by
      have := (hd1 L q).told n0 _ hinv
      exact this hfix1
    refine noE_any (W.next i P σ1.H m1 s1 _ hlt hr1 hinv hfix1 hPL hS1 fun v h' gs tk P' hS' hP' hk hgk hbare hv => ?_)
    obtain ⟨L2, hr2, hf2⟩ := gen_turn (s' := { s1 with heap := h', gens := gs, toks := tk }) hd1 hr1 hf1 hk (fun b o q z => W.notup i P _ b o hS1 q z) hbare
    have he2 : Ext X.own σ0.H m0 s0 σ1.H m1 { s1 with heap := h', gens := gs, toks := tk } := ext_gen he1 h0 hg0 hk rfl hgk
    show wpAny _ _ (letOwnedTupleGo _ _ _) _ _ _
    rw [letGo_name]
    refine wpAny_pure (wpAny_assign_Name (noE_any (wpAny_mono (store_any (σ := σ1) hr2 hf2 hx (RV.later L2 _ _ hv)) (fun _ s3 q0 => ?_) fun _ _ x => x)))
    obtain ⟨e3, hr3, hf3⟩ := q0
    have hdP : ∀ b, P' b → Hid X σ1 m1 b := fun b q => (hP' b q).elim (hd1 b) fun q2 => hid_new hr1 hf1 q2
    have h0' : ∀ b, P' b → s0.heap.get? b = none := fun b q => (hP' b q).elim (h0 b) fun q2 => by
      cases q3 : s0.heap.get? b with
      | none => rfl
      | some o => have := he1.live b (by rw [q3]; rfl); rw [q2] at this; cases this
    have hd3 : ∀ b, P' b → Hid X σ1 m1 b := fun b q => (hdP b q).ext (s := { s1 with heap := h', gens := gs, toks := tk }) (W.live (i+1) P' _ b hS' q) (σ' := σ1) e3
    have hS3 : S (i+1) P' s3 := W.keep (i+1) P' _ _ hS' (fun b o q ho => hid_kept (σ' := σ1) (m := m1) (s := { s1 with heap := h', gens := gs, toks := tk }) (hdP b q) e3 o ho) (e3.gens g)
    refine noE_any (wpAny_mono (hb A m1 s3 hA hr3 hf3) (fun f s4 q0 => ?_) fun _ _ x => x)
    obtain ⟨af, σ4, m4, k4, e4, hr4, hf4, hfl⟩ := q0
    have e34 := he2.trans e3
    have e04 := e34.trans e4
    have hdσ : ∀ b, P' b → Hid X ⟨σ1.ρ.set k (some (item i)), σ1.H⟩ m1 b := fun b q => ⟨(hd3 b q).told, (hd3 b q).resv, (hd3 b q).old⟩
    have fin : J (i+1) σ4 → ∃ n', n' < N - i ∧ ForGI X S N J σ0 m0 s0 n0 L n' s4 := fun hj4 =>
      ⟨N - (i+1), by omega, i+1, σ4, m4, hlt, rfl, hj4, e04, hr4, hf4, ⟨P', fun b q => (hdσ b q).ext (W.live _ P' _ b hS3 q) e4, h0', W.keep _ P' _ _ hS3 (fun b o q ho => hid_kept (hdσ b q) e4 o ho) (e4.gens g)⟩, (e4.f n0 hn1).trans hfix1, Nat.lt_of_lt_of_le hn1 e4.n⟩
    cases af with
    | next => simp only [RFl] at hfl; subst hfl; exact fin k4
    | cont => simp only [RFl] at hfl; subst hfl; exact fin k4
    | brk => simp only [RFl] at hfl; subst hfl; exact ⟨.next, σ4, m4, k4, e04, hr4, hf4, rfl⟩
    | ret v => have hfl' := hfl; simp only [RFl] at hfl'; obtain ⟨cv, rfl, _⟩ := hfl'; exact ⟨.ret v, σ4, m4, k4, e04, hr4, hf4, hfl⟩
  · have : i = N := by omega
    subst this
    obtain ⟨hinv, hends, hK⟩ := hN σ1 hj1
    have hPL : ¬ P L := fun q => by
      have := (hd1 L q).told n0 _ hinv
      exact this hfix1
    refine noE_any (W.last P σ1.H m1 s1 _ hends hr1 hinv hfix1 hPL hS1 fun h' gs tk hk hgk hbare => ?_)
    obtain ⟨L2, hr2, hf2⟩ := gen_turn (s' := { s1 with heap := h', gens := gs, toks := tk }) hd1 hr1 hf1 hk (fun b o q z => W.notup i P _ b o hS1 q z) hbare
    exact wpAny_execs_nil ⟨.next, σ1, m1, hK, ext_gen he1 h0 hg0 hk rfl hgk, hr2, hf2, rfl⟩
structure GenAtS (X : Cx G) (A : Around) (σ : St) (m : Mp) (s : Shared) (σ1 : St) (m1 : Mp) (s1 : Shared) (a : Addr) (n0 : Nat) (xs : List AV) (N : Nat) (item : Nat → AV) (ends : Bool) (P : Addr → Prop) (g : Nat) (S : Nat → (Addr → Prop) → Shared → Prop) : Prop where
  W : ItrG G A n0 xs (m1.f n0) g a S N item ends
  fresh : ∀ b, P b → s.heap.get? b = none
  gfresh : s.gens[g]? = none
  ext : Ext X.own σ.H m s σ1.H m1 s1
  hr : HR G σ1.H m1 s1
  hf : FR X σ1.ρ σ1.H m1 s1
  hid : ∀ b, P b → Hid X σ1 m1 b
  start : S 0 P s1
  told : σ1.H n0 = some (.list xs)
inductive GenR (X : Cx G) (A : Around) (σ : St) (m : Mp) (s : Shared) (KI : Nat → List AV → Nat → (Nat → AV) → Bool → St → Prop) (cv : Value) (s1 : Shared) : Prop
  | mk (σ1 : St) (m1 : Mp) (a : Addr) (n0 : Nat) (xs : List AV) (N : Nat) (item : Nat → AV) (ends : Bool) (P : Addr → Prop) (g : Nat) (S : Nat → (Addr → Prop) → Shared → Prop) (ea : cv = .ref a) (Y : GenAtS X A σ m s σ1 m1 s1 a n0 xs N item ends P g S) (hk : KI n0 xs N item ends σ1) : GenR X A σ m s KI cv s1
inductive ForGQ (X : Cx G) (r k : Nat) (body : List Stmt) (KF : AF → St → Prop) (n0 : Nat) (xs : List AV) (N : Nat) (item : Nat → AV) (ends : Bool) (σ1 : St) : Prop
  | mk (J : Nat → St → Prop) (hj : J 0 σ1) (h1 : ∀ i σ, i < N → J i σ → σ.H n0 = some (.list xs) ∧ ES X r (execs body X.env) ⟨σ.ρ.set k (some (item i)), σ.H⟩ (LoopK KF (J (i + 1)))) (h2 : ∀ σ, J N σ → σ.H n0 = some (.list xs) ∧ ends = true ∧ KF .next σ) : ForGQ X r k body KF n0 xs N item ends σ1
theorem es_forG (hx : X.res x = some (.loc k true)) (KI : Nat → List AV → Nat → (Nat → AV) → Bool → St → Prop)
    (h : ∀ A m s, OkA r A → HR G σ.H m s → FR X σ.ρ σ.H m s → wpAny (model G.prog G.w) A (eval e X.env) (GenR X A σ m s KI) NoE s)
    (hK : ∀ n0 xs N item ends σ1, KI n0 xs N item ends σ1 → ForGQ X r k body KF n0 xs N item ends σ1)
    (hs : ∀ v, foldedSetIterable e X.env v = pure v := by intro _; rfl) : ES X r (exec (.For (.Name x pos') e body [] pos) X.env) σ KF := fun A m s hA hr hf => by
  refine wpAny_For (wpAny_mono (h A m s hA hr hf) (fun ca s1 q0 => ?_) fun _ _ x => x) hs
  obtain ⟨σ1, m1, a, n0, xs, N, item, ends, P, g, S, ea, Y, hKI⟩ := q0
  subst ea
  obtain ⟨J, hj, h1, h2⟩ := hK _ _ _ _ _ _ hKI
  refine noE_any (Y.W.self 0 P A s1 _ _ Y.start ?_)
  exact codeAny_mono (forG_core (E := fun e s' => cameBackBy (model G.prog G.w) A X.env NoE e s') (pos' := pos') Y.W hx J h1 h2 hA (σ0 := σ) (m0 := m) (s0 := s) Y.fresh Y.gfresh hj Y.ext Y.hr Y.hf Y.hid Y.start rfl (Y.hr.dom _ _ Y.told)) fun q s' hq => by
    cases q with
    | ok f => exact hq
    | error e => exact hq
end
end Mine
namespace Mine
section
variable {G : Gx} {X : Cx G} {r : Nat} {σ : St} {K : AV → St → Prop} {name : Str} {k : Nat} {p pos : Pos} {es : List PySem.Expr}
theorem ev_callB {id : String} (hx : X.res name = some (.glob k)) (hv : G.fv k = .builtin id) (h : EA X r es σ fun as σ2 => CV X r (.builtin id) as σ2 K)
    (he : eval (.Call (.Name name p) es [] pos) X.env = (do callWith pos (← eval (.Name name p) X.env) [] (es.map fun e => (false, eval e X.env)) []) := by rfl) : EV X r (eval (.Call (.Name name p) es [] pos) X.env) σ K :=
  EV.call (EV.glob hx ⟨k, rfl, by rw [hv]; exact Keep.builtin _, by rw [hv]; exact h⟩) he
theorem ev_callT {id : String} (hx : X.res name = some (.glob k)) (hv : G.fv k = .type id) (h : EA X r es σ fun as σ2 => CV X r (.type id) as σ2 K)
    (he : eval (.Call (.Name name p) es [] pos) X.env = (do callWith pos (← eval (.Name name p) X.env) [] (es.map fun e => (false, eval e X.env)) []) := by rfl) : EV X r (eval (.Call (.Name name p) es [] pos) X.env) σ K :=
  EV.call (EV.glob hx ⟨k, rfl, by rw [hv]; exact Keep.type _, by rw [hv]; exact h⟩) he
theorem ev_callD (hx : X.res name = some (.glob k)) (hk : Keep G (G.fv k)) (h : EA X r es σ fun as σ2 => CV X r (G.fv k) as σ2 K)
    (he : eval (.Call (.Name name p) es [] pos) X.env = (do callWith pos (← eval (.Name name p) X.env) [] (es.map fun e => (false, eval e X.env)) []) := by rfl) : EV X r (eval (.Call (.Name name p) es [] pos) X.env) σ K :=
  EV.call (EV.glob hx ⟨k, rfl, hk, h⟩) he
end
end Mine
namespace Mine
theorem TS.nil {G : Gx} {X : Cx G} {r : Nat} {σ : St} {K : AF → AH → Prop} (h : K .next σ.H) : TS X r (execs [] X.env) σ K := ES.tail (ES.nil h)
end Mine
namespace Mine
theorem P2.iadd {G : Gx} {X : Cx G} {r : Nat} {σ : St} {K : AV → St → Prop} {i j : Int} (h : K (.int (i + j)) σ) : P2 X r (inplaceOp .Add) (.int i) (.int j) σ K := fun A m s ca cb hA hr hf ha hb => by
  obtain ⟨t, rfl⟩ := inv_int ha; obtain ⟨u, rfl⟩ := inv_int hb
  exact PyProof.Rows.iadd_int (post_pure hr hf h (rv_int _))
theorem nl_eq : Str.ofString "\n" = ⟨#[10]⟩ := by decide +kernel
end Mine
namespace Mine
section
variable {KF : AF → St → Prop} {J : St → Prop} {σ : St} {v : AV}
theorem LoopK_next (h : J σ) : LoopK KF J .next σ := h
theorem LoopK_cont (h : J σ) : LoopK KF J .cont σ := h
theorem LoopK_brk (h : KF .next σ) : LoopK KF J .brk σ := h
theorem LoopK_ret (h : KF (.ret v) σ) : LoopK KF J (.ret v) σ := h
end
end Mine
end Pa35
section Pa36
set_option compiler.extract_closed false
open PySem PySem.W PySem.Calls PyProof.Rows
set_option maxRecDepth 100000
set_option linter.unusedVariables false
namespace Mine
section
variable {G : Gx} {X : Cx G} {r : Nat} {σ : St} {K : AV → St → Prop} {e : PySem.Expr} {x y z : Str} {pos pos2 apos p1 p2 p3 : Pos} {k1 k2 k3 : Nat}
noncomputable def EV1 (X : Cx G) (r : Nat) (t : Sem Value) (σ : St) (K : AV → St → Prop) : Prop := ∀ A m s, 1 ≤ s.toks → OkA r A → HR G σ.H m s → FR X σ.ρ σ.H m s → wpAny (model G.prog G.w) A t (Post X σ m s K) NoE s
theorem ev_add1 {op : Operator} (h : EV1 X r (eval e X.env) σ fun b σ2 => P2 X r (binaryOp op) (.str x) b σ2 K) : EV X r (eval (.BinOp (.Constant (.str x) k1 p1) op e pos) X.env) σ K := fun A m s hA hr hf => by
  refine wpAny_BinOp (Constant_str ?_)
  have et : Ext X.own σ.H m s σ.H m { s with toks := s.toks + 1 } := .grow hr (fun _ _ e => e) rfl rfl
  refine wpAny_mono (h A m _ (Nat.le_add_left _ _) hA (hr.toks _) (hf.toks _)) (fun cb s2 q0 => ?_) fun _ _ x => x
  obtain ⟨b, σ2, m2, k2, e2, hr2, hf2, hb⟩ := q0
  exact wpAny_mono (k2 A m2 s2 _ cb hA hr2 hf2 (rv_str _) hb) (fun c s3 p => (p.trans e2).trans et) fun _ _ x => x
theorem ev_rep1 (h : EV X r (eval e X.env) σ fun a σ1 => ∃ t, a = .str t ∧ (y == z) = false ∧ t.length + (t.length + 1) * z.length ≤ 16777216 ∧ K (.str (Txt.replace t y z)) σ1)
    (hbase : attributeBase e "replace" X.env (eval e X.env) = eval e X.env := by rfl)
    (hline : (apos.endLine == pos.line) = true := by rfl) :
    EV1 X r (eval (.Call (.Attribute e "replace" apos) [.Constant (.str y) k2 p2, .Constant (.str z) k3 p3] [] pos) X.env) σ K := fun A m s ht hA hr hf => by
  refine wpAny_Call_method_late hbase (by rfl) hline (by rfl) (wpAny_mono (wpAny_toks_of ht (h A m s hA hr hf)) (fun cv s1 q0 => ?_) fun _ _ x => x.2)
  obtain ⟨ht1, ⟨ov, σ1, m1, ⟨t, eo, hyz, hb, hK⟩, e1, hr1, hf1, hv⟩⟩ := q0
  subst eo
  obtain ⟨tk, rfl⟩ := inv_str hv
  obtain ⟨t1, t2⟩ := (Is.str t : Is σ1 _ _).typeIs hr1 hv
  refine ⟨"str", "str.replace", PySem.F.plainAttrs_str, PySem.F.slot_str_replace, PySem.F.type_str_replace, t1, t2, ?_⟩
  show wpAny (model G.prog G.w) A (callWith pos (.builtin "str.replace") [.str t tk] ([PySem.Expr.Constant (.str y) k2 p2, PySem.Expr.Constant (.str z) k3 p3].map fun e => (false, eval e X.env)) []) _ _ _
  refine callWith_of (P := fun hh => ∀ b o, G.h₀.get? b = some o → hh.get? b = some o) rfl (fun hh P => let ⟨k, hk, L⟩ := Keep.builtin (G := G) "str.replace"; ⟨k, hk, L.keeps P⟩) ?_
  refine evalArgs_plain (spliced_cons (Constant_str (k := k2) (pos := p2) (spliced_cons (Constant_str (k := k3) (pos := p3) (spliced_nil ⟨hr1.base, ?_⟩)))))
  refine wpAny_mono (SC.replace (Q := Post X σ1 m1 s1 K) (E := NoE) (by show s1.toks ≠ 0; omega) (by show s1.toks + 1 ≠ 0; omega) (by show s1.toks ≠ s1.toks + 1; omega) hyz hb fun t' k => ?_) (fun _ _ p => Post.trans e1 p) fun _ _ x => x
  exact post_pure hr1 hf1 hK (rv_str _)
end
end Mine
end Pa36
section Pa37
set_option compiler.extract_closed false
open PySem PySem.W PySem.Calls PyProof.Rows
set_option maxRecDepth 100000
set_option linter.unusedVariables false
set_option linter.unusedSimpArgs false
namespace Mine
section
variable {M : Model} {A : Around} {R : GenEnd} {Y : Protocol} {n : Nat} {s₀ s : Shared} {c : Code} {fs : List Frame} {env : Env}
noncomputable abbrev SegW (M : Model) (A : Around) (R : GenEnd) (Y : Protocol) (n : Nat) (s₀ : Shared) (c : Code) (fs : List Frame) (K : Flow → Sem Fin) (H : Value → Sem Fin) (gd : Bool → Bool) (lv : List Value → List Value) (t : Sem Flow) (s : Shared) : Prop := Seg M A R Y n s₀ c (t.wrap K H gd lv) fs s
variable {K : Flow → Sem Fin} {H : Value → Sem Fin} {gd : Bool → Bool} {lv : List Value → List Value}
theorem segw_nil (h : Seg M A R Y n s₀ c (K .next) fs s) : SegW M A R Y n s₀ c fs K H gd lv (execs [] env) s := h
theorem segw_cons {st : Stmt} {rest : List Stmt} (h : wpAny M (A.over c fs) (exec st env) (fun f s' => match f with
      | .next => SegW M A R Y n s₀ c fs K H gd lv (execs rest env) s'
      | f => Seg M A R Y n s₀ c (K f) fs s') NoE s) : SegW M A R Y n s₀ c fs K H gd lv (execs (st :: rest) env) s := by
  show Seg M A R Y n s₀ c ((execs (st :: rest) env).wrap K H gd lv) fs s
  rw [execs_cons]
  refine seg_bind_wrap (noE_any (wpAny_mono h (fun f s' hq => ?_) fun _ _ x => x))
  cases f <;> exact hq
theorem segw_cons' {st : Stmt} {rest : List Stmt} {K' : Flow → Sem Fin} (hK : K' = fun f => (match f with
      | .next => execs rest env
      | f => (pure f : Sem Flow)).wrap K H gd lv) (h : SegW M A R Y n s₀ c fs K' H gd lv (exec st env) s) : SegW M A R Y n s₀ c fs K H gd lv (execs (st :: rest) env) s := by
  show Seg M A R Y n s₀ c ((execs (st :: rest) env).wrap K H gd lv) fs s
  rw [execs_cons, Sem.bind_eq_wrap', Sem.wrap_wrap]
  subst hK
  exact h
theorem segw_if {test : PySem.Expr} {body orelse : List Stmt} {pos : Pos} (h : wpAny M (A.over c fs) (isTrue test env (eval test env)) (fun b s' => SegW M A R Y n s₀ c fs K H gd lv (if b then execs body env else execs orelse env) s') NoE s) :
    SegW M A R Y n s₀ c fs K H gd lv (exec (.If test body orelse pos) env) s := by
  show Seg M A R Y n s₀ c ((exec (.If test body orelse pos) env).wrap K H gd lv) fs s
  rw [exec_If]
  refine seg_bind_wrap (wpAny_standAt (seg_bind_wrap (noE_any (wpAny_mono h (fun b s' hq => ?_) fun _ _ x => x))))
  cases b <;> exact hq
theorem segw_yield {e : PySem.Expr} {ypos pos : Pos} (hi : interactive env = false) (hs : swapsWith (.Yield (some e) ypos) none pos.line env = pure false) (hco : env.scope.isCoroutine = false) (hfs : splitAtGen fs = none) (hg : gd false = false) (hfg : fs.any Frame.guarded = false)
    (h : wpAny M (A.over c fs) (eval e env) (fun v s' => Y n s₀ v s' fun r s'' => ∀ x, r = .send x → (∀ a, x ≠ .ref a) → Seg M A R Y n s'' c (K .next) fs s'') NoE s)
    (hY : ∀ v s' (k k' : Resume → Shared → Prop), (∀ s'', k (.send .none) s'' → k' (.send .none) s'') → Y n s₀ v s' k → Y n s₀ v s' k') : SegW M A R Y (n + 1) s₀ c fs K H gd lv (exec (.Expr (.Yield (some e) ypos) pos) env) s := by
  show Seg M A R Y (n + 1) s₀ c ((exec (.Expr (.Yield (some e) ypos) pos) env).wrap K H gd lv) fs s
  rw [exec_Expr env _ pos hi hs]
  refine seg_bind_wrap (wpAny_standAt ?_)
  have e1 : eval (.Yield (some e) ypos) env = (do
      let v ← eval e env
      standAt ypos
      yieldOut env v) := rfl
  rw [Sem.bind_eq_wrap', Sem.wrap_wrap, e1]
  refine seg_bind_wrap (noE_any (wpAny_mono h (fun v s' hq => ?_) fun _ _ x => x))
  refine seg_bind_wrap (wpAny_standAt ?_)
  have e2 : yieldOut env v = yieldValue v := by simp only [yieldOut, hco, Bool.false_eq_true, if_false]
  rw [e2]
  refine seg_yield hfs hg hfg (hY _ _ _ _ (fun s'' hk => ?_) hq)
  have h0 := hk .none rfl (by simp)
  show Seg M A R Y n s'' c ((dropValue (.Yield (some e) ypos) pos .none).wrap K H gd lv) fs s''
  rw [dropValue_plain (by simp)]
  exact h0
theorem segw_runOwn {c' : Code} (h : ∀ p kf, (∀ f, kf (.ok f) = K f) → Seg M A R Y n s₀ c' (M.den c') (.ret kf none (gd false) (lv []) c p [] :: fs) s) : SegW M A R Y n s₀ c fs K H gd lv (runOwn c' env) s :=
  seg_call fun p => h p _ fun _ => rfl
theorem segw_for {target iter : PySem.Expr} {body orelse : List Stmt} {pos : Pos} (hs : ∀ x, foldedSetIterable iter env x = pure x) (h : wpAny M (A.over c fs) (eval iter env) (fun x s1 => wpAny M (A.over c fs) (pyIter x) (fun it s2 => ∀ p kf, (∀ f, kf (.ok f) = K f) → Seg M A R Y n s₀ (.forLoop target it body orelse env) (M.den (.forLoop target it body orelse env)) (.ret kf none (gd false) (lv []) c p [] :: fs) s2) NoE s1) NoE s) :
    SegW M A R Y n s₀ c fs K H gd lv (exec (.For target iter body orelse pos) env) s := by
  show Seg M A R Y n s₀ c ((exec (.For target iter body orelse pos) env).wrap K H gd lv) fs s
  rw [exec_For]
  refine seg_bind_wrap (wpAny_standAt (seg_bind_wrap (noE_any (wpAny_mono h (fun x s1 h1 => ?_) fun _ _ x => x))))
  rw [hs]
  refine seg_bind_wrap (wpAny_pure (seg_bind_wrap (wpAny_standAt (seg_bind_wrap (wpAny_holding (noE_any (wpAny_mono h1 (fun it s2 h2 => ?_) fun _ _ x => x)))))))
  exact segw_runOwn h2
theorem segw_while {test : PySem.Expr} {body orelse : List Stmt} {pos : Pos} (h : ∀ p kf, (∀ f, kf (.ok f) = K f) → Seg M A R Y n s₀ (.whileLoop test body orelse env) (M.den (.whileLoop test body orelse env)) (.ret kf none (gd false) (lv []) c p [] :: fs) s) :
    SegW M A R Y n s₀ c fs K H gd lv (exec (.While test body orelse pos) env) s := by
  show Seg M A R Y n s₀ c ((exec (.While test body orelse pos) env).wrap K H gd lv) fs s
  rw [show exec (.While test body orelse pos) env = (do standAt pos; runOwn (.whileLoop test body orelse env) env) from rfl]
  exact seg_bind_wrap (wpAny_standAt (segw_runOwn h))
end
section
variable {prog : Program} {w : World} {A : Around} {R : GenEnd} {Y : Protocol} {n : Nat} {s₀ s : Shared} {c : Code} {fs : List Frame} {env : Env} {p : Pos}
noncomputable def loopEnd (again : Sem Fin) (Hx : Value → Sem Fin) : Flow → Sem Fin := fun f => (match f with
  | .next | .cont => again
  | .brk => pure (.done .next)
  | .ret v => pure (.done (.ret v))).wrap .pure Hx id id
theorem seg_for_turn {x : Str} {px : Pos} {it : Value} {body : List Stmt} {kf : Result → Sem Fin} {g : Bool} {l : List Value}
    (h : wpAny (model prog w) (A.over (.forLoop (.Name x px) it body [] env) (.ret kf none g l c p [] :: fs)) (pyNext it) (fun r s1 => match r with
      | none => Seg (model prog w) A R Y n s₀ c (kf (.ok .next)) fs s1
      | some v => wpAny (model prog w) (A.over (.forLoop (.Name x px) it body [] env) (.ret kf none g l c p [] :: fs)) (storeName env x v) (fun _ s2 => ∀ Hx, SegW (model prog w) A R Y n s₀ (.forLoop (.Name x px) it body [] env) (.ret kf none g l c p [] :: fs) (loopEnd (again (.forLoop (.Name x px) it body [] env)) Hx) Hx id id (execs body env) s2) NoE s1) NoE s) :
    Seg (model prog w) A R Y n s₀ (.forLoop (.Name x px) it body [] env) ((model prog w).den (.forLoop (.Name x px) it body [] env)) (.ret kf none g l c p [] :: fs) s := by
  show Seg (model prog w) A R Y n s₀ _ ((forTurn (.Name x px) it body [] env).onRaise _) _ s
  rw [Sem.onRaise_eq_wrap]
  unfold forTurn
  refine seg_bind_wrap (wpAny_standAt (seg_bind_wrap (wpAny_onRaise (noE_any (wpAny_mono h (fun r s1 h1 => ?_) fun _ _ x => x)))))
  cases r with
  | none =>
    refine seg_again rfl ?_
    exact seg_leaf (.ok .next) h1
  | some v =>
    refine seg_bind_wrap (wpAny_of_eq (rfl : letOwnedTupleGo (.Name x px) it v = pure ()) ?_)
    refine seg_bind_wrap (wpAny_assign_Name (noE_any (wpAny_mono h1 (fun _ s2 h2 => ?_) fun _ _ x => x)))
    rw [Sem.bind_eq_wrap', Sem.wrap_wrap]
    exact h2 _
theorem seg_while_turn {test : PySem.Expr} {body : List Stmt} {kf : Result → Sem Fin} {g : Bool} {l : List Value}
    (h : wpAny (model prog w) (A.over (.whileLoop test body [] env) (.ret kf none g l c p [] :: fs)) (isTrue test env (eval test env)) (fun b s1 => b = true ∧ ∀ Hx, SegW (model prog w) A R Y n s₀ (.whileLoop test body [] env) (.ret kf none g l c p [] :: fs) (loopEnd (again (.whileLoop test body [] env)) Hx) Hx id id (execs body env) s1) NoE s) :
    Seg (model prog w) A R Y n s₀ (.whileLoop test body [] env) ((model prog w).den (.whileLoop test body [] env)) (.ret kf none g l c p [] :: fs) s := by
  show Seg (model prog w) A R Y n s₀ _ ((whileTurn test body [] env).onRaise _) _ s
  rw [Sem.onRaise_eq_wrap]
  unfold whileTurn
  refine seg_bind_wrap (noE_any (wpAny_mono h (fun b s1 h1 => ?_) fun _ _ x => x))
  obtain ⟨rfl, h1⟩ := h1
  simp only [if_true]
  rw [Sem.bind_eq_wrap', Sem.wrap_wrap]
  exact h1 _
end
end Mine
end Pa37
section Pa38
set_option compiler.extract_closed false
open PySem PySem.W PySem.Calls PyProof.Rows
set_option maxRecDepth 100000
set_option linter.unusedVariables false
namespace Mine
noncomputable abbrev pw : Program := PySem.Challenge.pw_wo0068_02
noncomputable def topFn (i : Nat) : Stmt := pw.main.body.getD i (.Pass default)
noncomputable def inFn (i j : Nat) : Stmt := match topFn i with
  | .ClassDef _ _ _ b _ _ _ _ _ _ _ => b.getD j (.Pass default)
  | _ => .Pass default
noncomputable def gtab : List (Str × Nat) := [("_strcoll", 0), ("CHAR_MAX", 1), ("_grouping_intervals", 2), ("parse229", 3), ("parse257", 4), ("_netrclex", 5), ("b1_set", 6), ("in_table_b1", 7), ("b3_exceptions", 8), ("map_table_b3", 9), ("_law_lexer", 15), ("_law_heaps", 10), ("_law_step", 11), ("_law_tape", 12), ("_law_word", 13), ("_law_page", 14), ("_law_seen", 16), ("_law_rule", 17), ("_law_line", 18), ("len", 40), ("ord", 41), ("chr", 42), ("min", 43), ("iter", 45), ("range", 50), ("list", 51), ("str", 52), ("int", 53)]
noncomputable def bodyOf : Stmt → List Stmt
  | .FunctionDef _ _ b _ _ _ _ _ _ _ => b
  | _ => []
noncomputable def scopeOf : Stmt → Scope
  | .FunctionDef _ _ _ _ _ _ sc _ _ _ => sc
  | _ => default
noncomputable def parsOf : Stmt → List Str
  | .FunctionDef _ a _ _ _ _ _ _ _ _ => a.args.map (·.arg)
  | _ => []
noncomputable abbrev namesOf (st : Stmt) : List (Str × NameKind) := (scopeOf st).names
noncomputable def scopeOk (st : Stmt) : Bool := !(scopeOf st).isCoroutine && !(scopeOf st).isGenerator && (scopeOf st).kind == .function && plainNames (namesOf st) && (namesOf st).all (fun x => x.2 != .free) && decide (parsOf st).Nodup
  && (parsOf st).all (fun p => (namesOf st).lookup p == some .local || (namesOf st).lookup p == some .cell) && ((namesOf st).map (·.1)).take (parsOf st).length == parsOf st && (((namesOf st).map (·.1)).drop (parsOf st).length).all (fun x => !(parsOf st).contains x)
theorem rho_rest {ps : List Str} {args : List AV} : ∀ (rest : List (Str × NameKind)), (rest.map (·.1)).all (fun x => !ps.contains x) = true → rest.map (fun x => argOf ps args x.1) = List.replicate rest.length none
  | [], _ => rfl
  | (n, k) :: rest, h => by
    simp only [List.map_cons, List.all_cons, Bool.and_eq_true, Bool.not_eq_true'] at h
    rw [List.map_cons, rho_rest rest h.2, List.length_cons, List.replicate_succ]
    congr 1
    have h1 := h.1
    unfold argOf
    show List.lookup n (ps.zip args) = none
    have : ∀ (ps : List Str) (args : List AV), ps.contains n = false → List.lookup n (ps.zip args) = none := by
      intro ps
      induction ps with
      | nil => intro args _; rfl
      | cons p ps ih =>
        intro args h
        cases args with
        | nil => rfl
        | cons a args =>
          rw [List.contains_cons, Bool.or_eq_false_iff] at h
          rw [List.zip_cons_cons, List.lookup_cons, h.1]
          exact ih args h.2
    exact this ps args h1
theorem rho_args : ∀ (ps : List Str) (args : List AV), ps.Nodup → ps.length = args.length → ps.map (fun x => argOf ps args x) = args.map some
  | [], [], _, _ => rfl
  | p :: ps, a :: args, hn, hl => by
    rw [List.nodup_cons] at hn
    rw [List.map_cons, List.map_cons]
    congr 1
    · unfold argOf; rw [List.zip_cons_cons, List.lookup_cons, beq_self_eq_true]
    · rw [← rho_args ps args hn.2 (by simpa using hl)]
      apply List.map_congr_left
      intro x hx
      unfold argOf
      rw [List.zip_cons_cons, List.lookup_cons]
      have : (x == p) = false := by
        cases q : x == p with
        | false => rfl
        | true => rw [beq_iff_eq.mp q] at hx; exact absurd hx hn.1
      rw [this]
theorem rho0_eq {names : List (Str × NameKind)} {ps : List Str} {args : List AV} {n : Nat} (h1 : (names.map (·.1)).take ps.length = ps) (h2 : ((names.map (·.1)).drop ps.length).all (fun x => !ps.contains x) = true) (hd : ps.Nodup) (hl : ps.length = args.length) (hn : names.length = ps.length + n) :
    rho0 names ps args = args.map some ++ List.replicate n none := by
  unfold rho0
  rw [← List.take_append_drop ps.length names, List.map_append]
  congr 1
  · rw [← rho_args ps args hd hl]
    rw [← List.map_take] at h1
    calc (names.take ps.length).map (fun x => argOf ps args x.1) = ((names.take ps.length).map (·.1)).map (fun x => argOf ps args x) := by rw [List.map_map]; rfl
      _ = ps.map (fun x => argOf ps args x) := by rw [h1]
  · rw [← List.map_drop] at h2
    rw [rho_rest _ h2, List.length_drop, hn]
    congr 1
    omega
inductive DefF (G : Gx) (k : Nat) (st : Stmt) : Prop
  | mk (a : Addr) (o : Obj) (fd : FuncData) (h1 : G.fv k = .ref a) (h2 : G.h₀.get? a = some o) (h3 : o.data = .func fd) (h4 : G.h₀.CodeRec fd.code fd.qualname) (h5 : fd.body = .stmts (bodyOf st)) (h6 : fd.globals = mainGlobals) (h7 : fd.builtins = builtinsNs) (h8 : fd.closure = []) (h9 : fd.scope = scopeOf st)
    (h10 : ∀ cs : List Value, cs.length = (parsOf st).length → bindArgs fd ⟨cs, []⟩ = pure ((parsOf st).zip cs)) : DefF G k st
structure DefAt (G : Gx) (k : Nat) (st : Stmt) : Prop where
  ex : DefF G k st
  keep : Keep G (G.fv k)
theorem def_call {G : Gx} {r k n : Nat} {st : Stmt} {args : List AV} {H : AH} {K : AV → AH → Prop} (ρ : List (Option AV)) (D : DefAt G k st) (hgt : GT G gtab) (hs : scopeOk st = true) (hlen : (parsOf st).length = args.length) (hn : (namesOf st).length = (parsOf st).length + n) (hρ : args.map some ++ List.replicate n none = ρ)
    (h : ∀ X : Cx G, X.res = resOf (namesOf st) gtab true → X.env.scope = scopeOf st → TS X r (execs (bodyOf st) X.env) ⟨ρ, H⟩ (RetA K)) : CallOK G (r + 1) (G.fv k) args H K := by
  obtain ⟨a, o, fd, h1, h2, h3, h4, h5, h6, h7, h8, h9, h10⟩ := D.ex
  unfold scopeOk at hs
  simp only [Bool.and_eq_true, Bool.not_eq_true', decide_eq_true_eq] at hs
  obtain ⟨⟨⟨⟨⟨⟨⟨⟨s1, s2⟩, s3⟩, s4⟩, s5⟩, s6⟩, s7⟩, s8⟩, s9⟩ := hs
  unfold namesOf at *
  rw [← h9] at s1 s2 s3 s4 s5 s7 s8 s9 hn
  refine call_enter (ps := parsOf st) (gt := gtab) hgt h1 h2 h3 h4 h5 h6 h7 h8 s1 s2 (beq_iff_eq.mp s3) s4 s5 s6 s7 hlen (fun cs hc => h10 cs (hc.trans hlen.symm)) fun X hX hsc _ => ?_
  have := rho0_eq (args := args) (beq_iff_eq.mp s8) s9 s6 hlen hn
  rw [this, hρ]
  exact h X (by rw [hX, h9]) (by rw [hsc, h9])
inductive LexM0 (G : Gx) (C : Addr) (k : Nat) (n : Str) : Prop
  | mk (f : Addr) (h1 : G.fv k = .ref f) (h2 : findIn G.K (.ref C) n = some (some (.ref f))) (h3 : typeIn G.K (.ref f) = some (.type "function")) : LexM0 G C k n
inductive LexM1 (G : Gx) (C : Addr) : Prop
  | mk (f : Addr) (o : Obj) (fd : FuncData) (h1 : G.fv 31 = .ref f) (h2 : findIn G.K (.ref C) "_read_char" = some (some (.ref f))) (h3 : typeIn G.K (.ref f) = some (.type "function")) (h4 : Keep G (.ref f)) (h5 : specialIn G.K (.ref f) "__get__" = some (some (.builtin "function.__get__"))) (h6 : takesIn G.K (.ref f) = some false) (h7 : G.h₀.get? f = some o) (h8 : o.data = .func fd) : LexM1 G C
inductive LexM2 (G : Gx) (C : Addr) (k : Nat) (n : Str) : Prop
  | mk (f : Addr) (h1 : G.fv k = .ref f) (h2 : findIn G.K (.ref C) n = some (some (.ref f))) (h3 : typeIn G.K (.ref f) = some (.type "function")) (h4 : Keep G (.ref f)) : LexM2 G C k n
inductive LexF (G : Gx) : Prop
  | mk (C : Addr) (c1 : ClsF G 5 C) (c2 : makesIn G.K C = true) (c3 : Keep G (G.fv 5)) (c4 : LexM0 G C 30 "__init__") (c5 : LexM1 G C) (c6 : LexM2 G C 32 "get_token") (c7 : LexM2 G C 33 "push_token")
    (a1 : findIn G.K (.ref C) "lineno" = some none) (a2 : findIn G.K (.ref C) "instream" = some none) (a3 : findIn G.K (.ref C) "whitespace" = some none) (a4 : findIn G.K (.ref C) "pushback" = some none) (a5 : findIn G.K (.ref C) "read" = some none) : LexF G
structure LexC (G : Gx) : Prop where
  ex : LexF G
structure GenD (G : Gx) (k : Nat) (st : Stmt) : Prop where
  ex : DefF G k st
  keep : Keep G (G.fv k)
noncomputable def inB1 (i : Int) : Bool := i == 173 || i == 847 || i == 6150 || (6155 ≤ i && i ≤ 6157) || (8203 ≤ i && i ≤ 8205) || i == 8288 || i == 65279 || (65024 ≤ i && i < 65040)
noncomputable def litsOf : List (Option PySem.Expr) → List PySem.Expr → List (Int × Str)
  | some (.Constant (.int i) _ _) :: ks, .Constant (.str x) _ _ :: vs => (i, x) :: litsOf ks vs
  | _, _ => []
noncomputable def b3lits : List (Int × Str) := match topFn 15 with | .Assign _ (.Dict ks vs _) _ => litsOf ks vs | _ => []
noncomputable def b3tab (i : Int) : Option Str := b3lits.lookup i
noncomputable abbrev st_strcoll : Stmt := topFn 1
noncomputable abbrev st_grouping_intervals : Stmt := topFn 3
noncomputable abbrev st_parse229 : Stmt := topFn 8
noncomputable abbrev st_parse257 : Stmt := topFn 9
noncomputable abbrev st_init : Stmt := inFn 11 0
noncomputable abbrev st_read_char : Stmt := inFn 11 1
noncomputable abbrev st_get_token : Stmt := inFn 11 2
noncomputable abbrev st_push_token : Stmt := inFn 11 3
noncomputable abbrev st_in_table_b1 : Stmt := topFn 14
noncomputable abbrev st_map_table_b3 : Stmt := topFn 16
noncomputable abbrev st_law_heaps : Stmt := topFn 18
noncomputable abbrev st_law_step : Stmt := topFn 19
noncomputable abbrev st_law_tape : Stmt := topFn 20
noncomputable abbrev st_law_word : Stmt := topFn 21
noncomputable abbrev st_law_page : Stmt := topFn 22
noncomputable abbrev st_law_lexer : Stmt := topFn 23
noncomputable abbrev st_law_seen : Stmt := topFn 24
noncomputable abbrev st_law_rule : Stmt := topFn 25
noncomputable abbrev st_law_line : Stmt := topFn 26
noncomputable abbrev st_law : Stmt := topFn 27
inductive Nm_strcoll {G : Gx} (X : Cx G) : Prop
  | mk (n1 : X.res (Str.ofString "a") = some (.loc 0 true)) (n2 : X.res (Str.ofString "b") = some (.loc 1 true)) : Nm_strcoll X
theorem nm_strcoll {G : Gx} {X : Cx G} (hX : X.res = resOf (namesOf st_strcoll) gtab true) : Nm_strcoll X := by
  constructor
  all_goals rw [hX]
  · kernel_rfl!
  · kernel_rfl!
inductive Nm_grouping_intervals {G : Gx} (X : Cx G) : Prop
  | mk (n1 : X.res (Str.ofString "grouping") = some (.loc 0 true)) (n2 : X.res (Str.ofString "last_interval") = some (.loc 1 true)) (n3 : X.res (Str.ofString "interval") = some (.loc 2 true)) (n4 : X.res (Str.ofString "CHAR_MAX") = some (.glob 1)) : Nm_grouping_intervals X
theorem nm_grouping_intervals {G : Gx} {X : Cx G} (hX : X.res = resOf (namesOf st_grouping_intervals) gtab true) : Nm_grouping_intervals X := by
  constructor
  all_goals rw [hX]
  · kernel_rfl!
  · kernel_rfl!
  · kernel_rfl!
  · kernel_rfl!
inductive Nm_parse229 {G : Gx} (X : Cx G) : Prop
  | mk (n1 : X.res (Str.ofString "resp") = some (.loc 0 true)) (n2 : X.res (Str.ofString "peer") = some (.loc 1 true)) (n3 : X.res (Str.ofString "left") = some (.loc 2 true)) (n4 : X.res (Str.ofString "right") = some (.loc 3 true)) (n5 : X.res (Str.ofString "parts") = some (.loc 4 true)) (n6 : X.res (Str.ofString "host") = some (.loc 5 true)) (n7 : X.res (Str.ofString "port") = some (.loc 6 true)) (n8 : X.res (Str.ofString "len") = some (.glob 40)) (n9 : X.res (Str.ofString "int") = some (.glob 53)) : Nm_parse229 X
theorem nm_parse229 {G : Gx} {X : Cx G} (hX : X.res = resOf (namesOf st_parse229) gtab true) : Nm_parse229 X := by
  constructor
  all_goals rw [hX]
  · kernel_rfl!
  · kernel_rfl!
  · kernel_rfl!
  · kernel_rfl!
  · kernel_rfl!
  · kernel_rfl!
  · kernel_rfl!
  · kernel_rfl!
  · kernel_rfl!
inductive Nm_parse257 {G : Gx} (X : Cx G) : Prop
  | mk (n1 : X.res (Str.ofString "resp") = some (.loc 0 true)) (n2 : X.res (Str.ofString "dirname") = some (.loc 1 true)) (n3 : X.res (Str.ofString "i") = some (.loc 2 true)) (n4 : X.res (Str.ofString "n") = some (.loc 3 true)) (n5 : X.res (Str.ofString "c") = some (.loc 4 true)) (n6 : X.res (Str.ofString "len") = some (.glob 40)) : Nm_parse257 X
theorem nm_parse257 {G : Gx} {X : Cx G} (hX : X.res = resOf (namesOf st_parse257) gtab true) : Nm_parse257 X := by
  constructor
  all_goals rw [hX]
  · kernel_rfl!
  · kernel_rfl!
  · kernel_rfl!
  · kernel_rfl!
  · kernel_rfl!
  · kernel_rfl!
inductive Nm_init {G : Gx} (X : Cx G) : Prop
  | mk (n1 : X.res (Str.ofString "self") = some (.loc 0 true)) (n2 : X.res (Str.ofString "fp") = some (.loc 1 true)) : Nm_init X
theorem nm_init {G : Gx} {X : Cx G} (hX : X.res = resOf (namesOf st_init) gtab true) : Nm_init X := by
  constructor
  all_goals rw [hX]
  · kernel_rfl!
  · kernel_rfl!
inductive Nm_read_char {G : Gx} (X : Cx G) : Prop
  | mk (n1 : X.res (Str.ofString "self") = some (.loc 0 true)) (n2 : X.res (Str.ofString "ch") = some (.loc 1 true)) : Nm_read_char X
theorem nm_read_char {G : Gx} {X : Cx G} (hX : X.res = resOf (namesOf st_read_char) gtab true) : Nm_read_char X := by
  constructor
  all_goals rw [hX]
  · kernel_rfl!
  · kernel_rfl!
inductive Nm_get_token {G : Gx} (X : Cx G) : Prop
  | mk (n1 : X.res (Str.ofString "self") = some (.loc 0 true)) (n2 : X.res (Str.ofString "token") = some (.loc 1 true)) (n3 : X.res (Str.ofString "fiter") = some (.loc 2 true)) (n4 : X.res (Str.ofString "ch") = some (.loc 3 true)) (n5 : X.res (Str.ofString "iter") = some (.glob 45)) : Nm_get_token X
theorem nm_get_token {G : Gx} {X : Cx G} (hX : X.res = resOf (namesOf st_get_token) gtab true) : Nm_get_token X := by
  constructor
  all_goals rw [hX]
  · kernel_rfl!
  · kernel_rfl!
  · kernel_rfl!
  · kernel_rfl!
  · kernel_rfl!
inductive Nm_push_token {G : Gx} (X : Cx G) : Prop
  | mk (n1 : X.res (Str.ofString "self") = some (.loc 0 true)) (n2 : X.res (Str.ofString "token") = some (.loc 1 true)) : Nm_push_token X
theorem nm_push_token {G : Gx} {X : Cx G} (hX : X.res = resOf (namesOf st_push_token) gtab true) : Nm_push_token X := by
  constructor
  all_goals rw [hX]
  · kernel_rfl!
  · kernel_rfl!
inductive Nm_in_table_b1 {G : Gx} (X : Cx G) : Prop
  | mk (n1 : X.res (Str.ofString "code") = some (.loc 0 true)) (n2 : X.res (Str.ofString "ord") = some (.glob 41)) (n3 : X.res (Str.ofString "b1_set") = some (.glob 6)) : Nm_in_table_b1 X
theorem nm_in_table_b1 {G : Gx} {X : Cx G} (hX : X.res = resOf (namesOf st_in_table_b1) gtab true) : Nm_in_table_b1 X := by
  constructor
  all_goals rw [hX]
  · kernel_rfl!
  · kernel_rfl!
  · kernel_rfl!
inductive Nm_map_table_b3 {G : Gx} (X : Cx G) : Prop
  | mk (n1 : X.res (Str.ofString "code") = some (.loc 0 true)) (n2 : X.res (Str.ofString "r") = some (.loc 1 true)) (n3 : X.res (Str.ofString "b3_exceptions") = some (.glob 8)) (n4 : X.res (Str.ofString "ord") = some (.glob 41)) : Nm_map_table_b3 X
theorem nm_map_table_b3 {G : Gx} {X : Cx G} (hX : X.res = resOf (namesOf st_map_table_b3) gtab true) : Nm_map_table_b3 X := by
  constructor
  all_goals rw [hX]
  · kernel_rfl!
  · kernel_rfl!
  · kernel_rfl!
  · kernel_rfl!
inductive Nm_law_heaps {G : Gx} (X : Cx G) : Prop
  | mk (n1 : X.res (Str.ofString "script") = some (.loc 0 true)) (n2 : X.res (Str.ofString "heaps") = some (.loc 1 true)) (n3 : X.res (Str.ofString "place") = some (.loc 2 true)) (n4 : X.res (Str.ofString "range") = some (.glob 50)) (n5 : X.res (Str.ofString "min") = some (.glob 43)) (n6 : X.res (Str.ofString "len") = some (.glob 40)) : Nm_law_heaps X
theorem nm_law_heaps {G : Gx} {X : Cx G} (hX : X.res = resOf (namesOf st_law_heaps) gtab true) : Nm_law_heaps X := by
  constructor
  all_goals rw [hX]
  · kernel_rfl!
  · kernel_rfl!
  · kernel_rfl!
  · kernel_rfl!
  · kernel_rfl!
  · kernel_rfl!
inductive Nm_law_step {G : Gx} (X : Cx G) : Prop
  | mk (n1 : X.res (Str.ofString "size") = some (.loc 0 true)) (n2 : X.res (Str.ofString "heap") = some (.loc 1 true)) (n3 : X.res (Str.ofString "step") = some (.loc 2 true)) (n4 : X.res (Str.ofString "range") = some (.glob 50)) : Nm_law_step X
theorem nm_law_step {G : Gx} {X : Cx G} (hX : X.res = resOf (namesOf st_law_step) gtab true) : Nm_law_step X := by
  constructor
  all_goals rw [hX]
  · kernel_rfl!
  · kernel_rfl!
  · kernel_rfl!
  · kernel_rfl!
inductive Nm_law_tape {G : Gx} (X : Cx G) : Prop
  | mk (n1 : X.res (Str.ofString "size") = some (.loc 0 true)) (n2 : X.res (Str.ofString "step") = some (.loc 1 true)) (n3 : X.res (Str.ofString "width") = some (.loc 2 true)) (n4 : X.res (Str.ofString "seed") = some (.loc 3 true)) (n5 : X.res (Str.ofString "kinds") = some (.loc 4 true)) (n6 : X.res (Str.ofString "unseen") = some (.loc 5 true)) (n7 : X.res (Str.ofString "tape") = some (.loc 6 true)) (n8 : X.res (Str.ofString "place") = some (.loc 7 true)) (n9 : X.res (Str.ofString "told") = some (.loc 8 true)) (n10 : X.res (Str.ofString "list") = some (.glob 51)) (n11 : X.res (Str.ofString "range") = some (.glob 50)) (n12 : X.res (Str.ofString "_grouping_intervals") = some (.glob 2)) (n13 : X.res (Str.ofString "len") = some (.glob 40)) (n14 : X.res (Str.ofString "chr") = some (.glob 42)) : Nm_law_tape X
theorem nm_law_tape {G : Gx} {X : Cx G} (hX : X.res = resOf (namesOf st_law_tape) gtab true) : Nm_law_tape X := by
  constructor
  all_goals rw [hX]
  · kernel_rfl!
  · kernel_rfl!
  · kernel_rfl!
  · kernel_rfl!
  · kernel_rfl!
  · kernel_rfl!
  · kernel_rfl!
  · kernel_rfl!
  · kernel_rfl!
  · kernel_rfl!
  · kernel_rfl!
  · kernel_rfl!
  · kernel_rfl!
  · kernel_rfl!
inductive Nm_law_word {G : Gx} (X : Cx G) : Prop
  | mk (n1 : X.res (Str.ofString "text") = some (.loc 0 true)) (n2 : X.res (Str.ofString "way") = some (.loc 1 true)) (n3 : X.res (Str.ofString "word") = some (.loc 2 true)) (n4 : X.res (Str.ofString "sign") = some (.loc 3 true)) : Nm_law_word X
theorem nm_law_word {G : Gx} {X : Cx G} (hX : X.res = resOf (namesOf st_law_word) gtab true) : Nm_law_word X := by
  constructor
  all_goals rw [hX]
  · kernel_rfl!
  · kernel_rfl!
  · kernel_rfl!
  · kernel_rfl!
inductive Nm_law_page {G : Gx} (X : Cx G) : Prop
  | mk (n1 : X.res (Str.ofString "size") = some (.loc 0 true)) (n2 : X.res (Str.ofString "tape") = some (.loc 1 true)) (n3 : X.res (Str.ofString "seed") = some (.loc 2 true)) (n4 : X.res (Str.ofString "mark") = some (.loc 3 true)) (n5 : X.res (Str.ofString "first") = some (.loc 4 true)) (n6 : X.res (Str.ofString "second") = some (.loc 5 true)) (n7 : X.res (Str.ofString "str") = some (.glob 52)) (n8 : X.res (Str.ofString "_law_word") = some (.glob 13)) : Nm_law_page X
theorem nm_law_page {G : Gx} {X : Cx G} (hX : X.res = resOf (namesOf st_law_page) gtab true) : Nm_law_page X := by
  constructor
  all_goals rw [hX]
  · kernel_rfl!
  · kernel_rfl!
  · kernel_rfl!
  · kernel_rfl!
  · kernel_rfl!
  · kernel_rfl!
  · kernel_rfl!
  · kernel_rfl!
inductive Nm_law_lexer {G : Gx} (X : Cx G) : Prop
  | mk (n1 : X.res (Str.ofString "page") = some (.loc 0 true)) (n2 : X.res (Str.ofString "read") = some (.loc 1 true)) (n3 : X.res (Str.ofString "stand") = some (.loc 2 true)) (n4 : X.res (Str.ofString "signs") = some (.loc 3 true)) (n5 : X.res (Str.ofString "list") = some (.glob 51)) (n6 : X.res (Str.ofString "_netrclex") = some (.glob 5)) : Nm_law_lexer X
theorem nm_law_lexer {G : Gx} {X : Cx G} (hX : X.res = resOf (namesOf st_law_lexer) gtab true) : Nm_law_lexer X := by
  constructor
  all_goals rw [hX]
  · kernel_rfl!
  · kernel_rfl!
  · kernel_rfl!
  · kernel_rfl!
  · kernel_rfl!
  · kernel_rfl!
inductive Nm_law_seen {G : Gx} (X : Cx G) : Prop
  | mk (n1 : X.res (Str.ofString "tape") = some (.loc 0 true)) (n2 : X.res (Str.ofString "marks") = some (.loc 1 true)) (n3 : X.res (Str.ofString "gaps") = some (.loc 2 true)) (n4 : X.res (Str.ofString "sign") = some (.loc 3 true)) (n5 : X.res (Str.ofString "in_table_b1") = some (.glob 7)) (n6 : X.res (Str.ofString "map_table_b3") = some (.glob 9)) : Nm_law_seen X
theorem nm_law_seen {G : Gx} {X : Cx G} (hX : X.res = resOf (namesOf st_law_seen) gtab true) : Nm_law_seen X := by
  constructor
  all_goals rw [hX]
  · kernel_rfl!
  · kernel_rfl!
  · kernel_rfl!
  · kernel_rfl!
  · kernel_rfl!
  · kernel_rfl!
inductive Nm_law_rule {G : Gx} (X : Cx G) : Prop
  | mk (n1 : X.res (Str.ofString "size") = some (.loc 0 true)) (n2 : X.res (Str.ofString "step") = some (.loc 1 true)) (n3 : X.res (Str.ofString "width") = some (.loc 2 true)) (n4 : X.res (Str.ofString "i") = some (.loc 3 true)) (n5 : X.res (Str.ofString "j") = some (.loc 4 true)) (n6 : X.res (Str.ofString "u") = some (.loc 5 true)) (n7 : X.res (Str.ofString "v") = some (.loc 6 true)) (n8 : X.res (Str.ofString "k") = some (.loc 7 true)) (n9 : X.res (Str.ofString "numbers") = some (.loc 8 true)) (n10 : X.res (Str.ofString "gaps") = some (.loc 9 true)) (n11 : X.res (Str.ofString "turns") = some (.loc 10 true)) (n12 : X.res (Str.ofString "more") = some (.loc 11 true)) (n13 : X.res (Str.ofString "range") = some (.glob 50)) : Nm_law_rule X
theorem nm_law_rule {G : Gx} {X : Cx G} (hX : X.res = resOf (namesOf st_law_rule) gtab true) : Nm_law_rule X := by
  constructor
  all_goals rw [hX]
  · kernel_rfl!
  · kernel_rfl!
  · kernel_rfl!
  · kernel_rfl!
  · kernel_rfl!
  · kernel_rfl!
  · kernel_rfl!
  · kernel_rfl!
  · kernel_rfl!
  · kernel_rfl!
  · kernel_rfl!
  · kernel_rfl!
  · kernel_rfl!
inductive Nm_law_line {G : Gx} (X : Cx G) : Prop
  | mk (n1 : X.res (Str.ofString "lexer") = some (.loc 0 true)) (n2 : X.res (Str.ofString "count") = some (.loc 1 true)) (n3 : X.res (Str.ofString "turns") = some (.loc 2 true)) (n4 : X.res (Str.ofString "mark") = some (.loc 3 true)) (n5 : X.res (Str.ofString "front") = some (.loc 4 true)) (n6 : X.res (Str.ofString "turn") = some (.loc 5 true)) (n7 : X.res (Str.ofString "more") = some (.loc 6 true)) (n8 : X.res (Str.ofString "range") = some (.glob 50)) : Nm_law_line X
theorem nm_law_line {G : Gx} {X : Cx G} (hX : X.res = resOf (namesOf st_law_line) gtab true) : Nm_law_line X := by
  constructor
  all_goals rw [hX]
  · kernel_rfl!
  · kernel_rfl!
  · kernel_rfl!
  · kernel_rfl!
  · kernel_rfl!
  · kernel_rfl!
  · kernel_rfl!
  · kernel_rfl!
inductive Nm_law {G : Gx} (X : Cx G) : Prop
  | mk (n1 : X.res (Str.ofString "script") = some (.loc 0 true)) (n2 : X.res (Str.ofString "heaps") = some (.loc 1 true)) (n3 : X.res (Str.ofString "size") = some (.loc 2 true)) (n4 : X.res (Str.ofString "step") = some (.loc 3 true)) (n5 : X.res (Str.ofString "width") = some (.loc 4 true)) (n6 : X.res (Str.ofString "page") = some (.loc 5 true)) (n7 : X.res (Str.ofString "lexer") = some (.loc 6 true)) (n8 : X.res (Str.ofString "numbers") = some (.loc 7 true)) (n9 : X.res (Str.ofString "gaps") = some (.loc 8 true)) (n10 : X.res (Str.ofString "turns") = some (.loc 9 true)) (n11 : X.res (Str.ofString "total") = some (.loc 10 true)) (n12 : X.res (Str.ofString "marks") = some (.loc 11 true)) (n13 : X.res (Str.ofString "told") = some (.loc 12 true)) (n14 : X.res (Str.ofString "_law_heaps") = some (.glob 10)) (n15 : X.res (Str.ofString "_law_step") = some (.glob 11)) (n16 : X.res (Str.ofString "_law_page") = some (.glob 14)) (n17 : X.res (Str.ofString "_law_tape") = some (.glob 12)) (n18 : X.res (Str.ofString "_law_lexer") = some (.glob 15)) (n19 : X.res (Str.ofString "_law_rule") = some (.glob 17)) (n20 : X.res (Str.ofString "parse229") = some (.glob 3)) (n21 : X.res (Str.ofString "_law_seen") = some (.glob 16)) (n22 : X.res (Str.ofString "parse257") = some (.glob 4)) (n23 : X.res (Str.ofString "_law_line") = some (.glob 18)) (n24 : X.res (Str.ofString "list") = some (.glob 51)) : Nm_law X
theorem nm_law {G : Gx} {X : Cx G} (hX : X.res = resOf (namesOf st_law) gtab true) : Nm_law X := by
  constructor
  all_goals rw [hX]
  · kernel_rfl!
  · kernel_rfl!
  · kernel_rfl!
  · kernel_rfl!
  · kernel_rfl!
  · kernel_rfl!
  · kernel_rfl!
  · kernel_rfl!
  · kernel_rfl!
  · kernel_rfl!
  · kernel_rfl!
  · kernel_rfl!
  · kernel_rfl!
  · kernel_rfl!
  · kernel_rfl!
  · kernel_rfl!
  · kernel_rfl!
  · kernel_rfl!
  · kernel_rfl!
  · kernel_rfl!
  · kernel_rfl!
  · kernel_rfl!
  · kernel_rfl!
  · kernel_rfl!
theorem len_strcoll : (namesOf st_strcoll).length = (parsOf st_strcoll).length + 0 := by kernel_rfl!
theorem scope_strcoll : scopeOk st_strcoll = true := by kernel_rfl!
theorem len_grouping_intervals : (namesOf st_grouping_intervals).length = (parsOf st_grouping_intervals).length + 4 := by kernel_rfl!
theorem len_parse229 : (namesOf st_parse229).length = (parsOf st_parse229).length + 9 := by kernel_rfl!
theorem scope_parse229 : scopeOk st_parse229 = true := by kernel_rfl!
theorem len_parse257 : (namesOf st_parse257).length = (parsOf st_parse257).length + 6 := by kernel_rfl!
theorem scope_parse257 : scopeOk st_parse257 = true := by kernel_rfl!
theorem len_init : (namesOf st_init).length = (parsOf st_init).length + 0 := by kernel_rfl!
theorem scope_init : scopeOk st_init = true := by kernel_rfl!
theorem len_read_char : (namesOf st_read_char).length = (parsOf st_read_char).length + 1 := by kernel_rfl!
theorem scope_read_char : scopeOk st_read_char = true := by kernel_rfl!
theorem len_get_token : (namesOf st_get_token).length = (parsOf st_get_token).length + 4 := by kernel_rfl!
theorem scope_get_token : scopeOk st_get_token = true := by kernel_rfl!
theorem len_push_token : (namesOf st_push_token).length = (parsOf st_push_token).length + 0 := by kernel_rfl!
theorem scope_push_token : scopeOk st_push_token = true := by kernel_rfl!
theorem len_in_table_b1 : (namesOf st_in_table_b1).length = (parsOf st_in_table_b1).length + 2 := by kernel_rfl!
theorem scope_in_table_b1 : scopeOk st_in_table_b1 = true := by kernel_rfl!
theorem len_map_table_b3 : (namesOf st_map_table_b3).length = (parsOf st_map_table_b3).length + 3 := by kernel_rfl!
theorem scope_map_table_b3 : scopeOk st_map_table_b3 = true := by kernel_rfl!
theorem len_law_heaps : (namesOf st_law_heaps).length = (parsOf st_law_heaps).length + 5 := by kernel_rfl!
theorem scope_law_heaps : scopeOk st_law_heaps = true := by kernel_rfl!
theorem len_law_step : (namesOf st_law_step).length = (parsOf st_law_step).length + 2 := by kernel_rfl!
theorem scope_law_step : scopeOk st_law_step = true := by kernel_rfl!
theorem len_law_tape : (namesOf st_law_tape).length = (parsOf st_law_tape).length + 10 := by kernel_rfl!
theorem scope_law_tape : scopeOk st_law_tape = true := by kernel_rfl!
theorem len_law_word : (namesOf st_law_word).length = (parsOf st_law_word).length + 2 := by kernel_rfl!
theorem scope_law_word : scopeOk st_law_word = true := by kernel_rfl!
theorem len_law_page : (namesOf st_law_page).length = (parsOf st_law_page).length + 5 := by kernel_rfl!
theorem scope_law_page : scopeOk st_law_page = true := by kernel_rfl!
theorem len_law_lexer : (namesOf st_law_lexer).length = (parsOf st_law_lexer).length + 5 := by kernel_rfl!
theorem scope_law_lexer : scopeOk st_law_lexer = true := by kernel_rfl!
theorem len_law_seen : (namesOf st_law_seen).length = (parsOf st_law_seen).length + 5 := by kernel_rfl!
theorem scope_law_seen : scopeOk st_law_seen = true := by kernel_rfl!
theorem len_law_rule : (namesOf st_law_rule).length = (parsOf st_law_rule).length + 10 := by kernel_rfl!
theorem scope_law_rule : scopeOk st_law_rule = true := by kernel_rfl!
theorem len_law_line : (namesOf st_law_line).length = (parsOf st_law_line).length + 5 := by kernel_rfl!
theorem scope_law_line : scopeOk st_law_line = true := by kernel_rfl!
theorem len_law : (namesOf st_law).length = (parsOf st_law).length + 23 := by kernel_rfl!
theorem scope_law : scopeOk st_law = true := by kernel_rfl!
noncomputable def cloSt : Stmt := (bodyOf st_law_lexer).getD 1 (.Pass default)
noncomputable def cloPars : Arguments := match cloSt with
  | .FunctionDef _ a _ _ _ _ _ _ _ _ => a
  | _ => default
noncomputable def clo0 : ClosD := { name := "read", qual := ("_law_lexer" : Str) ++ ".<locals>." ++ "read", params := cloPars, body := bodyOf cloSt, scope := scopeOf cloSt, free := "signs" }
inductive LexCloF (G : Gx) : Prop
  | mk (a : Addr) (o : Obj) (fd : FuncData) (cc : Addr) (h1 : G.fv 15 = .ref a) (h2 : G.h₀.get? a = some o) (h3 : o.data = .func fd) (h4 : G.h₀.CodeRec fd.code fd.qualname) (h5 : fd.body = .stmts (bodyOf st_law_lexer)) (h6 : fd.globals = mainGlobals) (h7 : fd.builtins = builtinsNs) (h8 : fd.closure = []) (h9 : fd.scope = scopeOf st_law_lexer)
    (h10 : ∀ cs : List Value, cs.length = (parsOf st_law_lexer).length → bindArgs fd ⟨cs, []⟩ = pure ((parsOf st_law_lexer).zip cs)) (h11 : fd.code = .ref cc) (h12 : fd.qualname = ("_law_lexer" : Str)) (h13 : CodeHd G.h₀ cc G.tabP) : LexCloF G
structure LexClo (G : Gx) : Prop where
  ex : LexCloF G
  keep : Keep G (G.fv 15)
  built : G.h₀.BuiltinsAt G.mg G.tabP
  apart : mainGlobals ≠ G.tabP
  clo : G.clo = clo0
structure Ready (G : Gx) : Prop where
  gt : GT G gtab
  d_strcoll : DefAt G 0 st_strcoll
  d_parse229 : DefAt G 3 st_parse229
  d_parse257 : DefAt G 4 st_parse257
  d_init : DefAt G 30 st_init
  d_read_char : DefAt G 31 st_read_char
  d_get_token : DefAt G 32 st_get_token
  d_push_token : DefAt G 33 st_push_token
  d_in_table_b1 : DefAt G 7 st_in_table_b1
  d_map_table_b3 : DefAt G 9 st_map_table_b3
  d_law_heaps : DefAt G 10 st_law_heaps
  d_law_step : DefAt G 11 st_law_step
  d_law_tape : DefAt G 12 st_law_tape
  d_law_word : DefAt G 13 st_law_word
  d_law_page : DefAt G 14 st_law_page
  d_law_seen : DefAt G 16 st_law_seen
  d_law_rule : DefAt G 17 st_law_rule
  d_law_line : DefAt G 18 st_law_line
  v_len : G.fv 40 = .builtin "len"
  v_ord : G.fv 41 = .builtin "ord"
  v_chr : G.fv 42 = .builtin "chr"
  v_min : G.fv 43 = .builtin "min"
  v_iter : G.fv 45 = .builtin "iter"
  v_range : G.fv 50 = .type "range"
  v_list : G.fv 51 = .type "list"
  v_str : G.fv 52 = .type "str"
  v_int : G.fv 53 = .type "int"
  charmax : ∃ t, G.fv 1 = .int 127 t ∧ G.mg (Str.ofString "CHAR_MAX") = some (.int 127 t)
  lex : LexC G
  b1 : ∃ a n, G.fv 6 = .ref a ∧ G.h₀.SetOf (intKind G.prog G.w) a inB1 n
  b3 : ∃ a f, G.fv 8 = .ref a ∧ (a == sysModules) = false ∧ G.h₀.MapOf (intKind G.prog G.w) a f ∧ tabSays f b3tab ∧ ∃ o, G.h₀.get? a = some o ∧ o.cls = .type "dict" ∧ o.dict = none
  gen : GenD G 2 st_grouping_intervals
  clo : LexClo G
end Mine
end Pa38
section Pa39
open PySem PySem.W PySem.Calls PyProof.Rows
set_option maxRecDepth 100000
set_option linter.unusedVariables false
namespace Mine
noncomputable def freeOk (st : Stmt) (names : List (Str × NameKind)) : Bool := names.all fun y => y.2 != .free || (match resOf (namesOf st) gtab true y.1 with
  | some (.loc _ _) => (namesOf st).lookup y.1 != some .local
  | _ => false)
theorem comp_free {G : Gx} {X : Cx G} {st : Stmt} {names : List (Str × NameKind)} (hX : X.res = resOf (namesOf st) gtab true) (hsc : X.env.scope = scopeOf st) (h : freeOk st names = true) : ∀ y ∈ names, y.2 = .free → ∃ j b, X.res y.1 = some (.loc j b) ∧ X.env.kindOf y.1 ≠ some .local := by
  intro y hy e
  have := List.all_eq_true.mp h y hy
  rw [e] at this
  rw [hX]
  have hk : X.env.kindOf y.1 = (namesOf st).lookup y.1 := by unfold Env.kindOf; rw [hsc]
  rw [hk]
  cases q : resOf (namesOf st) gtab true y.1 with
  | none => rw [q] at this; simp at this
  | some rr =>
    rw [q] at this
    cases rr with
    | glob _ => simp at this
    | loc j b => exact ⟨j, b, rfl, by simpa using this⟩
local macro_rules | `(tactic| walk_at "nm") => `(tactic| (first | assumption))
local macro_rules | `(tactic| walk_at "ev") => `(tactic| (with_reducible (first
  | refine EV.binop ?_
  | (refine' EV.loc ?hx ?hv ?_; (case hx => assumption); (case hv => (with_unfolding_all rfl)))
  | (refine' EV.glob ?hx ?_; (case hx => assumption))
  | refine EV.int ?_
  | refine EV.str ?_
  | refine EV.none ?_
  | refine EV.bool ?_
  | (refine EV.cmp ?_ ?hm; (case hm => (with_unfolding_all rfl)))
  | refine EV.neg ?_
  | refine EV.ife ?_
  | (refine ET.cmp ?_ ?hm; (case hm => (with_unfolding_all rfl)))
  | refine ET.not ?_
  | refine ET.and2 ?_
  | refine ET.or2 ?_
  | refine ES.cons ?_
  | refine ES.nil ?_
  | (refine' ES.assignN ?hx ?_ ?hs; (case hx => assumption); (case hs => (with_unfolding_all rfl)))
  | (refine' ES.augN ?hx ?hv ?_; (case hx => assumption); (case hv => (with_unfolding_all rfl)))
  | refine ES.if_ ?_
  | refine ES.ret ?_
  | refine ES.brk ?_
  | refine ES.cont ?_
  | refine EA.nil ?_
  | refine EA.cons ?_
  | refine TS.cons ?_
  | refine TS.nil ?_
  | refine P2.addS ?hsz ?_
  | refine P2.iaddS ?hsz ?_
  | refine P2.iadd ?_ | refine P2.add ?_ | refine P2.sub ?_ | refine P2.subB ?_
  | refine P2.eqI ?_ | refine P2.neI ?_ | refine P2.ltI ?_ | refine P2.leI ?_ | refine P2.gtI ?_ | refine P2.geI ?_
  | refine P2.eqS ?_ | refine P2.neS ?_ | refine P2.ltS ?_ | refine P2.gtS ?_
  | refine P2.isNone ?_ | refine P2.isNoneS ?_ | refine P2.isNotNone ?_ | refine P2.isNotNoneS ?_
  | refine TR.bool ?_
  | (refine' ev_callB ?hx ?hv ?_ ?he; (case hx => assumption); (case hv => assumption); (case he => (with_unfolding_all rfl)))
  | (refine' ev_callT ?hx ?hv ?_ ?he; (case hx => assumption); (case hv => assumption); (case he => (with_unfolding_all rfl)))
  | (refine' ev_callD ?hx ?hk ?_ ?he; (case hx => assumption); (case hk => assumption); (case he => (with_unfolding_all rfl)))
  | refine CV.ord ?_ | refine cv_range1 ?_ | refine cv_range2 ?_ | refine cv_min2 ?_
  | refine SeqK_next ?_ | refine SeqT_next ?_ | refine SeqK_ret ?_ | refine SeqT_ret ?_ | refine SeqK_brk ?_ | refine SeqK_cont ?_ | refine SeqT_brk ?_ | refine SeqT_cont ?_
  | refine LoopK_next ?_ | refine LoopK_cont ?_ | refine LoopK_brk ?_ | refine LoopK_ret ?_
  | dsimp only)))
local macro_rules | `(tactic| walk_at "comp") => `(tactic| (
  (refine' ev_comp gtab (Ready.gt ‹_›) ?hpl ?hnd ?hk ?hnc ?hX ?hx ?_);
  (case hpl => kernel_rfl!); (case hnd => kernel_rfl!); (case hk => rfl); (case hnc => kernel_rfl!); (case hX => (exact comp_free ‹_› ‹_› (by kernel_rfl!))); (case hx => (with_unfolding_all rfl))))
section WaW1
variable {G : Gx} {r : Nat}
theorem strcoll_ok (R : Ready G) {x y : Str} {H : AH} {K : AV → AH → Prop} (h : K (.int (b2i (decide (y.cps.toList < x.cps.toList)) - b2i (decide (x.cps.toList < y.cps.toList)))) H) : CallOK G 1 (G.fv 0) [.str x, .str y] H K := by
  refine def_call [some (.str x), some (.str y)] R.d_strcoll R.gt scope_strcoll rfl len_strcoll rfl fun X hX hsc => ?_
  obtain ⟨na, nb⟩ := nm_strcoll hX
  conv in (bodyOf _) => whnf
  repeat' walk_at "ev"
  exact h
theorem in_table_b1_ok (R : Ready G) {c : Nat} {H : AH} {K : AV → AH → Prop} (h : K (.bool (inB1 c)) H) : CallOK G 1 (G.fv 7) [.str ⟨#[c]⟩] H K := by
  have v1 := R.v_ord
  obtain ⟨a, n, f1, f2⟩ := R.b1
  refine def_call [some (.str ⟨#[c]⟩), none, none] R.d_in_table_b1 R.gt scope_in_table_b1 rfl len_in_table_b1 rfl fun X hX hsc => ?_
  obtain ⟨n1, n2, n3⟩ := nm_in_table_b1 hX
  conv in (bodyOf _) => whnf
  repeat' walk_at "ev"
  exact p2_inB f1 f2 h
theorem map_table_b3_ok (R : Ready G) {c : Nat} {H : AH} {K : AV → AH → Prop} (h : K (.str (match b3tab c with | none => Txt.lower ⟨#[c]⟩ | some x => x)) H) (hsz : PySem.Builtin.Str.tooLong (Txt.lower ⟨#[c]⟩).length = false) : CallOK G 1 (G.fv 9) [.str ⟨#[c]⟩] H K := by
  have v1 := R.v_ord
  obtain ⟨a, f, f1, f2, f3, f4, o, f5, f6, f7⟩ := R.b3
  refine def_call [some (.str ⟨#[c]⟩), none, none, none] R.d_map_table_b3 R.gt scope_map_table_b3 rfl len_map_table_b3 rfl fun X hX hsc => ?_
  obtain ⟨n1, n2, n3, n4⟩ := nm_map_table_b3 hX
  conv in (bodyOf _) => whnf
  repeat' walk_at "ev"
  refine ev_methX PySem.F.plainAttrs_dict PySem.F.slot_dict_get PySem.F.type_dict_get ?_
  repeat' walk_at "ev"
  refine ⟨fun m s ca hr hv => ?_, ?_⟩
  · obtain ⟨t1, t2⟩ := base_typeIs f1 f5 f6 hr hv
    exact ⟨t1, fun b e => by obtain ⟨ob, h1, h2⟩ := t2 b e; exact ⟨ob, h1, by rw [h2]; exact f7⟩⟩
  repeat' walk_at "ev"
  refine cv_getB f1 f2 f3 f4 ?_
  cases hb : b3tab c with
  | none =>
    rw [hb] at h
    repeat' walk_at "ev"
    refine ⟨(fun e => by cases e), fun _ => ?_⟩
    repeat' walk_at "ev"
    refine EV.meth PySem.F.plainAttrs_str PySem.F.slot_str_lower PySem.F.type_str_lower ?_
    repeat' walk_at "ev"
    refine ⟨Is.str _, ?_⟩
    repeat' walk_at "ev"
    exact CV.lower hsz h
  | some x =>
    rw [hb] at h
    repeat' walk_at "ev"
    refine ⟨fun _ => ?_, (fun e => by cases e)⟩
    repeat' walk_at "ev"
    exact h
end WaW1
section WaW2
variable {G : Gx} {r : Nat}
noncomputable def Mod (ds : List Nat) (H H' : AH) : Prop := ∀ x o, H x = some o → x ∉ ds → H' x = some o
theorem Mod.refl (ds : List Nat) (H : AH) : Mod ds H H := fun _ _ e _ => e
theorem Mod.trans {ds ds' : List Nat} {H H' H'' : AH} (a : Mod ds H H') (b : Mod ds' H' H'') (h : ∀ x ∈ ds', x ∉ ds → H x = none) : Mod ds H H'' := fun x o e hx => by
  refine b x o (a x o e hx) fun hm => ?_
  rw [h x hm hx] at e; cases e
theorem Mod.trans' {ds : List Nat} {H H' H'' : AH} (a : Mod ds H H') (b : Mod ds H' H'') : Mod ds H H'' := fun x o e hx => b x o (a x o e hx) hx
theorem Mod.mono {ds ds' : List Nat} {H H' : AH} (a : Mod ds H H') (h : ∀ x ∈ ds, x ∈ ds') : Mod ds' H H' := fun x o e hx => a x o e fun q => hx (h x q)
theorem Mod.new {H : AH} {n : Nat} {o : AO} (ds : List Nat) (hn : H n = none) : Mod ds H (H.upd n o) := fun x o' e _ => by
  rw [AH.upd_ne]; exact e
  intro q; rw [q, hn] at e; cases e
theorem Mod.turn {H : AH} {n : Nat} {o : AO} {ds : List Nat} (hn : n ∈ ds) : Mod ds H (H.upd n o) := fun x o' e hx => by
  rw [AH.upd_ne]; exact e
  intro q; exact hx (q ▸ hn)
theorem Mod.get {H H' : AH} {x : Nat} {o : AO} (hm : Mod [] H H') (g : H x = some o) : H' x = some o := hm x o g (by simp)
theorem newM {K : AV → St → Prop} {σ : St} {o : AO} (h : ∀ n H', σ.H n = none → Mod [] σ.H H' → H' n = some o → K (.ref n) ⟨σ.ρ, H'⟩) : ∀ n, σ.H n = none → K (.ref n) ⟨σ.ρ, σ.H.upd n o⟩ := fun n hn => h n _ hn (Mod.new [] hn) (AH.upd_self _ _ _)
noncomputable abbrev chA (c : Nat) : AV := .str ⟨#[c]⟩
noncomputable def LoadAt (G : Gx) (A : Around) (m : Mp) (s : Shared) (t : Sem Value) (a : AV) : Prop := ∀ Q : Value → Shared → Prop, (∀ cv, RV G.fv s.heap m a cv → Q cv s) → wpAny (model G.prog G.w) A t Q NoE s
section
variable {X : Cx G} {σ : St} {A : Around} {m : Mp} {s : Shared} {l e : PySem.Expr} {a : AV} {op : CmpOp} {pos apos : Pos} {KB : Bool → St → Prop} {K : AV → St → Prop} {es : List PySem.Expr} {name : Str}
theorem cmp_at (hA : OkA r A) (hr : HR G σ.H m s) (hf : FR X σ.ρ σ.H m s) (hl : LoadAt G A m s (eval l X.env) a) (h : EV X r (eval e X.env) σ fun b σ2 => P2 X r (compareOp op) a b σ2 fun c σ3 => TR X r c σ3 KB) (hm : behindInMarks op e = false) :
    wpAny (model G.prog G.w) A (isTrue (.Compare l [op] [e] pos) X.env (eval (.Compare l [op] [e] pos) X.env)) (PostG relB X σ m s KB) NoE s :=
  wpAny_isTrue_Compare1 (hl _ fun ca ha => wpAny_mono (h A m s hA hr hf) (fun cb s2 ⟨b, σ2, m2, k2, e2, hr2, hf2, hb⟩ =>
      wpAny_mono (k2 A m2 s2 ca cb hA hr2 hf2 (RV.later e2.later _ _ ha) hb) (fun cc s3 ⟨c, σ3, m3, k3, e3, hr3, hf3, hc⟩ =>
        wpAny_mono (k3 A m3 s3 cc hA hr3 hf3 hc) (fun b s4 p => (p.trans e3).trans e2) fun _ _ x => x) fun _ _ x => x) fun _ _ x => x) hm
theorem meth_at {T id : String} (pa : PlainAttrs T) (slot : Slot T name id) (hty : typeOf (.builtin id) = pure (.type "method_descriptor")) (hA : OkA r A) (hr : HR G σ.H m s) (hf : FR X σ.ρ σ.H m s) (hl : LoadAt G A m s (eval e X.env) a) (his : Is σ a T)
    (h : EA X r es σ fun as σ2 => CV X r (.builtin id) (a :: as) σ2 K)
    (hbase : attributeBase e name X.env (eval e X.env) = eval e X.env := by rfl)
    (hline : (apos.endLine == pos.line) = true := by rfl)
    (hfew : ((backTo pos (starEach es X.env)).all (fun x => !x.1) && (backToKw pos (keywordEach [] X.env)).all (fun x => x.1.isSome)
      && decide (es.length + ([] : List Keyword).length + (if ([] : List Keyword).isEmpty then 0 else 1) < 30)) = true := by rfl)
    (ht : backTo pos (starEach es X.env) = es.map fun e => (false, eval e X.env) := by rfl) : wpAny (model G.prog G.w) A (eval (.Call (.Attribute e name apos) es [] pos) X.env) (Post X σ m s K) NoE s := by
  refine wpAny_Call_method_late hbase hfew hline ht (hl _ fun cv hv => ?_)
  obtain ⟨t1, t2⟩ := his.typeIs hr hv
  refine ⟨T, id, pa, slot, hty, t1, t2, ?_⟩
  exact callWith_any (first := [a]) hA hr hf (Keep.builtin id) (by simp only [RVs]; exact ⟨cv, [], rfl, hv, rfl⟩) h
end
theorem all_names {names : List (Str × NameKind)} {p : Str × NameKind → Bool} (h : names.all p = true) : ∀ x ∈ names, p x = true := List.all_eq_true.mp h
theorem clo_bind : ∀ (clos : List (Str × Addr)) (doc pm cd ctv : Value) (cs : List Value), cs.length = 1 → bindArgs (fnX clo0.name clo0.qual clo0.params clo0.body clo0.scope clos .none .none doc pm none cd ctv) ⟨cs, []⟩ = pure ((["size"] : List Str).zip cs)
  | clos, doc, pm, cd, ctv, [c], _ => by kernel_rfl!
theorem clo_nc : (clo0.scope.names.all fun x => x.2 != .cell) = true := by kernel_rfl!
theorem clo_size : clo0.scope.names.lookup (Str.ofString "size") = some NameKind.local := by kernel_rfl!
theorem read_ok (R : Ready G) {q i j L : Nat} {st : List Nat} {H : AH} {K : AV → AH → Prop} (hq : H q = some (.clos i j)) (hj : H j = some .code) (hi : H i = some (.cell (.ref L))) (hL : H L = some (.list (st.map chA))) (hsz : st.length < sizeLine)
    (h0 : st = [] → ∀ H', Mod [] H H' → K (.str ⟨#[]⟩) H') (h1 : ∀ c r, st = c :: r → ∀ H', Mod [L] H H' → H' L = some (.list (r.map chA)) → K (chA c) H') : CallR G 1 q [.int 1] H K := by
  have hclo := R.clo.clo
  refine clos_enter (gt := gtab) (names := [("size", .local)]) (ps := ["size"]) R.gt hq hj hi (by rw [hclo]; kernel_rfl!) (by rw [hclo]; kernel_rfl!) (by rw [hclo]; kernel_rfl!) (by kernel_rfl!) ?_ ?_ (by rw [hclo]; kernel_rfl!) (by simp) ?_ rfl ?_ fun X hX hsc hkf A m s hA hr hf hc him => ?_
  · intro x k h
    rw [List.lookup_cons] at h
    cases hx : x == ("size" : Str) with
    | true => rw [hx] at h; cases h; rw [beq_iff_eq.mp hx, hclo]; exact ⟨clo_size, (fun q => by cases q), fun q => by cases q⟩
    | false => rw [hx] at h; cases h
  · rw [hclo]
    intro x hx q
    have := all_names clo_nc x hx
    rw [q] at this; cases this
  · intro p hp
    rw [List.mem_singleton.mp hp, hclo]; exact clo_size
  · rw [hclo]; exact clo_bind
  rw [hclo] at hkf hc ⊢
  conv in (ClosD.body _) => whnf
  have load : ∀ (A : Around) (H' : AH) (m' : Mp) (s' : Shared) (pos : Pos), H' i = some (.cell (.ref L)) → m'.f i = m.f i → HR G H' m' s' → LoadAt G A m' s' (eval (.Name ("signs" : Str) pos) X.env) (.ref L) := fun A H' m' s' pos h1 h2 h3 Q hQ =>
    wpAny_Name (load_tcell (σ := ⟨[], H'⟩) hkf (by rw [h2]; exact hc) h1 h3 (by decide +kernel) hQ) (by decide +kernel)
  have hcmp : ∀ (A : Around), OkA 0 A → ∀ pos pos2 pos3, wpAny (model G.prog G.w) A (isTrue (.Compare (.Name ("signs" : Str) pos) [.Eq] [.List [] pos2] pos3) X.env (eval (.Compare (.Name ("signs" : Str) pos) [.Eq] [.List [] pos2] pos3) X.env)) (PostG relB X ⟨_, H⟩ m s fun b σ1 => b = st.isEmpty ∧ ∃ n, H n = Option.none ∧ σ1 = ⟨_, H.upd n (.list [])⟩) NoE s := fun A hA pos pos2 pos3 => by
    refine cmp_at hA hr hf (load A H m s pos hi rfl hr) ?_ rfl
    refine EV.list (EA.nil ⟨Nat.zero_le _, fun n hn => ?_⟩)
    have hne : L ≠ n := fun q => by subst q; cases hL.symm.trans hn
    cases st with
    | nil =>
      refine P2.eqL (d := 0) (xs := []) (ys := []) (fun _ => true) (by decide) (by show (H.upd n _) L = _; rw [AH.upd_ne _ _ hne]; exact hL) (AH.upd_self _ _ _) rfl (fun j hj => by cases hj) ?_
      exact TR.bool ⟨rfl, n, hn, rfl⟩
    | cons c r =>
      refine P2.eqL' (xs := (c :: r).map chA) (ys := []) (by show (H.upd n _) L = _; rw [AH.upd_ne _ _ hne]; exact hL) (AH.upd_self _ _ _) (by simp) ?_
      exact TR.bool ⟨rfl, n, hn, rfl⟩
  refine wpAny_execs_cons (wpAny_If (wpAny_mono (hcmp A hA _ _ _) (fun c s1 q0 => ?_) fun _ _ x => x))
  obtain ⟨b, σ1, m1, ⟨hb, n, hn, eσ⟩, e1, hr1, hf1, hcb⟩ := q0
  subst hcb eσ
  cases st with
  | nil =>
    subst hb
    refine wpAny_execs_cons (wpAny_Return_some (Constant_str ?_))
    exact ⟨.ret (.str ⟨#[]⟩), _, m1, h0 rfl _ (Mod.new [] hn), e1.trans (.grow hr1 (fun _ _ e => e) rfl rfl), hr1.toks _, by simp only [RFl]; exact ⟨_, rfl, rv_str _⟩⟩
  | cons c r =>
    subst hb
    refine wpAny_execs_nil ?_
    have hne : L ≠ n := fun q => by subst q; cases hL.symm.trans hn
    have hni : i ≠ n := fun q => by subst q; cases hi.symm.trans hn
    have hL1 : (H.upd n (.list [])) L = some (.list (chA c :: r.map chA)) := by rw [AH.upd_ne _ _ hne]; exact hL
    refine wpAny_execs_cons (wpAny_Return_some (wpAny_mono (meth_at (K := fun v σ2 => v = chA c ∧ σ2.H = (H.upd n (.list [])).upd L (.list (r.map chA))) PySem.F.plainAttrs_list PySem.F.slot_list_pop PySem.F.type_list_pop hA hr1 hf1 (load A _ m1 s1 _ (by show (H.upd n _) i = _; rw [AH.upd_ne _ _ hni]; exact hi) (e1.f i him) hr1) (Is.list L _ hL1) ?_) (fun cv s2 ⟨v, σ2, m2, ⟨ev, eH⟩, e2, hr2, hf2, hv⟩ => ?_) fun _ _ x => x))
    · refine EA.cons (EV.int (EA.nil ?_))
      exact cv_pop0 hL1 (by rw [List.length_map]; simp at hsz; omega) ⟨rfl, rfl⟩
    · subst ev
      refine ⟨.ret (chA c), σ2.H, m2, h1 c r rfl _ ?_ ?_, e1.trans e2, hr2, by simp only [RFl]; exact ⟨_, rfl, hv⟩⟩
      · rw [eH]
        exact (Mod.new [L] hn).trans' (Mod.turn List.mem_cons_self)
      · rw [eH]; exact AH.upd_self _ _ _
section
variable {X : Cx G} {σ : St} {K : AV → St → Prop} {n n' : Nat} {xs ys : List AV} {i a b : Int} {x : Str}
noncomputable abbrev NewL (K : AV → St → Prop) (σ : St) (xs : List AV) : Prop := ∀ n H', σ.H n = none → Mod [] σ.H H' → H' n = some (.list xs) → K (.ref n) ⟨σ.ρ, H'⟩
theorem ev_listM {es : List PySem.Expr} {pos : Pos} (h : EA X r es σ fun xs σ1 => xs.length ≤ sizeLine ∧ NewL K σ1 xs)
    (ht : backTo pos (starEach es X.env) = es.map fun e => (false, eval e X.env) := by rfl) : EV X r (eval (.List es pos) X.env) σ K :=
  EV.list (EG.mono h fun xs σ1 ⟨h1, h2⟩ => ⟨h1, newM h2⟩) ht
theorem p2_addLM (hn : σ.H n = some (.list xs)) (hn' : σ.H n' = some (.list ys)) (hsz : xs.length + ys.length ≤ sizeLine) (h : NewL K σ (xs ++ ys)) : P2 X r (binaryOp .Add) (.ref n) (.ref n') σ K := P2.addL hn hn' hsz (newM h)
theorem p2_mulLM (hn : σ.H n = some (.list xs)) (h1 : 0 ≤ i) (h2 : i < 2 ^ 24) (h0 : 0 < xs.length) (hsz : xs.length * i.toNat ≤ 2 ^ 24) (h : NewL K σ (List.replicate i.toNat xs).flatten) : P2 X r (binaryOp .Mult) (.ref n) (.int i) σ K := p2_mulL hn h1 h2 h0 hsz (newM h)
theorem cv_listSM (hsz : x.cps.size ≤ sizeLine) (h : NewL K σ ((List.range x.cps.size).map fun i => .str ⟨#[x.cps.getD i 0]⟩)) : CV X r (.type "list") [.str x] σ K := cv_listS hsz (newM h)
theorem cv_listRM (h1 : -(2 ^ 62) ≤ a) (h2 : a < 2 ^ 62) (h3 : -(2 ^ 62) ≤ b) (h4 : b < 2 ^ 62) (hsz : (b - a).toNat ≤ 2 ^ 24) (h : NewL K σ ((List.range (b - a).toNat).map fun (i : Nat) => .int (a + (i : Int)))) : CV X r (.type "list") [.rng a b] σ K := cv_listR h1 h2 h3 h4 hsz (newM h)
end
end WaW2
section WaW3
variable {G : Gx} {r : Nat}
noncomputable def wsS : Str := Str.ofString "\n\t\r "
noncomputable def lexNs (ln : Int) (ins : AV) (p : Nat) : List (Str × AV) := [(Str.ofString "lineno", .int ln), (Str.ofString "instream", ins), (Str.ofString "whitespace", .str wsS), (Str.ofString "pushback", .ref p)]
section
variable {ln x : Int} {ins v : AV} {p q : Nat}
theorem put_lineno : putA (Str.ofString "lineno") (.int x) (lexNs ln ins p) = lexNs x ins p := by kernel_rfl!
theorem put_read : putA (Str.ofString "read") (.ref q) (lexNs ln ins p) = lexNs ln ins p ++ [(Str.ofString "read", .ref q)] := by kernel_rfl!
theorem put1 : putA (Str.ofString "lineno") (.int 1) [] = [(Str.ofString "lineno", .int 1)] := rfl
theorem put2 : putA (Str.ofString "instream") v [(Str.ofString "lineno", .int 1)] = [(Str.ofString "lineno", .int 1), (Str.ofString "instream", v)] := by kernel_rfl!
theorem put3 : putA (Str.ofString "whitespace") (.str (Str.ofString "\n\t\r ")) [(Str.ofString "lineno", .int 1), (Str.ofString "instream", v)] = [(Str.ofString "lineno", .int 1), (Str.ofString "instream", v), (Str.ofString "whitespace", .str wsS)] := by kernel_rfl!
theorem put4 : putA (Str.ofString "pushback") (.ref p) [(Str.ofString "lineno", .int 1), (Str.ofString "instream", v), (Str.ofString "whitespace", .str wsS)] = lexNs 1 v p := by kernel_rfl!
theorem look_lineno : (lexNs ln ins p).lookup (Str.ofString "lineno") = some (.int ln) := by kernel_rfl!
theorem look_instream : (lexNs ln ins p).lookup (Str.ofString "instream") = some ins := by kernel_rfl!
theorem look_whitespace : (lexNs ln ins p).lookup (Str.ofString "whitespace") = some (.str wsS) := by kernel_rfl!
theorem look_pushback : (lexNs ln ins p).lookup (Str.ofString "pushback") = some (.ref p) := by kernel_rfl!
theorem look_readchar : (lexNs ln ins p).lookup (Str.ofString "_read_char") = none := by kernel_rfl!
theorem look_get : (lexNs ln ins p).lookup (Str.ofString "get_token") = none := by kernel_rfl!
theorem look_push : (lexNs ln ins p).lookup (Str.ofString "push_token") = none := by kernel_rfl!
theorem look_read : (lexNs ln ins p ++ [(Str.ofString "read", AV.ref q)]).lookup (Str.ofString "read") = some (.ref q) := by kernel_rfl!
end
theorem init_ok (R : Ready G) {n d : Nat} {fp : AV} {H : AH} {K : AV → AH → Prop} (h1 : H n = some (.inst 5 d)) (h2 : H d = some (.ns []))
    (h : ∀ p H', H p = none → Mod [d] H H' → H' d = some (.ns (lexNs 1 fp p)) → H' p = some (.list []) → K .none H') : CallOK G 1 (G.fv 30) [.ref n, fp] H K := by
  obtain ⟨C, c1, c2, c3, c4, c5, c6, c7, a1, a2, a3, a4, a5⟩ := R.lex.ex
  refine def_call [some (.ref n), some fp] R.d_init R.gt scope_init rfl len_init rfl fun X hX hsc => ?_
  obtain ⟨n1, n2⟩ := nm_init hX
  conv in (bodyOf _) => whnf
  have hnd : n ≠ d := fun q => by subst q; cases h1.symm.trans h2
  refine TS.cons (es_setA ?_ rfl)
  repeat' walk_at "ev"
  refine ⟨n, 5, d, C, [], rfl, ⟨h1, h2, c1⟩, a1, Nat.zero_le _, ?_⟩
  rw [put1]
  refine TS.cons (es_setA ?_ rfl)
  repeat' walk_at "ev"
  refine ⟨n, 5, d, C, _, rfl, ⟨(AH.upd_ne _ _ hnd).trans h1, AH.upd_self _ _ _, c1⟩, a2, (Nat.le_of_ble_eq_true rfl), ?_⟩
  rw [put2]
  refine TS.cons (es_setA ?_ rfl)
  repeat' walk_at "ev"
  refine ⟨n, 5, d, C, _, rfl, ⟨by simp only [AH.upd_ne _ _ hnd]; exact h1, AH.upd_self _ _ _, c1⟩, a3, (Nat.le_of_ble_eq_true rfl), ?_⟩
  rw [put3]
  refine TS.cons (es_setA ?_ rfl)
  refine EV.list (EA.nil ⟨Nat.zero_le _, fun p hp => ?_⟩)
  have hdp : d ≠ p := fun q => by subst q; cases (AH.upd_self _ _ _).symm.trans hp
  have hnp : n ≠ p := fun q => by
    subst q
    have : H n = Option.none := by simpa only [AH.upd_ne _ _ hnd] using hp
    cases h1.symm.trans this
  repeat' walk_at "ev"
  refine ⟨n, 5, d, C, _, rfl, ⟨by simp only [AH.upd_ne _ _ hnd, AH.upd_ne _ _ hnp]; exact h1, (by simp only [AH.upd_ne _ _ hdp]; exact AH.upd_self _ _ _), c1⟩, a4, (Nat.le_of_ble_eq_true rfl), ?_⟩
  rw [put4]
  repeat' walk_at "ev"
  have hp0 : H p = Option.none := by simpa only [AH.upd_ne _ _ (Ne.symm hdp)] using hp
  refine h p _ hp0 ?_ (AH.upd_self _ _ _) ?_
  · have m := fun (H' : AH) (o : AO) => Mod.turn (H := H') (n := d) (o := o) (ds := [d]) List.mem_cons_self
    exact (((m _ _).trans' ((m _ _).trans' (m _ _))).trans' (Mod.new _ hp)).trans' (m _ _)
  · rw [AH.upd_ne _ _ (Ne.symm hdp)]; exact AH.upd_self _ _ _
end WaW3
section WaW4
variable {G : Gx} {r : Nat}
structure LexI where
  d : Nat
  n2 : Nat
  d2 : Nat
  p2 : Nat
  p : Nat
  q : Nat
  i : Nat
  j : Nat
  L : Nat
structure LexS (I : LexI) (H : AH) (n : Nat) (ln : Int) (st : List Nat) (pb : List Str) : Prop where
  i1 : H n = some (.inst 5 I.d)
  i2 : H I.d = some (.ns (lexNs ln (.ref I.n2) I.p))
  i3 : H I.n2 = some (.inst 5 I.d2)
  i4 : H I.d2 = some (.ns (lexNs 1 .none I.p2 ++ [(Str.ofString "read", .ref I.q)]))
  i5 : H I.q = some (.clos I.i I.j)
  i6 : H I.j = some .code
  i7 : H I.i = some (.cell (.ref I.L))
  i8 : H I.L = some (.list (st.map chA))
  i9 : H I.p = some (.list (pb.map .str))
  ne1 : I.d ≠ I.d2
  ne2 : I.L ≠ I.p
  s1 : st.length < 2 ^ 20
  s2 : pb.length < 2 ^ 10
section
variable {I : LexI} {H H' : AH} {n : Nat} {ln : Int} {st : List Nat} {pb : List Str}
theorem LexS.ne {x : Nat} (h : LexS I H n ln st pb) (hx : x = n ∨ x = I.n2 ∨ x = I.d2 ∨ x = I.q ∨ x = I.j ∨ x = I.i) : x ∉ [I.d, I.L, I.p] := by
  intro hm
  simp only [List.mem_cons, List.not_mem_nil, or_false] at hm
  have k1 := h.i1; have k2 := h.i2; have k3 := h.i3; have k4 := h.i4; have k5 := h.i5; have k6 := h.i6; have k7 := h.i7; have k8 := h.i8; have k9 := h.i9; have ne := h.ne1
  rcases hm with q | q | q <;> rcases hx with e | e | e | e | e | e <;> rw [e] at q <;> first
    | (rw [q] at k1; simp_all; done) | (rw [q] at k3; simp_all; done) | (rw [q] at k4; simp_all; done) | (rw [q] at k5; simp_all; done) | (rw [q] at k6; simp_all; done) | (rw [q] at k7; simp_all; done) | exact ne q.symm
theorem LexS.keep {ln' : Int} {st' : List Nat} {pb' : List Str} (h : LexS I H n ln st pb) (hm : Mod [I.d, I.L, I.p] H H') (h2 : H' I.d = some (.ns (lexNs ln' (.ref I.n2) I.p))) (h8 : H' I.L = some (.list (st'.map chA))) (h9 : H' I.p = some (.list (pb'.map .str))) (hs : st'.length < 2 ^ 20) (hp : pb'.length < 2 ^ 10) : LexS I H' n ln' st' pb' where
  i1 := hm _ _ h.i1 (h.ne (.inl rfl))
  i2 := h2
  i3 := hm _ _ h.i3 (h.ne (.inr (.inl rfl)))
  i4 := hm _ _ h.i4 (h.ne (.inr (.inr (.inl rfl))))
  i5 := hm _ _ h.i5 (h.ne (.inr (.inr (.inr (.inl rfl)))))
  i6 := hm _ _ h.i6 (h.ne (.inr (.inr (.inr (.inr (.inl rfl))))))
  i7 := hm _ _ h.i7 (h.ne (.inr (.inr (.inr (.inr (.inr rfl))))))
  i8 := h8
  i9 := h9
  ne1 := h.ne1
  ne2 := h.ne2
  s1 := hs
  s2 := hp
theorem LexS.mod (h : LexS I H n ln st pb) (hm : Mod [] H H') : LexS I H' n ln st pb :=
  h.keep (hm.mono (by simp)) (hm _ _ h.i2 (by simp)) (hm _ _ h.i8 (by simp)) (hm _ _ h.i9 (by simp)) h.s1 h.s2
theorem LexS.mod' {ds : List Nat} (h : LexS I H n ln st pb) (hm : Mod ds H H') (hd : ∀ x ∈ ds, H x = none) : LexS I H' n ln st pb :=
  h.mod fun x o e _ => hm x o e fun q => by rw [hd x q] at e; cases e
end
theorem read_char_ok (R : Ready G) {I : LexI} {n : Nat} {ln : Int} {st : List Nat} {pb : List Str} {H : AH} {K : AV → AH → Prop} (hl : LexS I H n ln st pb)
    (h0 : st = [] → ∀ H', Mod [] H H' → K (.str ⟨#[]⟩) H') (h1 : ∀ c r, st = c :: r → ∀ H', Mod [I.d, I.L] H H' → LexS I H' n (if c = 10 then ln + 1 else ln) r pb → K (chA c) H') : CallOK G 2 (G.fv 31) [.ref n] H K := by
  obtain ⟨C, c1, c2, c3, c4, c5, c6, c7, a1, a2, a3, a4, a5⟩ := R.lex.ex
  refine def_call [some (.ref n), none] R.d_read_char R.gt scope_read_char rfl len_read_char rfl fun X hX hsc => ?_
  obtain ⟨n1, n2⟩ := nm_read_char hX
  conv in (bodyOf _) => whnf
  repeat' walk_at "ev"
  refine ev_methOwn ?_
  refine ev_attr ?_
  repeat' walk_at "ev"
  refine ⟨n, 5, I.d, C, _, .ref I.n2, rfl, ⟨hl.i1, hl.i2, c1⟩, a2, look_instream, trivial, ?_⟩
  refine ⟨I.n2, 5, I.d2, C, _, I.q, I.i, I.j, rfl, ⟨hl.i3, hl.i4, c1⟩, a5, look_read, hl.i5, ?_⟩
  repeat' walk_at "ev"
  refine ⟨⟨_, _, hl.i5⟩, ?_⟩
  refine CVR.of (read_ok R hl.i5 hl.i6 hl.i7 hl.i8 (Nat.lt_trans hl.s1 (by decide)) (fun e H' hm => ?_) fun c r e H' hm hL => ?_) (Nat.le_refl _)
  · repeat' walk_at "ev"
    refine ⟨fun hc => ?_, fun _ => ?_⟩
    · exact absurd hc (by decide +kernel)
    · repeat' walk_at "ev"
      exact h0 e H' hm
  · repeat' walk_at "ev"
    have hl' : LexS I H' n ln r pb := by
      subst e
      refine hl.keep (hm.mono (by simp)) (hm _ _ hl.i2 ?_) hL (hm _ _ hl.i9 ?_) (by have := hl.s1; simp at this; omega) hl.s2
      · intro q
        have := hl.i2
        rw [List.mem_singleton.mp q, hl.i8] at this; cases this
      · intro q; exact hl.ne2 (List.mem_singleton.mp q).symm
    refine ⟨fun hc => ?_, fun hc => ?_⟩
    · have ec : c = 10 := by
        have := beq_iff_eq.mp hc
        rw [nl_eq] at this
        have := congrArg Str.cps this
        simpa using this
      repeat' walk_at "ev"
      refine es_augA ?_
      repeat' walk_at "ev"
      refine ⟨n, 5, I.d, C, _, .int ln, rfl, ⟨hl'.i1, hl'.i2, c1⟩, a1, look_lineno, trivial, ?_⟩
      repeat' walk_at "ev"
      refine ⟨_, ⟨hl'.i1, hl'.i2, c1⟩, (Nat.le_of_ble_eq_true rfl), ?_⟩
      rw [put_lineno]
      repeat' walk_at "ev"
      refine h1 c r e _ ((hm.mono (by simp)).trans' (Mod.turn (by simp))) ?_
      rw [if_pos ec]
      refine hl'.keep (Mod.turn (by simp)) (AH.upd_self _ _ _) ?_ ?_ hl'.s1 hl'.s2
      · rw [AH.upd_ne]; exact hl'.i8
        intro q; have := hl'.i8; rw [q, hl'.i2] at this; cases this
      · rw [AH.upd_ne]; exact hl'.i9
        intro q; have := hl'.i9; rw [q, hl'.i2] at this; cases this
    · repeat' walk_at "ev"
      refine h1 c r e H' (hm.mono (by simp)) ?_
      rw [if_neg]; exact hl'
      intro q; subst q; revert hc; decide +kernel
end WaW4
section WaW5
variable {G : Gx} {r : Nat}
theorem p2_inC {X : Cx G} {σ : St} {K : AV → St → Prop} {x : Str} {c : Nat} (h : K (.bool (decide (c ∈ x.cps.toList))) σ) : P2 X r (compareOp .In) (chA c) (.str x) σ K :=
  P2.inS (by rw [PySem.StrLaws.found_one]; exact h)
noncomputable def isWs (c : Nat) : Bool := decide (c ∈ [10, 9, 13, 32])
noncomputable def lexQ : List Nat → List Nat → Option (List Nat × List Nat)
  | _, [] => none
  | acc, c :: r => if c = 34 then some (acc, r) else if c = 92 then (match r with
      | [] => none
      | c2 :: r2 => lexQ (acc ++ [c2]) r2) else lexQ (acc ++ [c]) r
noncomputable def lexW : List Nat → List Nat → Option (List Nat × List Nat)
  | _, [] => none
  | acc, c :: r => if isWs c then some (acc, r) else if c = 92 then (match r with
      | [] => none
      | c2 :: r2 => lexW (acc ++ [c2]) r2) else lexW (acc ++ [c]) r
noncomputable def lex0 : List Nat → Option (List Nat × List Nat)
  | [] => some ([], [])
  | c :: r => if isWs c then lex0 r else if c = 34 then lexQ [] r else if c = 92 then (match r with
      | [] => none
      | c2 :: r2 => lexW [c2] r2) else lexW [c] r
noncomputable def nls (st : List Nat) : Int := ((st.filter (· == 10)).length : Nat)
theorem nls_cons (c : Nat) (r : List Nat) : nls (c :: r) = nls r + (if c = 10 then 1 else 0) := by
  unfold nls
  rw [List.filter_cons]
  by_cases h : c = 10 <;> simp [h]
theorem wsS_eq : wsS.cps.toList = [10, 9, 13, 32] := by decide +kernel
theorem quo_eq : Str.ofString "\"" = ⟨#[34]⟩ := by decide +kernel
theorem bsl_eq : Str.ofString "\\" = ⟨#[92]⟩ := by decide +kernel
theorem emp_eq : Str.ofString "" = ⟨#[]⟩ := by decide +kernel
theorem ch_beq (a b : Nat) : ((⟨#[a]⟩ : Str) == ⟨#[b]⟩) = decide (a = b) := by
  by_cases h : a = b
  · subst h; simp
  · rw [decide_eq_false h]
    apply beq_false_of_ne
    intro q; exact h (by simpa using congrArg Str.cps q)
theorem app_ch (l : List Nat) (c : Nat) : (⟨l.toArray⟩ : Str) ++ (⟨#[c]⟩ : Str) = ⟨(l ++ [c]).toArray⟩ := by
  show (⟨l.toArray ++ #[c]⟩ : Str) = _
  simp
noncomputable abbrev S (l : List Nat) : Str := ⟨l.toArray⟩
theorem inter_fn (X : Cx G) : interactive X.env = false := by unfold interactive; rw [X.kind]; rfl
theorem push_token_ok (R : Ready G) {I : LexI} {n : Nat} {ln : Int} {st : List Nat} {pb : List Str} {t : Str} {H : AH} {K : AV → AH → Prop} (hl : LexS I H n ln st pb) (hp : pb.length + 1 < 2 ^ 10)
    (h : ∀ H', Mod [I.p] H H' → LexS I H' n ln st (pb ++ [t]) → K .none H') : CallOK G 1 (G.fv 33) [.ref n, .str t] H K := by
  obtain ⟨C, c1, c2, c3, c4, c5, c6, c7, a1, a2, a3, a4, a5⟩ := R.lex.ex
  refine def_call [some (.ref n), some (.str t)] R.d_push_token R.gt scope_push_token rfl len_push_token rfl fun X hX hsc => ?_
  obtain ⟨n1, n2⟩ := nm_push_token hX
  conv in (bodyOf _) => whnf
  refine TS.cons (ES.expr ?_ (inter_fn X) rfl)
  refine EV.meth PySem.F.plainAttrs_list PySem.F.slot_list_append PySem.F.type_list_append ?_
  refine ev_attr ?_
  repeat' walk_at "ev"
  refine ⟨n, 5, I.d, C, _, .ref I.p, rfl, ⟨hl.i1, hl.i2, c1⟩, a4, look_pushback, trivial, ?_⟩
  refine ⟨Is.list _ _ hl.i9, ?_⟩
  repeat' walk_at "ev"
  refine CV.append hl.i9 (by rw [List.length_map]; exact Nat.le_of_lt (Nat.lt_trans hl.s2 (by decide))) ⟨rfl, ?_⟩
  repeat' walk_at "ev"
  refine h _ (Mod.turn List.mem_cons_self) (hl.keep (Mod.turn (by simp)) ?_ ?_ ?_ hl.s1 (by simpa using hp))
  · rw [AH.upd_ne]; exact hl.i2
    intro q; have := hl.i9; rw [← q, hl.i2] at this; cases this
  · rw [AH.upd_ne]; exact hl.i8
    exact hl.ne2
  · rw [AH.upd_self]; simp
end WaW5
section WaW6
variable {G : Gx} {r : Nat}
theorem get_token_pb (R : Ready G) {I : LexI} {n : Nat} {ln : Int} {st : List Nat} {pb : List Str} {t : Str} {H : AH} {K : AV → AH → Prop} (hl : LexS I H n ln st (t :: pb))
    (h : ∀ H', Mod [I.p] H H' → LexS I H' n ln st pb → K (.str t) H') : CallOK G 4 (G.fv 32) [.ref n] H K := by
  obtain ⟨C, c1, c2, c3, c4, c5, c6, c7, a1, a2, a3, a4, a5⟩ := R.lex.ex
  refine def_call [some (.ref n), none, none, none, none] R.d_get_token R.gt scope_get_token rfl len_get_token rfl fun X hX hsc => ?_
  obtain ⟨n1, n2, n3, n4, n5⟩ := nm_get_token hX
  conv in (bodyOf _) => whnf
  refine TS.cons (ES.if_ (ET.val ?_))
  refine ev_attr ?_
  repeat' walk_at "ev"
  refine ⟨n, 5, I.d, C, _, .ref I.p, rfl, ⟨hl.i1, hl.i2, c1⟩, a4, look_pushback, trivial, ?_⟩
  refine tr_list hl.i9 (by rw [List.length_map]; exact Nat.le_of_lt (Nat.lt_trans hl.s2 (by decide))) ?_
  refine ⟨fun _ => ?_, (fun e => by simp at e)⟩
  refine ES.cons (ES.ret ?_)
  refine EV.meth PySem.F.plainAttrs_list PySem.F.slot_list_pop PySem.F.type_list_pop ?_
  refine ev_attr ?_
  repeat' walk_at "ev"
  refine ⟨n, 5, I.d, C, _, .ref I.p, rfl, ⟨hl.i1, hl.i2, c1⟩, a4, look_pushback, trivial, ?_⟩
  refine ⟨Is.list _ _ hl.i9, ?_⟩
  repeat' walk_at "ev"
  have hs := hl.s2
  refine cv_pop0 hl.i9 (by rw [List.length_map]; simp at hs; exact Nat.lt_trans (Nat.lt_trans (Nat.lt_succ_self _) hs) (by decide)) ?_
  refine h _ (Mod.turn List.mem_cons_self) (hl.keep (Mod.turn (by simp)) ?_ ?_ (AH.upd_self _ _ _) hl.s1 (by simp at hs; omega))
  · dsimp only; rw [AH.upd_ne]; exact hl.i2
    intro q; have := hl.i9; rw [← q, hl.i2] at this; cases this
  · dsimp only; rw [AH.upd_ne]; exact hl.i8
    exact hl.ne2
structure InTok (I : LexI) (H0 H : AH) (n : Nat) (ln : Int) (st0 st : List Nat) (q c : Nat) : Prop where
  lex : LexS I H n (ln + nls st0 - nls st) st []
  it : H q = some (.citer c ⟨#[]⟩ false)
  mt : H c = some (.meth 31 n)
  mod : Mod [I.d, I.L] H0 H
  q0 : H0 q = none
theorem InTok.read {I : LexI} {H0 H H' : AH} {n : Nat} {ln : Int} {st0 st : List Nat} {q c ch : Nat} (x : InTok I H0 H n ln st0 (ch :: st) q c) (hm : Mod [I.d, I.L] H H') (hl : LexS I H' n (if ch = 10 then (ln + nls st0 - nls (ch :: st)) + 1 else (ln + nls st0 - nls (ch :: st))) st []) : InTok I H0 H' n ln st0 st q c where
  lex := by
    rw [nls_cons] at hl
    by_cases h : ch = 10
    · rw [if_pos h, if_pos h] at hl
      rwa [show ln + nls st0 - (nls st + 1) + 1 = ln + nls st0 - nls st by omega] at hl
    · rw [if_neg h, if_neg h] at hl
      rwa [Int.add_zero] at hl
  it := hm _ _ x.it (by
    intro hq
    simp only [List.mem_cons, List.not_mem_nil, or_false] at hq
    rcases hq with hq | hq
    · have := x.it; rw [hq, x.lex.i2] at this; cases this
    · have := x.it; rw [hq, x.lex.i8] at this; cases this)
  mt := hm _ _ x.mt (by
    intro hq
    simp only [List.mem_cons, List.not_mem_nil, or_false] at hq
    rcases hq with hq | hq
    · have := x.mt; rw [hq, x.lex.i2] at this; cases this
    · have := x.mt; rw [hq, x.lex.i8] at this; cases this)
  mod := x.mod.trans' hm
  q0 := x.q0
theorem next_sign (R : Ready G) {X : Cx G} {I : LexI} {σ : St} {H0 : AH} {n : Nat} {ln : Int} {st0 st : List Nat} {q c : Nat} {KO : Option AV → St → Prop} (x : InTok I H0 σ.H n ln st0 st q c)
    (h0 : st = [] → ∀ H', Mod [I.d, I.L] H0 H' → LexS I H' n (ln + nls st0) [] [] → KO none ⟨σ.ρ, H'⟩) (h1 : ∀ ch r, st = ch :: r → ∀ H', InTok I H0 H' n ln st0 r q c → KO (some (chA ch)) ⟨σ.ρ, H'⟩) : EN X 3 q σ KO := by
  obtain ⟨C, c1, c2, c3, c4, ⟨f, o, fd, g1, g2, g3, g4, g5, g6, g7, g8⟩, c6, c7, a1, a2, a3, a4, a5⟩ := R.lex.ex
  refine EN.citer x.it x.mt g1 g7 g8 (read_char_ok R x.lex (fun e H' hm => ?_) fun ch r e H' hm hl => ?_)
  · subst e
    have hq : H' q = some (.citer c ⟨#[]⟩ false) := hm _ _ x.it (by simp)
    refine ⟨⟨#[]⟩, rfl, hq, hm _ _ x.mt (by simp), fun _ => ?_, fun e => by simp at e⟩
    have hl' := x.lex.mod hm
    have hnq : ∀ y o, H' y = some o → (∀ c x d, o ≠ .citer c x d) → y ≠ q := fun y o e hne h2 => by
      rw [h2, hq] at e; cases e; exact hne _ _ _ rfl
    have m2 : Mod [I.d, I.L] H0 (H'.upd q (.citer c ⟨#[]⟩ true)) := fun y o' e hy => by
      have e' := hm _ _ (x.mod y o' e hy) (by simp)
      rw [AH.upd_ne]; exact e'
      intro h2; rw [h2, x.q0] at e; cases e
    refine h0 rfl _ m2 ?_
    have hl'' : LexS I H' n (ln + nls st0) [] [] := by
      have : nls [] = 0 := rfl
      rwa [this, Int.sub_zero] at hl'
    have up : ∀ {y : Nat} {o : AO}, H' y = some o → (∀ c x d, o ≠ .citer c x d) → (H'.upd q (.citer c ⟨#[]⟩ true)) y = some o := fun {y o} e hne => by
      rw [AH.upd_ne]; exact e
      exact hnq y o e hne
    exact ⟨up hl''.i1 (by simp), up hl''.i2 (by simp), up hl''.i3 (by simp), up hl''.i4 (by simp), up hl''.i5 (by simp), up hl''.i6 (by simp), up hl''.i7 (by simp), up hl''.i8 (by simp), up hl''.i9 (by simp), hl''.ne1, hl''.ne2, hl''.s1, hl''.s2⟩
  · subst e
    have x' := x.read hm hl
    exact ⟨⟨#[ch]⟩, rfl, x'.it, x'.mt, (fun e => by simp at e), fun _ => h1 ch r rfl H' x'⟩
end WaW6
section WaW7
variable {G : Gx} {r : Nat}
theorem len_ok {l : List Nat} {c : Nat} (h : l.length < 2 ^ 20) : (S l).length + (⟨#[c]⟩ : Str).length ≤ sizeLine := by
  show l.toArray.size + 1 ≤ 16777216
  rw [List.size_toArray]; omega
noncomputable def tokJ1 (I : LexI) (H : AH) (n : Nat) (ln : Int) (st t rest : List Nat) (q c : Nat) : Nat → St → Prop :=
  fun k σ => ∃ st' u, σ.ρ = [some (.ref n), some (.str ⟨#[]⟩), some (.ref q), u, none] ∧ InTok I H σ.H n ln st st' q c ∧ lex0 st' = some (t, rest) ∧ st'.length = k
noncomputable def tokJ2 (I : LexI) (H : AH) (n : Nat) (ln : Int) (st t rest : List Nat) (q c : Nat) : Nat → St → Prop :=
  fun k σ => ∃ st' tok u, σ.ρ = [some (.ref n), some (.str (S tok)), some (.ref q), u, none] ∧ InTok I H σ.H n ln st st' q c ∧ lexQ tok st' = some (t, rest) ∧ tok.length + st'.length < 2 ^ 20 ∧ st'.length = k
noncomputable def tokJ3 (I : LexI) (H : AH) (n : Nat) (ln : Int) (st t rest : List Nat) (q c : Nat) : Nat → St → Prop :=
  fun k σ => ∃ st' tok u, σ.ρ = [some (.ref n), some (.str (S tok)), some (.ref q), u, none] ∧ InTok I H σ.H n ln st st' q c ∧ lexW tok st' = some (t, rest) ∧ tok.length + st'.length ≤ 2 ^ 20 ∧ st'.length = k
noncomputable def tokK1 (I : LexI) (H H3 : AH) (n : Nat) (ln : Int) (st t rest tok r2 : List Nat) (q c ch2 : Nat) : AF → St → Prop :=
  fun fl σ1 => (fl = AF.ret (.str (S tok)) ∧ ch2 = 34 ∧ σ1.H = H3) ∨ (fl = AF.next ∧ ∃ cc r3, σ1.ρ = [some (.ref n), some (.str (S tok)), some (.ref q), some (chA cc), none] ∧ InTok I H σ1.H n ln st r3 q c ∧ lexQ (tok ++ [cc]) r3 = some (t, rest) ∧ r3.length ≤ r2.length)
noncomputable def tokK2 (I : LexI) (H : AH) (n : Nat) (ln : Int) (st t rest r' : List Nat) (q c : Nat) : AF → St → Prop :=
  fun fl σ1 => fl = AF.next ∧ ∃ cc r3, σ1.ρ = [some (.ref n), some (.str ⟨#[]⟩), some (.ref q), some (chA cc), none] ∧ InTok I H σ1.H n ln st r3 q c ∧ lexW [cc] r3 = some (t, rest) ∧ r3.length ≤ r'.length
noncomputable def tokK3 (I : LexI) (H H3 : AH) (n : Nat) (ln : Int) (st t rest tok r2 : List Nat) (q c ch2 : Nat) : AF → St → Prop :=
  fun fl σ1 => (fl = AF.ret (.str (S tok)) ∧ isWs ch2 = true ∧ σ1.H = H3) ∨ (fl = AF.next ∧ ∃ cc r3, σ1.ρ = [some (.ref n), some (.str (S tok)), some (.ref q), some (chA cc), none] ∧ InTok I H σ1.H n ln st r3 q c ∧ lexW (tok ++ [cc]) r3 = some (t, rest) ∧ r3.length ≤ r2.length)
theorem get_token_lex (R : Ready G) {I : LexI} {n : Nat} {ln : Int} {st t rest : List Nat} {H : AH} {K : AV → AH → Prop} (hl : LexS I H n ln st []) (hx : lex0 st = some (t, rest))
    (h : ∀ H', Mod [I.d, I.L] H H' → LexS I H' n (ln + nls st - nls rest) rest [] → K (.str (S t)) H') : CallOK G 4 (G.fv 32) [.ref n] H K := by
  obtain ⟨C, c1, c2, c3, c4, ⟨f, o, fd, g1, g2, g3, g4, g5, g6, g7, g8⟩, c6, c7, a1, a2, a3, a4, a5⟩ := R.lex.ex
  have vi := R.v_iter
  refine def_call [some (.ref n), none, none, none, none] R.d_get_token R.gt scope_get_token rfl len_get_token rfl fun X hX hsc => ?_
  obtain ⟨n1, n2, n3, n4, n5⟩ := nm_get_token hX
  conv in (bodyOf _) => whnf
  refine TS.cons (ES.if_ (ET.val ?_))
  refine ev_attr ?_
  repeat' walk_at "ev"
  refine ⟨n, 5, I.d, C, _, .ref I.p, rfl, ⟨hl.i1, hl.i2, c1⟩, a4, look_pushback, trivial, ?_⟩
  refine tr_list hl.i9 (Nat.zero_le _) ?_
  refine ⟨(fun e => by simp at e), fun _ => ?_⟩
  repeat' walk_at "ev"
  refine ev_bound ?_
  repeat' walk_at "ev"
  refine ⟨n, 5, I.d, C, _, f, 31, rfl, ⟨hl.i1, hl.i2, c1⟩, g2, g3, g5, g6, (by decide +kernel), look_readchar, g1, fun c hc => ?_⟩
  repeat' walk_at "ev"
  rw [emp_eq]
  refine CV.iter2 (AH.upd_self _ _ _) fun q hq => ?_
  dsimp only at hc hq ⊢
  have hqc : q ≠ c := fun e => by subst e; rw [AH.upd_self] at hq; cases hq
  have hq0 : H q = none := by rwa [AH.upd_ne _ _ hqc] at hq
  have hm0 : Mod [] H ((H.upd c (.meth 31 n)).upd q (.citer c ⟨#[]⟩ false)) := (Mod.new [] hc).trans' (Mod.new [] hq)
  have x0 : InTok I H ((H.upd c (.meth 31 n)).upd q (.citer c ⟨#[]⟩ false)) n ln st st q c :=
    ⟨by rw [Int.add_sub_cancel]; exact hl.mod hm0, AH.upd_self _ _ _, by rw [AH.upd_ne _ _ (Ne.symm hqc)]; exact AH.upd_self _ _ _, hm0.mono (by simp), hq0⟩
  refine TS.cons (es_forC n4 ?_)
  repeat' walk_at "ev"
  refine ⟨q, c, ⟨#[]⟩, false, rfl, AH.upd_self _ _ _, (tokJ1 I H n ln st t rest q c), st.length, ⟨st, none, rfl, x0, hx, rfl⟩, ?_⟩
  rintro k ⟨ρ, H1⟩ ⟨st', u, hρ, x1, hx1, hk⟩
  dsimp only at hρ x1
  subst hρ
  refine next_sign R x1 (fun e H' hm hl' => ?_) fun ch r' e H' x2 => ?_
  · subst e
    cases hx1
    repeat' walk_at "ev"
    refine h H' hm ?_
    have : nls [] = 0 := rfl
    rwa [this, Int.sub_zero]
  subst e
  repeat' walk_at "ev"
  refine ev_attr ?_
  repeat' walk_at "ev"
  refine ⟨n, 5, I.d, C, _, _, rfl, ⟨x2.lex.i1, x2.lex.i2, c1⟩, a3, look_whitespace, trivial, ?_⟩
  refine p2_inC ?_
  rw [wsS_eq]
  repeat' walk_at "ev"
  have hx2 := hx1
  unfold lex0 at hx2
  refine ⟨fun hw => ?_, fun hw => ?_⟩
  · -- a white sign
    have hw : isWs ch = true := hw
    repeat' walk_at "ev"
    rw [if_pos hw] at hx2
    exact ⟨_, by rw [← hk]; exact Nat.lt_succ_self _, r', _, rfl, x2, hx2, rfl⟩
  have hw : isWs ch = false := hw
  rw [if_neg (ne_true_of_eq_false hw)] at hx2
  repeat' walk_at "ev"
  have readc : ∀ {H2 : AH} {r2 : List Nat} {tok : Str} {u : Option AV} {KK : AV → St → Prop} {pos pos2 pos3 : Pos}, InTok I H H2 n ln st r2 q c → (pos2.endLine == pos3.line) = true → (∀ c2 r3 H3, r2 = c2 :: r3 → InTok I H H3 n ln st r3 q c → KK (chA c2) ⟨[some (.ref n), some (.str tok), some (.ref q), u, none], H3⟩) → r2 ≠ [] →
      EV X 3 (eval (.Call (.Attribute (.Name (Str.ofString "self") pos) (Str.ofString "_read_char") pos2) [] [] pos3) X.env) ⟨[some (.ref n), some (.str tok), some (.ref q), u, none], H2⟩ KK := by
    intro H2 r2 tok u KK pos pos2 pos3 y hpos hk1 hne
    refine ev_methI ?_ (by rfl) hpos
    repeat' walk_at "ev"
    refine ⟨n, 5, I.d, C, _, f, 31, rfl, ⟨y.lex.i1, y.lex.i2, c1⟩, g2, g3, look_readchar, g1, g4, ?_⟩
    repeat' walk_at "ev"
    refine CV.of (read_char_ok R y.lex (fun e => absurd e hne) fun c2 r3 e H3 hm3 hl3 => ?_) (by omega)
    subst e
    exact hk1 c2 r3 H3 rfl (y.read hm3 hl3)
  have hlen : ∀ {H2 : AH} {r2 : List Nat}, InTok I H H2 n ln st r2 q c → r2.length < 2 ^ 20 := fun y => y.lex.s1
  refine ⟨fun hq => ?_, fun hq => ?_⟩
  · -- quoted
    rw [quo_eq, ch_beq, decide_eq_true_eq] at hq
    rw [if_pos hq] at hx2
    refine ES.cons (es_forC n4 ?_)
    repeat' walk_at "ev"
    refine ⟨q, c, ⟨#[]⟩, false, rfl, x2.it, (tokJ2 I H n ln st t rest q c), r'.length, ⟨r', [], some (chA ch), rfl, x2, hx2, by rw [List.length_nil, Nat.zero_add]; exact hlen x2, rfl⟩, ?_⟩
    rintro k2 ⟨ρ2, H2⟩ ⟨st2, tok, u2, hρ2, y, hy, hsz, hk2⟩
    dsimp only at hρ2 y
    subst hρ2
    refine next_sign R y (fun e => by rw [e] at hy; cases hy) fun ch2 r2 e H3 y2 => ?_
    subst e
    unfold lexQ at hy
    rw [List.length_cons] at hsz hk2
    refine ES.cons (EG.mono (K := (tokK1 I H H3 n ln st t rest tok r2 q c ch2)) ?_ ?_)
    · repeat' walk_at "ev"
      refine ⟨fun h34 => ?_, fun h34 => ?_⟩
      · rw [quo_eq, ch_beq, decide_eq_true_eq] at h34
        repeat' walk_at "ev"
        exact .inl ⟨rfl, h34, rfl⟩
      rw [quo_eq, ch_beq, decide_eq_false_iff_not] at h34
      rw [if_neg h34] at hy
      repeat' walk_at "ev"
      refine ⟨fun h92 => ?_, fun h92 => ?_⟩
      · rw [bsl_eq, ch_beq, decide_eq_true_eq] at h92
        rw [if_pos h92] at hy
        repeat' walk_at "ev"
        refine readc y2 rfl (fun c2 r3 H4 e y3 => ?_) (fun e => by rw [e] at hy; cases hy)
        subst e
        repeat' walk_at "ev"
        exact .inr ⟨rfl, c2, r3, rfl, y3, hy, Nat.le_succ _⟩
      · rw [bsl_eq, ch_beq, decide_eq_false_iff_not] at h92
        rw [if_neg h92] at hy
        repeat' walk_at "ev"
        exact .inr ⟨rfl, ch2, r2, rfl, y2, hy, Nat.le_refl _⟩
    · rintro fl ⟨ρ3, H4⟩ (⟨rfl, e34, eH⟩ | ⟨rfl, cc, r3, hρ3, y3, hy3, hl3⟩)
      · dsimp only at eH
        subst eH
        rw [if_pos e34] at hy
        cases hy
        exact h _ y2.mod y2.lex
      · dsimp only at hρ3 y3
        subst hρ3
        repeat' walk_at "ev"
        case hsz => exact len_ok (by omega)
        refine ⟨r3.length, by omega, r3, tok ++ [cc], some (chA cc), ?_, y3, hy3, ?_, rfl⟩
        · rw [show S tok ++ (⟨#[cc]⟩ : Str) = S (tok ++ [cc]) from app_ch tok cc]; rfl
        · rw [List.length_append, List.length_singleton]; omega
  · -- bare
    rw [quo_eq, ch_beq, decide_eq_false_iff_not] at hq
    rw [if_neg hq] at hx2
    refine ES.cons (EG.mono (K := (tokK2 I H n ln st t rest r' q c)) ?_ ?_)
    · repeat' walk_at "ev"
      refine ⟨fun h92 => ?_, fun h92 => ?_⟩
      · rw [bsl_eq, ch_beq, decide_eq_true_eq] at h92
        rw [if_pos h92] at hx2
        repeat' walk_at "ev"
        refine readc x2 rfl (fun c2 r3 H4 e y3 => ?_) (fun e => by rw [e] at hx2; cases hx2)
        subst e
        repeat' walk_at "ev"
        exact ⟨rfl, c2, r3, rfl, y3, hx2, Nat.le_succ _⟩
      · rw [bsl_eq, ch_beq, decide_eq_false_iff_not] at h92
        rw [if_neg h92] at hx2
        repeat' walk_at "ev"
        exact ⟨rfl, ch, r', rfl, x2, hx2, Nat.le_refl _⟩
    rintro fl ⟨ρ3, H4⟩ ⟨rfl, cc, r3, hρ3, y3, hy3, hl3⟩
    dsimp only at hρ3 y3
    subst hρ3
    repeat' walk_at "ev"
    case hsz => exact len_ok (l := []) (by decide)
    refine es_forC n4 ?_
    repeat' walk_at "ev"
    refine ⟨q, c, ⟨#[]⟩, false, rfl, y3.it, (tokJ3 I H n ln st t rest q c), r3.length, ⟨r3, [cc], some (chA cc), ?_, y3, hy3, by rw [List.length_singleton]; have := hlen y3; omega, rfl⟩, ?_⟩
    · rw [show (⟨#[]⟩ : Str) ++ (⟨#[cc]⟩ : Str) = S [cc] from app_ch [] cc]; rfl
    rintro k2 ⟨ρ2, H2⟩ ⟨st2, tok, u2, hρ2, y, hy, hsz, hk2⟩
    dsimp only at hρ2 y
    subst hρ2
    refine next_sign R y (fun e => by rw [e] at hy; cases hy) fun ch2 r2 e H3 y2 => ?_
    subst e
    unfold lexW at hy
    rw [List.length_cons] at hsz hk2
    refine ES.cons (EG.mono (K := (tokK3 I H H3 n ln st t rest tok r2 q c ch2)) ?_ ?_)
    · repeat' walk_at "ev"
      refine ev_attr ?_
      repeat' walk_at "ev"
      refine ⟨n, 5, I.d, C, _, _, rfl, ⟨y2.lex.i1, y2.lex.i2, c1⟩, a3, look_whitespace, trivial, ?_⟩
      refine p2_inC ?_
      rw [wsS_eq]
      repeat' walk_at "ev"
      refine ⟨fun hws => ?_, fun hws => ?_⟩
      · repeat' walk_at "ev"
        exact .inl ⟨rfl, hws, rfl⟩
      have hws : isWs ch2 = false := hws
      rw [if_neg (ne_true_of_eq_false hws)] at hy
      repeat' walk_at "ev"
      refine ⟨fun h92 => ?_, fun h92 => ?_⟩
      · rw [bsl_eq, ch_beq, decide_eq_true_eq] at h92
        rw [if_pos h92] at hy
        repeat' walk_at "ev"
        refine readc y2 rfl (fun c2 r3 H4 e y3 => ?_) (fun e => by rw [e] at hy; cases hy)
        subst e
        repeat' walk_at "ev"
        exact .inr ⟨rfl, c2, r3, rfl, y3, hy, Nat.le_succ _⟩
      · rw [bsl_eq, ch_beq, decide_eq_false_iff_not] at h92
        rw [if_neg h92] at hy
        repeat' walk_at "ev"
        exact .inr ⟨rfl, ch2, r2, rfl, y2, hy, Nat.le_refl _⟩
    · rintro fl ⟨ρ3, H4⟩ (⟨rfl, e34, eH⟩ | ⟨rfl, cc2, r4, hρ3, y4, hy4, hl4⟩)
      · dsimp only at eH
        subst eH
        rw [if_pos e34] at hy
        cases hy
        exact h _ y2.mod y2.lex
      · dsimp only at hρ3 y4
        subst hρ3
        repeat' walk_at "ev"
        case hsz => exact len_ok (by omega)
        refine ⟨r4.length, by omega, r4, tok ++ [cc2], some (chA cc2), ?_, y4, hy4, ?_, rfl⟩
        · rw [show S tok ++ (⟨#[cc2]⟩ : Str) = S (tok ++ [cc2]) from app_ch tok cc2]; rfl
        · rw [List.length_append, List.length_singleton]; omega
end WaW7
section WaW8
variable {G : Gx} {r : Nat}
theorem EP.none {X : Cx G} {σ : St} {K : Option Int → St → Prop} (h : K Option.none σ) : EP X r Option.none σ K := h
theorem EP.some {X : Cx G} {σ : St} {e : PySem.Expr} {K : Option Int → St → Prop} (h : EV X r (eval e X.env) σ fun v σ1 => ∃ i, v = .int i ∧ K (Option.some i) σ1) : EP X r (Option.some e) σ K := h
theorem S_len (l : List Nat) : (S l).length = l.length := by show l.toArray.size = _; rw [List.size_toArray]
theorem clip_nat (n k : Nat) : clipAt n (k : Int) = min k n := by
  have := clipAt_cast n (k : Int)
  rw [if_neg (by omega)] at this
  omega
theorem slice_S (l : List Nat) (a b : Nat) : subS (S l) (min a l.length) (min b l.length) = S ((l.drop a).take (b - a)) := by
  unfold subS
  congr 2
  rw [show (S l).cps.toList = l from rfl]
  by_cases ha : a ≤ l.length
  · rw [Nat.min_eq_left ha]
    by_cases hb : b ≤ l.length
    · rw [Nat.min_eq_left hb]
    · rw [Nat.min_eq_right (show l.length ≤ b by omega), List.take_of_length_le (by rw [List.length_drop]; omega), List.take_of_length_le (by rw [List.length_drop]; omega)]
  · rw [Nat.min_eq_right (show l.length ≤ a by omega), List.drop_of_length_le (Nat.le_refl _), List.drop_of_length_le (show l.length ≤ a by omega), List.take_nil, List.take_nil]
theorem S_beq (a b : List Nat) : (S a == S b) = decide (a = b) := by
  by_cases h : a = b
  · subst h; simp
  · rw [decide_eq_false h]
    apply beq_false_of_ne
    intro q; exact h (by simpa using congrArg Str.cps q)
theorem S_bne (a b : List Nat) : (S a != S b) = !decide (a = b) := by
  show (!(S a == S b)) = _
  rw [S_beq]
noncomputable def unq : List Nat → List Nat
  | [] => []
  | c :: r => if c = 34 then (match r with
      | [] => []
      | c2 :: r2 => if c2 = 34 then 34 :: unq r2 else []) else c :: unq r
theorem len_ok2 {l : List Nat} {c : Nat} (h : l.length < 2 ^ 23) : (S l).length + (⟨#[c]⟩ : Str).length ≤ sizeLine := by
  show l.toArray.size + 1 ≤ 16777216
  rw [List.size_toArray]; omega
noncomputable def unqJ (l uq : List Nat) (H : AH) : Nat → St → Prop :=
  fun k σ => ∃ (d : List Nat) (p : Nat) (u : Option AV), σ = ⟨[some (.str (S l)), some (.str (S d)), some (.int p), some (.int l.length), u, none, none], H⟩ ∧ d ++ unq (l.drop p) = uq ∧ d.length ≤ p ∧ p ≤ l.length ∧ k = l.length - p
theorem parse257_ok (R : Ready G) {q : List Nat} {H : AH} {K : AV → AH → Prop} (hs : q.length < 2 ^ 20) (h : K (.str (S (unq q))) H) : CallOK G 1 (G.fv 4) [.str (S ([50, 53, 55, 32, 34] ++ q))] H K := by
  have vl := R.v_len
  generalize hu : unq q = uq at *
  generalize hl : [50, 53, 55, 32, 34] ++ q = l
  as_aux_lemma =>
    have hll : l.length = q.length + 5 := by rw [← hl, List.length_append]; simp; omega
    refine def_call [some (.str (S l)), none, none, none, none, none, none] R.d_parse257 R.gt scope_parse257 rfl len_parse257 rfl fun X hX hsc => ?_
    obtain ⟨n1, n2, n3, n4, n5, n6⟩ := nm_parse257 hX
    conv in (bodyOf _) => whnf
    refine TS.cons (ES.if_ (ET.cmp (ev_slice ?_) rfl))
    repeat' walk_at "ev"
    refine ⟨_, rfl, EP.none (EP.some ?_)⟩
    repeat' walk_at "ev"
    refine ⟨_, rfl, by rw [S_len]; have : sizeLine = 16777216 := rfl; omega, ?_⟩
    have e1 : subS (S l) (loIx none (S l).length) (hiIx (some 3) (S l).length) = S [50, 53, 55] := by
      rw [S_len]
      have h2 : hiIx (some (3 : Int)) l.length = min 3 l.length := clip_nat l.length 3
      have h1 : loIx (none : Option Int) l.length = min 0 l.length := (Nat.zero_min _).symm
      rw [h1, h2, slice_S, ← hl]; rfl
    have e2 : subS (S l) (loIx (some 3) (S l).length) (hiIx (some 5) (S l).length) = S [32, 34] := by
      rw [S_len]
      have h2 : hiIx (some (5 : Int)) l.length = min 5 l.length := clip_nat l.length 5
      have h1 : loIx (some (3 : Int)) l.length = min 3 l.length := clip_nat l.length 3
      rw [h1, h2, slice_S, ← hl]; rfl
    have s257 : Str.ofString "257" = S [50, 53, 55] := by decide +kernel
    have s2 : Str.ofString " \"" = S [32, 34] := by decide +kernel
    rw [e1]
    repeat' walk_at "ev"
    rw [s257, S_bne]
    refine ⟨(fun e => by simp at e), fun _ => ?_⟩
    repeat' walk_at "ev"
    refine ev_slice ?_
    repeat' walk_at "ev"
    refine ⟨_, rfl, EP.some ?_⟩
    repeat' walk_at "ev"
    refine ⟨_, rfl, EP.some ?_⟩
    repeat' walk_at "ev"
    refine ⟨_, rfl, by rw [S_len]; have : sizeLine = 16777216 := rfl; omega, ?_⟩
    rw [e2]
    repeat' walk_at "ev"
    rw [s2, S_bne]
    refine ⟨(fun e => by simp at e), fun _ => ?_⟩
    repeat' walk_at "ev"
    refine CV.lenS (by rw [S_len]; omega) ?_
    rw [S_len]
    repeat' walk_at "ev"
    refine (ES.while_ ((unqJ l uq H)) ?_ (l.length - 5) ?_)
    · rintro k σ ⟨d, p, u, rfl, hd, hdp, hp, hk⟩
      repeat' walk_at "ev"
      refine ⟨fun hlt => ?_, fun hge => ?_⟩
      · have hlt : p < l.length := by simpa using hlt
        have hget : l.drop p = l[p] :: l.drop (p + 1) := List.drop_eq_getElem_cons hlt
        repeat' walk_at "ev"
        refine ev_sub ?_
        repeat' walk_at "ev"
        refine ⟨SubT.str _, P2.itemS (c := l[p]) (by omega) (by rw [S_len]; omega) (by rw [S_len]; have : sizeLine = 16777216 := rfl; omega) (by simp [S]) ?_⟩
        repeat' walk_at "ev"
        rw [quo_eq, ch_beq]
        rw [hget] at hd
        unfold unq at hd
        have fin : ∀ (d2 : List Nat) (p2 : Nat), d2.length + 1 ≤ p2 → d2 ++ [l[p]] ++ unq (l.drop p2) = uq → p < p2 → p2 ≤ l.length → d2.length < 2 ^ 23 → ∃ n', n' < k ∧ ∃ (d : List Nat) (p' : Nat) (u : Option AV), (⟨[some (.str (S l)), some (.str (S (d2 ++ [l[p]]))), some (.int p2), some (.int l.length), some (chA l[p]), none, none], H⟩ : St) = ⟨[some (.str (S l)), some (.str (S d)), some (.int p'), some (.int l.length), u, none, none], H⟩ ∧ d ++ unq (l.drop p') = uq ∧ d.length ≤ p' ∧ p' ≤ l.length ∧ n' = l.length - p' :=
          fun d2 p2 h1 h2 h3 h4 h5 => ⟨l.length - p2, by omega, d2 ++ [l[p]], p2, _, rfl, h2, by rw [List.length_append, List.length_singleton]; exact h1, h4, rfl⟩
        refine ⟨fun h34 => ?_, fun h34 => ?_⟩
        · have h34 : l[p] = 34 := by simpa using h34
          rw [if_pos h34] at hd
          repeat' walk_at "ev"
          have brk : (match l.drop (p + 1) with
              | [] => []
              | c2 :: r2 => if c2 = 34 then 34 :: unq r2 else []) = [] → K (.str (S d)) H := fun e => by
            rw [e, List.append_nil] at hd
            rw [hd]; exact h
          refine ⟨fun hb => ?_, fun hb => ?_⟩
          · have hb : p + 1 < l.length := by
              have : ¬ ((l.length : Int) ≤ (p : Int) + 1) := by simpa using hb
              omega
            have hget2 : l.drop (p + 1) = l[p + 1] :: l.drop (p + 2) := List.drop_eq_getElem_cons hb
            repeat' walk_at "ev"
            refine ev_sub ?_
            repeat' walk_at "ev"
            refine ⟨SubT.str _, P2.itemS (c := l[p + 1]) (by omega) (by rw [S_len]; omega) (by rw [S_len]; have : sizeLine = 16777216 := rfl; omega) ?_ ?_⟩
            · have : ((p : Int) + 1).toNat = p + 1 := by omega
              rw [this]; simp [S]
            repeat' walk_at "ev"
            rw [show ((⟨#[l[p + 1]]⟩ : Str) != ⟨#[34]⟩) = !decide (l[p + 1] = 34) by show (!((⟨#[l[p + 1]]⟩ : Str) == ⟨#[34]⟩)) = _; rw [ch_beq]]
            refine ⟨fun hn => ?_, fun hn => ?_⟩
            · have hn : l[p + 1] ≠ 34 := by simpa using hn
              repeat' walk_at "ev"
              refine brk ?_
              rw [hget2]
              simp only
              rw [if_neg hn]
            · have hn : l[p + 1] = 34 := by simpa using hn
              rw [hget2] at hd
              simp only at hd
              rw [if_pos hn] at hd
              repeat' walk_at "ev"
              case hsz => exact len_ok2 (by omega)
              rw [show S d ++ (⟨#[l[p]]⟩ : Str) = S (d ++ [l[p]]) from app_ch d l[p]]
              have e : (p : Int) + 1 + 1 = ((p + 2 : Nat) : Int) := by omega
              rw [e]
              exact fin d (p + 2) (by omega) (by rw [List.append_assoc, h34]; exact hd) (by omega) (by omega) (by omega)
          · have hb : l.length ≤ p + 1 := by
              have : ((l.length : Int) ≤ (p : Int) + 1) := by simpa using hb
              omega
            refine ⟨fun _ => ?_, (fun e => by cases e)⟩
            repeat' walk_at "ev"
            refine brk ?_
            rw [List.drop_of_length_le hb]
        · have h34 : l[p] ≠ 34 := by simpa using h34
          rw [if_neg h34] at hd
          repeat' walk_at "ev"
          case hsz => exact len_ok2 (by omega)
          rw [show S d ++ (⟨#[l[p]]⟩ : Str) = S (d ++ [l[p]]) from app_ch d l[p]]
          exact fin d (p + 1) (by omega) (by rw [List.append_assoc]; exact hd) (by omega) (by omega) (by omega)
      · have hge : p = l.length := by have : ¬ ((p : Int) < l.length) := by simpa using hge
                                      omega
        repeat' walk_at "ev"
        rw [hge, List.drop_length] at hd
        have : d = uq := by rw [← hd]; show d = d ++ []; rw [List.append_nil]
        rw [← this] at h
        exact h
    · exact ⟨[], 5, none, by rw [emp_eq]; rfl, by rw [List.nil_append, ← hl, ← hu]; rfl, Nat.zero_le _, by omega, rfl⟩
end WaW8
section WaW9
variable {G : Gx} {r : Nat}
noncomputable def dg (k : Nat) : List Nat := (Str.ofString (toString (k : Int))).cps.toList
noncomputable def resp229 (m k : Nat) : List Nat := [50, 50, 57, 32, 40, m, m, m] ++ dg k ++ [m, 41]
noncomputable def check229 (m k : Nat) : Bool :=
  let l := resp229 m k
  let x := S l
  let n := l.length
  let y := S ((l.drop 5).take (n - 1 - 5))
  decide (Txt.find x ⟨#[40]⟩ = 4) && decide (Txt.find3 x ⟨#[41]⟩ 5 = ((n - 1 : Nat) : Int)) && decide (l[5]? = some m) && decide (l[n - 2]? = some m) && decide (10 ≤ n) && decide (n ≤ 100)
    && decide (Txt.split y ⟨#[m]⟩ = [S [], S [], S [], S (dg k), S []]) && decide ((PySem.Builtin.Str.partsBetween y (PySem.Builtin.Str.occurrences y ⟨#[m]⟩ 0 y.length (y.length + 1)) 1).length ≤ 100) && decide (PySem.intText? (S (dg k)) = some (k : Int)) && decide ((dg k).length ≤ 10)
theorem checks229 : ∀ k, k < 41 → 3 ≤ k → ∀ m ∈ [124, 92, 34, 32], check229 m k = true := by decide +kernel
end WaW9
section WaW10
variable {G : Gx} {r : Nat}
theorem parse229_ok (R : Ready G) {m k : Nat} {host : Str} {i : Int} {H : AH} {K : AV → AH → Prop} (hc : check229 m k = true) (h : ∀ H', Mod [] H H' → K (.tup [.str host, .int k]) H') : CallOK G 1 (G.fv 3) [.str (S (resp229 m k)), .tup [.str host, .int i]] H K := by
  have vl := R.v_len
  have vi := R.v_int
  unfold check229 at hc
  have e229 : ∃ t, resp229 m k = [50, 50, 57, 32, 40, m, m, m] ++ t := ⟨_, List.append_assoc _ _ _⟩
  obtain ⟨tl, htl⟩ := e229
  generalize resp229 m k = l at *
  as_aux_lemma =>
    simp only [Bool.and_eq_true, decide_eq_true_eq] at hc
    obtain ⟨⟨⟨⟨⟨⟨⟨⟨⟨c1, c2⟩, c3⟩, c4⟩, c5⟩, c6⟩, c7⟩, c8⟩, c9⟩, c10⟩ := hc
    have hsl : sizeLine = 16777216 := rfl
    refine def_call [some (.str (S l)), some (.tup [.str host, .int i]), none, none, none, none, none, none, none, none, none] R.d_parse229 R.gt scope_parse229 rfl len_parse229 rfl fun X hX hsc => ?_
    obtain ⟨n1, n2, n3, n4, n5, n6, n7, n8, n9⟩ := nm_parse229 hX
    conv in (bodyOf _) => whnf
    refine TS.cons (ES.if_ (ET.cmp (ev_slice ?_) rfl))
    repeat' walk_at "ev"
    refine ⟨_, rfl, EP.none (EP.some ?_)⟩
    repeat' walk_at "ev"
    refine ⟨_, rfl, by rw [S_len]; omega, ?_⟩
    have e1 : subS (S l) (loIx none (S l).length) (hiIx (some 3) (S l).length) = S [50, 50, 57] := by
      rw [S_len]
      have h2 : hiIx (some (3 : Int)) l.length = min 3 l.length := clip_nat l.length 3
      have h1 : loIx (none : Option Int) l.length = min 0 l.length := (Nat.zero_min _).symm
      rw [h1, h2, slice_S, htl]; rfl
    have s229 : Str.ofString "229" = S [50, 50, 57] := by decide +kernel
    have s40 : Str.ofString "(" = ⟨#[40]⟩ := by decide +kernel
    have s41 : Str.ofString ")" = ⟨#[41]⟩ := by decide +kernel
    rw [e1]
    repeat' walk_at "ev"
    rw [s229, S_bne]
    refine ⟨(fun e => by simp at e), fun _ => ?_⟩
    repeat' walk_at "ev"
    refine EV.meth PySem.F.plainAttrs_str PySem.F.slot_str_find PySem.F.type_str_find ?_
    repeat' walk_at "ev"
    refine ⟨Is.str _, ?_⟩
    repeat' walk_at "ev"
    rw [s40]
    refine CV.find ?_
    rw [c1]
    repeat' walk_at "ev"
    refine ⟨(fun e => by simp at e), fun _ => ?_⟩
    repeat' walk_at "ev"
    refine EV.meth PySem.F.plainAttrs_str PySem.F.slot_str_find PySem.F.type_str_find ?_
    repeat' walk_at "ev"
    refine ⟨Is.str _, ?_⟩
    repeat' walk_at "ev"
    rw [s41]
    refine cv_find3 ?_
    rw [show (4 : Int) + 1 = 5 from rfl, c2]
    repeat' walk_at "ev"
    refine ⟨(fun e => by have := of_decide_eq_true e; omega), fun _ => ?_⟩
    repeat' walk_at "ev"
    refine ev_sub ?_
    repeat' walk_at "ev"
    refine ⟨SubT.str _, P2.itemS (c := m) (by omega) (by rw [S_len]; omega) (by rw [S_len]; omega) (by simpa [S] using c3) ?_⟩
    refine ev_sub ?_
    repeat' walk_at "ev"
    have t2 : (((l.length - 1 : Nat) : Int) - 1).toNat = l.length - 2 := by omega
    refine ⟨SubT.str _, P2.itemS (c := m) (by omega) (by rw [S_len]; omega) (by rw [S_len]; omega) (by rw [t2]; simpa [S] using c4) ?_⟩
    repeat' walk_at "ev"
    rw [show ((⟨#[m]⟩ : Str) != ⟨#[m]⟩) = false by simp]
    refine ⟨(fun e => by cases e), fun _ => ?_⟩
    repeat' walk_at "ev"
    refine EV.meth PySem.F.plainAttrs_str PySem.F.slot_str_split PySem.F.type_str_split ?_
    refine ev_slice ?_
    repeat' walk_at "ev"
    refine ⟨_, rfl, EP.some ?_⟩
    repeat' walk_at "ev"
    refine ⟨_, rfl, EP.some ?_⟩
    repeat' walk_at "ev"
    refine ⟨_, rfl, by rw [S_len]; omega, ?_⟩
    have e2 : subS (S l) (loIx (some (4 + 1)) (S l).length) (hiIx (some ((l.length - 1 : Nat) : Int)) (S l).length) = S ((l.drop 5).take (l.length - 1 - 5)) := by
      rw [S_len]
      have h2 : hiIx (some ((l.length - 1 : Nat) : Int)) l.length = min (l.length - 1) l.length := clip_nat l.length _
      have h1 : loIx (some (4 + 1 : Int)) l.length = min 5 l.length := clip_nat l.length 5
      rw [h1, h2, slice_S]
    rw [e2]
    refine ⟨Is.str _, ?_⟩
    repeat' walk_at "ev"
    refine ev_sub ?_
    repeat' walk_at "ev"
    refine ⟨SubT.str _, P2.itemS (c := m) (by omega) (by rw [S_len]; omega) (by rw [S_len]; omega) (by simpa [S] using c3) ?_⟩
    repeat' walk_at "ev"
    refine cv_split rfl (by rw [S_len, List.length_take]; omega) (Nat.le_trans c8 (by omega)) fun p hp => ?_
    rw [c7]
    dsimp only
    repeat' walk_at "ev"
    refine CV.lenL (AH.upd_self _ _ _) (by show ((5 : Nat) : Int) < 2 ^ 63; decide) ?_
    repeat' walk_at "ev"
    refine ⟨(fun e => absurd (show (((5 : Nat) : Int) != 5) = true from e) (by decide)), fun _ => ?_⟩
    repeat' walk_at "ev"
    refine ev_sub ?_
    repeat' walk_at "ev"
    refine ⟨SubT.tup _, P2.itemT (a := .str host) (by omega) (by show (0 : Int) < ((2 : Nat) : Int); decide) (by show 2 ≤ sizeLine; omega) rfl ?_⟩
    repeat' walk_at "ev"
    refine ev_sub ?_
    repeat' walk_at "ev"
    refine ⟨SubT.list _ _ (AH.upd_self _ _ _), P2.itemL (AH.upd_self _ _ _) (a := .str (S (dg k))) (by omega) (by omega) rfl ?_⟩
    repeat' walk_at "ev"
    refine cv_int c9 (by rw [S_len]; omega) ?_
    repeat' walk_at "ev"
    refine EV.tup ?_
    repeat' walk_at "ev"
    refine ⟨(by show 2 ≤ sizeLine; omega), ?_⟩
    exact h _ (Mod.new [] hp)
end WaW10
section WaW11
variable {G : Gx} {r : Nat}
structure Script (G : Gx) (ns : List Int) : Prop where
  ex : ∃ a vs, G.fv 60 = .ref a ∧ G.h₀.IsList a vs.toArray ∧ IntsAre vs ns
  few : ns.length ≤ 63
theorem AH.upd_upd (H : AH) (n : Nat) (a b : AO) : (H.upd n a).upd n b = H.upd n b := by
  funext i
  unfold AH.upd
  by_cases h : i = n
  · rw [if_pos h, if_pos h]
  · rw [if_neg h, if_neg h, if_neg h]
theorem nat_mod (i k : Nat) (hk : 0 < k) : Int.fmod (i : Int) (k : Int) = ((i % k : Nat) : Int) := by
  rw [Int.fmod_eq_emod_of_nonneg _ (by omega)]; rfl
theorem map_getD {xs : List Int} {j : Nat} (h : j < xs.length) : (xs.map AV.int)[j]? = some (.int (xs.getD j 0)) := by
  rw [List.getElem?_map, List.getElem?_eq_getElem h, Option.map_some, List.getD_eq_getElem?_getD, List.getElem?_eq_getElem h]; rfl
noncomputable def hpJ (n : Nat) (H : AH) : Nat → St → Prop :=
  fun i σ => ∃ (hs : List Int) (u : Option AV), σ = ⟨[some (.fn 60), some (.ref n), u, none, none, none], H.upd n (.list (hs.map .int))⟩ ∧ hs.length = 4 ∧ (∀ x ∈ hs, 0 ≤ x ∧ x < 10 ^ 12)
theorem law_heaps_ok (R : Ready G) {ns : List Int} (Sc : Script G ns) {H : AH} {K : AV → AH → Prop} (h : ∀ (n : Nat) (hs : List Int) (H' : AH), hs.length = 4 → (∀ x ∈ hs, 0 ≤ x ∧ x < 10 ^ 12) → H n = none → Mod [] H H' → H' n = some (.list (hs.map .int)) → K (.ref n) H') : CallOK G 1 (G.fv 10) [.fn 60] H K := by
  have vl := R.v_len
  have vr := R.v_range
  have vm := R.v_min
  obtain ⟨sa, svs, f1, f2, f3⟩ := Sc.ex
  have hfew := Sc.few
  refine def_call [some (.fn 60), none, none, none, none, none] R.d_law_heaps R.gt scope_law_heaps rfl len_law_heaps rfl fun X hX hsc => ?_
  obtain ⟨n1, n2, n3, n4, n5, n6⟩ := nm_law_heaps hX
  conv in (bodyOf _) => whnf
  repeat' walk_at "ev"
  refine EV.list ?_
  repeat' walk_at "ev"
  refine ⟨Nat.le_of_ble_eq_true rfl, fun n hn => ?_⟩
  have hn : H n = none := hn
  repeat' walk_at "ev"
  refine ES.for_ n3 ?_
  repeat' walk_at "ev"
  refine cv_lenB f1 f2 f3 (by omega) ?_
  repeat' walk_at "ev"
  have hN : (if (60 : Int) < (ns.length : Int) then (60 : Int) else (ns.length : Int)) = ((min ns.length 60 : Nat) : Int) := by split <;> omega
  rw [hN]
  refine ⟨_, _, _, (hpJ n H), PI.rng (by omega) (by omega) (by omega) (by omega), ⟨[_, _, _, _], none, rfl, rfl, by decide⟩, ?_, ?_⟩
  · rintro i σ hi ⟨hs, u, rfl, h4, hb⟩
    refine ⟨trivial, ?_⟩
    have hi' : i < min ns.length 60 := by omega
    have ei : (0 : Int) + (i : Int) = (i : Int) := Int.zero_add _
    have hm4 : i % 4 < 4 := Nat.mod_lt _ (by decide)
    rw [ei]
    refine ES.cons (es_setL ?_ rfl)
    refine EV.binop (EV.binop (ev_sub ?_))
    repeat' walk_at "ev"
    refine P2.mod (by decide) ?_
    rw [show Int.fmod (i : Int) 4 = ((i % 4 : Nat) : Int) from nat_mod i 4 (by decide)]
    refine ⟨SubT.list _ _ (AH.upd_self _ _ _), P2.itemL (AH.upd_self _ _ _) (by omega) (by omega) (map_getD (by rw [h4]; exact hm4)) ?_⟩
    refine ev_subG ?_
    repeat' walk_at "ev"
    refine ⟨fun m s ca hr hv => ?_, ?_⟩
    · obtain ⟨o, ho, hc, _⟩ := f2
      exact ⟨_, _, list_getitem_lookup, (base_typeIs f1 ho hc hr hv).1⟩
    refine p2_itemB f1 f2 f3 (by omega) (by omega) (n := ns.getD i 0) ?_ ?_
    · rw [Int.toNat_natCast, List.getD_eq_getElem?_getD, List.getElem?_eq_getElem (by omega)]; rfl
    repeat' walk_at "ev"
    refine P2.pow (by decide) (by decide +kernel) ?_
    rw [show ((10 : Int) ^ (12 : Int).toNat) = 1000000000000 by decide]
    refine P2.mod (by decide) ?_
    repeat' walk_at "ev"
    refine P2.mod (by decide) ?_
    rw [show Int.fmod (i : Int) 4 = ((i % 4 : Nat) : Int) from nat_mod i 4 (by decide)]
    refine ⟨n, _, _, i % 4, rfl, rfl, AH.upd_self _ _ _, by rw [List.length_map, h4]; decide, by rw [List.length_map, h4]; unfold idxIn; rw [if_pos (by omega), if_pos (by omega), Int.toNat_natCast], ?_⟩
    repeat' walk_at "ev"
    refine ⟨hs.set (i % 4) (Int.fmod (hs.getD ((i % 4 : Nat) : Int).toNat 0 + ns.getD i 0) 1000000000000), some (.int i), ?_, by rw [List.length_set]; exact h4, fun x hx => ?_⟩
    · rw [AH.upd_upd, List.map_set]; rfl
    · rcases List.mem_or_eq_of_mem_set hx with hx | rfl
      · exact hb x hx
      · rw [Int.fmod_eq_emod_of_nonneg _ (by decide)]
        exact ⟨Int.emod_nonneg _ (by decide), Int.emod_lt_of_pos _ (by decide)⟩
  · rintro σ ⟨hs, u, rfl, h4, hb⟩
    refine ⟨trivial, ?_⟩
    repeat' walk_at "ev"
    exact h n hs _ h4 hb hn (Mod.new [] hn) (AH.upd_self _ _ _)
end WaW11
section WaW12
variable {G : Gx} {r : Nat}
noncomputable def stepJ (size : Nat) (hp : Int) (H : AH) : Nat → St → Prop :=
  fun k σ => ∃ (s : Nat) (H' : AH), σ = ⟨[some (.int size), some (.int hp), some (.int s), none], H'⟩ ∧ Mod [] H H' ∧ 1 ≤ s ∧ s < size ∧ k = s
noncomputable def stepC (size k : Nat) (H' : AH) : Nat → List AV → AH → Prop :=
  fun i acc H2 => H2 = H' ∧ (acc = [] → ∀ j < i, ¬ (size % (2 + j) = 0 ∧ k % (2 + j) = 0)) ∧ (acc ≠ [] → 2 ≤ k)
theorem law_step_ok (R : Ready G) {size : Nat} {hp : Int} (h8 : 8 ≤ size) (h40 : size ≤ 40) {H : AH} {K : AV → AH → Prop} (h : ∀ (step : Nat) (H' : AH), 1 ≤ step → step < size → (∀ p, 2 ≤ p → p < size → ¬ (size % p = 0 ∧ step % p = 0)) → Mod [] H H' → K (.int step) H') : CallOK G 1 (G.fv 11) [.int size, .int hp] H K := by
  have vr := R.v_range
  refine def_call [some (.int size), some (.int hp), none, none] R.d_law_step R.gt scope_law_step rfl len_law_step rfl fun X hX hsc => ?_
  obtain ⟨n1, n2, n3, n4⟩ := nm_law_step hX
  conv in (bodyOf _) => whnf
  repeat' walk_at "ev"
  refine P2.mod (by omega) ?_
  repeat' walk_at "ev"
  obtain ⟨s0, es, hs1, hs2⟩ : ∃ s0 : Nat, 1 + Int.fmod hp (size - 1) = (s0 : Int) ∧ 1 ≤ s0 ∧ s0 < size := by
    have h1 := Int.emod_nonneg hp (show (size : Int) - 1 ≠ 0 by omega)
    have h2 := Int.emod_lt_of_pos hp (show 0 < (size : Int) - 1 by omega)
    rw [Int.fmod_eq_emod_of_nonneg _ (by omega)]
    exact ⟨(1 + hp % (size - 1)).toNat, by omega, by omega, by omega⟩
  rw [es]
  refine ES.while_ ((stepJ size hp H)) ?_ s0 ⟨s0, H, rfl, Mod.refl _ _, hs1, hs2, rfl⟩
  rintro k σ ⟨s, H', rfl, hm, h1, h2, rfl⟩
  refine ET.cmp ?_ rfl
  walk_at "comp"
  repeat' walk_at "ev"
  refine ⟨_, _, _, (stepC size k H'), PI.rng (by omega) (by omega) (by omega) (by omega), by have : sizeLine = 16777216 := rfl; omega, ⟨rfl, fun _ j hj => absurd hj (Nat.not_lt_zero j), fun e => absurd rfl e⟩, ?_, ?_⟩
  · rintro Y hY hYs i acc H2 hi hacc ⟨rfl, j1, j2⟩
    refine ⟨trivial, CT.one ?_⟩
    have m1 : Y.res (Str.ofString "part") = some (.loc 1 true) := by rw [hY]; rfl
    have m2 : Y.res (Str.ofString "size") = some (.loc 2 false) := by rw [hY]; rfl
    have m3 : Y.res (Str.ofString "step") = some (.loc 3 false) := by rw [hY]; rfl
    simp only [rhoC, List.map_cons, List.map_nil, n1, n3]
    have e2 : (2 : Int) + (i : Int) = ((2 + i : Nat) : Int) := by omega
    rw [e2]
    repeat' walk_at "ev"
    refine P2.mod (by omega) ?_
    rw [nat_mod size (2 + i) (by omega)]
    repeat' walk_at "ev"
    refine ⟨fun hz => ?_, fun hz => ?_⟩
    · have hz : size % (2 + i) = 0 := by have := beq_iff_eq.mp hz; omega
      repeat' walk_at "ev"
      refine P2.mod (by omega) ?_
      rw [nat_mod k (2 + i) (by omega)]
      repeat' walk_at "ev"
      refine ⟨fun hk => ?_, fun hk => ?_⟩
      · have hk : k % (2 + i) = 0 := by have := beq_iff_eq.mp hk; omega
        repeat' walk_at "ev"
        refine ⟨rfl, rfl, (fun e => by simp at e), fun _ => ?_⟩
        have := Nat.le_of_dvd (by omega) (Nat.dvd_of_mod_eq_zero hk)
        omega
      · have hk : ¬ k % (2 + i) = 0 := by
          intro q
          rw [q] at hk; simp at hk
        refine ⟨rfl, rfl, fun e j hj => ?_, j2⟩
        rcases Nat.lt_succ_iff_lt_or_eq.mp hj with hj | rfl
        · exact j1 e j hj
        · exact fun q => hk q.2
    · have hz : ¬ size % (2 + i) = 0 := by
        intro q
        rw [q] at hz; simp at hz
      refine ⟨(fun e => by cases e), fun _ => ⟨rfl, rfl, fun e j hj => ?_, j2⟩⟩
      rcases Nat.lt_succ_iff_lt_or_eq.mp hj with hj | rfl
      · exact j1 e j hj
      · exact fun q => hz q.1
  · rintro acc H2 ⟨rfl, j1, j2⟩
    refine ⟨trivial, fun n hn => ?_⟩
    refine EV.list ?_
    repeat' walk_at "ev"
    refine ⟨Nat.zero_le _, fun n2 hn2 => ?_⟩
    have hnn : n ≠ n2 := fun q => by subst q; cases (AH.upd_self _ _ _).symm.trans hn2
    have g1 : ((H2.upd n (.list acc)).upd n2 (.list [])) n = some (.list acc) := by rw [AH.upd_ne _ _ hnn]; exact AH.upd_self _ _ _
    have mo : Mod [] H ((H2.upd n (.list acc)).upd n2 (.list [])) := (hm.trans' (Mod.new [] hn)).trans' (Mod.new [] hn2)
    cases acc with
    | nil =>
      refine P2.neL (d := 0) (xs := []) (ys := []) (fun _ => true) (by decide) g1 (AH.upd_self _ _ _) rfl (fun j hj => by cases hj) ?_
      repeat' walk_at "ev"
      refine ⟨(fun e => by cases e), fun _ => ?_⟩
      repeat' walk_at "ev"
      refine h k _ h1 h2 (fun p hp1 hp2 => ?_) mo
      have := j1 rfl (p - 2) (by omega)
      rwa [show 2 + (p - 2) = p by omega] at this
    | cons a l =>
      refine P2.neL' (xs := a :: l) (ys := []) g1 (AH.upd_self _ _ _) (by simp) ?_
      repeat' walk_at "ev"
      refine ⟨fun _ => ?_, (fun e => by cases e)⟩
      repeat' walk_at "ev"
      have := j2 (by simp)
      rw [show (k : Int) - 1 = ((k - 1 : Nat) : Int) by omega]
      exact ⟨k - 1, by omega, k - 1, _, rfl, mo, by omega, by omega, rfl⟩
end WaW12
section WaG1
noncomputable abbrev IntL (h : Heap) (L : Addr) (xs : List Int) : Prop := ∃ vs k, h.get? L = some (lstOf vs k) ∧ IntsAre vs xs
noncomputable def Since (C I : Addr) (s₀ s : Shared) : Prop := ∃ h' tk, s = { s₀ with heap := h', toks := tk } ∧ ∀ b o, b ≠ C → b ≠ I → s₀.heap.get? b = some o → h'.get? b = some o
theorem Since.refl (C I : Addr) (s : Shared) : Since C I s s := ⟨s.heap, s.toks, rfl, fun _ _ _ _ e => e⟩
theorem Since.step {C I : Addr} {s₀ s : Shared} (x : Since C I s₀ s) {h' : Heap} {tk : Nat} (hk : ∀ b o, b ≠ C → b ≠ I → s.heap.get? b = some o → h'.get? b = some o) : Since C I s₀ { s with heap := h', toks := tk } := by
  obtain ⟨h1, tk1, rfl, hk1⟩ := x
  exact ⟨h', tk, rfl, fun b o hC hI e => hk b o hC hI (hk1 b o hC hI e)⟩
noncomputable def Holds1 (s : Shared) (C : Addr) (x : Str) (v : Option Int) : Prop := ∃ mp, s.heap.Ns C mp ∧ ∃ cv, mp x = some cv ∧ (match v with | none => cv = .none | some k => ∃ t, cv = .int k t)
noncomputable def YG (mg : Str → Option Value) (C I L : Addr) (xs : List Int) (item : Nat → Int) (N : Nat) (ends : Bool) : Protocol := fun m s₀ v s kap =>
  (∃ t, v = .int (item (N - 1 - m)) t) ∧ Since C I s₀ s ∧ (∃ mp, s.heap.Ns C mp) ∧ (∃ j, s.heap.IsListIter I L j) ∧
    ((m ≠ 0 ∨ ends = true) → ∀ s'' : Shared, (∀ b o, b = C ∨ b = I → s.heap.get? b = some o → s''.heap.get? b = some o) → IntL s''.heap L xs → s''.heap.Ns mainGlobals mg → kap (.send .none) s'')
noncomputable def RG (C I : Addr) : GenEnd := fun n s₀ r s₁ => r = .ok (.ret .none) ∧ (n = 0 ∧ Since C I s₀ s₁)
structure GEnv (E : Env) (C : Addr) : Prop where
  scope : E.scope = scopeOf st_grouping_intervals
  globals : E.globals = mainGlobals
  locals : E.locals = C
theorem gi_last : (namesOf st_grouping_intervals).lookup (Str.ofString "last_interval") = some .local := by kernel_rfl!
theorem gi_int : (namesOf st_grouping_intervals).lookup (Str.ofString "interval") = some .local := by kernel_rfl!
theorem gi_grp : (namesOf st_grouping_intervals).lookup (Str.ofString "grouping") = some .local := by kernel_rfl!
theorem gi_cm : (namesOf st_grouping_intervals).lookup (Str.ofString "CHAR_MAX") = some .globalImplicit := by kernel_rfl!
theorem gi_kind : (scopeOf st_grouping_intervals).kind = .function := by kernel_rfl!
theorem gi_co : (scopeOf st_grouping_intervals).isCoroutine = false := by kernel_rfl!
section
variable {prog : Program} {w : World} {A : Around} {E : Env} {C : Addr} {s : Shared}
theorem GEnv.kind (g : GEnv E C) : E.scope.kind = .function := by rw [g.scope]; exact gi_kind
theorem GEnv.inter (g : GEnv E C) : interactive E = false := by unfold interactive; rw [g.kind]; rfl
theorem GEnv.load (g : GEnv E C) {x : Str} {pos : Pos} {mp : Str → Option Value} {v : Value} {Q : Value → Shared → Prop} (hx : (namesOf st_grouping_intervals).lookup x = some .local) (hd : (x == ("__debug__" : Str)) = false) (hn : s.heap.Ns C mp) (hv : mp x = some v) (h : Q v s) :
    wpAny (model prog w) A (eval (.Name x pos) E) Q NoE s :=
  wpAny_Name (wpAny_loadName_local g.kind (by unfold Env.kindOf; rw [g.scope]; exact hx) (by rw [g.locals]; exact hn) hv h) hd
theorem GEnv.glob (g : GEnv E C) {x : Str} {pos : Pos} {mg : Str → Option Value} {v : Value} {Q : Value → Shared → Prop} (hx : (namesOf st_grouping_intervals).lookup x = some .globalImplicit) (hd : (x == ("__debug__" : Str)) = false) (hn : s.heap.Ns mainGlobals mg) (hv : mg x = some v) (h : Q v s) :
    wpAny (model prog w) A (eval (.Name x pos) E) Q NoE s := by
  refine wpAny_Name ?_ hd
  unfold loadName
  have hk : E.kindOf x = some .globalImplicit := by unfold Env.kindOf; rw [g.scope]; exact hx
  simp only [Env.blockKind, g.kind, hk, ScopeKind.isAnnotationScope, Bool.false_and, Bool.false_eq_true, if_false]
  exact loadGlobal_global (by rw [g.globals]; exact hn) hv h
theorem GEnv.store (g : GEnv E C) {x : Str} {mp : Str → Option Value} {v : Value} {Q : Unit → Shared → Prop} (hx : (namesOf st_grouping_intervals).lookup x = some .local) (hn : s.heap.Ns C mp)
    (h : ∀ h', h'.Ns C (fun y => if y = x then some v else mp y) → Heap.SameBut C s.heap h' → Q () { s with heap := h', toks := s.toks + 1 }) : wpAny (model prog w) A (storeName E x v) Q NoE s :=
  wpAny_storeName_local (by unfold Env.kindOf; rw [g.scope]; exact hx) (by rw [g.locals]; exact hn) (by rw [g.locals]; exact h) (by rw [g.kind]; rfl)
end
noncomputable def forSt : Stmt := (bodyOf st_grouping_intervals).getD 1 (.Pass default)
noncomputable def forBody : List Stmt := match forSt with
  | .For _ _ b _ _ => b
  | _ => []
noncomputable def whileSt : Stmt := match forBody.getD 1 (.Pass default) with
  | .If _ b _ _ => b.getD 1 (.Pass default)
  | _ => .Pass default
noncomputable def whileBody : List Stmt := match whileSt with
  | .While _ b _ _ => b
  | _ => []
noncomputable def whileTest : PySem.Expr := match whileSt with
  | .While t _ _ _ => t
  | _ => default
section
variable {prog : Program} {w : World} {A : Around} {E : Env} {C I L : Addr} {xs : List Int} {item : Nat → Int} {N : Nat} {ends : Bool} {mg : Str → Option Value}
theorem YG.mono {v : Value} {n : Nat} {s₀ s' : Shared} {k k' : Resume → Shared → Prop} (h : ∀ s'', k (.send .none) s'' → k' (.send .none) s'') (y : YG mg C I L xs item N ends n s₀ v s' k) : YG mg C I L xs item N ends n s₀ v s' k' :=
  let ⟨a, b, c, d, e⟩ := y; ⟨a, b, c, d, fun hn s'' h1 h2 h3 => h s'' (e hn s'' h1 h2 h3)⟩
theorem ns_kept {h h' : Heap} {C I : Addr} {mp : Str → Option Value} (x : h.Ns C mp) (hk : ∀ b o, b = C ∨ b = I → h.get? b = some o → h'.get? b = some o) : h'.Ns C mp :=
  let ⟨o, es, ep, ho, r⟩ := x; ⟨o, es, ep, hk _ _ (.inl rfl) ho, r⟩
theorem it_kept {h h' : Heap} {C I L : Addr} {j : Nat} (x : h.IsListIter I L j) (hk : ∀ b o, b = C ∨ b = I → h.get? b = some o → h'.get? b = some o) : h'.IsListIter I L j :=
  let ⟨o, ho, r⟩ := x; ⟨o, hk _ _ (.inr rfl) ho, r⟩
theorem gen_while (hE : GEnv E C) {z : Int} {ys : List Int} (hitem : ∀ j, ys.length ≤ j → item j = z) (hends : ends = false) : ∀ (n i : Nat) (s₀ s : Shared) (mp : Str → Option Value) (t : Tok) (kf : Result → Sem Fin) (l : List Value) (c : Code) (p : Pos) (kf2 : Result → Sem Fin) (l2 : List Value) (c2 : Code) (p2 : Pos), i + n = N → n ≠ 0 → ys.length ≤ i → Since C I s₀ s → s.heap.Ns C mp → mp (Str.ofString "last_interval") = some (.int z t) → (∃ j, s.heap.IsListIter I L j) →
    Seg (model prog w) A (RG C I) (YG mg C I L xs item N ends) n s₀ (.whileLoop whileTest whileBody [] E) ((model prog w).den (.whileLoop whileTest whileBody [] E)) [.ret kf none false l c p [], .ret kf2 none false l2 c2 p2 []] s := by
  intro n
  induction n with
  | zero => intro i s₀ s mp t kf l c p kf2 l2 c2 p2 _ h0; exact absurd rfl h0
  | succ n ih =>
    intro i s₀ s mp t kf l c p kf2 l2 c2 p2 hi _ hy hs hn hv hit
    refine seg_while_turn ?_
    have e1 : isTrue whileTest E (eval whileTest E) = (do let v ← eval whileTest E; standAt whileTest.pos; holding [v] (truthy v)) := rfl
    rw [e1]
    conv in (eval whileTest _) => arg 1; whnf
    refine wpAny_bind (wpAny_Constant_bool (wpAny_bind (wpAny_standAt (wpAny_holding (wpAny_truthy_bool ⟨rfl, fun Hx => ?_⟩)))))
    conv in whileBody => whnf
    refine segw_cons' rfl (segw_yield hE.inter rfl (by rw [hE.scope]; exact gi_co) rfl rfl rfl ?_ fun v s' k k' h y => YG.mono h y)
    refine hE.load gi_last (by decide +kernel) hn hv ?_
    refine ⟨⟨t, ?_⟩, hs, ⟨mp, hn⟩, hit, fun hne s'' h1 h2 h3 x ex hx => ?_⟩
    · rw [hitem (N - 1 - n) (by omega)]
    · have hne : n ≠ 0 := by
        rcases hne with h | h
        · exact h
        · rw [hends] at h; cases h
      refine seg_again rfl ?_
      exact ih (i + 1) s'' s'' mp t kf l c p kf2 l2 c2 p2 (by omega) hne (by omega) (Since.refl _ _ _) (ns_kept hn h1) hv (hit.elim fun j hj => ⟨j, it_kept hj h1⟩)
structure GSeq (xs : List Int) (item : Nat → Int) (N : Nat) (ends : Bool) where
  ys : List Int
  z : Int
  rest : List Int
  eq : xs = ys ++ z :: rest
  plain : ∀ y ∈ ys, y ≠ 127 ∧ y ≠ 0
  first : ∀ j, j < ys.length → item j = ys.getD j 0
  mode : (ends = true ∧ z = 127 ∧ N = ys.length) ∨ (ends = false ∧ z = 0 ∧ ys ≠ [] ∧ ∀ j, ys.length ≤ j → item j = ys.getLastD 0)
theorem ints_at {vs : List Value} {ns : List Int} {j : Nat} {n : Int} (h : IntsAre vs ns) (hx : ns[j]? = some n) : ∃ t, vs.toArray[j]? = some (.int n t) := by
  obtain ⟨t, ht⟩ := ints_get h hx
  exact ⟨t, by simpa using ht⟩
noncomputable def lastOf (ys : List Int) : Nat → Option Int
  | 0 => none
  | i + 1 => some (ys.getD i 0)
theorem gen_loop (hE : GEnv E C) (hCI : C ≠ I) (hIL : I ≠ L) (hCL : C ≠ L) (hCm : C ≠ mainGlobals) {tcm : Tok} (hcm : mg (Str.ofString "CHAR_MAX") = some (.int 127 tcm)) (W : GSeq xs item N ends) : ∀ (n i : Nat) (s₀ s : Shared) (mp : Str → Option Value) (cv : Value) (kf : Result → Sem Fin) (l : List Value) (c : Code) (p : Pos),
    (∀ n s₀ s, n = 0 → Since C I s₀ s → Seg (model prog w) A (RG C I) (YG mg C I L xs item N ends) n s₀ c (kf (.ok (.ret .none))) [] s) → i + n = N → (n ≠ 0 ∨ ends = true) → i ≤ W.ys.length → Since C I s₀ s → s.heap.Ns C mp → mp (Str.ofString "last_interval") = some cv → (match lastOf W.ys i with | none => cv = .none | some k => ∃ t, cv = .int k t) → s.heap.IsListIter I L i → IntL s.heap L xs → s.heap.Ns mainGlobals mg →
    Seg (model prog w) A (RG C I) (YG mg C I L xs item N ends) n s₀ (.forLoop (.Name (Str.ofString "interval") (match forSt with | .For (.Name _ p) _ _ _ _ => p | _ => default)) (.ref I) forBody [] E) ((model prog w).den (.forLoop (.Name (Str.ofString "interval") (match forSt with | .For (.Name _ p) _ _ _ _ => p | _ => default)) (.ref I) forBody [] E)) [.ret kf none false l c p []] s := by
  intro n
  refine Nat.strongRecOn n ?_
  clear n
  intro n ih i s₀ s mp cv kf l c p hkf hi hne hy hs hn hv hlast hit hL hmg
  refine seg_for_turn ?_
  obtain ⟨vs, k, hLo, hints⟩ := hL
  have hlt : i < xs.length := by rw [W.eq, List.length_append, List.length_cons]; omega
  obtain ⟨tx, hx⟩ := ints_at hints (List.getElem?_eq_getElem hlt)
  refine wpAny_pyNext_list_item hit ⟨_, hLo, rfl, k, rfl⟩ hx fun h1 hit1 hsb1 => ?_
  have hn1 : h1.Ns C mp := hn.sameBut hsb1 hCI
  have hmg1 : h1.Ns mainGlobals mg := hmg.sameBut hsb1 (fun q => by
    obtain ⟨o, es, ep, e, hd, _⟩ := hmg
    obtain ⟨o2, e2, hc2, hd2⟩ := hit
    rw [q, e2] at e; cases e; rw [hd] at hd2; cases hd2)
  refine hE.store (s := { s with heap := h1 }) gi_int hn1 fun h2 hn2 hsb2 => ?_
  intro Hx
  have hit2 : h2.IsListIter I L (i + 1) := let ⟨o, ho, r⟩ := hit1; ⟨o, (hsb2.2 I (Ne.symm hCI)).trans ho, r⟩
  have hmg2 : h2.Ns mainGlobals mg := hmg1.sameBut hsb2 (Ne.symm hCm)
  have hs2 : ∀ tk, Since C I s₀ { s with heap := h2, toks := tk } := fun tk => hs.step fun b o hC hI e => (hsb2.2 b hC).trans ((hsb1.2 b hI).trans e)
  have hiv : (fun y => if y = Str.ofString "interval" then some (Value.int xs[i] tx) else mp y) (Str.ofString "interval") = some (Value.int xs[i] tx) := if_pos rfl
  have hlv : (fun y => if y = Str.ofString "interval" then some (Value.int xs[i] tx) else mp y) (Str.ofString "last_interval") = some cv := by
    show (if _ = _ then _ else _) = _
    rw [if_neg (by decide +kernel)]; exact hv
  generalize (fun y => if y = Str.ofString "interval" then some (Value.int xs[i] tx) else mp y) = mp2 at *
  as_aux_lemma =>
    conv in forBody => whnf
    refine segw_cons (wpAny_If (wpAny_isTrue_Compare1 (hE.load gi_int (by decide +kernel) hn2 hiv (hE.glob gi_cm (by decide +kernel) hmg2 hcm (PyProof.Rows.eq_int (wpAny_truthy_bool ?_)))) rfl))
    by_cases hlt2 : i < W.ys.length
    · have exi : xs[i] = W.ys.getD i 0 := by
        have : xs[i]? = some (W.ys.getD i 0) := by
          rw [show xs[i]? = (W.ys ++ W.z :: W.rest)[i]? from congrArg (·[i]?) W.eq, List.getElem?_append_left hlt2, List.getD_eq_getElem?_getD, List.getElem?_eq_getElem hlt2]; rfl
        rw [List.getElem?_eq_getElem hlt] at this
        exact Option.some.inj this
      have hmem : W.ys.getD i 0 ∈ W.ys := by
        rw [List.getD_eq_getElem?_getD, List.getElem?_eq_getElem hlt2]; exact List.getElem_mem hlt2
      obtain ⟨p1, p2⟩ := W.plain _ hmem
      have hn0 : n ≠ 0 := by
        rcases W.mode with ⟨_, _, e⟩ | ⟨e, _⟩
        · omega
        · rcases hne with h | h
          · exact h
          · rw [e] at h; cases h
      obtain ⟨n', rfl⟩ : ∃ n', n = n' + 1 := ⟨n - 1, by omega⟩
      rw [show (xs[i] == (127 : Int)) = false from beq_false_of_ne (by rw [exi]; exact p1)]
      refine wpAny_execs_nil ?_
      refine segw_cons' rfl (segw_if (wpAny_isTrue_Compare1 (hE.load gi_int (by decide +kernel) hn2 hiv (wpAny_Constant_int (PyProof.Rows.eq_int (wpAny_truthy_bool ?_)))) rfl))
      rw [show (xs[i] == (0 : Int)) = false from beq_false_of_ne (by rw [exi]; exact p2)]
      refine segw_nil (env := E) ?_
      refine segw_cons' rfl (segw_yield hE.inter rfl (by rw [hE.scope]; exact gi_co) rfl rfl rfl ?_ fun v s' k k' h y => YG.mono h y)
      refine hE.load gi_int (by decide +kernel) hn2 hiv ?_
      refine ⟨⟨tx, by rw [show N - 1 - n' = i by omega, W.first i hlt2, exi]⟩, hs2 _, ⟨_, hn2⟩, ⟨_, hit2⟩, fun hne' s'' k1 k2 k3 x ex hx' => ?_⟩
      have hn3 := ns_kept hn2 k1
      refine segw_cons (st := _) (wpAny_Assign_Name (hE.load gi_int (by decide +kernel) hn3 hiv (hE.store gi_last hn3 fun h4 hn4 hsb4 => ?_)) rfl)
      refine segw_nil ?_
      refine seg_again rfl ?_
      refine ih n' (Nat.lt_succ_self _) (i + 1) s'' _ _ (.int xs[i] tx) kf l c p hkf (by omega) hne' (by omega) ((Since.refl C I s'').step fun b o hC hI e => (hsb4.2 b hC).trans e) hn4 (if_pos rfl) ?_ ?_ ?_ (k3.sameBut hsb4 (Ne.symm hCm))
      · show ∃ t, _ = Value.int (W.ys.getD i 0) t
        exact ⟨tx, by rw [exi]⟩
      · obtain ⟨o, ho, r⟩ := it_kept hit2 k1
        exact ⟨o, (hsb4.2 I (Ne.symm hCI)).trans ho, r⟩
      · obtain ⟨vs', k', e1, e2⟩ := k2
        exact ⟨vs', k', (hsb4.2 L (Ne.symm hCL)).trans e1, e2⟩
    · have hi2 : i = W.ys.length := by omega
      have exi : xs[i] = W.z := by
        have : xs[i]? = some W.z := by
          rw [show xs[i]? = (W.ys ++ W.z :: W.rest)[i]? from congrArg (·[i]?) W.eq, List.getElem?_append_right (by omega), hi2, Nat.sub_self]; rfl
        rw [List.getElem?_eq_getElem hlt] at this
        exact Option.some.inj this
      rcases W.mode with ⟨m1, m2, m3⟩ | ⟨m1, m2, m3, m4⟩
      · rw [show (xs[i] == (127 : Int)) = true by rw [exi, m2]; rfl]
        refine wpAny_execs_cons (wpAny_Return_none ?_)
        exact seg_leaf (.ok (.ret .none)) (hkf n s₀ _ (by omega) (hs2 _))
      · rw [show (xs[i] == (127 : Int)) = false by rw [exi, m2]; rfl]
        refine wpAny_execs_nil ?_
        refine segw_cons' rfl (segw_if (wpAny_isTrue_Compare1 (hE.load gi_int (by decide +kernel) hn2 hiv (wpAny_Constant_int (PyProof.Rows.eq_int (wpAny_truthy_bool ?_)))) rfl))
        rw [show (xs[i] == (0 : Int)) = true by rw [exi, m2]; rfl]
        have hn0 : n ≠ 0 := by
          rcases hne with h | h
          · exact h
          · rw [m1] at h; cases h
        obtain ⟨i', ei⟩ : ∃ i', i = i' + 1 := by
          cases i with
          | zero => exact absurd (List.length_eq_zero_iff.mp hi2.symm) m3
          | succ i' => exact ⟨i', rfl⟩
        rw [ei] at hlast
        obtain ⟨tl, rfl⟩ : ∃ t, cv = Value.int (W.ys.getD i' 0) t := hlast
        refine segw_cons (wpAny_If (wpAny_isTrue_Compare1 (hE.load gi_last (by decide +kernel) hn2 hlv (wpAny_Constant_none (PySem.is_none (wpAny_truthy_bool ?_)))) rfl))
        refine wpAny_execs_nil ?_
        refine segw_cons' rfl (segw_while fun p2 kf2 hkf2 => ?_)
        have hz : ∀ j, W.ys.length ≤ j → item j = W.ys.getD i' 0 := fun j hj => by
          rw [m4 j hj, List.getLastD_eq_getLast?, List.getLast?_eq_getElem?, List.getD_eq_getElem?_getD, ← hi2, ei]; rfl
        exact gen_while hE hz m1 n i s₀ _ mp2 tl _ _ _ _ _ _ _ _ (by omega) hn0 (by omega) (hs2 _) hn2 hlv ⟨_, hit2⟩
end
end WaG1
section WaG2
inductive Woke (R : Nat → Shared → Shared → Prop) (Y : Protocol) (F : GenState → Nat → Resume → Shared → Prop) (g n : Nat) (s : Shared) : Option Value → Shared → Prop
  | item (v : Value) (s₁ : Shared) (gs : GenState) (hb : gs.bare = true) (hy : Y (n - 1) s v s₁ (fun r s'' => match n with
      | 0 => False
      | m + 1 => F gs m r s'')) : Woke R Y F g n s (some v) (s₁.setGen g gs)
  | over (s₁ : Shared) (h : Heap) (hr : R n s s₁) (hk : ∀ b o, s₁.heap.get? b = some o → h.get? b = some o) : Woke R Y F g n s none { s₁.setGen g .finished with heap := h }
theorem gen_wakes {G : Gx} {A : Around} {s : Shared} {a C I : Addr} {g n : Nat} {gs : GenState} {Y : Protocol} {Q : Option Value → Shared → Prop} {r : Nat} (hA : OkA r A) (hlim : s.heap.NoLimit)
    (hg : s.heap.IsGen a g) (hgs : s.gens[g]? = some gs) (hgo : gs.Goes (model G.prog G.w) A.in1 (RG C I) Y n (.send .none) (s.setGen g .running))
    (h : ∀ o s', Woke (fun n s₀ s₁ => n = 0 ∧ Since C I s₀ s₁) Y (fun gs' m r s'' => gs'.Goes (model G.prog G.w) A.in1 (RG C I) Y m r s'') g n (s.setGen g .running) o s' → Q o s') :
    wpAny (model G.prog G.w) A (pyNext (.ref a)) Q NoE s := by
  have hT := hg.typeIs
  have room : A.depth < recursionLimit := by have := hA.depth; omega
  refine wpAny_bind (wpAny_attempt (wpAny_callSpecial?_slot hT slot_gen_next (wpAny_call_entry slot_gen_next hT entry_gen_next ?_ (args_gen_next _))))
  show wpAny _ _ (Builtin.Generator.genWake (.ref a) (.send .none)) _ _ _
  unfold Builtin.Generator.genWake
  refine wpAny_bind (wpAny_holding (wpAny_genNumber hg (wpAny_bind (wpAny_genState hgs ?_))))
  match gs, hgo with
  | .fresh _, hgo | .suspended _ _ _ _ _ _, hgo =>
    refine wpAny_bind (wpAny_roomToWake hlim room (wpAny_resumeQ hgs hgo (fun x s₁ hx => ?_) fun v s₁ gs' hb hv => wpAny_pure ⟨v, rfl, wpAny_pure (h _ _ (.item v s₁ gs' hb hv))⟩))
    obtain ⟨rfl, hz⟩ := hx
    show wpAny _ _ (newExc (.type "StopIteration") [] >>= _) _ _ _
    refine wpAny_bind (wpAny_mono (stop_any (A := A.in1) hA.handled fun e h' kp he => ?_) (fun _ _ x => wpAny_bind x) fun _ _ x => x)
    refine wpAny_bind (wpAny_isInstance (T := "StopIteration") (b := true) he isSubtype_stop ?_)
    exact wpAny_pure (h _ _ (.over s₁ h' hz kp))
section
variable {prog : Program} {w : World} {A : Around} {E : Env} {C I L : Addr} {xs : List Int} {item : Nat → Int} {N : Nat} {ends : Bool} {mg : Str → Option Value}
theorem gen_start (hE : GEnv E C) (hCL : C ≠ L) (hCm : C ≠ mainGlobals) {tcm : Tok} (hcm : mg (Str.ofString "CHAR_MAX") = some (.int 127 tcm)) (W : GSeq xs item N ends) {s : Shared} {mp : Str → Option Value} (hI : I = s.heap.objs.size) (hne : N ≠ 0 ∨ ends = true) (hn : s.heap.Ns C mp) (hv : mp (Str.ofString "grouping") = some (.ref L)) (hL : IntL s.heap L xs) (hmg : s.heap.Ns mainGlobals mg) :
    Seg (model prog w) A (RG C I) (YG mg C I L xs item N ends) N s (.func (bodyOf st_grouping_intervals) E) ((model prog w).den (.func (bodyOf st_grouping_intervals) E)) [] s := by
  have e0 : (model prog w).den (.func (bodyOf st_grouping_intervals) E) = (do
      point
      match ← (execs (bodyOf st_grouping_intervals) E).onRaise (leaving E) with
      | .ret v => ret v
      | _ => ret .none) := rfl
  rw [e0]
  refine seg_bind (wpAny_point ?_)
  rw [Sem.onRaise_eq_wrap, Sem.bind_eq_wrap', Sem.wrap_wrap]
  conv in (execs (bodyOf st_grouping_intervals) E) => arg 1; whnf
  have hCl : C < s.heap.objs.size := let ⟨o, _, _, ho, _⟩ := hn; Heap.lt_size ho
  have hLl : L < s.heap.objs.size := let ⟨_, _, ho, _⟩ := hL; Heap.lt_size ho
  refine segw_cons (wpAny_Assign_Name (wpAny_Constant_none (hE.store gi_last hn fun h2 hn2 hsb2 => ?_)) rfl)
  have hv2 : (fun y => if y = Str.ofString "last_interval" then some Value.none else mp y) (Str.ofString "grouping") = some (.ref L) := by
    show (if _ = _ then _ else _) = _
    rw [if_neg (by decide +kernel)]; exact hv
  have hl2 : (fun y => if y = Str.ofString "last_interval" then some Value.none else mp y) (Str.ofString "last_interval") = some Value.none := if_pos rfl
  generalize (fun y => if y = Str.ofString "last_interval" then some Value.none else mp y) = mp2 at *
  as_aux_lemma =>
    obtain ⟨vs, k, hLo, hints⟩ := hL
    have hLo2 : h2.get? L = some (lstOf vs k) := (hsb2.2 L (Ne.symm hCL)).trans hLo
    have hsz : h2.objs.size = s.heap.objs.size := hsb2.1
    refine segw_cons' rfl (segw_for (by intro _; rfl) (hE.load gi_grp (by decide +kernel) hn2 hv2 (wpAny_pyIter_list ⟨_, hLo2, rfl, k, rfl⟩ fun p kf hkf => ?_)))
    obtain rfl : I = h2.objs.size := hI.trans hsz.symm
    have hCI : C ≠ h2.objs.size := by rw [hsz]; exact Nat.ne_of_lt hCl
    have hIL : h2.objs.size ≠ L := by rw [hsz]; exact Nat.ne_of_gt hLl
    refine gen_loop hE hCI hIL hCL hCm hcm W N 0 s _ mp2 .none kf _ _ p (fun n s₀ s1 h0 hs => ?_) (Nat.zero_add N) hne (Nat.zero_le _) ?_ (hn2.push _) hl2 rfl ⟨_, Heap.get?_push_size _ rfl, rfl, rfl⟩ ⟨vs, k, Heap.get?_push_of_some _ hLo2, hints⟩ ((hmg.sameBut hsb2 (Ne.symm hCm)).push _)
    · rw [hkf]
      exact seg_end (.ok (.ret .none)) ⟨rfl, h0, hs⟩
    · exact (Since.refl C _ s).step fun b o hC _ e => Heap.get?_push_of_some _ ((hsb2.2 b hC).trans e)
end
inductive SG0 (E : Env) (C a L : Addr) (g i : Nat) (P : Addr → Prop) (s : Shared) : Prop
  | mk (h0 : i = 0) (hP : ∀ b, P b ↔ b = C ∨ b = a) (h1 : s.gens[g]? = some (.fresh (.func (bodyOf st_grouping_intervals) E))) (mp : Str → Option Value) (h2 : s.heap.Ns C mp) (h3 : mp (Str.ofString "grouping") = some (.ref L)) : SG0 E C a L g i P s
inductive SG1 (G : Gx) (A : Around) (C a L : Addr) (g : Nat) (xs : List Int) (item : Nat → Int) (N : Nat) (ends : Bool) (i : Nat) (P : Addr → Prop) (s : Shared) : Prop
  | mk (I : Addr) (gs : GenState) (hP : ∀ b, P b ↔ b = C ∨ b = a ∨ b = I) (h1 : s.gens[g]? = some gs) (h2 : ∃ mp, s.heap.Ns C mp) (h3 : ∃ j, s.heap.IsListIter I L j)
      (h4 : (N - i ≠ 0 ∨ ends = true) → ∀ s'' : Shared, (∀ b o, b = C ∨ b = I → s.heap.get? b = some o → s''.heap.get? b = some o) → IntL s''.heap L xs → s''.heap.Ns mainGlobals G.mg → gs.Goes (model G.prog G.w) A.in1 (RG C I) (YG G.mg C I L xs item N ends) (N - i) (.send .none) s'') : SG1 G A C a L g xs item N ends i P s
noncomputable def SG (G : Gx) (A : Around) (E : Env) (C a L : Addr) (g : Nat) (xs : List Int) (item : Nat → Int) (N : Nat) (ends : Bool) (i : Nat) (P : Addr → Prop) (s : Shared) : Prop :=
  s.heap.IsGen a g ∧ (SG0 E C a L g i P s ∨ SG1 G A C a L g xs item N ends i P s)
theorem allBare_set {gs : Array GenState} {g : Nat} {x : GenState} (h : AllBare gs) (hx : x.bare = true) : AllBare (gs.setIfInBounds g x) := fun y hy => by
  rcases Array.mem_or_eq_of_mem_setIfInBounds hy with h1 | rfl
  · exact h y h1
  · exact hx
theorem ints_of {G : Gx} {h : Heap} {m : Mp} : ∀ {xs : List Int} {vs : List Value}, RVs G.fv h m (xs.map .int) vs → IntsAre vs xs
  | [], vs, e => by simp only [List.map_nil, RVs] at e; subst e; exact .nil
  | x :: xs, vs, e => by
    simp only [List.map_cons, RVs] at e
    obtain ⟨v, r, rfl, h1, h2⟩ := e
    obtain ⟨t, rfl⟩ := inv_int h1
    exact .cons _ _ (ints_of h2)
inductive GenKey (G : Gx) (A : Around) (C a L : Addr) (g : Nat) (xs : List Int) (item : Nat → Int) (N : Nat) (ends : Bool) (i : Nat) (P : Addr → Prop) (s : Shared) : Prop
  | mk (I : Addr) (gs : GenState) (k0 : (∀ b, P b → b = C ∨ b = a ∨ b = I)) (k1 : P C) (k2 : P a) (k3 : (P I ∨ s.heap.get? I = none)) (k4 : L ≠ C) (k5 : L ≠ I) (k6 : a ≠ I) (k7 : mainGlobals ≠ I) (k8 : s.gens[g]? = some gs) (k9 : ((N - i ≠ 0 ∨ ends = true) → gs.Goes (model G.prog G.w) A.in1 (RG C I) (YG G.mg C I L xs item N ends) (N - i) (.send .none) (s.setGen g .running))) : GenKey G A C a L g xs item N ends i P s
theorem gen_key {G : Gx} {A : Around} {E : Env} {C a L : Addr} {g n0 : Nat} {xs : List Int} {item : Nat → Int} {N : Nat} {ends : Bool} {H : AH} {m : Mp} {s : Shared} {P : Addr → Prop} {i : Nat} (hE : GEnv E C) (hCm : C ≠ mainGlobals) {tcm : Tok} (hcm : G.mg (Str.ofString "CHAR_MAX") = some (.int 127 tcm)) (W : GSeq xs item N ends)
    (hr : HR G H m s) (hH : H n0 = some (.list (xs.map .int))) (hL : m.f n0 = L) (hPL : ¬ P L) (hS : SG G A E C a L g xs item N ends i P s) : IntL s.heap L xs ∧ s.heap.Ns mainGlobals G.mg ∧ GenKey G A C a L g xs item N ends i P s := by
  obtain ⟨vs, k, ho, hv⟩ := hr.list hH
  rw [hL] at ho
  have hIL : IntL s.heap L xs := ⟨vs, k, ho, ints_of hv⟩
  have hmg : s.heap.Ns mainGlobals G.mg := G.hg.keeps hr.base
  refine ⟨hIL, hmg, ?_⟩
  obtain ⟨⟨oa, nm, qn, ha, hac, had, _⟩, h⟩ := hS
  rcases h with ⟨rfl, hP, h1, mp, h2, h3⟩ | ⟨I, gs, hP, h1, ⟨mp, h2⟩, ⟨j, h3⟩, h4⟩
  · have hCL : L ≠ C := fun q => hPL ((hP L).mpr (.inl q))
    refine ⟨s.heap.objs.size, _, fun b hb => ((hP b).mp hb).imp id .inl, (hP C).mpr (.inl rfl), (hP a).mpr (.inr rfl), .inr (Heap.get?_none_of_le (Nat.le_refl _)), hCL, Nat.ne_of_lt (Heap.lt_size ho), Nat.ne_of_lt (Heap.lt_size ha), (let ⟨_, _, _, e, _⟩ := hmg; Nat.ne_of_lt (Heap.lt_size e)), h1, fun hne => ⟨rfl, ?_⟩⟩
    rw [Nat.sub_zero] at hne ⊢
    exact gen_start (s := s.setGen g .running) hE (Ne.symm hCL) hCm hcm W rfl hne h2 h3 hIL hmg
  · refine ⟨I, gs, fun b => (hP b).mp, (hP C).mpr (.inl rfl), (hP a).mpr (.inr (.inl rfl)), .inl ((hP I).mpr (.inr (.inr rfl))), fun q => hPL ((hP L).mpr (.inl q)), fun q => hPL ((hP L).mpr (.inr (.inr q))), fun q => ?_, fun q => ?_, h1, fun hne => h4 hne (s.setGen g .running) (fun _ _ _ e => e) hIL hmg⟩
    · obtain ⟨o3, ho3, hc3, _⟩ := h3
      rw [← q, ha] at ho3; cases ho3
      rw [hac] at hc3; simp at hc3
    · obtain ⟨o3, ho3, hc3, hd3⟩ := h3
      obtain ⟨o, es, ep, e, hd, _⟩ := hmg
      rw [← q, e] at ho3; cases ho3
      rw [hd] at hd3; cases hd3
theorem gen_itr {G : Gx} {A : Around} {E : Env} {C a L : Addr} {g n0 : Nat} {xs : List Int} {item : Nat → Int} {N : Nat} {ends : Bool} {r : Nat} (hA : OkA r A) (hE : GEnv E C) (hCa : C ≠ a) (hCm : C ≠ mainGlobals) {tcm : Tok} (hcm : G.mg (Str.ofString "CHAR_MAX") = some (.int 127 tcm)) (W : GSeq xs item N ends) :
    ItrG G A n0 (xs.map .int) L g a (SG G A E C a L g xs item N ends) N (fun i => .int (item i)) ends where
  keep := fun i P s s' ⟨hg, h⟩ hk hgk => by
    have ha : ∀ o, s.heap.get? a = some o → s'.heap.get? a = some o := by
      rcases h with ⟨_, hP, _⟩ | ⟨I, gs, hP, _⟩ <;> exact fun o => hk a o ((hP a).mpr (by simp))
    obtain ⟨o, nm, qn, ho, r⟩ := hg
    refine ⟨⟨o, nm, qn, ha o ho, r⟩, ?_⟩
    rcases h with ⟨h0, hP, h1, mp, h2, h3⟩ | ⟨I, gs, hP, h1, ⟨mp, h2⟩, ⟨j, h3⟩, h4⟩
    · exact .inl ⟨h0, hP, hgk _ h1, mp, (let ⟨o, es, ep, ho, r⟩ := h2; ⟨o, es, ep, hk _ _ ((hP C).mpr (.inl rfl)) ho, r⟩), h3⟩
    · have kk : ∀ b o, b = C ∨ b = I → s.heap.get? b = some o → s'.heap.get? b = some o := fun b o hb => hk b o ((hP b).mpr (hb.imp id .inr))
      refine .inr ⟨I, gs, hP, hgk _ h1, ⟨mp, ns_kept h2 kk⟩, ⟨j, it_kept h3 kk⟩, fun hn s'' k1 k2 k3 => h4 hn s'' (fun b o hb e => k1 b o hb (kk b o hb e)) k2 k3⟩
  notup := fun i P s b o ⟨hg, h⟩ hb hf e => by
    have hfc := frozen_cls hf
    obtain ⟨oa, nm, qn, ha, hac, _⟩ := hg
    have nsn : ∀ mp, s.heap.Ns C mp → b ≠ C := fun mp ⟨o2, es, ep, ho2, hd2, _⟩ q => by
      rw [← q, e] at ho2; cases ho2
      cases hf <;> simp at hd2
    have gn : b ≠ a := fun q => by
      rw [← q, e] at ha; cases ha
      rcases hfc with h | h <;> rw [h] at hac <;> simp at hac
    rcases h with ⟨_, hP, _, mp, h2, _⟩ | ⟨I, gs, hP, _, ⟨mp, h2⟩, ⟨j, o3, ho3, hc3, _⟩, _⟩
    · rcases (hP b).mp hb with q | q
      · exact nsn mp h2 q
      · exact gn q
    · rcases (hP b).mp hb with q | q | q
      · exact nsn mp h2 q
      · exact gn q
      · rw [← q, e] at ho3; cases ho3
        rcases hfc with h | h <;> rw [h] at hc3 <;> simp at hc3
  live := fun i P s b ⟨hg, h⟩ hb => by
    obtain ⟨oa, nm, qn, ha, hac, _⟩ := hg
    rcases h with ⟨_, hP, _, mp, ⟨o2, es, ep, ho2, _⟩, _⟩ | ⟨I, gs, hP, _, ⟨mp, o2, es, ep, ho2, _⟩, ⟨j, o3, ho3, _⟩, _⟩
    · rcases (hP b).mp hb with q | q
      · rw [q, ho2]; rfl
      · rw [q, ha]; rfl
    · rcases (hP b).mp hb with q | q | q
      · rw [q, ho2]; rfl
      · rw [q, ha]; rfl
      · rw [q, ho3]; rfl
  self := fun i P A s Q Ex ⟨hg, _⟩ h => wpAny_pyIter_gen hg h
  next := fun i P H m s Q hi hr hH hL hPL hS hQ => by
    obtain ⟨hIL, hmg, I, gs, hP, hPC, hPa, hPI, hLC, hLI, haI, hmI, hgs, hgo⟩ := gen_key hE hCm hcm W hr hH hL hPL hS
    have hlim : s.heap.NoLimit := ⟨_, G.lim.choose_spec.1.keeps hr.base, G.lim.choose_spec.2⟩
    have hglt : g < s.gens.size := by
      rcases Nat.lt_or_ge g s.gens.size with h | h
      · exact h
      · rw [Array.getElem?_eq_none h] at hgs; cases hgs
    have hgc := hS.1
    refine gen_wakes hA hlim hgc hgs (hgo (.inl (by omega))) fun o s' q => ?_
    rcases q with ⟨v, s₁, gs', hb, ⟨⟨t, hv⟩, ⟨h', tk, rfl, hk⟩, ⟨mp, hn⟩, ⟨j, hj⟩, hcont⟩⟩ | ⟨s₁, h', hz, _⟩
    case over => exact absurd hz.1 (by omega)
    have hkP : ∀ b o, ¬ P b → s.heap.get? b = some o → h'.get? b = some o := fun b o hb e => hk b o (fun q => hb (q ▸ hPC)) (fun q => by
      rcases hPI with h | h
      · exact hb (q ▸ h)
      · rw [q, h] at e; cases e) e
    refine hQ v h' ((s.gens.setIfInBounds g .running).setIfInBounds g gs') tk (fun b => b = C ∨ b = a ∨ b = I) ⟨?_, .inr ⟨I, gs', fun b => Iff.rfl, ?_, ⟨mp, hn⟩, ⟨j, hj⟩, fun hne s'' k1 k2 k3 => ?_⟩⟩ (fun b hb => ?_) hkP (fun k x hk' e => ?_) (allBare_set (allBare_set hr.gens rfl) hb) ?_
    · obtain ⟨oa, nm, qn, ha, r⟩ := hgc
      exact ⟨oa, nm, qn, hk a oa (Ne.symm hCa) haI ha, r⟩
    · show ((s.gens.setIfInBounds g .running).setIfInBounds g gs')[g]? = some gs'
      rw [Array.getElem?_setIfInBounds_self_of_lt (by simpa using hglt)]
    · have hm := hcont (by rcases hne with h | h; exact .inl (by omega); exact .inr h) s'' k1 k2 k3
      cases hN : N - i with
      | zero => omega
      | succ m' =>
        rw [hN] at hm
        rw [show N - (i + 1) = m' by omega]
        exact hm
    · rcases hb with rfl | rfl | rfl
      · exact .inl hPC
      · exact .inl hPa
      · exact hPI
    · rw [Array.getElem?_setIfInBounds_ne (Ne.symm hk'), Array.getElem?_setIfInBounds_ne (Ne.symm hk')]; exact e
    · rw [hv, show N - 1 - (N - i - 1) = i by omega]; exact rv_int _
  last := fun P H m s Q hends hr hH hL hPL hS hQ => by
    obtain ⟨hIL, hmg, I, gs, hP, hPC, hPa, hPI, hLC, hLI, haI, hmI, hgs, hgo⟩ := gen_key hE hCm hcm W hr hH hL hPL hS
    have hlim : s.heap.NoLimit := ⟨_, G.lim.choose_spec.1.keeps hr.base, G.lim.choose_spec.2⟩
    refine gen_wakes hA hlim hS.1 hgs (hgo (.inr hends)) fun o s' q => ?_
    rcases q with ⟨v, s₁, gs', hb, ⟨_, ⟨h', tk, rfl, hk⟩, ⟨mp, hn⟩, ⟨j, hj⟩, hcont⟩⟩ | ⟨s₁, h', hz, hk'⟩
    · exfalso
      obtain ⟨vs, k, ho, hv⟩ := hIL
      have := hcont (.inr hends) _ (fun _ _ _ e => e) ⟨vs, k, hk L _ hLC hLI ho, hv⟩ (by
        obtain ⟨o, es, ep, e, r⟩ := hmg
        exact ⟨o, es, ep, hk _ _ (Ne.symm hCm) hmI e, r⟩)
      rw [Nat.sub_self] at this
      exact this
    · obtain ⟨_, h1, tk, rfl, hk⟩ := hz
      exact hQ h' _ tk (fun b o hb e => hk' b o (hk b o (fun q => hb (q ▸ hPC)) (fun q => by
        rcases hPI with h | h
        · exact hb (q ▸ h)
        · have e : s.heap.get? b = some o := e
          rw [q, h] at e; cases e) e)) (fun k x hk' e => by
        show ((s.gens.setIfInBounds g .running).setIfInBounds g .finished)[k]? = some x
        rw [Array.getElem?_setIfInBounds_ne (Ne.symm hk'), Array.getElem?_setIfInBounds_ne (Ne.symm hk')]; exact e) (allBare_set (allBare_set hr.gens rfl) rfl)
theorem gi_nc : ((scopeOf st_grouping_intervals).names.all fun x => x.2 != .cell) = true := by kernel_rfl!
theorem gi_pars : parsOf st_grouping_intervals = [Str.ofString "grouping"] := by kernel_rfl!
inductive GiQ (KI : Nat → List AV → Nat → (Nat → AV) → Bool → St → Prop) (as : List AV) (σ1 : St) : Prop
  | mk (n0 : Nat) (xs : List Int) (N : Nat) (item : Nat → Int) (ends : Bool) (ea : as = [.ref n0]) (hl : σ1.H n0 = some (.list (xs.map .int))) (W : Nonempty (GSeq xs item N ends)) (hk : KI n0 (xs.map .int) N (fun i => .int (item i)) ends σ1) : GiQ KI as σ1
theorem gi_iter {G : Gx} (R : Ready G) {X : Cx G} {r : Nat} {σ : St} {p pos : Pos} {arg : PySem.Expr} {KI : Nat → List AV → Nat → (Nat → AV) → Bool → St → Prop} (hx : X.res (Str.ofString "_grouping_intervals") = some (.glob 2))
    (h : EA X r [arg] σ (GiQ KI))
    (he : eval (.Call (.Name (Str.ofString "_grouping_intervals") p) [arg] [] pos) X.env = (do callWith pos (← eval (.Name (Str.ofString "_grouping_intervals") p) X.env) [] ([arg].map fun e => (false, eval e X.env)) []) := by rfl) : ∀ A m s, OkA r A → HR G σ.H m s → FR X σ.ρ σ.H m s →
    wpAny (model G.prog G.w) A (eval (.Call (.Name (Str.ofString "_grouping_intervals") p) [arg] [] pos) X.env) (GenR X A σ m s KI) NoE s := fun A m s hA hr hf => by
  obtain ⟨a, o, fd, h1, h2, h3, h4, h5, h6, h7, h8, h9, h10⟩ := R.gen.ex
  obtain ⟨tcm, _, hcm⟩ := R.charmax
  rw [he]
  have hname : wpAny (model G.prog G.w) A (eval (.Name (Str.ofString "_grouping_intervals") p) X.env) (fun cv s' => cv = G.fv 2 ∧ s' = s) NoE s := wpAny_Name (glob_any hr hx ⟨rfl, rfl⟩) (X.glob _ _ hx).1
  refine wpAny_bind (wpAny_mono hname (fun cf s' q0 => ?_) fun _ _ x => x)
  obtain ⟨e1, e2⟩ := q0
  subst e1 e2
  refine callWith_of (P := fun hh => ∀ b o, G.h₀.get? b = some o → hh.get? b = some o) rfl (fun hh P => let ⟨k, hk, L⟩ := R.gen.keep; ⟨k, hk, L.keeps P⟩) (evalArgs_plain (wpAny_mono (h A m s' hA hr hf) (fun cs s1 ⟨as, σ1, m1, ⟨n0, xs, N, item, ends, ea, hl, ⟨W⟩, hKI⟩, e1, hr1, hf1, ha⟩ => ⟨hr1.base, ?_⟩) fun _ _ x => x))
  subst ea
  obtain ⟨ca, rfl, hca⟩ := rvs1 ha
  obtain ⟨hlt, rfl⟩ := inv_ref hca
  rw [h1]
  have hlim : s1.heap.NoLimit := ⟨_, G.lim.choose_spec.1.keeps hr1.base, G.lim.choose_spec.2⟩
  show wpAny _ _ (call (.ref a) [Value.ref (m1.f n0)]) _ _ _
  have hb : bindArgs fd ⟨[Value.ref (m1.f n0)], []⟩ = pure [(Str.ofString "grouping", Value.ref (m1.f n0))] := by rw [h10 _ (by rw [gi_pars]; rfl), gi_pars]; rfl
  refine wpAny_call (codeAny_call_generator (body := bodyOf st_grouping_intervals) (by have := hA.depth; omega) (hr1.base _ _ h2) h3 (by rw [h9]; kernel_rfl!) (by rw [h9]; kernel_rfl!) h5 (h4.keeps hr1.base) ?_)
  rw [hb, h9, h6, h7, h8]
  refine wpAny_pure (wpAny_newFunctionEnv (fun x hx q => by
    have := List.all_eq_true.mp gi_nc x hx
    rw [q] at this; cases this) (fun x hx => by
    rw [List.mem_singleton.mp hx]
    exact gi_grp) (fun h' hn hsb => ?_) gi_kind)
  dsimp only at hn hsb ⊢
  have hk : ∀ b o, s1.heap.get? b = some o → h'.get? b = some o := fun b o e => (hsb.2 b (Nat.ne_of_lt (Heap.lt_size e))).trans (Heap.get?_push_of_some _ e)
  refine ⟨hlim.keeps hk, ?_⟩
  have hsz : h'.objs.size = s1.heap.objs.size + 1 := by rw [hsb.1, Heap.size_push]
  generalize hE : newEnv (scopeOf st_grouping_intervals) s1.heap.objs.size mainGlobals [] (fd.qualname ++ ".<locals>.") (some a) fd.code none builtinsNs = E
  as_aux_lemma =>
    have gE : GEnv E s1.heap.objs.size := ⟨by rw [← hE]; rfl, by rw [← hE]; rfl, by rw [← hE]; rfl⟩
    have hmg : s1.heap.Ns mainGlobals G.mg := G.hg.keeps hr1.base
    have hCm : s1.heap.objs.size ≠ mainGlobals := let ⟨_, _, _, e, _⟩ := hmg; Nat.ne_of_gt (Heap.lt_size e)
    have hCa : s1.heap.objs.size ≠ h'.objs.size := by rw [hsz]; exact Nat.ne_of_lt (Nat.lt_succ_self _)
    obtain ⟨vs, kk, hlo, hlv⟩ := hr1.list hl
    have hLC : m1.f n0 ≠ s1.heap.objs.size := Nat.ne_of_lt (Heap.lt_size hlo)
    generalize hs2 : ({ s1 with gens := s1.gens.push (.fresh (.func (bodyOf st_grouping_intervals) E)), toks := s1.toks + [(Str.ofString "grouping", Value.ref (m1.f n0))].length + 1 + 1, heap := h'.push { cls := .type "generator", data := .fields #[.int s1.gens.size 0, .str fd.name (s1.toks + [(Str.ofString "grouping", Value.ref (m1.f n0))].length), .str fd.qualname (s1.toks + [(Str.ofString "grouping", Value.ref (m1.f n0))].length + 1)] } } : Shared) = s2
    as_aux_lemma =>
      have hkp : ∀ b o, s1.heap.get? b = some o → s2.heap.get? b = some o := fun b o e => by
        rw [← hs2]; exact Heap.get?_push_of_some _ (hk b o e)
      have fr1 : ∀ b, (b = s1.heap.objs.size ∨ b = h'.objs.size) → s1.heap.get? b = none := fun b hb => Heap.get?_none_of_le (by rcases hb with rfl | rfl; exact Nat.le_refl _; rw [hsz]; exact Nat.le_succ _)
      have frs : ∀ b, s1.heap.get? b = none → s'.heap.get? b = none := fun b e => by
        cases q : s'.heap.get? b with
        | none => rfl
        | some o => have := e1.live b (by rw [q]; rfl); rw [e] at this; cases this
      refine ⟨σ1, m1, h'.objs.size, n0, xs.map .int, N, fun i => .int (item i), ends, fun b => b = s1.heap.objs.size ∨ b = h'.objs.size, s1.gens.size, SG G A E s1.heap.objs.size h'.objs.size (m1.f n0) s1.gens.size xs item N ends, rfl, ⟨gen_itr hA gE hCa hCm hcm W, fun b hb => frs b (fr1 b hb), ?_, ?_, ?_, ?_, fun b hb => hid_new hr1 hf1 (fr1 b hb), ?_, hl⟩, hKI⟩
      · cases q : s'.gens[s1.gens.size]? with
        | none => rfl
        | some x =>
          have := e1.gens _ _ q
          rw [Array.getElem?_eq_none (Nat.le_refl _)] at this; cases this
      · refine e1.trans ⟨Nat.le_refl _, fun _ _ => rfl, fun i o e => .inl ⟨hr1.dom i o e, o, e⟩, fun b o e _ _ => hkp b o e, fun b o _ e => hkp b o e, by rw [← hs2], fun k z e => ?_, fun b e => ?_⟩
        · rw [← hs2]
          show (s1.gens.push _)[k]? = some z
          have hlt : k < s1.gens.size := by
            rcases Nat.lt_or_ge k s1.gens.size with h | h
            · exact h
            · rw [Array.getElem?_eq_none h] at e; cases e
          rw [Array.getElem?_push_lt hlt, ← e, Array.getElem?_eq_getElem hlt]
        · cases q : s1.heap.get? b with
          | none => rw [q] at e; cases e
          | some o => rw [hkp b o q]; rfl
      · refine hr1.grow hkp ?_
        rw [← hs2]
        exact hr1.gens.push rfl
      · exact hf1.grow hkp
      · rw [← hs2]
        refine ⟨⟨_, _, _, Heap.get?_push_size _ rfl, rfl, rfl, rfl⟩, .inl ⟨rfl, fun b => Iff.rfl, ?_, _, hn.push _, rfl⟩⟩
        show (s1.gens.push _)[s1.gens.size]? = _
        rw [Array.getElem?_push_size]
end WaG2
section WaW13
variable {G : Gx} {r : Nat}
noncomputable def kindsL : List (List Nat) := [[34], [35], [92], [99, 67, 8450, 8493], [104, 72, 8459, 8460, 8461], [110, 78, 8469, 119977], [122, 90, 8484, 8488]]
noncomputable def unseenL : List Nat := [173, 847, 6150, 6155, 6156, 6157, 8203, 8204, 8205, 8288, 65279] ++ (List.range 16).map (65024 + ·)
noncomputable def signAt (seed width k place : Nat) : Nat := if place < width then (kindsL.getD place []).getD ((seed + k) % (kindsL.getD place []).length) 0 else unseenL.getD ((seed + 5 * k) % 27) 0
noncomputable def tapeL (size step width seed n : Nat) : List Nat := (List.range n).map fun k => signAt seed width k (k * step % size)
theorem kinds_eq : [AV.str (Str.ofString "\""), AV.str (Str.ofString "#"), AV.str (Str.ofString "\\"), AV.str (Str.ofString "cCℂℭ"), AV.str (Str.ofString "hHℋℌℍ"), AV.str (Str.ofString "nNℕ𝒩"), AV.str (Str.ofString "zZℤℨ")] = kindsL.map fun l => AV.str (S l) := by
  rw [show Str.ofString "\"" = S [34] by decide +kernel, show Str.ofString "#" = S [35] by decide +kernel, show Str.ofString "\\" = S [92] by decide +kernel, show Str.ofString "cCℂℭ" = S [99, 67, 8450, 8493] by decide +kernel, show Str.ofString "hHℋℌℍ" = S [104, 72, 8459, 8460, 8461] by decide +kernel, show Str.ofString "nNℕ𝒩" = S [110, 78, 8469, 119977] by decide +kernel, show Str.ofString "zZℤℨ" = S [122, 90, 8484, 8488] by decide +kernel]
  rfl
theorem getD_get {l : List Nat} {j : Nat} (h : j < l.length) : l[j]? = some (l.getD j 0) := by
  rw [List.getD_eq_getElem?_getD, List.getElem?_eq_getElem h]; rfl
theorem S_get {l : List Nat} {j : Nat} (h : j < l.length) : (S l).cps[j]? = some (l.getD j 0) := by
  show l.toArray[j]? = _
  rw [List.getElem?_toArray]; exact getD_get h
noncomputable def tapeK (size step width seed kn un i pl : Nat) (H6 : AH) : AF → St → Prop :=
  fun f σ1 => f = AF.next ∧ σ1 = ⟨[some (.int size), some (.int step), some (.int width), some (.int seed), some (.ref kn), some (.ref un), some (.str (S (tapeL size step width seed (i + 1)))), some (.int (pl : Int)), some (.int step), none, none, none, none, none], H6⟩
theorem law_tape_ok (R : Ready G) {size step width seed : Nat} (h8 : 8 ≤ size) (h40 : size ≤ 40) (hs1 : 1 ≤ step) (hs2 : step < size) (hw2 : 2 ≤ width) (hw7 : width ≤ 7) (hse : seed < 10 ^ 12) {H : AH} {K : AV → AH → Prop} (h : ∀ H', Mod [] H H' → K (.str (S (tapeL size step width seed size))) H') : CallOK G 1 (G.fv 12) [.int size, .int step, .int width, .int seed] H K := by
  have vl := R.v_len
  have vr := R.v_range
  have vt := R.v_list
  have vc := R.v_chr
  have hsl : sizeLine = 16777216 := rfl
  refine def_call [some (.int size), some (.int step), some (.int width), some (.int seed), none, none, none, none, none, none, none, none, none, none] R.d_law_tape R.gt scope_law_tape rfl len_law_tape rfl fun X hX hsc => ?_
  obtain ⟨n1, n2, n3, n4, n5, n6, n7, n8, n9, n10, n11, n12, n13, n14⟩ := nm_law_tape hX
  conv in (bodyOf _) => whnf
  repeat' walk_at "ev"
  refine ev_listM ?_
  repeat' walk_at "ev"
  refine ⟨Nat.le_of_ble_eq_true rfl, fun kn H1 hkn m1 gk => ?_⟩
  dsimp only at hkn m1 ⊢
  rw [kinds_eq] at gk
  repeat' walk_at "ev"
  refine ev_listM ?_
  repeat' walk_at "ev"
  refine ⟨Nat.le_of_ble_eq_true rfl, fun u1 H2 hu1 m2 gu1 => ?_⟩
  dsimp only at m2 ⊢
  repeat' walk_at "ev"
  refine cv_listRM (by omega) (by omega) (by omega) (by omega) (by decide) (fun u2 H3 hu2 m3 gu2 => ?_)
  dsimp only at m3 ⊢
  refine p2_addLM (m3.get gu1) gu2 (Nat.le_of_ble_eq_true rfl) (fun un H4 hun m4 gun => ?_)
  dsimp only at m4 ⊢
  have gun : H4 un = some (.list (unseenL.map fun c => AV.int (c : Nat))) := gun
  have gk : H4 kn = _ := m4.get (m3.get (m2.get gk))
  have m14 := ((m1.trans' m2).trans' m3).trans' m4
  clear hkn hu1 hu2 hun gu1 gu2 m1 m2 m3 m4
  repeat' walk_at "ev"
  rw [emp_eq]
  refine es_forG (KI := fun n0 xs N item ends σ1 => size = N ∧ (fun _ => AV.int step) = item ∧ false = ends ∧ ∃ H3, σ1 = ⟨[some (.int size), some (.int step), some (.int width), some (.int seed), some (.ref kn), some (.ref un), some (.str ⟨#[]⟩), some (.int 0), none, none, none, none, none, none], H3⟩ ∧ Mod [] H4 H3 ∧ H3 n0 = some (.list xs)) n9 ?_ ?_
  · refine gi_iter R n12 ?_
    repeat' walk_at "ev"
    refine ev_listM ?_
    repeat' walk_at "ev"
    refine ⟨Nat.le_of_ble_eq_true rfl, fun l1 H5 hl1 m5 g1 => ?_⟩
    repeat' walk_at "ev"
    refine P2.mod (by decide) ?_
    rw [show Int.fmod (seed : Int) 3 = ((seed % 3 : Nat) : Int) from nat_mod seed 3 (by decide)]
    repeat' walk_at "ev"
    have h3 : seed % 3 < 3 := Nat.mod_lt _ (by decide)
    refine p2_mulLM g1 (by omega) (by omega) Nat.one_pos (by simp; omega) (fun l2 H6 hl2 m6 g2 => ?_)
    dsimp only at m5 m6 g2 ⊢
    refine ev_listM ?_
    repeat' walk_at "ev"
    refine ⟨Nat.le_of_ble_eq_true rfl, fun l3 H7 hl3 m7 g3 => ?_⟩
    dsimp only at m7 ⊢
    have ec : (1 + ((seed % 3 : Nat) : Int)).toNat = 1 + seed % 3 := by omega
    rw [ec, List.flatten_replicate_singleton] at g2
    refine p2_addLM (m7.get g2) g3 (by simp; omega) (fun l4 H8 hl4 m8 g4 => ?_)
    dsimp only at m8 ⊢
    repeat' walk_at "ev"
    refine ⟨l4, List.replicate (1 + seed % 3) (step : Int) ++ [0, 5], size, fun _ => (step : Int), false, rfl, ?_, ⟨⟨List.replicate (1 + seed % 3) (step : Int), 0, [5], rfl, ?_, ?_, .inr ⟨rfl, rfl, ?_, ?_⟩⟩⟩, rfl, rfl, rfl, H8, rfl, ((m5.trans' m6).trans' m7).trans' m8, ?_⟩
    · show H8 l4 = _; rw [g4, List.map_append, List.map_replicate]; rfl
    · intro y hy
      rw [(List.mem_replicate.mp hy).2]
      exact ⟨by omega, by omega⟩
    · intro j hj
      rw [List.length_replicate] at hj
      rw [List.getD_eq_getElem?_getD, List.getElem?_replicate, if_pos hj]; rfl
    · intro q
      have := congrArg List.length q
      rw [List.length_replicate] at this; simp at this
    · intro j _
      rw [List.getLastD_eq_getLast?, List.getLast?_replicate, if_neg (by omega)]; rfl
    · show H8 l4 = _; rw [g4, List.map_append, List.map_replicate]; rfl
  · rintro n0 xs N item ends σ1 ⟨rfl, rfl, rfl, H5, rfl, m5, g5⟩
    refine ⟨fun i σ => i < size ∧ ∃ u H6, σ = ⟨[some (.int size), some (.int step), some (.int width), some (.int seed), some (.ref kn), some (.ref un), some (.str (S (tapeL size step width seed i))), some (.int ((i * step % size : Nat) : Int)), u, none, none, none, none, none], H6⟩ ∧ Mod [] H4 H6 ∧ H6 n0 = some (.list xs), ⟨by omega, none, H5, by rw [Nat.zero_mul, Nat.zero_mod]; rfl, m5, g5⟩, ?_, fun σ hj => absurd hj.1 (Nat.lt_irrefl _)⟩
    rintro i σ hi ⟨_, u, H6, rfl, m6, g6⟩
    refine ⟨g6, ?_⟩
    have gk6 := m6.get gk
    have gu6 := m6.get gun
    have hlen : ∀ k, (tapeL size step width seed k).length = k := fun k => by unfold tapeL; rw [List.length_map, List.length_range]
    have hsucc : tapeL size step width seed (i + 1) = tapeL size step width seed i ++ [signAt seed width i (i * step % size)] := by
      unfold tapeL; rw [List.range_succ, List.map_append]; rfl
    generalize hpl : i * step % size = pl at *
    as_aux_lemma =>
      have hpl2 : pl < size := by rw [← hpl]; exact Nat.mod_lt _ (by omega)
      refine ES.cons (EG.mono (K := (tapeK size step width seed kn un i pl H6)) ?_ ?_)
      · repeat' walk_at "ev"
        refine ⟨fun hlt => ?_, fun hge => ?_⟩
        · have hlt : pl < width := by have := of_decide_eq_true hlt; omega
          have hp7 : pl < 7 := by omega
          repeat' walk_at "ev"
          refine ev_sub ?_
          refine ev_sub ?_
          repeat' walk_at "ev"
          refine ⟨SubT.list _ _ gk6, P2.itemL gk6 (a := .str (S (kindsL.getD pl []))) (by omega) (by omega) ?_ ?_⟩
          · rw [Int.toNat_natCast, List.getElem?_map, List.getD_eq_getElem?_getD, List.getElem?_eq_getElem (by exact hp7)]; rfl
          have hkl : 0 < (kindsL.getD pl []).length ∧ (kindsL.getD pl []).length ≤ 5 := by
            have : ∀ p < 7, 0 < (kindsL.getD p []).length ∧ (kindsL.getD p []).length ≤ 5 := by decide
            exact this pl hp7
          repeat' walk_at "ev"
          refine CV.lenS (by rw [S_len, hlen]; omega) ?_
          rw [S_len, hlen]
          repeat' walk_at "ev"
          refine ev_sub ?_
          repeat' walk_at "ev"
          refine ⟨SubT.list _ _ gk6, P2.itemL gk6 (a := .str (S (kindsL.getD pl []))) (by omega) (by omega) ?_ ?_⟩
          · rw [Int.toNat_natCast, List.getElem?_map, List.getD_eq_getElem?_getD, List.getElem?_eq_getElem (by exact hp7)]; rfl
          repeat' walk_at "ev"
          refine CV.lenS (by rw [S_len]; omega) ?_
          rw [S_len]
          repeat' walk_at "ev"
          refine P2.mod (by omega) ?_
          rw [show (seed : Int) + (i : Int) = ((seed + i : Nat) : Int) by omega, nat_mod _ _ hkl.1]
          have hmm : (seed + i) % (kindsL.getD pl []).length < (kindsL.getD pl []).length := Nat.mod_lt _ hkl.1
          refine ⟨SubT.str _, P2.itemS (c := (kindsL.getD pl []).getD ((seed + i) % (kindsL.getD pl []).length) 0) (by omega) (by rw [S_len]; omega) (by rw [S_len]; omega) ?_ ?_⟩
          · rw [Int.toNat_natCast]
            exact S_get hmm
          repeat' walk_at "ev"
          case hsz => exact len_ok2 (by rw [hlen]; omega)
          refine ⟨rfl, ?_⟩
          rw [hsucc, show signAt seed width i pl = (kindsL.getD pl []).getD ((seed + i) % (kindsL.getD pl []).length) 0 from if_pos hlt, show S (tapeL size step width seed i) ++ (⟨#[(kindsL.getD pl []).getD ((seed + i) % (kindsL.getD pl []).length) 0]⟩ : Str) = _ from app_ch _ _]
          rfl
        · have hge : ¬ pl < width := by have := of_decide_eq_false hge; omega
          repeat' walk_at "ev"
          refine ev_sub ?_
          repeat' walk_at "ev"
          refine CV.lenS (by rw [S_len, hlen]; omega) ?_
          rw [S_len, hlen]
          refine P2.mul ?_ ?_
          repeat' walk_at "ev"
          · refine P2.mod (by omega) ?_
            rw [show (seed : Int) + 5 * (i : Int) = ((seed + 5 * i : Nat) : Int) by omega, show (27 : Int) = ((27 : Nat) : Int) from rfl, nat_mod _ _ (by decide)]
            have hmm : (seed + 5 * i) % 27 < 27 := Nat.mod_lt _ (by decide)
            have hul : unseenL.length = 27 := rfl
            refine ⟨SubT.list _ _ gu6, P2.itemL gu6 (a := .int (unseenL.getD ((seed + 5 * i) % 27) 0 : Nat)) (by omega) (by omega) ?_ ?_⟩
            · rw [Int.toNat_natCast, List.getElem?_map, List.getD_eq_getElem?_getD, List.getElem?_eq_getElem (by rw [hul]; exact hmm)]; rfl
            have hch : ∀ k < 27, unseenL.getD k 0 < 65280 := by decide
            repeat' walk_at "ev"
            refine CV.chr ?_ ?_
            · have := hch _ hmm
              simp only [Bool.or_eq_false_iff, decide_eq_false_iff_not]; omega
            rw [Int.toNat_natCast]
            repeat' walk_at "ev"
            case hsz => exact len_ok2 (by rw [hlen]; omega)
            refine ⟨rfl, ?_⟩
            rw [hsucc, show signAt seed width i pl = unseenL.getD ((seed + 5 * i) % 27) 0 from if_neg hge, show S (tapeL size step width seed i) ++ (⟨#[unseenL.getD ((seed + 5 * i) % 27) 0]⟩ : Str) = _ from app_ch _ _]
            rfl
          · exact PySem.IntMulOk.of_left (by decide)
      · rintro f σ1 ⟨rfl, rfl⟩
        repeat' walk_at "ev"
        refine P2.mod (by omega) ?_
        rw [show (pl : Int) + (step : Int) = ((pl + step : Nat) : Int) by omega, nat_mod _ _ (by omega)]
        repeat' walk_at "ev"
        refine CV.lenS (by rw [S_len, hlen]; omega) ?_
        rw [S_len, hlen]
        repeat' walk_at "ev"
        refine ⟨fun he => ?_, fun he => ?_⟩
        · have he : i + 1 = size := by have := beq_iff_eq.mp he; omega
          repeat' walk_at "ev"
          rw [he]
          exact h H6 (m14.trans' m6)
        · have he : ¬ (i + 1 = size) := fun q => by rw [q] at he; simp at he
          repeat' walk_at "ev"
          refine ⟨by omega, some (.int step), H6, ?_, m6, g6⟩
          have : (pl + step) % size = (i + 1) * step % size := by rw [← hpl, Nat.mod_add_mod, Nat.succ_mul]
          rw [this]; rfl
end WaW13
section WaW14
variable {G : Gx} {r : Nat}
noncomputable def escOf (odd : Bool) (c : Nat) : List Nat := if c = 34 ∨ c = 92 ∨ (c = 32 ∧ odd = true) then [92] else []
noncomputable def escL (odd : Bool) : List Nat → List Nat
  | [] => []
  | c :: l => escOf odd c ++ c :: escL odd l
noncomputable def wordL (text : List Nat) (way : Nat) : List Nat := (if way % 2 = 0 then 34 :: (escL false text ++ [34]) else escL true text) ++ [[10, 9, 13, 32].getD (way / 2 % 4) 0, 10]
theorem escL_app (o : Bool) (a b : List Nat) : escL o (a ++ b) = escL o a ++ escL o b := by
  induction a with
  | nil => rfl
  | cons c a ih => show escOf o c ++ c :: escL o (a ++ b) = (escOf o c ++ c :: escL o a) ++ escL o b; rw [ih, List.append_assoc]; rfl
theorem escOf_len (o : Bool) (c : Nat) : (escOf o c).length ≤ 1 := by unfold escOf; split <;> simp
theorem escL_len (o : Bool) (a : List Nat) : (escL o a).length ≤ 2 * a.length := by
  induction a with
  | nil => exact Nat.le_refl _
  | cons c a ih =>
    show (escOf o c ++ c :: escL o a).length ≤ _
    have := escOf_len o c
    rw [List.length_append, List.length_cons, List.length_cons]; omega
theorem S_app (a b : List Nat) : S a ++ S b = S (a ++ b) := by
  show Str.mk (a.toArray ++ b.toArray) = _
  rw [List.append_toArray]
theorem take_succ_getD {l : List Nat} {i : Nat} (h : i < l.length) : l.take (i + 1) = l.take i ++ [l.getD i 0] := by
  rw [List.take_add_one, List.getElem?_eq_getElem h, List.getD_eq_getElem?_getD, List.getElem?_eq_getElem h]; rfl
theorem nat_fdiv (i k : Nat) (hk : 0 < k) : Int.fdiv (i : Int) (k : Int) = ((i / k : Nat) : Int) := by
  rw [Int.fdiv_eq_ediv_of_nonneg _ (by omega)]; rfl
theorem pyl2 (x y : Int) (h : y.natAbs.log2 < 8970) : Builtin.divisionGoesByPylong x y = false := by
  unfold Builtin.divisionGoesByPylong
  simp only [Bool.and_eq_false_iff, decide_eq_false_iff_not]
  refine .inl ?_
  split <;> omega
noncomputable def wordJ (text : List Nat) (way : Nat) (H : AH) : Nat → St → Prop :=
  fun i σ => ∃ u, σ = ⟨[some (.str (S text)), some (.int way), some (.str (S (escL (decide (way % 2 = 1)) (text.take i)))), u], H⟩
noncomputable def wordK1 (text W : List Nat) (way c : Nat) (H : AH) : AF → St → Prop :=
  fun f σ1 => f = AF.next ∧ σ1 = ⟨[some (.str (S text)), some (.int way), some (.str (S (W ++ escOf (decide (way % 2 = 1)) c))), some (chA c)], H⟩
noncomputable def wordK2 (text W : List Nat) (way : Nat) (H : AH) : AF → St → Prop :=
  fun f σ1 => f = AF.next ∧ ∃ u, σ1 = ⟨[some (.str (S text)), some (.int way), some (.str (S (if way % 2 = 0 then 34 :: (W ++ [34]) else W))), u], H⟩
theorem law_word_ok (R : Ready G) {text : List Nat} {way : Nat} (hs : text.length < 2 ^ 20) (hw : way < 10 ^ 12) {H : AH} {K : AV → AH → Prop} (h : K (.str (S (wordL text way))) H) : CallOK G 1 (G.fv 13) [.str (S text), .int way] H K := by
  have hsl : sizeLine = 16777216 := rfl
  have q34 : Str.ofString "\"" = S [34] := by decide +kernel
  have q92 : Str.ofString "\\" = S [92] := by decide +kernel
  have q32 : Str.ofString " " = S [32] := by decide +kernel
  have q10 : Str.ofString "\n" = S [10] := by decide +kernel
  have qw : Str.ofString "\n\t\r " = S [10, 9, 13, 32] := by decide +kernel
  refine def_call [some (.str (S text)), some (.int way), none, none] R.d_law_word R.gt scope_law_word rfl len_law_word rfl fun X hX hsc => ?_
  obtain ⟨n1, n2, n3, n4⟩ := nm_law_word hX
  conv in (bodyOf _) => whnf
  repeat' walk_at "ev"
  rw [emp_eq]
  refine ES.for_ n4 ?_
  repeat' walk_at "ev"
  refine ⟨_, _, _, (wordJ text way H), PI.str, ⟨none, rfl⟩, ?_, ?_⟩
  · rintro i σ hi ⟨u, rfl⟩
    have hi : i < text.length := hi
    refine ⟨trivial, ?_⟩
    have ec : (S text).cps.getD i 0 = text.getD i 0 := by
      show text.toArray.getD i 0 = _
      simp [Array.getD, List.getD_eq_getElem?_getD, hi]
    rw [ec]
    generalize hc : text.getD i 0 = c
    as_aux_lemma =>
      have hl := escL_len (decide (way % 2 = 1)) (text.take i)
      rw [List.length_take] at hl
      have hsucc : escL (decide (way % 2 = 1)) (text.take (i + 1)) = escL (decide (way % 2 = 1)) (text.take i) ++ (escOf (decide (way % 2 = 1)) c ++ [c]) := by
        rw [take_succ_getD hi, escL_app, hc]; rfl
      generalize escL (decide (way % 2 = 1)) (text.take i) = W at *
      as_aux_lemma =>
        refine ES.cons (EG.mono (K := (wordK1 text W way c H)) ?_ ?_)
        · refine ES.if_ (ET.or3 ?_)
          repeat' walk_at "ev"
          rw [q34, show (⟨#[c]⟩ : Str) = S [c] from rfl, S_beq]
          have yes : (c = 34 ∨ c = 92 ∨ (c = 32 ∧ decide (way % 2 = 1) = true)) → escOf (decide (way % 2 = 1)) c = [92] := fun q => if_pos q
          have no : ¬ (c = 34 ∨ c = 92 ∨ (c = 32 ∧ decide (way % 2 = 1) = true)) → escOf (decide (way % 2 = 1)) c = [] := fun q => if_neg q
          refine ⟨fun h1 => ?_, fun h1 => ?_⟩
          · repeat' walk_at "ev"
            rw [q92, S_beq]
            have h1 : ¬ c = 34 := fun q => by rw [q] at h1; simp at h1
            refine ⟨fun h2 => ?_, fun h2 => ?_⟩
            · have h2 : ¬ c = 92 := fun q => by rw [q] at h2; simp at h2
              repeat' walk_at "ev"
              rw [q32, S_beq]
              refine ⟨fun h3 => ?_, fun h3 => ?_⟩
              · have h3 : c = 32 := by simpa using h3
                repeat' walk_at "ev"
                refine P2.mod (by decide) ?_
                rw [show Int.fmod (way : Int) 2 = ((way % 2 : Nat) : Int) from nat_mod way 2 (by decide)]
                repeat' walk_at "ev"
                refine ⟨fun h4 => ?_, fun h4 => ?_⟩
                · have h4 : way % 2 = 1 := by have := beq_iff_eq.mp h4; omega
                  repeat' walk_at "ev"
                  case hsz => exact len_ok2 (by omega)
                  refine ⟨rfl, ?_⟩
                  rw [yes (.inr (.inr ⟨h3, decide_eq_true h4⟩)), S_app]; rfl
                · have h4 : ¬ way % 2 = 1 := fun q => by rw [q] at h4; simp at h4
                  repeat' walk_at "ev"
                  refine ⟨rfl, ?_⟩
                  rw [no (by rintro (q | q | ⟨_, q⟩); exact h1 q; exact h2 q; exact h4 (of_decide_eq_true q)), List.append_nil]; rfl
              · have h3 : ¬ c = 32 := fun q => by rw [q] at h3; simp at h3
                refine ⟨(fun e => by cases e), fun _ => ?_⟩
                repeat' walk_at "ev"
                refine ⟨rfl, ?_⟩
                rw [no (by rintro (q | q | ⟨q, _⟩); exact h1 q; exact h2 q; exact h3 q), List.append_nil]; rfl
            · have h2 : c = 92 := by simpa using h2
              refine ⟨fun _ => ?_, (fun e => by cases e)⟩
              repeat' walk_at "ev"
              case hsz => exact len_ok2 (by omega)
              refine ⟨rfl, ?_⟩
              rw [yes (.inr (.inl h2)), S_app]; rfl
          · have h1 : c = 34 := by simpa using h1
            refine ⟨fun _ => ?_, (fun e => by cases e)⟩
            repeat' walk_at "ev"
            case hsz => exact len_ok2 (by omega)
            refine ⟨rfl, ?_⟩
            rw [yes (.inl h1), q92, S_app]; rfl
        · rintro f σ1 ⟨rfl, rfl⟩
          repeat' walk_at "ev"
          case hsz => exact len_ok2 (by rw [List.length_append]; have := escOf_len (decide (way % 2 = 1)) c; omega)
          exact ⟨some (chA c), by rw [hsucc, show (⟨#[c]⟩ : Str) = S [c] from rfl, S_app, List.append_assoc]; rfl⟩
  · rintro σ ⟨u, rfl⟩
    refine ⟨trivial, ?_⟩
    have eN : text.take (S text).cps.size = text := List.take_of_length_le (by show text.length ≤ text.toArray.size; rw [List.size_toArray]; exact Nat.le_refl _)
    rw [eN]
    have hl := escL_len (decide (way % 2 = 1)) text
    have wl : (wordL text way) = (if way % 2 = 0 then 34 :: (escL (decide (way % 2 = 1)) text ++ [34]) else escL (decide (way % 2 = 1)) text) ++ [[10, 9, 13, 32].getD (way / 2 % 4) 0, 10] := by
      unfold wordL
      by_cases q : way % 2 = 0
      · rw [if_pos q, if_pos q, decide_eq_false (by omega)]
      · rw [if_neg q, if_neg q, decide_eq_true (by omega)]
    rw [wl] at h
    generalize escL (decide (way % 2 = 1)) text = W at *
    as_aux_lemma =>
      refine TS.cons (EG.mono (K := (wordK2 text W way H)) ?_ ?_)
      · repeat' walk_at "ev"
        refine P2.mod (by decide) ?_
        rw [show Int.fmod (way : Int) 2 = ((way % 2 : Nat) : Int) from nat_mod way 2 (by decide)]
        repeat' walk_at "ev"
        refine ⟨fun h4 => ?_, fun h4 => ?_⟩
        · have h4 : way % 2 = 0 := by have := beq_iff_eq.mp h4; omega
          repeat' walk_at "ev"
          · rw [q34, S_len, S_len, List.length_singleton]; omega
          · rw [q34, S_app]; exact len_ok2 (by simp; omega)
          refine ⟨rfl, u, ?_⟩
          rw [if_pos h4, q34, S_app, S_app]; rfl
        · have h4 : ¬ way % 2 = 0 := fun q => by rw [q] at h4; simp at h4
          repeat' walk_at "ev"
          exact ⟨rfl, u, by rw [if_neg h4]⟩
      · rintro f σ1 ⟨rfl, u, rfl⟩
        generalize hV : (if way % 2 = 0 then 34 :: (W ++ [34]) else W) = V at *
        as_aux_lemma =>
          have hVl : V.length ≤ W.length + 2 := by
            rw [← hV]; split <;> simp
          repeat' walk_at "ev"
          refine ev_sub ?_
          repeat' walk_at "ev"
          refine P2.fdiv (by decide) (pyl2 _ _ (by decide)) ?_
          rw [show Int.fdiv (way : Int) 2 = ((way / 2 : Nat) : Int) from nat_fdiv way 2 (by decide)]
          repeat' walk_at "ev"
          refine P2.mod (by decide) ?_
          rw [show Int.fmod ((way / 2 : Nat) : Int) 4 = ((way / 2 % 4 : Nat) : Int) from nat_mod _ 4 (by decide), qw]
          have h4 : way / 2 % 4 < 4 := Nat.mod_lt _ (by decide)
          refine ⟨SubT.str _, P2.itemS (c := [10, 9, 13, 32].getD (way / 2 % 4) 0) (by omega) (by rw [S_len]; simp; omega) (by rw [S_len]; simp; omega) ?_ ?_⟩
          · rw [Int.toNat_natCast]; exact S_get h4
          repeat' walk_at "ev"
          · exact len_ok2 (by omega)
          · rw [q10, show (⟨#[[10, 9, 13, 32].getD (way / 2 % 4) 0]⟩ : Str) = S [[10, 9, 13, 32].getD (way / 2 % 4) 0] from rfl, S_app]; exact len_ok2 (by simp; omega)
          rw [q10, show (⟨#[[10, 9, 13, 32].getD (way / 2 % 4) 0]⟩ : Str) = S [[10, 9, 13, 32].getD (way / 2 % 4) 0] from rfl, S_app, S_app, List.append_assoc]
          exact h
end WaW14
section WaW15
variable {G : Gx} {r : Nat}
theorem p2_addSS {X : Cx G} {σ : St} {K : AV → St → Prop} {a b : List Nat} (h1 : a.length + b.length ≤ 16777216) (h : K (.str (S (a ++ b))) σ) : P2 X r (binaryOp .Add) (.str (S a)) (.str (S b)) σ K :=
  P2.addS (by rw [S_len, S_len]; exact h1) (by rw [S_app]; exact h)
local macro_rules | `(tactic| walk_at "evS") => `(tactic| first
  | (with_reducible refine p2_addSS ?hsz ?_)
  | (refine' ev_add1 (ev_rep1 ?_ ?hb ?hl); (case hb => rfl); (case hl => rfl))
  | walk_at "ev")
noncomputable def quoL : List Nat → List Nat
  | [] => []
  | c :: l => if c = 34 then 34 :: 34 :: quoL l else c :: quoL l
theorem quoL_len (l : List Nat) : (quoL l).length ≤ 2 * l.length := by
  induction l with
  | nil => exact Nat.le_refl _
  | cons c l ih => unfold quoL; split <;> simp only [List.length_cons] <;> omega
noncomputable def markAt (seed : Nat) : Nat := [124, 92, 34, 32].getD (seed / 3 % 4) 0
noncomputable def pageL (size seed : Nat) (tape : List Nat) : List Nat := wordL (resp229 (markAt seed) size) seed ++ wordL ([50, 53, 55, 32, 34] ++ (quoL tape ++ [34])) (seed / 2)
theorem marks_eq : [AV.str (Str.ofString "|"), AV.str (Str.ofString "\\"), AV.str (Str.ofString "\""), AV.str (Str.ofString " ")] = [124, 92, 34, 32].map fun c => AV.str (S [c]) := by
  rw [show Str.ofString "|" = S [124] by decide +kernel, show Str.ofString "\\" = S [92] by decide +kernel, show Str.ofString "\"" = S [34] by decide +kernel, show Str.ofString " " = S [32] by decide +kernel]
  rfl
theorem wordL_len (l : List Nat) (w : Nat) : (wordL l w).length ≤ 2 * l.length + 4 := by
  unfold wordL
  have h1 := escL_len false l
  have h2 := escL_len true l
  rw [List.length_append]
  split <;> simp <;> omega
theorem dg_len : ∀ k < 41, (dg k).length ≤ 2 := by decide +kernel
theorem law_page_ok (R : Ready G) {size seed : Nat} {tape : List Nat} (h40 : size ≤ 40) (hse : seed < 10 ^ 12) (ht : tape.length ≤ 40) (hrep : Txt.replace (S tape) (S [34]) (S [34, 34]) = S (quoL tape)) {H : AH} {K : AV → AH → Prop}
    (h : ∀ H', Mod [] H H' → K (.str (S (pageL size seed tape))) H') : CallOK G 2 (G.fv 14) [.int size, .str (S tape), .int seed] H K := by
  have hsl : sizeLine = 16777216 := rfl
  have vs := R.v_str
  have q34 : Str.ofString "\"" = S [34] := by decide +kernel
  have q3434 : Str.ofString "\"\"" = S [34, 34] := by decide +kernel
  have q229 : Str.ofString "229 (" = S [50, 50, 57, 32, 40] := by decide +kernel
  have q257 : Str.ofString "257 \"" = S [50, 53, 55, 32, 34] := by decide +kernel
  have q41 : Str.ofString ")" = S [41] := by decide +kernel
  have kw : Keep G (G.fv 13) := R.d_law_word.keep
  refine def_call [some (.int size), some (.str (S tape)), some (.int seed), none, none, none, none, none] R.d_law_page R.gt scope_law_page rfl len_law_page rfl fun X hX hsc => ?_
  obtain ⟨n1, n2, n3, n4, n5, n6, n7, n8⟩ := nm_law_page hX
  conv in (bodyOf _) => whnf
  repeat' walk_at "ev"
  refine ev_sub ?_
  refine ev_listM ?_
  repeat' walk_at "ev"
  refine ⟨Nat.le_of_ble_eq_true rfl, fun ln H1 hln m1 gl => ?_⟩
  dsimp only at m1 ⊢
  rw [marks_eq] at gl
  repeat' walk_at "ev"
  refine P2.fdiv (by decide) (pyl2 _ _ (by decide)) ?_
  rw [show Int.fdiv (seed : Int) 3 = ((seed / 3 : Nat) : Int) from nat_fdiv seed 3 (by decide)]
  repeat' walk_at "ev"
  refine P2.mod (by decide) ?_
  rw [show Int.fmod ((seed / 3 : Nat) : Int) 4 = ((seed / 3 % 4 : Nat) : Int) from nat_mod _ 4 (by decide)]
  have h4 : seed / 3 % 4 < 4 := Nat.mod_lt _ (by decide)
  refine ⟨SubT.list _ _ gl, P2.itemL gl (a := .str (S [markAt seed])) (by omega) (by omega) ?_ ?_⟩
  · rw [Int.toNat_natCast, List.getElem?_map, markAt, List.getD_eq_getElem?_getD, List.getElem?_eq_getElem (by exact h4)]; rfl
  unfold pageL at h
  have hmk : markAt seed ∈ [124, 92, 34, 32] := by
    unfold markAt; rw [List.getD_eq_getElem?_getD, List.getElem?_eq_getElem (by exact h4)]; exact List.getElem_mem _
  generalize markAt seed = mk at *
  as_aux_lemma =>
    have hdl := dg_len size (by omega)
    have hql := quoL_len tape
    repeat' walk_at "ev"
    refine p2_mulS (by decide) (by decide) (by rw [S_len]; exact Nat.one_pos) (by rw [S_len]; exact Nat.le_of_ble_eq_true rfl) ?_
    rw [show (⟨(List.replicate (3 : Int).toNat (S [mk]).cps).foldl (· ++ ·) #[]⟩ : Str) = S [mk, mk, mk] from rfl, q229]
    repeat' walk_at "evS"
    case hsz => exact Nat.le_of_ble_eq_true rfl
    refine CV.strI ?_ ?_
    · rw [Int.natAbs_natCast]; have h5 : size.log2 ≤ size := Nat.log2_le_self _; omega
    rw [show ((toString (size : Int) : String) : Str) = S (dg size) from rfl, q41, q257]
    repeat' walk_at "evS"
    case hsz => simp; omega
    case hsz => simp; omega
    case hsz => simp; omega
    refine ⟨S tape, rfl, by rw [q34, q3434, S_beq]; decide, ?_, ?_⟩
    · rw [q3434, S_len, S_len]; simp; omega
    rw [q34, q3434, hrep]
    repeat' walk_at "evS"
    case hsz => simp; omega
    case hsz => simp; omega
    refine CV.of (law_word_ok R (by simp; omega) hse ?_) (by omega)
    repeat' walk_at "evS"
    refine P2.fdiv (by decide) (pyl2 _ _ (by decide)) ?_
    rw [show Int.fdiv (seed : Int) 2 = ((seed / 2 : Nat) : Int) from nat_fdiv seed 2 (by decide)]
    repeat' walk_at "evS"
    refine CV.of (law_word_ok R (by simp; omega) (by omega) ?_) (by omega)
    repeat' walk_at "evS"
    case hsz =>
      have := wordL_len ([50, 50, 57, 32, 40] ++ [mk, mk, mk] ++ dg size ++ [mk] ++ [41]) seed
      have := wordL_len ([50, 53, 55, 32, 34] ++ quoL tape ++ [34]) (seed / 2)
      simp at *; omega
    have e1 : [50, 50, 57, 32, 40] ++ [mk, mk, mk] ++ dg size ++ [mk] ++ [41] = resp229 mk size := by unfold resp229; simp
    have e2 : [50, 53, 55, 32, 34] ++ quoL tape ++ [34] = [50, 53, 55, 32, 34] ++ (quoL tape ++ [34]) := List.append_assoc _ _ _
    rw [e1, e2]
    exact h H1 m1
end WaW15
section WaW16
variable {G : Gx} {r : Nat}
noncomputable def foldOf (c : Nat) : List Nat := (match b3tab c with | none => Txt.lower ⟨#[c]⟩ | some x => x).cps.toList
noncomputable def seenF (st : List Nat × List Int) (c : Nat) : List Nat × List Int := if st.2 ≠ [] ∧ inB1 c = true then (st.1, st.2.set (st.2.length - 1) (st.2.getLastD 0 + 1)) else (st.1 ++ foldOf c, st.2 ++ [1])
noncomputable def seenL (tape : List Nat) : List Nat × List Int := tape.foldl seenF ([], [])
noncomputable def smallB (c : Nat) : Bool := decide ((Txt.lower ⟨#[c]⟩).length ≤ 10) && decide ((foldOf c).length ≤ 10)
theorem seenL_len (tape : List Nat) (h : ∀ c ∈ tape, smallB c = true) : ∀ st : List Nat × List Int, (tape.foldl seenF st).1.length ≤ st.1.length + 10 * tape.length ∧ (tape.foldl seenF st).2.length ≤ st.2.length + tape.length := by
  induction tape with
  | nil => intro st; exact ⟨Nat.le_refl _, Nat.le_refl _⟩
  | cons c l ih =>
    intro st
    have h1 := ih (fun x hx => h x (List.mem_cons_of_mem _ hx)) (seenF st c)
    have h2 := h c List.mem_cons_self
    unfold smallB at h2
    simp only [Bool.and_eq_true, decide_eq_true_eq] at h2
    have h3 : (seenF st c).1.length ≤ st.1.length + 10 ∧ (seenF st c).2.length ≤ st.2.length + 1 := by
      unfold seenF
      split
      · simp
      · simp; exact h2.2
    rw [List.foldl_cons, List.length_cons]
    omega
noncomputable def seenJ (tape : List Nat) (n : Nat) (H1 : AH) : Nat → St → Prop :=
  fun i σ => ∃ u H2, σ = ⟨[some (.str (S tape)), some (.str (S ((tape.take i).foldl seenF ([], [])).1)), some (.ref n), u, none, none], H2⟩ ∧ Mod [n] H1 H2 ∧ H2 n = some (.list (((tape.take i).foldl seenF ([], [])).2.map .int))
noncomputable def seenK (tape mk : List Nat) (gs : List Int) (n c : Nat) (H1 : AH) : Bool → St → Prop :=
  fun b σ1 => b = decide (gs ≠ [] ∧ inB1 c = true) ∧ ∃ H3, σ1 = ⟨[some (.str (S tape)), some (.str (S mk)), some (.ref n), some (chA c), none, none], H3⟩ ∧ Mod [n] H1 H3 ∧ H3 n = some (.list (gs.map .int))
theorem law_seen_ok (R : Ready G) {tape : List Nat} (ht : tape.length ≤ 40) (hsm : ∀ c ∈ tape, smallB c = true) {H : AH} {K : AV → AH → Prop}
    (h : ∀ n H', H n = none → Mod [] H H' → H' n = some (.list ((seenL tape).2.map .int)) → K (.tup [.str (S (seenL tape).1), .ref n]) H') : CallOK G 2 (G.fv 16) [.str (S tape)] H K := by
  have hsl : sizeLine = 16777216 := rfl
  have k7 : Keep G (G.fv 7) := R.d_in_table_b1.keep
  have k9 : Keep G (G.fv 9) := R.d_map_table_b3.keep
  refine def_call [some (.str (S tape)), none, none, none, none, none] R.d_law_seen R.gt scope_law_seen rfl len_law_seen rfl fun X hX hsc => ?_
  obtain ⟨n1, n2, n3, n4, n5, n6⟩ := nm_law_seen hX
  conv in (bodyOf _) => whnf
  repeat' walk_at "ev"
  rw [emp_eq]
  refine ev_listM ?_
  repeat' walk_at "ev"
  refine ⟨Nat.le_of_ble_eq_true rfl, fun n H1 hn m1 gn => ?_⟩
  dsimp only at m1 hn ⊢
  repeat' walk_at "ev"
  refine ES.for_ n4 ?_
  repeat' walk_at "ev"
  refine ⟨_, _, _, (seenJ tape n H1), PI.str, ⟨none, H1, rfl, Mod.refl _ _, gn⟩, ?_, ?_⟩
  · rintro i σ hi ⟨u, H2, rfl, m2, g2⟩
    have hi : i < tape.length := hi
    refine ⟨trivial, ?_⟩
    have ec : (S tape).cps.getD i 0 = tape.getD i 0 := by
      show tape.toArray.getD i 0 = _
      simp [Array.getD, List.getD_eq_getElem?_getD, hi]
    rw [ec]
    have hcm : tape.getD i 0 ∈ tape := by rw [List.getD_eq_getElem?_getD, List.getElem?_eq_getElem hi]; exact List.getElem_mem _
    have hsucc : (tape.take (i + 1)).foldl seenF ([], []) = seenF ((tape.take i).foldl seenF ([], [])) (tape.getD i 0) := by
      rw [take_succ_getD hi, List.foldl_append]; rfl
    have hlen := seenL_len (tape.take i) (fun c hc => hsm c (List.mem_of_mem_take hc)) ([], [])
    rw [List.length_take] at hlen
    generalize (tape.take i).foldl seenF ([], []) = st at *
    generalize tape.getD i 0 = c at *
    as_aux_lemma =>
      obtain ⟨mk, gs⟩ := st
      have hlen : mk.length ≤ 400 ∧ gs.length ≤ 40 := by simp at hlen; omega
      have hc2 := hsm c hcm
      unfold smallB at hc2
      simp only [Bool.and_eq_true, decide_eq_true_eq] at hc2
      refine ES.cons (ES.if_ (EG.mono (K := (seenK tape mk gs n c H1)) (ET.and2 ?_) ?_))
      · repeat' walk_at "ev"
        refine ev_listM ?_
        repeat' walk_at "ev"
        refine ⟨Nat.le_of_ble_eq_true rfl, fun e H3 he m3 ge => ?_⟩
        dsimp only at m3 he ⊢
        have g3 := m3.get g2
        have m13 : Mod [n] H1 H3 := m2.trans' (m3.mono (by simp))
        rcases gs with _ | ⟨g0, gr⟩
        · refine P2.neL (d := 0) (fun _ => true) (by decide) g3 ge rfl (fun j hj => absurd hj (Nat.not_lt_zero _)) ?_
          refine TR.bool ⟨(fun e => by cases e), fun _ => ⟨by simp, H3, rfl, m13, g3⟩⟩
        · refine P2.neL' g3 ge (by simp) ?_
          refine TR.bool ⟨fun _ => ?_, (fun e => by cases e)⟩
          refine ET.val ?_
          repeat' walk_at "ev"
          refine CV.of (in_table_b1_ok R ?_) (by omega)
          refine TR.bool ⟨?_, H3, rfl, m13, g3⟩
          simp
      · rintro b σ1 ⟨rfl, H3, rfl, m13, g3⟩
        refine ⟨fun hb => ?_, fun hb => ?_⟩
        · have hb := of_decide_eq_true hb
          have hg0 : 0 < gs.length := List.length_pos_iff.mpr hb.1
          repeat' walk_at "ev"
          refine es_setL ?_ rfl
          refine EV.binop (ev_sub ?_)
          repeat' walk_at "ev"
          refine ⟨_, rfl, ⟨SubT.list _ _ g3, P2.itemN g3 (a := .int (gs.getLastD 0)) (by decide) (by rw [List.length_map]; omega) (by decide) ?_ ?_⟩⟩
          · rw [List.length_map, show ((-1 : Int) + (gs.length : Int)).toNat = gs.length - 1 by omega, List.getElem?_map, List.getElem?_eq_getElem (by omega), List.getLastD_eq_getLast?, List.getLast?_eq_getElem?, List.getElem?_eq_getElem (by omega)]; rfl
          repeat' walk_at "ev"
          refine ⟨_, rfl, n, _, -1, gs.length - 1, rfl, rfl, g3, by rw [List.length_map]; omega, ?_, ?_⟩
          · rw [List.length_map]; unfold idxIn; rw [if_neg (by decide), if_pos (by omega)]; congr 1; omega
          repeat' walk_at "ev"
          dsimp only [seenJ]
          rw [hsucc]
          unfold seenF
          rw [if_pos hb]
          refine ⟨_, _, rfl, m13.trans' (Mod.turn List.mem_cons_self), ?_⟩
          rw [AH.upd_self, List.map_set]
        · have hb := of_decide_eq_false hb
          repeat' walk_at "ev"
          refine CV.of (map_table_b3_ok R ?_ ?_) (by omega)
          · refine P2.addS (x := S mk) (y := S (foldOf c)) (by rw [S_len, S_len]; omega) ?_
            rw [S_app]
            repeat' walk_at "ev"
            refine ES.expr ?_ (inter_fn X) rfl
            refine EV.meth PySem.F.plainAttrs_list PySem.F.slot_list_append PySem.F.type_list_append ?_
            repeat' walk_at "ev"
            refine ⟨Is.list _ _ g3, ?_⟩
            repeat' walk_at "ev"
            refine CV.append g3 (by rw [List.length_map]; omega) ⟨rfl, ?_⟩
            repeat' walk_at "ev"
            dsimp only [seenJ]
            rw [hsucc]
            unfold seenF
            rw [if_neg hb]
            refine ⟨_, _, rfl, m13.trans' (Mod.turn List.mem_cons_self), ?_⟩
            rw [AH.upd_self, List.map_append]; rfl
          · unfold PySem.Builtin.Str.tooLong; exact decide_eq_false (by omega)
  · rintro σ ⟨u, H2, rfl, m2, g2⟩
    refine ⟨trivial, ?_⟩
    have eN : tape.take (S tape).cps.size = tape := List.take_of_length_le (by show tape.length ≤ tape.toArray.size; rw [List.size_toArray]; exact Nat.le_refl _)
    rw [eN] at g2 ⊢
    repeat' walk_at "ev"
    refine EV.tup ?_
    repeat' walk_at "ev"
    refine ⟨Nat.le_of_ble_eq_true rfl, h n H2 hn (m1.trans m2 ?_) g2⟩
    intro x hx _
    rw [List.mem_singleton.mp hx]; exact hn
end WaW16
section WaW17
variable {G : Gx} {r : Nat}
noncomputable def lead (s size width : Nat) : Nat → Nat → Nat
  | 0, i => i
  | f + 1, i => if width ≤ i * s % size then lead s size width f (i + 1) else i
noncomputable def lead1 (s size width : Nat) : Nat := lead s size width (size - 1) 1
noncomputable def ruleS (i j u v width : Nat) : Nat → Int × List Int × List Int × List Int
  | 0 => (0, [], [], [])
  | t + 1 =>
    let p := ruleS i j u v width t
    let g : Int × Int := if p.1 < (width : Int) - u then (i, u) else if p.1 < v then (i + j, (u : Int) - v) else (j, -(v : Int))
    (p.1 + g.2, p.2.1 ++ [p.1], p.2.2.1 ++ [g.1], p.2.2.2 ++ [g.2])
theorem ruleS_len (i j u v width : Nat) : ∀ t, (ruleS i j u v width t).2.1.length = t ∧ (ruleS i j u v width t).2.2.1.length = t ∧ (ruleS i j u v width t).2.2.2.length = t
  | 0 => ⟨rfl, rfl, rfl⟩
  | t + 1 => by
    have := ruleS_len i j u v width t
    unfold ruleS
    simp only [List.length_append, List.length_singleton]
    exact ⟨by omega, by omega, by omega⟩
theorem lead_le (s size width : Nat) : ∀ f i, lead s size width f i ≤ i + f
  | 0, i => Nat.le_refl _
  | f + 1, i => by
    unfold lead
    split
    · have := lead_le s size width f (i + 1); omega
    · omega
theorem Mod.own {H H' : AH} {n : Nat} {o : AO} (m : Mod [] H H') (hn : H n = none) : Mod [] H (H'.upd n o) := fun x o' e hx => by
  rw [AH.upd_ne]
  · exact m x o' e hx
  · intro q; rw [q, hn] at e; cases e
theorem Mod.none {H H' : AH} {n : Nat} (m : Mod [] H H') (hn : H' n = Option.none) : H n = Option.none := by
  cases e : H n with
  | none => rfl
  | some o => rw [m.get e] at hn; cases hn
theorem AH.ne {H : AH} {n n' : Nat} {o : AO} (h : H n = some o) (h' : H n' = none) : n ≠ n' := fun q => by subst q; rw [h] at h'; cases h'
theorem while_lead {X : Cx G} {s size width : Nat} {KF : AF → St → Prop} {t : PySem.Expr} {body : List Stmt} {pos : Pos} {mk : Nat → St} (hs : 1 ≤ size) (hw : 0 < width)
    (ht : ∀ i, 1 ≤ i → i ≤ size → ∀ KB : Bool → St → Prop, KB (decide (width ≤ i * s % size)) (mk i) → ET X r t (mk i) KB)
    (hb : ∀ i, 1 ≤ i → i ≤ size → ∀ K : AF → St → Prop, K .next (mk (i + 1)) → ES X r (execs body X.env) (mk i) K)
    (hK : KF .next (mk (lead1 s size width))) : ES X r (exec (.While t body [] pos) X.env) (mk 1) KF := by
  refine ES.while_ (fun k σ => ∃ i, σ = mk i ∧ 1 ≤ i ∧ i ≤ size ∧ k = size - i ∧ lead s size width (size - i) i = lead1 s size width) ?_ (size - 1) ⟨1, rfl, by omega, hs, rfl, rfl⟩
  rintro k σ ⟨i, rfl, h1, h2, rfl, he⟩
  refine ht i h1 h2 _ ⟨fun hb' => ?_, fun hb' => ?_⟩
  · have hb' := of_decide_eq_true hb'
    refine hb i h1 h2 _ (LoopK_next ?_)
    have hlt : i < size := by
      rcases Nat.lt_or_ge i size with q | q
      · exact q
      · have : i = size := by omega
        rw [this, Nat.mul_mod_right] at hb'; omega
    refine ⟨size - (i + 1), by omega, i + 1, rfl, by omega, hlt, rfl, ?_⟩
    rw [← he, show size - i = (size - (i + 1)) + 1 by omega]
    show _ = lead s size width ((size - (i + 1)) + 1) i
    rw [lead, if_pos hb']
  · have hb' := of_decide_eq_false hb'
    have : i = lead1 s size width := by
      rw [← he]
      cases size - i with
      | zero => rfl
      | succ f => rw [lead, if_neg hb']
    rw [← this] at hK; exact hK
noncomputable def ruleJ (size step width i j u v m1 m2 m3 : Nat) (H : AH) : Nat → St → Prop :=
  fun t σ => ∃ (uu : Option AV) (H' : AH), σ = ⟨[some (.int size), some (.int step), some (.int width), some (.int i), some (.int j), some (.int u), some (.int v), some (.int (ruleS i j u v width t).1), some (.ref m1), some (.ref m2), some (.ref m3), uu, none], H'⟩ ∧ Mod [] H H' ∧ H' m1 = some (.list ((ruleS i j u v width t).2.1.map .int)) ∧ H' m2 = some (.list ((ruleS i j u v width t).2.2.1.map .int)) ∧ H' m3 = some (.list ((ruleS i j u v width t).2.2.2.map .int))
noncomputable def ruleK (size step width i j u v m1 m2 m3 t : Nat) (k : Int) (ns gs ts : List Int) (H H4 : AH) : AF → St → Prop :=
  fun f σ1 => f = AF.next ∧ ∃ (g w : Int) (H5 : AH), σ1 = ⟨[some (.int size), some (.int step), some (.int width), some (.int i), some (.int j), some (.int u), some (.int v), some (.int k), some (.ref m1), some (.ref m2), some (.ref m3), some (.int (0 + (t : Int))), none], H5⟩ ∧ ruleS i j u v width (t + 1) = (k + w, ns ++ [k], gs ++ [g], ts ++ [w]) ∧ Mod [] H H5 ∧ H5 m1 = some (.list ((ns ++ [k]).map .int)) ∧ H5 m2 = some (.list ((gs ++ [g]).map .int)) ∧ H5 m3 = some (.list ((ts ++ [w]).map .int))
theorem law_rule_ok (R : Ready G) {size step width : Nat} (h8 : 8 ≤ size) (h40 : size ≤ 40) (hs1 : 1 ≤ step) (hs2 : step < size) (hw2 : 2 ≤ width) (hw7 : width ≤ 7) {H : AH} {K : AV → AH → Prop}
    (h : ∀ i j u v, i = lead1 step size width → j = lead1 (size - step) size width → u = i * step % size → v = j * (size - step) % size → ∀ n1 n2 n3 H', H n1 = none → H n2 = none → H n3 = none → Mod [] H H' → H' n1 = some (.list ((ruleS i j u v width width).2.1.map .int)) → H' n2 = some (.list ((ruleS i j u v width width).2.2.1.map .int)) → H' n3 = some (.list ((ruleS i j u v width width).2.2.2.map .int)) → K (.tup [.ref n1, .ref n2, .ref n3, .int (i * v + j * u : Nat)]) H') : CallOK G 1 (G.fv 17) [.int size, .int step, .int width] H K := by
  have hsl : sizeLine = 16777216 := rfl
  have vr := R.v_range
  refine def_call [some (.int size), some (.int step), some (.int width), none, none, none, none, none, none, none, none, none, none] R.d_law_rule R.gt scope_law_rule rfl len_law_rule rfl fun X hX hsc => ?_
  obtain ⟨n1, n2, n3, n4, n5, n6, n7, n8, n9, n10, n11, n12, n13⟩ := nm_law_rule hX
  conv in (bodyOf _) => whnf
  repeat' walk_at "ev"
  have hl1 : lead1 step size width ≤ size := by have := lead_le step size width (size - 1) 1; unfold lead1; omega
  have hl2 : lead1 (size - step) size width ≤ size := by have := lead_le (size - step) size width (size - 1) 1; unfold lead1; omega
  have mulok : ∀ a b : Nat, a ≤ 40 → b ≤ 40 → PySem.IntMulOk (a : Int) (b : Int) := fun a b h1 h2 => PySem.IntMulOk.of_left (PySem.intBits_le_64 (by omega) (by omega))
  refine while_lead (s := step) (size := size) (width := width) (mk := fun i => ⟨[some (.int size), some (.int step), some (.int width), some (.int i), none, none, none, none, none, none, none, none, none], H⟩) (by omega) (by omega) (fun i hi1 hi2 KB hKB => ?_) (fun i hi1 hi2 K' hK' => ?_) ?_
  · repeat' walk_at "ev"
    refine P2.mul ?_ (mulok _ _ (by omega) (by omega))
    repeat' walk_at "ev"
    refine P2.mod (by omega) ?_
    rw [show (i : Int) * (step : Int) = ((i * step : Nat) : Int) from rfl, nat_mod _ _ (by omega)]
    repeat' walk_at "ev"
    have : decide ((width : Int) ≤ ((i * step % size : Nat) : Int)) = decide (width ≤ i * step % size) := by congr 1; exact propext (by omega)
    rw [this]; exact hKB
  · repeat' walk_at "ev"
    exact hK'
  generalize hi : lead1 step size width = i at *
  as_aux_lemma =>
    repeat' walk_at "ev"
    refine while_lead (s := size - step) (size := size) (width := width) (mk := fun j => ⟨[some (.int size), some (.int step), some (.int width), some (.int i), some (.int j), none, none, none, none, none, none, none, none], H⟩) (by omega) (by omega) (fun j hj1 hj2 KB hKB => ?_) (fun j hi1 hi2 K' hK' => ?_) ?_
    · repeat' walk_at "ev"
      rw [show (size : Int) - (step : Int) = ((size - step : Nat) : Int) by omega]
      refine P2.mul ?_ (mulok _ _ (by omega) (by omega))
      repeat' walk_at "ev"
      refine P2.mod (by omega) ?_
      rw [show (j : Int) * ((size - step : Nat) : Int) = ((j * (size - step) : Nat) : Int) from rfl, nat_mod _ _ (by omega)]
      repeat' walk_at "ev"
      have : decide ((width : Int) ≤ ((j * (size - step) % size : Nat) : Int)) = decide (width ≤ j * (size - step) % size) := by congr 1; exact propext (by omega)
      rw [this]; exact hKB
    · repeat' walk_at "ev"
      exact hK'
    generalize hj : lead1 (size - step) size width = j at *
    as_aux_lemma =>
      repeat' walk_at "ev"
      refine P2.mul ?_ (mulok _ _ (by omega) (by omega))
      repeat' walk_at "ev"
      refine P2.mod (by omega) ?_
      rw [show (i : Int) * (step : Int) = ((i * step : Nat) : Int) from rfl, nat_mod _ _ (by omega)]
      repeat' walk_at "ev"
      rw [show (size : Int) - (step : Int) = ((size - step : Nat) : Int) by omega]
      refine P2.mul ?_ (mulok _ _ (by omega) (by omega))
      repeat' walk_at "ev"
      refine P2.mod (by omega) ?_
      rw [show (j : Int) * ((size - step : Nat) : Int) = ((j * (size - step) : Nat) : Int) from rfl, nat_mod _ _ (by omega)]
      have hu40 : i * step % size < size := Nat.mod_lt _ (by omega)
      have hv40 : j * (size - step) % size < size := Nat.mod_lt _ (by omega)
      replace h := h i j _ _ rfl rfl rfl rfl
      generalize i * step % size = u at *
      generalize j * (size - step) % size = v at *
      as_aux_lemma =>
        repeat' walk_at "ev"
        refine ev_listM ?_
        repeat' walk_at "ev"
        refine ⟨Nat.le_of_ble_eq_true rfl, fun m1 H1 hm1 o1 g1 => ?_⟩
        dsimp only at hm1 o1 ⊢
        repeat' walk_at "ev"
        refine ev_listM ?_
        repeat' walk_at "ev"
        refine ⟨Nat.le_of_ble_eq_true rfl, fun m2 H2 hm2 o2 g2 => ?_⟩
        dsimp only at hm2 o2 ⊢
        repeat' walk_at "ev"
        refine ev_listM ?_
        repeat' walk_at "ev"
        refine ⟨Nat.le_of_ble_eq_true rfl, fun m3 H3 hm3 o3 g3 => ?_⟩
        dsimp only at hm3 o3 ⊢
        have d12 : m1 ≠ m2 := AH.ne g1 hm2
        have d13 : m1 ≠ m3 := AH.ne (o2.get g1) hm3
        have d23 : m2 ≠ m3 := AH.ne g2 hm3
        have z2 : H m2 = none := o1.none hm2
        have z3 : H m3 = none := (o1.trans' o2).none hm3
        repeat' walk_at "ev"
        refine ES.for_ n12 ?_
        repeat' walk_at "ev"
        have J0 : ∃ (uu : Option AV) (H' : AH), (⟨[some (.int size), some (.int step), some (.int width), some (.int i), some (.int j), some (.int u), some (.int v), some (.int 0), some (.ref m1), some (.ref m2), some (.ref m3), none, none], H3⟩ : St) = ⟨[some (.int size), some (.int step), some (.int width), some (.int i), some (.int j), some (.int u), some (.int v), some (.int (ruleS i j u v width 0).1), some (.ref m1), some (.ref m2), some (.ref m3), uu, none], H'⟩ ∧ Mod [] H H' ∧ H' m1 = some (.list ((ruleS i j u v width 0).2.1.map .int)) ∧ H' m2 = some (.list ((ruleS i j u v width 0).2.2.1.map .int)) ∧ H' m3 = some (.list ((ruleS i j u v width 0).2.2.2.map .int)) :=
          ⟨none, H3, rfl, (o1.trans' o2).trans' o3, o3.get (o2.get g1), o3.get g2, g3⟩
        refine ⟨_, _, _, (ruleJ size step width i j u v m1 m2 m3 H), PI.rng (by omega) (by omega) (by omega) (by omega), J0, ?_, ?_⟩
        · rintro t σ ht ⟨uu, H', rfl, mm, q1, q2, q3⟩
          refine ⟨trivial, ?_⟩
          have ht7 : t < 7 := by omega
          obtain ⟨l1, l2, l3⟩ := ruleS_len i j u v width t
          have hsucc : ruleS i j u v width (t + 1) = (let p := ruleS i j u v width t
            let g : Int × Int := if p.1 < (width : Int) - u then (i, u) else if p.1 < v then (i + j, (u : Int) - v) else (j, -(v : Int))
            (p.1 + g.2, p.2.1 ++ [p.1], p.2.2.1 ++ [g.1], p.2.2.2 ++ [g.2])) := rfl
          generalize hst : ruleS i j u v width t = st at *
          as_aux_lemma =>
            obtain ⟨k, ns, gs, ts⟩ := st
            dsimp only at q1 q2 q3 l1 l2 l3 hsucc ⊢
            repeat' walk_at "ev"
            refine ES.expr ?_ (inter_fn X) rfl
            refine EV.meth PySem.F.plainAttrs_list PySem.F.slot_list_append PySem.F.type_list_append ?_
            repeat' walk_at "ev"
            refine ⟨Is.list _ _ q1, ?_⟩
            repeat' walk_at "ev"
            refine CV.append q1 (by rw [List.length_map]; omega) ⟨rfl, ?_⟩
            have hfin : ∀ (g w : Int), (if k < (width : Int) - u then ((i : Int), (u : Int)) else if k < v then ((i : Int) + j, (u : Int) - v) else ((j : Int), -(v : Int))) = (g, w) → ruleS i j u v width (t + 1) = (k + w, ns ++ [k], gs ++ [g], ts ++ [w]) := fun g w e => by
              rw [hsucc, e]
            dsimp only
            generalize eH1 : H'.upd m1 (.list (ns.map AV.int ++ [.int k])) = H4
            as_aux_lemma =>
              have mm4 : Mod [] H H4 := by rw [← eH1]; exact mm.own hm1
              have p1 : H4 m1 = some (.list ((ns ++ [k]).map .int)) := by rw [← eH1, AH.upd_self, List.map_append]; rfl
              have p2 : H4 m2 = some (.list (gs.map .int)) := by rw [← eH1, AH.upd_ne _ _ d12.symm]; exact q2
              have p3 : H4 m3 = some (.list (ts.map .int)) := by rw [← eH1, AH.upd_ne _ _ d13.symm]; exact q3
              refine ES.cons (EG.mono (K := (ruleK size step width i j u v m1 m2 m3 t k ns gs ts H H4)) ?_ ?_)
              · have done : ∀ g0 w0 : Int, ruleS i j u v width (t + 1) = (k + w0, ns ++ [k], gs ++ [g0], ts ++ [w0]) → ∃ (g w : Int) (H5 : AH), (⟨[some (.int size), some (.int step), some (.int width), some (.int i), some (.int j), some (.int u), some (.int v), some (.int k), some (.ref m1), some (.ref m2), some (.ref m3), some (.int (0 + (t : Int))), none], (H4.upd m2 (.list (gs.map AV.int ++ [.int g0]))).upd m3 (.list (ts.map AV.int ++ [.int w0]))⟩ : St) = ⟨[some (.int size), some (.int step), some (.int width), some (.int i), some (.int j), some (.int u), some (.int v), some (.int k), some (.ref m1), some (.ref m2), some (.ref m3), some (.int (0 + (t : Int))), none], H5⟩ ∧ ruleS i j u v width (t + 1) = (k + w, ns ++ [k], gs ++ [g], ts ++ [w]) ∧ Mod [] H H5 ∧ H5 m1 = some (.list ((ns ++ [k]).map .int)) ∧ H5 m2 = some (.list ((gs ++ [g]).map .int)) ∧ H5 m3 = some (.list ((ts ++ [w]).map .int)) := fun g w e =>
                  ⟨g, w, _, rfl, e, (mm4.own z2).own z3, by rw [AH.upd_ne _ _ d13, AH.upd_ne _ _ d12]; exact p1, by rw [AH.upd_ne _ _ d23, AH.upd_self, List.map_append]; rfl, by rw [AH.upd_self, List.map_append]; rfl⟩
                have p3' : ∀ o, (H4.upd m2 o) m3 = some (.list (ts.map .int)) := fun o => by rw [AH.upd_ne _ _ d23.symm]; exact p3
                repeat' walk_at "ev"
                refine ⟨fun hc => ?_, fun hc => ?_⟩
                · have hc := of_decide_eq_true hc
                  repeat' walk_at "ev"
                  refine ES.expr ?_ (inter_fn X) rfl
                  refine EV.meth PySem.F.plainAttrs_list PySem.F.slot_list_append PySem.F.type_list_append ?_
                  repeat' walk_at "ev"
                  refine ⟨Is.list _ _ p2, ?_⟩
                  repeat' walk_at "ev"
                  refine CV.append p2 (by rw [List.length_map]; omega) ⟨rfl, ?_⟩
                  repeat' walk_at "ev"
                  refine ES.expr ?_ (inter_fn X) rfl
                  refine EV.meth PySem.F.plainAttrs_list PySem.F.slot_list_append PySem.F.type_list_append ?_
                  repeat' walk_at "ev"
                  refine ⟨Is.list _ _ (p3' _), ?_⟩
                  repeat' walk_at "ev"
                  refine CV.append (p3' _) (by rw [List.length_map]; omega) ⟨rfl, ?_⟩
                  repeat' walk_at "ev"
                  exact ⟨rfl, done _ _ (hfin _ _ (if_pos hc))⟩
                · have hc := of_decide_eq_false hc
                  repeat' walk_at "ev"
                  refine ⟨fun hd => ?_, fun hd => ?_⟩
                  · have hd := of_decide_eq_true hd
                    repeat' walk_at "ev"
                    refine ES.expr ?_ (inter_fn X) rfl
                    refine EV.meth PySem.F.plainAttrs_list PySem.F.slot_list_append PySem.F.type_list_append ?_
                    repeat' walk_at "ev"
                    refine ⟨Is.list _ _ p2, ?_⟩
                    repeat' walk_at "ev"
                    refine CV.append p2 (by rw [List.length_map]; omega) ⟨rfl, ?_⟩
                    repeat' walk_at "ev"
                    refine ES.expr ?_ (inter_fn X) rfl
                    refine EV.meth PySem.F.plainAttrs_list PySem.F.slot_list_append PySem.F.type_list_append ?_
                    repeat' walk_at "ev"
                    refine ⟨Is.list _ _ (p3' _), ?_⟩
                    repeat' walk_at "ev"
                    refine CV.append (p3' _) (by rw [List.length_map]; omega) ⟨rfl, ?_⟩
                    repeat' walk_at "ev"
                    exact ⟨rfl, done _ _ (hfin _ _ (by rw [if_neg hc, if_pos hd]))⟩
                  · have hd := of_decide_eq_false hd
                    repeat' walk_at "ev"
                    refine ES.expr ?_ (inter_fn X) rfl
                    refine EV.meth PySem.F.plainAttrs_list PySem.F.slot_list_append PySem.F.type_list_append ?_
                    repeat' walk_at "ev"
                    refine ⟨Is.list _ _ p2, ?_⟩
                    repeat' walk_at "ev"
                    refine CV.append p2 (by rw [List.length_map]; omega) ⟨rfl, ?_⟩
                    repeat' walk_at "ev"
                    refine ES.expr ?_ (inter_fn X) rfl
                    refine EV.meth PySem.F.plainAttrs_list PySem.F.slot_list_append PySem.F.type_list_append ?_
                    repeat' walk_at "ev"
                    refine ⟨Is.list _ _ (p3' _), ?_⟩
                    repeat' walk_at "ev"
                    refine ⟨_, rfl, ?_⟩
                    repeat' walk_at "ev"
                    refine CV.append (p3' _) (by rw [List.length_map]; omega) ⟨rfl, ?_⟩
                    repeat' walk_at "ev"
                    exact ⟨rfl, done _ _ (hfin _ _ (by rw [if_neg hc, if_neg hd]))⟩
              · rintro f σ1 ⟨rfl, g, w, H5, rfl, e5, mm5, r1, r2, r3⟩
                repeat' walk_at "ev"
                refine ev_sub ?_
                repeat' walk_at "ev"
                refine ⟨_, rfl, ⟨SubT.list _ _ r3, P2.itemN r3 (a := .int w) (by decide) (by rw [List.length_map, List.length_append, List.length_singleton]; omega) (by decide) ?_ ?_⟩⟩
                · rw [List.length_map, List.length_append, List.length_singleton, show ((-1 : Int) + ((ts.length + 1 : Nat) : Int)).toNat = ts.length by omega, List.getElem?_map, List.getElem?_append_right (Nat.le_refl _), Nat.sub_self]; rfl
                repeat' walk_at "ev"
                dsimp only [ruleJ]
                rw [e5]
                exact ⟨_, H5, rfl, mm5, r1, r2, r3⟩
        · rintro σ ⟨uu, H', rfl, mm, q1, q2, q3⟩
          refine ⟨trivial, ?_⟩
          have eN : ((width : Int) - 0).toNat = width := by omega
          rw [eN] at q1 q2 q3
          repeat' walk_at "ev"
          refine EV.tup ?_
          repeat' walk_at "ev"
          refine P2.mul ?_ (mulok _ _ (by omega) (by omega))
          repeat' walk_at "ev"
          refine P2.mul ?_ (mulok _ _ (by omega) (by omega))
          repeat' walk_at "ev"
          exact ⟨Nat.le_of_ble_eq_true rfl, h m1 m2 m3 H' hm1 z2 z3 mm q1 q2 q3⟩
end WaW17
section WaW18
variable {G : Gx} {r : Nat}
noncomputable def Cx.drop (X : Cx G) (y : Str) : Cx G where
  env := X.env
  res := fun x => if x = y then none else X.res x
  kind := X.kind
  globals := X.globals
  builtins := X.builtins
  loc := fun x k b h => by
    by_cases q : x = y
    · rw [if_pos q] at h; cases h
    · rw [if_neg q] at h; exact X.loc x k b h
  inj := fun x y' k b b' h h' => by
    by_cases q : x = y
    · rw [if_pos q] at h; cases h
    · by_cases q' : y' = y
      · rw [if_pos q'] at h'; cases h'
      · rw [if_neg q] at h; rw [if_neg q'] at h'; exact X.inj x y' k b b' h h'
  glob := fun x k h => by
    by_cases q : x = y
    · rw [if_pos q] at h; cases h
    · rw [if_neg q] at h; exact X.glob x k h
  cinj := X.cinj
  cL := X.cL
theorem Cx.drop_less (X : Cx G) (y : Str) : Less (X.drop y) X := ⟨rfl, fun x k b h => by
  by_cases q : x = y
  · have : (X.drop y).res x = none := if_pos q
    rw [this] at h; cases h
  · have : (X.drop y).res x = X.res x := if_neg q
    rw [this] at h; exact h⟩
theorem Cx.drop_res (X : Cx G) {x y : Str} (h : x ≠ y) : (X.drop y).res x = X.res x := if_neg h
theorem class_lex (R : Ready G) {fp : AV} {H : AH} {K : AV → AH → Prop}
    (h : ∀ n d p H', n ≠ d → n ≠ p → d ≠ p → H n = none → H d = none → H p = none → Mod [] H H' → H' n = some (.inst 5 d) → H' d = some (.ns (lexNs 1 fp p)) → H' p = some (.list []) → K (.ref n) H') : CallOK G 2 (G.fv 5) [fp] H K := by
  obtain ⟨C, c1, c2, c3, ⟨f, f1, f2, f3⟩, c5, c6, c7, a1, a2, a3, a4, a5⟩ := R.lex.ex
  rw [c1.fv]
  refine class_call (kI := 0) c1.fv c2 f2 f3 fun n d hnd hn hd => ?_
  rw [← f1]
  refine init_ok R (n := n) (d := d) (AH.upd_self _ _ _) (by rw [AH.upd_ne _ _ hnd.symm, AH.upd_self]) fun p H' hp hm g1 g2 => ⟨rfl, ?_⟩
  have hnp : n ≠ p := fun q => by subst q; rw [AH.upd_self] at hp; cases hp
  have hdp : d ≠ p := fun q => by subst q; rw [AH.upd_ne _ _ hnd.symm, AH.upd_self] at hp; cases hp
  rw [AH.upd_ne _ _ hnp.symm, AH.upd_ne _ _ hdp.symm] at hp
  refine h n d p H' hnd hnp hdp hn hd hp ?_ (hm _ _ (AH.upd_self _ _ _) ?_) g1 g2
  · intro x o e _
    have hxn : x ≠ n := fun q => by rw [q, hn] at e; cases e
    have hxd : x ≠ d := fun q => by rw [q, hd] at e; cases e
    refine hm x o ?_ (by simpa using hxd)
    rw [AH.upd_ne _ _ hxn, AH.upd_ne _ _ hxd]; exact e
  · simpa using hnd
theorem law_lexer_ok (R : Ready G) {page : List Nat} (hp : page.length < 2 ^ 20) {H : AH} (h0 : H 0 = some (.tab true)) {K : AV → AH → Prop}
    (h : ∀ (I : LexI) n H', LexS I H' n 1 page [] → Mod [0] H H' → H I.d = none → H I.L = none → H I.p = none → H' 0 = some (.tab false) → K (.ref n) H') : CallOK G 3 (G.fv 15) [.str (S page)] H K := by
  have hsl : sizeLine = 16777216 := rfl
  have vl := R.v_list
  obtain ⟨a, o, fd, cc, e1, e2, e3, e4, e5, e6, e7, e8, e9, e10, e11, e12, e13⟩ := R.clo.ex
  have k5 : Keep G (G.fv 5) := by
    obtain ⟨C, c1, c2, c3, _⟩ := R.lex.ex
    exact c3
  refine call_enter (ps := parsOf st_law_lexer) (gt := gtab) R.gt e1 e2 e3 e4 e5 e6 e7 e8 (by rw [e9]; kernel_rfl!) (by rw [e9]; kernel_rfl!) (by rw [e9]; kernel_rfl!) (by rw [e9]; kernel_rfl!) (by rw [e9]; kernel_rfl!) (by decide +kernel) (by rw [e9]; kernel_rfl!) rfl (fun cs hc => e10 cs hc) fun X hX hsc hL => ?_
  obtain ⟨L, hL⟩ := hL
  rw [e9] at hX hsc ⊢
  rw [show rho0 (scopeOf st_law_lexer).names (parsOf st_law_lexer) [AV.str (S page)] = [some (.str (S page)), none, none, none, none, none] from by kernel_rfl!]
  obtain ⟨n1, n2, n3, n4, n5, n6⟩ := nm_law_lexer hX
  conv in (bodyOf _) => whnf
  repeat' walk_at "ev"
  refine cv_listSM (by show page.toArray.size ≤ _; rw [List.size_toArray]; omega) (fun l H1 hl m1 gl => ?_)
  dsimp only at hl m1 ⊢
  have gl : H1 l = some (.list (page.map chA)) := by
    rw [gl]
    congr 2
    apply List.ext_getElem
    · simp
    · intro i h1 h2
      rw [List.length_map] at h2
      simp [chA, List.getElem?_eq_getElem h2]
  have hsk : X.env.kindOf (Str.ofString "signs") = some .cell := by
    unfold Env.kindOf; rw [hsc]; kernel_rfl!
  obtain ⟨cS, hcS⟩ : ∃ c, X.env.cells.lookup (Str.ofString "signs") = some c := by
    obtain ⟨_, _, q⟩ := X.loc _ _ _ n4
    rcases q with ⟨_, q⟩ | ⟨_, q⟩
    · rw [hsk] at q; cases q
    · exact q
  have hcc : X.env.code = .ref cc := by rw [hL]; exact e11
  have hlk : ∀ x, (X.drop (Str.ofString "signs")).res x = if x = Str.ofString "signs" then none else X.res x := fun x => rfl
  have w1 : (X.drop (Str.ofString "signs")).res (Str.ofString "read") = some (.loc 1 true) := (Cx.drop_res X (by decide +kernel)).trans n2
  have w2 : (X.drop (Str.ofString "signs")).res (Str.ofString "stand") = some (.loc 2 true) := (Cx.drop_res X (by decide +kernel)).trans n3
  have w3 : (X.drop (Str.ofString "signs")).res (Str.ofString "_netrclex") = some (.glob 5) := (Cx.drop_res X (by decide +kernel)).trans n6
  have wp : X.env.scope = (X.drop (Str.ofString "signs")).env.scope := rfl
  refine ts_def (X' := X.drop (Str.ofString "signs")) (cc := cc) (qual := clo0.qual) (kr := 1) (ks := 3) (L := l) (X.drop_less _) n4 (fun k b q => ?_) hsk hcS w1 ?_ ?_ ?_ ?_ e13 hcc ?_ R.clo.built R.clo.apart ?_ ?_ ?_ ?_
  · rw [hlk, if_pos rfl] at q; cases q
  · rfl
  · exact m1.get h0
  · rw [R.clo.clo]; kernel_rfl!
  · have en : clo0.scope.names = [(Str.ofString "size", NameKind.local), (Str.ofString "signs", NameKind.free)] := by kernel_rfl!
    show closureFor clo0.scope X.env = _
    rw [closureFor_eq (fun x hx hf => ?_), en]
    · show pure [(Str.ofString "signs", (X.env.cells.lookup (Str.ofString "signs")).getD 0)] = _
      rw [hcS]; rfl
    · rw [en] at hx
      simp only [List.mem_cons, List.not_mem_nil, or_false] at hx
      rcases hx with rfl | rfl
      · cases hf
      · exact ⟨cS, hcS⟩
  · have hk : X.env.kindOf (Str.ofString "read") = some .local := by unfold Env.kindOf; rw [hsc]; kernel_rfl!
    have hq : X.env.qual = fd.qualname ++ (".<locals>." : Str) := by rw [hL]; rfl
    unfold qualnameIn
    rw [hk, hq, e12]; kernel_rfl!
  · kernel_rfl!
  · kernel_rfl!
  · kernel_rfl!
  intro i j q hi hj hq hij hiq hjq
  dsimp only at hi hj hq ⊢
  have z0 : ∀ x, H1 x = none → x ≠ 0 := fun x e q => by rw [q, m1.get h0] at e; cases e
  generalize eH2 : (((H1.upd 0 (.tab false)).upd i (.cell (.ref l))).upd j .code).upd q (.clos i j) = H2
  as_aux_lemma =>
    have up2 : ∀ x o, x ≠ 0 → H1 x = some o → H2 x = some o := fun x o hx e => by
      rw [← eH2, AH.upd_ne, AH.upd_ne, AH.upd_ne, AH.upd_ne _ _ hx]
      · exact e
      · intro w; rw [w, hi] at e; cases e
      · intro w; rw [w, hj] at e; cases e
      · intro w; rw [w, hq] at e; cases e
    have b5 : H2 q = some (.clos i j) := by rw [← eH2, AH.upd_self]
    have b6 : H2 j = some .code := by rw [← eH2, AH.upd_ne _ _ hjq, AH.upd_self]
    have b7 : H2 i = some (.cell (.ref l)) := by rw [← eH2, AH.upd_ne _ _ hiq, AH.upd_ne _ _ hij, AH.upd_self]
    have b8 : H2 l = some (.list (page.map chA)) := up2 _ _ (fun w => by rw [w, m1.get h0] at gl; cases gl) gl
    have h20' : H2 0 = some (.tab false) := by
      rw [← eH2, AH.upd_ne _ _ (fun w => z0 q hq w.symm), AH.upd_ne _ _ (fun w => z0 j hj w.symm), AH.upd_ne _ _ (fun w => z0 i hi w.symm), AH.upd_self]
    have h20 : ∃ o, H2 0 = some o := ⟨.tab false, h20'⟩
    clear eH2
    repeat' walk_at "ev"
    refine CV.of (class_lex R fun n d p H3 hnd hnp hdp hn hd hpp m3 g1 g2 g3 => ?_) (by omega)
    replace hn : H2 n = none := hn
    replace hd : H2 d = none := hd
    replace hpp : H2 p = none := hpp
    replace m3 : Mod [] H2 H3 := m3
    repeat' walk_at "ev"
    refine es_setA ?_ rfl
    repeat' walk_at "ev"
    obtain ⟨C, c1, c2, c3, c4, c5, c6, c7, a1, a2, a3, a4, a5⟩ := R.lex.ex
    refine ⟨n, 5, d, C, _, rfl, ⟨g1, g2, c1⟩, a5, (Nat.le_of_ble_eq_true rfl), ?_⟩
    rw [put_read]
    generalize eH4 : H3.upd d (.ns (lexNs 1 .none p ++ [(Str.ofString "read", .ref q)])) = H4
    as_aux_lemma =>
      have up4 : ∀ x o, H2 x = some o → H4 x = some o := fun x o e => by
        rw [← eH4, AH.upd_ne]
        · exact m3.get e
        · intro w; rw [w, hd] at e; cases e
      have r1 : H4 n = some (.inst 5 d) := by rw [← eH4, AH.upd_ne _ _ hnd]; exact g1
      have r2 : H4 d = some (.ns (lexNs 1 .none p ++ [(Str.ofString "read", .ref q)])) := by rw [← eH4, AH.upd_self]
      clear eH4
      repeat' walk_at "ev"
      refine CV.of (class_lex R fun n' d' p' H5 hnd' hnp' hdp' hn' hd' hpp' m5 g1' g2' g3' => ?_) (by omega)
      replace hn' : H4 n' = none := hn'
      replace hd' : H4 d' = none := hd'
      replace hpp' : H4 p' = none := hpp'
      replace m5 : Mod [] H4 H5 := m5
      repeat' walk_at "ev"
      have nn : ∀ x, H4 x = none → H2 x = none := fun x e => by
        cases e2 : H2 x with
        | none => rfl
        | some o => rw [up4 x o e2] at e; cases e
      have nn2 : ∀ x, x ≠ 0 → H2 x = none → H x = none := fun x hx e => by
        cases e2 : H x with
        | none => rfl
        | some o => rw [up2 x o hx (m1.get e2)] at e; cases e
      have z00 : ∃ o, H2 0 = some o := h20
      have nz : ∀ x, H2 x = none → x ≠ 0 := fun x e w => by obtain ⟨o, z⟩ := z00; rw [w, z] at e; cases e
      refine h ⟨d', n, d, p, p', q, i, j, l⟩ n' H5 ⟨g1', g2', m5.get r1, m5.get r2, m5.get (up4 _ _ b5), m5.get (up4 _ _ b6), m5.get (up4 _ _ b7), m5.get (up4 _ _ b8), g3', ?_, ?_, hp, by decide⟩ ?_ ?_ ?_ ?_ (m5.get (up4 _ _ h20'))
      · exact fun w => AH.ne r2 hd' w.symm
      · exact AH.ne (up4 _ _ b8) hpp'
      · intro x o e hx
        have hx : x ≠ 0 := by simpa using hx
        exact m5.get (up4 _ _ (up2 _ _ hx (m1.get e)))
      · exact nn2 _ (nz _ (nn _ hd')) (nn _ hd')
      · exact hl
      · exact nn2 _ (nz _ (nn _ hpp')) (nn _ hpp')
end WaW18
section WaW19
variable {G : Gx} {r : Nat}
theorem ev_tok (R : Ready G) {X : Cx G} {σ : St} {K : AV → St → Prop} {e : PySem.Expr} {apos pos : Pos} (hr : 4 ≤ r)
    (h : EV X r (eval e X.env) σ fun a σ1 => ∃ n I ln st t pb, a = .ref n ∧ LexS I σ1.H n ln st (t :: pb) ∧ ∀ H', Mod [I.p] σ1.H H' → LexS I H' n ln st pb → K (.str t) ⟨σ1.ρ, H'⟩)
    (hbase : attributeBase e "get_token" X.env (eval e X.env) = eval e X.env := by rfl)
    (hline : (apos.endLine == pos.line) = true := by rfl) : EV X r (eval (.Call (.Attribute e (Str.ofString "get_token") apos) [] [] pos) X.env) σ K := by
  obtain ⟨C, c1, c2, c3, c4, c5, ⟨f, f1, f2, f3, f4⟩, c7, a1, a2, a3, a4, a5⟩ := R.lex.ex
  refine ev_methI (EG.mono h fun a σ1 q0 => ?_) hbase hline
  obtain ⟨n, I, ln, st, t, pb, ea, hl, hk⟩ := q0
  subst ea
  refine ⟨n, 5, I.d, C, _, f, 32, rfl, ⟨hl.i1, hl.i2, c1⟩, f2, f3, look_get, f1, f4, EA.nil ?_⟩
  exact CV.of (get_token_pb R hl fun H' hm hl' => hk H' hm hl') hr
theorem ev_push (R : Ready G) {X : Cx G} {σ : St} {K : AV → St → Prop} {e o : PySem.Expr} {apos pos : Pos} (hr : 1 ≤ r)
    (h : EV X r (eval o X.env) σ fun a σ1 => ∃ n I ln0 st0 pb0, a = .ref n ∧ LexS I σ1.H n ln0 st0 pb0 ∧ EV X r (eval e X.env) σ1 fun v σ2 => ∃ t ln st pb, v = .str t ∧ LexS I σ2.H n ln st pb ∧ pb.length + 1 < 2 ^ 10 ∧ ∀ H', Mod [I.p] σ2.H H' → LexS I H' n ln st (pb ++ [t]) → K .none ⟨σ2.ρ, H'⟩)
    (hbase : attributeBase o "push_token" X.env (eval o X.env) = eval o X.env := by rfl)
    (hline : (apos.endLine == pos.line) = true := by rfl)
    (hform : methodCallForm (([e] : List PySem.Expr).length + ([] : List Keyword).length) (backTo pos (starEach [e] X.env)) (backToKw pos (keywordEach [] X.env)) = true := by rfl)
    (ht : backTo pos (starEach [e] X.env) = [e].map fun e => (false, eval e X.env) := by rfl) : EV X r (eval (.Call (.Attribute o (Str.ofString "push_token") apos) [e] [] pos) X.env) σ K := by
  obtain ⟨C, c1, c2, c3, c4, c5, c6, ⟨f, f1, f2, f3, f4⟩, a1, a2, a3, a4, a5⟩ := R.lex.ex
  refine ev_methI (EG.mono h fun a σ1 q0 => ?_) hbase hline hform ht
  obtain ⟨n, I, ln0, st0, pb0, ea, hl, hk⟩ := q0
  subst ea
  refine ⟨n, 5, I.d, C, _, f, 33, rfl, ⟨hl.i1, hl.i2, c1⟩, f2, f3, look_push, f1, f4, EA.cons (EG.mono hk fun v σ2 ⟨t, ln, st, pb, ev, hl2, hp, hk2⟩ => EA.nil ?_)⟩
  subst ev
  exact CV.of (push_token_ok R hl2 hp fun H' hm hl' => hk2 H' hm hl') hr
noncomputable def rot1 : List Nat → List Nat
  | [] => []
  | c :: l => l ++ [c]
noncomputable def rotN : Nat → List Nat → List Nat
  | 0, l => l
  | k + 1, l => rot1 (rotN k l)
noncomputable def lineF (count : Nat) (st : List Nat × List Nat) (turn : Int) : List Nat × List Nat := (st.1 ++ [st.2.headD 0], rotN (Int.fmod (turn - 1) count).toNat (rot1 st.2))
noncomputable def lineL (count : Nat) (turns : List Int) : List Nat × List Nat := turns.foldl (lineF count) ([], [34, 35, 92, 99, 104, 110, 122].take count)
theorem rot1_len (l : List Nat) : (rot1 l).length = l.length := by cases l <;> simp [rot1]
theorem rotN_len (k : Nat) (l : List Nat) : (rotN k l).length = l.length := by
  induction k with
  | zero => rfl
  | succ k ih => unfold rotN; rw [rot1_len, ih]
theorem lineF_len (count : Nat) (turns : List Int) : ∀ st, (turns.foldl (lineF count) st).1.length = st.1.length + turns.length ∧ (turns.foldl (lineF count) st).2.length = st.2.length := by
  induction turns with
  | nil => intro st; exact ⟨rfl, rfl⟩
  | cons t l ih =>
    intro st
    have := ih (lineF count st t)
    rw [List.foldl_cons, List.length_cons]
    unfold lineF at this ⊢
    simp only [List.length_append, List.length_singleton, rotN_len, rot1_len] at this
    exact ⟨by omega, by omega⟩
noncomputable def chS (c : Nat) : Str := ⟨#[c]⟩
noncomputable def lineJ1 (I : LexI) (n count tn : Nat) (ln : Int) (st all : List Nat) (H : AH) : Nat → St → Prop :=
  fun i σ => ∃ (u : Option AV) (H1 : AH), σ = ⟨[some (.ref n), some (.int count), some (.ref tn), u, none, none, none, none], H1⟩ ∧ Mod [I.p] H H1 ∧ LexS I H1 n ln st ((all.take i).map chS)
noncomputable def lineJ2 (I : LexI) (n count tn : Nat) (ln : Int) (st all : List Nat) (turns : List Int) (u : Option AV) (H : AH) : Nat → St → Prop :=
  fun i σ => ∃ (u v w : Option AV) (H2 : AH), σ = ⟨[some (.ref n), some (.int count), some (.ref tn), u, some (.str (S ((turns.take i).foldl (lineF count) ([], all)).1)), v, w, none], H2⟩ ∧ Mod [I.p] H H2 ∧ LexS I H2 n ln st (((turns.take i).foldl (lineF count) ([], all)).2.map chS)
noncomputable def lineJ3 (I : LexI) (n count tn c : Nat) (ln turn : Int) (st fr pr : List Nat) (H : AH) : Nat → St → Prop :=
  fun t σ => ∃ (w : Option AV) (H5 : AH), σ = ⟨[some (.ref n), some (.int count), some (.ref tn), some (.str (chS c)), some (.str (S (fr ++ [c]))), some (.int turn), w, none], H5⟩ ∧ Mod [I.p] H H5 ∧ LexS I H5 n ln st ((rotN t (pr ++ [c])).map chS)
theorem law_line_ok (R : Ready G) {count : Nat} {turns : List Int} {I : LexI} {n tn : Nat} {ln : Int} {st : List Nat} {H : AH} {K : AV → AH → Prop} (hc1 : 1 ≤ count) (hc7 : count ≤ 7) (ht : turns.length ≤ 7)
    (hl : LexS I H n ln st []) (hT : H tn = some (.list (turns.map .int))) (hne : tn ≠ I.p)
    (h : ∀ m H', H m = none → Mod [I.p] H H' → LexS I H' n ln st [] → H' m = some (.list ((lineL count turns).2.map chA)) → K (.tup [.str (S (lineL count turns).1), .ref m]) H') : CallOK G 5 (G.fv 18) [.ref n, .int count, .ref tn] H K := by
  have hsl : sizeLine = 16777216 := rfl
  have vr := R.v_range
  have qm : Str.ofString "\"#\\chnz" = S [34, 35, 92, 99, 104, 110, 122] := by decide +kernel
  refine def_call [some (.ref n), some (.int count), some (.ref tn), none, none, none, none, none] R.d_law_line R.gt scope_law_line rfl len_law_line rfl fun X hX hsc => ?_
  obtain ⟨n1, n2, n3, n4, n5, n6, n7, n8⟩ := nm_law_line hX
  conv in (bodyOf _) => whnf
  repeat' walk_at "ev"
  rw [qm]
  refine ES.for_ n4 ?_
  refine ev_slice ?_
  repeat' walk_at "ev"
  refine ⟨_, rfl, EP.none (EP.some ?_)⟩
  repeat' walk_at "ev"
  refine ⟨_, rfl, by rw [S_len]; decide, ?_⟩
  have e1 : subS (S [34, 35, 92, 99, 104, 110, 122]) (loIx none (S [34, 35, 92, 99, 104, 110, 122]).length) (hiIx (some (count : Int)) (S [34, 35, 92, 99, 104, 110, 122]).length) = S ([34, 35, 92, 99, 104, 110, 122].take count) := by
    rw [S_len]
    have h2 : hiIx (some (count : Int)) [34, 35, 92, 99, 104, 110, 122].length = min count [34, 35, 92, 99, 104, 110, 122].length := clip_nat _ _
    have h1 : loIx (none : Option Int) [34, 35, 92, 99, 104, 110, 122].length = min 0 [34, 35, 92, 99, 104, 110, 122].length := (Nat.zero_min _).symm
    rw [h1, h2, slice_S, Nat.sub_zero, List.drop_zero]
  rw [e1]
  generalize hall : [34, 35, 92, 99, 104, 110, 122].take count = all
  as_aux_lemma =>
    have hal : all.length = count := by rw [← hall, List.length_take]; simp; omega
    refine ⟨_, _, _, (lineJ1 I n count tn ln st all H), PI.str, ⟨none, H, rfl, Mod.refl _ _, hl⟩, ?_, ?_⟩
    · rintro i σ hi ⟨u, H1, rfl, m1, l1⟩
      have hi : i < all.length := hi
      refine ⟨trivial, ?_⟩
      have ec : (S all).cps.getD i 0 = all.getD i 0 := by
        show all.toArray.getD i 0 = _
        simp [Array.getD, List.getD_eq_getElem?_getD, hi]
      rw [ec]
      repeat' walk_at "ev"
      refine ES.expr ?_ (inter_fn X) rfl
      refine ev_push R (by omega) ?_
      repeat' walk_at "ev"
      refine ⟨n, I, ln, st, _, rfl, l1, ?_⟩
      repeat' walk_at "ev"
      refine ⟨_, ln, st, _, rfl, l1, by rw [List.length_map, List.length_take]; omega, fun H2 m2 l2 => ⟨rfl, ?_⟩⟩
      repeat' walk_at "ev"
      refine ⟨_, H2, rfl, m1.trans' m2, ?_⟩
      rw [take_succ_getD hi, List.map_append]
      exact l2
    · rintro σ ⟨u, H1, rfl, m1, l1⟩
      refine ⟨trivial, ?_⟩
      have eN : all.take (S all).cps.size = all := List.take_of_length_le (by show all.length ≤ all.toArray.size; rw [List.size_toArray]; exact Nat.le_refl _)
      rw [eN] at l1
      repeat' walk_at "ev"
      rw [emp_eq]
      refine ES.for_ n6 ?_
      repeat' walk_at "ev"
      refine ⟨_, _, _, (lineJ2 I n count tn ln st all turns u H), PI.list (m1 _ _ hT (by simpa using hne)), ⟨u, none, none, H1, rfl, m1, l1⟩, ?_, ?_⟩
      · rintro i σ hi ⟨u, v, w, H2, rfl, m2, l2⟩
        rw [List.length_map] at hi
        refine ⟨m2 _ _ hT (by simpa using hne), ?_⟩
        have et : (turns.map AV.int).getD i .none = .int (turns.getD i 0) := by
          rw [List.getD_eq_getElem?_getD, List.getElem?_map, List.getElem?_eq_getElem hi, List.getD_eq_getElem?_getD, List.getElem?_eq_getElem hi]; rfl
        rw [et]
        have hsucc : (turns.take (i + 1)).foldl (lineF count) ([], all) = lineF count ((turns.take i).foldl (lineF count) ([], all)) (turns.getD i 0) := by
          rw [List.take_add_one, List.getElem?_eq_getElem hi, List.getD_eq_getElem?_getD, List.getElem?_eq_getElem hi, List.foldl_append]; rfl
        obtain ⟨q1, q2⟩ := lineF_len count (turns.take i) ([], all)
        rw [List.length_take] at q1
        rw [hal] at q2
        generalize (turns.take i).foldl (lineF count) ([], all) = ss at *
        as_aux_lemma =>
          obtain ⟨fr, pb⟩ := ss
          have q1 : fr.length ≤ 7 := by simp at q1; omega
          have q2 : pb.length = count := q2
          obtain ⟨c, pr, rfl⟩ : ∃ c pr, pb = c :: pr := by
            cases pb with
            | nil => simp at q2; omega
            | cons c pr => exact ⟨c, pr, rfl⟩
          generalize turns.getD i 0 = turn at *
          as_aux_lemma =>
            have kf : 0 ≤ Int.fmod (turn - 1) count ∧ Int.fmod (turn - 1) count < count := by
              rw [Int.fmod_eq_emod_of_nonneg _ (by omega)]
              exact ⟨Int.emod_nonneg _ (by omega), Int.emod_lt_of_pos _ (by omega)⟩
            have ef : lineF count (fr, c :: pr) turn = (fr ++ [c], rotN (Int.fmod (turn - 1) count).toNat (pr ++ [c])) := rfl
            refine ES.cons ?_
            refine ES.assignN n4 ?_ rfl
            refine ev_tok R (by omega) ?_
            repeat' walk_at "ev"
            refine ⟨n, I, ln, st, _, _, rfl, l2, fun H3 m3 l3 => ?_⟩
            repeat' walk_at "ev"
            case hsz => exact len_ok2 (by omega)
            rw [show S fr ++ chS c = S (fr ++ [c]) from app_ch fr c]
            refine ES.expr ?_ (inter_fn X) rfl
            refine ev_push R (by omega) ?_
            repeat' walk_at "ev"
            refine ⟨n, I, ln, st, _, rfl, l3, ?_⟩
            repeat' walk_at "ev"
            refine ⟨_, ln, st, _, rfl, l3, by rw [List.length_map]; simp at q2; omega, fun H4 m4 l4 => ⟨rfl, ?_⟩⟩
            have l4 : LexS I H4 n ln st ((pr ++ [c]).map chS) := by rw [List.map_append]; exact l4
            have m4' := (m2.trans' m3).trans' m4
            repeat' walk_at "ev"
            refine ES.for_ n7 ?_
            repeat' walk_at "ev"
            refine P2.mod (by omega) ?_
            repeat' walk_at "ev"
            generalize hk : Int.fmod (turn - 1) count = kk at *
            as_aux_lemma =>
              refine ⟨_, _, _, (lineJ3 I n count tn c ln turn st fr pr H), PI.rng (by omega) (by omega) (by omega) (by omega), ⟨w, H4, rfl, m4', l4⟩, ?_, ?_⟩
              · rintro t σ ht ⟨w, H5, rfl, m5, l5⟩
                refine ⟨trivial, ?_⟩
                have ql : (rotN t (pr ++ [c])).length = count := by rw [rotN_len, List.length_append, List.length_singleton]; simpa using q2
                have hrs : rotN (t + 1) (pr ++ [c]) = rot1 (rotN t (pr ++ [c])) := rfl
                generalize rotN t (pr ++ [c]) = rr at *
                as_aux_lemma =>
                  obtain ⟨c2, rr, rfl⟩ : ∃ c pr, rr = c :: pr := by
                    cases rr with
                    | nil => simp at ql; omega
                    | cons c pr => exact ⟨c, pr, rfl⟩
                  repeat' walk_at "ev"
                  refine ES.expr ?_ (inter_fn X) rfl
                  refine ev_push R (by omega) ?_
                  repeat' walk_at "ev"
                  refine ⟨n, I, ln, st, _, rfl, l5, ?_⟩
                  refine ev_tok R (by omega) ?_
                  repeat' walk_at "ev"
                  refine ⟨n, I, ln, st, _, _, rfl, l5, fun H6 m6 l6 => ?_⟩
                  refine ⟨_, ln, st, _, rfl, l6, by rw [List.length_map]; simp at ql; omega, fun H7 m7 l7 => ⟨rfl, ?_⟩⟩
                  repeat' walk_at "ev"
                  dsimp only [lineJ3]
                  rw [hrs]
                  refine ⟨_, H7, rfl, (m5.trans' m6).trans' m7, ?_⟩
                  have : (rot1 (c2 :: rr)).map chS = rr.map chS ++ [chS c2] := by unfold rot1; rw [List.map_append]; rfl
                  rw [this]; exact l7
              · rintro σ ⟨w, H5, rfl, m5, l5⟩
                refine ⟨trivial, ?_⟩
                repeat' walk_at "ev"
                dsimp only [lineJ2]
                rw [hsucc, ef]
                refine ⟨_, _, _, H5, rfl, m5, ?_⟩
                have : (kk - 0).toNat = kk.toNat := by omega
                rw [this] at l5; exact l5
      · rintro σ ⟨u, v, w, H2, rfl, m2, l2⟩
        have eN2 : turns.take (turns.map AV.int).length = turns := List.take_of_length_le (by rw [List.length_map]; exact Nat.le_refl _)
        rw [eN2] at l2 ⊢
        refine ⟨m2 _ _ hT (by simpa using hne), ?_⟩
        have hLL : lineL count turns = turns.foldl (lineF count) ([], all) := by unfold lineL; rw [hall]
        rw [hLL] at h
        obtain ⟨q1, q2⟩ := lineF_len count turns ([], all)
        rw [hal] at q2
        generalize turns.foldl (lineF count) ([], all) = ss at *
        as_aux_lemma =>
          obtain ⟨fr, pb⟩ := ss
          have q2 : pb.length = count := q2
          repeat' walk_at "ev"
          refine EV.tup ?_
          repeat' walk_at "ev"
          walk_at "comp"
          repeat' walk_at "ev"
          refine ⟨_, _, _, fun i acc H3 => acc = (pb.take i).map chA ∧ Mod [I.p] H H3 ∧ LexS I H3 n ln st ((pb.drop i).map chS), PI.rng (by omega) (by omega) (by omega) (by omega), by omega, ⟨rfl, m2, l2⟩, ?_, ?_⟩
          · rintro Y hY hYs i acc H3 hi hacc ⟨ea, m3, l3⟩
            have hi : i < pb.length := by omega
            refine ⟨trivial, CT.nil ⟨fun _ => ?_, (fun e => by cases e)⟩⟩
            have y1 : Y.res (Str.ofString "lexer") = some (.loc 2 false) := by rw [hY]; rfl
            simp only [rhoC, List.map_cons, List.map_nil, n1]
            rw [List.drop_eq_getElem_cons hi] at l3
            refine ev_tok R (by omega) ?_
            repeat' walk_at "ev"
            refine ⟨n, I, ln, st, _, _, rfl, l3, fun H4 m4 l4 => ⟨rfl, ?_, m3.trans' m4, l4⟩⟩
            rw [ea, List.take_add_one, List.getElem?_eq_getElem hi, List.map_append]; rfl
          · rintro acc H3 ⟨ea, m3, l3⟩
            refine ⟨trivial, fun m hm => ?_⟩
            have e1 : ((count : Int) - 0).toNat = pb.length := by omega
            rw [e1, List.take_length] at ea
            rw [e1, List.drop_length] at l3
            repeat' walk_at "ev"
            refine ⟨Nat.le_of_ble_eq_true rfl, ?_⟩
            subst ea
            refine h m _ ?_ (m3.trans' (Mod.new _ hm)) (l3.mod (Mod.new _ hm)) (AH.upd_self _ _ _)
            have hmp : m ≠ I.p := fun q => by rw [q, l3.i9] at hm; cases hm
            cases e : H m with
            | none => rfl
            | some o => rw [m3 _ _ e (by simpa using hmp)] at hm; cases hm
end WaW19
section WaW20
variable {G : Gx} {r : Nat}
theorem ev_tokL (R : Ready G) {X : Cx G} {σ : St} {K : AV → St → Prop} {e : PySem.Expr} {apos pos : Pos} (hr : 4 ≤ r)
    (h : EV X r (eval e X.env) σ fun a σ1 => ∃ n I ln st t rest, a = .ref n ∧ LexS I σ1.H n ln st [] ∧ lex0 st = some (t, rest) ∧ ∀ H', Mod [I.d, I.L] σ1.H H' → LexS I H' n (ln + nls st - nls rest) rest [] → K (.str (S t)) ⟨σ1.ρ, H'⟩)
    (hbase : attributeBase e "get_token" X.env (eval e X.env) = eval e X.env := by rfl)
    (hline : (apos.endLine == pos.line) = true := by rfl) : EV X r (eval (.Call (.Attribute e (Str.ofString "get_token") apos) [] [] pos) X.env) σ K := by
  obtain ⟨C, c1, c2, c3, c4, c5, ⟨f, f1, f2, f3, f4⟩, c7, a1, a2, a3, a4, a5⟩ := R.lex.ex
  refine ev_methI (EG.mono h fun a σ1 q0 => ?_) hbase hline
  obtain ⟨n, I, ln, st, t, rest, ea, hl, hx, hk⟩ := q0
  subst ea
  refine ⟨n, 5, I.d, C, _, f, 32, rfl, ⟨hl.i1, hl.i2, c1⟩, f2, f3, look_get, f1, f4, EA.nil ?_⟩
  exact CV.of (get_token_lex R hl hx fun H' hm hl' => hk H' hm hl') hr
noncomputable def kindNat : List Nat := [34, 35, 92, 99, 104, 110, 122]
noncomputable def ruleOf (size step width : Nat) : Int × List Int × List Int × List Int :=
  let i := lead1 step size width
  let j := lead1 (size - step) size width
  ruleS i j (i * step % size) (j * (size - step) % size) width width
noncomputable def totalOf (size step width : Nat) : Nat :=
  let i := lead1 step size width
  let j := lead1 (size - step) size width
  i * (j * (size - step) % size) + j * (i * step % size)
noncomputable def marksOf (ns : List Int) : List Nat := ns.map fun x => kindNat.getD x.toNat 0
structure Facts (size step width seed : Nat) : Prop where
  small : ∀ c ∈ tapeL size step width seed size, smallB c = true
  rep : Txt.replace (S (tapeL size step width seed size)) (S [34]) (S [34, 34]) = S (quoL (tapeL size step width seed size))
  lex : ∃ r1 r2, lex0 (pageL size seed (tapeL size step width seed size)) = some (resp229 (markAt seed) size, r1) ∧ lex0 r1 = some ([50, 53, 55, 32, 34] ++ (quoL (tapeL size step width seed size) ++ [34]), r2) ∧ lex0 r2 = some ([], [])
  nl : Txt.count (S (pageL size seed (tapeL size step width seed size))) (S [10]) = nls (pageL size seed (tapeL size step width seed size))
  unq : unq (quoL (tapeL size step width seed size) ++ [34]) = tapeL size step width seed size
  total : totalOf size step width = size
  seen : seenL (tapeL size step width seed size) = (marksOf (ruleOf size step width).2.1, (ruleOf size step width).2.2.1)
  nums : ∀ x ∈ (ruleOf size step width).2.1, 0 ≤ x ∧ x < 7
  less : (marksOf (ruleOf size step width).2.1).map (fun m => (((marksOf (ruleOf size step width).2.1).filter fun o => decide (o < m)).length : Int)) = (ruleOf size step width).2.1
  line : lineL width (ruleOf size step width).2.2.2 = (marksOf (ruleOf size step width).2.1, kindNat.take width)
theorem tapeL_len (size step width seed k : Nat) : (tapeL size step width seed k).length = k := by unfold tapeL; rw [List.length_map, List.length_range]
theorem join_chS (l : List Nat) : Txt.join (Str.ofString "") (l.map chS) = S l := by
  show PySem.Builtin.Str.glued _ _ = _
  rw [PySem.StrLaws.glued_eq_join, emp_eq]
  induction l with
  | nil => rfl
  | cons c l ih =>
    cases l with
    | nil => rfl
    | cons d l =>
      show S [c] ++ S [] ++ Str.join ⟨#[]⟩ ((d :: l).map chS) = _
      rw [ih, S_app, S_app]; rfl
theorem join_ok (l : List Nat) (h : l.length ≤ 100) : JoinOk (Str.ofString "") (l.map chS) = true := by
  unfold JoinOk
  have hf : ∀ (l : List Nat) (n : Nat), (l.map chS).foldl (fun b a => b + a.length + (Str.ofString "").length) n = n + l.length := by
    intro l
    induction l with
    | nil => intro n; rfl
    | cons c l ih => intro n; rw [List.map_cons, List.foldl_cons, ih, List.length_cons, show (chS c).length = 1 from rfl, show (Str.ofString "").length = 0 by rw [emp_eq]; rfl]; omega
  rw [List.foldl_toArray, hf]
  unfold PySem.Builtin.Str.tooLong sizeLine
  simp only [Bool.not_eq_true', decide_eq_false_iff_not]; omega
theorem strc_lt (o m : Nat) : decide (b2i (decide ([m] < [o])) - b2i (decide ([o] < [m])) < 0) = decide (o < m) := by
  have e : ∀ a b : Nat, ([a] < [b]) ↔ a < b := fun a b => by rw [List.cons_lt_cons_iff]; simp
  by_cases h1 : o < m
  · have : ¬ m < o := by omega
    simp [e, h1, this, b2i]
  · by_cases h2 : m < o
    · simp [e, h1, h2, b2i]
    · simp [e, h1, h2, b2i]
theorem aveq_ints {H : AH} {d : Nat} (xs : List Int) : ∀ j, j < (xs.map AV.int).length → AVEq H d ((xs.map AV.int).getD j .none) ((xs.map AV.int).getD j .none) true := fun j hj => by
  rw [List.length_map] at hj
  rw [List.getD_eq_getElem?_getD, List.getElem?_map, List.getElem?_eq_getElem hj]
  have := AVEq.int (H := H) (d := d) xs[j] xs[j]
  rwa [beq_self_eq_true] at this
theorem aveq_chs {H : AH} {d : Nat} (xs : List Nat) : ∀ j, j < (xs.map chA).length → AVEq H d ((xs.map chA).getD j .none) ((xs.map chA).getD j .none) true := fun j hj => by
  rw [List.length_map] at hj
  rw [List.getD_eq_getElem?_getD, List.getElem?_map, List.getElem?_eq_getElem hj]
  have := AVEq.str (H := H) (d := d) (⟨#[xs[j]]⟩ : Str) ⟨#[xs[j]]⟩
  rwa [beq_self_eq_true] at this
theorem pageL_len {size seed : Nat} {tape : List Nat} (h40 : size ≤ 40) (ht : tape.length ≤ 40) : (pageL size seed tape).length ≤ 1000 := by
  unfold pageL
  have h1 := wordL_len (resp229 (markAt seed) size) seed
  have h2 := wordL_len ([50, 53, 55, 32, 34] ++ (quoL tape ++ [34])) (seed / 2)
  have h3 := quoL_len tape
  have h4 := dg_len size (by omega)
  have h5 : (resp229 (markAt seed) size).length ≤ 12 := by unfold resp229; simp; omega
  simp only [List.length_append, List.length_cons, List.length_nil] at h2 ⊢
  omega
theorem stores2 {res : Str → Option Res} {a b : Str} {ka kb : Nat} {va vb : AV} {ρ : List (Option AV)} (ha : res a = some (.loc ka true)) (hb : res b = some (.loc kb true)) : stores res [a, b] [va, vb] ρ = some ((ρ.set ka (some va)).set kb (some vb)) := by
  unfold stores; rw [ha]; unfold stores; rw [hb]; rfl
theorem stores4 {res : Str → Option Res} {a b c d : Str} {ka kb kc kd : Nat} {va vb vc vd : AV} {ρ : List (Option AV)} (ha : res a = some (.loc ka true)) (hb : res b = some (.loc kb true)) (hc : res c = some (.loc kc true)) (hd : res d = some (.loc kd true)) : stores res [a, b, c, d] [va, vb, vc, vd] ρ = some ((((ρ.set ka (some va)).set kb (some vb)).set kc (some vc)).set kd (some vd)) := by
  unfold stores; rw [ha]; dsimp only; unfold stores; rw [hb]; dsimp only; unfold stores; rw [hc]; dsimp only; unfold stores; rw [hd]; rfl
set_option maxHeartbeats 4000000 in
theorem law_ok (R : Ready G) {ns : List Int} (Sc : Script G ns) (D : DefAt G 20 st_law)
    (hF : ∀ size step width seed : Nat, 8 ≤ size → size ≤ 40 → 1 ≤ step → step < size → (∀ p, 2 ≤ p → p < size → ¬ (size % p = 0 ∧ step % p = 0)) → 2 ≤ width → width ≤ 7 → seed < 10 ^ 12 → Facts size step width seed)
    {H : AH} {K : AV → AH → Prop} (h0 : H 0 = some (.tab true)) (h : ∀ H', H' 0 = some (.tab false) → K (.bool true) H') : CallOK G 6 (G.fv 20) [.fn 60] H K := by
  have hsl : sizeLine = 16777216 := rfl
  have vl := R.v_len
  have vt := R.v_list
  have k10 : Keep G (G.fv 10) := R.d_law_heaps.keep
  have k11 : Keep G (G.fv 11) := R.d_law_step.keep
  have k12 : Keep G (G.fv 12) := R.d_law_tape.keep
  have k14 : Keep G (G.fv 14) := R.d_law_page.keep
  have k15 : Keep G (G.fv 15) := R.clo.keep
  have k17 : Keep G (G.fv 17) := R.d_law_rule.keep
  have k3 : Keep G (G.fv 3) := R.d_parse229.keep
  have k16 : Keep G (G.fv 16) := R.d_law_seen.keep
  have k4 : Keep G (G.fv 4) := R.d_parse257.keep
  have k18 : Keep G (G.fv 18) := R.d_law_line.keep
  have k0 : Keep G (G.fv 0) := R.d_strcoll.keep
  refine def_call [some (.fn 60), none, none, none, none, none, none, none, none, none, none, none, none, none, none, none, none, none, none, none, none, none, none, none] D R.gt scope_law rfl len_law rfl fun X hX hsc => ?_
  obtain ⟨n1, n2, n3, n4, n5, n6, n7, n8, n9, n10, n11, n12, n13, g1, g2, g3, g4, g5, g6, g7, g8, g9, g10, g11⟩ := nm_law hX
  conv in (bodyOf _) => whnf
  repeat' walk_at "ev"
  refine CV.of (law_heaps_ok R Sc fun hn hs H1 h4 hb hhn m1 gh => ?_) (by omega)
  have item : ∀ j < 4, (hs.map AV.int)[j]? = some (.int (hs.getD j 0)) := fun j hj => map_getD (by omega)
  have pos : ∀ j < 4, 0 ≤ hs.getD j 0 ∧ hs.getD j 0 < 10 ^ 12 := fun j hj => by
    rw [List.getD_eq_getElem?_getD, List.getElem?_eq_getElem (by omega)]
    exact hb _ (List.getElem_mem _)
  obtain ⟨p01, p02⟩ := pos 0 (by decide)
  obtain ⟨p11, p12⟩ := pos 1 (by decide)
  obtain ⟨p21, p22⟩ := pos 2 (by decide)
  obtain ⟨p31, p32⟩ := pos 3 (by decide)
  have i0 := item 0 (by decide)
  have i1 := item 1 (by decide)
  have i2 := item 2 (by decide)
  have i3 := item 3 (by decide)
  replace gh : H1 hn = some (.list (hs.map AV.int)) := gh
  generalize hs.getD 0 0 = x0 at *
  generalize hs.getD 1 0 = x1 at *
  generalize hs.getD 2 0 = x2 at *
  generalize hs.getD 3 0 = x3 at *
  generalize hs.map AV.int = hv at *
  as_aux_lemma =>
    have hsz : ∃ size : Nat, 8 + Int.fmod x0 33 = (size : Int) ∧ 8 ≤ size ∧ size ≤ 40 := by
      rw [Int.fmod_eq_emod_of_nonneg _ (by decide)]
      have := Int.emod_nonneg x0 (show (33 : Int) ≠ 0 by decide)
      have := Int.emod_lt_of_pos x0 (show (0 : Int) < 33 by decide)
      exact ⟨(8 + x0 % 33).toNat, by omega, by omega, by omega⟩
    obtain ⟨size, es, s8, s40⟩ := hsz
    have hwd : ∃ width : Nat, 2 + Int.fmod x2 6 = (width : Int) ∧ 2 ≤ width ∧ width ≤ 7 := by
      rw [Int.fmod_eq_emod_of_nonneg _ (by decide)]
      have := Int.emod_nonneg x2 (show (6 : Int) ≠ 0 by decide)
      have := Int.emod_lt_of_pos x2 (show (0 : Int) < 6 by decide)
      exact ⟨(2 + x2 % 6).toNat, by omega, by omega, by omega⟩
    obtain ⟨width, ew, w2, w7⟩ := hwd
    obtain ⟨seed, rfl⟩ : ∃ seed : Nat, x3 = (seed : Int) := ⟨x3.toNat, by omega⟩
    have hse : seed < 10 ^ 12 := by omega
    repeat' walk_at "ev"
    refine ev_sub ?_
    repeat' walk_at "ev"
    refine ⟨SubT.list _ _ gh, P2.itemL gh (by decide) (by decide) i0 ?_⟩
    repeat' walk_at "ev"
    refine P2.mod (by decide) ?_
    repeat' walk_at "ev"
    rw [es]
    refine ev_sub ?_
    repeat' walk_at "ev"
    refine ⟨SubT.list _ _ gh, P2.itemL gh (by decide) (by decide) i1 ?_⟩
    repeat' walk_at "ev"
    refine CV.of (law_step_ok R s8 s40 fun step H2 hst1 hst2 hco m2 => ?_) (by omega)
    have gh2 := m2.get gh
    have F := hF size step width seed s8 s40 hst1 hst2 hco w2 w7 hse
    repeat' walk_at "ev"
    refine ev_sub ?_
    repeat' walk_at "ev"
    refine ⟨SubT.list _ _ gh2, P2.itemL gh2 (by decide) (by decide) i2 ?_⟩
    repeat' walk_at "ev"
    refine P2.mod (by decide) ?_
    repeat' walk_at "ev"
    rw [ew]
    refine ev_sub ?_
    repeat' walk_at "ev"
    refine ⟨SubT.list _ _ gh2, P2.itemL gh2 (by decide) (by decide) i3 ?_⟩
    repeat' walk_at "ev"
    refine CV.of (law_tape_ok R s8 s40 hst1 hst2 w2 w7 hse fun H3 m3 => ?_) (by omega)
    have gh3 := m3.get gh2
    have tl := tapeL_len size step width seed size
    repeat' walk_at "ev"
    refine ev_sub ?_
    repeat' walk_at "ev"
    refine ⟨SubT.list _ _ gh3, P2.itemL gh3 (by decide) (by decide) i3 ?_⟩
    repeat' walk_at "ev"
    refine CV.of (law_page_ok R s40 hse (by omega) F.rep fun H4 m4 => ?_) (by omega)
    have pl := pageL_len (seed := seed) s40 (show (tapeL size step width seed size).length ≤ 40 by omega)
    obtain ⟨r1, r2, x1', x2', x3'⟩ := F.lex
    have fnl := F.nl
    have fsm := F.small
    have fun' := F.unq
    have fse := F.seen
    generalize tapeL size step width seed size = tape at *
    generalize pageL size seed tape = page at *
    as_aux_lemma =>
      repeat' walk_at "ev"
      refine CV.of (law_lexer_ok R (by omega) ?_ fun I ln H5 l5 m5 z1 z2 z3 t0 => ?_) (by omega)
      · exact (m4.get (m3.get (m2.get (m1.get h0))))
      repeat' walk_at "ev"
      refine es_unpack (names := [(Str.ofString "numbers", _), (Str.ofString "gaps", _), (Str.ofString "turns", _), (Str.ofString "total", _)]) ?_ rfl rfl
      repeat' walk_at "ev"
      refine CV.of (law_rule_ok R s8 s40 hst1 hst2 w2 w7 fun i j u v ei ej eu ev a1 a2 a3 H6 y1 y2 y3 m6 q1 q2 q3 => ?_) (by omega)
      have er : ruleS i j u v width width = ruleOf size step width := by rw [ei, ej, eu, ev, ei, ej]; rfl
      have eto : i * v + j * u = size := by rw [← F.total, ei, ej, eu, ev, ei, ej]; rfl
      have fnum := F.nums
      have fless := F.less
      have fline := F.line
      have frl := ruleS_len i j u v width width
      rw [er] at q1 q2 q3 frl
      rw [eto]
      clear ei ej eu ev er eto F
      generalize ruleOf size step width = rl at *
      as_aux_lemma =>
        obtain ⟨kk, ns', gs', ts'⟩ := rl
        dsimp only at q1 q2 q3 fnum fless fline frl fse y1 y2 y3 m6
        obtain ⟨fr1, fr2, fr3⟩ := frl
        have l6 := l5.mod m6
        have t1 := m6.get t0
        have o1 : 0 ≠ I.d := fun w => by rw [w, l5.i2] at t0; cases t0
        have o2 : 0 ≠ I.L := fun w => by rw [w, l5.i8] at t0; cases t0
        have o3 : 0 ≠ I.p := fun w => by rw [w, l5.i9] at t0; cases t0
        have z4 : a1 ≠ I.d := fun w => by rw [w, l5.i2] at y1; cases y1
        have z5 : a1 ≠ I.L := fun w => by rw [w, l5.i8] at y1; cases y1
        have z6 : a1 ≠ I.p := fun w => by rw [w, l5.i9] at y1; cases y1
        have z7 : a2 ≠ I.d := fun w => by rw [w, l5.i2] at y2; cases y2
        have z8 : a2 ≠ I.L := fun w => by rw [w, l5.i8] at y2; cases y2
        have z9 : a2 ≠ I.p := fun w => by rw [w, l5.i9] at y2; cases y2
        have z10 : a3 ≠ I.d := fun w => by rw [w, l5.i2] at y3; cases y3
        have z11 : a3 ≠ I.L := fun w => by rw [w, l5.i8] at y3; cases y3
        have z12 : a3 ≠ I.p := fun w => by rw [w, l5.i9] at y3; cases y3
        refine ⟨_, _, rfl, stores4 n8 n9 n10 n11, ?_⟩
        have mem : markAt seed ∈ [124, 92, 34, 32] := by
          unfold markAt
          have h4 : seed / 3 % 4 < 4 := Nat.mod_lt _ (by decide)
          rw [List.getD_eq_getElem?_getD, List.getElem?_eq_getElem (by exact h4)]; exact List.getElem_mem _
        have ck := checks229 size (by omega) (by omega) _ mem
        repeat' walk_at "ev"
        refine ev_tokL R (by omega) ?_
        repeat' walk_at "ev"
        refine ⟨ln, I, 1, page, _, _, rfl, l6, x1', fun H7 m7 l7 => ?_⟩
        have t1 := m7 _ _ t1 (by simp [o1, o2])
        have q1 := m7 _ _ q1 (by simp [z4, z5])
        have q2 := m7 _ _ q2 (by simp [z7, z8])
        have q3 := m7 _ _ q3 (by simp [z10, z11])
        repeat' walk_at "ev"
        refine EV.tup ?_
        repeat' walk_at "ev"
        refine ⟨Nat.le_of_ble_eq_true rfl, ?_⟩
        repeat' walk_at "ev"
        refine CV.of (parse229_ok R ck fun H8 m8 => ?_) (by omega)
        replace m8 : Mod [] H7 H8 := m8
        have t1 := m8.get t1
        have q1 := m8.get q1
        have q2 := m8.get q2
        have q3 := m8.get q3
        have l8 := l7.mod m8
        repeat' walk_at "ev"
        refine EV.tup ?_
        repeat' walk_at "ev"
        refine ⟨Nat.le_of_ble_eq_true rfl, ?_⟩
        refine P2.neT (d := 0) (fun _ => true) (by decide) (fun j hj _ => ?_) ?_
        · match j, hj with
          | 0, _ => have := AVEq.str (H := H8) (d := 0) (Str.ofString "ring") (Str.ofString "ring"); rwa [beq_self_eq_true] at this
          | 1, _ => have := AVEq.int (H := H8) (d := 0) (size : Int) (size : Int); rwa [beq_self_eq_true] at this
        repeat' walk_at "ev"
        refine ⟨(fun e => by cases e), fun _ => ?_⟩
        repeat' walk_at "ev"
        refine es_unpack (names := [(Str.ofString "marks", _), (Str.ofString "told", _)]) ?_ rfl rfl
        repeat' walk_at "ev"
        refine ev_tokL R (by omega) ?_
        repeat' walk_at "ev"
        refine ⟨ln, I, _, r1, _, _, rfl, l8, x2', fun H9 m9 l9 => ?_⟩
        replace m9 : Mod [I.d, I.L] H8 H9 := m9
        have t1 := m9 _ _ t1 (by simp [o1, o2])
        have q1 := m9 _ _ q1 (by simp [z4, z5])
        have q2 := m9 _ _ q2 (by simp [z7, z8])
        have q3 := m9 _ _ q3 (by simp [z10, z11])
        repeat' walk_at "ev"
        have hql := quoL_len tape
        refine CV.of (parse257_ok R (by simp; omega) ?_) (by omega)
        rw [fun']
        repeat' walk_at "ev"
        refine CV.of (law_seen_ok R (by omega) fsm fun tn H10 hfresh m10 gt => ?_) (by omega)
        replace m10 : Mod [] H9 H10 := m10
        replace hfresh : H9 tn = none := hfresh
        have t1 := m10.get t1
        have q1 := m10.get q1
        have q2 := m10.get q2
        have q3 := m10.get q3
        have l10 := l9.mod m10
        rw [fse] at gt ⊢
        dsimp only at gt ⊢
        refine ⟨_, _, rfl, stores2 n12 n13, ?_⟩
        repeat' walk_at "ev"
        refine P2.neL (d := 0) (fun _ => true) (by decide) gt q2 rfl (aveq_ints gs') ?_
        repeat' walk_at "ev"
        refine ⟨fun _ => ?_, (fun e => by simp at e)⟩
        refine ET.cmp ?_ rfl
        repeat' walk_at "ev"
        refine EV.meth PySem.F.plainAttrs_str PySem.F.slot_str_join PySem.F.type_str_join ?_
        repeat' walk_at "ev"
        refine ⟨Is.str _, ?_⟩
        repeat' walk_at "ev"
        walk_at "comp"
        repeat' walk_at "ev"
        have q1' := q1
        refine ⟨_, _, _, fun i acc H' => H' = H10 ∧ acc = ((marksOf ns').take i).map chA, PI.list q1, by rw [List.length_map]; omega, ⟨rfl, rfl⟩, ?_, ?_⟩
        · rintro Y hY hYs i acc H' hi hacc ⟨rfl, ea⟩
          rw [List.length_map] at hi
          refine ⟨q1, CT.nil ⟨fun _ => ?_, (fun e => by cases e)⟩⟩
          have y1 : Y.res (Str.ofString "number") = some (.loc 1 true) := by rw [hY]; rfl
          simp only [rhoC, List.map_cons, List.map_nil]
          have et : (ns'.map AV.int).getD i .none = .int ns'[i] := by
            rw [List.getD_eq_getElem?_getD, List.getElem?_map, List.getElem?_eq_getElem hi]; rfl
          rw [et]
          obtain ⟨b1, b2⟩ := fnum _ (List.getElem_mem hi)
          refine ev_sub ?_
          repeat' walk_at "ev"
          rw [show Str.ofString "\"#\\chnz" = S kindNat by decide +kernel]
          refine ⟨SubT.str _, P2.itemS (c := kindNat.getD ns'[i].toNat 0) b1 (by rw [S_len]; show _ < ((7 : Nat) : Int); omega) (by rw [S_len]; show (7 : Nat) ≤ _; omega) ?_ ?_⟩
          · exact S_get (show ns'[i].toNat < 7 by omega)
          refine ⟨rfl, rfl, ?_⟩
          have : (marksOf ns')[i]? = some (kindNat.getD ns'[i].toNat 0) := by unfold marksOf; rw [List.getElem?_map, List.getElem?_eq_getElem hi]; rfl
          rw [ea, List.take_add_one, this, List.map_append]; rfl
        · rintro acc H' ⟨rfl, ea⟩
          refine ⟨q1, fun jn hjn => ?_⟩
          have e1 : (ns'.map AV.int).length = (marksOf ns').length := by unfold marksOf; rw [List.length_map, List.length_map]
          rw [e1, List.take_length] at ea
          subst ea
          have mlen : (marksOf ns').length ≤ 7 := by unfold marksOf; rw [List.length_map]; omega
          repeat' walk_at "ev"
          refine cv_join (ts := (marksOf ns').map chS) ?_ (join_ok _ (by omega)) ?_
          · rw [List.map_map]; exact AH.upd_self _ _ _
          rw [join_chS]
          repeat' walk_at "ev"
          rw [S_bne]
          refine ⟨(fun e => by simp at e), fun _ => ?_⟩
          have m11 : Mod [] H' (H'.upd jn (.list ((marksOf ns').map chA))) := Mod.new _ hjn
          generalize eH : H'.upd jn (.list ((marksOf ns').map chA)) = H11 at *
          as_aux_lemma =>
            replace t1 := m11.get t1
            replace q1 := m11.get q1
            replace q2 := m11.get q2
            replace q3 := m11.get q3
            replace l10 := l10.mod m11
            generalize hmk : marksOf ns' = mks at *
            as_aux_lemma =>
              clear eH
              repeat' walk_at "ev"
              refine ev_compC (xc := Str.ofString "mark") (kx := 1) gtab R.gt ?hpl ?hnd ?hk ?hnc ?hX ?hx ?_
              case hpl => kernel_rfl!
              case hnd => kernel_rfl!
              case hk => rfl
              case hnc => kernel_rfl!
              case hX => exact comp_free hX hsc (by kernel_rfl!)
              case hx => kernel_rfl!
              repeat' walk_at "ev"
              have ml : (S mks).cps.size = mks.length := by show mks.toArray.size = _; rw [List.size_toArray]
              refine ⟨_, _, _, fun i acc H' => Mod [] H11 H' ∧ acc = (ns'.take i).map .int, PI.str, by rw [ml]; omega, ⟨Mod.refl _ _, rfl⟩, ?_, ?_⟩
              · rintro Y hY hYs i acc H12 hi hacc ⟨m12, ea⟩
                rw [ml] at hi
                refine ⟨trivial, CT.nil ⟨fun _ => ?_, (fun e => by cases e)⟩⟩
                have y1 : Y.res (Str.ofString "mark") = some (.loc 1 true) := by rw [hY]; kernel_rfl!
                have y2 : Y.res (Str.ofString "len") = some (.glob 40) := by rw [hY]; kernel_rfl!
                have y3 : Y.res (Str.ofString "marks") = some (.loc 3 false) := by rw [hY]; kernel_rfl!
                simp only [rhoC, List.map_cons, List.map_nil, n12]
                have ec : (S mks).cps.getD i 0 = mks[i] := by
                  show mks.toArray.getD i 0 = _
                  simp [Array.getD, hi]
                rw [ec]
                repeat' walk_at "ev"
                have ym : Y.env.kindOf (Str.ofString "mark") ≠ some .local := by
                  unfold Env.kindOf; rw [hYs]
                  intro q
                  have : (some NameKind.cell : Option NameKind) = some .local := by rw [← q]; kernel_rfl!
                  cases this
                refine ev_comp (kx := 1) gtab R.gt ?hpl ?hnd ?hk ?hnc ?hX ?hx ?_
                case hpl => kernel_rfl!
                case hnd => kernel_rfl!
                case hk => rfl
                case hnc => kernel_rfl!
                case hX =>
                  intro y hy hf
                  have hy1 : y.1 = Str.ofString "mark" := by
                    simp only [List.mem_cons, List.not_mem_nil, or_false] at hy
                    rcases hy with rfl | rfl | rfl | rfl
                    · cases hf
                    · cases hf
                    · cases hf
                    · rfl
                  rw [hy1]; exact ⟨1, true, y1, ym⟩
                case hx => kernel_rfl!
                repeat' walk_at "ev"
                refine ⟨_, _, _, fun t acc2 H' => H' = H12 ∧ acc2 = ((mks.take t).filter fun o => decide (o < mks[i])).map chA, PI.str, by rw [ml]; omega, ⟨rfl, rfl⟩, ?_, ?_⟩
                · rintro Z hZ hZs t acc2 H' ht hacc2 ⟨rfl, ea2⟩
                  rw [ml] at ht
                  refine ⟨trivial, CT.one ?_⟩
                  have w1 : Z.res (Str.ofString "one") = some (.loc 1 true) := by rw [hZ]; kernel_rfl!
                  have w2 : Z.res (Str.ofString "_strcoll") = some (.glob 0) := by rw [hZ]; kernel_rfl!
                  have w3 : Z.res (Str.ofString "mark") = some (.loc 3 false) := by rw [hZ]; kernel_rfl!
                  simp only [rhoC, List.map_cons, List.map_nil, y1]
                  have ec2 : (S mks).cps.getD t 0 = mks[t] := by
                    show mks.toArray.getD t 0 = _
                    simp [Array.getD, ht]
                  rw [ec2]
                  repeat' walk_at "ev"
                  refine CV.of (strcoll_ok R ?_) (by omega)
                  repeat' walk_at "ev"
                  rw [show (b2i (decide ((⟨#[mks[i]]⟩ : Str).cps.toList < (⟨#[mks[t]]⟩ : Str).cps.toList)) - b2i (decide ((⟨#[mks[t]]⟩ : Str).cps.toList < (⟨#[mks[i]]⟩ : Str).cps.toList))) = b2i (decide ([mks[i]] < [mks[t]])) - b2i (decide ([mks[t]] < [mks[i]])) from rfl, strc_lt]
                  have es2 : mks.take (t + 1) = mks.take t ++ [mks[t]] := by rw [List.take_add_one, List.getElem?_eq_getElem ht]; rfl
                  refine ⟨fun hlt => ?_, fun hge => ?_⟩
                  · repeat' walk_at "ev"
                    refine ⟨rfl, rfl, ?_⟩
                    rw [es2, List.filter_append, List.map_append, ea2, List.filter_cons, if_pos hlt]; rfl
                  · refine ⟨rfl, rfl, ?_⟩
                    rw [es2, List.filter_append, List.map_append, ea2, List.filter_cons, if_neg (by rw [hge]; exact Bool.false_ne_true), List.filter_nil, List.map_nil, List.append_nil]
                · rintro acc2 H' ⟨rfl, ea2⟩
                  refine ⟨trivial, fun kn hkn => ?_⟩
                  rw [ml, List.take_length] at ea2
                  subst ea2
                  repeat' walk_at "ev"
                  refine CV.lenL (AH.upd_self _ _ _) ?_ ?_
                  · rw [List.length_map]; have := List.length_filter_le (fun o => decide (o < mks[i])) mks; omega
                  refine ⟨rfl, m12.trans' (Mod.new _ hkn), ?_⟩
                  have el : ns'[i]? = some (((mks.filter fun o => decide (o < mks[i])).length : Nat) : Int) := by
                    rw [← fless, List.getElem?_map, List.getElem?_eq_getElem hi]; rfl
                  rw [ea, List.take_add_one, el, List.map_append, List.length_map]; rfl
              · rintro acc H12 ⟨m12, ea⟩
                refine ⟨trivial, fun kn hkn => ?_⟩
                have e2 : (S mks).cps.size = ns'.length := by rw [ml, ← fless, List.length_map]
                rw [e2, List.take_length] at ea
                subst ea
                have m13 : Mod [] H12 (H12.upd kn (.list (ns'.map .int))) := Mod.new _ hkn
                have gkn : (H12.upd kn (.list (ns'.map .int))) kn = some (.list (ns'.map .int)) := AH.upd_self _ _ _
                generalize eH : H12.upd kn (.list (ns'.map .int)) = H13 at *
                as_aux_lemma =>
                  replace t1 := m13.get (m12.get t1)
                  replace q1 := m13.get (m12.get q1)
                  replace q2 := m13.get (m12.get q2)
                  replace q3 := m13.get (m12.get q3)
                  replace l10 := (l10.mod m12).mod m13
                  clear eH
                  repeat' walk_at "ev"
                  refine P2.neL (d := 0) (fun _ => true) (by decide) gkn q1 rfl (aveq_ints ns') ?_
                  repeat' walk_at "ev"
                  refine ⟨(fun e => by simp at e), fun _ => ?_⟩
                  repeat' walk_at "ev"
                  refine CV.of (law_line_ok R (by omega) w7 (by omega) l10 q3 z12 fun fm H14 hfm m14 l14 gf => ?_) (by omega)
                  rw [fline] at gf ⊢
                  dsimp only at gf ⊢
                  repeat' walk_at "ev"
                  refine EV.tup ?_
                  repeat' walk_at "ev"
                  rw [show Str.ofString "\"#\\chnz" = S kindNat by decide +kernel]
                  refine ev_slice ?_
                  repeat' walk_at "ev"
                  refine ⟨_, rfl, EP.none (EP.some ?_)⟩
                  repeat' walk_at "ev"
                  refine ⟨_, rfl, by rw [S_len]; decide, ?_⟩
                  have e7 : subS (S kindNat) (loIx none (S kindNat).length) (hiIx (some (width : Int)) (S kindNat).length) = S (kindNat.take width) := by
                    rw [S_len]
                    have h2 : hiIx (some (width : Int)) kindNat.length = min width kindNat.length := clip_nat _ _
                    have h1 : loIx (none : Option Int) kindNat.length = min 0 kindNat.length := (Nat.zero_min _).symm
                    rw [h1, h2, slice_S, Nat.sub_zero, List.drop_zero]
                  rw [e7]
                  have kwl : (kindNat.take width).length ≤ 7 := by rw [List.length_take]; exact Nat.min_le_right _ _
                  generalize kindNat.take width = kw at *
                  as_aux_lemma =>
                    repeat' walk_at "ev"
                    refine cv_listSM ?_ (fun lm H15 hlm m15 gl => ?_)
                    · show kw.toArray.size ≤ _; rw [List.size_toArray]; omega
                    replace gl : H15 lm = some (.list (kw.map chA)) := by
                      rw [gl]
                      congr 2
                      apply List.ext_getElem
                      · simp
                      · intro i h1 h2
                        rw [List.length_map] at h2
                        simp [chA, List.getElem?_eq_getElem h2]
                    replace m15 : Mod [] H14 H15 := m15
                    replace hlm : H14 lm = none := hlm
                    have l15 := l14.mod m15
                    have gf2 := m15.get gf
                    have dn : fm ≠ lm := AH.ne gf hlm
                    repeat' walk_at "ev"
                    refine ⟨Nat.le_of_ble_eq_true rfl, ?_⟩
                    refine P2.neT (d := 1) (fun _ => true) (by decide) (fun j hj _ => ?_) ?_
                    · match j, hj with
                      | 0, _ => have := AVEq.str (H := H15) (d := 1) (S mks) (S mks); rwa [beq_self_eq_true] at this
                      | 1, _ => have := AVEq.list (H := H15) (d := 0) (fun _ => true) dn gf2 gl rfl (aveq_chs kw); rwa [show ((List.range (kw.map chA).length).all fun _ => true) = true from List.all_eq_true.mpr (fun _ _ => rfl)] at this
                    repeat' walk_at "ev"
                    refine ⟨(fun e => by cases e), fun _ => ?_⟩
                    repeat' walk_at "ev"
                    refine ev_and2 ?_
                    repeat' walk_at "ev"
                    refine ev_tokL R (by omega) ?_
                    repeat' walk_at "ev"
                    refine ⟨ln, I, _, r2, _, _, rfl, l15, x3', fun H16 m16 l16 => ?_⟩
                    repeat' walk_at "ev"
                    rw [emp_eq]
                    refine ⟨_, rfl, fun _ => ?_, (fun e => by cases e)⟩
                    repeat' walk_at "ev"
                    refine ev_attr ?_
                    repeat' walk_at "ev"
                    obtain ⟨C, c1, c2, c3, c4, c5, c6, c7, b1', b2', b3', b4', b5'⟩ := R.lex.ex
                    refine ⟨ln, 5, I.d, C, _, _, rfl, ⟨l16.i1, l16.i2, c1⟩, b1', look_lineno, trivial, ?_⟩
                    repeat' walk_at "ev"
                    refine EV.meth PySem.F.plainAttrs_str PySem.F.slot_str_count PySem.F.type_str_count ?_
                    repeat' walk_at "ev"
                    refine ⟨Is.str _, ?_⟩
                    repeat' walk_at "ev"
                    rw [show Str.ofString "\n" = S [10] by decide +kernel]
                    refine CV.count ?_
                    rw [fnl]
                    repeat' walk_at "ev"
                    have ee : (1 + nls page - nls r1 + nls r1 - nls r2 + nls r2 - nls []) = 1 + nls page := by
                      show _ - 0 = _
                      omega
                    rw [ee, beq_self_eq_true]
                    exact h _ (m16 _ _ (m15.get (m14 _ _ t1 (by simp [o3]))) (by simp [o1, o2]))
end WaW20
end Mine
end Pa39
section Pa40
set_option compiler.extract_closed false
open PySem PySem.W PySem.Calls PyProof.Rows
set_option maxRecDepth 100000
set_option linter.unusedVariables false
namespace Mine
noncomputable def eqL : List Nat → List Nat → Bool
  | [], [] => true
  | a :: l, b :: m => Nat.beq a b && eqL l m
  | _, _ => false
noncomputable def absG (size step width : Nat) : Nat → Nat → List Nat → List Nat → List Nat × List Nat
  | 0, _, mk, gs => (mk, gs)
  | f + 1, p, mk, gs => if Nat.blt p width then absG size step width f ((p + step) % size) (kindNat.getD p 0 :: mk) (1 :: gs)
    else absG size step width f ((p + step) % size) mk (match gs with | [] => [] | g :: r => (g + 1) :: r)
noncomputable def natsOf : List Int → List Nat
  | [] => []
  | .ofNat a :: l => a :: natsOf l
  | .negSucc _ :: l => 1000 :: natsOf l
noncomputable def check02 (size step width : Nat) : Bool :=
  let r := ruleOf size step width
  let m := marksOf r.2.1
  Nat.beq (totalOf size step width) size && (natsOf r.2.1).all (fun x => Nat.blt x 7) && (natsOf r.2.2.1).all (fun x => Nat.blt x 1000) && eqL (m.map (fun a => ((m.filter fun o => Nat.blt o a).length))) (natsOf r.2.1)
    && (let q := lineL width r.2.2.2; eqL q.1 m && eqL q.2 (kindNat.take width)) && (let q := absG size step width size 0 [] []; eqL q.1.reverse m && eqL q.2.reverse (natsOf r.2.2.1))
noncomputable def checkAll (size : Nat) : Bool := (List.range size).all fun step => Nat.beq step 0 || !(Nat.beq (Nat.gcd size step) 1) || (List.range 8).all fun width => Nat.blt width 2 || check02 size step width
theorem ck8 : checkAll 8 = true := by decide +kernel
theorem ck9 : checkAll 9 = true := by decide +kernel
theorem ck10 : checkAll 10 = true := by decide +kernel
theorem ck11 : checkAll 11 = true := by decide +kernel
theorem ck12 : checkAll 12 = true := by decide +kernel
theorem ck13 : checkAll 13 = true := by decide +kernel
theorem ck14 : checkAll 14 = true := by decide +kernel
theorem ck15 : checkAll 15 = true := by decide +kernel
theorem ck16 : checkAll 16 = true := by decide +kernel
theorem ck17 : checkAll 17 = true := by decide +kernel
theorem ck18 : checkAll 18 = true := by decide +kernel
theorem ck19 : checkAll 19 = true := by decide +kernel
theorem ck20 : checkAll 20 = true := by decide +kernel
theorem ck21 : checkAll 21 = true := by decide +kernel
theorem ck22 : checkAll 22 = true := by decide +kernel
theorem ck23 : checkAll 23 = true := by decide +kernel
theorem ck24 : checkAll 24 = true := by decide +kernel
theorem ck25 : checkAll 25 = true := by decide +kernel
theorem ck26 : checkAll 26 = true := by decide +kernel
theorem ck27 : checkAll 27 = true := by decide +kernel
theorem ck28 : checkAll 28 = true := by decide +kernel
theorem ck29 : checkAll 29 = true := by decide +kernel
theorem ck30 : checkAll 30 = true := by decide +kernel
theorem ck31 : checkAll 31 = true := by decide +kernel
theorem ck32 : checkAll 32 = true := by decide +kernel
theorem ck33 : checkAll 33 = true := by decide +kernel
theorem ck34 : checkAll 34 = true := by decide +kernel
theorem ck35 : checkAll 35 = true := by decide +kernel
theorem ck36 : checkAll 36 = true := by decide +kernel
theorem ck37 : checkAll 37 = true := by decide +kernel
theorem ck38 : checkAll 38 = true := by decide +kernel
theorem ck39 : checkAll 39 = true := by decide +kernel
theorem ck40 : checkAll 40 = true := by decide +kernel
theorem dn {P : Nat → Prop} {a b : Nat} (ha : P a) (h : ∀ k, a + 1 ≤ k → k ≤ b → P k) : ∀ k, a ≤ k → k ≤ b → P k := fun k h1 h2 => (Nat.eq_or_lt_of_le h1).elim (fun e => e ▸ ha) (fun e => h k e h2)
theorem checks02 : ∀ k, 8 ≤ k → k ≤ 40 → checkAll k = true :=
  dn (P := fun k => checkAll k = true) ck8 <| dn (P := fun k => checkAll k = true) ck9 <| dn (P := fun k => checkAll k = true) ck10 <| dn (P := fun k => checkAll k = true) ck11 <| dn (P := fun k => checkAll k = true) ck12 <| dn (P := fun k => checkAll k = true) ck13 <| dn (P := fun k => checkAll k = true) ck14 <| dn (P := fun k => checkAll k = true) ck15 <| dn (P := fun k => checkAll k = true) ck16 <| dn (P := fun k => checkAll k = true) ck17 <| dn (P := fun k => checkAll k = true) ck18 <| dn (P := fun k => checkAll k = true) ck19 <| dn (P := fun k => checkAll k = true) ck20 <| dn (P := fun k => checkAll k = true) ck21 <| dn (P := fun k => checkAll k = true) ck22 <| dn (P := fun k => checkAll k = true) ck23 <| dn (P := fun k => checkAll k = true) ck24 <| dn (P := fun k => checkAll k = true) ck25 <| dn (P := fun k => checkAll k = true) ck26 <| dn (P := fun k => checkAll k = true) ck27 <| dn (P := fun k => checkAll k = true) ck28 <| dn (P := fun k => checkAll k = true) ck29 <| dn (P := fun k => checkAll k = true) ck30 <| dn (P := fun k => checkAll k = true) ck31 <| dn (P := fun k => checkAll k = true) ck32 <| dn (P := fun k => checkAll k = true) ck33 <| dn (P := fun k => checkAll k = true) ck34 <| dn (P := fun k => checkAll k = true) ck35 <| dn (P := fun k => checkAll k = true) ck36 <| dn (P := fun k => checkAll k = true) ck37 <| dn (P := fun k => checkAll k = true) ck38 <| dn (P := fun k => checkAll k = true) ck39 <| dn (P := fun k => checkAll k = true) ck40 <| fun k h1 h2 => absurd h2 (Nat.not_le.mpr h1)
end Mine
end Pa40
section Pa41
set_option compiler.extract_closed false
open PySem PySem.W PySem.Calls PyProof.Rows
set_option maxRecDepth 100000
set_option linter.unusedVariables false
namespace Mine
open PySem.StrLaws PySem.Builtin.Str
theorem at_one (l : List Nat) (c k : Nat) : At (S l) ⟨#[c]⟩ (S l).length k ↔ l[k]? = some c := by
  exact subAt_one (S l) c k
theorem none_drop {l : List Nat} {c a : Nat} (h : ∀ k, a ≤ k → l[k]? ≠ some c) : c ∉ l.drop a := by
  intro hm
  obtain ⟨j, hj⟩ := List.getElem?_of_mem hm
  rw [List.getElem?_drop] at hj
  exact h _ (by omega) hj
theorem seg_drop {l : List Nat} {c a d : Nat} (had : a ≤ d) (hd : l[d]? = some c) (hn : ∀ k, a ≤ k → k < d → l[k]? ≠ some c) : l.drop a = (l.drop a).take (d - a) ++ c :: l.drop (d + 1) ∧ c ∉ (l.drop a).take (d - a) := by
  obtain ⟨h1, h2⟩ := List.getElem?_eq_some_iff.mp hd
  constructor
  · have e := (List.take_append_drop (d - a) (l.drop a)).symm
    rw [List.drop_drop, show a + (d - a) = d by omega, List.drop_eq_getElem_cons h1, h2] at e
    exact e
  · intro hm
    obtain ⟨j, hj⟩ := List.getElem?_of_mem hm
    have hlt : j < d - a := by
      have := (List.getElem?_eq_some_iff.mp hj).1
      simp at this; omega
    rw [List.getElem?_take_of_lt hlt, List.getElem?_drop] at hj
    exact hn _ (by omega) (by omega) hj
theorem filter_none {l : List Nat} {c : Nat} (h : c ∉ l) : l.filter (· == c) = [] := by
  rw [List.filter_eq_nil_iff]
  intro x hx q
  exact h (beq_iff_eq.mp q ▸ hx)
theorem chain_count (l : List Nat) (c : Nat) : ∀ (cuts : List Nat) (a f : Nat), ChainG (S l) ⟨#[c]⟩ (S l).length a cuts f → (∀ k, f ≤ k → ¬ At (S l) ⟨#[c]⟩ (S l).length k) → cuts.length = ((l.drop a).filter (· == c)).length
  | [], a, f, h, hn => by
    have e : f = a := h
    subst e
    rw [filter_none (none_drop fun k hk q => hn k hk ((at_one l c k).mpr q))]
  | d :: r, a, f, h, hn => by
    obtain ⟨h1, h2, h3, h4⟩ := h
    have ih := chain_count l c r (d + 1) f h4 hn
    obtain ⟨e1, e2⟩ := seg_drop h1 ((at_one l c d).mp h2) (fun k q1 q2 q3 => h3 k q1 q2 ((at_one l c k).mpr q3))
    rw [e1, List.filter_append, filter_none e2, List.filter_cons, if_pos (beq_self_eq_true c), List.nil_append, List.length_cons, List.length_cons, ih]
theorem count_one (l : List Nat) (c : Nat) : Txt.count (S l) (S [c]) = ((l.filter (· == c)).length : Nat) := by
  obtain ⟨f, h1, h2⟩ := occ_tight (S l) ⟨#[c]⟩ (Nat.le_refl 1)
  have := chain_count l c _ 0 f h1 h2
  show (((occurrences (S l) ⟨#[c]⟩ 0 (S l).length ((S l).length + 1)).length : Nat) : Int) = _
  rw [this, List.drop_zero]
theorem quoL_none {l : List Nat} (h : 34 ∉ l) : quoL l = l := by
  induction l with
  | nil => rfl
  | cons c l ih =>
    unfold quoL
    rw [if_neg (fun q : c = 34 => h (q ▸ List.mem_cons_self)), ih (fun q => h (List.mem_cons_of_mem _ q))]
theorem quoL_app {a b : List Nat} (h : 34 ∉ a) : quoL (a ++ b) = a ++ quoL b := by
  induction a with
  | nil => rfl
  | cons c l ih =>
    have e : quoL (c :: (l ++ b)) = (if c = 34 then 34 :: 34 :: quoL (l ++ b) else c :: quoL (l ++ b)) := rfl
    rw [List.cons_append, e, if_neg (fun q : c = 34 => h (q ▸ List.mem_cons_self)), ih (fun q => h (List.mem_cons_of_mem _ q))]; rfl
theorem sub_S (l : List Nat) (a b : Nat) : strSub (S l) a b = S ((l.drop a).take (b - a)) := by
  apply Str.ext'
  apply Array.toList_inj.mp
  rw [strSub_toList]
theorem chain_rep (l : List Nat) : ∀ (cuts : List Nat) (a f : Nat), ChainG (S l) ⟨#[34]⟩ (S l).length a cuts f → (∀ k, f ≤ k → ¬ At (S l) ⟨#[34]⟩ (S l).length k) → Str.join (S [34, 34]) (partsFrom (S l) 1 a cuts) = S (quoL (l.drop a))
  | [], a, f, h, hn => by
    have e : f = a := h
    subst e
    rw [quoL_none (none_drop fun k hk q => hn k hk ((at_one l 34 k).mpr q))]
    show strSub (S l) f (S l).length = _
    rw [sub_S, S_len, List.take_of_length_le (by rw [List.length_drop]; exact Nat.le_refl _)]
  | d :: r, a, f, h, hn => by
    obtain ⟨h1, h2, h3, h4⟩ := h
    have ih := chain_rep l r (d + 1) f h4 hn
    obtain ⟨e1, e2⟩ := seg_drop h1 ((at_one l 34 d).mp h2) (fun k q1 q2 q3 => h3 k q1 q2 ((at_one l 34 k).mpr q3))
    have hj : ∀ (p : Str) (rest : List Str), rest ≠ [] → Str.join (S [34, 34]) (p :: rest) = p ++ S [34, 34] ++ Str.join (S [34, 34]) rest := fun p rest hr => by
      cases rest with
      | nil => exact absurd rfl hr
      | cons x y => rfl
    show Str.join (S [34, 34]) (strSub (S l) a d :: partsFrom (S l) 1 (d + 1) r) = _
    rw [hj _ _ (by cases r <;> exact List.cons_ne_nil _ _), ih, sub_S, S_app, S_app, e1, quoL_app e2]
    congr 1
    have e3 : ((l.drop a).take (d - a) ++ 34 :: l.drop (d + 1)).take (d - a) = (l.drop a).take (d - a) := by rw [← e1]
    rw [e3, List.append_assoc]
    rfl
theorem rep_quo (l : List Nat) : Txt.replace (S l) (S [34]) (S [34, 34]) = S (quoL l) := by
  obtain ⟨f, h1, h2⟩ := occ_tight (S l) ⟨#[34]⟩ (Nat.le_refl 1)
  have key := chain_rep l _ 0 f h1 h2
  rw [List.drop_zero] at key
  unfold Txt.replace
  split
  · rename_i hc
    have he : occurrences (S l) ⟨#[34]⟩ 0 (S l).length ((S l).length + 1) = [] := by
      rw [Bool.or_eq_true] at hc
      rcases hc with h | h
      · exact List.isEmpty_iff.mp h
      · rw [S_len] at h; simp at h
    rw [he] at key
    rw [← key]
    show _ = strSub (S l) 0 (S l).length
    rw [sub_S, S_len, List.drop_zero, Nat.sub_zero, List.take_length]
  · rw [glued_eq_join, partsBetween_eq]
    exact key
theorem unq_quo (l : List Nat) : unq (quoL l ++ [34]) = l := by
  induction l with
  | nil => rfl
  | cons c l ih =>
    unfold quoL
    by_cases h : c = 34
    · rw [if_pos h]
      show unq (34 :: 34 :: (quoL l ++ [34])) = _
      unfold unq
      rw [if_pos rfl]
      simp only [if_true]
      rw [ih, h]
    · rw [if_neg h]
      show unq (c :: (quoL l ++ [34])) = _
      unfold unq
      rw [if_neg h, ih]
end Mine
end Pa41
section Pa42
set_option compiler.extract_closed false
open PySem PySem.W PySem.Calls PyProof.Rows
set_option maxRecDepth 100000
set_option linter.unusedVariables false
namespace Mine
theorem lexQ_q (acc r : List Nat) : lexQ acc (34 :: r) = some (acc, r) := by rw [lexQ.eq_def]; simp
theorem lexQ_b (acc r : List Nat) (c : Nat) : lexQ acc (92 :: c :: r) = lexQ (acc ++ [c]) r := by rw [lexQ.eq_def]; simp
theorem lexQ_o (acc r : List Nat) {c : Nat} (h1 : c ≠ 34) (h2 : c ≠ 92) : lexQ acc (c :: r) = lexQ (acc ++ [c]) r := by rw [lexQ.eq_def]; simp [h1, h2]
theorem lexW_w (acc r : List Nat) {c : Nat} (h : isWs c = true) : lexW acc (c :: r) = some (acc, r) := by rw [lexW.eq_def]; simp [h]
theorem lexW_b (acc r : List Nat) (c : Nat) : lexW acc (92 :: c :: r) = lexW (acc ++ [c]) r := by rw [lexW.eq_def]; simp [show isWs 92 = false by decide]
theorem lexW_o (acc r : List Nat) {c : Nat} (h1 : isWs c = false) (h2 : c ≠ 92) : lexW acc (c :: r) = lexW (acc ++ [c]) r := by rw [lexW.eq_def]; simp [h1, h2]
theorem lex0_w (r : List Nat) {c : Nat} (h : isWs c = true) : lex0 (c :: r) = lex0 r := by rw [lex0.eq_def]; simp [h]
theorem lex0_q (r : List Nat) : lex0 (34 :: r) = lexQ [] r := by rw [lex0.eq_def]; simp [show isWs 34 = false by decide]
theorem lex0_b (r : List Nat) (c : Nat) : lex0 (92 :: c :: r) = lexW [c] r := by rw [lex0.eq_def]; simp [show isWs 92 = false by decide]
theorem lex0_o (r : List Nat) {c : Nat} (h1 : isWs c = false) (h2 : c ≠ 34) (h3 : c ≠ 92) : lex0 (c :: r) = lexW [c] r := by rw [lex0.eq_def]; simp [h1, h2, h3]
theorem lexQ_esc (rest : List Nat) : ∀ (t acc : List Nat), lexQ acc (escL false t ++ 34 :: rest) = some (acc ++ t, rest)
  | [], acc => by
    show lexQ acc (34 :: rest) = _
    rw [lexQ_q, List.append_nil]
  | c :: t, acc => by
    have ih := lexQ_esc rest t (acc ++ [c])
    have e : escL false (c :: t) ++ 34 :: rest = escOf false c ++ c :: (escL false t ++ 34 :: rest) := by
      show (escOf false c ++ c :: escL false t) ++ _ = _
      rw [List.append_assoc]; rfl
    rw [e]
    by_cases h : c = 34 ∨ c = 92
    · have e2 : escOf false c = [92] := if_pos (by rcases h with h | h <;> simp [h])
      rw [e2, List.singleton_append, lexQ_b, ih, List.append_assoc]; rfl
    · have e2 : escOf false c = [] := if_neg (by simp; omega)
      rw [e2, List.nil_append, lexQ_o _ _ (fun q => h (.inl q)) (fun q => h (.inr q)), ih, List.append_assoc]; rfl
noncomputable def okW (c : Nat) : Prop := c ≠ 10 ∧ c ≠ 9 ∧ c ≠ 13
theorem isWs_iff (c : Nat) : isWs c = true ↔ c = 10 ∨ c = 9 ∨ c = 13 ∨ c = 32 := by
  unfold isWs
  rw [decide_eq_true_eq]; simp
theorem nws {c : Nat} (h0 : okW c) (h : ¬ (c = 34 ∨ c = 92 ∨ c = 32)) : isWs c = false := by
  cases e : isWs c with
  | false => rfl
  | true => have := (isWs_iff c).mp e; unfold okW at h0; omega
theorem escT_yes {c : Nat} (h : c = 34 ∨ c = 92 ∨ c = 32) : escOf true c = [92] := if_pos (by rcases h with h | h | h <;> simp [h])
theorem escT_no {c : Nat} (h : ¬ (c = 34 ∨ c = 92 ∨ c = 32)) : escOf true c = [] := if_neg (by simpa using h)
theorem lexW_esc {w : Nat} (hw : isWs w = true) (rest : List Nat) : ∀ (t acc : List Nat), (∀ c ∈ t, okW c) → lexW acc (escL true t ++ w :: rest) = some (acc ++ t, rest)
  | [], acc, _ => by
    show lexW acc (w :: rest) = _
    rw [lexW_w _ _ hw, List.append_nil]
  | c :: t, acc, hk => by
    have ih := lexW_esc hw rest t (acc ++ [c]) fun x hx => hk x (List.mem_cons_of_mem _ hx)
    have e : escL true (c :: t) ++ w :: rest = escOf true c ++ c :: (escL true t ++ w :: rest) := by
      show (escOf true c ++ c :: escL true t) ++ _ = _
      rw [List.append_assoc]; rfl
    have h0 := hk c List.mem_cons_self
    rw [e]
    by_cases h : c = 34 ∨ c = 92 ∨ c = 32
    · rw [escT_yes h, List.singleton_append, lexW_b, ih, List.append_assoc]; rfl
    · rw [escT_no h, List.nil_append, lexW_o _ _ (nws h0 h) (fun q => h (.inr (.inl q))), ih, List.append_assoc]; rfl
theorem lex0_ws {ws x : List Nat} (h : ∀ c ∈ ws, isWs c = true) : lex0 (ws ++ x) = lex0 x := by
  induction ws with
  | nil => rfl
  | cons c l ih =>
    rw [List.cons_append, lex0_w _ (h c List.mem_cons_self)]
    exact ih fun y hy => h y (List.mem_cons_of_mem _ hy)
theorem word_lex {t : List Nat} (way : Nat) (rest : List Nat) (h0 : t ≠ []) (hk : ∀ c ∈ t, okW c) : ∃ ws, (∀ c ∈ ws, isWs c = true) ∧ lex0 (wordL t way ++ rest) = some (t, ws ++ rest) := by
  have hw : isWs ([10, 9, 13, 32].getD (way / 2 % 4) 0) = true := by
    have h4 : way / 2 % 4 < 4 := Nat.mod_lt _ (by decide)
    have : ∀ k < 4, isWs ([10, 9, 13, 32].getD k 0) = true := by decide
    exact this _ h4
  unfold wordL
  generalize [10, 9, 13, 32].getD (way / 2 % 4) 0 = w at *
  as_aux_lemma =>
    by_cases hp : way % 2 = 0
    · rw [if_pos hp]
      refine ⟨[w, 10], fun c hc => ?_, ?_⟩
      · rcases List.mem_cons.mp hc with rfl | hc
        · exact hw
        · rw [List.mem_singleton.mp hc]; rfl
      · have e : 34 :: (escL false t ++ [34]) ++ [w, 10] ++ rest = 34 :: (escL false t ++ 34 :: ([w, 10] ++ rest)) := by simp
        rw [e, lex0_q, lexQ_esc]; rfl
    · rw [if_neg hp]
      refine ⟨[10], fun c hc => by rw [List.mem_singleton.mp hc]; rfl, ?_⟩
      cases t with
      | nil => exact absurd rfl h0
      | cons c t =>
        have h1 := hk c List.mem_cons_self
        have e : escL true (c :: t) ++ [w, 10] ++ rest = escOf true c ++ c :: (escL true t ++ w :: ([10] ++ rest)) := by
          show (escOf true c ++ c :: escL true t) ++ _ ++ _ = _
          simp
        have key := lexW_esc hw ([10] ++ rest) t [c] fun x hx => hk x (List.mem_cons_of_mem _ hx)
        rw [e]
        by_cases h : c = 34 ∨ c = 92 ∨ c = 32
        · rw [escT_yes h, List.singleton_append, lex0_b]
          exact key
        · rw [escT_no h, List.nil_append, lex0_o _ (nws h1 h) (fun q => h (.inl q)) (fun q => h (.inr (.inl q)))]
          exact key
theorem page_lex {t1 t2 : List Nat} (w1 w2 : Nat) (h1 : t1 ≠ []) (h2 : t2 ≠ []) (k1 : ∀ c ∈ t1, okW c) (k2 : ∀ c ∈ t2, okW c) : ∃ r1 r2, lex0 (wordL t1 w1 ++ wordL t2 w2) = some (t1, r1) ∧ lex0 r1 = some (t2, r2) ∧ lex0 r2 = some ([], []) := by
  obtain ⟨ws1, a1, a2⟩ := word_lex w1 (wordL t2 w2) h1 k1
  obtain ⟨ws2, b1, b2⟩ := word_lex w2 [] h2 k2
  rw [List.append_nil] at b2
  refine ⟨_, _, a2, by rw [lex0_ws a1]; exact b2, ?_⟩
  rw [lex0_ws b1]; rfl
theorem quoL_mem {l : List Nat} {c : Nat} (h : c ∈ quoL l) : c ∈ l := by
  induction l with
  | nil => exact h
  | cons d l ih =>
    unfold quoL at h
    split at h
    · rename_i hd
      rcases List.mem_cons.mp h with rfl | h
      · rw [← hd]; exact List.mem_cons_self
      · rcases List.mem_cons.mp h with rfl | h
        · rw [← hd]; exact List.mem_cons_self
        · exact List.mem_cons_of_mem _ (ih h)
    · rcases List.mem_cons.mp h with rfl | h
      · exact List.mem_cons_self
      · exact List.mem_cons_of_mem _ (ih h)
noncomputable def signOk (c : Nat) : Bool := smallB c && !(c == 10) && !(c == 9) && !(c == 13)
theorem kinds_ok : ∀ k < 7, ∀ c ∈ kindsL.getD k [], signOk c = true ∧ inB1 c = false ∧ foldOf c = [kindNat.getD k 0] := by decide +kernel
theorem unseen_ok : ∀ c ∈ unseenL, signOk c = true ∧ inB1 c = true := by decide +kernel
theorem resp_ok : ∀ k < 41, ∀ m ∈ [124, 92, 34, 32], ∀ c ∈ resp229 m k, c ≠ 10 ∧ c ≠ 9 ∧ c ≠ 13 := by decide +kernel
end Mine
end Pa42
section Pa43
set_option compiler.extract_closed false
open PySem PySem.W PySem.Calls PyProof.Rows
set_option maxRecDepth 100000
set_option linter.unusedVariables false
namespace Mine
theorem getD_mem {l : List Nat} {j : Nat} (h : j < l.length) : l.getD j 0 ∈ l := by
  rw [List.getD_eq_getElem?_getD, List.getElem?_eq_getElem h]; exact List.getElem_mem _
theorem kinds_len : ∀ k < 7, 0 < (kindsL.getD k []).length := by decide
theorem sign_in {seed width k place : Nat} (hw : width ≤ 7) (h : place < width) : signAt seed width k place ∈ kindsL.getD place [] := by
  unfold signAt; rw [if_pos h]
  exact getD_mem (Nat.mod_lt _ (kinds_len place (by omega)))
theorem sign_out {seed width k place : Nat} (h : ¬ place < width) : signAt seed width k place ∈ unseenL := by
  unfold signAt; rw [if_neg h]
  exact getD_mem (show _ < 27 from Nat.mod_lt _ (by decide))
theorem sign_ok {seed width k place : Nat} (hw : width ≤ 7) : signOk (signAt seed width k place) = true := by
  by_cases h : place < width
  · exact (kinds_ok place (by omega) _ (sign_in hw h)).1
  · exact (unseen_ok _ (sign_out h)).1
theorem tape_ok {size step width seed n : Nat} (hw : width ≤ 7) : ∀ c ∈ tapeL size step width seed n, signOk c = true := by
  intro c hc
  unfold tapeL at hc
  obtain ⟨k, _, rfl⟩ := List.mem_map.mp hc
  exact sign_ok hw
theorem sign_small {c : Nat} (h : signOk c = true) : smallB c = true ∧ okW c := by
  unfold signOk at h
  simp only [Bool.and_eq_true, Bool.not_eq_true', beq_eq_false_iff_ne] at h
  exact ⟨h.1.1.1, h.1.1.2, h.1.2, h.2⟩
theorem eqL_eq : ∀ {a b : List Nat}, eqL a b = true → a = b
  | [], [], _ => rfl
  | a :: l, b :: m, h => by
    unfold eqL at h
    rw [Bool.and_eq_true] at h
    rw [Nat.eq_of_beq_eq_true h.1, eqL_eq h.2]
theorem nats_eq {n : Nat} (hn : n ≤ 1000) : ∀ {l : List Int}, (natsOf l).all (fun x => Nat.blt x n) = true → l = (natsOf l).map Int.ofNat
  | [], _ => rfl
  | .ofNat a :: l, h => by
    unfold natsOf at h ⊢
    rw [List.all_cons, Bool.and_eq_true] at h
    rw [List.map_cons, ← nats_eq hn h.2]
  | .negSucc a :: l, h => by
    unfold natsOf at h
    rw [List.all_cons, Bool.and_eq_true] at h
    have := Nat.blt_eq.mp h.1
    omega
theorem seen_run {size step width seed : Nat} (hs : 1 ≤ size) (hw1 : 1 ≤ width) (hw : width ≤ 7) : ∀ (f k p : Nat) (mk gs : List Nat), p = k * step % size → seenL (tapeL size step width seed k) = (mk.reverse, gs.reverse.map Int.ofNat) → (1 ≤ k → gs ≠ []) →
    seenL (tapeL size step width seed (k + f)) = ((absG size step width f p mk gs).1.reverse, (absG size step width f p mk gs).2.reverse.map Int.ofNat)
  | 0, k, p, mk, gs, hp, h, hne => h
  | f + 1, k, p, mk, gs, hp, h, hne => by
    have hsucc : tapeL size step width seed (k + 1) = tapeL size step width seed k ++ [signAt seed width k (k * step % size)] := by
      unfold tapeL; rw [List.range_succ, List.map_append]; rfl
    have hstep : seenL (tapeL size step width seed (k + 1)) = seenF (mk.reverse, gs.reverse.map Int.ofNat) (signAt seed width k p) := by
      rw [hsucc, ← hp]
      unfold seenL
      rw [List.foldl_append]
      have : (tapeL size step width seed k).foldl seenF ([], []) = _ := h
      rw [this]; rfl
    have hp' : (p + step) % size = (k + 1) * step % size := by rw [hp, Nat.mod_add_mod, Nat.succ_mul]
    rw [show k + (f + 1) = (k + 1) + f by omega]
    unfold absG
    by_cases hlt : p < width
    · rw [if_pos (Nat.blt_eq.mpr hlt)]
      refine seen_run hs hw1 hw f (k + 1) _ _ _ hp' ?_ (fun _ => List.cons_ne_nil _ _)
      obtain ⟨_, b1, b2⟩ := kinds_ok p (by omega) _ (sign_in (seed := seed) (k := k) hw hlt)
      rw [hstep]
      unfold seenF
      rw [if_neg (by rw [b1]; exact fun q => Bool.false_ne_true q.2), b2, List.reverse_cons, List.reverse_cons, List.map_append]; rfl
    · rw [if_neg (fun q => hlt (Nat.blt_eq.mp q))]
      have hk : 1 ≤ k := by
        rcases Nat.eq_zero_or_pos k with rfl | h1
        · rw [Nat.zero_mul, Nat.zero_mod] at hp; omega
        · exact h1
      have hg := hne hk
      cases gs with
      | nil => exact absurd rfl hg
      | cons g gr =>
        refine seen_run hs hw1 hw f (k + 1) _ _ _ hp' ?_ (fun _ => List.cons_ne_nil _ _)
        obtain ⟨_, b1⟩ := unseen_ok _ (sign_out (seed := seed) (k := k) hlt)
        rw [hstep]
        unfold seenF
        have e : (g :: gr).reverse.map Int.ofNat = gr.reverse.map Int.ofNat ++ [(g : Int)] := by rw [List.reverse_cons, List.map_append]; rfl
        rw [if_pos ⟨by rw [e]; simp, b1⟩]
        simp only [e, List.length_append, List.length_singleton, Nat.add_sub_cancel]
        rw [List.set_append_right _ _ (Nat.le_refl _), Nat.sub_self, List.reverse_cons, List.map_append, List.getLastD_eq_getLast?, List.getLast?_append]
        rfl
theorem facts02 (size step width seed : Nat) (h8 : 8 ≤ size) (h40 : size ≤ 40) (hs1 : 1 ≤ step) (hs2 : step < size) (hco : ∀ p, 2 ≤ p → p < size → ¬ (size % p = 0 ∧ step % p = 0)) (hw2 : 2 ≤ width) (hw7 : width ≤ 7) (hse : seed < 10 ^ 12) : Facts size step width seed := by
  have hg : Nat.gcd size step = 1 := by
    rcases Nat.lt_or_ge (Nat.gcd size step) 2 with h | h
    · have := Nat.gcd_pos_of_pos_left step (show 0 < size by omega); omega
    · have h1 := Nat.le_of_dvd (by omega) (Nat.gcd_dvd_right size step)
      exact absurd ⟨Nat.mod_eq_zero_of_dvd (Nat.gcd_dvd_left size step), Nat.mod_eq_zero_of_dvd (Nat.gcd_dvd_right size step)⟩ (hco _ h (by omega))
  have hc : check02 size step width = true := by
    have h1 := checks02 size h8 h40
    unfold checkAll at h1
    have h2 := List.all_eq_true.mp h1 step (List.mem_range.mpr hs2)
    have n1 : Nat.beq step 0 = false := by cases step with
      | zero => omega
      | succ n => rfl
    rw [n1, hg] at h2
    have h3 : ((List.range 8).all fun width => Nat.blt width 2 || check02 size step width) = true := h2
    have h4 := List.all_eq_true.mp h3 width (List.mem_range.mpr (by omega))
    have n2 : Nat.blt width 2 = false := by
      cases e : Nat.blt width 2 with
      | false => rfl
      | true => have := Nat.blt_eq.mp e; omega
    rwa [n2, Bool.false_or] at h4
  unfold check02 at hc
  simp only [Bool.and_eq_true] at hc
  obtain ⟨⟨⟨⟨⟨c1, c2⟩, c3⟩, c4⟩, c5, c6⟩, c7, c8⟩ := hc
  have tk := tape_ok (size := size) (step := step) (seed := seed) (n := size) hw7
  have e1 := nats_eq (by decide) c2
  have e2 := nats_eq (by decide) c3
  refine ⟨fun c hc => (sign_small (tk c hc)).1, rep_quo _, ?_, ?_, unq_quo _, Nat.eq_of_beq_eq_true c1, ?_, ?_, ?_, ?_⟩
  · have mem : markAt seed ∈ [124, 92, 34, 32] := getD_mem (show _ < 4 from Nat.mod_lt _ (by decide))
    unfold pageL
    refine page_lex _ _ (by unfold resp229; simp) (by simp) (resp_ok size (by omega) _ mem) fun c hc => ?_
    rw [List.mem_append, List.mem_append] at hc
    rcases hc with hc | hc | hc
    · have : ∀ c ∈ [50, 53, 55, 32, 34], c ≠ 10 ∧ c ≠ 9 ∧ c ≠ 13 := by decide
      exact this c hc
    · exact (sign_small (tk c (quoL_mem hc))).2
    · rw [List.mem_singleton.mp hc]; exact ⟨by decide, by decide, by decide⟩
  · exact count_one _ _
  · have key := seen_run (seed := seed) (step := step) (size := size) (by omega) (show 1 ≤ width by omega) hw7 size 0 0 [] [] (by rw [Nat.zero_mul, Nat.zero_mod]) rfl (fun h => absurd h (by decide))
    rw [Nat.zero_add] at key
    rw [key, eqL_eq c7, eqL_eq c8, ← e2]
  · intro x hx
    rw [e1] at hx
    obtain ⟨y, hy, rfl⟩ := List.mem_map.mp hx
    have := Nat.blt_eq.mp (List.all_eq_true.mp c2 y hy)
    exact ⟨Int.natCast_nonneg _, by show ((y : Nat) : Int) < 7; omega⟩
  · have e4 := congrArg (List.map Int.ofNat) (eqL_eq c4)
    rw [← e1, List.map_map] at e4
    refine Eq.trans ?_ e4
    apply List.map_congr_left
    intro a _
    show _ = (((marksOf (ruleOf size step width).2.1).filter fun o => Nat.blt o a).length : Int)
    have : (fun o => decide (o < a)) = fun o => Nat.blt o a := by
      funext o
      cases e : Nat.blt o a with
      | true => exact decide_eq_true (Nat.blt_eq.mp e)
      | false => exact decide_eq_false fun q => by rw [Nat.blt_eq.mpr q] at e; cases e
    rw [this]
  · have q1 := eqL_eq c5
    have q2 := eqL_eq c6
    generalize lineL width (ruleOf size step width).2.2.2 = q at *
    as_aux_lemma =>
      obtain ⟨a, b⟩ := q
      dsimp only at q1 q2
      rw [q1, q2]
end Mine
end Pa43
section Pa44
set_option compiler.extract_closed false
open PySem PySem.W PySem.Calls PyProof.Rows
set_option maxRecDepth 1000000
set_option maxHeartbeats 0
set_option linter.unusedVariables false
noncomputable section Nc44
namespace Mine
noncomputable def KA (P : Params) : Frag := (Hd.Kf P).filter fun p => p.1 != 220
noncomputable def tabs : List (Addr × Addr) := [(224, 220)]
theorem lookup_filter {c : Addr} : ∀ {K : Frag} {a : Addr} {o : Obj}, (K.filter fun p => p.1 != c).lookup a = some o → K.lookup a = some o ∧ a ≠ c
  | [], _, _, e => by cases e
  | (b, x) :: r, a, o, e => by
    rw [List.filter_cons] at e
    rw [List.lookup_cons]
    by_cases hb : b = c
    · subst hb
      rw [if_neg (by simp)] at e
      obtain ⟨h1, h2⟩ := lookup_filter e
      have : (a == b) = false := beq_false_of_ne h2
      rw [this]; exact ⟨h1, h2⟩
    · rw [if_pos (by simpa using hb), List.lookup_cons] at e
      cases hab : a == b with
      | true => rw [hab] at e; exact ⟨e, by rw [eq_of_beq hab]; exact hb⟩
      | false => rw [hab] at e; exact lookup_filter e
theorem tabs_at {P : Params} {h : Heap} (X : (Hd.Kf P).In h) : TabsAt tabs h := fun q hq => by
  rw [List.mem_singleton.mp hq]
  refine ⟨⟨_, _, _, _, _, _, _, _, _, X 224 _ rfl, rfl, rfl, rfl, rfl, rfl, rfl, rfl, rfl, by decide⟩, X 220 _ rfl⟩
theorem ka_in {P : Params} {h : Heap} (X : (Hd.Kf P).In h) : (KA P).In (ghostOf h tabs) := fun a o e => by
  obtain ⟨h1, h2⟩ := lookup_filter e
  exact ghost_ne (X a o h1) (by simpa [tabs] using h2)
noncomputable def fvA (la : Addr) : Nat → Value
  | 0 => .ref 21 | 1 => .int 127 197 | 2 => .ref 28 | 3 => .ref 72 | 4 => .ref 79 | 5 => .ref 117 | 6 => .ref 129 | 7 => .ref 139 | 8 => .ref 140 | 9 => .ref 185
  | 10 => .ref 192 | 11 => .ref 197 | 12 => .ref 204 | 13 => .ref 211 | 14 => .ref 218 | 15 => .ref 225 | 16 => .ref 232 | 17 => .ref 239 | 18 => .ref 244 | 20 => .ref 249
  | 30 => .ref 93 | 31 => .ref 100 | 32 => .ref 107 | 33 => .ref 114
  | 40 => .builtin "len" | 41 => .builtin "ord" | 42 => .builtin "chr" | 43 => .builtin "min" | 44 => .builtin "max" | 45 => .builtin "iter" | 50 => .type "range" | 51 => .type "list" | 52 => .type "str" | 53 => .type "int"
  | 60 => .ref la
  | _ => .none
structure Base (w : World) (h : Heap) (mg mb : Str → Option Value) : Prop where
  K : (Hd.Kf w.params).In h
  g : h.Ns mainGlobals mg
  b : h.Ns builtinsNs mb
  lim : h.NoLimit
  builtins : ∀ x : Str, x ≠ "__name__" → mb x = bootBuiltins x
noncomputable def GA (w : World) (h : Heap) (mg mb : Str → Option Value) (B : Base w h mg mb) (la : Addr) : Gx where
  prog := pw
  w := w
  fv := fvA la
  h₀ := ghostOf h tabs
  mg := mg
  mb := mb
  hg := ghost_ns (tabs_at B.K) B.g
  hb := ghost_ns (tabs_at B.K) B.b
  lim := let ⟨mc, a, r⟩ := B.lim; ⟨mc, ghost_ns (tabs_at B.K) a, r⟩
  K := KA w.params
  kin := ka_in B.K
  tabP := 220
  clo := clo0
  hmain := .none
theorem gn0 (P : Params) : nsIn (Hd.Kf P) mainGlobals (Str.ofString "_strcoll") = some (some (.ref 21)) := by kernel_rfl!
theorem gn1 (P : Params) : nsIn (Hd.Kf P) mainGlobals (Str.ofString "CHAR_MAX") = some (some (.int 127 197)) := by kernel_rfl!
theorem gn2 (P : Params) : nsIn (Hd.Kf P) mainGlobals (Str.ofString "_grouping_intervals") = some (some (.ref 28)) := by kernel_rfl!
theorem gn3 (P : Params) : nsIn (Hd.Kf P) mainGlobals (Str.ofString "parse229") = some (some (.ref 72)) := by kernel_rfl!
theorem gn4 (P : Params) : nsIn (Hd.Kf P) mainGlobals (Str.ofString "parse257") = some (some (.ref 79)) := by kernel_rfl!
theorem gn5 (P : Params) : nsIn (Hd.Kf P) mainGlobals (Str.ofString "_netrclex") = some (some (.ref 117)) := by kernel_rfl!
theorem gn6 (P : Params) : nsIn (Hd.Kf P) mainGlobals (Str.ofString "b1_set") = some (some (.ref 129)) := by kernel_rfl!
theorem gn7 (P : Params) : nsIn (Hd.Kf P) mainGlobals (Str.ofString "in_table_b1") = some (some (.ref 139)) := by kernel_rfl!
theorem gn8 (P : Params) : nsIn (Hd.Kf P) mainGlobals (Str.ofString "b3_exceptions") = some (some (.ref 140)) := by kernel_rfl!
theorem gn9 (P : Params) : nsIn (Hd.Kf P) mainGlobals (Str.ofString "map_table_b3") = some (some (.ref 185)) := by kernel_rfl!
theorem gn15 (P : Params) : nsIn (Hd.Kf P) mainGlobals (Str.ofString "_law_lexer") = some (some (.ref 225)) := by kernel_rfl!
theorem gn10 (P : Params) : nsIn (Hd.Kf P) mainGlobals (Str.ofString "_law_heaps") = some (some (.ref 192)) := by kernel_rfl!
theorem gn11 (P : Params) : nsIn (Hd.Kf P) mainGlobals (Str.ofString "_law_step") = some (some (.ref 197)) := by kernel_rfl!
theorem gn12 (P : Params) : nsIn (Hd.Kf P) mainGlobals (Str.ofString "_law_tape") = some (some (.ref 204)) := by kernel_rfl!
theorem gn13 (P : Params) : nsIn (Hd.Kf P) mainGlobals (Str.ofString "_law_word") = some (some (.ref 211)) := by kernel_rfl!
theorem gn14 (P : Params) : nsIn (Hd.Kf P) mainGlobals (Str.ofString "_law_page") = some (some (.ref 218)) := by kernel_rfl!
theorem gn16 (P : Params) : nsIn (Hd.Kf P) mainGlobals (Str.ofString "_law_seen") = some (some (.ref 232)) := by kernel_rfl!
theorem gn17 (P : Params) : nsIn (Hd.Kf P) mainGlobals (Str.ofString "_law_rule") = some (some (.ref 239)) := by kernel_rfl!
theorem gn18 (P : Params) : nsIn (Hd.Kf P) mainGlobals (Str.ofString "_law_line") = some (some (.ref 244)) := by kernel_rfl!
theorem gn40 (P : Params) : nsIn (Hd.Kf P) mainGlobals (Str.ofString "len") = some none := by kernel_rfl!
theorem gb40 : bootBuiltins (Str.ofString "len") = some (.builtin "len") := by kernel_rfl!
theorem gc40 : (Str.ofString "len") ≠ (Str.ofString "__name__") := by decide +kernel
theorem gn41 (P : Params) : nsIn (Hd.Kf P) mainGlobals (Str.ofString "ord") = some none := by kernel_rfl!
theorem gb41 : bootBuiltins (Str.ofString "ord") = some (.builtin "ord") := by kernel_rfl!
theorem gc41 : (Str.ofString "ord") ≠ (Str.ofString "__name__") := by decide +kernel
theorem gn42 (P : Params) : nsIn (Hd.Kf P) mainGlobals (Str.ofString "chr") = some none := by kernel_rfl!
theorem gb42 : bootBuiltins (Str.ofString "chr") = some (.builtin "chr") := by kernel_rfl!
theorem gc42 : (Str.ofString "chr") ≠ (Str.ofString "__name__") := by decide +kernel
theorem gn43 (P : Params) : nsIn (Hd.Kf P) mainGlobals (Str.ofString "min") = some none := by kernel_rfl!
theorem gb43 : bootBuiltins (Str.ofString "min") = some (.builtin "min") := by kernel_rfl!
theorem gc43 : (Str.ofString "min") ≠ (Str.ofString "__name__") := by decide +kernel
theorem gn45 (P : Params) : nsIn (Hd.Kf P) mainGlobals (Str.ofString "iter") = some none := by kernel_rfl!
theorem gb45 : bootBuiltins (Str.ofString "iter") = some (.builtin "iter") := by kernel_rfl!
theorem gc45 : (Str.ofString "iter") ≠ (Str.ofString "__name__") := by decide +kernel
theorem gn50 (P : Params) : nsIn (Hd.Kf P) mainGlobals (Str.ofString "range") = some none := by kernel_rfl!
theorem gb50 : bootBuiltins (Str.ofString "range") = some (.type "range") := by kernel_rfl!
theorem gc50 : (Str.ofString "range") ≠ (Str.ofString "__name__") := by decide +kernel
theorem gn51 (P : Params) : nsIn (Hd.Kf P) mainGlobals (Str.ofString "list") = some none := by kernel_rfl!
theorem gb51 : bootBuiltins (Str.ofString "list") = some (.type "list") := by kernel_rfl!
theorem gc51 : (Str.ofString "list") ≠ (Str.ofString "__name__") := by decide +kernel
theorem gn52 (P : Params) : nsIn (Hd.Kf P) mainGlobals (Str.ofString "str") = some none := by kernel_rfl!
theorem gb52 : bootBuiltins (Str.ofString "str") = some (.type "str") := by kernel_rfl!
theorem gc52 : (Str.ofString "str") ≠ (Str.ofString "__name__") := by decide +kernel
theorem gn53 (P : Params) : nsIn (Hd.Kf P) mainGlobals (Str.ofString "int") = some none := by kernel_rfl!
theorem gb53 : bootBuiltins (Str.ofString "int") = some (.type "int") := by kernel_rfl!
theorem gc53 : (Str.ofString "int") ≠ (Str.ofString "__name__") := by decide +kernel
section
variable {w : World} {h : Heap} {mg mb : Str → Option Value}
theorem mg_val (B : Base w h mg mb) {n : Str} {v : Value} (e : nsIn (Hd.Kf w.params) mainGlobals n = some (some v)) : mg n = some v := mg_of B.K B.g e
theorem mg_no (B : Base w h mg mb) {n : Str} (e : nsIn (Hd.Kf w.params) mainGlobals n = some none) : mg n = none := mg_none_of B.K B.g e
theorem gtA (B : Base w h mg mb) (la : Addr) : GT (GA w h mg mb B la) gtab := by
  intro x k e
  have hm := PySem.mem_of_lookup e
  unfold gtab at hm
  simp only [List.mem_cons, List.not_mem_nil, or_false, Prod.mk.injEq] at hm
  rcases hm with ⟨rfl, rfl⟩ | ⟨rfl, rfl⟩ | ⟨rfl, rfl⟩ | ⟨rfl, rfl⟩ | ⟨rfl, rfl⟩ | ⟨rfl, rfl⟩ | ⟨rfl, rfl⟩ | ⟨rfl, rfl⟩ | ⟨rfl, rfl⟩ | ⟨rfl, rfl⟩ | ⟨rfl, rfl⟩ | ⟨rfl, rfl⟩ | ⟨rfl, rfl⟩ | ⟨rfl, rfl⟩ | ⟨rfl, rfl⟩ | ⟨rfl, rfl⟩ | ⟨rfl, rfl⟩ | ⟨rfl, rfl⟩ | ⟨rfl, rfl⟩ | ⟨rfl, rfl⟩ | ⟨rfl, rfl⟩ | ⟨rfl, rfl⟩ | ⟨rfl, rfl⟩ | ⟨rfl, rfl⟩ | ⟨rfl, rfl⟩ | ⟨rfl, rfl⟩ | ⟨rfl, rfl⟩ | ⟨rfl, rfl⟩
  · exact .inl (mg_val B (gn0 _))
  · exact .inl (mg_val B (gn1 _))
  · exact .inl (mg_val B (gn2 _))
  · exact .inl (mg_val B (gn3 _))
  · exact .inl (mg_val B (gn4 _))
  · exact .inl (mg_val B (gn5 _))
  · exact .inl (mg_val B (gn6 _))
  · exact .inl (mg_val B (gn7 _))
  · exact .inl (mg_val B (gn8 _))
  · exact .inl (mg_val B (gn9 _))
  · exact .inl (mg_val B (gn15 _))
  · exact .inl (mg_val B (gn10 _))
  · exact .inl (mg_val B (gn11 _))
  · exact .inl (mg_val B (gn12 _))
  · exact .inl (mg_val B (gn13 _))
  · exact .inl (mg_val B (gn14 _))
  · exact .inl (mg_val B (gn16 _))
  · exact .inl (mg_val B (gn17 _))
  · exact .inl (mg_val B (gn18 _))
  · exact .inr ⟨mg_no B (gn40 _), (B.builtins _ gc40).trans gb40⟩
  · exact .inr ⟨mg_no B (gn41 _), (B.builtins _ gc41).trans gb41⟩
  · exact .inr ⟨mg_no B (gn42 _), (B.builtins _ gc42).trans gb42⟩
  · exact .inr ⟨mg_no B (gn43 _), (B.builtins _ gc43).trans gb43⟩
  · exact .inr ⟨mg_no B (gn45 _), (B.builtins _ gc45).trans gb45⟩
  · exact .inr ⟨mg_no B (gn50 _), (B.builtins _ gc50).trans gb50⟩
  · exact .inr ⟨mg_no B (gn51 _), (B.builtins _ gc51).trans gb51⟩
  · exact .inr ⟨mg_no B (gn52 _), (B.builtins _ gc52).trans gb52⟩
  · exact .inr ⟨mg_no B (gn53 _), (B.builtins _ gc53).trans gb53⟩
noncomputable def fdAt (o : Obj) : FuncData := match o.data with | .func fd => fd | _ => default
theorem defAt_of {G : Gx} {k : Nat} {a : Addr} {st : Stmt} (o : Obj) (hk : G.fv k = .ref a) (ho : G.K.lookup a = some o) (hd : o.data = .func (fdAt o)) (hc : codeIn G.K (fdAt o).code (fdAt o).qualname = true)
    (h1 : (fdAt o).body = .stmts (bodyOf st)) (h2 : (fdAt o).globals = mainGlobals) (h3 : (fdAt o).builtins = builtinsNs) (h4 : (fdAt o).closure = []) (h5 : (fdAt o).scope = scopeOf st)
    (hb : ∀ cs : List Value, cs.length = (parsOf st).length → bindArgs (fdAt o) ⟨cs, []⟩ = pure ((parsOf st).zip cs)) (hkeep : keepIn G.K (.ref a) = true) : DefAt G k st :=
  ⟨⟨a, o, fdAt o, hk, G.kin _ _ ho, hd, codeRec_of G.kin hc, h1, h2, h3, h4, h5, hb⟩, by rw [hk]; exact Keep.ofK hkeep⟩
theorem len1 {cs : List Value} (h : cs.length = 1) : ∃ a, cs = [a] := by
  cases cs with
  | nil => cases h
  | cons a r => cases r with
    | nil => exact ⟨a, rfl⟩
    | cons => cases h
theorem len2 {cs : List Value} (h : cs.length = 2) : ∃ a b, cs = [a, b] := by
  cases cs with
  | nil => cases h
  | cons a r => obtain ⟨b, rfl⟩ := len1 (Nat.succ.inj h); exact ⟨a, b, rfl⟩
theorem len3 {cs : List Value} (h : cs.length = 3) : ∃ a b c, cs = [a, b, c] := by
  cases cs with
  | nil => cases h
  | cons a r => obtain ⟨b, c, rfl⟩ := len2 (Nat.succ.inj h); exact ⟨a, b, c, rfl⟩
theorem len4 {cs : List Value} (h : cs.length = 4) : ∃ a b c d, cs = [a, b, c, d] := by
  cases cs with
  | nil => cases h
  | cons a r => obtain ⟨b, c, d, rfl⟩ := len3 (Nat.succ.inj h); exact ⟨a, b, c, d, rfl⟩
theorem da_strcoll (B : Base w h mg mb) (la : Addr) : DefAt (GA w h mg mb B la) 0 st_strcoll :=
  defAt_of (a := 21) (Hd.o21_s12 w.params) rfl (by kernel_rfl!) (by kernel_rfl!) (by kernel_rfl!) (by kernel_rfl!) (by kernel_rfl!) (by kernel_rfl!) (by kernel_rfl!) (by kernel_rfl!) (fun cs hc => by
    obtain ⟨a, b, rfl⟩ := len2 hc
    kernel_rfl!) (by kernel_rfl!)
theorem da_parse229 (B : Base w h mg mb) (la : Addr) : DefAt (GA w h mg mb B la) 3 st_parse229 :=
  defAt_of (a := 72) (Hd.o72_s12 w.params) rfl (by kernel_rfl!) (by kernel_rfl!) (by kernel_rfl!) (by kernel_rfl!) (by kernel_rfl!) (by kernel_rfl!) (by kernel_rfl!) (by kernel_rfl!) (fun cs hc => by
    obtain ⟨a, b, rfl⟩ := len2 hc
    kernel_rfl!) (by kernel_rfl!)
theorem da_parse257 (B : Base w h mg mb) (la : Addr) : DefAt (GA w h mg mb B la) 4 st_parse257 :=
  defAt_of (a := 79) (Hd.o79_s12 w.params) rfl (by kernel_rfl!) (by kernel_rfl!) (by kernel_rfl!) (by kernel_rfl!) (by kernel_rfl!) (by kernel_rfl!) (by kernel_rfl!) (by kernel_rfl!) (fun cs hc => by
    obtain ⟨a, rfl⟩ := len1 hc
    kernel_rfl!) (by kernel_rfl!)
theorem da_init (B : Base w h mg mb) (la : Addr) : DefAt (GA w h mg mb B la) 30 st_init :=
  defAt_of (a := 93) (Hd.o93_s12 w.params) rfl (by kernel_rfl!) (by kernel_rfl!) (by kernel_rfl!) (by kernel_rfl!) (by kernel_rfl!) (by kernel_rfl!) (by kernel_rfl!) (by kernel_rfl!) (fun cs hc => by
    obtain ⟨a, b, rfl⟩ := len2 hc
    kernel_rfl!) (by kernel_rfl!)
theorem da_read_char (B : Base w h mg mb) (la : Addr) : DefAt (GA w h mg mb B la) 31 st_read_char :=
  defAt_of (a := 100) (Hd.o100_s12 w.params) rfl (by kernel_rfl!) (by kernel_rfl!) (by kernel_rfl!) (by kernel_rfl!) (by kernel_rfl!) (by kernel_rfl!) (by kernel_rfl!) (by kernel_rfl!) (fun cs hc => by
    obtain ⟨a, rfl⟩ := len1 hc
    kernel_rfl!) (by kernel_rfl!)
theorem da_get_token (B : Base w h mg mb) (la : Addr) : DefAt (GA w h mg mb B la) 32 st_get_token :=
  defAt_of (a := 107) (Hd.o107_s12 w.params) rfl (by kernel_rfl!) (by kernel_rfl!) (by kernel_rfl!) (by kernel_rfl!) (by kernel_rfl!) (by kernel_rfl!) (by kernel_rfl!) (by kernel_rfl!) (fun cs hc => by
    obtain ⟨a, rfl⟩ := len1 hc
    kernel_rfl!) (by kernel_rfl!)
theorem da_push_token (B : Base w h mg mb) (la : Addr) : DefAt (GA w h mg mb B la) 33 st_push_token :=
  defAt_of (a := 114) (Hd.o114_s12 w.params) rfl (by kernel_rfl!) (by kernel_rfl!) (by kernel_rfl!) (by kernel_rfl!) (by kernel_rfl!) (by kernel_rfl!) (by kernel_rfl!) (by kernel_rfl!) (fun cs hc => by
    obtain ⟨a, b, rfl⟩ := len2 hc
    kernel_rfl!) (by kernel_rfl!)
theorem da_in_table_b1 (B : Base w h mg mb) (la : Addr) : DefAt (GA w h mg mb B la) 7 st_in_table_b1 :=
  defAt_of (a := 139) (Hd.o139_s14 w.params) rfl (by kernel_rfl!) (by kernel_rfl!) (by kernel_rfl!) (by kernel_rfl!) (by kernel_rfl!) (by kernel_rfl!) (by kernel_rfl!) (by kernel_rfl!) (fun cs hc => by
    obtain ⟨a, rfl⟩ := len1 hc
    kernel_rfl!) (by kernel_rfl!)
theorem da_map_table_b3 (B : Base w h mg mb) (la : Addr) : DefAt (GA w h mg mb B la) 9 st_map_table_b3 :=
  defAt_of (a := 185) (Hd.o185_s27 w.params) rfl (by kernel_rfl!) (by kernel_rfl!) (by kernel_rfl!) (by kernel_rfl!) (by kernel_rfl!) (by kernel_rfl!) (by kernel_rfl!) (by kernel_rfl!) (fun cs hc => by
    obtain ⟨a, rfl⟩ := len1 hc
    kernel_rfl!) (by kernel_rfl!)
theorem da_law_heaps (B : Base w h mg mb) (la : Addr) : DefAt (GA w h mg mb B la) 10 st_law_heaps :=
  defAt_of (a := 192) (Hd.o192_s27 w.params) rfl (by kernel_rfl!) (by kernel_rfl!) (by kernel_rfl!) (by kernel_rfl!) (by kernel_rfl!) (by kernel_rfl!) (by kernel_rfl!) (by kernel_rfl!) (fun cs hc => by
    obtain ⟨a, rfl⟩ := len1 hc
    kernel_rfl!) (by kernel_rfl!)
theorem da_law_step (B : Base w h mg mb) (la : Addr) : DefAt (GA w h mg mb B la) 11 st_law_step :=
  defAt_of (a := 197) (Hd.o197_s27 w.params) rfl (by kernel_rfl!) (by kernel_rfl!) (by kernel_rfl!) (by kernel_rfl!) (by kernel_rfl!) (by kernel_rfl!) (by kernel_rfl!) (by kernel_rfl!) (fun cs hc => by
    obtain ⟨a, b, rfl⟩ := len2 hc
    kernel_rfl!) (by kernel_rfl!)
theorem da_law_tape (B : Base w h mg mb) (la : Addr) : DefAt (GA w h mg mb B la) 12 st_law_tape :=
  defAt_of (a := 204) (Hd.o204_s27 w.params) rfl (by kernel_rfl!) (by kernel_rfl!) (by kernel_rfl!) (by kernel_rfl!) (by kernel_rfl!) (by kernel_rfl!) (by kernel_rfl!) (by kernel_rfl!) (fun cs hc => by
    obtain ⟨a, b, c, d, rfl⟩ := len4 hc
    kernel_rfl!) (by kernel_rfl!)
theorem da_law_word (B : Base w h mg mb) (la : Addr) : DefAt (GA w h mg mb B la) 13 st_law_word :=
  defAt_of (a := 211) (Hd.o211_s27 w.params) rfl (by kernel_rfl!) (by kernel_rfl!) (by kernel_rfl!) (by kernel_rfl!) (by kernel_rfl!) (by kernel_rfl!) (by kernel_rfl!) (by kernel_rfl!) (fun cs hc => by
    obtain ⟨a, b, rfl⟩ := len2 hc
    kernel_rfl!) (by kernel_rfl!)
theorem da_law_page (B : Base w h mg mb) (la : Addr) : DefAt (GA w h mg mb B la) 14 st_law_page :=
  defAt_of (a := 218) (Hd.o218_s27 w.params) rfl (by kernel_rfl!) (by kernel_rfl!) (by kernel_rfl!) (by kernel_rfl!) (by kernel_rfl!) (by kernel_rfl!) (by kernel_rfl!) (by kernel_rfl!) (fun cs hc => by
    obtain ⟨a, b, c, rfl⟩ := len3 hc
    kernel_rfl!) (by kernel_rfl!)
theorem da_law_seen (B : Base w h mg mb) (la : Addr) : DefAt (GA w h mg mb B la) 16 st_law_seen :=
  defAt_of (a := 232) (Hd.o232_s27 w.params) rfl (by kernel_rfl!) (by kernel_rfl!) (by kernel_rfl!) (by kernel_rfl!) (by kernel_rfl!) (by kernel_rfl!) (by kernel_rfl!) (by kernel_rfl!) (fun cs hc => by
    obtain ⟨a, rfl⟩ := len1 hc
    kernel_rfl!) (by kernel_rfl!)
theorem da_law_rule (B : Base w h mg mb) (la : Addr) : DefAt (GA w h mg mb B la) 17 st_law_rule :=
  defAt_of (a := 239) (Hd.o239_s27 w.params) rfl (by kernel_rfl!) (by kernel_rfl!) (by kernel_rfl!) (by kernel_rfl!) (by kernel_rfl!) (by kernel_rfl!) (by kernel_rfl!) (by kernel_rfl!) (fun cs hc => by
    obtain ⟨a, b, c, rfl⟩ := len3 hc
    kernel_rfl!) (by kernel_rfl!)
theorem da_law_line (B : Base w h mg mb) (la : Addr) : DefAt (GA w h mg mb B la) 18 st_law_line :=
  defAt_of (a := 244) (Hd.o244_s27 w.params) rfl (by kernel_rfl!) (by kernel_rfl!) (by kernel_rfl!) (by kernel_rfl!) (by kernel_rfl!) (by kernel_rfl!) (by kernel_rfl!) (by kernel_rfl!) (fun cs hc => by
    obtain ⟨a, b, c, rfl⟩ := len3 hc
    kernel_rfl!) (by kernel_rfl!)
theorem da_law (B : Base w h mg mb) (la : Addr) : DefAt (GA w h mg mb B la) 20 st_law :=
  defAt_of (a := 249) (Hd.o249_s27 w.params) rfl (by kernel_rfl!) (by kernel_rfl!) (by kernel_rfl!) (by kernel_rfl!) (by kernel_rfl!) (by kernel_rfl!) (by kernel_rfl!) (by kernel_rfl!) (fun cs hc => by
    obtain ⟨a, rfl⟩ := len1 hc
    kernel_rfl!) (by kernel_rfl!)
end
end Mine
end Nc44
end Pa44
section Pa45
set_option compiler.extract_closed false
open PySem PySem.W PySem.Calls PyProof.Rows
set_option maxRecDepth 1000000
set_option maxHeartbeats 0
set_option linter.unusedVariables false
noncomputable section Nc45
namespace Mine
section
variable {w : World} {h : Heap} {mg mb : Str → Option Value}
theorem lexA (B : Base w h mg mb) (la : Addr) : LexC (GA w h mg mb B la) := by
  refine ⟨117, ⟨rfl, by kernel_rfl!, by kernel_rfl!, by kernel_rfl!, by kernel_rfl!, by kernel_rfl!⟩, by kernel_rfl!, Keep.ofK (by kernel_rfl!), ⟨93, rfl, by kernel_rfl!, by kernel_rfl!⟩, ⟨100, Hd.o100_s12 w.params, fdAt (Hd.o100_s12 w.params), rfl, by kernel_rfl!, by kernel_rfl!, Keep.ofK (by kernel_rfl!), by kernel_rfl!, by kernel_rfl!, ka_in B.K _ _ (by kernel_rfl!), by kernel_rfl!⟩,
    ⟨107, rfl, by kernel_rfl!, by kernel_rfl!, Keep.ofK (by kernel_rfl!)⟩, ⟨114, rfl, by kernel_rfl!, by kernel_rfl!, Keep.ofK (by kernel_rfl!)⟩, by kernel_rfl!, by kernel_rfl!, by kernel_rfl!, by kernel_rfl!, by kernel_rfl!⟩
theorem genA (B : Base w h mg mb) (la : Addr) : GenD (GA w h mg mb B la) 2 st_grouping_intervals := by
  have D : DefAt (GA w h mg mb B la) 2 st_grouping_intervals := defAt_of (a := 28) (Hd.o28_s12 w.params) rfl (by kernel_rfl!) (by kernel_rfl!) (by kernel_rfl!) (by kernel_rfl!) (by kernel_rfl!) (by kernel_rfl!) (by kernel_rfl!) (by kernel_rfl!) (fun cs hc => by
    obtain ⟨a, rfl⟩ := len1 hc
    kernel_rfl!) (by kernel_rfl!)
  exact ⟨D.ex, D.keep⟩
theorem cloA (B : Base w h mg mb) (la : Addr) : LexClo (GA w h mg mb B la) where
  ex := by
    have hC : CodeHd (ghostOf h tabs) 224 220 := (ghost_code (tabs_at B.K)).1
    refine ⟨225, Hd.o225_s27 w.params, fdAt (Hd.o225_s27 w.params), 224, rfl, ka_in B.K _ _ (by kernel_rfl!), by kernel_rfl!, codeRec_of (ka_in B.K) (by kernel_rfl!), by kernel_rfl!, by kernel_rfl!, by kernel_rfl!, by kernel_rfl!, by kernel_rfl!, (fun cs hc => ?_), by kernel_rfl!, by kernel_rfl!, hC⟩
    obtain ⟨a, rfl⟩ := len1 hc
    kernel_rfl!
  keep := Keep.ofK (show keepIn (KA w.params) (.ref 225) = true by kernel_rfl!)
  built := ⟨4, boot_o_4 w.params, mg_val B (by kernel_rfl!), by decide, by decide, (show (4 : Nat) ≠ 220 by decide), ka_in B.K _ _ (by kernel_rfl!), rfl, rfl, rfl⟩
  apart := show (3 : Nat) ≠ 220 by decide
  clo := rfl
noncomputable def b1L : List Int := [65024, 65025, 65026, 65027, 65028, 65029, 6150, 65030, 65031, 65032, 65033, 6155, 6156, 6157, 8203, 8204, 8205, 65034, 65035, 65036, 65037, 65038, 65039, 173, 847, 8288, 65279]
theorem b1_run : ∀ j < 16, (65024 + ((j : Nat) : Int)) ∈ b1L := by decide
theorem b1_iff (k : Int) : inB1 k = true ↔ k ∈ b1L := by
  constructor
  · intro h
    unfold inB1 at h
    simp only [Bool.or_eq_true, Bool.and_eq_true, beq_iff_eq, decide_eq_true_eq] at h
    rcases h with ((((((h | h) | h) | h) | h) | h) | h) | h
    · rw [h]; decide
    · rw [h]; decide
    · rw [h]; decide
    · have : k = 6155 ∨ k = 6156 ∨ k = 6157 := by omega
      rcases this with h | h | h <;> rw [h] <;> decide
    · have : k = 8203 ∨ k = 8204 ∨ k = 8205 := by omega
      rcases this with h | h | h <;> rw [h] <;> decide
    · rw [h]; decide
    · rw [h]; decide
    · have := b1_run (k - 65024).toNat (by omega)
      rwa [show (65024 : Int) + ((k - 65024).toNat : Int) = k by omega] at this
  · have : ∀ k ∈ b1L, inB1 k = true := by decide
    exact this k
noncomputable def esOf (o : Obj) : List (Int × Value) := match o.data with | .set es _ _ => es.toList | _ => []
noncomputable def keyOk (e : Int × Value) : Bool := match e.2 with | .int k _ => e.1 == k && PySem.hashInt k == k | _ => false
theorem keyOk_spec {e : Int × Value} (h : keyOk e = true) : ∃ t, e.2 = .int e.1 t ∧ PySem.hashInt e.1 = e.1 := by
  unfold keyOk at h
  split at h
  · rename_i k t he
    simp only [Bool.and_eq_true, beq_iff_eq] at h
    exact ⟨t, by rw [he, h.1], by rw [h.1]; exact h.2⟩
  · cases h
theorem b1A (B : Base w h mg mb) (la : Addr) : ∃ a n, (GA w h mg mb B la).fv 6 = .ref a ∧ (GA w h mg mb B la).h₀.SetOf (intKind (GA w h mg mb B la).prog (GA w h mg mb B la).w) a inB1 n := by
  have hk : (esOf (Hd.o129_s13 w.params)).all keyOk = true := by kernel_rfl!
  have hm : (esOf (Hd.o129_s13 w.params)).map (·.1) = b1L := by kernel_rfl!
  have sp : ∀ e ∈ esOf (Hd.o129_s13 w.params), ∃ t, e.2 = .int e.1 t ∧ PySem.hashInt e.1 = e.1 := fun e he => keyOk_spec (List.all_eq_true.mp hk e he)
  refine ⟨129, 27, rfl, Hd.o129_s13 w.params, _, _, _, ka_in B.K _ _ (by kernel_rfl!), ⟨rfl, rfl, rfl⟩, rfl, ?_, fun k => ?_, (by show (27 : Nat) < 4096; decide), rfl, rfl⟩
  · intro e he
    obtain ⟨t, h1, h2⟩ := sp e he
    exact ⟨⟨e.1, by rw [h1]; exact beq_self_eq_true _, h2.symm⟩, by rw [h1]; rfl⟩
  · have e1 : inB1 k = true ↔ k ∈ b1L := b1_iff k
    rw [e1, ← hm, List.mem_map]
    constructor
    · rintro ⟨e, he, rfl⟩
      obtain ⟨t, h1, h2⟩ := sp e he
      exact ⟨e, he, by rw [h1]; exact beq_self_eq_true _⟩
    · rintro ⟨e, he, hi⟩
      obtain ⟨t, h1, h2⟩ := sp e he
      rw [h1] at hi
      exact ⟨e, he, beq_iff_eq.mp hi⟩
theorem find_ent : ∀ (l : List Hd.Quad) (k : Int), (match (l.map fun q => (q.1, q.2.2.1)).lookup k with
    | none => (l.map Hd.ent).find? (fun e => Value.isInt k e.key) = none
    | some x => ∃ t, ((l.map Hd.ent).find? (fun e => Value.isInt k e.key)).map (·.val) = some (.str x t))
  | [], k => rfl
  | (i, t, x, u) :: l, k => by
    have ih := find_ent l k
    rw [List.map_cons, List.map_cons, List.lookup_cons, List.find?_cons]
    have e : Value.isInt k (Hd.ent (i, t, x, u)).key = (i == k) := rfl
    rw [e]
    by_cases hk : k = i
    · subst hk
      rw [beq_self_eq_true]
      exact ⟨u, rfl⟩
    · have h1 : (k == i) = false := beq_false_of_ne hk
      have h2 : (i == k) = false := beq_false_of_ne (Ne.symm hk)
      rw [h2]
      simp only [h1]
      exact ih
theorem lits_eq : (Hd.qsAt 415 40 Hd.L3).map (fun q => (q.1, q.2.2.1)) = b3lits := by kernel_rfl!
theorem keys_ok : (Hd.qsAt 415 40 Hd.L3).all (fun q => PySem.hashInt q.1 == q.1) = true := by kernel_rfl!
theorem b3A (B : Base w h mg mb) (la : Addr) : ∃ a f, (GA w h mg mb B la).fv 8 = .ref a ∧ (a == sysModules) = false ∧ (GA w h mg mb B la).h₀.MapOf (intKind (GA w h mg mb B la).prog (GA w h mg mb B la).w) a f ∧ tabSays f b3tab ∧ ∃ o, (GA w h mg mb B la).h₀.get? a = some o ∧ o.cls = .type "dict" ∧ o.dict = none := by
  have hg : (ghostOf h tabs).get? 140 = some (Hd.bx140 w.params) := ka_in B.K _ _ (by kernel_rfl!)
  refine ⟨140, fun k => findBy Value.isInt ((Hd.qsAt 415 40 Hd.L3).map Hd.ent).toArray k, rfl, by decide, ⟨_, _, _, hg, ⟨rfl, rfl, rfl⟩, rfl, ?_, fun k => rfl⟩, ?_, ⟨_, hg, rfl, rfl⟩⟩
  · intro e he
    rw [List.mem_toArray] at he
    obtain ⟨q, hq, rfl⟩ := List.mem_map.mp he
    exact ⟨q.1, beq_self_eq_true _, (beq_iff_eq.mp (List.all_eq_true.mp keys_ok q hq)).symm⟩
  · intro i
    have := find_ent (Hd.qsAt 415 40 Hd.L3) i
    rw [lits_eq] at this
    have hf : findBy Value.isInt ((Hd.qsAt 415 40 Hd.L3).map Hd.ent).toArray i = (((Hd.qsAt 415 40 Hd.L3).map Hd.ent).find? (fun e => Value.isInt i e.key)).map (·.val) := by unfold findBy; rw [List.find?_toArray]
    show (match b3lits.lookup i with | none => findBy Value.isInt ((Hd.qsAt 415 40 Hd.L3).map Hd.ent).toArray i = none | some x => ∃ t, findBy Value.isInt ((Hd.qsAt 415 40 Hd.L3).map Hd.ent).toArray i = some (.str x t))
    rw [hf]
    cases e : b3lits.lookup i with
    | none => rw [e] at this; simp only at this ⊢; rw [this]; rfl
    | some x => rw [e] at this; exact this
theorem readyA (B : Base w h mg mb) (la : Addr) : Ready (GA w h mg mb B la) where
  gt := gtA B la
  d_strcoll := da_strcoll B la
  d_parse229 := da_parse229 B la
  d_parse257 := da_parse257 B la
  d_init := da_init B la
  d_read_char := da_read_char B la
  d_get_token := da_get_token B la
  d_push_token := da_push_token B la
  d_in_table_b1 := da_in_table_b1 B la
  d_map_table_b3 := da_map_table_b3 B la
  d_law_heaps := da_law_heaps B la
  d_law_step := da_law_step B la
  d_law_tape := da_law_tape B la
  d_law_word := da_law_word B la
  d_law_page := da_law_page B la
  d_law_seen := da_law_seen B la
  d_law_rule := da_law_rule B la
  d_law_line := da_law_line B la
  v_len := rfl
  v_ord := rfl
  v_chr := rfl
  v_min := rfl
  v_iter := rfl
  v_range := rfl
  v_list := rfl
  v_str := rfl
  v_int := rfl
  charmax := ⟨197, rfl, mg_val B (gn1 _)⟩
  lex := lexA B la
  b1 := b1A B la
  b3 := b3A B la
  gen := genA B la
  clo := cloA B la
end
end Mine
end Nc45
end Pa45
section Pa46
set_option compiler.extract_closed false
open PySem PySem.W PySem.Calls PyProof.Rows
set_option maxRecDepth 1000000
set_option maxHeartbeats 0
set_option linter.unusedVariables false
noncomputable section Nc46
namespace Mine
noncomputable def H0 : AH := fun i => if i = 0 then some (.tab true) else none
theorem H0_some {i : Nat} {o : AO} (e : H0 i = some o) : i = 0 ∧ o = .tab true := by
  unfold H0 at e
  split at e
  · rename_i q; cases e; exact ⟨q, rfl⟩
  · cases e
theorem law_eq : (Hd.lawDef).name = Str.ofString "law" := by kernel_rfl!
theorem law_at (P : Params) : nsIn (Hd.Kf P) mainGlobals (Hd.lawDef).name = some (some (.ref 249)) := by kernel_rfl!
theorem okCaller : OkA 6 callerA := ⟨rfl, by decide, by decide⟩
theorem hrStart {w : World} {s₁ : Shared} {mg mb : Str → Option Value} (B : Base w s₁.heap mg mb) (la : Addr) (hg : s₁.gens = #[]) : HR (GA w s₁.heap mg mb B la) H0 ⟨fun _ => 220, 1⟩ s₁ where
  dom := fun i o e => by rw [(H0_some e).1]; exact Nat.one_pos
  inj := fun i j o o' e e' _ => by rw [(H0_some e).1, (H0_some e').1]
  obj := fun i x e => by
    obtain ⟨_, rfl⟩ := H0_some e
    exact ⟨_, (tabs_at B.K (224, 220) (List.mem_singleton.mpr rfl)).2, #[], rfl, fun _ => rfl⟩
  base := fun b o e => of_hideAll _ e
  above := fun i o e => hideAll_none _ (List.mem_singleton.mpr rfl)
  gens := .of_eq hg
  zero := ⟨Nat.one_pos, rfl⟩
theorem oldk {w : World} {s₁ s' : Shared} {mg mb : Str → Option Value} (B : Base w s₁.heap mg mb) {la : Addr} {H' : AH} {m' : Mp} (hg : s₁.gens = #[]) (e : Ext (fun _ => False) H0 ⟨fun _ => 220, 1⟩ s₁ H' m' s') (hr : HR (GA w s₁.heap mg mb B la) H' m' s') (h0 : H' 0 = some (.tab false)) : OldK s₁.heap s'.heap := by
  obtain ⟨o, ho, ps, rfl, _⟩ := hr.obj 0 _ h0
  have hz : m'.f 0 = 220 := hr.zero.2
  rw [hz] at ho
  obtain ⟨t1, t2⟩ := tabs_at B.K (224, 220) (List.mem_singleton.mpr rfl)
  have kept : ∀ b o, b ≠ 220 → s₁.heap.get? b = some o → s'.heap.get? b = some o := fun b o hb q => e.kept b o q (fun _ _ _ w => hb w.symm) (fun x => x)
  refine ⟨fun b o q => ?_, fun b o q => ?_⟩
  · by_cases hb : b = 220
    · subst hb
      have : o = tabObj #[] := Option.some.inj (q.symm.trans t2)
      subst this
      exact .inr (.inl ⟨(t1.tab t2).isCodeTable, rfl, #[], ps, rfl, by rw [Array.empty_append]; exact ho⟩)
    · exact .inl (kept b o hb q)
  · by_cases hb : b = 220
    · exact ⟨_, by rw [hb]; exact ho⟩
    · exact ⟨o, kept b o hb q⟩
theorem call02 : WalkO Hd.qv Hd.looseN (XL Hd.qv []) Hd.hookK.says Hd.rowN.toRowW Hd.lawDef [] fun f vs => PySem.call f vs := by
  intro w s₀ s₁ mg mb G Y a o pm cd doc dV kV ho hd hcd hD hmg hg args vals as hpre hlay hrd hwl hlo
  have Y' : (Hd.Kf w.params).In s₁.heap := kIn_of (K := Hd.Kf) (e := Hd.asK_eq) Y
  refine Ground.open G ?_
  intro T B D TE TW
  wrow_args hpre hlay hrd hwl hlo
  rename_i xs hs hlay0 hL1 hr1 hl2 as4 as3 la vs ws hL ra w1 r0 hI hr hc1 hc2
  have Bs : Base w s₁.heap mg mb := ⟨Y', T.g, T.b, T.nolimit, T.builtins⟩
  have R := readyA Bs la
  have Sc : Script (GA w s₁.heap mg mb Bs la) xs := ⟨⟨la, vs, rfl, ghost_list (tabs_at Y') hL, hI⟩, by omega⟩
  have ea : a = 249 := by
    have := (mg_val Bs (law_at w.params)).symm.trans hmg
    cases this; rfl
  subst ea
  have key := law_ok R Sc (da_law Bs la) facts02 (H := H0) (K := fun v H' => v = .bool true ∧ H' 0 = some (.tab false)) rfl (fun H' q => ⟨rfl, q⟩) callerA ⟨fun _ => 220, 1⟩ s₁ [.ref la] okCaller (hrStart Bs la hg) (by simp only [RVs]; exact ⟨_, _, rfl, (by simp only [RV]; rfl), rfl⟩)
  refine wpAny_call (codeAny_mono key fun q s' hq => ?_)
  rcases q with e | (cv | _ | _ | _) <;> first | exact hq.elim | skip
  obtain ⟨v, H', m', ⟨rfl, q0⟩, ex, hr', hv⟩ := hq
  have hv := inv_bool hv
  subst hv
  refine ⟨.inl ⟨.bool true, .bool true, [], rfl, fun _ => rfl, .bool true, ?_, fun _ => ⟨List.nodup_nil, fun a ha => absurd ha List.not_mem_nil⟩⟩, oldk Bs hg ex hr' q0, ex.os, hr'.gens⟩
  exact postW_of (X := true) (by wrow_shape) (by wtm_val) rfl
end Mine
end Nc46
end Pa46
theorem PySem.Challenge.cw_wo0068_02_holds : PySem.Challenge.rw_wo0068_02.Holds :=
  Hd.fin Mine.call02
