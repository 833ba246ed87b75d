import PyProof.Rows.All
import Wide.All
import OpenK.AllK
import Wide.FinOn
import Lean
import PySem.Challenge.RW_tx0029_01
open PySem PySem.Calls PyProof.Rows PySem.W
set_option Elab.async false
set_option maxRecDepth 100000
set_option linter.unusedVariables false

namespace Mine

noncomputable abbrev PP : Program := PySem.Challenge.pw_tx0029_01
noncomputable def topSt (i : Nat) : Stmt := (PP.main.body[i]?).getD default
noncomputable def clsSt (i j : Nat) : Stmt := match topSt i with
  | .ClassDef _ _ _ body _ _ _ _ _ _ _ => (body[j]?).getD default
  | _ => default
noncomputable def fnD (st : Stmt) (qual : Str) (dV kV pm code : Value) : FuncData := match st with
  | .FunctionDef name args body _ _ _ scope _ _ _ =>
    { name, qualname := qual, params := args, body := .stmts body, scope, globals := mainGlobals, closure := [], defaults := dV, kwdefaults := kV, doc := .none, pyModule := pm, annotations := none, code := code, closureTuple := .none, builtins := builtinsNs }
  | _ => default
noncomputable def K0 (P : Params) : Frag := [
  (2, ⟨.none, none, (.dict #[] 0), #[]⟩),
  (3, ⟨(.type "dict"), none, (.dict #[⟨PyData.keyHash P ⟨#[95, 95, 110, 97, 109, 101, 95, 95]⟩, (.str ⟨#[95, 95, 110, 97, 109, 101, 95, 95]⟩ 165), (.str ⟨#[108, 97, 119, 95, 116, 120, 48, 48, 50, 57, 95, 48, 49]⟩ 408)⟩, ⟨PyData.keyHash P ⟨#[95, 95, 100, 111, 99, 95, 95]⟩, (.str ⟨#[95, 95, 100, 111, 99, 95, 95]⟩ 166), .none⟩, ⟨PyData.keyHash P ⟨#[95, 95, 112, 97, 99, 107, 97, 103, 101, 95, 95]⟩, (.str ⟨#[95, 95, 112, 97, 99, 107, 97, 103, 101, 95, 95]⟩ 167), .none⟩, ⟨PyData.keyHash P ⟨#[95, 95, 108, 111, 97, 100, 101, 114, 95, 95]⟩, (.str ⟨#[95, 95, 108, 111, 97, 100, 101, 114, 95, 95]⟩ 168), (.builtin "__main__.__loader__#opaque")⟩, ⟨PyData.keyHash P ⟨#[95, 95, 115, 112, 101, 99, 95, 95]⟩, (.str ⟨#[95, 95, 115, 112, 101, 99, 95, 95]⟩ 169), .none⟩, ⟨PyData.keyHash P ⟨#[95, 95, 97, 110, 110, 111, 116, 97, 116, 105, 111, 110, 115, 95, 95]⟩, (.str ⟨#[95, 95, 97, 110, 110, 111, 116, 97, 116, 105, 111, 110, 115, 95, 95]⟩ 170), (.ref 6)⟩, ⟨PyData.keyHash P ⟨#[95, 95, 98, 117, 105, 108, 116, 105, 110, 115, 95, 95]⟩, (.str ⟨#[95, 95, 98, 117, 105, 108, 116, 105, 110, 115, 95, 95]⟩ 171), (.ref 4)⟩, ⟨PyData.keyHash P ⟨#[95, 95, 102, 105, 108, 101, 95, 95]⟩, (.str ⟨#[95, 95, 102, 105, 108, 101, 95, 95]⟩ 173), (.str ⟨#[47, 99, 108, 97, 105, 109, 47, 99, 117, 116, 46, 112, 121]⟩ 172)⟩, ⟨PyData.keyHash P ⟨#[95, 95, 99, 97, 99, 104, 101, 100, 95, 95]⟩, (.str ⟨#[95, 95, 99, 97, 99, 104, 101, 100, 95, 95]⟩ 174), .none⟩, ⟨PyData.keyHash P ⟨#[95, 110, 101, 116, 114, 99, 108, 101, 120]⟩, (.str ⟨#[95, 110, 101, 116, 114, 99, 108, 101, 120]⟩ 246), (.ref 52)⟩, ⟨PyData.keyHash P ⟨#[95, 68, 73, 86, 95, 76, 73, 77, 73, 84]⟩, (.str ⟨#[95, 68, 73, 86, 95, 76, 73, 77, 73, 84]⟩ 250), (.int (4000) 249)⟩, ⟨PyData.keyHash P ⟨#[95, 100, 105, 118, 50, 110, 49, 110]⟩, (.str ⟨#[95, 100, 105, 118, 50, 110, 49, 110]⟩ 267), (.ref 63)⟩, ⟨PyData.keyHash P ⟨#[95, 100, 105, 118, 51, 110, 50, 110]⟩, (.str ⟨#[95, 100, 105, 118, 51, 110, 50, 110]⟩ 281), (.ref 70)⟩, ⟨PyData.keyHash P ⟨#[95, 105, 110, 116, 50, 100, 105, 103, 105, 116, 115]⟩, (.str ⟨#[95, 105, 110, 116, 50, 100, 105, 103, 105, 116, 115]⟩ 292), (.ref 77)⟩, ⟨PyData.keyHash P ⟨#[95, 100, 105, 103, 105, 116, 115, 50, 105, 110, 116]⟩, (.str ⟨#[95, 100, 105, 103, 105, 116, 115, 50, 105, 110, 116]⟩ 303), (.ref 84)⟩, ⟨PyData.keyHash P ⟨#[95, 100, 105, 118, 109, 111, 100, 95, 112, 111, 115]⟩, (.str ⟨#[95, 100, 105, 118, 109, 111, 100, 95, 112, 111, 115]⟩ 318), (.ref 91)⟩, ⟨PyData.keyHash P ⟨#[105, 110, 116, 95, 100, 105, 118, 109, 111, 100]⟩, (.str ⟨#[105, 110, 116, 95, 100, 105, 118, 109, 111, 100]⟩ 328), (.ref 98)⟩, ⟨PyData.keyHash P ⟨#[98, 105, 115, 101, 99, 116, 95, 114, 105, 103, 104, 116]⟩, (.str ⟨#[98, 105, 115, 101, 99, 116, 95, 114, 105, 103, 104, 116]⟩ 344), (.ref 107)⟩, ⟨PyData.keyHash P ⟨#[105, 110, 115, 111, 114, 116, 95, 108, 101, 102, 116]⟩, (.str ⟨#[105, 110, 115, 111, 114, 116, 95, 108, 101, 102, 116]⟩ 357), (.ref 116)⟩, ⟨PyData.keyHash P ⟨#[98, 105, 115, 101, 99, 116, 95, 108, 101, 102, 116]⟩, (.str ⟨#[98, 105, 115, 101, 99, 116, 95, 108, 101, 102, 116]⟩ 371), (.ref 125)⟩, ⟨PyData.keyHash P ⟨#[95, 77, 65, 88, 95, 83, 84, 82, 73, 78, 71, 95, 83, 73, 90, 69]⟩, (.str ⟨#[95, 77, 65, 88, 95, 83, 84, 82, 73, 78, 71, 95, 83, 73, 90, 69]⟩ 375), (.int (40) 374)⟩, ⟨PyData.keyHash P ⟨#[95, 77, 79, 86, 69, 95, 67, 79, 83, 84]⟩, (.str ⟨#[95, 77, 79, 86, 69, 95, 67, 79, 83, 84]⟩ 377), (.int (2) 376)⟩, ⟨PyData.keyHash P ⟨#[95, 67, 65, 83, 69, 95, 67, 79, 83, 84]⟩, (.str ⟨#[95, 67, 65, 83, 69, 95, 67, 79, 83, 84]⟩ 379), (.int (1) 378)⟩, ⟨PyData.keyHash P ⟨#[95, 115, 117, 98, 115, 116, 105, 116, 117, 116, 105, 111, 110, 95, 99, 111, 115, 116]⟩, (.str ⟨#[95, 115, 117, 98, 115, 116, 105, 116, 117, 116, 105, 111, 110, 95, 99, 111, 115, 116]⟩ 387), (.ref 132)⟩, ⟨PyData.keyHash P ⟨#[95, 108, 101, 118, 101, 110, 115, 104, 116, 101, 105, 110, 95, 100, 105, 115, 116, 97, 110, 99, 101]⟩, (.str ⟨#[95, 108, 101, 118, 101, 110, 115, 104, 116, 101, 105, 110, 95, 100, 105, 115, 116, 97, 110, 99, 101]⟩ 407), (.ref 139)⟩, ⟨PyData.keyHash P ⟨#[95, 108, 97, 119, 95, 108, 101, 120, 101, 114]⟩, (.str ⟨#[95, 108, 97, 119, 95, 108, 101, 120, 101, 114]⟩ 419), (.ref 146)⟩, ⟨PyData.keyHash P ⟨#[95, 108, 97, 119, 95, 99, 104, 105, 112]⟩, (.str ⟨#[95, 108, 97, 119, 95, 99, 104, 105, 112]⟩ 425), (.ref 151)⟩, ⟨PyData.keyHash P ⟨#[95, 108, 97, 119, 95, 114, 101, 97, 100]⟩, (.str ⟨#[95, 108, 97, 119, 95, 114, 101, 97, 100]⟩ 431), (.ref 156)⟩, ⟨PyData.keyHash P ⟨#[95, 108, 97, 119, 95, 102, 97, 114]⟩, (.str ⟨#[95, 108, 97, 119, 95, 102, 97, 114]⟩ 442), (.ref 163)⟩, ⟨PyData.keyHash P ⟨#[95, 108, 97, 119, 95, 102, 105, 114, 101, 100]⟩, (.str ⟨#[95, 108, 97, 119, 95, 102, 105, 114, 101, 100]⟩ 448), (.ref 168)⟩, ⟨PyData.keyHash P ⟨#[108, 97, 119]⟩, (.str ⟨#[108, 97, 119]⟩ 454), (.ref 173)⟩] 31), #[]⟩),
  (27, ⟨(.type "code"), none, (.fields #[(.str ⟨#[95, 95, 105, 110, 105, 116, 95, 95]⟩ 201), (.str ⟨#[95, 110, 101, 116, 114, 99, 108, 101, 120, 46, 95, 95, 105, 110, 105, 116, 95, 95]⟩ 202), (.str ⟨#[47, 99, 108, 97, 105, 109, 47, 99, 117, 116, 46, 112, 121]⟩ 203), (.int (4) 0), (.int (2) 0), (.int (0) 0), (.int (0) 0), (.int (3) 0), (.ref 22), (.bool true), (.int (181) 0), (.ref 23), .none, (.ref 24), (.ref 25), (.ref 26), (.int (206) 0), (.int (4) 0), (.str ⟨#[47, 99, 108, 97, 105, 109, 47, 99, 117, 116, 46, 112, 121]⟩ 207)]), #[]⟩),
  (28, ⟨(.type "function"), none, (.func (fnD (clsSt 1 0) ⟨#[95, 110, 101, 116, 114, 99, 108, 101, 120, 46, 95, 95, 105, 110, 105, 116, 95, 95]⟩ .none .none (.str ⟨#[99, 112, 121, 51, 49, 51, 46, 110, 101, 116, 114, 99]⟩ 187) (.ref 27))), #[]⟩),
  (34, ⟨(.type "code"), none, (.fields #[(.str ⟨#[95, 114, 101, 97, 100, 95, 99, 104, 97, 114]⟩ 209), (.str ⟨#[95, 110, 101, 116, 114, 99, 108, 101, 120, 46, 95, 114, 101, 97, 100, 95, 99, 104, 97, 114]⟩ 210), (.str ⟨#[47, 99, 108, 97, 105, 109, 47, 99, 117, 116, 46, 112, 121]⟩ 211), (.int (10) 0), (.int (1) 0), (.int (0) 0), (.int (0) 0), (.int (3) 0), (.ref 29), (.bool true), (.int (181) 0), (.ref 30), .none, (.ref 31), (.ref 32), (.ref 33), (.int (214) 0), (.int (10) 0), (.str ⟨#[47, 99, 108, 97, 105, 109, 47, 99, 117, 116, 46, 112, 121]⟩ 215)]), #[]⟩),
  (35, ⟨(.type "function"), none, (.func (fnD (clsSt 1 1) ⟨#[95, 110, 101, 116, 114, 99, 108, 101, 120, 46, 95, 114, 101, 97, 100, 95, 99, 104, 97, 114]⟩ .none .none (.str ⟨#[99, 112, 121, 51, 49, 51, 46, 110, 101, 116, 114, 99]⟩ 187) (.ref 34))), #[]⟩),
  (41, ⟨(.type "code"), none, (.fields #[(.str ⟨#[103, 101, 116, 95, 116, 111, 107, 101, 110]⟩ 217), (.str ⟨#[95, 110, 101, 116, 114, 99, 108, 101, 120, 46, 103, 101, 116, 95, 116, 111, 107, 101, 110]⟩ 218), (.str ⟨#[47, 99, 108, 97, 105, 109, 47, 99, 117, 116, 46, 112, 121]⟩ 219), (.int (16) 0), (.int (1) 0), (.int (0) 0), (.int (0) 0), (.int (3) 0), (.ref 36), (.bool true), (.int (181) 0), (.ref 37), .none, (.ref 38), (.ref 39), (.ref 40), (.int (224) 0), (.int (16) 0), (.str ⟨#[47, 99, 108, 97, 105, 109, 47, 99, 117, 116, 46, 112, 121]⟩ 225)]), #[]⟩),
  (42, ⟨(.type "function"), none, (.func (fnD (clsSt 1 2) ⟨#[95, 110, 101, 116, 114, 99, 108, 101, 120, 46, 103, 101, 116, 95, 116, 111, 107, 101, 110]⟩ .none .none (.str ⟨#[99, 112, 121, 51, 49, 51, 46, 110, 101, 116, 114, 99]⟩ 187) (.ref 41))), #[]⟩),
  (48, ⟨(.type "code"), none, (.fields #[(.str ⟨#[112, 117, 115, 104, 95, 116, 111, 107, 101, 110]⟩ 227), (.str ⟨#[95, 110, 101, 116, 114, 99, 108, 101, 120, 46, 112, 117, 115, 104, 95, 116, 111, 107, 101, 110]⟩ 228), (.str ⟨#[47, 99, 108, 97, 105, 109, 47, 99, 117, 116, 46, 112, 121]⟩ 229), (.int (43) 0), (.int (2) 0), (.int (0) 0), (.int (0) 0), (.int (3) 0), (.ref 43), (.bool true), (.int (181) 0), (.ref 44), .none, (.ref 45), (.ref 46), (.ref 47), (.int (232) 0), (.int (43) 0), (.str ⟨#[47, 99, 108, 97, 105, 109, 47, 99, 117, 116, 46, 112, 121]⟩ 233)]), #[]⟩),
  (49, ⟨(.type "function"), none, (.func (fnD (clsSt 1 3) ⟨#[95, 110, 101, 116, 114, 99, 108, 101, 120, 46, 112, 117, 115, 104, 95, 116, 111, 107, 101, 110]⟩ .none .none (.str ⟨#[99, 112, 121, 51, 49, 51, 46, 110, 101, 116, 114, 99]⟩ 187) (.ref 48))), #[]⟩),
  (51, ⟨(.type "dict"), none, (.dict #[⟨PyData.keyHash P ⟨#[95, 95, 109, 111, 100, 117, 108, 101, 95, 95]⟩, (.str ⟨#[95, 95, 109, 111, 100, 117, 108, 101, 95, 95]⟩ 196), (.str ⟨#[99, 112, 121, 51, 49, 51, 46, 110, 101, 116, 114, 99]⟩ 187)⟩, ⟨PyData.keyHash P ⟨#[95, 95, 102, 105, 114, 115, 116, 108, 105, 110, 101, 110, 111, 95, 95]⟩, (.str ⟨#[95, 95, 102, 105, 114, 115, 116, 108, 105, 110, 101, 110, 111, 95, 95]⟩ 200), (.int (2) 199)⟩, ⟨PyData.keyHash P ⟨#[95, 95, 105, 110, 105, 116, 95, 95]⟩, (.str ⟨#[95, 95, 105, 110, 105, 116, 95, 95]⟩ 208), (.ref 28)⟩, ⟨PyData.keyHash P ⟨#[95, 114, 101, 97, 100, 95, 99, 104, 97, 114]⟩, (.str ⟨#[95, 114, 101, 97, 100, 95, 99, 104, 97, 114]⟩ 216), (.ref 35)⟩, ⟨PyData.keyHash P ⟨#[103, 101, 116, 95, 116, 111, 107, 101, 110]⟩, (.str ⟨#[103, 101, 116, 95, 116, 111, 107, 101, 110]⟩ 226), (.ref 42)⟩, ⟨PyData.keyHash P ⟨#[112, 117, 115, 104, 95, 116, 111, 107, 101, 110]⟩, (.str ⟨#[112, 117, 115, 104, 95, 116, 111, 107, 101, 110]⟩ 234), (.ref 49)⟩, ⟨PyData.keyHash P ⟨#[95, 95, 115, 116, 97, 116, 105, 99, 95, 97, 116, 116, 114, 105, 98, 117, 116, 101, 115, 95, 95]⟩, (.str ⟨#[95, 95, 115, 116, 97, 116, 105, 99, 95, 97, 116, 116, 114, 105, 98, 117, 116, 101, 115, 95, 95]⟩ 239), (.ref 50)⟩, ⟨PyData.keyHash P ⟨#[95, 95, 100, 105, 99, 116, 95, 95]⟩, (.str ⟨#[95, 95, 100, 105, 99, 116, 95, 95]⟩ 241), (.ref 53)⟩, ⟨PyData.keyHash P ⟨#[95, 95, 119, 101, 97, 107, 114, 101, 102, 95, 95]⟩, (.str ⟨#[95, 95, 119, 101, 97, 107, 114, 101, 102, 95, 95]⟩ 243), (.ref 54)⟩, ⟨PyData.keyHash P ⟨#[95, 95, 100, 111, 99, 95, 95]⟩, (.str ⟨#[95, 95, 100, 111, 99, 95, 95]⟩ 244), .none⟩] 4), #[]⟩),
  (52, ⟨(.type "type"), none, (.cls { name := ⟨#[95, 110, 101, 116, 114, 99, 108, 101, 120]⟩, bases := [(.type "object")], mro := [(.ref 52), (.type "object")], ns := 51, qualname := ⟨#[95, 110, 101, 116, 114, 99, 108, 101, 120]⟩, hasDict := true, slotNames := [], subclasses := [], abstract := false, collection := none, hasDel := false }), #[none, none, (some (.str ⟨#[95, 110, 101, 116, 114, 99, 108, 101, 120]⟩ 189)), (some (.str ⟨#[95, 110, 101, 116, 114, 99, 108, 101, 120]⟩ 197)), (some (.builtin "object.__new__")), (some (.bool true))]⟩),
  (62, ⟨(.type "code"), none, (.fields #[(.str ⟨#[95, 100, 105, 118, 50, 110, 49, 110]⟩ 251), (.str ⟨#[95, 100, 105, 118, 50, 110, 49, 110]⟩ 252), (.str ⟨#[47, 99, 108, 97, 105, 109, 47, 99, 117, 116, 46, 112, 121]⟩ 253), (.int (47) 0), (.int (3) 0), (.int (0) 0), (.int (0) 0), (.int (3) 0), (.ref 57), (.bool true), (.int (181) 0), (.ref 58), .none, (.ref 59), (.ref 60), (.ref 61), (.int (265) 0), (.int (47) 0), (.str ⟨#[47, 99, 108, 97, 105, 109, 47, 99, 117, 116, 46, 112, 121]⟩ 266)]), #[]⟩),
  (63, ⟨(.type "function"), none, (.func (fnD (topSt 4) ⟨#[95, 100, 105, 118, 50, 110, 49, 110]⟩ .none .none (.str ⟨#[99, 112, 121, 51, 49, 51, 46, 95, 112, 121, 108, 111, 110, 103]⟩ 247) (.ref 62))), #[]⟩),
  (69, ⟨(.type "code"), none, (.fields #[(.str ⟨#[95, 100, 105, 118, 51, 110, 50, 110]⟩ 268), (.str ⟨#[95, 100, 105, 118, 51, 110, 50, 110]⟩ 269), (.str ⟨#[47, 99, 108, 97, 105, 109, 47, 99, 117, 116, 46, 112, 121]⟩ 270), (.int (63) 0), (.int (6) 0), (.int (0) 0), (.int (0) 0), (.int (3) 0), (.ref 64), (.bool true), (.int (181) 0), (.ref 65), .none, (.ref 66), (.ref 67), (.ref 68), (.int (279) 0), (.int (63) 0), (.str ⟨#[47, 99, 108, 97, 105, 109, 47, 99, 117, 116, 46, 112, 121]⟩ 280)]), #[]⟩),
  (70, ⟨(.type "function"), none, (.func (fnD (topSt 5) ⟨#[95, 100, 105, 118, 51, 110, 50, 110]⟩ .none .none (.str ⟨#[99, 112, 121, 51, 49, 51, 46, 95, 112, 121, 108, 111, 110, 103]⟩ 247) (.ref 69))), #[]⟩),
  (76, ⟨(.type "code"), none, (.fields #[(.str ⟨#[95, 105, 110, 116, 50, 100, 105, 103, 105, 116, 115]⟩ 282), (.str ⟨#[95, 105, 110, 116, 50, 100, 105, 103, 105, 116, 115]⟩ 283), (.str ⟨#[47, 99, 108, 97, 105, 109, 47, 99, 117, 116, 46, 112, 121]⟩ 284), (.int (73) 0), (.int (2) 0), (.int (0) 0), (.int (0) 0), (.int (3) 0), (.ref 71), (.bool true), (.int (181) 0), (.ref 72), .none, (.ref 73), (.ref 74), (.ref 75), (.int (290) 0), (.int (73) 0), (.str ⟨#[47, 99, 108, 97, 105, 109, 47, 99, 117, 116, 46, 112, 121]⟩ 291)]), #[]⟩),
  (77, ⟨(.type "function"), none, (.func (fnD (topSt 6) ⟨#[95, 105, 110, 116, 50, 100, 105, 103, 105, 116, 115]⟩ .none .none (.str ⟨#[99, 112, 121, 51, 49, 51, 46, 95, 112, 121, 108, 111, 110, 103]⟩ 247) (.ref 76))), #[]⟩),
  (83, ⟨(.type "code"), none, (.fields #[(.str ⟨#[95, 100, 105, 103, 105, 116, 115, 50, 105, 110, 116]⟩ 293), (.str ⟨#[95, 100, 105, 103, 105, 116, 115, 50, 105, 110, 116]⟩ 294), (.str ⟨#[47, 99, 108, 97, 105, 109, 47, 99, 117, 116, 46, 112, 121]⟩ 295), (.int (89) 0), (.int (2) 0), (.int (0) 0), (.int (0) 0), (.int (3) 0), (.ref 78), (.bool true), (.int (181) 0), (.ref 79), .none, (.ref 80), (.ref 81), (.ref 82), (.int (301) 0), (.int (89) 0), (.str ⟨#[47, 99, 108, 97, 105, 109, 47, 99, 117, 116, 46, 112, 121]⟩ 302)]), #[]⟩),
  (84, ⟨(.type "function"), none, (.func (fnD (topSt 7) ⟨#[95, 100, 105, 103, 105, 116, 115, 50, 105, 110, 116]⟩ .none .none (.str ⟨#[99, 112, 121, 51, 49, 51, 46, 95, 112, 121, 108, 111, 110, 103]⟩ 247) (.ref 83))), #[]⟩),
  (90, ⟨(.type "code"), none, (.fields #[(.str ⟨#[95, 100, 105, 118, 109, 111, 100, 95, 112, 111, 115]⟩ 304), (.str ⟨#[95, 100, 105, 118, 109, 111, 100, 95, 112, 111, 115]⟩ 305), (.str ⟨#[47, 99, 108, 97, 105, 109, 47, 99, 117, 116, 46, 112, 121]⟩ 306), (.int (98) 0), (.int (2) 0), (.int (0) 0), (.int (0) 0), (.int (3) 0), (.ref 85), (.bool true), (.int (181) 0), (.ref 86), .none, (.ref 87), (.ref 88), (.ref 89), (.int (316) 0), (.int (98) 0), (.str ⟨#[47, 99, 108, 97, 105, 109, 47, 99, 117, 116, 46, 112, 121]⟩ 317)]), #[]⟩),
  (91, ⟨(.type "function"), none, (.func (fnD (topSt 8) ⟨#[95, 100, 105, 118, 109, 111, 100, 95, 112, 111, 115]⟩ .none .none (.str ⟨#[99, 112, 121, 51, 49, 51, 46, 95, 112, 121, 108, 111, 110, 103]⟩ 247) (.ref 90))), #[]⟩),
  (97, ⟨(.type "code"), none, (.fields #[(.str ⟨#[105, 110, 116, 95, 100, 105, 118, 109, 111, 100]⟩ 319), (.str ⟨#[105, 110, 116, 95, 100, 105, 118, 109, 111, 100]⟩ 320), (.str ⟨#[47, 99, 108, 97, 105, 109, 47, 99, 117, 116, 46, 112, 121]⟩ 321), (.int (109) 0), (.int (2) 0), (.int (0) 0), (.int (0) 0), (.int (3) 0), (.ref 92), (.bool true), (.int (181) 0), (.ref 93), .none, (.ref 94), (.ref 95), (.ref 96), (.int (326) 0), (.int (109) 0), (.str ⟨#[47, 99, 108, 97, 105, 109, 47, 99, 117, 116, 46, 112, 121]⟩ 327)]), #[]⟩),
  (98, ⟨(.type "function"), none, (.func (fnD (topSt 9) ⟨#[105, 110, 116, 95, 100, 105, 118, 109, 111, 100]⟩ .none .none (.str ⟨#[99, 112, 121, 51, 49, 51, 46, 95, 112, 121, 108, 111, 110, 103]⟩ 247) (.ref 97))), #[]⟩),
  (99, ⟨(.type "tuple"), none, (.seq #[(.int (0) 331), .none] 0), #[]⟩),
  (100, ⟨(.type "dict"), none, (.dict #[⟨PyData.keyHash P ⟨#[107, 101, 121]⟩, (.str ⟨#[107, 101, 121]⟩ 332), .none⟩] 1), #[]⟩),
  (106, ⟨(.type "code"), none, (.fields #[(.str ⟨#[98, 105, 115, 101, 99, 116, 95, 114, 105, 103, 104, 116]⟩ 333), (.str ⟨#[98, 105, 115, 101, 99, 116, 95, 114, 105, 103, 104, 116]⟩ 334), (.str ⟨#[47, 99, 108, 97, 105, 109, 47, 99, 117, 116, 46, 112, 121]⟩ 335), (.int (121) 0), (.int (4) 0), (.int (0) 0), (.int (1) 0), (.int (3) 0), (.ref 101), (.bool true), (.int (181) 0), (.ref 102), .none, (.ref 103), (.ref 104), (.ref 105), (.int (342) 0), (.int (121) 0), (.str ⟨#[47, 99, 108, 97, 105, 109, 47, 99, 117, 116, 46, 112, 121]⟩ 343)]), #[]⟩),
  (107, ⟨(.type "function"), none, (.func (fnD (topSt 11) ⟨#[98, 105, 115, 101, 99, 116, 95, 114, 105, 103, 104, 116]⟩ (.ref 99) (.ref 100) (.str ⟨#[99, 112, 121, 51, 49, 51, 46, 98, 105, 115, 101, 99, 116]⟩ 329) (.ref 106))), #[]⟩),
  (108, ⟨(.type "tuple"), none, (.seq #[(.int (0) 345), .none] 0), #[]⟩),
  (109, ⟨(.type "dict"), none, (.dict #[⟨PyData.keyHash P ⟨#[107, 101, 121]⟩, (.str ⟨#[107, 101, 121]⟩ 346), .none⟩] 1), #[]⟩),
  (115, ⟨(.type "code"), none, (.fields #[(.str ⟨#[105, 110, 115, 111, 114, 116, 95, 108, 101, 102, 116]⟩ 347), (.str ⟨#[105, 110, 115, 111, 114, 116, 95, 108, 101, 102, 116]⟩ 348), (.str ⟨#[47, 99, 108, 97, 105, 109, 47, 99, 117, 116, 46, 112, 121]⟩ 349), (.int (141) 0), (.int (4) 0), (.int (0) 0), (.int (1) 0), (.int (3) 0), (.ref 110), (.bool true), (.int (181) 0), (.ref 111), .none, (.ref 112), (.ref 113), (.ref 114), (.int (355) 0), (.int (141) 0), (.str ⟨#[47, 99, 108, 97, 105, 109, 47, 99, 117, 116, 46, 112, 121]⟩ 356)]), #[]⟩),
  (116, ⟨(.type "function"), none, (.func (fnD (topSt 12) ⟨#[105, 110, 115, 111, 114, 116, 95, 108, 101, 102, 116]⟩ (.ref 108) (.ref 109) (.str ⟨#[99, 112, 121, 51, 49, 51, 46, 98, 105, 115, 101, 99, 116]⟩ 329) (.ref 115))), #[]⟩),
  (117, ⟨(.type "tuple"), none, (.seq #[(.int (0) 358), .none] 0), #[]⟩),
  (118, ⟨(.type "dict"), none, (.dict #[⟨PyData.keyHash P ⟨#[107, 101, 121]⟩, (.str ⟨#[107, 101, 121]⟩ 359), .none⟩] 1), #[]⟩),
  (124, ⟨(.type "code"), none, (.fields #[(.str ⟨#[98, 105, 115, 101, 99, 116, 95, 108, 101, 102, 116]⟩ 360), (.str ⟨#[98, 105, 115, 101, 99, 116, 95, 108, 101, 102, 116]⟩ 361), (.str ⟨#[47, 99, 108, 97, 105, 109, 47, 99, 117, 116, 46, 112, 121]⟩ 362), (.int (147) 0), (.int (4) 0), (.int (0) 0), (.int (1) 0), (.int (3) 0), (.ref 119), (.bool true), (.int (181) 0), (.ref 120), .none, (.ref 121), (.ref 122), (.ref 123), (.int (369) 0), (.int (147) 0), (.str ⟨#[47, 99, 108, 97, 105, 109, 47, 99, 117, 116, 46, 112, 121]⟩ 370)]), #[]⟩),
  (125, ⟨(.type "function"), none, (.func (fnD (topSt 13) ⟨#[98, 105, 115, 101, 99, 116, 95, 108, 101, 102, 116]⟩ (.ref 117) (.ref 118) (.str ⟨#[99, 112, 121, 51, 49, 51, 46, 98, 105, 115, 101, 99, 116]⟩ 329) (.ref 124))), #[]⟩),
  (131, ⟨(.type "code"), none, (.fields #[(.str ⟨#[95, 115, 117, 98, 115, 116, 105, 116, 117, 116, 105, 111, 110, 95, 99, 111, 115, 116]⟩ 380), (.str ⟨#[95, 115, 117, 98, 115, 116, 105, 116, 117, 116, 105, 111, 110, 95, 99, 111, 115, 116]⟩ 381), (.str ⟨#[47, 99, 108, 97, 105, 109, 47, 99, 117, 116, 46, 112, 121]⟩ 382), (.int (171) 0), (.int (2) 0), (.int (0) 0), (.int (0) 0), (.int (3) 0), (.ref 126), (.bool true), (.int (181) 0), (.ref 127), .none, (.ref 128), (.ref 129), (.ref 130), (.int (385) 0), (.int (171) 0), (.str ⟨#[47, 99, 108, 97, 105, 109, 47, 99, 117, 116, 46, 112, 121]⟩ 386)]), #[]⟩),
  (132, ⟨(.type "function"), none, (.func (fnD (topSt 18) ⟨#[95, 115, 117, 98, 115, 116, 105, 116, 117, 116, 105, 111, 110, 95, 99, 111, 115, 116]⟩ .none .none (.str ⟨#[99, 112, 121, 51, 49, 51, 46, 116, 114, 97, 99, 101, 98, 97, 99, 107]⟩ 372) (.ref 131))), #[]⟩),
  (138, ⟨(.type "code"), none, (.fields #[(.str ⟨#[95, 108, 101, 118, 101, 110, 115, 104, 116, 101, 105, 110, 95, 100, 105, 115, 116, 97, 110, 99, 101]⟩ 388), (.str ⟨#[95, 108, 101, 118, 101, 110, 115, 104, 116, 101, 105, 110, 95, 100, 105, 115, 116, 97, 110, 99, 101]⟩ 389), (.str ⟨#[47, 99, 108, 97, 105, 109, 47, 99, 117, 116, 46, 112, 121]⟩ 390), (.int (177) 0), (.int (3) 0), (.int (0) 0), (.int (0) 0), (.int (3) 0), (.ref 133), (.bool true), (.int (181) 0), (.ref 134), .none, (.ref 135), (.ref 136), (.ref 137), (.int (405) 0), (.int (177) 0), (.str ⟨#[47, 99, 108, 97, 105, 109, 47, 99, 117, 116, 46, 112, 121]⟩ 406)]), #[]⟩),
  (139, ⟨(.type "function"), none, (.func (fnD (topSt 19) ⟨#[95, 108, 101, 118, 101, 110, 115, 104, 116, 101, 105, 110, 95, 100, 105, 115, 116, 97, 110, 99, 101]⟩ .none .none (.str ⟨#[99, 112, 121, 51, 49, 51, 46, 116, 114, 97, 99, 101, 98, 97, 99, 107]⟩ 372) (.ref 138))), #[]⟩),
  (145, ⟨(.type "code"), none, (.fields #[(.str ⟨#[95, 108, 97, 119, 95, 108, 101, 120, 101, 114]⟩ 410), (.str ⟨#[95, 108, 97, 119, 95, 108, 101, 120, 101, 114]⟩ 411), (.str ⟨#[47, 99, 108, 97, 105, 109, 47, 99, 117, 116, 46, 112, 121]⟩ 412), (.int (216) 0), (.int (1) 0), (.int (0) 0), (.int (0) 0), (.int (3) 0), (.ref 140), (.bool true), (.int (181) 0), (.ref 141), .none, (.ref 142), (.ref 143), (.ref 144), (.int (417) 0), (.int (216) 0), (.str ⟨#[47, 99, 108, 97, 105, 109, 47, 99, 117, 116, 46, 112, 121]⟩ 418)]), #[]⟩),
  (146, ⟨(.type "function"), none, (.func (fnD (topSt 21) ⟨#[95, 108, 97, 119, 95, 108, 101, 120, 101, 114]⟩ .none .none (.str ⟨#[108, 97, 119, 95, 116, 120, 48, 48, 50, 57, 95, 48, 49]⟩ 408) (.ref 145))), #[]⟩),
  (150, ⟨(.type "code"), none, (.fields #[(.str ⟨#[95, 108, 97, 119, 95, 99, 104, 105, 112]⟩ 420), (.str ⟨#[95, 108, 97, 119, 95, 99, 104, 105, 112]⟩ 421), (.str ⟨#[47, 99, 108, 97, 105, 109, 47, 99, 117, 116, 46, 112, 121]⟩ 422), (.int (226) 0), (.int (1) 0), (.int (0) 0), (.int (0) 0), (.int (3) 0), (.ref 147), (.bool true), (.int (181) 0), (.ref 148), .none, .none, .none, (.ref 149), (.int (423) 0), (.int (226) 0), (.str ⟨#[47, 99, 108, 97, 105, 109, 47, 99, 117, 116, 46, 112, 121]⟩ 424)]), #[]⟩),
  (151, ⟨(.type "function"), none, (.func (fnD (topSt 22) ⟨#[95, 108, 97, 119, 95, 99, 104, 105, 112]⟩ .none .none (.str ⟨#[108, 97, 119, 95, 116, 120, 48, 48, 50, 57, 95, 48, 49]⟩ 408) (.ref 150))), #[]⟩),
  (155, ⟨(.type "code"), none, (.fields #[(.str ⟨#[95, 108, 97, 119, 95, 114, 101, 97, 100]⟩ 426), (.str ⟨#[95, 108, 97, 119, 95, 114, 101, 97, 100]⟩ 427), (.str ⟨#[47, 99, 108, 97, 105, 109, 47, 99, 117, 116, 46, 112, 121]⟩ 428), (.int (229) 0), (.int (1) 0), (.int (0) 0), (.int (0) 0), (.int (3) 0), (.ref 152), (.bool true), (.int (181) 0), (.ref 153), .none, .none, .none, (.ref 154), (.int (429) 0), (.int (229) 0), (.str ⟨#[47, 99, 108, 97, 105, 109, 47, 99, 117, 116, 46, 112, 121]⟩ 430)]), #[]⟩),
  (156, ⟨(.type "function"), none, (.func (fnD (topSt 23) ⟨#[95, 108, 97, 119, 95, 114, 101, 97, 100]⟩ .none .none (.str ⟨#[108, 97, 119, 95, 116, 120, 48, 48, 50, 57, 95, 48, 49]⟩ 408) (.ref 155))), #[]⟩),
  (162, ⟨(.type "code"), none, (.fields #[(.str ⟨#[95, 108, 97, 119, 95, 102, 97, 114]⟩ 432), (.str ⟨#[95, 108, 97, 119, 95, 102, 97, 114]⟩ 433), (.str ⟨#[47, 99, 108, 97, 105, 109, 47, 99, 117, 116, 46, 112, 121]⟩ 434), (.int (241) 0), (.int (2) 0), (.int (0) 0), (.int (0) 0), (.int (3) 0), (.ref 157), (.bool true), (.int (181) 0), (.ref 158), .none, (.ref 159), (.ref 160), (.ref 161), (.int (440) 0), (.int (241) 0), (.str ⟨#[47, 99, 108, 97, 105, 109, 47, 99, 117, 116, 46, 112, 121]⟩ 441)]), #[]⟩),
  (163, ⟨(.type "function"), none, (.func (fnD (topSt 24) ⟨#[95, 108, 97, 119, 95, 102, 97, 114]⟩ .none .none (.str ⟨#[108, 97, 119, 95, 116, 120, 48, 48, 50, 57, 95, 48, 49]⟩ 408) (.ref 162))), #[]⟩),
  (167, ⟨(.type "code"), none, (.fields #[(.str ⟨#[95, 108, 97, 119, 95, 102, 105, 114, 101, 100]⟩ 443), (.str ⟨#[95, 108, 97, 119, 95, 102, 105, 114, 101, 100]⟩ 444), (.str ⟨#[47, 99, 108, 97, 105, 109, 47, 99, 117, 116, 46, 112, 121]⟩ 445), (.int (250) 0), (.int (3) 0), (.int (0) 0), (.int (0) 0), (.int (3) 0), (.ref 164), (.bool true), (.int (181) 0), (.ref 165), .none, .none, .none, (.ref 166), (.int (446) 0), (.int (250) 0), (.str ⟨#[47, 99, 108, 97, 105, 109, 47, 99, 117, 116, 46, 112, 121]⟩ 447)]), #[]⟩),
  (168, ⟨(.type "function"), none, (.func (fnD (topSt 25) ⟨#[95, 108, 97, 119, 95, 102, 105, 114, 101, 100]⟩ .none .none (.str ⟨#[108, 97, 119, 95, 116, 120, 48, 48, 50, 57, 95, 48, 49]⟩ 408) (.ref 167))), #[]⟩),
  (172, ⟨(.type "code"), none, (.fields #[(.str ⟨#[108, 97, 119]⟩ 449), (.str ⟨#[108, 97, 119]⟩ 450), (.str ⟨#[47, 99, 108, 97, 105, 109, 47, 99, 117, 116, 46, 112, 121]⟩ 451), (.int (283) 0), (.int (1) 0), (.int (0) 0), (.int (0) 0), (.int (3) 0), (.ref 169), (.bool true), (.int (181) 0), (.ref 170), .none, .none, .none, (.ref 171), (.int (452) 0), (.int (283) 0), (.str ⟨#[47, 99, 108, 97, 105, 109, 47, 99, 117, 116, 46, 112, 121]⟩ 453)]), #[]⟩),
  (173, ⟨(.type "function"), none, (.func (fnD (topSt 26) ⟨#[108, 97, 119]⟩ .none .none (.str ⟨#[108, 97, 119, 95, 116, 120, 48, 48, 50, 57, 95, 48, 49]⟩ 408) (.ref 172))), #[]⟩)]

end Mine

section
open PySem.W.X PySem.W.ZRun
namespace Mine
noncomputable def qV : Program := { PP with main := { PP.main with body := [1, 3, 4, 5, 6, 7, 8, 9, 15, 16, 17, 18, 19, 21, 22, 23, 24, 25, 26].map topSt } }
noncomputable def looseV : List Str := ["bisect_right", "insort_left", "bisect_left"]
noncomputable def KV (P : Params) : Frag := (([141, 72, 79, 170] : List Addr).map fun a => (a, ({ cls := .none, data := .fields #[] } : Obj))) ++ ((4, ({ cls := .type "module", dict := some builtinsNs, data := .plain } : Obj)) :: K0 P)
noncomputable def keysV : List Addr := [141, 72, 79, 170] ++ 4 :: [2, 3, 27, 28, 34, 35, 41, 42, 48, 49, 51, 52, 62, 63, 69, 70, 76, 77, 83, 84, 90, 91, 97, 98, 99, 100, 106, 107, 108,   109, 115, 116, 117, 118, 124, 125, 131, 132, 138, 139, 145, 146, 150, 151, 155, 156, 162, 163, 167, 168, 172, 173]
theorem keysV_eq (P : Params) : keysV = (KV P).map (·.1) := by kernel_rfl
set_option maxHeartbeats 0 in
theorem left_ok : LeftO PP qV looseV (fun s => xlAt qV [] s && recOk [] s) (obsZ keysV) (valZ KV 174 455) 2080 := by
  intro w
  kernel_rfl
noncomputable abbrev lw : OpenLaw := PySem.Challenge.rw_tx0029_01
noncomputable abbrev lp : Program := lw.row.prog
theorem sa_and {a b : Bool} (x : a = true) (y : b = true) : (a && b) = true := by rw [x, y]; rfl
theorem sl_1 : sreFenced lp.main = true := by kernel_rfl
theorem sl_2 : ((moduleNames lp.main.body).isEmpty || lookedIntoSs (moduleNames lp.main.body) lp.main.body) = true := by kernel_rfl
theorem sl_3 : namesResolve lp = true := by kernel_rfl
theorem sl_4 : (lp.boundNames.all fun n => !worldNames.contains n) = true := by kernel_rfl
theorem sl_5 : noRoadLSs { strict := !(importedModules lp.main.body).all cThrough.contains, foot := none, bare := List.filter (readsOut lp lp.main.body) [Str.ofString "vars", Str.ofString "dir", Str.ofString "locals"] } lp.main.body = true := by kernel_rfl
theorem sl_6 : (namesMeet lp lp.main.body fun _ n => attrL n) = true := by kernel_rfl
theorem sl_ok : looksOpen lp = true := sa_and (sa_and (sa_and (sa_and (sa_and sl_1 sl_2) sl_3) sl_4) sl_5) sl_6
theorem sp_ok : lw.row.partSaid = true := by
  unfold OpenRow.partSaid
  rw [show looksOpen lw.row.prog = true from sl_ok]
  kernel_rfl
theorem sb_1 : lw.row.prog.boundNames.contains lw.row.name = true := by kernel_rfl
theorem sb_2 : (!startupNames.contains lw.row.name) = true := by kernel_rfl
theorem sa_1 : lw.row.wellSaid = true := sa_and (sa_and sp_ok sb_1) sb_2
theorem sa_2 : decide (lw.foot ≤ (behindTheImports lw.prog).length) = true := by kernel_rfl
theorem sa_3 : lw.footing.all footLine = true := by kernel_rfl
theorem sa_4 : noClassBlock lw.prog lw.footing = true := by kernel_rfl
theorem sa_5 : (lw.most.all fun n => decide (63 ≤ n)) = true := by kernel_rfl
theorem sa_6 : (lw.bound.all fun n => decide (2 ^ 63 ≤ n)) = true := by kernel_rfl
theorem sa_7 : noRoadLSs { strict := true, foot := some lw.bound', writes := lw.writes, may := lw.may } lw.footing = true := by kernel_rfl
theorem sa_8 : defStands lw.about lw.above = true := by kernel_rfl
theorem sa_9 : lw.namesIt = true := by kernel_rfl
theorem sa_10 : ([Str.ofString "type", Str.ofString "isinstance", Str.ofString "issubclass", Str.ofString "getattr", Str.ofString "hasattr"].all fun n => lw.about != [n]) = true := by kernel_rfl
theorem sa_11 : (lw.bound'.all fun n => !builtinNamed n || lw.about == [n] || !lw.reads n) = true := by kernel_rfl
theorem sa_12 : (!lw.writes || (lw.prog.main.body.flatMap importedNames).all fun n => !lw.reads n) = true := by kernel_rfl
theorem sa_13 : ((lw.prog.main.body.flatMap importedNames).all fun n => !lw.reads n || (drawsOf n lw.prog.main.body).all fun mn => mn.2 != Str.ofString "attrgetter" && mn.2 != Str.ofString "methodcaller") = true := by kernel_rfl
theorem sa_14 : (namesMeet lw.prog lw.footing fun sc n => (![Str.ofString "type", Str.ofString "isinstance", Str.ofString "issubclass", Str.ofString "getattr", Str.ofString "hasattr"].contains n || sc.names.lookup n == some NameKind.globalImplicit) &&
  (lw.may != some n || sc.kind == ScopeKind.module || sc.names.lookup n == some NameKind.globalImplicit)) = true := by kernel_rfl
theorem sa_15 : lw.own.contains lw.name = true := by kernel_rfl
theorem sa_16 : (lw.own.eraseDups.length == lw.own.length) = true := by kernel_rfl
theorem sa_17 : (lw.own.all fun n => !builtinNamed n) = true := by kernel_rfl
theorem sa_18 : (namesMeet lw.prog lw.above fun _ n => !lw.own.contains n) = true := by kernel_rfl
theorem sa_19 : (namesMeet lw.prog lw.footing fun sc n => sc.kind == ScopeKind.module || sc.names.lookup n != some NameKind.globalExplicit) = true := by kernel_rfl
theorem said_ok : PySem.Challenge.rw_tx0029_01.wellSaid = true :=
  sa_and (sa_and (sa_and (sa_and (sa_and (sa_and (sa_and (sa_and (sa_and (sa_and (sa_and (sa_and (sa_and (sa_and (sa_and (sa_and (sa_and (sa_and sa_1 sa_2) sa_3) sa_4) sa_5) sa_6) sa_7) sa_8) sa_9) sa_10) sa_11) sa_12) sa_13) sa_14) sa_15) sa_16) sa_17) sa_18) sa_19
noncomputable def lawD : DefRec × List (Str × Expr) := (defOf qV (Str.ofString "law")).getD (⟨"", default, [], default, default⟩, [])
end Mine
end

namespace Mine

/-- a value without its token -/
noncomputable def er : Value → Value
  | .int i _ => .int i 0
  | .str s _ => .str s 0
  | .float b _ => .float b 0
  | .bytes b _ => .bytes b 0
  | .none => .none | .ellipsis => .ellipsis | .notImplemented => .notImplemented | .bool b => .bool b
  | .type n => .type n | .builtin i => .builtin i | .ref a => .ref a

theorem er_int {v : Value} {i : Int} {t : Tok} (h : er v = .int i t) : ∃ t', v = .int i t' := by
  cases v <;> simp [er] at h; exact ⟨_, by rw [h.1]⟩
theorem er_str {v : Value} {i : Str} {t : Tok} (h : er v = .str i t) : ∃ t', v = .str i t' := by
  cases v <;> simp [er] at h; exact ⟨_, by rw [h.1]⟩
theorem er_ref {v : Value} {a : Addr} (h : er v = .ref a) : v = .ref a := by
  cases v <;> simp [er] at h; rw [h]
theorem er_bool {v : Value} {a : Bool} (h : er v = .bool a) : v = .bool a := by
  cases v <;> simp [er] at h; rw [h]
theorem er_none {v : Value} (h : er v = .none) : v = .none := by
  cases v <;> simp [er] at h; rfl
theorem er_builtin {v : Value} {a : String} (h : er v = .builtin a) : v = .builtin a := by
  cases v <;> simp [er] at h; rw [h]
theorem er_type {v : Value} {a : String} (h : er v = .type a) : v = .type a := by
  cases v <;> simp [er] at h; rw [h]
@[simp] theorem er_er (v : Value) : er (er v) = er v := by cases v <;> rfl

structure FnA where
  params : Arguments
  body : FuncBody
  scope : Scope
  closure : List (Str × Addr)
  dict : Option Addr

/-- an iterator, or a range -/
inductive ItA where
  | call (f t : Value)
  | done
  | list (l : Addr) (i : Nat)
  | rev (l : Addr) (i : Int)
  | range (x left step : Int)
  | rng (a b c : Int)
  | str (x : Str) (i : Nat)
  | enum (it : Addr) (i : Nat) (old : Value)
  | meth (f x : Addr)

structure AH where
  ls : Addr → Option (List Value)
  ts : Addr → Option (List Value)
  cs : Addr → Option (Option Value)
  ds : Addr → Option (List (Str × Value))
  xs : Addr → Option Addr
  fs : Addr → Option FnA
  is : Addr → Option ItA

noncomputable def AH.dom (H : AH) (a : Addr) : Prop :=
  H.ls a ≠ none ∨ H.ts a ≠ none ∨ H.cs a ≠ none ∨ H.ds a ≠ none ∨ H.xs a ≠ none ∨ H.fs a ≠ none ∨ H.is a ≠ none

noncomputable def tabA : List Addr := [141, 72, 79, 170]

noncomputable def IsLs (h : Heap) (a : Addr) (xs : List Value) : Prop := ∃ items n, h.get? a = some ⟨.type "list", none, .seq items n, #[]⟩ ∧ items.toList.map er = xs
noncomputable def IsTs (h : Heap) (a : Addr) (xs : List Value) : Prop := ∃ items n, h.get? a = some ⟨.type "tuple", none, .seq items n, #[]⟩ ∧ items.toList.map er = xs
noncomputable def IsCs (h : Heap) (a : Addr) (v : Option Value) : Prop := ∃ v', h.get? a = some ⟨.type "cell", none, .cell v', #[]⟩ ∧ v'.map er = v
noncomputable def erE (e : DictEntry) : Str × Value := (match e.key with | .str s _ => s | _ => ⟨#[]⟩, er e.val)
noncomputable def IsDs (P : Params) (h : Heap) (a : Addr) (kv : List (Str × Value)) : Prop := ∃ (es : Array DictEntry) (n : Nat), h.get? a = some ⟨.type "dict", none, .dict es n, #[]⟩ ∧
  (∀ e ∈ es.toList, ∃ k t, e.key = .str k t ∧ e.hash = PyData.keyHash P k) ∧ es.toList.map erE = kv ∧ (kv.map (·.1)).Nodup
noncomputable def IsXs (h : Heap) (a : Addr) (d : Addr) : Prop := h.get? a = some ⟨.ref 52, some d, .plain, #[]⟩
noncomputable def CodeAt (h : Heap) (cd : Value) (q : Str) : Prop := ∃ c d vs sl t, cd = .ref c ∧ h.get? c = some ⟨.type "code", d, .fields vs, sl⟩ ∧ vs[1]? = some (.str q t)
theorem CodeAt.rec {h : Heap} {cd q} (x : CodeAt h cd q) : h.CodeRec cd q := let ⟨c, _, vs, _, t, e, g, r⟩ := x; ⟨c, _, vs, t, e, g, rfl, r⟩
noncomputable def IsFs (h : Heap) (a : Addr) (f : FnA) : Prop := ∃ (fd : FuncData) (sl : Array (Option Value)), h.get? a = some ⟨.type "function", f.dict, .func fd, sl⟩ ∧ fd.params = f.params ∧ fd.body = f.body ∧ fd.scope = f.scope ∧ fd.closure = f.closure ∧
  fd.globals = mainGlobals ∧ fd.builtins = builtinsNs ∧ fd.defaults = .none ∧ fd.kwdefaults = .none ∧ ∃ q, CodeAt h fd.code q
noncomputable def ItO (o : Obj) : ItA → Prop
  | .call f t => ∃ f' t' sl, o = ⟨.type "callable_iterator", none, .fields #[f', t', .bool false], sl⟩ ∧ er f' = f ∧ er t' = t
  | .done => ∃ sl, o = ⟨.type "callable_iterator", none, .fields #[.none, .none, .bool true], sl⟩
  | .list l i => o.cls = .type "list_iterator" ∧ o.data = .fields #[.ref l, .int i 0]
  | .rev l i => o.cls = .type "list_reverseiterator" ∧ o.data = .fields #[.ref l, rawInt i]
  | .range x left step => o = { cls := .type "range_iterator", dict := none, data := .fields #[rawInt x, rawInt left, rawInt step], slots := #[] }
  | .rng a b c => ∃ t u v, o = { cls := .type "range", dict := none, data := .fields #[.int a t, .int b u, .int c v], slots := #[] }
  | .str x i => ∃ t, o.cls = .type (strIterType x) ∧ o.data = .fields #[.str x t, .int i 0]
  | .enum it i old => o = { cls := .type "enumerate", data := .fields #[.none, .bool false, .ref it, .int i 0, .none, old] }
  | .meth f x => o = { cls := .type "method", data := .fields #[.ref f, .ref x] }
noncomputable def IsIs (h : Heap) (a : Addr) (x : ItA) : Prop := ∃ o, h.get? a = some o ∧ ItO o x
noncomputable def itTypes : List String := ["callable_iterator", "list_iterator", "list_reverseiterator", "range_iterator", "range", "str_ascii_iterator", "str_iterator", "enumerate", "method"]
theorem ItO.cls {o : Obj} {x : ItA} (h : ItO o x) : ∃ T ∈ itTypes, o.cls = .type T := by
  cases x with
  | call f t => obtain ⟨_, _, _, rfl, _⟩ := h; exact ⟨_, by decide, rfl⟩
  | done => obtain ⟨_, rfl⟩ := h; exact ⟨_, by decide, rfl⟩
  | list l i => exact ⟨_, by decide, h.1⟩
  | rev l i => exact ⟨_, by decide, h.1⟩
  | range x l st => rw [show o = _ from h]; exact ⟨_, by decide, rfl⟩
  | rng a b c => obtain ⟨_, _, _, rfl⟩ := h; exact ⟨_, by decide, rfl⟩
  | str x i =>
    obtain ⟨_, h, _⟩ := h
    refine ⟨_, ?_, h⟩
    unfold strIterType
    split <;> decide
  | enum it i old => rw [show o = _ from h]; exact ⟨_, by decide, rfl⟩
  | meth f x => rw [show o = _ from h]; exact ⟨_, by decide, rfl⟩

/-- the code tables that the run may fill: (owner's code, table) -/
noncomputable def tabs : List (Addr × Addr) := [(145, 141), (76, 72), (83, 79), (172, 170)]
theorem tabs_low : ∀ p ∈ tabs, p.1 < 175 ∧ p.2 < 175 := by decide
structure TabOk (h₀ h : Heap) (p : Addr × Addr) : Prop where
  start : ∃ ps, h₀.TableAt p.1 p.2 ps
  now : ∃ ps, h.IsCode p.1 p.2 ps ∧ h.TableAt p.1 p.2 ps ∧ ∀ pos c, codeAmong pos ps.toList = some c → ∃ q, CodeAt h c q

structure InvH (w : World) (h₀ : Heap) (H : AH) (s : Shared) : Prop where
  base : (K0 w.params).In s.heap
  big : 175 ≤ h₀.objs.size
  grown : h₀.objs.size ≤ s.heap.objs.size
  old : OldK h₀ s.heap
  bi : ∃ mb, s.heap.Ns builtinsNs mb ∧ ∀ x : Str, x ≠ "__name__" → mb x = bootBuiltins x
  gl : ∃ mg, s.heap.Ns mainGlobals mg
  bm : ∃ ob, s.heap.get? 4 = some ob ∧ ob.cls = .type "module" ∧ ob.dict = some builtinsNs ∧ ob.data = .plain
  tab : ∀ p ∈ tabs, TabOk h₀ s.heap p
  low : ∀ a, H.dom a → h₀.objs.size ≤ a ∧ a < s.heap.objs.size
  ls : ∀ a x, H.ls a = some x → IsLs s.heap a x
  ts : ∀ a x, H.ts a = some x → IsTs s.heap a x
  cs : ∀ a x, H.cs a = some x → IsCs s.heap a x
  ds : ∀ a x, H.ds a = some x → IsDs w.params s.heap a x
  xs : ∀ a x, H.xs a = some x → IsXs s.heap a x
  fs : ∀ a x, H.fs a = some x → IsFs s.heap a x
  is : ∀ a x, H.is a = some x → IsIs s.heap a x
  gens : s.gens = #[]

structure StepH (H : AH) (s : Shared) (H' : AH) (s' : Shared) : Prop where
  keep : ∀ b o, s.heap.get? b = some o → ¬ H.dom b → b ∉ tabA → s'.heap.get? b = some o
  dom : ∀ b, H'.dom b → H.dom b ∨ s.heap.objs.size ≤ b
  size : s.heap.objs.size ≤ s'.heap.objs.size
  os : s'.os = s.os

theorem StepH.refl {H : AH} {s : Shared} : StepH H s H s := ⟨fun _ _ e _ _ => e, fun _ h => .inl h, Nat.le_refl _, rfl⟩
theorem StepH.trans {H H' H'' : AH} {s s' s'' : Shared} (x : StepH H s H' s') (y : StepH H' s' H'' s'') : StepH H s H'' s'' :=
  ⟨fun b o e hb ht => y.keep b o (x.keep b o e hb ht) (fun hd => (x.dom b hd).elim hb fun q => Nat.not_lt.mpr q (Heap.lt_size e)) ht,
   fun b hb => (y.dom b hb).elim (fun q => x.dom b q) fun q => .inr (Nat.le_trans x.size q), Nat.le_trans x.size y.size, y.os.trans x.os⟩

theorem oldK_ext {h₀ h h' : Heap} (K : OldK h₀ h) {a : Addr} (ha : h₀.objs.size ≤ a) (hs : ∀ b o, b ≠ a → h.get? b = some o → h'.get? b = some o) : OldK h₀ h' := by
  have ne : ∀ b o, h₀.get? b = some o → b ≠ a := fun b o e => Nat.ne_of_lt (Nat.lt_of_lt_of_le (Heap.lt_size e) ha)
  refine ⟨fun b o e => ?_, fun b o e => let ⟨o', ho'⟩ := K.there b o e; ⟨o', hs b _ (ne b o e) ho'⟩⟩
  rcases K.old b o e with x | ⟨t, hc, vs, more, hv, x⟩ | ⟨rfl, hc, ⟨o', es, n, ho', r⟩, z⟩
  · exact .inl (hs b _ (ne b o e) x)
  · exact .inr (.inl ⟨t, hc, vs, more, hv, hs b _ (ne b o e) x⟩)
  · exact .inr (.inr ⟨rfl, hc, ⟨o', es, n, hs _ _ (ne _ o e) ho', r⟩, fun key => by rw [OldK.staticOf_congr ((hs _ _ (ne _ o e) ho').trans ho'.symm) key]; exact z key⟩)

theorem k0_low (P : Params) : ∀ p ∈ K0 P, p.1 < 175 := by
  have h : ((K0 P).map (·.1)).all (fun a => decide (a < 175)) = true := by rfl
  intro p hp
  have := List.all_eq_true.mp h p.1 (List.mem_map_of_mem hp)
  exact of_decide_eq_true this

theorem lookup_mem {α : Type} : ∀ {l : List (Addr × α)} {a : Addr} {o : α}, l.lookup a = some o → (a, o) ∈ l
  | [], _, _, e => by cases e
  | (b, x) :: r, a, o, e => by
    rw [List.lookup_cons] at e
    cases h : a == b with
    | true => rw [h] at e; cases e; rw [beq_iff_eq.mp h]; exact .head _
    | false => rw [h] at e; exact .tail _ (lookup_mem e)

noncomputable def NotCode (o : Obj) : Prop := ∀ vs, o.cls = .type "code" → o.data ≠ .fields vs
theorem NotCode.cls {o : Obj} (h : o.cls ≠ .type "code") : NotCode o := fun _ e => absurd e h
theorem NotCode.dict {o : Obj} {es n} (h : o.data = .dict es n) : NotCode o := fun _ _ e => by rw [h] at e; cases e
theorem CodeAt.ext {h h' : Heap} {cd q} (x : CodeAt h cd q) {a : Addr} (hx : ∀ b o, b ≠ a → h.get? b = some o → h'.get? b = some o) (hc : ∀ o, h.get? a = some o → NotCode o) : CodeAt h' cd q :=
  let ⟨c, d, vs, sl, t, e, g, r⟩ := x; ⟨c, d, vs, sl, t, e, hx _ _ (fun z => hc _ (z ▸ g) _ rfl rfl) g, r⟩

structure Agree (H H' : AH) (a : Addr) : Prop where
  ls : ∀ b, b ≠ a → H'.ls b = H.ls b
  ts : ∀ b, b ≠ a → H'.ts b = H.ts b
  cs : ∀ b, b ≠ a → H'.cs b = H.cs b
  ds : ∀ b, b ≠ a → H'.ds b = H.ds b
  xs : ∀ b, b ≠ a → H'.xs b = H.xs b
  fs : ∀ b, b ≠ a → H'.fs b = H.fs b
  is : ∀ b, b ≠ a → H'.is b = H.is b

theorem Agree.dom {H H' : AH} {a b : Addr} (A : Agree H H' a) (h : b ≠ a) : H'.dom b ↔ H.dom b := by
  unfold AH.dom
  rw [A.ls b h, A.ts b h, A.cs b h, A.ds b h, A.xs b h, A.fs b h, A.is b h]

theorem InvH.core {w : World} {h₀ : Heap} {H H' : AH} {s s' : Shared} (I : InvH w h₀ H s) (a : Addr)
    (hx : ∀ b o, b ≠ a → s.heap.get? b = some o → s'.heap.get? b = some o) (ha : h₀.objs.size ≤ a) (hlt : a < s'.heap.objs.size) (hsz : s.heap.objs.size ≤ s'.heap.objs.size)
    (hg : s'.gens = s.gens) (hos : s'.os = s.os) (hd : H.dom a ∨ s.heap.objs.size ≤ a) (hc : ∀ o, s.heap.get? a = some o → NotCode o)
    (A : Agree H H' a)
    (ls : ∀ x, H'.ls a = some x → IsLs s'.heap a x) (ts : ∀ x, H'.ts a = some x → IsTs s'.heap a x) (cs : ∀ x, H'.cs a = some x → IsCs s'.heap a x)
    (ds : ∀ x, H'.ds a = some x → IsDs w.params s'.heap a x) (xs : ∀ x, H'.xs a = some x → IsXs s'.heap a x) (fs : ∀ x, H'.fs a = some x → IsFs s'.heap a x)
    (is : ∀ x, H'.is a = some x → IsIs s'.heap a x) : InvH w h₀ H' s' ∧ StepH H s H' s' := by
  have lt : ∀ b, b < 175 → b ≠ a := fun b hb e => Nat.lt_irrefl _ (Nat.lt_of_lt_of_le (e ▸ hb) (Nat.le_trans I.big ha))
  refine ⟨⟨fun b o e => hx b o (lt b (k0_low _ _ (lookup_mem e))) (I.base b o e), I.big, Nat.le_trans I.grown hsz, oldK_ext I.old ha hx, ?_, ?_, ?_, fun p hp => ?_, fun b hb => ?_, ?_, ?_, ?_, ?_, ?_, ?_, ?_, hg.trans I.gens⟩, ?_, fun b hb => ?_, hsz, hos⟩
  · obtain ⟨mb, hn, hb⟩ := I.bi
    obtain ⟨o, es, ep, e, r⟩ := hn
    exact ⟨mb, ⟨o, es, ep, hx _ _ (lt _ (by decide)) e, r⟩, hb⟩
  · obtain ⟨mb, o, es, ep, e, r⟩ := I.gl
    exact ⟨mb, ⟨o, es, ep, hx _ _ (lt _ (by decide)) e, r⟩⟩
  · obtain ⟨ob, e, r⟩ := I.bm; exact ⟨ob, hx _ _ (lt _ (by decide)) e, r⟩
  · obtain ⟨h1, ps, hco, hta, hcs⟩ := I.tab p hp
    have l1 : p.1 ≠ a := lt _ (tabs_low p hp).1
    have l2 : p.2 ≠ a := lt _ (tabs_low p hp).2
    refine ⟨h1, ps, ?_, hta.extBut (a := a) hx l1 l2, fun pos c q => let ⟨q, hq⟩ := hcs pos c q; ⟨q, hq.ext hx hc⟩⟩
    exact hco.extBut (a := a) hx l1 l2
  · by_cases e : b = a
    · subst e; exact ⟨ha, hlt⟩
    · have := I.low b ((A.dom e).mp hb); exact ⟨this.1, Nat.lt_of_lt_of_le this.2 hsz⟩
  · intro b x e
    by_cases h : b = a
    · subst h; exact ls x e
    · rw [A.ls b h] at e; obtain ⟨i, n, g, r⟩ := I.ls b x e; exact ⟨i, n, hx _ _ h g, r⟩
  · intro b x e
    by_cases h : b = a
    · subst h; exact ts x e
    · rw [A.ts b h] at e; obtain ⟨i, n, g, r⟩ := I.ts b x e; exact ⟨i, n, hx _ _ h g, r⟩
  · intro b x e
    by_cases h : b = a
    · subst h; exact cs x e
    · rw [A.cs b h] at e; obtain ⟨i, g, r⟩ := I.cs b x e; exact ⟨i, hx _ _ h g, r⟩
  · intro b x e
    by_cases h : b = a
    · subst h; exact ds x e
    · rw [A.ds b h] at e; obtain ⟨i, n, g, r⟩ := I.ds b x e; exact ⟨i, n, hx _ _ h g, r⟩
  · intro b x e
    by_cases h : b = a
    · subst h; exact xs x e
    · rw [A.xs b h] at e; exact hx _ _ h (I.xs b x e)
  · intro b x e
    by_cases h : b = a
    · subst h; exact fs x e
    · rw [A.fs b h] at e
      obtain ⟨fd, sl, g, e1, e2, e3, e4, e5, e6, e7, e8, q, r⟩ := I.fs b x e
      exact ⟨fd, sl, hx _ _ h g, e1, e2, e3, e4, e5, e6, e7, e8, q, r.ext hx hc⟩
  · intro b x e
    by_cases h : b = a
    · subst h; exact is x e
    · rw [A.is b h] at e; obtain ⟨i, g, r⟩ := I.is b x e; exact ⟨i, hx _ _ h g, r⟩
  · intro b o e hb _
    refine hx b o (fun h => ?_) e
    subst h
    exact hd.elim hb fun q => Nat.not_lt.mpr q (Heap.lt_size e)
  · by_cases e : b = a
    · subst e; exact hd
    · exact .inl ((A.dom e).mp hb)

/-- the heap only grew -/
theorem InvH.ext {w : World} {h₀ : Heap} {H : AH} {s s' : Shared} (I : InvH w h₀ H s) (hx : ∀ b o, s.heap.get? b = some o → s'.heap.get? b = some o) (hsz : s.heap.objs.size ≤ s'.heap.objs.size)
    (hg : s'.gens = s.gens) (hos : s'.os = s.os) : InvH w h₀ H s' ∧ StepH H s H s' := by
  refine ⟨⟨I.base.keeps hx, I.big, Nat.le_trans I.grown hsz, I.old.step_keeps hx, ?_, ?_, ?_, fun p hp => ?_, fun b hb => ?_, ?_, ?_, ?_, ?_, ?_, ?_, ?_, hg.trans I.gens⟩, fun b o e _ _ => hx b o e, fun b hb => .inl hb, hsz, hos⟩
  · obtain ⟨mb, hn, hb⟩ := I.bi; exact ⟨mb, hn.keeps hx, hb⟩
  · obtain ⟨mb, hn⟩ := I.gl; exact ⟨mb, hn.keeps hx⟩
  · obtain ⟨ob, e, r⟩ := I.bm; exact ⟨ob, hx _ _ e, r⟩
  · obtain ⟨h1, ps, hco, hta, hcs⟩ := I.tab p hp
    exact ⟨h1, ps, hco.keeps hx, hta.keeps hx, fun pos c q => let ⟨q, c, d, vs, sl, t, e, g, r⟩ := hcs pos c q; ⟨q, c, d, vs, sl, t, e, hx _ _ g, r⟩⟩
  · have := I.low b hb; exact ⟨this.1, Nat.lt_of_lt_of_le this.2 hsz⟩
  · intro b x e; obtain ⟨i, n, g, r⟩ := I.ls b x e; exact ⟨i, n, hx _ _ g, r⟩
  · intro b x e; obtain ⟨i, n, g, r⟩ := I.ts b x e; exact ⟨i, n, hx _ _ g, r⟩
  · intro b x e; obtain ⟨i, g, r⟩ := I.cs b x e; exact ⟨i, hx _ _ g, r⟩
  · intro b x e; obtain ⟨i, n, g, r⟩ := I.ds b x e; exact ⟨i, n, hx _ _ g, r⟩
  · intro b x e; exact hx _ _ (I.xs b x e)
  · intro b x e
    obtain ⟨fd, sl, g, e1, e2, e3, e4, e5, e6, e7, e8, q0, c, d, vs, sl', t, q1, q2, q3⟩ := I.fs b x e
    exact ⟨fd, sl, hx _ _ g, e1, e2, e3, e4, e5, e6, e7, e8, q0, c, d, vs, sl', t, q1, hx _ _ q2, q3⟩
  · intro b x e; obtain ⟨i, g, r⟩ := I.is b x e; exact ⟨i, hx _ _ g, r⟩

theorem InvH.nolim {w : World} {h₀ : Heap} {H : AH} {s : Shared} (I : InvH w h₀ H s) : s.heap.NoLimit := by
  refine ⟨fun _ => none, ⟨_, #[], 0, I.base 2 _ rfl, rfl, fun e he => by simp at he, fun _ => rfl⟩, rfl⟩
end Mine

namespace Mine

noncomputable def AA (n : Nat) : Around := { handled := none, depth := 310 + 4 * n, frames := none, guards := none, units := 20 + 60 * n }

structure ALe (A B : Around) : Prop where
  handled : A.handled = B.handled
  depth : A.depth ≤ B.depth
  frames : B.frames = none
  guards : B.guards = none
  units : A.units ≤ B.units
theorem ALe.in {A B : Around} (l : ALe A B) {Γ : Ctx} (h : Γ.In A) : Γ.In B :=
  ⟨h.1.trans l.handled, Nat.le_trans h.2.1 l.depth, fun x e => (by rw [l.frames] at e; cases e), fun x e => (by rw [l.guards] at e; cases e), Nat.le_trans h.2.2.2.2 l.units⟩
theorem ALe.below {A B : Around} (l : ALe A B) {Γ : Ctx} (h : Γ.Below A) : Γ.Below B :=
  ⟨h.1.trans l.handled, Nat.le_trans h.2.1 l.depth, fun x e => (by rw [l.frames] at e; cases e), fun x e => (by rw [l.guards] at e; cases e), Nat.le_trans h.2.2.2.2 l.units⟩
theorem wpAny_le {M : Model} {A B : Around} {α : Type} {t : Sem α} {Q E s} (l : ALe A B) (h : wpAny M B t Q E s) : wpAny M A t Q E s := fun Γ p hΓ => h Γ p (l.in hΓ)
theorem codeAny_le {M : Model} {A B : Around} {c : Code} {R s} (l : ALe A B) (h : codeAny M B c R s) : codeAny M A c R s := fun Γ p hc hΓ => h Γ p hc (l.below hΓ)
theorem ale_mono {n m : Nat} (h : n ≤ m) : ALe (AA n) (AA m) := ⟨rfl, by simp [AA]; omega, rfl, rfl, by simp [AA]; omega⟩
theorem ale_in1 (n : Nat) : ALe (AA n).in1 (AA (n + 1)) := ⟨rfl, by simp [AA, Around.in1]; omega, rfl, rfl, by simp [AA, Around.in1]; omega⟩
theorem ale_deeper (n : Nat) (env : Env) : ALe ((AA n).deeper env) (AA (n + 1)) := ⟨rfl, by simp [AA, Around.deeper]; omega, rfl, rfl, by simp [AA, Around.deeper]; omega⟩
theorem aa_room {n : Nat} (h : n ≤ 100) : (AA n).depth < recursionLimit := by simp [AA, recursionLimit]; omega
theorem aa_units {n : Nat} (h : n ≤ 100) : (AA n).units < cLine := by simp [AA, cLine]; omega
theorem aa_mark (n : Nat) : (AA n).mark none = AA n := rfl

noncomputable abbrev MM (w : World) : Model := model PP w
noncomputable def NoE : Value → Shared → Prop := fun _ _ => False

variable {w : World} {h₀ : Heap}

/-- what a tree gives, over the abstract heap -/
noncomputable def HPost (w : World) (h₀ : Heap) {α : Type} (H : AH) (s : Shared) (Q : α → AH → Prop) (a : α) (s' : Shared) : Prop := ∃ H', InvH w h₀ H' s' ∧ StepH H s H' s' ∧ Q a H'
noncomputable def HT (w : World) (h₀ : Heap) {α : Type} (n : Nat) (t : Sem α) (H : AH) (Q : α → AH → Prop) : Prop :=
  ∀ s, InvH w h₀ H s → wpAny (MM w) (AA n) t (HPost w h₀ H s Q) NoE s

theorem HPost.step {α : Type} {H H₁ : AH} {s s₁ : Shared} {Q : α → AH → Prop} {a s'} (S : StepH H s H₁ s₁) (h : HPost w h₀ H₁ s₁ Q a s') : HPost w h₀ H s Q a s' :=
  let ⟨H', I, S', q⟩ := h; ⟨H', I, S.trans S', q⟩
theorem HPost.mono {α : Type} {H : AH} {s : Shared} {Q Q' : α → AH → Prop} {a s'} (h : HPost w h₀ H s Q a s') (hq : ∀ H', Q a H' → Q' a H') : HPost w h₀ H s Q' a s' :=
  let ⟨H', I, S', q⟩ := h; ⟨H', I, S', hq _ q⟩

theorem HT.pure {α : Type} {n : Nat} {a : α} {H : AH} {Q : α → AH → Prop} (h : Q a H) : HT w h₀ n (pure a) H Q := fun s I => wpAny_pure ⟨H, I, .refl, h⟩
theorem HT.bind {α β : Type} {n : Nat} {t : Sem α} {f : α → Sem β} {H : AH} {Q : β → AH → Prop} (h : HT w h₀ n t H (fun a H' => HT w h₀ n (f a) H' Q)) : HT w h₀ n (t >>= f) H Q := fun s I =>
  wpAny_bind (wpAny_mono (h s I) (fun a s₁ ⟨H₁, I₁, S₁, q⟩ => wpAny_mono (q s₁ I₁) (fun b s₂ r => r.step S₁) fun _ _ e => e) fun _ _ e => e)
theorem HT.mono {α : Type} {n : Nat} {t : Sem α} {H : AH} {Q Q' : α → AH → Prop} (h : HT w h₀ n t H Q) (hq : ∀ a H', Q a H' → Q' a H') : HT w h₀ n t H Q' := fun s I =>
  wpAny_mono (h s I) (fun a s₁ r => r.mono (hq a)) fun _ _ e => e
theorem HT.le {α : Type} {n m : Nat} {t : Sem α} {H : AH} {Q : α → AH → Prop} (h : HT w h₀ m t H Q) (l : n ≤ m) : HT w h₀ n t H Q := fun s I => wpAny_le (ale_mono l) (h s I)
theorem HT.holding {α : Type} {n : Nat} {vs : List Value} {t : Sem α} {H : AH} {Q : α → AH → Prop} (h : HT w h₀ n t H Q) : HT w h₀ n (holding vs t) H Q := fun s I => wpAny_holding (h s I)

theorem looks_at {α : Type} {M : Model} {A : Around} {t : Sem α} {r : α} {Q : α → Shared → Prop} {E : Value → Shared → Prop} {s : Shared} (x : Looks M s.heap t r) (q : Q r s) : wpAny M A t Q E s := x A Q E s (fun _ _ e => e) q
theorem HT.looks {α : Type} {n : Nat} {t : Sem α} {r : α} {H : AH} {Q : α → AH → Prop} (x : ∀ s, InvH w h₀ H s → Looks (MM w) s.heap t r) (h : Q r H) : HT w h₀ n t H Q := fun s I => looks_at (x s I) ⟨H, I, .refl, h⟩

/-- only tokens turn -/
theorem InvH.tok {H : AH} {s : Shared} (I : InvH w h₀ H s) (t : Tok) : InvH w h₀ H { s with toks := t } ∧ StepH H s H { s with toks := t } := I.ext (fun _ _ e => e) (Nat.le_refl _) rfl rfl
theorem hpost_tok {α : Type} {H : AH} {s : Shared} {Q : α → AH → Prop} {a : α} {t : Tok} (I : InvH w h₀ H s) (q : Q a H) : HPost w h₀ H s Q a { s with toks := t } := ⟨H, (I.tok t).1, (I.tok t).2, q⟩

structure AHle (H H' : AH) : Prop where
  ls : ∀ a x, H.ls a = some x → H'.ls a = some x
  ts : ∀ a x, H.ts a = some x → H'.ts a = some x
  cs : ∀ a x, H.cs a = some x → H'.cs a = some x
  ds : ∀ a x, H.ds a = some x → H'.ds a = some x
  xs : ∀ a x, H.xs a = some x → H'.xs a = some x
  fs : ∀ a x, H.fs a = some x → H'.fs a = some x
  is : ∀ a x, H.is a = some x → H'.is a = some x
theorem AHle.refl {H : AH} : AHle H H := ⟨fun _ _ e => e, fun _ _ e => e, fun _ _ e => e, fun _ _ e => e, fun _ _ e => e, fun _ _ e => e, fun _ _ e => e⟩
theorem AHle.trans {H H' H'' : AH} (x : AHle H H') (y : AHle H' H'') : AHle H H'' :=
  ⟨fun a v e => y.ls a v (x.ls a v e), fun a v e => y.ts a v (x.ts a v e), fun a v e => y.cs a v (x.cs a v e), fun a v e => y.ds a v (x.ds a v e), fun a v e => y.xs a v (x.xs a v e), fun a v e => y.fs a v (x.fs a v e), fun a v e => y.is a v (x.is a v e)⟩
theorem AHle.dom {H H' : AH} (l : AHle H H') {a : Addr} (d : H.dom a) : H'.dom a := by
  rcases d with e | e | e | e | e | e | e
  · obtain ⟨x, e⟩ := Option.ne_none_iff_exists'.mp e; exact .inl (by rw [l.ls a x e]; simp)
  · obtain ⟨x, e⟩ := Option.ne_none_iff_exists'.mp e; exact .inr (.inl (by rw [l.ts a x e]; simp))
  · obtain ⟨x, e⟩ := Option.ne_none_iff_exists'.mp e; exact .inr (.inr (.inl (by rw [l.cs a x e]; simp)))
  · obtain ⟨x, e⟩ := Option.ne_none_iff_exists'.mp e; exact .inr (.inr (.inr (.inl (by rw [l.ds a x e]; simp))))
  · obtain ⟨x, e⟩ := Option.ne_none_iff_exists'.mp e; exact .inr (.inr (.inr (.inr (.inl (by rw [l.xs a x e]; simp)))))
  · obtain ⟨x, e⟩ := Option.ne_none_iff_exists'.mp e; exact .inr (.inr (.inr (.inr (.inr (.inl (by rw [l.fs a x e]; simp))))))
  · obtain ⟨x, e⟩ := Option.ne_none_iff_exists'.mp e; exact .inr (.inr (.inr (.inr (.inr (.inr (by rw [l.is a x e]; simp))))))
theorem InvH.less {H H' : AH} {s : Shared} (I : InvH w h₀ H' s) (l : AHle H H') : InvH w h₀ H s :=
  ⟨I.base, I.big, I.grown, I.old, I.bi, I.gl, I.bm, I.tab, fun a d => I.low a (l.dom d), fun a x e => I.ls a x (l.ls a x e), fun a x e => I.ts a x (l.ts a x e), fun a x e => I.cs a x (l.cs a x e), fun a x e => I.ds a x (l.ds a x e),
   fun a x e => I.xs a x (l.xs a x e), fun a x e => I.fs a x (l.fs a x e), fun a x e => I.is a x (l.is a x e), I.gens⟩
theorem StepH.less {H H₁ H₂ : AH} {s s' : Shared} (S : StepH H s H₂ s') (l : AHle H₁ H₂) : StepH H s H₁ s' := ⟨S.keep, fun b d => S.dom b (l.dom d), S.size, S.os⟩
/-- at an end: what is no longer wanted of the heap is dropped -/
@[reducible] noncomputable def kDrop {α : Type} (Q : α → AH → Prop) : α → AH → Prop := fun a H' => ∃ H'', AHle H'' H' ∧ Q a H''
theorem HT.drop {α : Type} {n : Nat} {t : Sem α} {H : AH} {Q : α → AH → Prop} (h : HT w h₀ n t H (kDrop Q)) : HT w h₀ n t H Q := fun s I =>
  wpAny_mono (h s I) (fun a s₁ ⟨H₁, I₁, S₁, H₂, l, q⟩ => ⟨H₂, I₁.less l, S₁.less l, q⟩) fun _ _ e => e

/-! ## calls -/
noncomputable def RPost (w : World) (h₀ : Heap) (H : AH) (s : Shared) (Q : Value → AH → Prop) (r : Result) (s' : Shared) : Prop := ∃ v, r = .ok (.ret v) ∧ HPost w h₀ H s (fun v => Q (er v)) v s'
/-- a call of f upon args and kw, all told without tokens -/
noncomputable def CallT (w : World) (h₀ : Heap) (n : Nat) (f : Value) (args : List Value) (kw : List (Str × Value)) (H : AH) (Q : Value → AH → Prop) : Prop :=
  ∀ f' args' kw', er f' = f → args'.map er = args → kw'.map (fun p => (p.1, er p.2)) = kw → ∀ s, InvH w h₀ H s → codeAny (MM w) (AA n) (.call f' ⟨args', kw'⟩) (RPost w h₀ H s Q) s

theorem CallT.le {n m : Nat} {f args kw H Q} (h : CallT w h₀ m f args kw H Q) (l : n ≤ m) : CallT w h₀ n f args kw H Q := fun f' a' k' e1 e2 e3 s I => codeAny_le (ale_mono l) (h f' a' k' e1 e2 e3 s I)
theorem CallT.mono {n : Nat} {f args kw H} {Q Q' : Value → AH → Prop} (h : CallT w h₀ n f args kw H Q) (hq : ∀ v H', Q v H' → Q' v H') : CallT w h₀ n f args kw H Q' := fun f' a' k' e1 e2 e3 s I =>
  codeAny_mono (h f' a' k' e1 e2 e3 s I) fun r s' ⟨v, e, p⟩ => ⟨v, e, p.mono (hq _)⟩
theorem CallT.drop {n : Nat} {f args kw H} {Q : Value → AH → Prop} (h : CallT w h₀ n f args kw H (kDrop Q)) : CallT w h₀ n f args kw H Q := fun f' a' k' e1 e2 e3 s I =>
  codeAny_mono (h f' a' k' e1 e2 e3 s I) fun r s' ⟨v, e, H₁, I₁, S₁, H₂, l, q⟩ => ⟨v, e, H₂, I₁.less l, S₁.less l, q⟩
theorem HT.call {n : Nat} {f : Value} {pos : List Value} {kw : List (Str × Value)} {H : AH} {Q : Value → AH → Prop}
    (h : CallT w h₀ n (er f) (pos.map er) (kw.map fun p => (p.1, er p.2)) H Q) : HT w h₀ n (PySem.call f pos kw) H (fun v => Q (er v)) := fun s I =>
  wpAny_call (codeAny_mono (h f pos kw rfl rfl rfl s I) fun r s' ⟨v, e, p⟩ => by subst e; exact p)

/-! ## within a frame -/
structure Cx where
  n : Nat
  env : Env
noncomputable abbrev Lo := List (Str × Value)
structure St where
  lo : Lo
  H : AH
structure Inv (w : World) (h₀ : Heap) (c : Cx) (st : St) (s : Shared) : Prop where
  h : InvH w h₀ st.H s
  ns : ∃ m, s.heap.Ns c.env.locals m ∧ ∀ x, (m x).map er = st.lo.lookup x
  out : ¬ st.H.dom c.env.locals
  hi : h₀.objs.size ≤ c.env.locals
structure Step (L : Addr) (H : AH) (s : Shared) (H' : AH) (s' : Shared) : Prop where
  keep : ∀ b o, s.heap.get? b = some o → ¬ H.dom b → b ≠ L → b ∉ tabA → s'.heap.get? b = some o
  dom : ∀ b, H'.dom b → H.dom b ∨ s.heap.objs.size ≤ b
  size : s.heap.objs.size ≤ s'.heap.objs.size
  os : s'.os = s.os
theorem Step.refl {L : Addr} {H : AH} {s : Shared} : Step L H s H s := ⟨fun _ _ e _ _ _ => e, fun _ h => .inl h, Nat.le_refl _, rfl⟩
theorem Step.trans {L : Addr} {H H' H'' : AH} {s s' s'' : Shared} (x : Step L H s H' s') (y : Step L H' s' H'' s'') : Step L H s H'' s'' :=
  ⟨fun b o e hb hl ht => y.keep b o (x.keep b o e hb hl ht) (fun hd => (x.dom b hd).elim hb fun q => Nat.not_lt.mpr q (Heap.lt_size e)) hl ht,
   fun b hb => (y.dom b hb).elim (fun q => x.dom b q) fun q => .inr (Nat.le_trans x.size q), Nat.le_trans x.size y.size, y.os.trans x.os⟩
theorem StepH.step {L : Addr} {H H' : AH} {s s' : Shared} (x : StepH H s H' s') : Step L H s H' s' := ⟨fun b o e hb _ ht => x.keep b o e hb ht, x.dom, x.size, x.os⟩

noncomputable def TPost (w : World) (h₀ : Heap) {α : Type} (c : Cx) (st : St) (s : Shared) (Q : α → St → Prop) (a : α) (s' : Shared) : Prop := ∃ st', Inv w h₀ c st' s' ∧ Step c.env.locals st.H s st'.H s' ∧ Q a st'
noncomputable def Tr (w : World) (h₀ : Heap) {α : Type} (c : Cx) (t : Sem α) (st : St) (Q : α → St → Prop) : Prop :=
  ∀ s, Inv w h₀ c st s → wpAny (MM w) (AA c.n) t (TPost w h₀ c st s Q) NoE s

theorem TPost.step {α : Type} {c : Cx} {st st₁ : St} {s s₁ : Shared} {Q : α → St → Prop} {a s'} (S : Step c.env.locals st.H s st₁.H s₁) (h : TPost w h₀ c st₁ s₁ Q a s') : TPost w h₀ c st s Q a s' :=
  let ⟨H', I, S', q⟩ := h; ⟨H', I, S.trans S', q⟩
theorem TPost.mono {α : Type} {c : Cx} {st : St} {s : Shared} {Q Q' : α → St → Prop} {a s'} (h : TPost w h₀ c st s Q a s') (hq : ∀ st', Q a st' → Q' a st') : TPost w h₀ c st s Q' a s' :=
  let ⟨H', I, S', q⟩ := h; ⟨H', I, S', hq _ q⟩
theorem Tr.pure {α : Type} {c : Cx} {a : α} {st : St} {Q : α → St → Prop} (h : Q a st) : Tr w h₀ c (pure a) st Q := fun s I => wpAny_pure ⟨st, I, .refl, h⟩
theorem Tr.bind {α β : Type} {c : Cx} {t : Sem α} {f : α → Sem β} {st : St} {Q : β → St → Prop} (h : Tr w h₀ c t st (fun a st' => Tr w h₀ c (f a) st' Q)) : Tr w h₀ c (t >>= f) st Q := fun s I =>
  wpAny_bind (wpAny_mono (h s I) (fun a s₁ ⟨H₁, I₁, S₁, q⟩ => wpAny_mono (q s₁ I₁) (fun b s₂ r => r.step S₁) fun _ _ e => e) fun _ _ e => e)
theorem Tr.mono {α : Type} {c : Cx} {t : Sem α} {st : St} {Q Q' : α → St → Prop} (h : Tr w h₀ c t st Q) (hq : ∀ a st', Q a st' → Q' a st') : Tr w h₀ c t st Q' := fun s I =>
  wpAny_mono (h s I) (fun a s₁ r => r.mono (hq a)) fun _ _ e => e
theorem Tr.holding {α : Type} {c : Cx} {vs : List Value} {t : Sem α} {st : St} {Q : α → St → Prop} (h : Tr w h₀ c t st Q) : Tr w h₀ c (holding vs t) st Q := fun s I => wpAny_holding (h s I)
theorem Tr.standAt {c : Cx} {p : Pos} {st : St} {Q : Unit → St → Prop} (h : Q () st) : Tr w h₀ c (standAt p) st Q := fun s I => wpAny_standAt ⟨st, I, .refl, h⟩
theorem Tr.point {c : Cx} {st : St} {Q : Unit → St → Prop} (h : Q () st) : Tr w h₀ c point st Q := fun s I => wpAny_point ⟨st, I, .refl, h⟩
theorem Tr.rule {c : Cx} {t : String} {st : St} {Q : Unit → St → Prop} (h : Q () st) : Tr w h₀ c (rule t) st Q := fun s I => wpAny_rule ⟨st, I, .refl, h⟩
theorem Tr.release {c : Cx} {vs ks : List Value} {st : St} {Q : Unit → St → Prop} (h : Q () st) : Tr w h₀ c (release vs ks) st Q := fun s I => wpAny_release ⟨st, I, .refl, h⟩
theorem Tr.operate {c : Cx} {vs : List Value} {t : Sem Value} {st : St} {Q : Value → St → Prop} (h : Tr w h₀ c t st Q) : Tr w h₀ c (operate vs t) st Q := fun s I => fun Γ p hΓ => by
  rw [Sem.wp_operate]; exact h s I Γ p hΓ

theorem ns_after {c : Cx} {st : St} {s s' : Shared} {H' : AH} (I : Inv w h₀ c st s) (S : StepH st.H s H' s') : ∃ m, s'.heap.Ns c.env.locals m ∧ ∀ x, (m x).map er = st.lo.lookup x := by
  obtain ⟨m, ⟨o, es, ep, e, r⟩, q⟩ := I.ns
  refine ⟨m, ⟨o, es, ep, S.keep _ _ e I.out ?_, r⟩, q⟩
  intro hm
  have : c.env.locals < 175 := by
    have : ∀ b ∈ tabA, b < 175 := by decide
    exact this _ hm
  exact Nat.lt_irrefl _ (Nat.lt_of_lt_of_le this (Nat.le_trans I.h.big I.hi))
theorem out_after {c : Cx} {st : St} {s s' : Shared} {H' : AH} (I : Inv w h₀ c st s) (S : StepH st.H s H' s') : ¬ H'.dom c.env.locals := fun d =>
  (S.dom _ d).elim I.out fun q => by
    obtain ⟨m, ⟨o, es, ep, e, r⟩, _⟩ := I.ns
    exact Nat.not_lt.mpr q (Heap.lt_size e)
theorem Inv.after {c : Cx} {st : St} {s s' : Shared} {H' : AH} (I : Inv w h₀ c st s) (I' : InvH w h₀ H' s') (S : StepH st.H s H' s') : Inv w h₀ c ⟨st.lo, H'⟩ s' := ⟨I', ns_after (st := st) I S, out_after (st := st) I S, I.hi⟩

@[reducible] noncomputable def kH {α : Type} (Q : α → St → Prop) (lo : Lo) : α → AH → Prop := fun a H => Q a ⟨lo, H⟩
/-- a tree that knows no frame -/
theorem Tr.heap {α : Type} {c : Cx} {t : Sem α} {st : St} {Q : α → St → Prop} (h : HT w h₀ c.n t st.H (kH Q st.lo)) : Tr w h₀ c t st Q := fun s I =>
  wpAny_mono (h s I.h) (fun a s₁ ⟨H₁, I₁, S₁, q⟩ => ⟨⟨st.lo, H₁⟩, I.after I₁ S₁, S₁.step, q⟩) fun _ _ e => e

noncomputable def erF : Flow → Flow
  | .ret v => .ret (er v)
  | .next => .next | .brk => .brk | .cont => .cont
/-- an expression's value, a statement, statements: told without tokens -/
noncomputable def EvT (w : World) (h₀ : Heap) (c : Cx) (e : Expr) (st : St) (Q : Value → St → Prop) : Prop := Tr w h₀ c (eval e c.env) st (fun v => Q (er v))
noncomputable def ExT (w : World) (h₀ : Heap) (c : Cx) (x : Stmt) (st : St) (Q : Flow → St → Prop) : Prop := Tr w h₀ c (exec x c.env) st (fun f => Q (erF f))
noncomputable def EsT (w : World) (h₀ : Heap) (c : Cx) (xs : List Stmt) (st : St) (Q : Flow → St → Prop) : Prop := Tr w h₀ c (execs xs c.env) st (fun f => Q (erF f))
noncomputable def IfT (w : World) (h₀ : Heap) (c : Cx) (e : Expr) (st : St) (Q : Bool → St → Prop) : Prop := Tr w h₀ c (isTrue e c.env (eval e c.env)) st Q
noncomputable def BinT (w : World) (h₀ : Heap) (n : Nat) (op : Operator) (a b : Value) (H : AH) (Q : Value → AH → Prop) : Prop := ∀ a' b', er a' = a → er b' = b → HT w h₀ n (binaryOp op a' b') H (fun v => Q (er v))
noncomputable def IopT (w : World) (h₀ : Heap) (n : Nat) (op : Operator) (a b : Value) (H : AH) (Q : Value → AH → Prop) : Prop := ∀ a' b', er a' = a → er b' = b → HT w h₀ n (inplaceOp op a' b') H (fun v => Q (er v))
noncomputable def CmpT (w : World) (h₀ : Heap) (n : Nat) (op : CmpOp) (a b : Value) (H : AH) (Q : Value → AH → Prop) : Prop := ∀ a' b', er a' = a → er b' = b → HT w h₀ n (compareOp op a' b') H (fun v => Q (er v))
noncomputable def UnT (w : World) (h₀ : Heap) (n : Nat) (op : UnaryOp) (a : Value) (H : AH) (Q : Value → AH → Prop) : Prop := ∀ a', er a' = a → HT w h₀ n (unaryOp op a') H (fun v => Q (er v))
noncomputable def TruT (w : World) (h₀ : Heap) (n : Nat) (a : Value) (H : AH) (Q : Bool → AH → Prop) : Prop := ∀ a', er a' = a → HT w h₀ n (truthy a') H Q
end Mine

namespace Mine
variable {w : World} {h₀ : Heap} {c : Cx}

/-! ## names -/
theorem lo_get {m : Str → Option Value} {lo : Lo} (q : ∀ x, (m x).map er = lo.lookup x) {x : Str} {v : Value} (e : lo.lookup x = some v) : ∃ v', m x = some v' ∧ er v' = v := by
  have := q x
  rw [e] at this
  cases h : m x with
  | none => rw [h] at this; cases this
  | some v' => rw [h] at this; exact ⟨v', rfl, by simpa using this⟩

theorem Tr.loadLocal {x : Str} {st : St} {v : Value} {Q : Value → St → Prop} (hk : c.env.scope.kind = .function) (hl : c.env.kindOf x = some .local) (hv : st.lo.lookup x = some v)
    (h : Q v st) : Tr w h₀ c (loadName c.env x) st (fun a => Q (er a)) := fun s I => by
  obtain ⟨m, hn, q⟩ := I.ns
  obtain ⟨v', e, r⟩ := lo_get q hv
  exact wpAny_loadName_local hk hl hn e ⟨st, I, .refl, show Q (er v') st from r.symm ▸ h⟩
theorem Tr.loadCell {x : Str} {st : St} {a : Addr} {v : Value} {Q : Value → St → Prop} (hk : c.env.scope.kind = .function) (hl : c.env.kindOf x = some .cell) (hc : c.env.cells.lookup x = some a)
    (hv : st.H.cs a = some (some v)) (h : Q v st) : Tr w h₀ c (loadName c.env x) st (fun a => Q (er a)) := fun s I => by
  obtain ⟨v', g, r⟩ := I.h.cs a _ hv
  obtain ⟨u, e0, r2⟩ := Option.map_eq_some_iff.mp r; subst e0
  exact wpAny_loadName_cell hk hl hc ⟨_, g, rfl⟩ ⟨st, I, .refl, show Q (er u) st from r2.symm ▸ h⟩
theorem Tr.loadFree {x : Str} {st : St} {a : Addr} {v : Value} {Q : Value → St → Prop} (hk : c.env.scope.kind = .function) (hl : c.env.kindOf x = some .free) (hc : c.env.cells.lookup x = some a)
    (hv : st.H.cs a = some (some v)) (h : Q v st) (hn : (x == ("__classdict__" : Str)) = false := by decide) : Tr w h₀ c (loadName c.env x) st (fun a => Q (er a)) := fun s I => by
  obtain ⟨v', g, r⟩ := I.h.cs a _ hv
  obtain ⟨u, e0, r2⟩ := Option.map_eq_some_iff.mp r; subst e0
  exact wpAny_loadName_free hk hl hc ⟨_, g, rfl⟩ ⟨st, I, .refl, show Q (er u) st from r2.symm ▸ h⟩ hn
theorem EvT.local {x : Str} {p : Pos} {st : St} {v : Value} {Q : Value → St → Prop} (h : Q v st) (hv : st.lo.lookup x = some v := by rfl)
    (hk : c.env.scope.kind = .function := by rfl) (hl : c.env.kindOf x = some .local := by rfl) (hd : (x == ("__debug__" : Str)) = false := by decide) : EvT w h₀ c (.Name x p) st Q := fun s I =>
  wpAny_Name (Tr.loadLocal hk hl hv h s I) hd
theorem EvT.cell {x : Str} {p : Pos} {st : St} {a : Addr} {v : Value} {Q : Value → St → Prop} (hv : st.H.cs a = some (some v)) (h : Q v st) (hc : c.env.cells.lookup x = some a := by rfl)
    (hk : c.env.scope.kind = .function := by rfl) (hl : c.env.kindOf x = some .cell := by rfl) (hd : (x == ("__debug__" : Str)) = false := by decide) : EvT w h₀ c (.Name x p) st Q := fun s I =>
  wpAny_Name (Tr.loadCell hk hl hc hv h s I) hd
theorem EvT.free {x : Str} {p : Pos} {st : St} {a : Addr} {v : Value} {Q : Value → St → Prop} (hv : st.H.cs a = some (some v)) (h : Q v st) (hc : c.env.cells.lookup x = some a := by rfl)
    (hk : c.env.scope.kind = .function := by rfl) (hl : c.env.kindOf x = some .free := by rfl) (hd : (x == ("__debug__" : Str)) = false := by decide) (hn : (x == ("__classdict__" : Str)) = false := by decide) :
    EvT w h₀ c (.Name x p) st Q := fun s I => wpAny_Name (Tr.loadFree hk hl hc hv h hn s I) hd

theorem loadName_global {env : Env} {x : Str} (hk : env.scope.kind = .function) (hl : env.kindOf x = some .globalImplicit) : loadName env x = loadGlobal env x := by
  unfold loadName
  simp only [Env.blockKind, hk, hl, ScopeKind.isAnnotationScope, Bool.false_and, Bool.false_eq_true, if_false]
theorem EvT.global {x : Str} {p : Pos} {st : St} {v : Value} {Q : Value → St → Prop} (h : Q (er v) st) (hv : nsIn (K0 w.params) mainGlobals x = some (some v) := by rfl)
    (hk : c.env.scope.kind = .function := by rfl) (hl : c.env.kindOf x = some .globalImplicit := by rfl) (hd : (x == ("__debug__" : Str)) = false := by decide)
    (hg : c.env.globals = mainGlobals := by rfl) : EvT w h₀ c (.Name x p) st Q := fun s I => by
  refine wpAny_Name ?_ hd
  obtain ⟨mg, G⟩ := I.h.gl
  have e := mg_of I.h.base G hv
  rw [loadName_global hk hl]
  unfold loadGlobal
  rw [hg]
  refine wpAny_bind (wpAny_nsGet G ?_)
  rw [e]
  exact wpAny_pure ⟨st, I, .refl, h⟩
theorem EvT.builtin {x : Str} {p : Pos} {st : St} {v : Value} {Q : Value → St → Prop} (h : Q (er v) st) (hm : nsIn (K0 w.params) mainGlobals x = some none := by rfl) (hv : bootBuiltins x = some v := by rfl)
    (hn : x ≠ "__name__" := by decide)
    (hk : c.env.scope.kind = .function := by rfl) (hl : c.env.kindOf x = some .globalImplicit := by rfl) (hd : (x == ("__debug__" : Str)) = false := by decide)
    (hg : c.env.globals = mainGlobals := by rfl) (hb : c.env.builtins = builtinsNs := by rfl) : EvT w h₀ c (.Name x p) st Q := fun s I => by
  refine wpAny_Name ?_ hd
  obtain ⟨mg, G⟩ := I.h.gl
  obtain ⟨mb, B, q⟩ := I.h.bi
  have e := mg_none_of I.h.base G hm
  rw [loadName_global hk hl]
  unfold loadGlobal
  rw [hg, hb]
  refine wpAny_bind (wpAny_nsGet G ?_)
  rw [e]
  refine wpAny_bind (wpAny_nsGet B ?_)
  rw [q x hn, hv]
  exact wpAny_pure ⟨st, I, .refl, h⟩

/-! ## constants -/
theorem Inv.tok {st : St} {s : Shared} (I : Inv w h₀ c st s) (t : Tok) : Inv w h₀ c st { s with toks := t } ∧ Step c.env.locals st.H s st.H { s with toks := t } :=
  ⟨⟨(I.h.tok t).1, I.ns, I.out, I.hi⟩, (I.h.tok t).2.step⟩
theorem EvT.int {i : Int} {k : Nat} {p : Pos} {st : St} {Q : Value → St → Prop} (h : Q (.int i 0) st) : EvT w h₀ c (.Constant (.int i) k p) st Q := fun s I =>
  wpAny_Constant_int ⟨st, (I.tok _).1, (I.tok _).2, h⟩
theorem EvT.str {i : Str} {k : Nat} {p : Pos} {st : St} {Q : Value → St → Prop} (h : Q (.str i 0) st) : EvT w h₀ c (.Constant (.str i) k p) st Q := fun s I =>
  wpAny_mkText (x := i) ⟨st, (I.tok _).1, (I.tok _).2, h⟩
theorem EvT.none {k : Nat} {p : Pos} {st : St} {Q : Value → St → Prop} (h : Q .none st) : EvT w h₀ c (.Constant .none k p) st Q := fun s I => Constant_none ⟨st, I, .refl, h⟩
theorem EvT.bool {b : Bool} {k : Nat} {p : Pos} {st : St} {Q : Value → St → Prop} (h : Q (.bool b) st) : EvT w h₀ c (.Constant (.bool b) k p) st Q := fun s I => Constant_bool ⟨st, I, .refl, h⟩

/-! ## operators -/
@[reducible] noncomputable def kBin2 (w : World) (h₀ : Heap) (c : Cx) (op : Operator) (Q : Value → St → Prop) (a : Value) : Value → St → Prop := fun b ⟨lo, H⟩ => BinT w h₀ c.n op a b H (kH Q lo)
@[reducible] noncomputable def kBin (w : World) (h₀ : Heap) (c : Cx) (r : Expr) (op : Operator) (Q : Value → St → Prop) : Value → St → Prop := fun a st₁ => EvT w h₀ c r st₁ (kBin2 w h₀ c op Q a)
@[reducible] noncomputable def kUn (w : World) (h₀ : Heap) (c : Cx) (op : UnaryOp) (Q : Value → St → Prop) : Value → St → Prop := fun a ⟨lo, H⟩ => UnT w h₀ c.n op a H (kH Q lo)
@[reducible] noncomputable def kCmp2 (w : World) (h₀ : Heap) (c : Cx) (op : CmpOp) (Q : Value → St → Prop) (a : Value) : Value → St → Prop := fun b ⟨lo, H⟩ => CmpT w h₀ c.n op a b H (kH Q lo)
@[reducible] noncomputable def kCmp (w : World) (h₀ : Heap) (c : Cx) (r : Expr) (op : CmpOp) (Q : Value → St → Prop) : Value → St → Prop := fun a st₁ => EvT w h₀ c r st₁ (kCmp2 w h₀ c op Q a)
@[reducible] noncomputable def kIfE (w : World) (h₀ : Heap) (c : Cx) (b o : Expr) (Q : Value → St → Prop) : Bool → St → Prop := fun x st₁ => if x then EvT w h₀ c b st₁ Q else EvT w h₀ c o st₁ Q
@[reducible] noncomputable def kTru (w : World) (h₀ : Heap) (n : Nat) (Q : Bool → St → Prop) (lo : Lo) : Value → AH → Prop := fun v H => TruT w h₀ n v H (kH Q lo)
@[reducible] noncomputable def kIc2 (w : World) (h₀ : Heap) (c : Cx) (op : CmpOp) (Q : Bool → St → Prop) (a : Value) : Value → St → Prop := fun b ⟨lo, H⟩ => CmpT w h₀ c.n op a b H (kTru w h₀ c.n Q lo)
@[reducible] noncomputable def kIc (w : World) (h₀ : Heap) (c : Cx) (r : Expr) (op : CmpOp) (Q : Bool → St → Prop) : Value → St → Prop := fun a st₁ => EvT w h₀ c r st₁ (kIc2 w h₀ c op Q a)
@[reducible] noncomputable def kNot (Q : Bool → St → Prop) : Bool → St → Prop := fun b => Q (!b)
@[reducible] noncomputable def kAnd (w : World) (h₀ : Heap) (c : Cx) (r : List Expr) (p : Pos) (Q : Bool → St → Prop) : Bool → St → Prop := fun b st₁ => if b then IfT w h₀ c (.BoolOp .And r p) st₁ Q else Q false st₁
@[reducible] noncomputable def kOr (w : World) (h₀ : Heap) (c : Cx) (r : List Expr) (p : Pos) (Q : Bool → St → Prop) : Bool → St → Prop := fun b st₁ => if b then Q true st₁ else IfT w h₀ c (.BoolOp .Or r p) st₁ Q
@[reducible] noncomputable def kPl (w : World) (h₀ : Heap) (c : Cx) (Q : Bool → St → Prop) : Value → St → Prop := fun v ⟨lo, H⟩ => TruT w h₀ c.n v H (kH Q lo)
theorem EvT.binOp {l r : Expr} {op : Operator} {p : Pos} {st : St} {Q : Value → St → Prop}
    (h : EvT w h₀ c l st (kBin w h₀ c r op Q)) : EvT w h₀ c (.BinOp l op r p) st Q := by
  unfold EvT
  rw [arm_eval_BinOp]
  exact Tr.bind (Tr.mono h fun a st₁ h₁ => Tr.bind (Tr.holding (Tr.mono h₁ fun b st₂ h₂ => Tr.bind (Tr.standAt (Tr.operate (Tr.heap (h₂ a b rfl rfl)))))))
theorem EvT.unaryOp {x : Expr} {op : UnaryOp} {p : Pos} {st : St} {Q : Value → St → Prop}
    (h : EvT w h₀ c x st (kUn w h₀ c op Q)) : EvT w h₀ c (.UnaryOp op x p) st Q := by
  unfold EvT
  rw [arm_eval_UnaryOp]
  exact Tr.bind (Tr.mono h fun a st₁ h₁ => Tr.bind (Tr.standAt (Tr.holding (Tr.heap (h₁ a rfl)))))
theorem EvT.compare {l r : Expr} {op : CmpOp} {p : Pos} {st : St} {Q : Value → St → Prop}
    (h : EvT w h₀ c l st (kCmp w h₀ c r op Q)) (hm : behindInMarks op r = false := by rfl) : EvT w h₀ c (.Compare l [op] [r] p) st Q := by
  unfold EvT
  rw [eval_Compare1, markedBehindIn_of_false hm]
  exact Tr.bind (Tr.mono h fun a st₁ h₁ => Tr.bind (Tr.holding (Tr.mono h₁ fun b st₂ h₂ => Tr.bind (Tr.standAt (Tr.operate (Tr.heap (h₂ a b rfl rfl)))))))
theorem EvT.ifExp {t b o : Expr} {p : Pos} {st : St} {Q : Value → St → Prop}
    (h : IfT w h₀ c t st (kIfE w h₀ c b o Q)) : EvT w h₀ c (.IfExp t b o p) st Q := by
  unfold EvT
  rw [arm_eval_IfExp]
  refine Tr.bind (Tr.mono h fun x st₁ h₁ => ?_)
  cases x <;> exact h₁
theorem EvT.or2 {a b : Expr} {p : Pos} {st : St} {Q : Value → St → Prop}
    (h : EvT w h₀ c a st (fun v st₁ => TruT w h₀ c.n v st₁.H (fun x H => if x then Q v ⟨st₁.lo, H⟩ else EvT w h₀ c b ⟨st₁.lo, H⟩ Q))) : EvT w h₀ c (.BoolOp .Or [a, b] p) st Q := fun s I => by
  refine BoolOp_or (wpAny_mono (h s I) (fun v s₁ ⟨st₁, I₁, S₁, q⟩ => ?_) fun _ _ e => e)
  refine wpAny_mono (q v rfl s₁ I₁.h) (fun x s₂ ⟨H₂, I₂, S₂, q₂⟩ => ?_) fun _ _ e => e
  have J := I₁.after I₂ S₂
  cases x with
  | true => exact ⟨_, J, S₁.trans S₂.step, q₂⟩
  | false => exact wpAny_mono (q₂ s₂ J) (fun v s₃ r => r.step (S₁.trans S₂.step)) fun _ _ e => e

/-! ## tests -/
theorem IfT.compare {l r : Expr} {op : CmpOp} {p : Pos} {st : St} {Q : Bool → St → Prop}
    (h : EvT w h₀ c l st (kIc w h₀ c r op Q)) (hm : behindInMarks op r = false := by rfl) :
    IfT w h₀ c (.Compare l [op] [r] p) st Q := by
  unfold IfT
  rw [isTrue_Compare1, markedBehindIn_of_false hm]
  exact Tr.bind (Tr.mono h fun a st₁ h₁ => Tr.bind (Tr.holding (Tr.mono h₁ fun b st₂ h₂ => Tr.bind (Tr.standAt (Tr.bind (Tr.operate (Tr.heap ((h₂ a b rfl rfl).mono fun v H q => Tr.holding (Tr.heap (st := ⟨st₂.lo, H⟩) (q v rfl)))))))))) 
theorem IfT.not {x : Expr} {p : Pos} {st : St} {Q : Bool → St → Prop} (h : IfT w h₀ c x st (kNot Q)) : IfT w h₀ c (.UnaryOp .Not x p) st Q := fun s I =>
  isTrue_not (h s I)
theorem IfT.andNil {p : Pos} {st : St} {Q : Bool → St → Prop} (h : Q true st) : IfT w h₀ c (.BoolOp .And [] p) st Q := fun s I => isTrue_and_nil ⟨st, I, .refl, h⟩
theorem IfT.orNil {p : Pos} {st : St} {Q : Bool → St → Prop} (h : Q false st) : IfT w h₀ c (.BoolOp .Or [] p) st Q := fun s I => isTrue_or_nil ⟨st, I, .refl, h⟩
theorem IfT.and {x : Expr} {r : List Expr} {p : Pos} {st : St} {Q : Bool → St → Prop} (h : IfT w h₀ c x st (kAnd w h₀ c r p Q)) : IfT w h₀ c (.BoolOp .And (x :: r) p) st Q := fun s I => by
  refine isTrue_and (wpAny_mono (h s I) (fun b s₁ ⟨st₁, I₁, S₁, q⟩ => ?_) fun _ _ e => e)
  cases b with
  | true => exact wpAny_mono (q s₁ I₁) (fun v s₃ r => r.step S₁) fun _ _ e => e
  | false => exact ⟨_, I₁, S₁, q⟩
theorem IfT.or {x : Expr} {r : List Expr} {p : Pos} {st : St} {Q : Bool → St → Prop} (h : IfT w h₀ c x st (kOr w h₀ c r p Q)) : IfT w h₀ c (.BoolOp .Or (x :: r) p) st Q := fun s I => by
  refine isTrue_or (wpAny_mono (h s I) (fun b s₁ ⟨st₁, I₁, S₁, q⟩ => ?_) fun _ _ e => e)
  cases b with
  | false => exact wpAny_mono (q s₁ I₁) (fun v s₃ r => r.step S₁) fun _ _ e => e
  | true => exact ⟨_, I₁, S₁, q⟩
theorem IfT.plain {e : Expr} {st : St} {Q : Bool → St → Prop} (h : EvT w h₀ c e st (kPl w h₀ c Q))
    (he : ∀ whole, isTrue e c.env whole = (do let v ← whole; standAt e.pos; holding [v] (truthy v)) := by intro _; rfl) : IfT w h₀ c e st Q := by
  unfold IfT
  rw [he]
  exact Tr.bind (Tr.mono h fun v st₁ q => Tr.bind (Tr.standAt (Tr.holding (Tr.heap (q v rfl)))))
theorem TruT.bool {n : Nat} {b : Bool} {H : AH} {Q : Bool → AH → Prop} (h : Q b H) : TruT w h₀ n (.bool b) H Q := fun a e s I => by
  rw [er_bool e]; exact wpAny_truthy_bool ⟨H, I, .refl, h⟩
theorem TruT.none {n : Nat} {H : AH} {Q : Bool → AH → Prop} (h : Q false H) : TruT w h₀ n .none H Q := fun a e s I => by
  rw [er_none e]; exact truthy_none ⟨H, I, .refl, h⟩

/-! ## stores -/
noncomputable def lput (x : Str) (v : Value) : Lo → Lo
  | [] => [(x, v)]
  | p :: r => if p.1 = x then (x, v) :: r else p :: lput x v r
theorem lput_lookup (x : Str) (v : Value) (y : Str) : ∀ lo : Lo, (lput x v lo).lookup y = if y = x then some v else lo.lookup y
  | [] => by
    unfold lput
    rw [List.lookup_cons]
    by_cases h : y = x
    · subst h; simp
    · have : (y == x) = false := beq_eq_false_iff_ne.mpr h
      rw [this]; simp [h]
  | p :: r => by
    unfold lput
    by_cases hp : p.1 = x
    · rw [if_pos hp, List.lookup_cons]
      by_cases h : y = x
      · subst h; simp
      · have h1 : (y == x) = false := beq_eq_false_iff_ne.mpr h
        have h2 : (y == p.1) = false := by rw [hp]; exact h1
        obtain ⟨a, b⟩ := p
        simp only at h2
        rw [h1, List.lookup_cons, h2]; simp [h]
    · rw [if_neg hp]
      obtain ⟨a, b⟩ := p
      rw [List.lookup_cons, List.lookup_cons, lput_lookup x v y r]
      by_cases h : y = x
      · subst h
        have : (y == a) = false := beq_eq_false_iff_ne.mpr (fun e => hp e.symm)
        simp [this]
      · simp [h]

theorem InvH.other {H : AH} {s s' : Shared} (I : InvH w h₀ H s) {L : Addr} (hx : Heap.SameBut L s.heap s'.heap) (hd : ¬ H.dom L) (hi : h₀.objs.size ≤ L) (hlt : L < s.heap.objs.size)
    (hc : ∀ o, s.heap.get? L = some o → NotCode o) (hg : s'.gens = s.gens) (hos : s'.os = s.os) : InvH w h₀ H s' := by
  -- as core, the object at L being none of the abstract heap's
  have A : Agree H H L := ⟨fun _ _ => rfl, fun _ _ => rfl, fun _ _ => rfl, fun _ _ => rfl, fun _ _ => rfl, fun _ _ => rfl, fun _ _ => rfl⟩
  have nn {β : Type} (f : Addr → Option β) (k : f L ≠ none → H.dom L) : ∀ x, f L = some x → False := fun x e => hd (k (by rw [e]; simp))
  have lt : ∀ b, b < 175 → b ≠ L := fun b hb e => Nat.lt_irrefl _ (Nat.lt_of_lt_of_le (e ▸ hb) (Nat.le_trans I.big hi))
  have hx' : ∀ b o, b ≠ L → s.heap.get? b = some o → s'.heap.get? b = some o := fun b o hb e => (hx.2 b hb).trans e
  have ne : ∀ b, H.dom b → b ≠ L := fun b d e => hd (e ▸ d)
  refine ⟨fun b o e => hx' b o (lt b (k0_low _ _ (lookup_mem e))) (I.base b o e), I.big, hx.1.symm ▸ I.grown, oldK_ext I.old hi hx', ?_, ?_, ?_, fun p hp => ?_, fun b hb => ?_, ?_, ?_, ?_, ?_, ?_, ?_, ?_, hg.trans I.gens⟩
  · obtain ⟨mb, ⟨o, es, ep, e, r⟩, hb⟩ := I.bi
    exact ⟨mb, ⟨o, es, ep, hx' _ _ (lt _ (by decide)) e, r⟩, hb⟩
  · obtain ⟨mb, o, es, ep, e, r⟩ := I.gl
    exact ⟨mb, ⟨o, es, ep, hx' _ _ (lt _ (by decide)) e, r⟩⟩
  · obtain ⟨ob, e, r⟩ := I.bm; exact ⟨ob, hx' _ _ (lt _ (by decide)) e, r⟩
  · obtain ⟨h1, ps, hco, hta, hcs⟩ := I.tab p hp
    have l1 : p.1 ≠ L := lt _ (tabs_low p hp).1
    have l2 : p.2 ≠ L := lt _ (tabs_low p hp).2
    exact ⟨h1, ps, hco.extBut (a := L) hx' l1 l2, hta.extBut (a := L) hx' l1 l2, fun pos c q => let ⟨q, hq⟩ := hcs pos c q; ⟨q, hq.ext hx' hc⟩⟩
  · have := I.low b hb; exact ⟨this.1, hx.1.symm ▸ this.2⟩
  · intro b x e; have q := ne b (.inl (by rw [e]; simp)); obtain ⟨i, n, g, r⟩ := I.ls b x e; exact ⟨i, n, hx' _ _ q g, r⟩
  · intro b x e; have q := ne b (.inr (.inl (by rw [e]; simp))); obtain ⟨i, n, g, r⟩ := I.ts b x e; exact ⟨i, n, hx' _ _ q g, r⟩
  · intro b x e; have q := ne b (.inr (.inr (.inl (by rw [e]; simp)))); obtain ⟨i, g, r⟩ := I.cs b x e; exact ⟨i, hx' _ _ q g, r⟩
  · intro b x e; have q := ne b (.inr (.inr (.inr (.inl (by rw [e]; simp))))); obtain ⟨i, n, g, r⟩ := I.ds b x e; exact ⟨i, n, hx' _ _ q g, r⟩
  · intro b x e; have q := ne b (.inr (.inr (.inr (.inr (.inl (by rw [e]; simp)))))); exact hx' _ _ q (I.xs b x e)
  · intro b x e; have q := ne b (.inr (.inr (.inr (.inr (.inr (.inl (by rw [e]; simp)))))))
    obtain ⟨fd, sl, g, e1, e2, e3, e4, e5, e6, e7, e8, q0, r⟩ := I.fs b x e
    exact ⟨fd, sl, hx' _ _ q g, e1, e2, e3, e4, e5, e6, e7, e8, q0, r.ext hx' hc⟩
  · intro b x e; have q := ne b (.inr (.inr (.inr (.inr (.inr (.inr (by rw [e]; simp)))))))
    obtain ⟨i, g, r⟩ := I.is b x e; exact ⟨i, hx' _ _ q g, r⟩

end Mine

namespace Mine
variable {w : World} {h₀ : Heap}

theorem clash {h : Heap} {a : Addr} {o o' : Obj} {P : Prop} (e : h.get? a = some o) (e' : h.get? a = some o') (ne : o.cls ≠ o'.cls) : P := absurd (congrArg Obj.cls (Option.some.inj (e.symm.trans e'))) ne

noncomputable def AH.setL (H : AH) (a : Addr) (x : List Value) : AH := { H with ls := fun b => if b = a then some x else H.ls b }
@[simp] theorem setL_hit (H : AH) (a : Addr) (x : List Value) : (H.setL a x).ls a = some x := if_pos rfl
theorem setL_miss {H : AH} {a b : Addr} {x : List Value} (h : b ≠ a) : (H.setL a x).ls b = H.ls b := if_neg h
theorem setL_agree (H : AH) (a : Addr) (x : List Value) : Agree H (H.setL a x) a := ⟨fun _ h => if_neg h, fun _ _ => rfl, fun _ _ => rfl, fun _ _ => rfl, fun _ _ => rfl, fun _ _ => rfl, fun _ _ => rfl⟩
theorem setL_dom {H : AH} {a b : Addr} {x : List Value} (d : (H.setL a x).dom b) : b = a ∨ H.dom b := by
  by_cases h : b = a
  · exact .inl h
  · exact .inr ((setL_agree H a x).dom h |>.mp d)
theorem dom_setL {H : AH} {a b : Addr} {x : List Value} (d : H.dom b) : (H.setL a x).dom b := by
  by_cases h : b = a
  · subst h
    exact (.inl (by rw [setL_hit]; simp))
  · exact (setL_agree H a x).dom h |>.mpr d
theorem AH.dom_ls {H : AH} {a : Addr} {x : List Value} (e : H.ls a = some x) : H.dom a := .inl (by rw [e]; simp)

noncomputable def AH.setT (H : AH) (a : Addr) (x : List Value) : AH := { H with ts := fun b => if b = a then some x else H.ts b }
@[simp] theorem setT_hit (H : AH) (a : Addr) (x : List Value) : (H.setT a x).ts a = some x := if_pos rfl
theorem setT_miss {H : AH} {a b : Addr} {x : List Value} (h : b ≠ a) : (H.setT a x).ts b = H.ts b := if_neg h
theorem setT_agree (H : AH) (a : Addr) (x : List Value) : Agree H (H.setT a x) a := ⟨fun _ _ => rfl, fun _ h => if_neg h, fun _ _ => rfl, fun _ _ => rfl, fun _ _ => rfl, fun _ _ => rfl, fun _ _ => rfl⟩
theorem setT_dom {H : AH} {a b : Addr} {x : List Value} (d : (H.setT a x).dom b) : b = a ∨ H.dom b := by
  by_cases h : b = a
  · exact .inl h
  · exact .inr ((setT_agree H a x).dom h |>.mp d)
theorem dom_setT {H : AH} {a b : Addr} {x : List Value} (d : H.dom b) : (H.setT a x).dom b := by
  by_cases h : b = a
  · subst h
    exact (.inr (.inl (by rw [setT_hit]; simp)))
  · exact (setT_agree H a x).dom h |>.mpr d
theorem AH.dom_ts {H : AH} {a : Addr} {x : List Value} (e : H.ts a = some x) : H.dom a := .inr (.inl (by rw [e]; simp))

noncomputable def AH.setC (H : AH) (a : Addr) (x : Option Value) : AH := { H with cs := fun b => if b = a then some x else H.cs b }
@[simp] theorem setC_hit (H : AH) (a : Addr) (x : Option Value) : (H.setC a x).cs a = some x := if_pos rfl
theorem setC_miss {H : AH} {a b : Addr} {x : Option Value} (h : b ≠ a) : (H.setC a x).cs b = H.cs b := if_neg h
theorem setC_agree (H : AH) (a : Addr) (x : Option Value) : Agree H (H.setC a x) a := ⟨fun _ _ => rfl, fun _ _ => rfl, fun _ h => if_neg h, fun _ _ => rfl, fun _ _ => rfl, fun _ _ => rfl, fun _ _ => rfl⟩
theorem setC_dom {H : AH} {a b : Addr} {x : Option Value} (d : (H.setC a x).dom b) : b = a ∨ H.dom b := by
  by_cases h : b = a
  · exact .inl h
  · exact .inr ((setC_agree H a x).dom h |>.mp d)
theorem dom_setC {H : AH} {a b : Addr} {x : Option Value} (d : H.dom b) : (H.setC a x).dom b := by
  by_cases h : b = a
  · subst h
    exact (.inr (.inr (.inl (by rw [setC_hit]; simp))))
  · exact (setC_agree H a x).dom h |>.mpr d
theorem AH.dom_cs {H : AH} {a : Addr} {x : Option Value} (e : H.cs a = some x) : H.dom a := .inr (.inr (.inl (by rw [e]; simp)))

noncomputable def AH.setD (H : AH) (a : Addr) (x : List (Str × Value)) : AH := { H with ds := fun b => if b = a then some x else H.ds b }
@[simp] theorem setD_hit (H : AH) (a : Addr) (x : List (Str × Value)) : (H.setD a x).ds a = some x := if_pos rfl
theorem setD_miss {H : AH} {a b : Addr} {x : List (Str × Value)} (h : b ≠ a) : (H.setD a x).ds b = H.ds b := if_neg h
theorem setD_agree (H : AH) (a : Addr) (x : List (Str × Value)) : Agree H (H.setD a x) a := ⟨fun _ _ => rfl, fun _ _ => rfl, fun _ _ => rfl, fun _ h => if_neg h, fun _ _ => rfl, fun _ _ => rfl, fun _ _ => rfl⟩
theorem setD_dom {H : AH} {a b : Addr} {x : List (Str × Value)} (d : (H.setD a x).dom b) : b = a ∨ H.dom b := by
  by_cases h : b = a
  · exact .inl h
  · exact .inr ((setD_agree H a x).dom h |>.mp d)
theorem dom_setD {H : AH} {a b : Addr} {x : List (Str × Value)} (d : H.dom b) : (H.setD a x).dom b := by
  by_cases h : b = a
  · subst h
    exact (.inr (.inr (.inr (.inl (by rw [setD_hit]; simp)))))
  · exact (setD_agree H a x).dom h |>.mpr d
theorem AH.dom_ds {H : AH} {a : Addr} {x : List (Str × Value)} (e : H.ds a = some x) : H.dom a := .inr (.inr (.inr (.inl (by rw [e]; simp))))

noncomputable def AH.setX (H : AH) (a : Addr) (x : Addr) : AH := { H with xs := fun b => if b = a then some x else H.xs b }
@[simp] theorem setX_hit (H : AH) (a : Addr) (x : Addr) : (H.setX a x).xs a = some x := if_pos rfl
theorem setX_miss {H : AH} {a b : Addr} {x : Addr} (h : b ≠ a) : (H.setX a x).xs b = H.xs b := if_neg h
theorem setX_agree (H : AH) (a : Addr) (x : Addr) : Agree H (H.setX a x) a := ⟨fun _ _ => rfl, fun _ _ => rfl, fun _ _ => rfl, fun _ _ => rfl, fun _ h => if_neg h, fun _ _ => rfl, fun _ _ => rfl⟩
theorem setX_dom {H : AH} {a b : Addr} {x : Addr} (d : (H.setX a x).dom b) : b = a ∨ H.dom b := by
  by_cases h : b = a
  · exact .inl h
  · exact .inr ((setX_agree H a x).dom h |>.mp d)
theorem dom_setX {H : AH} {a b : Addr} {x : Addr} (d : H.dom b) : (H.setX a x).dom b := by
  by_cases h : b = a
  · subst h
    exact (.inr (.inr (.inr (.inr (.inl (by rw [setX_hit]; simp))))))
  · exact (setX_agree H a x).dom h |>.mpr d
theorem AH.dom_xs {H : AH} {a : Addr} {x : Addr} (e : H.xs a = some x) : H.dom a := .inr (.inr (.inr (.inr (.inl (by rw [e]; simp)))))

noncomputable def AH.setF (H : AH) (a : Addr) (x : FnA) : AH := { H with fs := fun b => if b = a then some x else H.fs b }
@[simp] theorem setF_hit (H : AH) (a : Addr) (x : FnA) : (H.setF a x).fs a = some x := if_pos rfl
theorem setF_miss {H : AH} {a b : Addr} {x : FnA} (h : b ≠ a) : (H.setF a x).fs b = H.fs b := if_neg h
theorem setF_agree (H : AH) (a : Addr) (x : FnA) : Agree H (H.setF a x) a := ⟨fun _ _ => rfl, fun _ _ => rfl, fun _ _ => rfl, fun _ _ => rfl, fun _ _ => rfl, fun _ h => if_neg h, fun _ _ => rfl⟩
theorem setF_dom {H : AH} {a b : Addr} {x : FnA} (d : (H.setF a x).dom b) : b = a ∨ H.dom b := by
  by_cases h : b = a
  · exact .inl h
  · exact .inr ((setF_agree H a x).dom h |>.mp d)
theorem dom_setF {H : AH} {a b : Addr} {x : FnA} (d : H.dom b) : (H.setF a x).dom b := by
  by_cases h : b = a
  · subst h
    exact (.inr (.inr (.inr (.inr (.inr (.inl (by rw [setF_hit]; simp)))))))
  · exact (setF_agree H a x).dom h |>.mpr d
theorem AH.dom_fs {H : AH} {a : Addr} {x : FnA} (e : H.fs a = some x) : H.dom a := .inr (.inr (.inr (.inr (.inr (.inl (by rw [e]; simp))))))

noncomputable def AH.setI (H : AH) (a : Addr) (x : ItA) : AH := { H with is := fun b => if b = a then some x else H.is b }
@[simp] theorem setI_hit (H : AH) (a : Addr) (x : ItA) : (H.setI a x).is a = some x := if_pos rfl
theorem setI_miss {H : AH} {a b : Addr} {x : ItA} (h : b ≠ a) : (H.setI a x).is b = H.is b := if_neg h
theorem setI_agree (H : AH) (a : Addr) (x : ItA) : Agree H (H.setI a x) a := ⟨fun _ _ => rfl, fun _ _ => rfl, fun _ _ => rfl, fun _ _ => rfl, fun _ _ => rfl, fun _ _ => rfl, fun _ h => if_neg h⟩
theorem setI_dom {H : AH} {a b : Addr} {x : ItA} (d : (H.setI a x).dom b) : b = a ∨ H.dom b := by
  by_cases h : b = a
  · exact .inl h
  · exact .inr ((setI_agree H a x).dom h |>.mp d)
theorem dom_setI {H : AH} {a b : Addr} {x : ItA} (d : H.dom b) : (H.setI a x).dom b := by
  by_cases h : b = a
  · subst h
    exact (.inr (.inr (.inr (.inr (.inr (.inr (by rw [setI_hit]; simp)))))))
  · exact (setI_agree H a x).dom h |>.mpr d
theorem AH.dom_is {H : AH} {a : Addr} {x : ItA} (e : H.is a = some x) : H.dom a := .inr (.inr (.inr (.inr (.inr (.inr (by rw [e]; simp))))))

theorem IsLs.obj {h a x} (q : IsLs h a x) : ∃ o, h.get? a = some o ∧ o.cls = .type "list" := let ⟨i, n, g, r⟩ := q; ⟨_, g, rfl⟩
theorem IsTs.obj {h a x} (q : IsTs h a x) : ∃ o, h.get? a = some o ∧ o.cls = .type "tuple" := let ⟨i, n, g, r⟩ := q; ⟨_, g, rfl⟩
theorem IsCs.obj {h a x} (q : IsCs h a x) : ∃ o, h.get? a = some o ∧ o.cls = .type "cell" := let ⟨i, g, r⟩ := q; ⟨_, g, rfl⟩
theorem IsDs.obj {P h a x} (q : IsDs P h a x) : ∃ o, h.get? a = some o ∧ o.cls = .type "dict" := let ⟨i, n, g, r⟩ := q; ⟨_, g, rfl⟩
theorem IsXs.obj {h a x} (q : IsXs h a x) : ∃ o, h.get? a = some o ∧ o.cls = .ref 52 := ⟨_, q, rfl⟩
theorem IsFs.obj {h a x} (q : IsFs h a x) : ∃ o, h.get? a = some o ∧ o.cls = .type "function" := let ⟨fd, sl, g, r⟩ := q; ⟨_, g, rfl⟩
theorem IsIs.obj {h a x} (q : IsIs h a x) : ∃ o, h.get? a = some o ∧ ∃ T ∈ itTypes, o.cls = .type T := let ⟨o, g, r⟩ := q; ⟨o, g, r.cls⟩
theorem apartI {h : Heap} {a : Addr} {u : Value} {P : Prop} (x : ∃ o, h.get? a = some o ∧ o.cls = u) (y : ∃ o, h.get? a = some o ∧ ∃ T ∈ itTypes, o.cls = .type T) (ne : ∀ T ∈ itTypes, u ≠ .type T) : P :=
  let ⟨o, e, c⟩ := x; let ⟨o', e', T, hT, c'⟩ := y; clash e e' (by rw [c, c']; exact ne T hT)
theorem apart {h : Heap} {a : Addr} {u v : Value} {P : Prop} (x : ∃ o, h.get? a = some o ∧ o.cls = u) (y : ∃ o, h.get? a = some o ∧ o.cls = v) (ne : u ≠ v) : P :=
  let ⟨o, e, c⟩ := x; let ⟨o', e', c'⟩ := y; clash e e' (by rw [c, c']; exact ne)

theorem InvH.updL {H : AH} {s s' : Shared} {a : Addr} {x0 x : List Value} (I : InvH w h₀ H s) (h : H.ls a = some x0) (hs : Heap.SameBut a s.heap s'.heap) (q : IsLs s'.heap a x) (hg : s'.gens = s.gens) (hos : s'.os = s.os) :
    InvH w h₀ (H.setL a x) s' ∧ StepH H s (H.setL a x) s' := by
  have d := AH.dom_ls h
  have l := I.low a d
  refine I.core a (fun b o hb e => (hs.2 b hb).trans e) l.1 (hs.1.symm ▸ l.2) (Nat.le_of_eq hs.1.symm) hg hos (.inl d) (fun o e => NotCode.cls ?_) (setL_agree H a x)
    (fun y e => by rw [setL_hit] at e; cases e; exact q) (fun y e => apart (I.ts a y e).obj (I.ls a x0 h).obj (by decide)) (fun y e => apart (I.cs a y e).obj (I.ls a x0 h).obj (by decide)) (fun y e => apart (I.ds a y e).obj (I.ls a x0 h).obj (by decide)) (fun y e => apart (I.xs a y e).obj (I.ls a x0 h).obj (by decide)) (fun y e => apart (I.fs a y e).obj (I.ls a x0 h).obj (by decide)) (fun y e => apartI (I.ls a x0 h).obj (I.is a y e).obj (by decide))
  obtain ⟨o', e', c'⟩ := (I.ls a x0 h).obj
  rw [e'] at e; cases e; rw [c']; decide

theorem InvH.addL {H : AH} {s : Shared} {a : Addr} {x : List Value} (I : InvH w h₀ H s) (nd : ¬ H.dom a) (ha : h₀.objs.size ≤ a) (q : IsLs s.heap a x) : InvH w h₀ (H.setL a x) s := by
  obtain ⟨o, e, c⟩ := q.obj
  exact ⟨I.base, I.big, I.grown, I.old, I.bi, I.gl, I.bm, I.tab, fun b d => (setL_dom d).elim (fun z => z ▸ ⟨ha, Heap.lt_size e⟩) (I.low b),
    fun b y z => (by by_cases hb : b = a; (subst hb; rw [setL_hit] at z; cases z; exact q); (rw [setL_miss hb] at z; exact I.ls b y z)), I.ts, I.cs, I.ds, I.xs, I.fs, I.is, I.gens⟩

theorem InvH.updT {H : AH} {s s' : Shared} {a : Addr} {x0 x : List Value} (I : InvH w h₀ H s) (h : H.ts a = some x0) (hs : Heap.SameBut a s.heap s'.heap) (q : IsTs s'.heap a x) (hg : s'.gens = s.gens) (hos : s'.os = s.os) :
    InvH w h₀ (H.setT a x) s' ∧ StepH H s (H.setT a x) s' := by
  have d := AH.dom_ts h
  have l := I.low a d
  refine I.core a (fun b o hb e => (hs.2 b hb).trans e) l.1 (hs.1.symm ▸ l.2) (Nat.le_of_eq hs.1.symm) hg hos (.inl d) (fun o e => NotCode.cls ?_) (setT_agree H a x)
    (fun y e => apart (I.ls a y e).obj (I.ts a x0 h).obj (by decide)) (fun y e => by rw [setT_hit] at e; cases e; exact q) (fun y e => apart (I.cs a y e).obj (I.ts a x0 h).obj (by decide)) (fun y e => apart (I.ds a y e).obj (I.ts a x0 h).obj (by decide)) (fun y e => apart (I.xs a y e).obj (I.ts a x0 h).obj (by decide)) (fun y e => apart (I.fs a y e).obj (I.ts a x0 h).obj (by decide)) (fun y e => apartI (I.ts a x0 h).obj (I.is a y e).obj (by decide))
  obtain ⟨o', e', c'⟩ := (I.ts a x0 h).obj
  rw [e'] at e; cases e; rw [c']; decide

theorem InvH.addT {H : AH} {s : Shared} {a : Addr} {x : List Value} (I : InvH w h₀ H s) (nd : ¬ H.dom a) (ha : h₀.objs.size ≤ a) (q : IsTs s.heap a x) : InvH w h₀ (H.setT a x) s := by
  obtain ⟨o, e, c⟩ := q.obj
  exact ⟨I.base, I.big, I.grown, I.old, I.bi, I.gl, I.bm, I.tab, fun b d => (setT_dom d).elim (fun z => z ▸ ⟨ha, Heap.lt_size e⟩) (I.low b),
    I.ls, fun b y z => (by by_cases hb : b = a; (subst hb; rw [setT_hit] at z; cases z; exact q); (rw [setT_miss hb] at z; exact I.ts b y z)), I.cs, I.ds, I.xs, I.fs, I.is, I.gens⟩

theorem InvH.updC {H : AH} {s s' : Shared} {a : Addr} {x0 x : Option Value} (I : InvH w h₀ H s) (h : H.cs a = some x0) (hs : Heap.SameBut a s.heap s'.heap) (q : IsCs s'.heap a x) (hg : s'.gens = s.gens) (hos : s'.os = s.os) :
    InvH w h₀ (H.setC a x) s' ∧ StepH H s (H.setC a x) s' := by
  have d := AH.dom_cs h
  have l := I.low a d
  refine I.core a (fun b o hb e => (hs.2 b hb).trans e) l.1 (hs.1.symm ▸ l.2) (Nat.le_of_eq hs.1.symm) hg hos (.inl d) (fun o e => NotCode.cls ?_) (setC_agree H a x)
    (fun y e => apart (I.ls a y e).obj (I.cs a x0 h).obj (by decide)) (fun y e => apart (I.ts a y e).obj (I.cs a x0 h).obj (by decide)) (fun y e => by rw [setC_hit] at e; cases e; exact q) (fun y e => apart (I.ds a y e).obj (I.cs a x0 h).obj (by decide)) (fun y e => apart (I.xs a y e).obj (I.cs a x0 h).obj (by decide)) (fun y e => apart (I.fs a y e).obj (I.cs a x0 h).obj (by decide)) (fun y e => apartI (I.cs a x0 h).obj (I.is a y e).obj (by decide))
  obtain ⟨o', e', c'⟩ := (I.cs a x0 h).obj
  rw [e'] at e; cases e; rw [c']; decide

theorem InvH.addC {H : AH} {s : Shared} {a : Addr} {x : Option Value} (I : InvH w h₀ H s) (nd : ¬ H.dom a) (ha : h₀.objs.size ≤ a) (q : IsCs s.heap a x) : InvH w h₀ (H.setC a x) s := by
  obtain ⟨o, e, c⟩ := q.obj
  exact ⟨I.base, I.big, I.grown, I.old, I.bi, I.gl, I.bm, I.tab, fun b d => (setC_dom d).elim (fun z => z ▸ ⟨ha, Heap.lt_size e⟩) (I.low b),
    I.ls, I.ts, fun b y z => (by by_cases hb : b = a; (subst hb; rw [setC_hit] at z; cases z; exact q); (rw [setC_miss hb] at z; exact I.cs b y z)), I.ds, I.xs, I.fs, I.is, I.gens⟩

theorem InvH.updD {H : AH} {s s' : Shared} {a : Addr} {x0 x : List (Str × Value)} (I : InvH w h₀ H s) (h : H.ds a = some x0) (hs : Heap.SameBut a s.heap s'.heap) (q : IsDs w.params s'.heap a x) (hg : s'.gens = s.gens) (hos : s'.os = s.os) :
    InvH w h₀ (H.setD a x) s' ∧ StepH H s (H.setD a x) s' := by
  have d := AH.dom_ds h
  have l := I.low a d
  refine I.core a (fun b o hb e => (hs.2 b hb).trans e) l.1 (hs.1.symm ▸ l.2) (Nat.le_of_eq hs.1.symm) hg hos (.inl d) (fun o e => NotCode.cls ?_) (setD_agree H a x)
    (fun y e => apart (I.ls a y e).obj (I.ds a x0 h).obj (by decide)) (fun y e => apart (I.ts a y e).obj (I.ds a x0 h).obj (by decide)) (fun y e => apart (I.cs a y e).obj (I.ds a x0 h).obj (by decide)) (fun y e => by rw [setD_hit] at e; cases e; exact q) (fun y e => apart (I.xs a y e).obj (I.ds a x0 h).obj (by decide)) (fun y e => apart (I.fs a y e).obj (I.ds a x0 h).obj (by decide)) (fun y e => apartI (I.ds a x0 h).obj (I.is a y e).obj (by decide))
  obtain ⟨o', e', c'⟩ := (I.ds a x0 h).obj
  rw [e'] at e; cases e; rw [c']; decide

theorem InvH.addD {H : AH} {s : Shared} {a : Addr} {x : List (Str × Value)} (I : InvH w h₀ H s) (nd : ¬ H.dom a) (ha : h₀.objs.size ≤ a) (q : IsDs w.params s.heap a x) : InvH w h₀ (H.setD a x) s := by
  obtain ⟨o, e, c⟩ := q.obj
  exact ⟨I.base, I.big, I.grown, I.old, I.bi, I.gl, I.bm, I.tab, fun b d => (setD_dom d).elim (fun z => z ▸ ⟨ha, Heap.lt_size e⟩) (I.low b),
    I.ls, I.ts, I.cs, fun b y z => (by by_cases hb : b = a; (subst hb; rw [setD_hit] at z; cases z; exact q); (rw [setD_miss hb] at z; exact I.ds b y z)), I.xs, I.fs, I.is, I.gens⟩

theorem InvH.updX {H : AH} {s s' : Shared} {a : Addr} {x0 x : Addr} (I : InvH w h₀ H s) (h : H.xs a = some x0) (hs : Heap.SameBut a s.heap s'.heap) (q : IsXs s'.heap a x) (hg : s'.gens = s.gens) (hos : s'.os = s.os) :
    InvH w h₀ (H.setX a x) s' ∧ StepH H s (H.setX a x) s' := by
  have d := AH.dom_xs h
  have l := I.low a d
  refine I.core a (fun b o hb e => (hs.2 b hb).trans e) l.1 (hs.1.symm ▸ l.2) (Nat.le_of_eq hs.1.symm) hg hos (.inl d) (fun o e => NotCode.cls ?_) (setX_agree H a x)
    (fun y e => apart (I.ls a y e).obj (I.xs a x0 h).obj (by decide)) (fun y e => apart (I.ts a y e).obj (I.xs a x0 h).obj (by decide)) (fun y e => apart (I.cs a y e).obj (I.xs a x0 h).obj (by decide)) (fun y e => apart (I.ds a y e).obj (I.xs a x0 h).obj (by decide)) (fun y e => by rw [setX_hit] at e; cases e; exact q) (fun y e => apart (I.fs a y e).obj (I.xs a x0 h).obj (by decide)) (fun y e => apartI (I.xs a x0 h).obj (I.is a y e).obj (by decide))
  obtain ⟨o', e', c'⟩ := (I.xs a x0 h).obj
  rw [e'] at e; cases e; rw [c']; decide

theorem InvH.addX {H : AH} {s : Shared} {a : Addr} {x : Addr} (I : InvH w h₀ H s) (nd : ¬ H.dom a) (ha : h₀.objs.size ≤ a) (q : IsXs s.heap a x) : InvH w h₀ (H.setX a x) s := by
  obtain ⟨o, e, c⟩ := q.obj
  exact ⟨I.base, I.big, I.grown, I.old, I.bi, I.gl, I.bm, I.tab, fun b d => (setX_dom d).elim (fun z => z ▸ ⟨ha, Heap.lt_size e⟩) (I.low b),
    I.ls, I.ts, I.cs, I.ds, fun b y z => (by by_cases hb : b = a; (subst hb; rw [setX_hit] at z; cases z; exact q); (rw [setX_miss hb] at z; exact I.xs b y z)), I.fs, I.is, I.gens⟩

theorem InvH.updF {H : AH} {s s' : Shared} {a : Addr} {x0 x : FnA} (I : InvH w h₀ H s) (h : H.fs a = some x0) (hs : Heap.SameBut a s.heap s'.heap) (q : IsFs s'.heap a x) (hg : s'.gens = s.gens) (hos : s'.os = s.os) :
    InvH w h₀ (H.setF a x) s' ∧ StepH H s (H.setF a x) s' := by
  have d := AH.dom_fs h
  have l := I.low a d
  refine I.core a (fun b o hb e => (hs.2 b hb).trans e) l.1 (hs.1.symm ▸ l.2) (Nat.le_of_eq hs.1.symm) hg hos (.inl d) (fun o e => NotCode.cls ?_) (setF_agree H a x)
    (fun y e => apart (I.ls a y e).obj (I.fs a x0 h).obj (by decide)) (fun y e => apart (I.ts a y e).obj (I.fs a x0 h).obj (by decide)) (fun y e => apart (I.cs a y e).obj (I.fs a x0 h).obj (by decide)) (fun y e => apart (I.ds a y e).obj (I.fs a x0 h).obj (by decide)) (fun y e => apart (I.xs a y e).obj (I.fs a x0 h).obj (by decide)) (fun y e => by rw [setF_hit] at e; cases e; exact q) (fun y e => apartI (I.fs a x0 h).obj (I.is a y e).obj (by decide))
  obtain ⟨o', e', c'⟩ := (I.fs a x0 h).obj
  rw [e'] at e; cases e; rw [c']; decide

theorem InvH.addF {H : AH} {s : Shared} {a : Addr} {x : FnA} (I : InvH w h₀ H s) (nd : ¬ H.dom a) (ha : h₀.objs.size ≤ a) (q : IsFs s.heap a x) : InvH w h₀ (H.setF a x) s := by
  obtain ⟨o, e, c⟩ := q.obj
  exact ⟨I.base, I.big, I.grown, I.old, I.bi, I.gl, I.bm, I.tab, fun b d => (setF_dom d).elim (fun z => z ▸ ⟨ha, Heap.lt_size e⟩) (I.low b),
    I.ls, I.ts, I.cs, I.ds, I.xs, fun b y z => (by by_cases hb : b = a; (subst hb; rw [setF_hit] at z; cases z; exact q); (rw [setF_miss hb] at z; exact I.fs b y z)), I.is, I.gens⟩

theorem InvH.updI {H : AH} {s s' : Shared} {a : Addr} {x0 x : ItA} (I : InvH w h₀ H s) (h : H.is a = some x0) (hs : Heap.SameBut a s.heap s'.heap) (q : IsIs s'.heap a x) (hg : s'.gens = s.gens) (hos : s'.os = s.os) :
    InvH w h₀ (H.setI a x) s' ∧ StepH H s (H.setI a x) s' := by
  have d := AH.dom_is h
  have l := I.low a d
  refine I.core a (fun b o hb e => (hs.2 b hb).trans e) l.1 (hs.1.symm ▸ l.2) (Nat.le_of_eq hs.1.symm) hg hos (.inl d) (fun o e => NotCode.cls ?_) (setI_agree H a x)
    (fun y e => apartI (I.ls a y e).obj (I.is a x0 h).obj (by decide)) (fun y e => apartI (I.ts a y e).obj (I.is a x0 h).obj (by decide)) (fun y e => apartI (I.cs a y e).obj (I.is a x0 h).obj (by decide)) (fun y e => apartI (I.ds a y e).obj (I.is a x0 h).obj (by decide)) (fun y e => apartI (I.xs a y e).obj (I.is a x0 h).obj (by decide)) (fun y e => apartI (I.fs a y e).obj (I.is a x0 h).obj (by decide)) (fun y e => by rw [setI_hit] at e; cases e; exact q)
  obtain ⟨o', e', T, hT, c'⟩ := (I.is a x0 h).obj
  rw [e'] at e; cases e; rw [c']; exact (by decide : ∀ T ∈ itTypes, Value.type T ≠ .type "code") T hT

theorem InvH.addI {H : AH} {s : Shared} {a : Addr} {x : ItA} (I : InvH w h₀ H s) (nd : ¬ H.dom a) (ha : h₀.objs.size ≤ a) (q : IsIs s.heap a x) : InvH w h₀ (H.setI a x) s := by
  obtain ⟨o, e, c⟩ := q.obj
  exact ⟨I.base, I.big, I.grown, I.old, I.bi, I.gl, I.bm, I.tab, fun b d => (setI_dom d).elim (fun z => z ▸ ⟨ha, Heap.lt_size e⟩) (I.low b),
    I.ls, I.ts, I.cs, I.ds, I.xs, I.fs, fun b y z => (by by_cases hb : b = a; (subst hb; rw [setI_hit] at z; cases z; exact q); (rw [setI_miss hb] at z; exact I.is b y z)), I.gens⟩

theorem InvH.fresh {H : AH} {s : Shared} (I : InvH w h₀ H s) {a : Addr} (ha : s.heap.objs.size ≤ a) : ¬ H.dom a := fun d => Nat.lt_irrefl _ (Nat.lt_of_lt_of_le (I.low _ d).2 ha)

theorem HPost.newL {α : Type} {H : AH} {s s' : Shared} {a : Addr} {x : List Value} {r : α} {Q : α → AH → Prop} (I : InvH w h₀ H s) (q : IsLs s'.heap a x) (ha : s.heap.objs.size ≤ a)
    (hx : ∀ b o, s.heap.get? b = some o → s'.heap.get? b = some o) (hsz : s.heap.objs.size ≤ s'.heap.objs.size) (hg : s'.gens = s.gens) (hos : s'.os = s.os) (h : ¬ H.dom a → Q r (H.setL a x)) : HPost w h₀ H s Q r s' := by
  have J := I.ext (s' := s') hx hsz hg hos
  have nd := I.fresh ha
  exact ⟨_, J.1.addL nd (Nat.le_trans I.grown ha) q, ⟨fun b o e hb ht => J.2.keep b o e hb ht, fun b d => (setL_dom d).elim (fun z => .inr (z ▸ ha)) .inl, J.2.size, J.2.os⟩, h nd⟩
theorem HPost.updL {α : Type} {H : AH} {s s' : Shared} {a : Addr} {x0 x : List Value} {r : α} {Q : α → AH → Prop} (I : InvH w h₀ H s) (h : H.ls a = some x0) (hs : Heap.SameBut a s.heap s'.heap) (q : IsLs s'.heap a x) (hg : s'.gens = s.gens) (hos : s'.os = s.os)
    (hq : Q r (H.setL a x)) : HPost w h₀ H s Q r s' := ⟨_, (I.updL h hs q hg hos).1, (I.updL h hs q hg hos).2, hq⟩

theorem HPost.newT {α : Type} {H : AH} {s s' : Shared} {a : Addr} {x : List Value} {r : α} {Q : α → AH → Prop} (I : InvH w h₀ H s) (q : IsTs s'.heap a x) (ha : s.heap.objs.size ≤ a)
    (hx : ∀ b o, s.heap.get? b = some o → s'.heap.get? b = some o) (hsz : s.heap.objs.size ≤ s'.heap.objs.size) (hg : s'.gens = s.gens) (hos : s'.os = s.os) (h : ¬ H.dom a → Q r (H.setT a x)) : HPost w h₀ H s Q r s' := by
  have J := I.ext (s' := s') hx hsz hg hos
  have nd := I.fresh ha
  exact ⟨_, J.1.addT nd (Nat.le_trans I.grown ha) q, ⟨fun b o e hb ht => J.2.keep b o e hb ht, fun b d => (setT_dom d).elim (fun z => .inr (z ▸ ha)) .inl, J.2.size, J.2.os⟩, h nd⟩
theorem HPost.updT {α : Type} {H : AH} {s s' : Shared} {a : Addr} {x0 x : List Value} {r : α} {Q : α → AH → Prop} (I : InvH w h₀ H s) (h : H.ts a = some x0) (hs : Heap.SameBut a s.heap s'.heap) (q : IsTs s'.heap a x) (hg : s'.gens = s.gens) (hos : s'.os = s.os)
    (hq : Q r (H.setT a x)) : HPost w h₀ H s Q r s' := ⟨_, (I.updT h hs q hg hos).1, (I.updT h hs q hg hos).2, hq⟩

theorem HPost.newC {α : Type} {H : AH} {s s' : Shared} {a : Addr} {x : Option Value} {r : α} {Q : α → AH → Prop} (I : InvH w h₀ H s) (q : IsCs s'.heap a x) (ha : s.heap.objs.size ≤ a)
    (hx : ∀ b o, s.heap.get? b = some o → s'.heap.get? b = some o) (hsz : s.heap.objs.size ≤ s'.heap.objs.size) (hg : s'.gens = s.gens) (hos : s'.os = s.os) (h : ¬ H.dom a → Q r (H.setC a x)) : HPost w h₀ H s Q r s' := by
  have J := I.ext (s' := s') hx hsz hg hos
  have nd := I.fresh ha
  exact ⟨_, J.1.addC nd (Nat.le_trans I.grown ha) q, ⟨fun b o e hb ht => J.2.keep b o e hb ht, fun b d => (setC_dom d).elim (fun z => .inr (z ▸ ha)) .inl, J.2.size, J.2.os⟩, h nd⟩
theorem HPost.updC {α : Type} {H : AH} {s s' : Shared} {a : Addr} {x0 x : Option Value} {r : α} {Q : α → AH → Prop} (I : InvH w h₀ H s) (h : H.cs a = some x0) (hs : Heap.SameBut a s.heap s'.heap) (q : IsCs s'.heap a x) (hg : s'.gens = s.gens) (hos : s'.os = s.os)
    (hq : Q r (H.setC a x)) : HPost w h₀ H s Q r s' := ⟨_, (I.updC h hs q hg hos).1, (I.updC h hs q hg hos).2, hq⟩

theorem HPost.newD {α : Type} {H : AH} {s s' : Shared} {a : Addr} {x : List (Str × Value)} {r : α} {Q : α → AH → Prop} (I : InvH w h₀ H s) (q : IsDs w.params s'.heap a x) (ha : s.heap.objs.size ≤ a)
    (hx : ∀ b o, s.heap.get? b = some o → s'.heap.get? b = some o) (hsz : s.heap.objs.size ≤ s'.heap.objs.size) (hg : s'.gens = s.gens) (hos : s'.os = s.os) (h : ¬ H.dom a → Q r (H.setD a x)) : HPost w h₀ H s Q r s' := by
  have J := I.ext (s' := s') hx hsz hg hos
  have nd := I.fresh ha
  exact ⟨_, J.1.addD nd (Nat.le_trans I.grown ha) q, ⟨fun b o e hb ht => J.2.keep b o e hb ht, fun b d => (setD_dom d).elim (fun z => .inr (z ▸ ha)) .inl, J.2.size, J.2.os⟩, h nd⟩
theorem HPost.updD {α : Type} {H : AH} {s s' : Shared} {a : Addr} {x0 x : List (Str × Value)} {r : α} {Q : α → AH → Prop} (I : InvH w h₀ H s) (h : H.ds a = some x0) (hs : Heap.SameBut a s.heap s'.heap) (q : IsDs w.params s'.heap a x) (hg : s'.gens = s.gens) (hos : s'.os = s.os)
    (hq : Q r (H.setD a x)) : HPost w h₀ H s Q r s' := ⟨_, (I.updD h hs q hg hos).1, (I.updD h hs q hg hos).2, hq⟩

theorem HPost.newX {α : Type} {H : AH} {s s' : Shared} {a : Addr} {x : Addr} {r : α} {Q : α → AH → Prop} (I : InvH w h₀ H s) (q : IsXs s'.heap a x) (ha : s.heap.objs.size ≤ a)
    (hx : ∀ b o, s.heap.get? b = some o → s'.heap.get? b = some o) (hsz : s.heap.objs.size ≤ s'.heap.objs.size) (hg : s'.gens = s.gens) (hos : s'.os = s.os) (h : ¬ H.dom a → Q r (H.setX a x)) : HPost w h₀ H s Q r s' := by
  have J := I.ext (s' := s') hx hsz hg hos
  have nd := I.fresh ha
  exact ⟨_, J.1.addX nd (Nat.le_trans I.grown ha) q, ⟨fun b o e hb ht => J.2.keep b o e hb ht, fun b d => (setX_dom d).elim (fun z => .inr (z ▸ ha)) .inl, J.2.size, J.2.os⟩, h nd⟩
theorem HPost.updX {α : Type} {H : AH} {s s' : Shared} {a : Addr} {x0 x : Addr} {r : α} {Q : α → AH → Prop} (I : InvH w h₀ H s) (h : H.xs a = some x0) (hs : Heap.SameBut a s.heap s'.heap) (q : IsXs s'.heap a x) (hg : s'.gens = s.gens) (hos : s'.os = s.os)
    (hq : Q r (H.setX a x)) : HPost w h₀ H s Q r s' := ⟨_, (I.updX h hs q hg hos).1, (I.updX h hs q hg hos).2, hq⟩

theorem HPost.newF {α : Type} {H : AH} {s s' : Shared} {a : Addr} {x : FnA} {r : α} {Q : α → AH → Prop} (I : InvH w h₀ H s) (q : IsFs s'.heap a x) (ha : s.heap.objs.size ≤ a)
    (hx : ∀ b o, s.heap.get? b = some o → s'.heap.get? b = some o) (hsz : s.heap.objs.size ≤ s'.heap.objs.size) (hg : s'.gens = s.gens) (hos : s'.os = s.os) (h : ¬ H.dom a → Q r (H.setF a x)) : HPost w h₀ H s Q r s' := by
  have J := I.ext (s' := s') hx hsz hg hos
  have nd := I.fresh ha
  exact ⟨_, J.1.addF nd (Nat.le_trans I.grown ha) q, ⟨fun b o e hb ht => J.2.keep b o e hb ht, fun b d => (setF_dom d).elim (fun z => .inr (z ▸ ha)) .inl, J.2.size, J.2.os⟩, h nd⟩
theorem HPost.updF {α : Type} {H : AH} {s s' : Shared} {a : Addr} {x0 x : FnA} {r : α} {Q : α → AH → Prop} (I : InvH w h₀ H s) (h : H.fs a = some x0) (hs : Heap.SameBut a s.heap s'.heap) (q : IsFs s'.heap a x) (hg : s'.gens = s.gens) (hos : s'.os = s.os)
    (hq : Q r (H.setF a x)) : HPost w h₀ H s Q r s' := ⟨_, (I.updF h hs q hg hos).1, (I.updF h hs q hg hos).2, hq⟩

theorem HPost.newI {α : Type} {H : AH} {s s' : Shared} {a : Addr} {x : ItA} {r : α} {Q : α → AH → Prop} (I : InvH w h₀ H s) (q : IsIs s'.heap a x) (ha : s.heap.objs.size ≤ a)
    (hx : ∀ b o, s.heap.get? b = some o → s'.heap.get? b = some o) (hsz : s.heap.objs.size ≤ s'.heap.objs.size) (hg : s'.gens = s.gens) (hos : s'.os = s.os) (h : ¬ H.dom a → Q r (H.setI a x)) : HPost w h₀ H s Q r s' := by
  have J := I.ext (s' := s') hx hsz hg hos
  have nd := I.fresh ha
  exact ⟨_, J.1.addI nd (Nat.le_trans I.grown ha) q, ⟨fun b o e hb ht => J.2.keep b o e hb ht, fun b d => (setI_dom d).elim (fun z => .inr (z ▸ ha)) .inl, J.2.size, J.2.os⟩, h nd⟩
theorem HPost.updI {α : Type} {H : AH} {s s' : Shared} {a : Addr} {x0 x : ItA} {r : α} {Q : α → AH → Prop} (I : InvH w h₀ H s) (h : H.is a = some x0) (hs : Heap.SameBut a s.heap s'.heap) (q : IsIs s'.heap a x) (hg : s'.gens = s.gens) (hos : s'.os = s.os)
    (hq : Q r (H.setI a x)) : HPost w h₀ H s Q r s' := ⟨_, (I.updI h hs q hg hos).1, (I.updI h hs q hg hos).2, hq⟩

end Mine

namespace Mine

/-! ## a heap never shrinks -/
theorem runs_size {M : Model} {Γ : Ctx} {p : Pos} {t : Sem Fin} {fs : List Frame} {s s' : Shared} {e : End} (h : Runs M Γ p t fs s e s') : s.heap.objs.size ≤ s'.heap.objs.size := by
  induction h <;> (try simp only [Shared.setGen, Heap.size_push, Heap.size_after_update] at *) <;> omega
theorem wakes_size {M : Model} {Γ : Ctx} {p : Pos} {g : Nat} {r : Resume} {s s' : Shared} {res : GenResult} (h : Wakes M Γ p g r s res s') : s.heap.objs.size ≤ s'.heap.objs.size := by
  unfold Wakes at h
  split at h
  · exact h.elim
  · split at h
    · obtain ⟨e₁, s₁, hr, _, _, rfl⟩ := h; exact (runs_size hr : (s.setGen g .running).heap.objs.size ≤ s₁.heap.objs.size)
    · rw [h.2]; exact Nat.le_refl _
    · rw [h.2]; exact Nat.le_refl _
  · obtain ⟨e₁, s₁, hr, _, _, rfl⟩ := h; exact (runs_size hr : (s.setGen g .running).heap.objs.size ≤ s₁.heap.objs.size)
  · rw [h.2]; exact Nat.le_refl _
  · rw [h.2]; exact Nat.le_refl _
theorem wp_size {α : Type} (M : Model) (Γ : Ctx) (n : Nat) (t : Sem α) : ∀ (Q : α → Pos → Shared → Prop) (E : Value → Pos → Shared → Prop) (p : Pos) (s : Shared), n ≤ s.heap.objs.size → Sem.wp M Γ t Q E p s →
    Sem.wp M Γ t (fun a p' s' => n ≤ s'.heap.objs.size ∧ Q a p' s') (fun e p' s' => n ≤ s'.heap.objs.size ∧ E e p' s') p s := by
  induction t with
  | pure a => intro Q E p s hn h; exact ⟨hn, h⟩
  | raise e => intro Q E p s hn h; exact ⟨hn, h⟩
  | unsupported _ => intro Q E p s _ h; exact h
  | finish _ => intro Q E p s _ h; exact h
  | rule _ k ih => intro Q E p s hn h; exact ih () Q E p s hn h
  | «at» p' k ih => intro Q E p s hn h; exact ih () Q E p' s hn h
  | load a _ k ih => intro Q E p s hn h; obtain ⟨o, ho, h⟩ := h; exact ⟨o, ho, ih o Q E p s hn h⟩
  | update a _ f k ih => intro Q E p s hn h; exact ⟨h.1, ih () Q E p _ (by rw [Heap.size_after_update]; exact hn) h.2⟩
  | loadIfAlive a k ih => intro Q E p s hn h; exact ih _ Q E p s hn h
  | point _ k ih => intro Q E p s hn h; exact ih () Q E p s hn h
  | register _ _ => intro Q E p s _ h; exact h
  | alloc o k ih => intro Q E p s hn h; exact ih _ Q E p _ (by rw [Heap.size_push]; exact Nat.le_succ_of_le hn) h
  | fresh k ih => intro Q E p s hn h; exact ih _ Q E p _ hn h
  | ask k ih => intro Q E p s hn h; exact ih _ Q E p s hn h
  | choose src m k ih => intro Q E p s hn h; exact ⟨h.1, ih _ Q E p _ hn h.2⟩
  | os q _ k ih => intro Q E p s hn h; exact ih _ Q E p _ hn h
  | call c hd _ _ k ih => intro Q E p s hn h; obtain ⟨r, s', hr, h⟩ := h; exact ⟨r, s', hr, ih r Q E p s' (Nat.le_trans hn (runs_size hr)) h⟩
  | handled own k ih => intro Q E p s hn h; exact ih _ Q E p s hn h
  | genState g k ih => intro Q E p s hn h; obtain ⟨st, hs, h⟩ := h; exact ⟨st, hs, ih _ Q E p s hn h⟩
  | newGen c k ih => intro Q E p s hn h; exact ih _ Q E p _ hn h
  | resume g r _ k ih => intro Q E p s hn h; obtain ⟨res, s', hw, h⟩ := h; exact ⟨res, s', hw, ih res Q E p s' (Nat.le_trans hn (wakes_size hw)) h⟩
  | yield _ _ _ _ => intro Q E p s _ h; exact h
  | stack k ih => intro Q E p s hn h; exact ih _ Q E p s hn h
  | fork _ _ => intro Q E p s _ h; exact h
  | thread k ih => intro Q E p s hn h; exact ih _ Q E p s hn h
  | await _ _ _ _ _ => intro Q E p s _ h; exact h
theorem wpAny_size {α : Type} {M : Model} {A : Around} {s : Shared} {t : Sem α} {Q : α → Shared → Prop} {E : Value → Shared → Prop}
    (h : wpAny M A t (fun a s' => s.heap.objs.size ≤ s'.heap.objs.size → Q a s') E s) : wpAny M A t Q E s :=
  wpAny_mono (Q := fun a s' => s.heap.objs.size ≤ s'.heap.objs.size ∧ (s.heap.objs.size ≤ s'.heap.objs.size → Q a s')) (E := fun e s' => s.heap.objs.size ≤ s'.heap.objs.size ∧ E e s')
    (fun Γ p hΓ => wp_size M Γ _ t _ _ p s (Nat.le_refl _) (h Γ p hΓ)) (fun _ _ x => x.2 x.1) (fun _ _ x => x.2)

variable {w : World} {h₀ : Heap} {c : Cx}

/-! ## stores -/
noncomputable def StoreT (w : World) (h₀ : Heap) (c : Cx) (x : Str) (v : Value) (st : St) (Q : St → Prop) : Prop := ∀ v', er v' = v → Tr w h₀ c (storeName c.env x v') st (fun _ st' => Q st')

theorem ns_notCode {h : Heap} {a : Addr} {m} (hn : h.Ns a m) : ∀ o, h.get? a = some o → NotCode o := by
  obtain ⟨o, es, ep, e, d, r⟩ := hn
  intro o' e'
  rw [e] at e'; cases e'
  exact NotCode.dict d
theorem StoreT.local {x : Str} {v : Value} {lo : Lo} {H : AH} {Q : St → Prop} (h : Q ⟨lput x v lo, H⟩) (hk : c.env.scope.kind = .function := by rfl) (hl : c.env.kindOf x = some .local := by rfl) : StoreT w h₀ c x v ⟨lo, H⟩ Q := fun v' ev s I => by
  obtain ⟨m, hn, q⟩ := I.ns
  refine wpAny_storeName_local hl hn (fun h' hn' hs' => ?_) (by rw [hk]; rfl)
  have hlt : c.env.locals < s.heap.objs.size := hn.lt
  have I' : InvH w h₀ H { s with heap := h', toks := s.toks + 1 } := I.h.other hs' I.out I.hi hlt (ns_notCode hn) rfl rfl
  refine ⟨⟨lput x v lo, H⟩, ⟨I', ⟨_, hn', fun y => ?_⟩, I.out, I.hi⟩, ⟨fun b o e _ hl' _ => (hs'.2 b hl').trans e, fun b d => .inl d, Nat.le_of_eq hs'.1.symm, rfl⟩, h⟩
  rw [lput_lookup]
  by_cases hy : y = x
  · simp [hy, ev]
  · simp [hy, q y]
theorem StoreT.cell {x : Str} {v : Value} {lo : Lo} {H : AH} {a : Addr} {v0 : Option Value} {Q : St → Prop} (hv : H.cs a = some v0) (h : Q ⟨lo, H.setC a (some v)⟩) (hc : c.env.cells.lookup x = some a := by rfl)
    (hk : c.env.scope.kind = .function := by rfl) (hl : c.env.kindOf x = some .cell := by rfl) : StoreT w h₀ c x v ⟨lo, H⟩ Q := fun v' ev s I => by
  obtain ⟨u, g, r⟩ := I.h.cs a _ hv
  unfold storeName
  simp only [hl, hk]
  refine wpAny_bind (wpAny_cellOf hc ?_)
  unfold cellSet
  refine wpAny_bind (wpAny_load g ?_)
  refine wpAny_update g ?_
  have hs := Heap.SameBut.update s.heap a fun o => { o with data := Data.cell (some v') }
  have J := I.h.updC (s' := { s with heap := s.heap.update a fun o => { o with data := Data.cell (some v') } }) hv hs ⟨some v', Heap.get?_update_self _ g rfl, by rw [Option.map_some, ev]⟩ rfl rfl
  exact ⟨⟨lo, H.setC a (some v)⟩, I.after J.1 J.2, J.2.step, h⟩

/-! ## targets -/
noncomputable def AsT (w : World) (h₀ : Heap) (c : Cx) (t : Expr) (v : Value) (st : St) (Q : St → Prop) : Prop := ∀ v', er v' = v → Tr w h₀ c (assign t c.env v') st (fun _ st' => Q st')
noncomputable def SetAT (w : World) (h₀ : Heap) (n : Nat) (o : Value) (attr : Str) (v : Value) (H : AH) (Q : AH → Prop) : Prop := ∀ o' v', er o' = o → er v' = v → HT w h₀ n (setAttr o' attr v') H (fun _ => Q)
noncomputable def SetIT (w : World) (h₀ : Heap) (n : Nat) (o i v : Value) (H : AH) (Q : AH → Prop) : Prop := ∀ o' i' v', er o' = o → er i' = i → er v' = v → HT w h₀ n (setItem o' i' v') H (fun _ => Q)
theorem AsT.name {x : Str} {p : Pos} {v : Value} {st : St} {Q : St → Prop} (h : StoreT w h₀ c x v st Q) : AsT w h₀ c (.Name x p) v st Q := fun v' e s I => wpAny_assign_Name (h v' e s I)
@[reducible] noncomputable def kS (Q : St → Prop) (lo : Lo) : AH → Prop := fun H => Q ⟨lo, H⟩
@[reducible] noncomputable def kAa (w : World) (h₀ : Heap) (c : Cx) (attr : Str) (v : Value) (Q : St → Prop) : Value → St → Prop := fun ov ⟨lo, H⟩ => SetAT w h₀ c.n ov attr v H (kS Q lo)
@[reducible] noncomputable def kAi2 (w : World) (h₀ : Heap) (c : Cx) (ov v : Value) (Q : St → Prop) : Value → St → Prop := fun iv ⟨lo, H⟩ => SetIT w h₀ c.n ov iv v H (kS Q lo)
@[reducible] noncomputable def kAi (w : World) (h₀ : Heap) (c : Cx) (i : Expr) (v : Value) (Q : St → Prop) : Value → St → Prop := fun ov st₁ => EvT w h₀ c i st₁ (kAi2 w h₀ c ov v Q)
theorem AsT.attr {o : Expr} {attr : Str} {p : Pos} {v : Value} {st : St} {Q : St → Prop}
    (h : EvT w h₀ c o st (kAa w h₀ c attr v Q)) : AsT w h₀ c (.Attribute o attr p) v st Q := fun v' e => by
  rw [arm_assign_Attribute]
  exact Tr.bind (Tr.holding (Tr.mono h fun ov st₁ q => Tr.bind (Tr.standAt (Tr.bind (Tr.holding (Tr.heap ((q ov v' rfl e).mono fun _ H q => Tr.release q)))))))
theorem AsT.item {o i : Expr} {p : Pos} {v : Value} {st : St} {Q : St → Prop}
    (h : EvT w h₀ c o st (kAi w h₀ c i v Q)) : AsT w h₀ c (.Subscript o i p) v st Q := fun v' e => by
  rw [arm_assign_Subscript]
  exact Tr.bind (Tr.holding (Tr.mono h fun ov st₁ q => Tr.bind (Tr.holding (Tr.mono q fun iv st₂ q => Tr.bind (Tr.standAt (Tr.bind (Tr.holding (Tr.heap ((q ov iv v' rfl rfl e).mono fun _ H q => Tr.release q)))))))))

theorem IsTs.isTuple {h : Heap} {a : Addr} {xs : List Value} (q : IsTs h a xs) : ∃ items, h.IsTuple a items ∧ items.toList.map er = xs := by
  obtain ⟨items, n, g, r⟩ := q
  exact ⟨items, ⟨_, g, rfl, n, rfl⟩, r⟩
@[reducible] noncomputable def kAp (w : World) (h₀ : Heap) (c : Cx) (t2 : Expr) (v2 : Value) (Q : St → Prop) : St → Prop := fun st₁ => AsT w h₀ c t2 v2 st₁ Q
theorem AsT.pair {t1 t2 : Expr} {k : Nat} {p : Pos} {a : Addr} {v1 v2 : Value} {st : St} {Q : St → Prop} (ht : st.H.ts a = some [v1, v2])
    (h : AsT w h₀ c t1 v1 st (kAp w h₀ c t2 v2 Q))
    (hstar : (assignEach [t1, t2] c.env) = [(false, assign t1 c.env), (false, assign t2 c.env)] := by rfl) : AsT w h₀ c (.Tuple [t1, t2] k p) (.ref a) st Q := fun v' e s I => by
  rw [er_ref e, arm_assign_Tuple, hstar]
  obtain ⟨items, hit, hm⟩ := (I.h.ts a _ ht).isTuple
  obtain ⟨x1, x2, hi⟩ : ∃ x1 x2, items.toList = [x1, x2] := by
    match hq : items.toList with
    | [] => rw [hq] at hm; cases hm
    | [_] => rw [hq] at hm; cases hm
    | [x1, x2] => exact ⟨x1, x2, rfl⟩
    | _ :: _ :: _ :: _ => rw [hq] at hm; simp at hm
  rw [hi] at hm
  simp only [List.map_cons, List.map_nil, List.cons.injEq, and_true] at hm
  refine wpAny_bind (wpAny_standAt ?_)
  have hz : items.size = 2 := by rw [← Array.length_toList, hi]; rfl
  show wpAny _ _ (do assignInOrder [assign t1 c.env, assign t2 c.env] (← holding [.ref a] (unpackItems (.ref a) 2 none))) _ _ s
  refine wpAny_bind (wpAny_holding (wpAny_size ?_))
  have u := wpAny_unpackItems_tuple (prog := PP) (w := w) (A := AA c.n) (E := NoE) (s := s) (Q := fun xs s' => s.heap.objs.size ≤ s'.heap.objs.size → wpAny (MM w) (AA c.n) (assignInOrder [assign t1 c.env, assign t2 c.env] xs) (TPost w h₀ c st s (fun _ => Q)) NoE s') rfl hit
    (fun h' hx hsz => ?_)
  · rw [hz] at u; exact u
  · have hk : ∀ b o, s.heap.get? b = some o → h'.get? b = some o := fun b o e => hx b o (Nat.ne_of_lt (Heap.lt_size e)) e
    obtain ⟨J, S⟩ := I.h.ext (s' := { s with heap := h' }) hk hsz rfl rfl
    have I' := I.after J S
    rw [hi]
    unfold assignInOrder
    refine wpAny_bind (wpAny_holding (wpAny_mono (h x1 hm.1 _ I') (fun _ s₁ ⟨st₁, I₁, S₁, q₁⟩ => ?_) fun _ _ e => e))
    unfold assignInOrder
    refine wpAny_bind (wpAny_holding (wpAny_mono (q₁ x2 hm.2 _ I₁) (fun _ s₂ r => ?_) fun _ _ e => e))
    exact wpAny_pure (r.step (S.step.trans S₁))

/-! ## statements -/
theorem EsT.nil {st : St} {Q : Flow → St → Prop} (h : Q .next st) : EsT w h₀ c [] st Q := fun s I => wpAny_execs_nil ⟨st, I, .refl, h⟩
@[reducible] noncomputable def kSeq (w : World) (h₀ : Heap) (c : Cx) (xs : List Stmt) (Q : Flow → St → Prop) : Flow → St → Prop := fun f st₁ => match f with | .next => EsT w h₀ c xs st₁ Q | f => Q f st₁
theorem EsT.cons {x : Stmt} {xs : List Stmt} {st : St} {Q : Flow → St → Prop} (h : ExT w h₀ c x st (kSeq w h₀ c xs Q)) : EsT w h₀ c (x :: xs) st Q := fun s I => by
  refine wpAny_execs_cons (wpAny_mono (h s I) (fun f s₁ ⟨st₁, I₁, S₁, q⟩ => ?_) fun _ _ e => e)
  cases f with
  | next => exact wpAny_mono (q s₁ I₁) (fun _ _ r => r.step S₁) fun _ _ e => e
  | brk => exact ⟨st₁, I₁, S₁, q⟩
  | cont => exact ⟨st₁, I₁, S₁, q⟩
  | ret v => exact ⟨st₁, I₁, S₁, q⟩
@[reducible] noncomputable def kNx (Q : Flow → St → Prop) : St → Prop := fun st₂ => Q .next st₂
@[reducible] noncomputable def kAn (w : World) (h₀ : Heap) (c : Cx) (x : Str) (Q : Flow → St → Prop) : Value → St → Prop := fun v st₁ => StoreT w h₀ c x v st₁ (kNx Q)
@[reducible] noncomputable def kAt (w : World) (h₀ : Heap) (c : Cx) (t : Expr) (Q : Flow → St → Prop) : Value → St → Prop := fun v st₁ => AsT w h₀ c t v st₁ (kNx Q)
@[reducible] noncomputable def kAtt (w : World) (h₀ : Heap) (c : Cx) (t1 t2 : Expr) (Q : Flow → St → Prop) : Value → St → Prop := fun v st₁ => AsT w h₀ c t1 v st₁ (kAp w h₀ c t2 v (kNx Q))
@[reducible] noncomputable def kAu2 (w : World) (h₀ : Heap) (c : Cx) (x : Str) (Q : Flow → St → Prop) (lo : Lo) : Value → AH → Prop := fun r H => StoreT w h₀ c x r ⟨lo, H⟩ (kNx Q)
@[reducible] noncomputable def kAu (w : World) (h₀ : Heap) (c : Cx) (x : Str) (op : Operator) (v0 : Value) (Q : Flow → St → Prop) : Value → St → Prop := fun v ⟨lo, H⟩ => IopT w h₀ c.n op v0 v H (kAu2 w h₀ c x Q lo)
@[reducible] noncomputable def kIf (w : World) (h₀ : Heap) (c : Cx) (b o : List Stmt) (Q : Flow → St → Prop) : Bool → St → Prop := fun x st₁ => if x then EsT w h₀ c b st₁ Q else EsT w h₀ c o st₁ Q
@[reducible] noncomputable def kRet (Q : Flow → St → Prop) : Value → St → Prop := fun v st₁ => Q (.ret v) st₁
@[reducible] noncomputable def kEx (Q : Flow → St → Prop) : Value → St → Prop := fun v st₁ => (∀ a, v ≠ .ref a) ∧ Q .next st₁
@[reducible] noncomputable def kWh (w : World) (h₀ : Heap) (c : Cx) (b o : List Stmt) (N Q : Flow → St → Prop) : Bool → St → Prop := fun x st₂ => if x then EsT w h₀ c b st₂ N else EsT w h₀ c o st₂ Q
theorem ExT.assignName {x : Str} {p1 p : Pos} {value : Expr} {st : St} {Q : Flow → St → Prop} (h : EvT w h₀ c value st (kAn w h₀ c x Q))
    (hs : swapsWith value (some (.Name x p1)) p.line c.env = pure false := by rfl) : ExT w h₀ c (.Assign [.Name x p1] value p) st Q := fun s I => by
  refine wpAny_Assign_Name (wpAny_mono (h s I) (fun v s₁ ⟨st₁, I₁, S₁, q⟩ => ?_) fun _ _ e => e) hs
  exact wpAny_mono (q v rfl s₁ I₁) (fun _ _ r => r.step S₁) fun _ _ e => e
theorem ExT.assignT {t : Expr} {p : Pos} {value : Expr} {st : St} {Q : Flow → St → Prop} (h : EvT w h₀ c value st (kAt w h₀ c t Q))
    (hs : swapsWithSole [t] value p.line c.env = pure false := by rfl) (hw : swappedStores [t] value c.env = pure none := by rfl)
    (he : (assignEach [t] c.env).map (·.2) = [assign t c.env] := by rfl) : ExT w h₀ c (.Assign [t] value p) st Q := by
  unfold ExT
  rw [arm_exec_Assign, hs, hw, he]
  refine Tr.bind (Tr.standAt (Tr.bind (Tr.pure (a := false) ?_)))
  refine Tr.bind (Tr.mono h fun v st₁ q => Tr.bind (Tr.pure (a := none) ?_))
  show Tr w h₀ c (do assignAll v [assign t c.env]; pure Flow.next) st₁ _
  exact Tr.bind (Tr.mono (q v rfl) fun _ st₂ r => Tr.pure r)
theorem ExT.assignTT {t1 t2 : Expr} {p : Pos} {value : Expr} {st : St} {Q : Flow → St → Prop} (h : EvT w h₀ c value st (kAtt w h₀ c t1 t2 Q))
    (hs : swapsWithSole [t1, t2] value p.line c.env = pure false := by rfl) (hw : swappedStores [t1, t2] value c.env = pure none := by rfl)
    (he : (assignEach [t1, t2] c.env).map (·.2) = [assign t1 c.env, assign t2 c.env] := by rfl) : ExT w h₀ c (.Assign [t1, t2] value p) st Q := by
  unfold ExT
  rw [arm_exec_Assign, hs, hw, he]
  refine Tr.bind (Tr.standAt (Tr.bind (Tr.pure (a := false) ?_)))
  refine Tr.bind (Tr.mono h fun v st₁ q => Tr.bind (Tr.pure (a := none) ?_))
  show Tr w h₀ c (do (do holding [v] (assign t1 c.env v); assign t2 c.env v); pure Flow.next) st₁ _
  exact Tr.bind (Tr.bind (Tr.holding (Tr.mono (q v rfl) fun _ st₂ r => Tr.mono (r v rfl) fun _ st₃ r => Tr.pure r)))
theorem ExT.augName {x : Str} {p1 p : Pos} {op : Operator} {value : Expr} {st : St} {v0 : Value} {Q : Flow → St → Prop} (h : EvT w h₀ c value st (kAu w h₀ c x op v0 Q))
    (hv : st.lo.lookup x = some v0 := by rfl) (hk : c.env.scope.kind = .function := by rfl) (hl : c.env.kindOf x = some .local := by rfl) : ExT w h₀ c (.AugAssign (.Name x p1) op value p) st Q := fun s I => by
  refine wpAny_AugAssign_Name ?_
  obtain ⟨m, hn, q⟩ := I.ns
  obtain ⟨v', e, r⟩ := lo_get q hv
  refine wpAny_loadName_local hk hl hn e ?_
  refine wpAny_mono (h s I) (fun v s₁ ⟨st₁, I₁, S₁, q₁⟩ => ?_) fun _ _ e => e
  refine wpAny_mono (q₁ v' v r rfl s₁ I₁.h) (fun u s₂ ⟨H₂, I₂, S₂, q₂⟩ => ?_) fun _ _ e => e
  exact wpAny_mono (q₂ u rfl s₂ (I₁.after I₂ S₂)) (fun _ _ r => r.step (S₁.trans S₂.step)) fun _ _ e => e
theorem ExT.if {t : Expr} {b o : List Stmt} {p : Pos} {st : St} {Q : Flow → St → Prop} (h : IfT w h₀ c t st (kIf w h₀ c b o Q)) : ExT w h₀ c (.If t b o p) st Q := by
  unfold ExT
  rw [arm_exec_If]
  refine Tr.bind (Tr.standAt (Tr.bind (Tr.mono h fun x st₁ q => ?_)))
  cases x <;> exact q
theorem ExT.return {e : Expr} {p : Pos} {st : St} {Q : Flow → St → Prop} (h : EvT w h₀ c e st (kRet Q)) : ExT w h₀ c (.Return (some e) p) st Q := fun s I =>
  wpAny_Return_some (h s I)
theorem ExT.returnNone {p : Pos} {st : St} {Q : Flow → St → Prop} (h : Q (.ret .none) st) : ExT w h₀ c (.Return none p) st Q := fun s I =>
  wpAny_Return_none ⟨st, I, .refl, h⟩
theorem ExT.continue {p : Pos} {st : St} {Q : Flow → St → Prop} (h : Q .cont st) : ExT w h₀ c (.Continue p) st Q := fun s I => wpAny_Continue ⟨st, I, .refl, h⟩
theorem ExT.expr {e : Expr} {p : Pos} {st : St} {Q : Flow → St → Prop} (h : EvT w h₀ c e st (kEx Q))
    (hi : interactive c.env = false := by rfl) (hs : swapsWith e none p.line c.env = pure false := by rfl) : ExT w h₀ c (.Expr e p) st Q := fun s I => by
  refine wpAny_Expr (wpAny_mono (h s I) (fun v s₁ ⟨st₁, I₁, S₁, q₁, q⟩ => ?_) fun _ _ e => e) hi hs
  cases v <;> first | exact ⟨st₁, I₁, S₁, q⟩ | exact absurd rfl (q₁ _)
@[reducible] noncomputable def kLoop (N : St → Prop) (Q : Flow → St → Prop) : Flow → St → Prop := fun f st₃ => match f with
  | .next | .cont => N st₃
  | .brk => Q .next st₃
  | .ret v => Q (.ret v) st₃
theorem ExT.while {t : Expr} {b o : List Stmt} {p : Pos} {st : St} {Q : Flow → St → Prop} (J : Nat → St → Prop) (n₀ : Nat) (hj : J n₀ st)
    (turn : ∀ n st₁, J n st₁ → ∀ N : Flow → St → Prop, (∀ {st₃}, (∃ m, m < n ∧ J m st₃) → N .next st₃) → (∀ {st₃}, (∃ m, m < n ∧ J m st₃) → N .cont st₃) → (∀ {st₃}, Q .next st₃ → N .brk st₃) → (∀ {v st₃}, Q (.ret v) st₃ → N (.ret v) st₃) →
      IfT w h₀ c t st₁ (kWh w h₀ c b o N Q)) : ExT w h₀ c (.While t b o p) st Q := fun s I => by
  refine wpAny_While (codeAny_whileLoop (fun n s' => ∃ st', J n st' ∧ Inv w h₀ c st' s' ∧ Step c.env.locals st.H s st'.H s') (fun n s₁ ⟨st₁, j, I₁, S₁⟩ => ?_) n₀ ⟨st, hj, I, .refl⟩)
  refine wpAny_mono (turn n st₁ j (kLoop (fun st₃ => ∃ m, m < n ∧ J m st₃) Q) (fun q => q) (fun q => q) (fun q => q) (fun q => q) s₁ I₁) (fun x s₂ ⟨st₂, I₂, S₂, q⟩ => ?_) fun _ _ e => e.elim
  cases x with
  | true =>
    refine wpAny_mono (q s₂ I₂) (fun f s₃ ⟨st₃, I₃, S₃, q⟩ => ?_) fun _ _ e => e.elim
    have S := (S₁.trans S₂).trans S₃
    cases f with
    | next => obtain ⟨m, hm, j⟩ := q; exact ⟨m, hm, st₃, j, I₃, S⟩
    | cont => obtain ⟨m, hm, j⟩ := q; exact ⟨m, hm, st₃, j, I₃, S⟩
    | brk => exact ⟨st₃, I₃, S, q⟩
    | ret v => exact ⟨st₃, I₃, S, q⟩
  | false => exact wpAny_mono (q s₂ I₂) (fun f s₃ r => r.step (S₁.trans S₂)) fun _ _ e => e.elim
end Mine

namespace Mine
variable {w : World} {h₀ : Heap} {n : Nat}

/-! ## ints -/
section
variable {a b : Int} {H : AH} {Q : Value → AH → Prop}
theorem BinT.addI (h : Q (.int (a + b) 0) H) : BinT w h₀ n .Add (.int a 0) (.int b 0) H Q := fun x y ex ey s I => by
  obtain ⟨t, rfl⟩ := er_int ex; obtain ⟨u, rfl⟩ := er_int ey; exact P.add_int (hpost_tok I h)
theorem BinT.subI (h : Q (.int (a - b) 0) H) : BinT w h₀ n .Sub (.int a 0) (.int b 0) H Q := fun x y ex ey s I => by
  obtain ⟨t, rfl⟩ := er_int ex; obtain ⟨u, rfl⟩ := er_int ey; exact P.sub_int (hpost_tok I h)
theorem BinT.mulI (h : Q (.int (a * b) 0) H) (hm : IntMulOk a b) : BinT w h₀ n .Mult (.int a 0) (.int b 0) H Q := fun x y ex ey s I => by
  obtain ⟨t, rfl⟩ := er_int ex; obtain ⟨u, rfl⟩ := er_int ey; exact P.mul_int (hpost_tok I h) hm
theorem BinT.divI (h : Q (.int (a.fdiv b) 0) H) (hb : b ≠ 0) (hp : b.natAbs.log2 < 9000) : BinT w h₀ n .FloorDiv (.int a 0) (.int b 0) H Q := fun x y ex ey s I => by
  obtain ⟨t, rfl⟩ := er_int ex; obtain ⟨u, rfl⟩ := er_int ey; exact floordiv_int hb (hpost_tok I h) (.inl (PyProof.noPylong_of_log2 hp))
theorem BinT.modI (h : Q (.int (a.fmod b) 0) H) (hb : b ≠ 0) : BinT w h₀ n .Mod (.int a 0) (.int b 0) H Q := fun x y ex ey s I => by
  obtain ⟨t, rfl⟩ := er_int ex; obtain ⟨u, rfl⟩ := er_int ey; exact mod_int' hb (hpost_tok I h)
theorem BinT.powI (h : Q (.int (a ^ b.toNat) 0) H) (hn : 0 ≤ b) (hsz : (Builtin.Int.intBits a : Int) * b ≤ 2 ^ 27) : BinT w h₀ n .Pow (.int a 0) (.int b 0) H Q := fun x y ex ey s I => by
  obtain ⟨t, rfl⟩ := er_int ex; obtain ⟨u, rfl⟩ := er_int ey; exact pow_int hn hsz (hpost_tok I h)
theorem BinT.shlI (h : Q (.int (a * 2 ^ b.toNat) 0) H) (hn : 0 ≤ b) (hsz : (Builtin.Int.intBits a : Int) + b ≤ 2 ^ 27) : BinT w h₀ n .LShift (.int a 0) (.int b 0) H Q := fun x y ex ey s I => by
  obtain ⟨t, rfl⟩ := er_int ex; obtain ⟨u, rfl⟩ := er_int ey; exact lshift_int hn hsz (hpost_tok I h)
theorem BinT.shrI (h : Q (.int (a.fdiv (2 ^ b.toNat)) 0) H) (hn : 0 ≤ b) : BinT w h₀ n .RShift (.int a 0) (.int b 0) H Q := fun x y ex ey s I => by
  obtain ⟨t, rfl⟩ := er_int ex; obtain ⟨u, rfl⟩ := er_int ey; exact rshift_int hn (hpost_tok I h)
theorem BinT.andI (h : Q (.int (Builtin.bitAnd a b) 0) H) : BinT w h₀ n .BitAnd (.int a 0) (.int b 0) H Q := fun x y ex ey s I => by
  obtain ⟨t, rfl⟩ := er_int ex; obtain ⟨u, rfl⟩ := er_int ey; exact and_int (hpost_tok I h)
theorem BinT.orI (h : Q (.int (Builtin.bitOr a b) 0) H) : BinT w h₀ n .BitOr (.int a 0) (.int b 0) H Q := fun x y ex ey s I => by
  obtain ⟨t, rfl⟩ := er_int ex; obtain ⟨u, rfl⟩ := er_int ey; exact or_int (hpost_tok I h)
theorem BinT.xorI (h : Q (.int (Builtin.bitXor a b) 0) H) : BinT w h₀ n .BitXor (.int a 0) (.int b 0) H Q := fun x y ex ey s I => by
  obtain ⟨t, rfl⟩ := er_int ex; obtain ⟨u, rfl⟩ := er_int ey; exact xor_int (hpost_tok I h)
theorem IopT.addI (h : Q (.int (a + b) 0) H) : IopT w h₀ n .Add (.int a 0) (.int b 0) H Q := fun x y ex ey s I => by
  obtain ⟨t, rfl⟩ := er_int ex; obtain ⟨u, rfl⟩ := er_int ey; exact P.iadd_int (hpost_tok I h)
theorem IopT.subI (h : Q (.int (a - b) 0) H) : IopT w h₀ n .Sub (.int a 0) (.int b 0) H Q := fun x y ex ey s I => by
  obtain ⟨t, rfl⟩ := er_int ex; obtain ⟨u, rfl⟩ := er_int ey; exact P.isub_int (hpost_tok I h)
theorem UnT.negI (h : Q (.int (-a) 0) H) : UnT w h₀ n .USub (.int a 0) H Q := fun x ex s I => by
  obtain ⟨t, rfl⟩ := er_int ex; exact P.neg_int (hpost_tok I h)
theorem UnT.invI (h : Q (.int (Builtin.bitNot a) 0) H) : UnT w h₀ n .Invert (.int a 0) H Q := fun x ex s I => by
  obtain ⟨t, rfl⟩ := er_int ex; exact invert_int (hpost_tok I h)
theorem UnT.not {v : Value} (h : TruT w h₀ n v H (fun b => Q (.bool (!b)))) : UnT w h₀ n .Not v H Q := fun x ex s I => not_of (h x ex s I)
theorem CmpT.eqI (h : Q (.bool (a == b)) H) : CmpT w h₀ n .Eq (.int a 0) (.int b 0) H Q := fun x y ex ey s I => by
  obtain ⟨t, rfl⟩ := er_int ex; obtain ⟨u, rfl⟩ := er_int ey; exact P.eq_int ⟨H, I, .refl, h⟩
theorem CmpT.neI (h : Q (.bool (a != b)) H) : CmpT w h₀ n .NotEq (.int a 0) (.int b 0) H Q := fun x y ex ey s I => by
  obtain ⟨t, rfl⟩ := er_int ex; obtain ⟨u, rfl⟩ := er_int ey; exact P.ne_int ⟨H, I, .refl, h⟩
theorem CmpT.ltI (h : Q (.bool (decide (a < b))) H) : CmpT w h₀ n .Lt (.int a 0) (.int b 0) H Q := fun x y ex ey s I => by
  obtain ⟨t, rfl⟩ := er_int ex; obtain ⟨u, rfl⟩ := er_int ey; exact P.lt_int ⟨H, I, .refl, h⟩
theorem CmpT.leI (h : Q (.bool (decide (a ≤ b))) H) : CmpT w h₀ n .LtE (.int a 0) (.int b 0) H Q := fun x y ex ey s I => by
  obtain ⟨t, rfl⟩ := er_int ex; obtain ⟨u, rfl⟩ := er_int ey; exact P.le_int ⟨H, I, .refl, h⟩
theorem CmpT.gtI (h : Q (.bool (decide (a > b))) H) : CmpT w h₀ n .Gt (.int a 0) (.int b 0) H Q := fun x y ex ey s I => by
  obtain ⟨t, rfl⟩ := er_int ex; obtain ⟨u, rfl⟩ := er_int ey; exact P.gt_int ⟨H, I, .refl, h⟩
theorem CmpT.geI (h : Q (.bool (decide (a ≥ b))) H) : CmpT w h₀ n .GtE (.int a 0) (.int b 0) H Q := fun x y ex ey s I => by
  obtain ⟨t, rfl⟩ := er_int ex; obtain ⟨u, rfl⟩ := er_int ey; exact P.ge_int ⟨H, I, .refl, h⟩
theorem TruT.int {R : Bool → AH → Prop} (h : R (a != 0) H) : TruT w h₀ n (.int a 0) H R := fun x ex s I => by
  obtain ⟨t, rfl⟩ := er_int ex; exact P.truthy_int ⟨H, I, .refl, h⟩
end

/-! ## texts -/
section
variable {a b : Str} {H : AH} {Q : Value → AH → Prop}
theorem CmpT.eqS (h : Q (.bool (a.cps.toList == b.cps.toList)) H) : CmpT w h₀ n .Eq (.str a 0) (.str b 0) H Q := fun x y ex ey s I => by
  obtain ⟨t, rfl⟩ := er_str ex; obtain ⟨u, rfl⟩ := er_str ey; exact P.eq_str ⟨H, I, .refl, h⟩
theorem CmpT.neS (h : Q (.bool (a.cps.toList != b.cps.toList)) H) : CmpT w h₀ n .NotEq (.str a 0) (.str b 0) H Q := fun x y ex ey s I => by
  obtain ⟨t, rfl⟩ := er_str ex; obtain ⟨u, rfl⟩ := er_str ey; exact P.ne_str ⟨H, I, .refl, h⟩
theorem CmpT.inS (h : Q (.bool !(Builtin.Str.occurrences b a 0 b.length 1).isEmpty) H) : CmpT w h₀ n .In (.str a 0) (.str b 0) H Q := fun x y ex ey s I => by
  obtain ⟨t, rfl⟩ := er_str ex; obtain ⟨u, rfl⟩ := er_str ey; exact P.in_str ⟨H, I, .refl, h⟩
theorem str_len0 {x : Str} (h : (x.length == 0) = true) : x = ⟨#[]⟩ := by
  obtain ⟨cps⟩ := x
  have : cps.size = 0 := by simpa [Str.length] using h
  rw [Array.eq_empty_of_size_eq_zero this]
theorem post_add {a b : Str} {t u : Tok} {s : Shared} {H : AH} {Q : Value → AH → Prop} (I : InvH w h₀ H s) (h : Q (.str (a ++ b) 0) H) (hz : a.length + b.length ≤ sizeLine) :
    (if (a.length == 0) = true then Made.val (Value.str b u) else if (b.length == 0) = true then Made.val (Value.str a t) else Made.str (a ++ b)).post (HPost w h₀ H s (fun v => Q (er v))) s := by
  split
  · rename_i e
    have : a ++ b = b := by rw [str_len0 e]; exact Str.empty_append b
    rw [this] at h
    exact ⟨H, I, .refl, h⟩
  · split
    · rename_i e
      have : a ++ b = a := by
        rw [str_len0 e]
        obtain ⟨x⟩ := a
        show (⟨x ++ #[]⟩ : Str) = ⟨x⟩
        rw [Array.append_empty]
      rw [this] at h
      exact ⟨H, I, .refl, h⟩
    · exact ⟨by rw [Str.length_append]; exact hz, hpost_tok I h⟩
theorem BinT.addS (h : Q (.str (a ++ b) 0) H) (hz : a.length + b.length ≤ sizeLine) : BinT w h₀ n .Add (.str a 0) (.str b 0) H Q := fun x y ex ey s I => by
  obtain ⟨t, rfl⟩ := er_str ex; obtain ⟨u, rfl⟩ := er_str ey; exact P.add_str (post_add I h hz)
theorem IopT.addS (h : Q (.str (a ++ b) 0) H) (hz : a.length + b.length ≤ sizeLine) : IopT w h₀ n .Add (.str a 0) (.str b 0) H Q := fun x y ex ey s I => by
  obtain ⟨t, rfl⟩ := er_str ex; obtain ⟨u, rfl⟩ := er_str ey; exact P.iadd_str (post_add I h hz)
theorem TruT.str {R : Bool → AH → Prop} (h : R ((a.length : Int) != 0) H) (hz : a.length ≤ sizeLine) : TruT w h₀ n (.str a 0) H R := fun x ex s I => by
  obtain ⟨t, rfl⟩ := er_str ex; exact SBL.truthy (by rw [sizeLine_eq] at hz; omega) (hpost_tok I h)
theorem CmpT.isNone {v : Value} (h : Q (.bool (v == .none)) H) : CmpT w h₀ n .Is v .none H Q := fun x y ex ey s I => by
  rw [er_none ey]
  refine is_none ⟨H, I, .refl, ?_⟩
  have : (x == Value.none) = (v == Value.none) := by rw [← ex]; cases x <;> rfl
  rw [this]; exact h
end

/-! ## lists -/
section
variable {a b : Addr} {xs ys : List Value} {H : AH} {Q : Value → AH → Prop}
theorem InvH.isL {H : AH} {s : Shared} (I : InvH w h₀ H s) {a : Addr} {xs : List Value} (e : H.ls a = some xs) : ∃ items k, IsL s.heap a items k ∧ items.toList.map er = xs := I.ls a xs e
theorem isL_size {items : Array Value} {xs : List Value} (r : items.toList.map er = xs) : items.size = xs.length := by rw [← r, List.length_map, Array.length_toList]
theorem TruT.list {R : Bool → AH → Prop} (e : H.ls a = some xs) (h : R (!xs.isEmpty) H) (hz : xs.length ≤ sizeLine) : TruT w h₀ n (.ref a) H R := fun x ex s I => by
  rw [er_ref ex]
  obtain ⟨items, k, hl, r⟩ := I.isL e
  refine wpAny_truthy_list (IsL.isList hl) (by rw [isL_size r]; rw [sizeLine_eq] at hz; omega) ?_
  have : (!items.isEmpty) = !xs.isEmpty := by
    have := isL_size r
    cases xs with
    | nil => simp at this; subst this; rfl
    | cons y ys => cases q : items.isEmpty with
      | false => rfl
      | true => rw [Array.isEmpty_iff] at q; subst q; simp at this
  rw [this]
  exact hpost_tok I h

theorem keep_push {s : Shared} {o : Obj} : ∀ b o', s.heap.get? b = some o' → (s.heap.push o).get? b = some o' := fun _ _ e => Heap.get?_push_of_some _ e
theorem size_push' {s : Shared} {o : Obj} : s.heap.objs.size ≤ (s.heap.push o).objs.size := by rw [Heap.size_push]; omega
/-- what a new list at the heap's end gives -/
theorem HPost.pushL {H : AH} {s : Shared} (I : InvH w h₀ H s) {items : Array Value} {k : Nat} {t : Tok} {xs : List Value} (hx : items.toList.map er = xs) {Q : Value → AH → Prop} (h : ∀ a, ¬ H.dom a → Q (.ref a) (H.setL a xs)) :
    HPost w h₀ H s (fun v => Q (er v)) (.ref s.heap.objs.size) { s with heap := s.heap.push ⟨.type "list", none, .seq items k, #[]⟩, toks := t } :=
  HPost.newL I (x := xs) ⟨items, k, Heap.get?_push_size _ rfl, hx⟩ (Nat.le_refl _) keep_push size_push' rfl rfl (h _)
theorem HPost.pushT {H : AH} {s : Shared} (I : InvH w h₀ H s) {items : Array Value} {k : Nat} {t : Tok} {xs : List Value} (hx : items.toList.map er = xs) {Q : Value → AH → Prop} (h : ∀ a, ¬ H.dom a → Q (.ref a) (H.setT a xs)) :
    HPost w h₀ H s (fun v => Q (er v)) (.ref s.heap.objs.size) { s with heap := s.heap.push ⟨.type "tuple", none, .seq items k, #[]⟩, toks := t } :=
  HPost.newT I (x := xs) ⟨items, k, Heap.get?_push_size _ rfl, hx⟩ (Nat.le_refl _) keep_push size_push' rfl rfl (h _)

theorem BinT.addL (ea : H.ls a = some xs) (eb : H.ls b = some ys) (hsz : xs.length + ys.length ≤ sizeLine) (h : ∀ c, ¬ H.dom c → Q (.ref c) (H.setL c (xs ++ ys))) : BinT w h₀ n .Add (.ref a) (.ref b) H Q := fun x y ex ey s I => by
  rw [er_ref ex, er_ref ey]
  obtain ⟨i1, k1, h1, r1⟩ := I.isL ea
  obtain ⟨i2, k2, h2, r2⟩ := I.isL eb
  exact P.add_list h1 h2 (HPost.pushL I (t := s.toks) (by rw [Array.toList_append, List.map_append, r1, r2]) h) (by rw [isL_size r1, isL_size r2]; exact hsz)
theorem foldl_rep (items : Array Value) : ∀ (m : Nat) (acc : Array Value), (List.foldl (fun x1 x2 => x1 ++ x2) acc (List.replicate m items)).toList = acc.toList ++ (List.replicate m items.toList).flatten
  | 0, acc => by simp
  | m + 1, acc => by
    rw [List.replicate_succ, List.foldl_cons, foldl_rep items m, List.replicate_succ, List.flatten_cons, Array.toList_append, List.append_assoc]
theorem BinT.mulL {x : Int} (ea : H.ls a = some xs) (hlo : 0 ≤ x) (hhi : x < 2 ^ 63) (hsz : xs.length * x.toNat ≤ 2 ^ 24) (h : ∀ c, ¬ H.dom c → Q (.ref c) (H.setL c (List.replicate x.toNat xs).flatten)) : BinT w h₀ n .Mult (.ref a) (.int x 0) H Q := fun x' y ex ey s I => by
  rw [er_ref ex]
  obtain ⟨u, rfl⟩ := er_int ey
  obtain ⟨items, k, hl, r⟩ := I.isL ea
  have hz := isL_size r
  rw [← hz] at hsz
  have e : ((List.foldl (fun x1 x2 => x1 ++ x2) #[] (List.replicate (if items.isEmpty = true then 0 else x.toNat) items)).toList.map er) = (List.replicate x.toNat xs).flatten := by
    rw [foldl_rep]
    by_cases he : items.isEmpty = true
    · rw [if_pos he]
      have : xs = [] := by rw [Array.isEmpty_iff] at he; rw [← r, he]; rfl
      subst this; simp
    · rw [if_neg he, ← r]
      simp [List.map_flatten]
  exact wpAny_binaryOp_repeat_ref (T := "list") (U := "int") (by decide) ⟨_, hl, rfl⟩ (fun s' => typeIs_int s' x u) noFill_list_mul F.fills_int_mul F.slot_int_rmul repeat_list F.slot_int_index.lookup
    (call_meets F.slot_int_rmul (typeIs_int s x u) F.entry_int_rmul (F.args_int_rmul_2 _ _) (int___rmul___int_list x u a items k)
      ⟨hl, rfl, ⟨_, hl, rfl⟩, call_meets F.slot_list_mul ⟨_, hl, rfl⟩ F.entry_list_mul (F.args_list_mul_2 _ _)
        (AutoListH.list___mul___list_int_3 a items k x u (by simp [Builtin.List.listFitsIndex]; omega) (by omega) (by simp [Builtin.List.listTooLong, sizeLine]; omega))
        ⟨hl, HPost.pushL I (t := s.toks) e h⟩⟩)

/-- an item by its number -/
noncomputable def GetT (w : World) (h₀ : Heap) (n : Nat) (o i : Value) (H : AH) (Q : Value → AH → Prop) : Prop := ∀ o' i', er o' = o → er i' = i → HT w h₀ n (getItem o' i') H (fun v => Q (er v))
theorem get_map {items : Array Value} {xs : List Value} (r : items.toList.map er = xs) {j : Nat} {v : Value} (e : xs[j]? = some v) : ∃ v', items[j]? = some v' ∧ er v' = v := by
  rw [← r, List.getElem?_map] at e
  rw [← Array.getElem?_toList]
  exact Option.map_eq_some_iff.mp e
theorem GetT.list {i : Int} {v : Value} (ea : H.ls a = some xs) (h0 : 0 ≤ i) (hhi : i < 2 ^ 63) (e : xs[i.toNat]? = some v) (h : Q v H) : GetT w h₀ n (.ref a) (.int i 0) H Q := fun x y ex ey s I => by
  rw [er_ref ex]
  obtain ⟨u, rfl⟩ := er_int ey
  obtain ⟨items, k, hl, r⟩ := I.isL ea
  obtain ⟨v', g, q⟩ := get_map r e
  exact wpAny_getItem_list hl.isList h0 hhi g ⟨H, I, .refl, show Q (er v') H from q.symm ▸ h⟩
theorem GetT.listNeg {i : Int} {v : Value} (ea : H.ls a = some xs) (h0 : i < 0) (h1 : -(xs.length : Int) ≤ i) (hf : -(2 ^ 63) ≤ i) (e : xs[(i + xs.length).toNat]? = some v) (h : Q v H) : GetT w h₀ n (.ref a) (.int i 0) H Q := fun x y ex ey s I => by
  rw [er_ref ex]
  obtain ⟨u, rfl⟩ := er_int ey
  obtain ⟨items, k, hl, r⟩ := I.isL ea
  obtain ⟨v', g, q⟩ := get_map r e
  exact wpAny_getItem_list_neg hl.isList h0 (by rw [isL_size r]; exact h1) hf (by rw [isL_size r]; exact g) ⟨H, I, .refl, show Q (er v') H from q.symm ▸ h⟩
theorem GetT.tuple {i : Int} {v : Value} (ea : H.ts a = some xs) (h0 : 0 ≤ i) (hhi : i < 2 ^ 63) (e : xs[i.toNat]? = some v) (h : Q v H) : GetT w h₀ n (.ref a) (.int i 0) H Q := fun x y ex ey s I => by
  rw [er_ref ex]
  obtain ⟨u, rfl⟩ := er_int ey
  obtain ⟨items, k, hl, r⟩ := I.ts a xs ea
  obtain ⟨v', g, q⟩ := get_map r e
  have hlt : i.toNat < items.size := by
    apply Nat.lt_of_not_le; intro hge; rw [Array.getElem?_eq_none hge] at g; cases g
  exact P.getItem_tuple hl (by omega) hhi (seqIndex_of h0 (by omega)) g ⟨H, I, .refl, show Q (er v') H from q.symm ▸ h⟩
theorem isLs_update {h : Heap} {l : Addr} {items : Array Value} {k : Nat} (hl : IsL h l items k) (f : Array Value → Array Value) {xs : List Value} (e : (f items).toList.map er = xs) : IsLs (h.update l (Obj.mapSeq f)) l xs :=
  ⟨_, _, IsL.update hl f, e⟩
theorem SetIT.list {i : Int} {v : Value} {R : AH → Prop} (ea : H.ls a = some xs) (h0 : 0 ≤ i) (hhi : i < 2 ^ 63) (hn : i < xs.length) (h : R (H.setL a (xs.set i.toNat v))) : SetIT w h₀ n (.ref a) (.int i 0) v H R := fun x y v' ex ey ev s I => by
  rw [er_ref ex]
  obtain ⟨u, rfl⟩ := er_int ey
  obtain ⟨items, k, hl, r⟩ := I.isL ea
  refine ki_setAt hl h0 hhi (by rw [isL_size r]; exact hn) ?_
  refine HPost.updL (x := xs.set i.toNat v) I ea (Heap.SameBut.update _ _ _) (isLs_update hl _ ?_) rfl rfl h
  rw [Array.toList_setIfInBounds, List.map_set, r, ev]
end
end Mine

namespace Mine
variable {w : World} {h₀ : Heap} {c : Cx} {n : Nat}

/-! ## subscripts -/
noncomputable def SubOk (H : AH) : Value → Prop
  | .str _ _ => True
  | .ref a => H.ls a ≠ none ∨ H.ts a ≠ none ∨ H.ds a ≠ none
  | _ => False
theorem SubOk.ls {H : AH} {a : Addr} {x} (e : H.ls a = some x) : SubOk H (.ref a) := .inl (by rw [e]; simp)
theorem SubOk.ts {H : AH} {a : Addr} {x} (e : H.ts a = some x) : SubOk H (.ref a) := .inr (.inl (by rw [e]; simp))
theorem SubOk.ds {H : AH} {a : Addr} {x} (e : H.ds a = some x) : SubOk H (.ref a) := .inr (.inr (by rw [e]; simp))
theorem SubOk.types {H : AH} {s : Shared} {o o' : Value} (k : SubOk H o) (I : InvH w h₀ H s) (e : er o' = o) : ∃ T id, s.TypeIs o' T ∧ typeLookup (.type T) "__getitem__" = pure (some (.builtin id)) := by
  cases o with
  | str x t => obtain ⟨u, rfl⟩ := er_str e; exact ⟨_, _, typeIs_str _ _ _, F.slot_str_getitem.lookup⟩
  | ref a =>
    rw [er_ref e]
    rcases k with k | k | k
    · obtain ⟨x, k⟩ := Option.ne_none_iff_exists'.mp k
      obtain ⟨i, k, g, r⟩ := I.ls a x k; exact ⟨_, _, ⟨_, g, rfl⟩, slot_list_getitem.lookup⟩
    · obtain ⟨x, k⟩ := Option.ne_none_iff_exists'.mp k
      obtain ⟨i, k, g, r⟩ := I.ts a x k; exact ⟨_, _, ⟨_, g, rfl⟩, slot_tuple_getitem.lookup⟩
    · obtain ⟨x, k⟩ := Option.ne_none_iff_exists'.mp k
      obtain ⟨i, n, g, r⟩ := I.ds a x k; exact ⟨_, _, ⟨_, g, rfl⟩, slot_dict_getitem.lookup⟩
  | _ => exact absurd k (by unfold SubOk; simp)

@[reducible] noncomputable def kSub2 (w : World) (h₀ : Heap) (c : Cx) (Q : Value → St → Prop) (o : Value) : Value → St → Prop := fun i ⟨lo, H⟩ => SubOk H o ∧ GetT w h₀ c.n o i H (kH Q lo)
@[reducible] noncomputable def kSub (w : World) (h₀ : Heap) (c : Cx) (slice : Expr) (Q : Value → St → Prop) : Value → St → Prop := fun o st₁ => EvT w h₀ c slice st₁ (kSub2 w h₀ c Q o)
theorem EvT.sub {value slice : Expr} {p : Pos} {st : St} {Q : Value → St → Prop}
    (h : EvT w h₀ c value st (kSub w h₀ c slice Q))
    (hs : ∀ o i, ∃ ops, subscripted slice false o i = operate ops (getItem o i) := by intro _ _; exact ⟨_, rfl⟩) : EvT w h₀ c (.Subscript value slice p) st Q := fun s I => by
  refine Subscript_ ?_
  refine wpAny_mono (h s I) (fun o s₁ ⟨st₁, I₁, S₁, q₁⟩ => ?_) fun _ _ e => e
  refine wpAny_mono (q₁ s₁ I₁) (fun i s₂ ⟨st₂, I₂, S₂, ok, q₂⟩ => ?_) fun _ _ e => e
  obtain ⟨T, id, hT, hl⟩ := ok.types I₂.h rfl
  obtain ⟨ops, ho⟩ := hs o i
  refine tail_any hT hl ?_ ho
  refine wpAny_mono (q₂ o i rfl rfl s₂ I₂.h) (fun v s₃ ⟨H₃, I₃, S₃, q₃⟩ => ?_) fun _ _ e => e
  exact ⟨⟨st₂.lo, H₃⟩, I₂.after I₃ S₃, S₁.trans (S₂.trans S₃.step), q₃⟩

/-! ## slices -/
noncomputable def PartT (w : World) (h₀ : Heap) (c : Cx) (e : Option Expr) (st : St) (Q : Value → St → Prop) : Prop := Tr w h₀ c (evalPart e c.env) st (fun v => Q (er v))
theorem PartT.none {st : St} {Q : Value → St → Prop} (h : Q .none st) : PartT w h₀ c none st Q := Tr.pure h
theorem PartT.some {e : Expr} {st : St} {Q : Value → St → Prop} (h : EvT w h₀ c e st Q) : PartT w h₀ c (some e) st Q := h
noncomputable def SliT (w : World) (h₀ : Heap) (n : Nat) (o l u st : Value) (H : AH) (Q : Value → AH → Prop) : Prop := ∀ o' l' u' st', er o' = o → er l' = l → er u' = u → er st' = st → ∀ s, InvH w h₀ H s →
  wpAny (MM w) (AA n) (getItem o' (.ref s.heap.objs.size)) (HPost w h₀ H s (fun v => Q (er v))) NoE { s with heap := s.heap.push { cls := .type "slice", data := .fields #[l', u', st'] } }
@[reducible] noncomputable def kSl4 (w : World) (h₀ : Heap) (c : Cx) (Q : Value → St → Prop) (o l u : Value) : Value → St → Prop := fun x ⟨lo, H⟩ => SubOk H o ∧ SliT w h₀ c.n o l u x H (kH Q lo)
@[reducible] noncomputable def kSl3 (w : World) (h₀ : Heap) (c : Cx) (stp : Option Expr) (Q : Value → St → Prop) (o l : Value) : Value → St → Prop := fun u st₃ => PartT w h₀ c stp st₃ (kSl4 w h₀ c Q o l u)
@[reducible] noncomputable def kSl2 (w : World) (h₀ : Heap) (c : Cx) (up stp : Option Expr) (Q : Value → St → Prop) (o : Value) : Value → St → Prop := fun l st₂ => PartT w h₀ c up st₂ (kSl3 w h₀ c stp Q o l)
@[reducible] noncomputable def kSl (w : World) (h₀ : Heap) (c : Cx) (lo up stp : Option Expr) (Q : Value → St → Prop) : Value → St → Prop := fun o st₁ => PartT w h₀ c lo st₁ (kSl2 w h₀ c up stp Q o)
theorem EvT.slice {value : Expr} {lo up stp : Option Expr} {p p' : Pos} {st : St} {Q : Value → St → Prop}
    (h : EvT w h₀ c value st (kSl w h₀ c lo up stp Q))
    (hs : ∀ o i, ∃ ops, subscripted (.Slice lo up stp p) false o i = operate ops (getItem o i) := by intro _ _; exact ⟨_, rfl⟩) : EvT w h₀ c (.Subscript value (.Slice lo up stp p) p') st Q := fun s I => by
  refine Subscript_ ?_
  refine wpAny_mono (h s I) (fun o s₁ ⟨st₁, I₁, S₁, q₁⟩ => ?_) fun _ _ e => e
  refine wpAny_Slice ?_
  refine wpAny_mono (q₁ s₁ I₁) (fun l s₂ ⟨st₂, I₂, S₂, q₂⟩ => ?_) fun _ _ e => e
  refine wpAny_mono (q₂ s₂ I₂) (fun u s₃ ⟨st₃, I₃, S₃, q₃⟩ => ?_) fun _ _ e => e
  refine wpAny_mono (q₃ s₃ I₃) (fun x s₄ ⟨st₄, I₄, S₄, ok, q₄⟩ => ?_) fun _ _ e => e
  have J := I₄.h.ext (s' := { s₄ with heap := s₄.heap.push { cls := .type "slice", data := .fields #[l, u, x] } }) keep_push size_push' rfl rfl
  obtain ⟨T, id, hT, hl⟩ := ok.types J.1 rfl
  obtain ⟨ops, ho⟩ := hs o (.ref s₄.heap.objs.size)
  refine tail_any hT hl ?_ ho
  refine wpAny_mono (q₄ o l u x rfl rfl rfl rfl s₄ I₄.h) (fun v s₅ ⟨H₅, I₅, S₅, q₅⟩ => ?_) fun _ _ e => e
  exact ⟨⟨st₄.lo, H₅⟩, I₄.after I₅ S₅, S₁.trans (S₂.trans (S₃.trans (S₄.trans S₅.step))), q₅⟩

noncomputable def asPart : Option Int → Value
  | none => .none
  | some i => .int i 0
theorem asPart_is {v : Value} {i : Option Int} (e : er v = asPart i) : IsPart v i := by
  cases i with
  | none => rw [er_none e]; exact .none
  | some i => obtain ⟨u, rfl⟩ := er_int e; exact .int i u
noncomputable def pick (xs : List Value) (lo hi st : Option Int) : List Value := (sliceRange (sliceBounds lo hi st xs.length).1 (sliceBounds lo hi st xs.length).2.1 (sliceBounds lo hi st xs.length).2.2).filterMap (xs[·]?)
theorem pick_map {items : Array Value} {xs : List Value} (r : items.toList.map er = xs) (lo hi st : Option Int) : (slicePick items lo hi st).toList.map er = pick xs lo hi st := by
  unfold slicePick pick
  rw [isL_size r, List.map_filterMap]
  congr 1
  funext i
  rw [← r, List.getElem?_map, ← Array.getElem?_toList]
theorem SliT.list {a : Addr} {xs : List Value} {H : AH} {lo hi st : Option Int} {l u x : Value} {Q : Value → AH → Prop} (ea : H.ls a = some xs) (hl : l = asPart lo) (hu : u = asPart hi) (hx : x = asPart st) (h0 : st ≠ some 0) (hsz : xs.length ≤ sizeLine)
    (h : ∀ b, ¬ H.dom b → Q (.ref b) (H.setL b (pick xs lo hi st))) : SliT w h₀ n (.ref a) l u x H Q := fun o' l' u' st' eo el eu es s I => by
  subst hl hu hx
  rw [er_ref eo]
  obtain ⟨items, k, g, r⟩ := I.isL ea
  have J := I.ext (s' := { s with heap := s.heap.push { cls := .type "slice", data := .fields #[l', u', st'] } }) keep_push size_push' rfl rfl
  refine wpAny_getItem_list_slice (IsL.isList (g.push _)) (Heap.IsSliceOf.new _ l' u' st') (asPart_is el) (asPart_is eu) (asPart_is es) h0 ?_ (by rw [isL_size r]; exact hsz)
  exact HPost.step J.2 (HPost.pushL J.1 (t := s.toks) (pick_map r lo hi st) h)

noncomputable def loN (n : Nat) : Option Int → Nat
  | none => 0
  | some i => (max 0 (min (if i < 0 then i + n else i) (n : Int))).toNat
noncomputable def hiN (n : Nat) : Option Int → Nat
  | none => n
  | some i => (max 0 (min (if i < 0 then i + n else i) (n : Int))).toNat
theorem loN_eq (n : Nat) (i : Option Int) : (match i with | none => (0 : Int) | some i => let i := if i < 0 then i + n else i; if (1 : Int) > 0 then max 0 (min i n) else max (-1) (min i ((n : Int) - 1))) = (loN n i : Int) := by
  cases i with
  | none => rfl
  | some i => simp only [loN, show (1 : Int) > 0 by decide, if_true]; omega
theorem hiN_eq (n : Nat) (i : Option Int) : (match i with | none => (n : Int) | some i => let i := if i < 0 then i + n else i; if (1 : Int) > 0 then max 0 (min i n) else max (-1) (min i ((n : Int) - 1))) = (hiN n i : Int) := by
  cases i with
  | none => rfl
  | some i => simp only [hiN, show (1 : Int) > 0 by decide, if_true]; omega
theorem pick_one (xs : List Value) (lo hi : Option Int) : pick xs lo hi none = (xs.drop (loN xs.length lo)).take (hiN xs.length hi - loN xs.length lo) := by
  unfold pick
  have e : sliceBounds lo hi none xs.length = ((loN xs.length lo : Int), (hiN xs.length hi : Int), 1) := by
    rw [← loN_eq, ← hiN_eq]; rfl
  rw [e]
  simp only
  rw [sliceRange_one]
  have := pick_run xs.toArray (loN xs.length lo) (hiN xs.length hi - loN xs.length lo)
  simpa using this
noncomputable def sliceS (x : Str) (lo hi : Option Int) : Str := ⟨((x.cps.toList.drop (loN x.length lo)).take (hiN x.length hi - loN x.length lo)).toArray⟩
theorem hiN_le (n : Nat) (i : Option Int) : hiN n i ≤ n := by cases i <;> simp only [hiN] <;> omega
theorem strIdx (x : Str) (lo hi : Option Int) : Builtin.Str.strSliceIndices lo hi 1 x.length = (List.range (hiN x.length hi - loN x.length lo)).map (loN x.length lo + ·) := by
  rw [← sliceRange_one, ← loN_eq, ← hiN_eq]
  cases lo <;> cases hi <;> rfl
theorem SliT.str {x : Str} {H : AH} {lo hi : Option Int} {l u : Value} {Q : Value → AH → Prop} (hl : l = asPart lo) (hu : u = asPart hi) (hz : x.length ≤ sizeLine)
    (h : Q (.str (sliceS x lo hi) 0) H) : SliT w h₀ n (.str x 0) l u .none H Q := fun o' l' u' st' eo el eu es s I => by
  subst hl hu
  obtain ⟨t, rfl⟩ := er_str eo
  rw [er_none es]
  have J := I.ext (s' := { s with heap := s.heap.push { cls := .type "slice", data := .fields #[l', u', .none] } }) keep_push size_push' rfl rfl
  obtain ⟨pl, el1, el2⟩ : ∃ p : Option (Int × Tok), l' = partValue p ∧ p.map (·.1) = lo := by
    cases lo with
    | none => exact ⟨none, er_none el, rfl⟩
    | some i => obtain ⟨u, rfl⟩ := er_int el; exact ⟨some (i, u), rfl, rfl⟩
  obtain ⟨pu, eu1, eu2⟩ : ∃ p : Option (Int × Tok), u' = partValue p ∧ p.map (·.1) = hi := by
    cases hi with
    | none => exact ⟨none, er_none eu, rfl⟩
    | some i => obtain ⟨u, rfl⟩ := er_int eu; exact ⟨some (i, u), rfl, rfl⟩
  subst el1 eu1
  refine wpAny_getItem_str_slice (l := pl) (u := pu) (st := none) ⟨_, Heap.get?_push_size _ rfl, rfl, rfl⟩ rfl ?_
  have ep : slicePicked x pl pu none = (List.range (hiN x.length hi - loN x.length lo)).map (loN x.length lo + ·) := by
    unfold slicePicked; rw [el2, eu2]; exact strIdx x lo hi
  have en : ((slicePicked x pl pu none).filterMap (x.cps[·]?)).toArray = (sliceS x lo hi).cps := by
    rw [ep, pick_run]; rfl
  unfold sliceMade
  split
  · rename_i hc
    have hc' : (slicePicked x pl pu none).length = x.length := by
      rw [Bool.and_eq_true] at hc; exact eq_of_beq hc.2
    rw [ep, List.length_map, List.length_range] at hc'
    have := hiN_le x.length hi
    have e : sliceS x lo hi = x := by
      unfold sliceS
      rcases Nat.eq_zero_or_pos x.length with z | z
      · have : x.cps.toList = [] := by
          have z' : x.cps.toList.length = 0 := by simpa [Str.length] using z
          exact List.length_eq_zero_iff.mp z'
        rw [this]; simp
        obtain ⟨a⟩ := x
        have : a = #[] := by simpa using this
        rw [this]
      · have e1 : loN x.length lo = 0 := by omega
        rw [e1]
        have e2 : hiN x.length hi = x.length := by omega
        rw [e2, List.drop_zero, Nat.sub_zero, List.take_of_length_le (by simp [Str.length])]
    rw [e] at h
    exact HPost.step J.2 ⟨H, J.1, .refl, h⟩
  · refine ⟨?_, HPost.step J.2 (hpost_tok J.1 ?_)⟩
    · show ((slicePicked x pl pu none).filterMap (x.cps[·]?)).toArray.size ≤ _
      rw [en]
      have : (sliceS x lo hi).cps.size ≤ x.length := by simp [sliceS, Str.length]; omega
      exact Nat.le_trans this hz
    · show Q (.str ⟨((slicePicked x pl pu none).filterMap (x.cps[·]?)).toArray⟩ 0) H
      rw [en]; exact h

theorem GetT.str {x : Str} {i : Int} {cp : Nat} {H : AH} {Q : Value → AH → Prop} (hr : (decide (i < -(2 ^ 63 : Int)) || decide (i ≥ 2 ^ 63)) = false) (hc : (seqIndex? i x.length).bind (x.cps[·]?) = some cp)
    (h : Q (.str ⟨#[cp]⟩ 0) H) : GetT w h₀ n (.str x 0) (.int i 0) H Q := fun x' y ex ey s I => by
  obtain ⟨t, rfl⟩ := er_str ex
  obtain ⟨u, rfl⟩ := er_int ey
  exact P.getItem_str hr hc (hpost_tok I h)
end Mine

namespace Mine
variable {w : World} {h₀ : Heap} {c : Cx} {n : Nat}

/-! ## dicts with texts as keys -/
theorem hash_eq (k : Str) : (strKind PP w).hash k = PyData.keyHash w.params k := rfl
noncomputable def keyOf (e : DictEntry) : Str := match e.key with | .str s _ => s | _ => ⟨#[]⟩
theorem erE_eq (e : DictEntry) : erE e = (keyOf e, er e.val) := rfl
theorem isStrOf_key {e : DictEntry} (h : ∃ k t, e.key = .str k t ∧ e.hash = PyData.keyHash w.params k) : (strKind PP w).is (keyOf e) e.key = true ∧ e.hash = (strKind PP w).hash (keyOf e) := by
  obtain ⟨k, t, h1, h2⟩ := h
  unfold keyOf
  rw [h1]
  refine ⟨?_, h2⟩
  show Value.isStrOf k (.str k t) = true
  unfold Value.isStrOf
  simp
theorem IsDs.dictOf {h : Heap} {a : Addr} {kv : List (Str × Value)} (x : IsDs w.params h a kv) : ∃ kvs : List (Str × Value), h.DictOf (strKind PP w) a kvs ∧ kvs.map (fun p => (p.1, er p.2)) = kv := by
  obtain ⟨es, n, g, hk, hm, hn⟩ := x
  refine ⟨es.toList.map fun e => (keyOf e, e.val), ⟨_, es, n, g, ⟨rfl, rfl, rfl⟩, rfl, fun e he => ?_, ?_, ?_⟩, ?_⟩
  · have := isStrOf_key (hk e (Array.mem_toList_iff.mpr he))
    exact ⟨_, this.1, this.2⟩
  · have : ∀ l : List DictEntry, (∀ e ∈ l, ∃ k t, e.key = .str k t ∧ e.hash = PyData.keyHash w.params k) → Pairs (strKind PP w) l (l.map fun e => (keyOf e, e.val)) := by
      intro l
      induction l with
      | nil => intro _; exact .nil
      | cons e r ih => intro hl; exact .cons (isStrOf_key (hl e (.head _))).1 rfl (ih fun e' he' => hl e' (.tail _ he'))
    exact this _ hk
  · rw [← hm] at hn; rw [List.map_map] at hn ⊢; exact hn
  · rw [List.map_map, ← hm]; rfl
theorem str_of_is {k : Str} {v : Value} (h : (strKind PP w).is k v = true) : ∃ t, v = .str k t := Value.isStrOf_shape h
theorem pairs_erE : ∀ {es : List DictEntry} {kvs : List (Str × Value)}, Pairs (strKind PP w) es kvs → es.map erE = kvs.map (fun p => (p.1, er p.2))
  | _, _, .nil => rfl
  | _, _, .cons h1 h2 h3 => by
    rw [List.map_cons, List.map_cons, pairs_erE h3, erE_eq]
    obtain ⟨t, ht⟩ := str_of_is h1
    congr 1
    unfold keyOf
    rw [ht, h2]
theorem dictOf_isDs {h : Heap} {a : Addr} {kvs : List (Str × Value)} (x : h.DictOf (strKind PP w) a kvs) : IsDs w.params h a (kvs.map fun p => (p.1, er p.2)) := by
  obtain ⟨⟨cls, dd, dt, sl⟩, es, ep, g, ⟨rfl, rfl, rfl⟩, hd, hk, hp, hn⟩ := x
  simp only at hd
  subst hd
  refine ⟨es, ep, g, fun e he => ?_, pairs_erE hp, by rw [List.map_map]; exact hn⟩
  obtain ⟨k, h1, h2⟩ := hk e (Array.mem_toList_iff.mp he)
  obtain ⟨t, ht⟩ := str_of_is h1
  exact ⟨k, t, ht, h2⟩
theorem valueAt_er {kvs : List (Str × Value)} {k : Str} {v : Value} (e : (kvs.map fun p => (p.1, er p.2)).lookup k = some v) : ∃ v', valueAt kvs k = some v' ∧ er v' = v := by
  induction kvs with
  | nil => cases e
  | cons p r ih =>
    rw [List.map_cons, List.lookup_cons] at e
    unfold valueAt
    rw [List.find?_cons]
    by_cases h : p.1 = k
    · have : (k == p.1) = true := by rw [h]; exact beq_self_eq_true k
      rw [this] at e
      simp only [h, decide_true, Option.map_some]
      exact ⟨_, rfl, by simpa using e⟩
    · have : (k == p.1) = false := beq_eq_false_iff_ne.mpr (fun z => h z.symm)
      rw [this] at e
      simp only [h, decide_false]
      exact ih e
theorem lput_cons (x : Str) (v : Value) (p : Str × Value) (r : Lo) : lput x v (p :: r) = if p.1 = x then (x, v) :: r else p :: lput x v r := rfl
theorem stored_er (kvs : List (Str × Value)) (k : Str) (v : Value) (hn : (kvs.map (·.1)).Nodup) : (stored kvs k v).map (fun p => (p.1, er p.2)) = lput k (er v) (kvs.map fun p => (p.1, er p.2)) := by
  unfold stored
  induction kvs with
  | nil => rfl
  | cons p r ih =>
    rw [List.map_cons, List.nodup_cons] at hn
    have e0 : (p :: r).map (fun p => (p.1, er p.2)) = (p.1, er p.2) :: r.map (fun p => (p.1, er p.2)) := rfl
    rw [e0, lput_cons]
    by_cases h : p.1 = k
    · have nk : ∀ q ∈ r, q.1 ≠ k := fun q hq e => hn.1 (h ▸ e ▸ List.mem_map_of_mem hq)
      have hc : ((p :: r).any fun kv => decide (kv.1 = k)) = true := by rw [List.any_cons, decide_eq_true h]; rfl
      rw [if_pos hc, if_pos h, List.map_cons, if_pos h, List.map_cons, List.map_map, h]
      congr 1
      apply List.map_congr_left
      intro q hq
      simp only [Function.comp]
      rw [if_neg (nk q hq)]
    · have := ih hn.2
      rw [if_neg h]
      have hc : ((p :: r).any fun kv => decide (kv.1 = k)) = (r.any fun kv => decide (kv.1 = k)) := by rw [List.any_cons, decide_eq_false h]; rfl
      rw [hc]
      split
      · rename_i hc
        rw [if_pos hc] at this
        rw [List.map_cons, if_neg h, List.map_cons, this]
      · rename_i hc
        rw [if_neg hc] at this
        rw [List.cons_append, List.map_cons, this]
theorem GetT.dict {a : Addr} {kv : List (Str × Value)} {k : Str} {v : Value} {H : AH} {Q : Value → AH → Prop} (ea : H.ds a = some kv) (e : kv.lookup k = some v) (h : Q v H) : GetT w h₀ n (.ref a) (.str k 0) H Q := fun x y ex ey s I => by
  rw [er_ref ex]
  obtain ⟨u, rfl⟩ := er_str ey
  obtain ⟨kvs, hd, hm⟩ := (I.ds a kv ea).dictOf
  rw [← hm] at e
  obtain ⟨v', g, q⟩ := valueAt_er e
  refine wpAny_getItem_of (knd := strKind PP w) (k := k) (f := valueAt kvs) (by show Value.isStrOf k (.str k u) = true; simp [Value.isStrOf]) hd.mapOf g ?_
  exact hpost_tok I (show Q (er v') H from q.symm ▸ h)
theorem SetIT.dict {a : Addr} {kv : List (Str × Value)} {k : Str} {v : Value} {H : AH} {Q : AH → Prop} (ea : H.ds a = some kv) (hsz : kv.length ≤ 1000) (h : Q (H.setD a (lput k v kv))) : SetIT w h₀ n (.ref a) (.str k 0) v H Q := fun x y v' ex ey ev s I => by
  rw [er_ref ex]
  obtain ⟨u, rfl⟩ := er_str ey
  obtain ⟨kvs, hd, hm⟩ := (I.ds a kv ea).dictOf
  have hn : (kvs.map (·.1)).Nodup := by obtain ⟨_, _, _, _, _, _, _, _, hn⟩ := hd; exact hn
  refine wpAny_setItem_pairs (knd := strKind PP w) (k := k) (by show Value.isStrOf k (.str k u) = true; simp [Value.isStrOf]) hd (fun h' hd' hs => ?_) (by rw [← hm, List.length_map] at hsz; rw [sizeLine_eq]; omega)
  refine HPost.updD (x := lput k v kv) I ea hs ?_ rfl rfl h
  have := dictOf_isDs hd'
  rw [stored_er kvs k v' hn, hm, ev] at this
  exact this

/-! ## lists and tuples of texts and numbers, held against one another -/
theorem readsAll_strs {h : Heap} : ∀ {vs : List Value} {ys : List Str}, vs.map er = ys.map (Value.str · 0) → ReadsAll h vs (ys.map .str) []
  | [], [], _ => .nil
  | v :: vs, y :: ys, e => by
    rw [List.map_cons, List.map_cons, List.cons.injEq] at e
    obtain ⟨t, rfl⟩ := er_str e.1
    exact ReadsAll.cons (as := []) (bs := []) (.str y t) (readsAll_strs e.2)
  | [], _ :: _, e => by cases e
  | _ :: _, [], e => by cases e
theorem readsAll_ints {h : Heap} : ∀ {vs : List Value} {ys : List Int}, vs.map er = ys.map (Value.int · 0) → ReadsAll h vs (ys.map .int) []
  | [], [], _ => .nil
  | v :: vs, y :: ys, e => by
    rw [List.map_cons, List.map_cons, List.cons.injEq] at e
    obtain ⟨t, rfl⟩ := er_int e.1
    exact ReadsAll.cons (as := []) (bs := []) (.int y t) (readsAll_ints e.2)
  | [], _ :: _, e => by cases e
  | _ :: _, [], e => by cases e
theorem InvH.readsLS {H : AH} {s : Shared} (I : InvH w h₀ H s) {a : Addr} {ys : List Str} (e : H.ls a = some (ys.map (Value.str · 0))) : Reads s.heap (.ref a) (.list (ys.map .str)) [a] := by
  obtain ⟨i, k, g, r⟩ := I.ls a _ e
  exact .list g rfl rfl (readsAll_strs r)
theorem InvH.readsLI {H : AH} {s : Shared} (I : InvH w h₀ H s) {a : Addr} {ys : List Int} (e : H.ls a = some (ys.map (Value.int · 0))) : Reads s.heap (.ref a) (.list (ys.map .int)) [a] := by
  obtain ⟨i, k, g, r⟩ := I.ls a _ e
  exact .list g rfl rfl (readsAll_ints r)
theorem InvH.readsTI {H : AH} {s : Shared} (I : InvH w h₀ H s) {a : Addr} {ys : List Int} (e : H.ts a = some (ys.map (Value.int · 0))) : Reads s.heap (.ref a) (.tuple (ys.map .int)) [] := by
  obtain ⟨i, k, g, r⟩ := I.ts a _ e
  exact .tuple g rfl rfl (readsAll_ints r)
theorem lay_strs : ∀ {ys : List Str}, ys.all PyData.strOk = true → PyData.canLayAll0 (ys.map .str) = true
  | [], _ => rfl
  | y :: ys, h => by
    rw [List.all_cons, Bool.and_eq_true] at h
    simp [PyData.canLayAll0, PyData.canLay0, lay_strs h.2, h.1]
theorem lay_ints : ∀ ys : List Int, PyData.canLayAll0 (ys.map .int) = true
  | [] => rfl
  | y :: ys => by simp [PyData.canLayAll0, PyData.canLay0, lay_ints ys]
theorem depth_strs : ∀ ys : List Str, PyData.depthAll (ys.map .str) ≤ 1
  | [] => by simp [PyData.depthAll]
  | y :: ys => by have := depth_strs ys; simp [PyData.depthAll, PyData.depth]; omega
theorem depth_ints : ∀ ys : List Int, PyData.depthAll (ys.map .int) ≤ 1
  | [] => by simp [PyData.depthAll]
  | y :: ys => by have := depth_ints ys; simp [PyData.depthAll, PyData.depth]; omega
theorem eqv_strs : ∀ xs ys : List Str, PyData.eqvAll (xs.map .str) (ys.map .str) = (xs == ys)
  | [], [] => rfl
  | [], _ :: _ => rfl
  | _ :: _, [] => rfl
  | x :: xs, y :: ys => by
    simp only [List.map_cons, PyData.eqvAll, PyData.eqv, eqv_strs xs ys]; rfl
theorem eqv_ints : ∀ xs ys : List Int, PyData.eqvAll (xs.map .int) (ys.map .int) = (xs == ys)
  | [], [] => rfl
  | [], _ :: _ => rfl
  | _ :: _, [] => rfl
  | x :: xs, y :: ys => by
    simp only [List.map_cons, PyData.eqvAll, PyData.eqv, eqv_ints xs ys]; rfl
section
variable {a b : Addr} {H : AH} {Q : Value → AH → Prop}
theorem aa_u2 {n : Nat} (h : n ≤ 100) (k : Nat) (hk : k ≤ 5) : (AA n).units + k < cLine := by simp [AA, cLine]; omega
theorem CmpT.eqLS {xs ys : List Str} (ea : H.ls a = some (xs.map (Value.str · 0))) (eb : H.ls b = some (ys.map (Value.str · 0))) (hn : n ≤ 100) (hx : xs.all PyData.strOk = true) (hy : ys.all PyData.strOk = true) (h : Q (.bool (xs == ys)) H) : CmpT w h₀ n .Eq (.ref a) (.ref b) H Q := fun x y ex ey s I => by
  rw [er_ref ex, er_ref ey]
  refine SeqAt.compareEq_reads (I.readsLS ea) (I.readsLS eb) (by simp [PyData.canLay0, lay_strs hx]) (by simp [PyData.canLay0, lay_strs hy]) (aa_u2 hn _ ?_) ?_
  · have := depth_strs xs; simp only [PyData.depth]; omega
  · exact ⟨H, I, .refl, by simp only [PyData.eqv, eqv_strs]; exact h⟩
theorem CmpT.neLS {xs ys : List Str} (ea : H.ls a = some (xs.map (Value.str · 0))) (eb : H.ls b = some (ys.map (Value.str · 0))) (hn : n ≤ 100) (hx : xs.all PyData.strOk = true) (hy : ys.all PyData.strOk = true) (h : Q (.bool (!(xs == ys))) H) : CmpT w h₀ n .NotEq (.ref a) (.ref b) H Q := fun x y ex ey s I => by
  rw [er_ref ex, er_ref ey]
  refine SeqAt.compareNe_reads (I.readsLS ea) (I.readsLS eb) (by simp [PyData.canLay0, lay_strs hx]) (by simp [PyData.canLay0, lay_strs hy]) (aa_u2 hn _ ?_) ?_
  · have := depth_strs xs; simp only [PyData.depth]; omega
  · exact ⟨H, I, .refl, by simp only [PyData.eqv, eqv_strs]; exact h⟩
theorem CmpT.eqLI {xs ys : List Int} (ea : H.ls a = some (xs.map (Value.int · 0))) (eb : H.ls b = some (ys.map (Value.int · 0))) (hn : n ≤ 100) (h : Q (.bool (xs == ys)) H) : CmpT w h₀ n .Eq (.ref a) (.ref b) H Q := fun x y ex ey s I => by
  rw [er_ref ex, er_ref ey]
  refine SeqAt.compareEq_reads (I.readsLI ea) (I.readsLI eb) (by simp [PyData.canLay0, lay_ints]) (by simp [PyData.canLay0, lay_ints]) (aa_u2 hn _ ?_) ?_
  · have := depth_ints xs; simp only [PyData.depth]; omega
  · exact ⟨H, I, .refl, by simp only [PyData.eqv, eqv_ints]; exact h⟩
theorem CmpT.neTI {xs ys : List Int} (ea : H.ts a = some (xs.map (Value.int · 0))) (eb : H.ts b = some (ys.map (Value.int · 0))) (hn : n ≤ 100) (h : Q (.bool (!(xs == ys))) H) : CmpT w h₀ n .NotEq (.ref a) (.ref b) H Q := fun x y ex ey s I => by
  rw [er_ref ex, er_ref ey]
  refine SeqAt.compareNe_reads (I.readsTI ea) (I.readsTI eb) (by simp [PyData.canLay0, lay_ints]) (by simp [PyData.canLay0, lay_ints]) (aa_u2 hn _ ?_) ?_
  · have := depth_ints xs; simp only [PyData.depth]; omega
  · exact ⟨H, I, .refl, by simp only [PyData.eqv, eqv_ints]; exact h⟩
theorem intsAre_of : ∀ {vs : List Value} {ys : List Int}, vs.map er = ys.map (Value.int · 0) → IntsAre vs ys
  | [], [], _ => .nil
  | v :: vs, y :: ys, e => by
    rw [List.map_cons, List.map_cons, List.cons.injEq] at e
    obtain ⟨t, rfl⟩ := er_int e.1
    exact .cons y t (intsAre_of e.2)
  | [], _ :: _, e => by cases e
  | _ :: _, [], e => by cases e
theorem strsAre_of : ∀ {vs : List Value} {ys : List Str}, vs.map er = ys.map (Value.str · 0) → StrsAre vs ys
  | [], [], _ => .nil
  | v :: vs, y :: ys, e => by
    rw [List.map_cons, List.map_cons, List.cons.injEq] at e
    obtain ⟨t, rfl⟩ := er_str e.1
    exact .cons y t (strsAre_of e.2)
  | [], _ :: _, e => by cases e
  | _ :: _, [], e => by cases e
theorem CmpT.inLI {xs : List Int} {k : Int} (eb : H.ls b = some (xs.map (Value.int · 0))) (h : Q (.bool (xs.any (· == k))) H) : CmpT w h₀ n .In (.int k 0) (.ref b) H Q := fun x y ex ey s I => by
  obtain ⟨t, rfl⟩ := er_int ex
  rw [er_ref ey]
  obtain ⟨items, m, g, r⟩ := I.isL eb
  exact in_list_ints (IsL.isList g) (intsAre_of r) ⟨H, I, .refl, h⟩
end
end Mine

namespace Mine
variable {w : World} {h₀ : Heap} {c : Cx} {n : Nat}

/-! ## displays -/
noncomputable def ItsT (w : World) (h₀ : Heap) (c : Cx) (p : Pos) (es : List Expr) (st : St) (Q : List Value → St → Prop) : Prop := Tr w h₀ c (spliced (backTo p (starEach es c.env))) st (fun vs => Q (vs.map er))
theorem ItsT.nil {p : Pos} {st : St} {Q : List Value → St → Prop} (h : Q [] st) : ItsT w h₀ c p [] st Q := fun s I => wpAny_items_nil ⟨st, I, .refl, h⟩
@[reducible] noncomputable def kIt2 (Q : List Value → St → Prop) (v : Value) : List Value → St → Prop := fun vs => Q (v :: vs)
@[reducible] noncomputable def kIt (w : World) (h₀ : Heap) (c : Cx) (p : Pos) (r : List Expr) (Q : List Value → St → Prop) : Value → St → Prop := fun v st₁ => ItsT w h₀ c p r st₁ (kIt2 Q v)
@[reducible] noncomputable def kLi (Q : Value → St → Prop) : List Value → St → Prop := fun vs ⟨lo, H⟩ => vs.length ≤ sizeLine ∧ ∀ a, ¬ H.dom a → Q (.ref a) ⟨lo, H.setL a vs⟩
@[reducible] noncomputable def kTu (Q : Value → St → Prop) : List Value → St → Prop := fun vs ⟨lo, H⟩ => vs.length ≤ sizeLine ∧ ∀ a, ¬ H.dom a → Q (.ref a) ⟨lo, H.setT a vs⟩
theorem ItsT.cons {p : Pos} {e : Expr} {r : List Expr} {st : St} {Q : List Value → St → Prop} (h : EvT w h₀ c e st (kIt w h₀ c p r Q))
    (he : starEach (e :: r) c.env = (false, eval e c.env) :: starEach r c.env := by rfl) : ItsT w h₀ c p (e :: r) st Q := fun s I => by
  refine wpAny_items_cons (wpAny_mono (h s I) (fun v s₁ ⟨st₁, I₁, S₁, q₁⟩ => ?_) fun _ _ e => e) he
  exact wpAny_mono (q₁ s₁ I₁) (fun vs s₂ r => TPost.step S₁ r) fun _ _ e => e
theorem Inv.pushL {st : St} {s : Shared} (I : Inv w h₀ c st s) {vs : List Value} {Q : Value → St → Prop} (h : ∀ a, ¬ st.H.dom a → Q (.ref a) ⟨st.lo, st.H.setL a (vs.map er)⟩) :
    TPost w h₀ c st s (fun v => Q (er v)) (.ref s.heap.objs.size) { s with heap := s.heap.push { cls := .type "list", data := .seq vs.toArray } } := by
  obtain ⟨H', I', S', q⟩ := HPost.pushL (items := vs.toArray) (k := 0) (t := s.toks) (Q := fun v H => Q v ⟨st.lo, H⟩) I.h (xs := vs.map er) rfl h
  exact ⟨⟨st.lo, H'⟩, I.after I' S', S'.step, q⟩
theorem Inv.pushT {st : St} {s : Shared} (I : Inv w h₀ c st s) {vs : List Value} {Q : Value → St → Prop} (h : ∀ a, ¬ st.H.dom a → Q (.ref a) ⟨st.lo, st.H.setT a (vs.map er)⟩) :
    TPost w h₀ c st s (fun v => Q (er v)) (.ref s.heap.objs.size) { s with heap := s.heap.push { cls := .type "tuple", data := .seq vs.toArray } } := by
  obtain ⟨H', I', S', q⟩ := HPost.pushT (items := vs.toArray) (k := 0) (t := s.toks) (Q := fun v H => Q v ⟨st.lo, H⟩) I.h (xs := vs.map er) rfl h
  exact ⟨⟨st.lo, H'⟩, I.after I' S', S'.step, q⟩
theorem EvT.list {es : List Expr} {p : Pos} {st : St} {Q : Value → St → Prop} (h : ItsT w h₀ c p es st (kLi Q)) : EvT w h₀ c (.List es p) st Q := fun s I => by
  refine wpAny_List (wpAny_mono (h s I) (fun vs s₁ ⟨st₁, I₁, S₁, hz, q⟩ => ⟨by simpa using hz, ?_⟩) fun _ _ e => e)
  exact TPost.step S₁ (I₁.pushL q)
theorem EvT.tuple {es : List Expr} {k : Nat} {p : Pos} {st : St} {Q : Value → St → Prop} (h : ItsT w h₀ c p es st (kTu Q)) : EvT w h₀ c (.Tuple es k p) st Q := fun s I => by
  refine wpAny_Tuple (wpAny_mono (h s I) (fun vs s₁ ⟨st₁, I₁, S₁, hz, q⟩ => ⟨by simpa using hz, ?_⟩) fun _ _ e => e)
  exact TPost.step S₁ (I₁.pushT q)
theorem EvT.dictNil {p : Pos} {lo : Lo} {H : AH} {Q : Value → St → Prop} (h : ∀ a, ¬ H.dom a → Q (.ref a) ⟨lo, H.setD a []⟩) : EvT w h₀ c (.Dict [] [] p) ⟨lo, H⟩ Q := fun s I => by
  rw [arm_eval_Dict]
  refine wpAny_bind (wpAny_standAt ?_)
  show wpAny _ _ (dictDisplay []) _ _ _
  have : wpAny (MM w) (AA c.n) (newDict) (TPost w h₀ c ⟨lo, H⟩ s (fun v => Q (er v))) NoE s := by
    refine wpAny_newObj_type ?_
    obtain ⟨H', I', S', q⟩ := HPost.newD (r := Value.ref s.heap.objs.size) (s' := { s with heap := s.heap.push { cls := .type "dict", data := .dict #[] } }) (Q := fun v H => Q (er v) ⟨lo, H⟩) I.h (x := [])
      ⟨#[], 0, Heap.get?_push_size _ rfl, (fun _ he => by simp at he), rfl, by simp⟩ (Nat.le_refl _) keep_push size_push' rfl rfl (h _)
    exact ⟨⟨lo, H'⟩, I.after I' S', S'.step, q⟩
  exact this

/-! ## calls -/
noncomputable def CalT (w : World) (h₀ : Heap) (n : Nat) (f : Value) (args : List Value) (kw : List (Str × Value)) (H : AH) (Q : Value → AH → Prop) : Prop :=
  ∀ f' args' kw', er f' = f → args'.map er = args → kw'.map (fun p => (p.1, er p.2)) = kw → HT w h₀ n (PySem.call f' args' kw') H (fun v => Q (er v))
theorem CallT.cal {f args kw H Q} (h : CallT w h₀ n f args kw H Q) : CalT w h₀ n f args kw H Q := fun f' a' k' e1 e2 e3 => by
  subst e1 e2 e3; exact HT.call h
theorem CalT.mono {f args kw H} {Q Q' : Value → AH → Prop} (h : CalT w h₀ n f args kw H Q) (hq : ∀ v H', Q v H' → Q' v H') : CalT w h₀ n f args kw H Q' := fun f' a' k' e1 e2 e3 => (h f' a' k' e1 e2 e3).mono fun v H' => hq _ H'
theorem CalT.drop {f args kw H} {Q : Value → AH → Prop} (h : CalT w h₀ n f args kw H (kDrop Q)) : CalT w h₀ n f args kw H Q := fun f' a' k' e1 e2 e3 => HT.drop (h f' a' k' e1 e2 e3)
noncomputable def Kept (P : Params) (H : AH) : Value → Prop
  | .builtin _ => True
  | .type _ => True
  | .ref a => keepIn (K0 P) (.ref a) = true ∨ H.fs a ≠ none
  | _ => False
theorem Kept.looks {H : AH} {s : Shared} {f f' : Value} (k : Kept w.params H f) (e : er f' = f) (I : InvH w h₀ H s) : ∃ k, (k = Keeper.frame ∨ k = Keeper.machine ∨ k = Keeper.boundFrame) ∧ Looks (MM w) s.heap (keeperOf f') k := by
  cases f with
  | builtin id => rw [er_builtin e]; exact ⟨.machine, .inr (.inl rfl), .now⟩
  | type id => rw [er_type e]; exact ⟨.machine, .inr (.inl rfl), .now⟩
  | ref a =>
    rw [er_ref e]
    rcases k with k | k
    · exact keeps_K k _ I.base
    · obtain ⟨x, k⟩ := Option.ne_none_iff_exists'.mp k
      obtain ⟨fd, sl, g, r⟩ := I.fs a x k
      exact ⟨.frame, .inl rfl, (Looks.ld (part := none) g).andThen .now⟩
  | _ => exact k.elim

noncomputable def ArgsT (w : World) (h₀ : Heap) (c : Cx) (p : Pos) (args : List Expr) (kws : List Keyword) (st : St) (Q : List Value → List (Str × Value) → St → Prop) : Prop :=
  ∀ f, Tr w h₀ c (evalArgs f true (backTo p (starEach args c.env)) (backToKw p (keywordEach kws c.env))) st (fun a => Q (a.pos.map er) (a.kw.map fun p => (p.1, er p.2)))
theorem ArgsT.nil {p : Pos} {st : St} {Q : List Value → List (Str × Value) → St → Prop} (h : Q [] [] st) : ArgsT w h₀ c p [] [] st Q := fun f s I => evalArgs_nil3 ⟨st, I, .refl, h⟩
@[reducible] noncomputable def kPos (Q : List Value → List (Str × Value) → St → Prop) : List Value → St → Prop := fun vs => Q vs []
@[reducible] noncomputable def kKw2 (name : Str) (Q : List Value → List (Str × Value) → St → Prop) (vs : List Value) : Value → St → Prop := fun v => Q vs [(name, v)]
@[reducible] noncomputable def kKw (w : World) (h₀ : Heap) (c : Cx) (name : Str) (value : Expr) (Q : List Value → List (Str × Value) → St → Prop) : List Value → St → Prop := fun vs st₁ => EvT w h₀ c value st₁ (kKw2 name Q vs)
@[reducible] noncomputable def kCa2 (w : World) (h₀ : Heap) (c : Cx) (f : Value) (first : List Value) (Q : Value → St → Prop) : List Value → List (Str × Value) → St → Prop := fun vs ks ⟨lo, H⟩ => Kept w.params H f ∧ CalT w h₀ c.n f (first ++ vs) ks H (kH Q lo)
@[reducible] noncomputable def kCa1 (w : World) (h₀ : Heap) (c : Cx) (f : Value) (Q : Value → St → Prop) : List Value → List (Str × Value) → St → Prop := fun vs ks ⟨lo, H⟩ => Kept w.params H f ∧ CalT w h₀ c.n f vs ks H (kH Q lo)
@[reducible] noncomputable def kCa (w : World) (h₀ : Heap) (c : Cx) (p : Pos) (args : List Expr) (kws : List Keyword) (Q : Value → St → Prop) : Value → St → Prop := fun f st₁ => ArgsT w h₀ c p args kws st₁ (kCa1 w h₀ c f Q)
@[reducible] noncomputable def kMe2 (w : World) (h₀ : Heap) (c : Cx) (p : Pos) (args : List Expr) (kws : List Keyword) (Q : Value → St → Prop) (lo : Lo) : Value → List Value → AH → Prop := fun f first H₂ => ArgsT w h₀ c p args kws ⟨lo, H₂⟩ (kCa2 w h₀ c f first Q)
theorem ArgsT.pos {p : Pos} {e : Expr} {r : List Expr} {st : St} {Q : List Value → List (Str × Value) → St → Prop} (h : ItsT w h₀ c p (e :: r) st (kPos Q))
    (he : starEach (e :: r) c.env = (false, eval e c.env) :: starEach r c.env := by rfl) : ArgsT w h₀ c p (e :: r) [] st Q := fun f s I => by
  have := h s I
  rw [he] at this ⊢
  exact evalArgs_plain this
theorem ArgsT.kw {p p' : Pos} {name : Str} {value : Expr} {e : Expr} {r : List Expr} {st : St} {Q : List Value → List (Str × Value) → St → Prop} (h : ItsT w h₀ c p (e :: r) st (kKw w h₀ c name value Q))
    (he : starEach (e :: r) c.env = (false, eval e c.env) :: starEach r c.env := by rfl) : ArgsT w h₀ c p (e :: r) [⟨some name, value, p'⟩] st Q := fun f s I => by
  refine evalArgs_kw2 rfl ?_ he
  refine wpAny_mono (h s I) (fun vs s₁ ⟨st₁, I₁, S₁, q₁⟩ => ?_) fun _ _ e => e
  refine kwAll_cons ?_
  refine wpAny_mono (q₁ s₁ I₁) (fun v s₂ ⟨st₂, I₂, S₂, q₂⟩ => ?_) fun _ _ e => e
  exact kwAll_nil ⟨st₂, I₂, S₁.trans S₂, q₂⟩
noncomputable def CwT (w : World) (h₀ : Heap) (c : Cx) (p : Pos) (f : Value) (first : List Value) (args : List Expr) (kws : List Keyword) (st : St) (Q : Value → St → Prop) : Prop :=
  ∀ p f' first', er f' = f → first'.map er = first → Tr w h₀ c (callWith p f' first' (backTo p (starEach args c.env)) (backToKw p (keywordEach kws c.env))) st (fun v => Q (er v))
theorem callWith_Tr {p : Pos} {f : Value} {first : List Value} {args : List Expr} {kws : List Keyword} {st : St} {Q : Value → St → Prop}
    (h : ArgsT w h₀ c p args kws st (fun vs ks st₁ => Kept w.params st₁.H (er f) ∧ CalT w h₀ c.n (er f) (first.map er ++ vs) ks st₁.H (fun v H => Q v ⟨st₁.lo, H⟩)))
    (hp : ((backTo p (starEach args c.env)).any (·.1) || (backToKw p (keywordEach kws c.env)).any (·.1.isNone)) = false) {p' : Pos} :
    Tr w h₀ c (callWith p' f first (backTo p (starEach args c.env)) (backToKw p (keywordEach kws c.env))) st (fun v => Q (er v)) := fun s I => by
  refine callWith_of (P := fun h => ∃ k, (k = Keeper.frame ∨ k = Keeper.machine ∨ k = Keeper.boundFrame) ∧ Looks (MM w) h (keeperOf f) k) hp (fun _ x => x) ?_
  refine wpAny_mono (h f s I) (fun a s₁ ⟨st₁, I₁, S₁, kp, q₁⟩ => ⟨kp.looks rfl I₁.h, ?_⟩) fun _ _ e => e
  refine wpAny_mono (q₁ f (first ++ a.pos) a.kw rfl (by rw [List.map_append]) rfl s₁ I₁.h) (fun v s₂ ⟨H₂, I₂, S₂, q₂⟩ => ?_) fun _ _ e => e
  exact ⟨⟨st₁.lo, H₂⟩, I₁.after I₂ S₂, S₁.trans S₂.step, q₂⟩
theorem EvT.call {id : Str} {p p' : Pos} {args : List Expr} {kws : List Keyword} {st : St} {Q : Value → St → Prop}
    (h : EvT w h₀ c (.Name id p) st (kCa w h₀ c p' args kws Q))
    (hp : ((backTo p' (starEach args c.env)).any (·.1) || (backToKw p' (keywordEach kws c.env)).any (·.1.isNone)) = false := by rfl) : EvT w h₀ c (.Call (.Name id p) args kws p') st Q := fun s I => by
  refine wpAny_Call_Name_kw ?_
  refine wpAny_mono (h s I) (fun f s₁ ⟨st₁, I₁, S₁, q₁⟩ => ?_) fun _ _ e => e
  exact wpAny_mono (callWith_Tr (first := []) q₁ hp s₁ I₁) (fun v s₂ r => TPost.step S₁ r) fun _ _ e => e
noncomputable def GmT (w : World) (h₀ : Heap) (n : Nat) (o : Value) (name : Str) (H : AH) (Q : Value → List Value → AH → Prop) : Prop :=
  ∀ pl o', er o' = o → HT w h₀ n (getMethod o' name pl) H (fun x => Q (er x.1) (x.2.map er))
@[reducible] noncomputable def kMe (w : World) (h₀ : Heap) (c : Cx) (name : Str) (p : Pos) (args : List Expr) (kws : List Keyword) (Q : Value → St → Prop) : Value → St → Prop := fun ov ⟨lo, H⟩ => GmT w h₀ c.n ov name H (kMe2 w h₀ c p args kws Q lo)
theorem EvT.method {o : Expr} {name : Str} {ap p : Pos} {args : List Expr} {kws : List Keyword} {pl : Sem Bool} {st : St} {Q : Value → St → Prop}
    (h : EvT w h₀ c o st (kMe w h₀ c name p args kws Q))
    (he : eval (.Call (.Attribute o name ap) args kws p) c.env = (do
      let ov ← eval o c.env
      standAt ap.atName
      let (f, first) ← holding [ov] (getMethod ov name pl)
      callWith p f first (backTo p (starEach args c.env)) (backToKw p (keywordEach kws c.env))) := by rfl)
    (hp : ((backTo p (starEach args c.env)).any (·.1) || (backToKw p (keywordEach kws c.env)).any (·.1.isNone)) = false := by rfl) : EvT w h₀ c (.Call (.Attribute o name ap) args kws p) st Q := by
  unfold EvT
  rw [he]
  refine Tr.bind (Tr.mono h fun ov st₁ q => Tr.bind (Tr.standAt (Tr.bind (Tr.holding (Tr.heap ((q pl ov rfl).mono fun x H₂ q₂ => ?_))))))
  exact callWith_Tr q₂ hp

/-! ## methods of lists, texts, numbers -/
section
variable {H : AH} {Q : Value → List Value → AH → Prop} {name : Str} {id : String}
theorem GmT.list {a : Addr} {xs : List Value} (ea : H.ls a = some xs) (slot : Slot "list" name id) (hty : typeOf (.builtin id) = pure (.type "method_descriptor")) (h : Q (.builtin id) [.ref a] H) : GmT w h₀ n (.ref a) name H Q := fun pl o' eo s I => by
  rw [er_ref eo]
  obtain ⟨items, k, g, r⟩ := I.isL ea
  exact getMethod_builtin ⟨_, g, rfl⟩ F.plainAttrs_list slot hty (fun b e => by injection e with e; subst e; exact ⟨_, g, rfl⟩) ⟨H, I, .refl, h⟩
theorem GmT.str {x : Str} (slot : Slot "str" name id) (hty : typeOf (.builtin id) = pure (.type "method_descriptor")) (h : Q (.builtin id) [.str x 0] H) : GmT w h₀ n (.str x 0) name H Q := fun pl o' eo s I => by
  obtain ⟨t, rfl⟩ := er_str eo
  exact getMethod_builtin (typeIs_str _ _ _) F.plainAttrs_str slot hty (fun b e => by cases e) ⟨H, I, .refl, h⟩
theorem GmT.int {x : Int} (slot : Slot "int" name id) (hty : typeOf (.builtin id) = pure (.type "method_descriptor")) (h : Q (.builtin id) [.int x 0] H) : GmT w h₀ n (.int x 0) name H Q := fun pl o' eo s I => by
  obtain ⟨t, rfl⟩ := er_int eo
  exact getMethod_builtin (typeIs_int _ _ _) F.plainAttrs_int slot hty (fun b e => by cases e) ⟨H, I, .refl, h⟩
end
theorem map1 {vs : List Value} {a : Value} (e : vs.map er = [a]) : ∃ x, vs = [x] ∧ er x = a := by
  obtain ⟨x, r, rfl, ex, er'⟩ := List.map_eq_cons_iff.mp e
  obtain rfl := List.map_eq_nil_iff.mp er'
  exact ⟨x, rfl, ex⟩
theorem map2 {vs : List Value} {a b : Value} (e : vs.map er = [a, b]) : ∃ x y, vs = [x, y] ∧ er x = a ∧ er y = b := by
  obtain ⟨x, r, rfl, ex, er'⟩ := List.map_eq_cons_iff.mp e
  obtain ⟨y, rfl, ey⟩ := map1 er'
  exact ⟨x, y, rfl, ex, ey⟩
theorem map3 {vs : List Value} {a b c : Value} (e : vs.map er = [a, b, c]) : ∃ x y z, vs = [x, y, z] ∧ er x = a ∧ er y = b ∧ er z = c := by
  obtain ⟨x, r, rfl, ex, er'⟩ := List.map_eq_cons_iff.mp e
  obtain ⟨y, z, rfl, ey⟩ := map2 er'
  exact ⟨x, y, z, rfl, ex, ey⟩
theorem kw0 {kw : List (Str × Value)} (e : kw.map (fun p => (p.1, er p.2)) = []) : kw = [] := by simpa using e
end Mine

namespace Mine
variable {w : World} {h₀ : Heap} {c : Cx} {n : Nat}

noncomputable def AH.delI (H : AH) (a : Addr) : AH := { H with is := fun b => if b = a then none else H.is b }
theorem delI_hit (H : AH) (a : Addr) : (H.delI a).is a = none := if_pos rfl
theorem delI_agree (H : AH) (a : Addr) : Agree H (H.delI a) a := ⟨fun _ _ => rfl, fun _ _ => rfl, fun _ _ => rfl, fun _ _ => rfl, fun _ _ => rfl, fun _ _ => rfl, fun _ h => if_neg h⟩
theorem delI_le (H : AH) (a : Addr) : AHle (H.delI a) H := ⟨fun _ _ e => e, fun _ _ e => e, fun _ _ e => e, fun _ _ e => e, fun _ _ e => e, fun _ _ e => e, fun b x e => by
  by_cases h : b = a
  · subst h; rw [delI_hit] at e; cases e
  · rw [(delI_agree H a).is b h] at e; exact e⟩
/-- an iterator that has ended: its object is no longer told of -/
theorem HPost.endI {α : Type} {H : AH} {s s' : Shared} {a : Addr} {x0 : ItA} {r : α} {Q : α → AH → Prop} (I : InvH w h₀ H s) (h : H.is a = some x0) (hx : Heap.ExtBut a s.heap s'.heap) (hsz : s.heap.objs.size ≤ s'.heap.objs.size) (hg : s'.gens = s.gens) (hos : s'.os = s.os)
    (hq : Q r (H.delI a)) : HPost w h₀ H s Q r s' := by
  have d := AH.dom_is h
  have l := I.low a d
  have z := (I.is a x0 h).obj
  refine ⟨H.delI a, (I.core a (fun b o hb e => hx b o hb e) l.1 (Nat.lt_of_lt_of_le l.2 hsz) hsz hg hos (.inl d) (fun o e => NotCode.cls ?_) (delI_agree H a)
    (fun y e => apartI (I.ls a y e).obj z (by decide)) (fun y e => apartI (I.ts a y e).obj z (by decide)) (fun y e => apartI (I.cs a y e).obj z (by decide)) (fun y e => apartI (I.ds a y e).obj z (by decide))
    (fun y e => apartI (I.xs a y e).obj z (by decide)) (fun y e => apartI (I.fs a y e).obj z (by decide)) (fun y e => by rw [delI_hit] at e; cases e)).1, ?_, hq⟩
  · obtain ⟨o', e', T, hT, c'⟩ := z
    rw [e'] at e; cases e; rw [c']; exact (by decide : ∀ T ∈ itTypes, Value.type T ≠ .type "code") T hT
  · refine ⟨fun b o e hb _ => hx b o (fun q => hb (q ▸ d)) e, fun b hb => .inl ((delI_le H a).dom hb), hsz, hos⟩

noncomputable def NxT (w : World) (h₀ : Heap) (n : Nat) (it : Addr) (H : AH) (Q : Option Value → AH → Prop) : Prop := HT w h₀ n (pyNext (.ref it)) H (fun r => Q (r.map er))
noncomputable def ItrT (w : World) (h₀ : Heap) (n : Nat) (x : Value) (H : AH) (Q : Addr → AH → Prop) : Prop := ∀ x', er x' = x → HT w h₀ n (pyIter x') H (fun v H' => ∃ a, v = .ref a ∧ Q a H')

section
variable {a it : Addr} {xs : List Value} {H : AH} {Q : Addr → AH → Prop} {R : Option Value → AH → Prop}
theorem get_map_none {items : Array Value} {xs : List Value} (r : items.toList.map er = xs) {j : Nat} (e : xs[j]? = none) : items[j]? = none := by
  rw [← r, List.getElem?_map] at e
  rw [← Array.getElem?_toList]
  exact Option.map_eq_none_iff.mp e
theorem ItrT.list (ea : H.ls a = some xs) (h : ∀ it, ¬ H.dom it → Q it (H.setI it (.list a 0))) : ItrT w h₀ n (.ref a) H Q := fun x' ex s I => by
  rw [er_ref ex]
  obtain ⟨items, k, g, r⟩ := I.isL ea
  exact wpAny_pyIter_list (IsL.isList g) (HPost.newI I (x := .list a 0) ⟨_, Heap.get?_push_size _ rfl, rfl, rfl⟩ (Nat.le_refl _) keep_push size_push' rfl rfl fun d => ⟨_, rfl, h _ d⟩)
theorem ItrT.str {x : Str} (h : ∀ it, ¬ H.dom it → Q it (H.setI it (.str x 0))) : ItrT w h₀ n (.str x 0) H Q := fun x' ex s I => by
  obtain ⟨t, rfl⟩ := er_str ex
  exact wpAny_pyIter_strU (HPost.newI I (x := .str x 0) ⟨_, Heap.get?_push_size _ rfl, t, rfl, rfl⟩ (Nat.le_refl _) keep_push size_push' rfl rfl fun d => ⟨_, rfl, h _ d⟩)
theorem ItrT.rng {i j k : Int} (ea : H.is a = some (.rng i j k)) (hs : Builtin.Range.small i j k = true) (h : ∀ it, ¬ H.dom it → Q it (H.setI it (.range i (Builtin.Range.rangeSize i j k) k))) : ItrT w h₀ n (.ref a) H Q := fun x' ex s I => by
  rw [er_ref ex]
  obtain ⟨o, g, t, u, v, rfl⟩ := I.is a _ ea
  exact wpAny_pyIter_range g hs (HPost.newI I (x := .range i (Builtin.Range.rangeSize i j k) k) ⟨_, Heap.get?_push_size _ rfl, rfl⟩ (Nat.le_refl _) keep_push size_push' rfl rfl fun d => ⟨_, rfl, h _ d⟩)
theorem ItrT.rev {l : Addr} {i : Int} (ea : H.is a = some (.rev l i)) (h : Q a H) : ItrT w h₀ n (.ref a) H Q := fun x' ex s I => by
  rw [er_ref ex]
  obtain ⟨o, g, r⟩ := I.is a _ ea
  exact wpAny_pyIter_revIter ⟨o, g, r⟩ ⟨H, I, .refl, _, rfl, h⟩

theorem NxT.list {l : Addr} {i : Nat} {v : Value} (ei : H.is it = some (.list l i)) (ea : H.ls l = some xs) (e : xs[i]? = some v) (h : R (some v) (H.setI it (.list l (i + 1)))) : NxT w h₀ n it H R := fun s I => by
  obtain ⟨items, k, g, r⟩ := I.isL ea
  obtain ⟨o, g', q⟩ := I.is it _ ei
  obtain ⟨v', e', ev⟩ := get_map r e
  subst ev
  exact wpAny_pyNext_list_item ⟨o, g', q⟩ (IsL.isList g) e' fun h' hi hs => HPost.updI (x := .list l (i + 1)) I ei hs hi rfl rfl h
theorem NxT.listEnd {l : Addr} {i : Nat} (ei : H.is it = some (.list l i)) (ea : H.ls l = some xs) (e : xs[i]? = none) (h : R none (H.delI it)) : NxT w h₀ n it H R := fun s I => by
  obtain ⟨items, k, g, r⟩ := I.isL ea
  obtain ⟨o, g', q⟩ := I.is it _ ei
  exact wpAny_size (wpAny_pyNext_list_end rfl ⟨o, g', q⟩ (IsL.isList g) (get_map_none r e) fun h' hx hsz => HPost.endI I ei hx hsz rfl rfl h)
theorem NxT.range {x left step : Int} (ei : H.is it = some (.range x left step)) (hl : 0 < left) (h : R (some (.int x 0)) (H.setI it (.range (x + step) (left - 1) step))) : NxT w h₀ n it H R := fun s I => by
  obtain ⟨o, g', q⟩ := I.is it _ ei
  rw [show o = _ from q] at g'
  exact wpAny_pyNext_range_item g' hl fun h' hi hs => HPost.updI (x := .range (x + step) (left - 1) step) I ei hs ⟨_, hi, rfl⟩ rfl rfl h
theorem NxT.rangeEnd {x left step : Int} (ei : H.is it = some (.range x left step)) (hl : left ≤ 0) (h : R none (H.delI it)) : NxT w h₀ n it H R := fun s I => by
  obtain ⟨o, g', q⟩ := I.is it _ ei
  rw [show o = _ from q] at g'
  exact wpAny_size (wpAny_pyNext_range_end rfl g' hl fun h' hx hsz => HPost.endI I ei hx hsz rfl rfl h)
theorem NxT.rev {l : Addr} {i : Nat} {v : Value} (ei : H.is it = some (.rev l (i : Int))) (ea : H.ls l = some xs) (e : xs[i]? = some v) (h : R (some v) (H.setI it (.rev l ((i : Int) - 1)))) : NxT w h₀ n it H R := fun s I => by
  obtain ⟨items, k, g, r⟩ := I.isL ea
  obtain ⟨o, g', q⟩ := I.is it _ ei
  obtain ⟨v', e', ev⟩ := get_map r e
  subst ev
  exact wpAny_pyNext_rev_item ⟨o, g', q⟩ (IsL.isList g) e' fun h' hi hs => HPost.updI (x := .rev l ((i : Int) - 1)) I ei hs hi rfl rfl h
theorem NxT.revEnd {l : Addr} (ei : H.is it = some (.rev l (-1))) (h : R none (H.delI it)) : NxT w h₀ n it H R := fun s I => by
  obtain ⟨o, g', q⟩ := I.is it _ ei
  exact wpAny_size (wpAny_pyNext_rev_end rfl ⟨o, g', q⟩ fun h' hx hsz => HPost.endI I ei hx hsz rfl rfl h)
theorem NxT.str {x : Str} {i cp : Nat} (ei : H.is it = some (.str x i)) (e : x.cps[i]? = some cp) (h : R (some (.str ⟨#[cp]⟩ 0)) (H.setI it (.str x (i + 1)))) : NxT w h₀ n it H R := fun s I => by
  obtain ⟨o, g', t, q1, q2⟩ := I.is it _ ei
  by_cases ha : x.cps.all (· < 128) = true
  · have et : strIterType x = "str_ascii_iterator" := if_pos ha
    rw [et] at q1
    exact wpAny_pyNext_ascii_item ⟨o, g', q1, q2⟩ e fun h' hi hs => HPost.updI (x := .str x (i + 1)) I ei hs (by obtain ⟨o', a1, a2, a3⟩ := hi; exact ⟨o', a1, t, by rw [et]; exact a2, a3⟩) rfl rfl h
  · have et : strIterType x = "str_iterator" := if_neg ha
    rw [et] at q1
    exact wpAny_pyNext_wide_item ⟨o, g', q1, q2⟩ e fun h' hi hs => HPost.updI (x := .str x (i + 1)) I ei hs (by obtain ⟨o', a1, a2, a3⟩ := hi; exact ⟨o', a1, t, by rw [et]; exact a2, a3⟩) rfl rfl h
theorem NxT.strEnd {x : Str} {i : Nat} (ei : H.is it = some (.str x i)) (e : x.cps[i]? = none) (h : R none (H.delI it)) : NxT w h₀ n it H R := fun s I => by
  obtain ⟨o, g', t, q1, q2⟩ := I.is it _ ei
  by_cases ha : x.cps.all (· < 128) = true
  · have et : strIterType x = "str_ascii_iterator" := if_pos ha
    rw [et] at q1
    exact wpAny_size (wpAny_pyNext_ascii_end rfl ⟨o, g', q1, q2⟩ e fun h' hx hsz => HPost.endI I ei hx hsz rfl rfl h)
  · have et : strIterType x = "str_iterator" := if_neg ha
    rw [et] at q1
    exact wpAny_size (wpAny_pyNext_wide_end rfl ⟨o, g', q1, q2⟩ e fun h' hx hsz => HPost.endI I ei hx hsz rfl rfl h)
end

/-! ## for -/
/-- one turn -/
noncomputable def TurnT (w : World) (h₀ : Heap) (c : Cx) (it : Addr) (t : Expr) (b o : List Stmt) (st : St) (Q : Flow → St → Prop) (N : St → Prop) : Prop :=
  NxT w h₀ c.n it st.H (fun r H => match r with
    | none => EsT w h₀ c o ⟨st.lo, H⟩ Q
    | some v => AsT w h₀ c t v ⟨st.lo, H⟩ (fun st₂ => EsT w h₀ c b st₂ (kLoop N Q)))
theorem TurnT.opq {it : Addr} {t : Expr} {b o : List Stmt} {st : St} {Q : Flow → St → Prop} {N : St → Prop}
    (h : ∀ N' : Flow → St → Prop, (∀ {st₃}, N st₃ → N' .next st₃) → (∀ {st₃}, N st₃ → N' .cont st₃) → (∀ {st₃}, Q .next st₃ → N' .brk st₃) → (∀ {v st₃}, Q (.ret v) st₃ → N' (.ret v) st₃) → NxT w h₀ c.n it st.H (fun r H => match r with
      | none => EsT w h₀ c o ⟨st.lo, H⟩ Q
      | some v => AsT w h₀ c t v ⟨st.lo, H⟩ (fun st₂ => EsT w h₀ c b st₂ N'))) : TurnT w h₀ c it t b o st Q N :=
  h (kLoop N Q) (fun q => q) (fun q => q) (fun q => q) (fun q => q)
@[reducible] noncomputable def kFo3 (w : World) (h₀ : Heap) (c : Cx) (it : Addr) (t : Expr) (b o : List Stmt) (Q : Flow → St → Prop) (st : St) : Prop := ∃ (J : Nat → St → Prop) (n₀ : Nat), J n₀ st ∧ ∀ k st', J k st' → TurnT w h₀ c it t b o st' Q (fun st₃ => ∃ m, m < k ∧ J m st₃)
@[reducible] noncomputable def kFo (w : World) (h₀ : Heap) (c : Cx) (t : Expr) (b o : List Stmt) (Q : Flow → St → Prop) : Value → St → Prop := fun x ⟨lo, H⟩ => ItrT w h₀ c.n x H (fun it H₂ => kFo3 w h₀ c it t b o Q ⟨lo, H₂⟩)
theorem ExT.for {t iter : Expr} {b o : List Stmt} {p : Pos} {st : St} {Q : Flow → St → Prop}
    (h : EvT w h₀ c iter st (kFo w h₀ c t b o Q))
    (hs : ∀ x, foldedSetIterable iter c.env x = pure x := by intro _; rfl) (ht : ∀ it v, letOwnedTupleGo t it v = pure () := by intro _ _; rfl) : ExT w h₀ c (.For t iter b o p) st Q := fun s I => by
  refine wpAny_For ?_ hs
  refine wpAny_mono (h s I) (fun x s₁ ⟨st₁, I₁, S₁, q₁⟩ => ?_) fun _ _ e => e
  refine wpAny_mono (q₁ x rfl s₁ I₁.h) (fun itv s₂ ⟨H₂, I₂, S₂, it, e, J, n₀, j₀, turn⟩ => ?_) fun _ _ e => e
  subst e
  have I₂' := I₁.after I₂ S₂
  refine codeAny_forLoop (fun k s' => ∃ st', Inv w h₀ c st' s' ∧ Step c.env.locals st.H s st'.H s' ∧ J k st') (fun k s' ⟨st', I', S', j⟩ => ?_) n₀ ⟨⟨st₁.lo, H₂⟩, I₂', S₁.trans S₂.step, j₀⟩ (ht _)
  refine wpAny_mono (turn k st' j s' I'.h) (fun r s₃ ⟨H₃, I₃, S₃, q₃⟩ => ?_) fun _ _ e => e.elim
  have I₃' := I'.after I₃ S₃
  have S₃' : Step c.env.locals st.H s H₃ s₃ := S'.trans S₃.step
  cases r with
  | none => exact wpAny_mono (q₃ s₃ I₃') (fun f s₄ ⟨st₄, I₄, S₄, q₄⟩ => ⟨st₄, I₄, S₃'.trans S₄, q₄⟩) fun _ _ e => e.elim
  | some v =>
    refine wpAny_mono (q₃ v rfl s₃ I₃') (fun _ s₄ ⟨st₄, I₄, S₄, q₄⟩ => ?_) fun _ _ e => e.elim
    refine wpAny_mono (q₄ s₄ I₄) (fun f s₅ ⟨st₅, I₅, S₅, q₅⟩ => ?_) fun _ _ e => e.elim
    have S₅' := S₃'.trans (S₄.trans S₅)
    cases f with
    | next => obtain ⟨m, hm, j⟩ := q₅; exact ⟨m, hm, st₅, I₅, S₅', j⟩
    | cont => obtain ⟨m, hm, j⟩ := q₅; exact ⟨m, hm, st₅, I₅, S₅', j⟩
    | brk => exact ⟨st₅, I₅, S₅', q₅⟩
    | ret v => exact ⟨st₅, I₅, S₅', q₅⟩
end Mine

namespace Mine
variable {w : World} {h₀ : Heap} {c : Cx} {n : Nat}

theorem HPost.grew {α : Type} {H : AH} {s s' : Shared} {r : α} {Q : α → AH → Prop} (I : InvH w h₀ H s) (hx : ∀ b o, s.heap.get? b = some o → s'.heap.get? b = some o) (hsz : s.heap.objs.size ≤ s'.heap.objs.size) (hg : s'.gens = s.gens) (hos : s'.os = s.os)
    (h : Q r H) : HPost w h₀ H s Q r s' := ⟨H, (I.ext hx hsz hg hos).1, (I.ext hx hsz hg hos).2, h⟩

section
variable {H : AH} {Q : Value → AH → Prop} {a : Addr} {xs : List Value}
theorem CalT.append {v : Value} (ea : H.ls a = some xs) (hz : xs.length ≤ 1000) (h : Q .none (H.setL a (xs ++ [v]))) : CalT w h₀ n (.builtin "list.append") [.ref a, v] [] H Q := fun f' a' k' e1 e2 e3 s I => by
  rw [er_builtin e1, kw0 e3]
  obtain ⟨x, y, rfl, ex, ey⟩ := map2 e2
  rw [er_ref ex]
  obtain ⟨items, k, g, r⟩ := I.isL ea
  have hs := isL_size r
  refine call_meets F.slot_list_append ⟨_, g, rfl⟩ F.entry_list_append (F.args_list_append_2 _ _) (PySem.list_append a items k y (by rw [hs, sizeLine_eq]; omega)) ⟨g, ?_⟩
  exact HPost.updL (x := xs ++ [v]) I ea (Heap.SameBut.update _ _ _) (isLs_update g _ (by simp [r, ey])) rfl rfl h
theorem CalT.pop0 {v : Value} (ea : H.ls a = some (v :: xs)) (hz : xs.length ≤ 1000) (h : Q v (H.setL a xs)) : CalT w h₀ n (.builtin "list.pop") [.ref a, .int 0 0] [] H Q := fun f' a' k' e1 e2 e3 s I => by
  rw [er_builtin e1, kw0 e3]
  obtain ⟨x, y, rfl, ex, ey⟩ := map2 e2
  rw [er_ref ex]
  obtain ⟨u, rfl⟩ := er_int ey
  obtain ⟨items, k, g, r⟩ := I.isL ea
  have hs := isL_size r
  rw [List.length_cons] at hs
  obtain ⟨v', g', q⟩ := get_map r (j := 0) rfl
  refine call_meets F.slot_list_pop ⟨_, g, rfl⟩ F.entry_list_pop (F.args_list_pop_2 _ _) (MeetsSeq.list_pop_at a items k 0 u 0 v' (by decide) (seqIndex_of (by decide) (by omega)) g' (by rw [hs, sizeLine_eq]; omega)) ⟨g, ?_⟩
  refine HPost.updL (Q := fun v H => Q (er v) H) (x := xs) I ea (Heap.SameBut.update _ _ _) (isLs_update g _ ?_) rfl rfl (by rw [q]; exact h)
  have : (items.eraseIdxIfInBounds 0).toList = items.toList.tail := by
    rw [Array.toList_eraseIdxIfInBounds, List.eraseIdx_zero]
  rw [this, List.map_tail, r]; rfl
theorem CalT.insert {v : Value} {i : Int} (ea : H.ls a = some xs) (hz : xs.length ≤ 1000) (h0 : 0 ≤ i) (h1 : i ≤ 1000) (h : Q .none (H.setL a (xs.take i.toNat ++ v :: xs.drop i.toNat))) : CalT w h₀ n (.builtin "list.insert") [.ref a, .int i 0, v] [] H Q := fun f' a' k' e1 e2 e3 s I => by
  rw [er_builtin e1, kw0 e3]
  obtain ⟨x, y, z, rfl, ex, ey, ez⟩ := map3 e2
  rw [er_ref ex]
  obtain ⟨u, rfl⟩ := er_int ey
  obtain ⟨items, k, g, r⟩ := I.isL ea
  have hs := isL_size r
  refine call_meets F.slot_list_insert ⟨_, g, rfl⟩ F.entry_list_insert (F.args_list_insert_3 _ _ _) (AutoSeq1.list_insert_list_int_val_1 a items k i u z (by simp [Builtin.List.listFitsIndex]; omega) (by rw [hs, sizeLine_eq]; omega)) ⟨g, ?_⟩
  refine HPost.updL (x := xs.take i.toNat ++ v :: xs.drop i.toNat) I ea (Heap.SameBut.update _ _ _) (isLs_update g _ ?_) rfl rfl h
  have hn : ¬ i < 0 := by omega
  simp only [hn, if_false]
  by_cases hm : i.toNat ≤ items.size
  · rw [Nat.min_eq_left hm]
    simp [← r, ez, List.map_take, List.map_drop]
    rw [List.take_of_length_le (by simp)]
  · have hm' : items.size ≤ i.toNat := by omega
    rw [Nat.min_eq_right hm', List.take_of_length_le (by rw [← hs]; exact hm'), List.drop_of_length_le (by rw [← hs]; exact hm')]
    simp [r, ez]
theorem CalT.reverse (ea : H.ls a = some xs) (hz : xs.length ≤ 1000) (h : Q .none (H.setL a xs.reverse)) : CalT w h₀ n (.builtin "list.reverse") [.ref a] [] H Q := fun f' a' k' e1 e2 e3 s I => by
  rw [er_builtin e1, kw0 e3]
  obtain ⟨x, rfl, ex⟩ := map1 e2
  rw [er_ref ex]
  obtain ⟨items, k, g, r⟩ := I.isL ea
  have hs := isL_size r
  refine call_meets F.slot_list_reverse ⟨_, g, rfl⟩ F.entry_list_reverse (F.args_list_reverse_1 _) (AutoListH.list_reverse_list_0 a items k (by rw [hs, sizeLine_eq]; omega)) ⟨g, ?_⟩
  exact HPost.updL (x := xs.reverse) I ea (Heap.SameBut.update _ _ _) (isLs_update g _ (by rw [Array.toList_reverse, List.map_reverse, r])) rfl rfl h
theorem CalT.len (ea : H.ls a = some xs) (hz : xs.length ≤ 2 ^ 30) (h : Q (.int xs.length 0) H) : CalT w h₀ n (.builtin "len") [.ref a] [] H Q := fun f' a' k' e1 e2 e3 s I => by
  rw [er_builtin e1, kw0 e3]
  obtain ⟨x, rfl, ex⟩ := map1 e2
  rw [er_ref ex]
  obtain ⟨items, k, g, r⟩ := I.isL ea
  have hs := isL_size r
  refine Calls.call_len_list (IsL.isList g) (by rw [hs]; omega) (hpost_tok I ?_)
  show Q (.int items.size 0) H
  rw [hs]; exact h
theorem CalT.lenS {x : Str} (hz : x.length ≤ 2 ^ 30) (h : Q (.int x.length 0) H) : CalT w h₀ n (.builtin "len") [.str x 0] [] H Q := fun f' a' k' e1 e2 e3 s I => by
  rw [er_builtin e1, kw0 e3]
  obtain ⟨y, rfl, ex⟩ := map1 e2
  obtain ⟨t, rfl⟩ := er_str ex
  exact P.len_str (by omega) (hpost_tok I h)
theorem CalT.join {sep : Str} {ys : List Str} (ea : H.ls a = some (ys.map (Value.str · 0))) (hz : (ys.map (·.length)).sum + ys.length * sep.length ≤ 16777216) (h : Q (.str (Txt.join sep ys) 0) H) : CalT w h₀ n (.builtin "str.join") [.str sep 0, .ref a] [] H Q := fun f' a' k' e1 e2 e3 s I => by
  rw [er_builtin e1, kw0 e3]
  obtain ⟨x, y, rfl, ex, ey⟩ := map2 e2
  obtain ⟨t, rfl⟩ := er_str ex
  rw [er_ref ey]
  obtain ⟨items, k, g, r⟩ := I.isL ea
  exact join_list (IsL.isList g) (strsAre_of r) hz fun t' k => hpost_tok I h
theorem CalT.count {x y : Str} (h : Q (.int (Builtin.Str.occurrences x y 0 x.length (x.length + 1)).length 0) H) : CalT w h₀ n (.builtin "str.count") [.str x 0, .str y 0] [] H Q := fun f' a' k' e1 e2 e3 s I => by
  rw [er_builtin e1, kw0 e3]
  obtain ⟨x', y', rfl, ex, ey⟩ := map2 e2
  obtain ⟨t, rfl⟩ := er_str ex
  obtain ⟨u, rfl⟩ := er_str ey
  exact call_gives F.slot_str_count (typeIs_str _ _ _) F.entry_str_count (F.args_str_count_2 _ _) (gives_str_count x y t u) (hpost_tok I h)
theorem CalT.lower {x : Str} (hz : Builtin.Str.tooLong (placed x fun i _ => Unicode.lowerAt x.cps i).size = false) (h : Q (.str ⟨placed x fun i _ => Unicode.lowerAt x.cps i⟩ 0) H) : CalT w h₀ n (.builtin "str.lower") [.str x 0] [] H Q := fun f' a' k' e1 e2 e3 s I => by
  rw [er_builtin e1, kw0 e3]
  obtain ⟨x', rfl, ex⟩ := map1 e2
  obtain ⟨t, rfl⟩ := er_str ex
  refine call_gives F.slot_str_lower (typeIs_str _ _ _) F.entry_str_lower (F.args_str_lower_1 _) (gives_str_lower x t hz) ⟨?_, hpost_tok I h⟩
  have := hz
  unfold Builtin.Str.tooLong at this
  simpa [Str.length] using this
theorem CalT.bitLength {x : Int} (h : Q (.int ((Builtin.Int.intBits x : Nat) : Int) 0) H) : CalT w h₀ n (.builtin "int.bit_length") [.int x 0] [] H Q := fun f' a' k' e1 e2 e3 s I => by
  rw [er_builtin e1, kw0 e3]
  obtain ⟨x', rfl, ex⟩ := map1 e2
  obtain ⟨t, rfl⟩ := er_int ex
  exact call_gives F.slot_int_bit_length (typeIs_int _ _ _) F.entry_int_bit_length (F.args_int_bit_length_1 _) (AutoIntG2.int_bit_length_int_0 x t) (hpost_tok I h)
theorem CalT.abs {x : Int} (h : Q (.int (if x < 0 then -x else x) 0) H) : CalT w h₀ n (.builtin "abs") [.int x 0] [] H Q := fun f' a' k' e1 e2 e3 s I => by
  rw [er_builtin e1, kw0 e3]
  obtain ⟨x', rfl, ex⟩ := map1 e2
  obtain ⟨t, rfl⟩ := er_int ex
  exact call_abs_int fun u tk => hpost_tok I h
theorem CalT.divmod {x y : Int} (hy : y ≠ 0) (hp : y.natAbs.log2 < 9000) (h : ∀ a, ¬ H.dom a → Q (.ref a) (H.setT a [.int (x.fdiv y) 0, .int (x.fmod y) 0])) : CalT w h₀ n (.builtin "divmod") [.int x 0, .int y 0] [] H Q := fun f' a' k' e1 e2 e3 s I => by
  rw [er_builtin e1, kw0 e3]
  obtain ⟨x', y', rfl, ex, ey⟩ := map2 e2
  obtain ⟨t, rfl⟩ := er_int ex
  obtain ⟨u, rfl⟩ := er_int ey
  exact divmod_int hy (HPost.pushT I rfl h) (.inl (PyProof.noPylong_of_log2 hp))
theorem CalT.min {x y : Int} (h : Q (.int (if y < x then y else x) 0) H) : CalT w h₀ n (.builtin "min") [.int x 0, .int y 0] [] H Q := fun f' a' k' e1 e2 e3 s I => by
  rw [er_builtin e1, kw0 e3]
  obtain ⟨x', y', rfl, ex, ey⟩ := map2 e2
  obtain ⟨t, rfl⟩ := er_int ex
  obtain ⟨u, rfl⟩ := er_int ey
  refine wpAny_size (min_two_ints rfl fun h' tk hk hsz => HPost.grew I hk hsz rfl rfl ?_)
  split at h
  · rename_i e; rw [if_pos e]; exact h
  · rename_i e; rw [if_neg e]; exact h
theorem CalT.sum {is : List Int} (ea : H.ls a = some (is.map (Value.int · 0))) (h : Q (.int is.sum 0) H) : CalT w h₀ n (.builtin "sum") [.ref a] [] H Q := fun f' a' k' e1 e2 e3 s I => by
  rw [er_builtin e1, kw0 e3]
  obtain ⟨x, rfl, ex⟩ := map1 e2
  rw [er_ref ex]
  obtain ⟨items, k, g, r⟩ := I.isL ea
  have hi := intsAre_of r
  obtain ⟨ps, hps⟩ := hi.allInts.items
  refine wpAny_size (sum_intListG rfl (xs := ps) (by have := IsL.isList g; rw [← show items.toList.toArray = items by simp, hps] at this; exact this) fun h' tk t' hk hsz => HPost.grew I hk hsz rfl rfl ?_)
  rw [preSum_eq, List.take_of_length_le (by simp)]
  have e : numsOf items.toList = is := hi.numsOf
  have e' : items.toList.toArray = items := by simp
  rw [e'] at hps
  rw [hps, nums_intItems] at e
  rw [e]; exact h
theorem CalT.range1 {i : Int} (h : ∀ a, ¬ H.dom a → Q (.ref a) (H.setI a (.rng 0 i 1))) : CalT w h₀ n (.type "range") [.int i 0] [] H Q := fun f' a' k' e1 e2 e3 s I => by
  rw [er_type e1, kw0 e3]
  obtain ⟨x, rfl, ex⟩ := map1 e2
  obtain ⟨t, rfl⟩ := er_int ex
  exact call_range_1 (HPost.newI (x := .rng 0 i 1) I ⟨_, Heap.get?_push_size _ rfl, _, _, _, rfl⟩ (Nat.le_refl _) keep_push size_push' rfl rfl (h _))
theorem CalT.range2 {i j : Int} (h : ∀ a, ¬ H.dom a → Q (.ref a) (H.setI a (.rng i j 1))) : CalT w h₀ n (.type "range") [.int i 0, .int j 0] [] H Q := fun f' a' k' e1 e2 e3 s I => by
  rw [er_type e1, kw0 e3]
  obtain ⟨x, y, rfl, ex, ey⟩ := map2 e2
  obtain ⟨t, rfl⟩ := er_int ex
  obtain ⟨u, rfl⟩ := er_int ey
  exact call_range_2 (HPost.newI (x := .rng i j 1) I ⟨_, Heap.get?_push_size _ rfl, _, _, _, rfl⟩ (Nat.le_refl _) keep_push size_push' rfl rfl (h _))
theorem CalT.range3 {i j k : Int} (hk : k ≠ 0) (hp : k.natAbs.log2 < 9000) (h : ∀ a, ¬ H.dom a → Q (.ref a) (H.setI a (.rng i j k))) : CalT w h₀ n (.type "range") [.int i 0, .int j 0, .int k 0] [] H Q := fun f' a' k' e1 e2 e3 s I => by
  rw [er_type e1, kw0 e3]
  obtain ⟨x, y, z, rfl, ex, ey, ez⟩ := map3 e2
  obtain ⟨t, rfl⟩ := er_int ex
  obtain ⟨u, rfl⟩ := er_int ey
  obtain ⟨v, rfl⟩ := er_int ez
  exact call_range_3 hk (HPost.newI (x := .rng i j k) I ⟨_, Heap.get?_push_size _ rfl, _, _, _, rfl⟩ (Nat.le_refl _) keep_push size_push' rfl rfl (h _)) (.inl (PyProof.noPylong_of_log2 hp))
theorem CalT.reversed (ea : H.ls a = some xs) (h : ∀ b, ¬ H.dom b → Q (.ref b) (H.setI b (.rev a ((xs.length : Int) - 1)))) : CalT w h₀ n (.type "reversed") [.ref a] [] H Q := fun f' a' k' e1 e2 e3 s I => by
  rw [er_type e1, kw0 e3]
  obtain ⟨x, rfl, ex⟩ := map1 e2
  rw [er_ref ex]
  obtain ⟨items, k, g, r⟩ := I.isL ea
  have hs := isL_size r
  exact call_reversed_list (IsL.isList g) (HPost.newI (x := .rev a ((xs.length : Int) - 1)) I ⟨_, Heap.get?_push_size _ rfl, by rw [← hs]; exact ⟨rfl, rfl⟩⟩ (Nat.le_refl _) keep_push size_push' rfl rfl (h _))
noncomputable def charsV (x : Str) : List Value := x.cps.toList.map fun c => .str ⟨#[c]⟩ 0
theorem items_er {P : Nat → Value → Prop} {acc : Array Value} {m : Nat} {f : Nat → Value} (h : ItemsOf P acc m) (hp : ∀ i v, i < m → P i v → er v = f i) : acc.toList.map er = (List.range m).map f := by
  obtain ⟨hz, hi⟩ := h
  apply List.ext_getElem
  · simp [hz]
  · intro i h1 h2
    have hi1 : i < acc.size := by simpa using h1
    have := hi i acc[i] (Array.getElem?_eq_getElem hi1)
    simp only [List.getElem_map, List.getElem_range, Array.getElem_toList]
    exact hp i _ (by omega) this
theorem CalT.listRange {i j k : Int} {m : Nat} (ea : H.is a = some (.rng i j k)) (hs : Builtin.Range.small i j k = true) (hm : Builtin.Range.rangeSize i j k = m) (hl : m ≤ 2 ^ 24)
    (h : ∀ b, ¬ H.dom b → Q (.ref b) (H.setL b ((List.range m).map fun x : Nat => .int (i + x * k) 0))) : CalT w h₀ n (.type "list") [.ref a] [] H Q := fun f' a' k' e1 e2 e3 s I => by
  rw [er_type e1, kw0 e3]
  obtain ⟨x, rfl, ex⟩ := map1 e2
  rw [er_ref ex]
  obtain ⟨o, g, t, u, v, rfl⟩ := I.is a _ ea
  refine wpAny_size (call_list_range rfl g hs hm hl fun h' tk acc' c' hk hS' hacc hsz => ?_)
  exact HPost.newL (x := (List.range m).map fun x : Nat => .int (i + x * k) 0) I ⟨_, _, hS', items_er hacc fun i v _ ⟨t, e⟩ => by rw [e]; rfl⟩ (Nat.le_refl _) hk hsz rfl rfl (h _)
theorem CalT.listStr {x : Str} (hz : x.cps.size ≤ 2 ^ 20) (h : ∀ b, ¬ H.dom b → Q (.ref b) (H.setL b (charsV x))) : CalT w h₀ n (.type "list") [.str x 0] [] H Q := fun f' a' k' e1 e2 e3 s I => by
  rw [er_type e1, kw0 e3]
  obtain ⟨y, rfl, ey⟩ := map1 e2
  obtain ⟨t, rfl⟩ := er_str ey
  refine wpAny_size (call_list_str rfl x t (fun h' tk acc' c' hk hS' hacc hsz => ?_) (by rw [sizeLine_eq]; omega))
  refine HPost.newL (x := charsV x) I ⟨_, _, hS', ?_⟩ (Nat.le_refl _) hk hsz rfl rfl (h _)
  rw [items_er (f := fun i => (charsV x)[i]?.getD .none) hacc]
  · apply List.ext_getElem
    · simp [charsV]
    · intro i h1 h2; simp at h1 ⊢; rw [List.getElem?_eq_getElem h2]; rfl
  · intro i v hi hv
    obtain ⟨cp, u, e, rfl⟩ := hv
    rw [← Array.getElem?_toList] at e
    simp [charsV, e, er]
end
end Mine

namespace Mine
variable {w : World} {h₀ : Heap} {c : Cx} {n : Nat}

noncomputable def addCells : Nat → List (Str × NameKind) → AH → AH
  | _, [], H => H
  | n, (_, k) :: r, H => if k == .cell then addCells (n + 1) r (H.setC n none) else addCells n r H
theorem pushCells_inv : ∀ (names : List (Str × NameKind)) (s : Shared) (H : AH), InvH w h₀ H s →
    InvH w h₀ (addCells s.heap.objs.size names H) { s with heap := pushCells s.heap names } ∧ StepH H s (addCells s.heap.objs.size names H) { s with heap := pushCells s.heap names }
  | [], s, H, I => ⟨I, .refl⟩
  | (x, k) :: r, s, H, I => by
    unfold addCells pushCells
    by_cases hk : (k == NameKind.cell) = true
    · rw [if_pos hk, if_pos hk]
      obtain ⟨H₁, J, S, e⟩ := HPost.newC (r := ()) (Q := fun _ H' => H' = H.setC s.heap.objs.size none) (x := none) (s' := { s with heap := s.heap.push { cls := .type "cell", data := .cell none } }) I
        ⟨none, Heap.get?_push_size _ rfl, rfl⟩ (Nat.le_refl _) keep_push size_push' rfl rfl (fun _ => rfl)
      subst e
      have := pushCells_inv r _ _ J
      rw [Heap.size_push] at this
      exact ⟨this.1, S.trans this.2⟩
    · rw [if_neg hk, if_neg hk]
      exact pushCells_inv r s H I

/-- the parameters take their values -/
noncomputable def BdT (w : World) (h₀ : Heap) (c : Cx) : List (Str × Value) → St → (St → Prop) → Prop
  | [], st, R => R st
  | (x, v) :: r, st, R => StoreT w h₀ c x v st (fun st' => BdT w h₀ c r st' R)
theorem bd_run {f : Str × Value → PUnit → Sem (ForInStep PUnit)} (hf : ∀ x v u, f (x, v) u = (do storeName c.env x v; pure (.yield ⟨⟩))) :
    ∀ (binds : List (Str × Value)) (st : St) (R : St → Prop), BdT w h₀ c (binds.map fun p => (p.1, er p.2)) st R → Tr w h₀ c (forIn binds PUnit.unit f) st (fun _ st' => R st')
  | [], st, R, h => by rw [List.forIn_nil]; exact Tr.pure h
  | (x, v) :: r, st, R, h => by
    rw [List.forIn_cons, hf]
    exact Tr.bind (Tr.bind (Tr.mono (h v rfl) fun _ st' q => Tr.pure (bd_run hf r st' R q)))

theorem wpAny_env {H : AH} {s : Shared} (I : InvH w h₀ H s) {scope : Scope} {closure : List (Str × Addr)} {binds : List (Str × Value)} {qual : Str} {func : Option Addr} {code : Value} {R : St → Prop} {Q : Env → Shared → Prop}
    (h : BdT w h₀ ⟨n, newEnv scope s.heap.objs.size mainGlobals (cellsFrom (s.heap.objs.size + 1) scope.names closure) qual func code none builtinsNs⟩ (binds.map fun p => (p.1, er p.2)) ⟨[], addCells (s.heap.objs.size + 1) scope.names H⟩ R)
    (hQ : ∀ st s', Inv w h₀ ⟨n, newEnv scope s.heap.objs.size mainGlobals (cellsFrom (s.heap.objs.size + 1) scope.names closure) qual func code none builtinsNs⟩ st s' → StepH H s st.H s' → R st →
      Q (newEnv scope s.heap.objs.size mainGlobals (cellsFrom (s.heap.objs.size + 1) scope.names closure) qual func code none builtinsNs) s') :
    wpAny (MM w) (AA n) (newFunctionEnv scope mainGlobals closure binds qual func code none builtinsNs) Q NoE s := by
  simp only [newFunctionEnv, Option.isSome_none, Bool.false_eq_true, if_false]
  refine wpAny_bind (wpAny_alloc ?_)
  refine wpAny_bind (wpAny_layCells _ (fun name kind cells => by cases hkc : kind == NameKind.cell <;> simp [hkc]) _ _ _ _ ?_)
  have J := I.ext (s' := { s with heap := s.heap.push { cls := .type "frame", data := .dict #[] } }) keep_push size_push' rfl rfl
  have P := pushCells_inv scope.names _ _ J.1
  rw [Heap.size_push] at P
  rw [show ({ s with heap := s.heap.push { cls := .type "frame", data := .dict #[] } } : Shared).heap.objs.size = s.heap.objs.size + 1 from Heap.size_push ..]
  have S := J.2.trans P.2
  have hns : (pushCells (s.heap.push { cls := .type "frame", data := .dict #[] }) scope.names).Ns s.heap.objs.size (fun _ => none) := (Heap.Ns.new s.heap (.type "frame")).keeps (pushCells_keeps _ _)
  have hout : ¬ (addCells (s.heap.objs.size + 1) scope.names H).dom s.heap.objs.size := fun d => by
    rcases P.2.dom _ d with d | d
    · exact I.fresh (Nat.le_refl _) d
    · have : s.heap.objs.size + 1 ≤ s.heap.objs.size := by simpa [Heap.size_push] using d
      omega
  have I' : Inv w h₀ ⟨n, newEnv scope s.heap.objs.size mainGlobals (cellsFrom (s.heap.objs.size + 1) scope.names closure) qual func code none builtinsNs⟩ ⟨[], addCells (s.heap.objs.size + 1) scope.names H⟩
      { s with heap := pushCells (s.heap.push { cls := .type "frame", data := .dict #[] }) scope.names } :=
    ⟨P.1, ⟨_, hns, fun _ => rfl⟩, hout, I.grown⟩
  refine wpAny_bind (wpAny_mono (bd_run (c := ⟨n, newEnv scope s.heap.objs.size mainGlobals (cellsFrom (s.heap.objs.size + 1) scope.names closure) qual func code none builtinsNs⟩) (fun _ _ _ => rfl) binds _ R h _ I') (fun _ s' ⟨st, J', S', r⟩ => ?_) fun _ _ e => e)
  refine wpAny_pure (hQ st s' J' ?_ r)
  refine ⟨fun b o e hb ht => S'.keep b o (S.keep b o e hb ht) (fun d => ?_) (Nat.ne_of_lt (Heap.lt_size e)) ht, fun b d => ?_, Nat.le_trans S.size S'.size, S'.os.trans S.os⟩
  · rcases S.dom b d with d | d
    · exact hb d
    · exact Nat.not_lt.mpr d (Heap.lt_size e)
  · rcases S'.dom b d with d | d
    · exact S.dom b d
    · exact .inr (Nat.le_trans S.size d)

noncomputable def codeOf (fd : FuncData) (env : Env) : Code := match fd.body with
  | .stmts b => .func b env
  | .expr e => .expr e env
theorem codeAny_call_fn {A : Around} {R : Result → Shared → Prop} {s : Shared} {a : Addr} {args : Args} {o : Obj} {fd : FuncData} {q : Str} (hroom : A.depth < recursionLimit) (ho : s.heap.get? a = some o)
    (hd' : o.data = .func fd) (hco : fd.scope.isCoroutine = false) (hgen : fd.scope.isGenerator = false) (hcd : CodeAt s.heap fd.code q)
    (h : wpAny (MM w) A.in1 (bindArgs fd args) (fun binds s₁ =>
      wpAny (MM w) A.in1 (newFunctionEnv fd.scope fd.globals fd.closure binds (q ++ ".<locals>.") (some a) fd.code none fd.builtins)
        (fun env s₂ => s₂.heap.NoLimit ∧ codeAny (MM w) A (codeOf fd env) R s₂) (fun e s' => R (.error e) s') s₁) (fun e s' => R (.error e) s') s) :
    codeAny (MM w) A (.call (.ref a) args) R s := by
  refine codeAny_of_tree ?_
  show wpAny _ A.in1 (callAny (.ref a) args) _ _ s
  simp only [callAny]
  refine wpAny_bind (wpAny_load ho ?_)
  obtain ⟨cd, d, vs, sl, t, hc, hoc, hq⟩ := hcd
  simp only [hd', callFunction, hco, hgen, hc]
  rw [hc] at h
  refine wpAny_bind (m := field (.ref cd) 1) (wpAny_field hoc rfl hq (wpAny_bind (wpAny_pure ?_)))
  refine wpAny_bind (wpAny_mono h (fun binds s₁ h₁ => wpAny_bind (wpAny_mono h₁ (fun env s₂ h₂ => wpAny_bind (wpAny_enterFrame h₂.1 hroom ?_)) fun _ _ h' => h')) fun _ _ h' => h')
  refine wpAny_pure (And.intro ?_ h₂.2)
  cases fd.body <;> rfl

noncomputable def retOf : Flow → Value
  | .ret v => v
  | _ => .none
/-- what a body gives, whole -/
noncomputable def BodyT (w : World) (h₀ : Heap) (c : Cx) (b : FuncBody) (st : St) (Q : Value → AH → Prop) : Prop := match b with
  | .stmts b => EsT w h₀ c b st (fun f st' => Q (retOf f) st'.H)
  | .expr e => EvT w h₀ c e st (fun v st' => Q v st'.H)
theorem codeAny_own {H : AH} {s : Shared} {a : Addr} {args : Args} {binds : List (Str × Value)} {o : Obj} {fd : FuncData} {q : Str} {Q : Value → AH → Prop} (I : InvH w h₀ H s) (hn : n ≤ 100) (ho : s.heap.get? a = some o) (hd : o.data = .func fd)
    (hco : fd.scope.isCoroutine = false) (hgen : fd.scope.isGenerator = false) (hcd : CodeAt s.heap fd.code q) (hg : fd.globals = mainGlobals) (hb : fd.builtins = builtinsNs) (hbind : BindsTo s fd args binds)
    (run : ∀ L, (∀ b, L ≤ b → ¬ H.dom b) → BdT w h₀ ⟨n + 1, newEnv fd.scope L mainGlobals (cellsFrom (L + 1) fd.scope.names fd.closure) (q ++ ".<locals>.") (some a) fd.code none builtinsNs⟩ (binds.map fun p => (p.1, er p.2)) ⟨[], addCells (L + 1) fd.scope.names H⟩
      (fun st => BodyT w h₀ ⟨n + 1, newEnv fd.scope L mainGlobals (cellsFrom (L + 1) fd.scope.names fd.closure) (q ++ ".<locals>.") (some a) fd.code none builtinsNs⟩ fd.body st Q)) :
    codeAny (MM w) (AA n) (.call (.ref a) args) (RPost w h₀ H s Q) s := by
  refine codeAny_call_fn (aa_room hn) ho hd hco hgen hcd (hbind _ _ _ _ ?_)
  rw [hg, hb]
  refine wpAny_le (ale_in1 n) ?_
  refine wpAny_mono (wpAny_env (n := n + 1) I (run _ fun b hb => I.fresh hb) (fun st s' J S r => ⟨J.h.nolim, ?_⟩) (Q := fun env s₂ => s₂.heap.NoLimit ∧ codeAny (MM w) (AA n) (codeOf fd env) (RPost w h₀ H s Q) s₂)) (fun _ _ e => e) fun _ _ e => e.elim
  unfold codeOf
  unfold BodyT at r
  have fin : ∀ {st' : St} {s'' : Shared}, InvH w h₀ st'.H s'' → Step s.heap.objs.size st.H s' st'.H s'' → StepH H s st'.H s'' := fun {st' s''} J' S' =>
    ⟨fun b o e hb ht => S'.keep b o (S.keep b o e hb ht) (fun d => (S.dom b d).elim hb fun z => Nat.not_lt.mpr z (Heap.lt_size e)) (Nat.ne_of_lt (Heap.lt_size e)) ht,
     fun b d => (S'.dom b d).elim (S.dom b) fun z => .inr (Nat.le_trans S.size z), Nat.le_trans S.size S'.size, S'.os.trans S.os⟩
  split
  · rename_i b hbd
    rw [hbd] at r
    refine codeAny_func (wpAny_le (ale_deeper n _) (wpAny_mono (r s' J) (fun f s'' ⟨st', J', S', q'⟩ => ?_) fun _ _ e => e.elim))
    refine ⟨_, rfl, st'.H, J'.h, fin J'.h S', ?_⟩
    cases f <;> exact q'
  · rename_i b hbd
    rw [hbd] at r
    exact kla_codeExpr (wpAny_le (ale_deeper n _) (wpAny_mono (r s' J) (fun v s'' ⟨st', J', S', q'⟩ => ⟨_, rfl, st'.H, J'.h, fin J'.h S', q'⟩) fun _ _ e => e.elim))

/-! ## the module's own functions -/
noncomputable def FnB (P : Params) (f : Addr) (fd : FuncData) (q : Str) : Prop := ∃ d sl cd d' vs sl' t, (K0 P).lookup f = some ⟨.type "function", d, .func fd, sl⟩ ∧ fd.code = .ref cd ∧ (K0 P).lookup cd = some ⟨.type "code", d', .fields vs, sl'⟩ ∧ vs[1]? = some (.str q t)
@[reducible] noncomputable def cFn (n : Nat) (L : Addr) (scope : Scope) (closure : List (Str × Addr)) (q : Str) (f : Addr) (code : Value) : Cx := ⟨n + 1, newEnv scope L mainGlobals (cellsFrom (L + 1) scope.names closure) q (some f) code none builtinsNs⟩
theorem CallT.base {f : Addr} {fd : FuncData} {q : Str} {args : List Value} {kw : List (Str × Value)} {binds : List (Str × Value)} {H : AH} {Q : Value → AH → Prop} (B : FnB w.params f fd q)
    (bind : ∀ args' kw', args'.map er = args → kw'.map (fun p => (p.1, er p.2)) = kw → ∀ s, InvH w h₀ H s → ∃ binds', BindsTo s fd ⟨args', kw'⟩ binds' ∧ binds'.map (fun p => (p.1, er p.2)) = binds)
    (run : ∀ L, (∀ b, L ≤ b → ¬ H.dom b) → BdT w h₀ (cFn n L fd.scope fd.closure (q ++ ".<locals>.") f fd.code) binds ⟨[], addCells (L + 1) fd.scope.names H⟩
      (fun st => BodyT w h₀ (cFn n L fd.scope fd.closure (q ++ ".<locals>.") f fd.code) fd.body st Q))
    (hn : n ≤ 100) (hco : fd.scope.isCoroutine = false := by rfl) (hgen : fd.scope.isGenerator = false := by rfl) (hg : fd.globals = mainGlobals := by rfl) (hb : fd.builtins = builtinsNs := by rfl) : CallT w h₀ n (.ref f) args kw H Q := fun f' a' k' e1 e2 e3 s I => by
  rw [er_ref e1]
  obtain ⟨d, sl, cd, d', vs, sl', t, h1, h2, h3, h4⟩ := B
  obtain ⟨binds', hbi, hbe⟩ := bind a' k' e2 e3 s I
  refine codeAny_own I hn (I.base _ _ h1) rfl hco hgen ⟨cd, d', vs, sl', t, h2, I.base _ _ h3, h4⟩ hg hb hbi ?_
  rw [hbe]; exact run

/-! ## functions made on the way -/
theorem CallT.made {f : Addr} {fa : FnA} {args : List Value} {kw : List (Str × Value)} {binds : List (Str × Value)} {H : AH} {Q : Value → AH → Prop} (ef : H.fs f = some fa)
    (bind : ∀ (fd : FuncData), fd.params = fa.params → fd.defaults = .none → fd.kwdefaults = .none → ∀ args' kw', args'.map er = args → kw'.map (fun p => (p.1, er p.2)) = kw → ∃ binds', bindArgs fd ⟨args', kw'⟩ = pure binds' ∧ binds'.map (fun p => (p.1, er p.2)) = binds)
    (run : ∀ L q cd, (∀ b, L ≤ b → ¬ H.dom b) → BdT w h₀ (cFn n L fa.scope fa.closure q f cd) binds ⟨[], addCells (L + 1) fa.scope.names H⟩
      (fun st => BodyT w h₀ (cFn n L fa.scope fa.closure q f cd) fa.body st Q))
    (hn : n ≤ 100) (hco : fa.scope.isCoroutine = false) (hgen : fa.scope.isGenerator = false) : CallT w h₀ n (.ref f) args kw H Q := fun f' a' k' e1 e2 e3 s I => by
  rw [er_ref e1]
  obtain ⟨fd, sl, g, h1, h2, h3, h4, h5, h6, h7, h8, q, hc⟩ := I.fs f fa ef
  obtain ⟨binds', hbi, hbe⟩ := bind fd h1 h7 h8 a' k' e2 e3
  refine codeAny_own I hn g rfl (by rw [h3]; exact hco) (by rw [h3]; exact hgen) hc h5 h6 (BindsTo.of_eq hbi) ?_
  rw [hbe, h3, h4, h2]; exact fun L hL => run L _ _ hL
end Mine

namespace Mine
variable {w : World} {h₀ : Heap} {c : Cx} {n : Nat}

/-! ## a dict's entries by name -/
noncomputable def KeysT (P : Params) (es : List DictEntry) : Prop := ∀ e ∈ es, ∃ k t, e.key = .str k t ∧ e.hash = PyData.keyHash P k
theorem isStr_key {P : Params} {e : DictEntry} (h : ∃ k t, e.key = .str k t ∧ e.hash = PyData.keyHash P k) (name : Str) : e.key.isStr name = (keyOf e == name) ∧ e.refKey = false := by
  obtain ⟨k, t, h1, h2⟩ := h
  unfold keyOf DictEntry.refKey
  rw [h1]
  exact ⟨rfl, rfl⟩
theorem getL_some {P : Params} {name : Str} {v : Value} : ∀ {es : List DictEntry}, KeysT P es → (es.map erE).lookup name = some v → ∃ v', getL name es = some (some v') ∧ er v' = v
  | [], _, e => by cases e
  | x :: r, hk, e => by
    have q := isStr_key (hk x (.head _)) name
    rw [List.map_cons, erE_eq, List.lookup_cons] at e
    unfold getL
    rw [List.find?_cons, q.1]
    by_cases h : keyOf x = name
    · have b1 : (keyOf x == name) = true := by rw [h]; exact beq_self_eq_true _
      have b2 : (name == keyOf x) = true := by rw [h]; exact beq_self_eq_true _
      rw [b2] at e
      rw [b1]
      exact ⟨x.val, rfl, by simpa using e⟩
    · have b1 : (keyOf x == name) = false := beq_eq_false_iff_ne.mpr h
      have b2 : (name == keyOf x) = false := beq_eq_false_iff_ne.mpr fun z => h z.symm
      rw [b2] at e
      rw [b1]
      obtain ⟨v', g, ev⟩ := getL_some (fun y hy => hk y (.tail _ hy)) e
      refine ⟨v', ?_, ev⟩
      unfold getL at g
      simp only
      rw [List.any_cons, q.2, Bool.false_or]
      exact g
theorem getL_none {P : Params} {name : Str} : ∀ {es : List DictEntry}, KeysT P es → (es.map erE).lookup name = none → getL name es = some none
  | [], _, e => rfl
  | x :: r, hk, e => by
    have q := isStr_key (hk x (.head _)) name
    rw [List.map_cons, erE_eq, List.lookup_cons] at e
    unfold getL
    rw [List.find?_cons, q.1]
    by_cases h : keyOf x = name
    · have b2 : (name == keyOf x) = true := by rw [h]; exact beq_self_eq_true _
      rw [b2] at e; cases e
    · have b1 : (keyOf x == name) = false := beq_eq_false_iff_ne.mpr h
      have b2 : (name == keyOf x) = false := beq_eq_false_iff_ne.mpr fun z => h z.symm
      rw [b2] at e
      rw [b1]
      have g := getL_none (fun y hy => hk y (.tail _ hy)) e
      unfold getL at g
      simp only
      rw [List.any_cons, q.2, Bool.false_or]
      exact g
theorem getL_isSome {P : Params} {name : Str} {es : List DictEntry} (hk : KeysT P es) : (getL name es).isSome = true := by
  cases e : (es.map erE).lookup name with
  | none => rw [getL_none hk e]; rfl
  | some v => obtain ⟨v', g, _⟩ := getL_some hk e; rw [g]; rfl
theorem putL_er {P : Params} {name : Str} {t : Tok} {v : Value} : ∀ {es : List DictEntry}, KeysT P es → (putL name (PyData.keyHash P name) (.str name t) v es).map erE = lput name (er v) (es.map erE)
  | [], _ => rfl
  | x :: r, hk => by
    have q := isStr_key (hk x (.head _)) name
    unfold putL
    rw [q.1, List.map_cons, erE_eq, lput_cons]
    by_cases h : keyOf x = name
    · rw [h, beq_self_eq_true, if_pos rfl, if_pos rfl, List.map_cons]
      show (keyOf _, _) :: _ = _
      rw [show keyOf ⟨x.hash, x.key, v⟩ = keyOf x from rfl, h]
    · rw [beq_eq_false_iff_ne.mpr h, if_neg (by decide), if_neg h, List.map_cons, erE_eq, putL_er fun y hy => hk y (.tail _ hy)]
theorem putL_keys {P : Params} {name : Str} {t : Tok} {v : Value} : ∀ {es : List DictEntry}, KeysT P es → KeysT P (putL name (PyData.keyHash P name) (.str name t) v es)
  | [], _ => fun e he => by
    unfold putL at he
    rw [List.mem_singleton] at he
    subst he; exact ⟨_, _, rfl, rfl⟩
  | x :: r, hk => fun e he => by
    unfold putL at he
    split at he
    · rcases List.mem_cons.mp he with rfl | he
      · exact hk x (.head _)
      · exact hk e (.tail _ he)
    · rcases List.mem_cons.mp he with rfl | he
      · exact hk _ (.head _)
      · exact putL_keys (fun y hy => hk y (.tail _ hy)) e he
theorem lput_mem {x : Str} {v : Value} {y : Str} : ∀ {lo : Lo}, y ∈ (lput x v lo).map (·.1) → y = x ∨ y ∈ lo.map (·.1)
  | [], h => by simp [lput] at h; exact .inl h
  | p :: r, h => by
    rw [lput_cons] at h
    split at h
    · rename_i e
      rw [List.map_cons] at h
      rcases List.mem_cons.mp h with h | h
      · exact .inl h
      · exact .inr (by rw [List.map_cons]; exact .tail _ h)
    · rw [List.map_cons] at h ⊢
      rcases List.mem_cons.mp h with h | h
      · exact .inr (h ▸ .head _)
      · exact (lput_mem h).imp id fun z => .tail _ z
theorem lput_nodup {x : Str} {v : Value} : ∀ {lo : Lo}, (lo.map (·.1)).Nodup → ((lput x v lo).map (·.1)).Nodup
  | [], _ => by simp [lput]
  | p :: r, h => by
    rw [List.map_cons, List.nodup_cons] at h
    rw [lput_cons]
    split
    · rename_i e
      rw [List.map_cons, List.nodup_cons, ← e]
      exact h
    · rename_i e
      rw [List.map_cons, List.nodup_cons]
      refine ⟨fun z => ?_, lput_nodup h.2⟩
      rcases lput_mem z with z | z
      · exact e z
      · exact h.1 z
theorem InvH.dict {H : AH} {s : Shared} (I : InvH w h₀ H s) {a : Addr} {kv : List (Str × Value)} (e : H.ds a = some kv) : ∃ es n, s.heap.get? a = some (dictOf es n) ∧ KeysT w.params es ∧ es.map erE = kv ∧ (kv.map (·.1)).Nodup := by
  obtain ⟨es, n, g, hk, hm, hn⟩ := I.ds a kv e
  exact ⟨es.toList, n, by simpa [dictOf] using g, hk, hm, hn⟩

/-! ## attributes of lexers -/
noncomputable def GatT (w : World) (h₀ : Heap) (n : Nat) (o : Value) (name : Str) (H : AH) (Q : Value → AH → Prop) : Prop := ∀ o' ex, er o' = o → HT w h₀ n (getAttr o' name ex) H (fun v => Q (er v))
@[reducible] noncomputable def kGa (w : World) (h₀ : Heap) (c : Cx) (name : Str) (Q : Value → St → Prop) : Value → St → Prop := fun ov ⟨lo, H⟩ => GatT w h₀ c.n ov name H (kH Q lo)
theorem EvT.attr {o : Expr} {name : Str} {p : Pos} {st : St} {Q : Value → St → Prop} (h : EvT w h₀ c o st (kGa w h₀ c name Q))
    (he : attributeBase o name c.env (eval o c.env) = eval o c.env := by rfl) : EvT w h₀ c (.Attribute o name p) st Q := by
  unfold EvT
  rw [arm_eval_Attribute, he]
  refine Tr.bind (Tr.mono h fun ov st₁ q => Tr.bind (Tr.standAt (Tr.bind (Tr.holding (Tr.heap ((q ov true rfl).mono fun v H q => ?_))))))
  intro s I
  exact wpAny_bind (wpAny_letTemporaryGo (wpAny_pure ⟨_, I, .refl, q⟩))
theorem instAt {H : AH} {s : Shared} (I : InvH w h₀ H s) {x d : Addr} {kv : List (Str × Value)} (ex : H.xs x = some d) {es : List DictEntry} {n : Nat} (g : s.heap.get? d = some (dictOf es n)) : InstAt s.heap x ⟨.ref 52, some d, .plain, #[]⟩ 52 (some (dictOf es n)) :=
  ⟨I.xs x d ex, rfl, rfl, g⟩
theorem hga52 (P : Params) : findIn (K0 P) (.ref 52) "__getattribute__" = some (some (.builtin "object.__getattribute__")) := by rfl
theorem hgt52 (P : Params) : findIn (K0 P) (.ref 52) "__getattr__" = some none := by rfl
theorem hsa52 (P : Params) : findIn (K0 P) (.ref 52) "__setattr__" = some (some (.builtin "object.__setattr__")) := by rfl
theorem hdi52 (P : Params) : hasDictIn (K0 P) 52 = true := by rfl
theorem hov52 (P : Params) : plainOver (K0 P) 52 = true := by rfl
section
variable {H : AH} {x d : Addr} {kv : List (Str × Value)} {name : Str}
theorem GatT.inst {v : Value} {Q : Value → AH → Prop} (ex : H.xs x = some d) (ed : H.ds d = some kv) (ev : kv.lookup name = some v) (hf : findIn (K0 w.params) (.ref 52) name = some none) (hb : ∀ i, v ≠ .builtin i) (h : Q v H) : GatT w h₀ n (.ref x) name H Q := fun o' e eo s I => by
  rw [er_ref eo]
  obtain ⟨es, k, g, hk, hm, hn⟩ := I.dict ed
  rw [← hm] at ev
  obtain ⟨v', g', q⟩ := getL_some hk ev
  refine get_value (K := K0 w.params) I.base (instAt (kv := kv) I ex g) (hga52 _) (findObj_own (hdi52 _) hf rfl g') ?_ (hpost_tok I (show Q (er v') H from q.symm ▸ h))
  cases v' <;> first | rfl | exact absurd (by rw [← q]; rfl) (hb _)
theorem GmT.inst {f : Addr} {Q : Value → List Value → AH → Prop} (ex : H.xs x = some d) (ed : H.ds d = some kv) (ev : kv.lookup name = none) (hf : findIn (K0 w.params) (.ref 52) name = some (some (.ref f))) (ht : typeIn (K0 w.params) (.ref f) = some (.type "function"))
    (h : Q (.ref f) [.ref x] H) : GmT w h₀ n (.ref x) name H Q := fun pl o' eo s I => by
  rw [er_ref eo]
  obtain ⟨es, k, g, hk, hm, hn⟩ := I.dict ed
  rw [← hm] at ev
  refine method_fn (K := K0 w.params) I.base (instAt (kv := kv) I ex g) (hga52 _) (hgt52 _) hf ht ?_ ⟨H, I, .refl, h⟩
  show (lookIn name (dictOf es k)).map _ = _
  rw [lookIn_dict, getL_none hk ev]; rfl
theorem SetAT.inst {v : Value} {R : AH → Prop} (ex : H.xs x = some d) (ed : H.ds d = some kv) (ht : takerIn (K0 w.params) 52 name = some none) (hz : kv.length ≤ 100) (h : R (H.setD d (lput name v kv))) : SetAT w h₀ n (.ref x) name v H R := fun o' v' eo ev s I => by
  rw [er_ref eo]
  obtain ⟨es, k, g, hk, hm, hn⟩ := I.dict ed
  have hlen : es.length = kv.length := by rw [← hm, List.length_map]
  refine set_plain (K := K0 w.params) I.base (instAt (kv := kv) I ex g) (hsa52 _) ?_
  have I1 := (I.tok (s.toks + 1)).1
  refine osa_open (K := K0 w.params) (s := { s with toks := s.toks + 1 }) I1.base (instAt (kv := kv) I1 ex g) (hov52 _) ht fun b => ?_
  have hc : ∃ cd, clsIn (K0 w.params) 52 = some cd ∧ cd.hasDict = true := any_some (hdi52 w.params)
  obtain ⟨cd, hc, hd'⟩ := hc
  refine wpAny_bind (wpAny_pure (wpAny_bind (wpAny_bind (wpAny_loadPart (I.xs x d ex) (wpAny_bind ((looks_clsIn (K := K0 w.params) I1.base hc).here ?_))))))
  rw [hd']
  refine wpAny_pure (a := some d) (wpAny_bind (wpAny_pure (wpAny_bind ?_)))
  unfold nsSet
  refine wpAny_bind (wpAny_bind (wpAny_askSetting (wpAny_pure (wpAny_bind (wpAny_mkText (wpAny_bind (wpAny_loadPart g ?_)))))))
  dsimp only
  have cR : (!es.toArray.any (·.key.isStr name) && es.toArray.any (·.refKey)) = false := by
    have : es.toArray.any (·.refKey) = false := by
      rw [← Array.any_toList]
      apply List.any_eq_false.mpr
      intro e he
      rw [(isStr_key (hk e he) name).2]; decide
    rw [this, Bool.and_false]
  rw [aRefKeyMayBeTheName_at, cR]
  refine wpAny_updatePart g ?_
  have hp : Obj.putName name (PyData.keyHash w.params name) (.str name (s.toks + 1)) v' (dictOf es k) = dictOf (putL name (PyData.keyHash w.params name) (.str name (s.toks + 1)) v' es) (putN name es k) := putName_dict ..
  have g2 : (s.heap.update d (Obj.putName name (PyData.keyHash w.params name) (.str name (s.toks + 1)) v')).get? d = some (dictOf (putL name (PyData.keyHash w.params name) (.str name (s.toks + 1)) v' es) (putN name es k)) := by
    rw [← hp]; exact Heap.get?_update_self _ g (by rw [hp]; rfl)
  have hl2 : (putL name (PyData.keyHash w.params name) (.str name (s.toks + 1)) v' es).length ≤ 1000 := by
    have e1 : (putL name (PyData.keyHash w.params name) (.str name (s.toks + 1)) v' es).length = (lput name (er v') (es.map erE)).length := by rw [← putL_er hk, List.length_map]
    have e2 : ∀ lo : Lo, (lput name (er v') lo).length ≤ lo.length + 1 := by
      intro lo
      induction lo with
      | nil => exact Nat.le_refl _
      | cons p r ih => rw [lput_cons]; split <;> simp only [List.length_cons] <;> omega
    have := e2 (es.map erE)
    rw [List.length_map] at this
    omega
  refine wpAny_bind (wpAny_lookBehind g2 (pastItsLine_dict (by rw [List.size_toArray, sizeLine_eq]; omega)) ?_)
  refine wpAny_pure ?_
  refine HPost.updD (Q := fun _ => R) (x := lput name v kv) I ed (Heap.SameBut.update _ _ _) ⟨_, _, g2, putL_keys hk, ?_, lput_nodup hn⟩ rfl rfl h
  rw [← ev, ← hm]
  exact putL_er hk
end
end Mine

namespace Mine
variable {w : World} {h₀ : Heap} {c : Cx} {n : Nat}
theorem cls_weight (rest : List Value) (kw : List (Str × Value)) : (Code.builtin "type.__call__" ⟨.ref 52 :: rest, kw⟩).weight = 1 := by rfl
theorem cls_units (rest : List Value) (kw : List (Str × Value)) : (Code.builtin "type.__call__" ⟨.ref 52 :: rest, kw⟩).cUnits = 1 := by rfl
theorem ale_cls (n : Nat) (rest : List Value) (kw : List (Str × Value)) : ALe ((AA n).under (.builtin "type.__call__" ⟨.ref 52 :: rest, kw⟩)) (AA (n + 1)) := by
  refine ⟨rfl, ?_, rfl, rfl, ?_⟩
  · show (AA n).depth + (Code.builtin "type.__call__" ⟨.ref 52 :: rest, kw⟩).weight ≤ _
    rw [cls_weight]; simp [AA]; omega
  · show (AA n).units + (Code.builtin "type.__call__" ⟨.ref 52 :: rest, kw⟩).cUnits ≤ _
    rw [cls_units]; simp [AA]; omega
theorem CallT.make {args : List Value} {H : AH} {Q : Value → AH → Prop} (h : ∀ x d, ¬ H.dom d → ¬ (H.setD d []).dom x → CallT w h₀ (n + 1) (.ref 28) (.ref x :: args) [] ((H.setD d []).setX x d) (fun v H' => v = .none ∧ Q (.ref x) H')) :
    CallT w h₀ n (.ref 52) args [] H Q := fun f' a' k' e1 e2 e3 s I => by
  rw [er_ref e1, kw0 e3]
  subst e2
  obtain ⟨H₁, I₁, S₁, e₁⟩ := HPost.newD (r := ()) (Q := fun _ H' => ¬ H.dom s.heap.objs.size ∧ H' = H.setD s.heap.objs.size []) (x := []) (s' := { s with heap := s.heap.push emptyDict }) I
    ⟨#[], 0, Heap.get?_push_size _ rfl, (fun _ he => by simp at he), rfl, by simp⟩ (Nat.le_refl _) keep_push size_push' rfl rfl (fun d => ⟨d, rfl⟩)
  obtain ⟨d1, rfl⟩ := e₁
  have hz : (s.heap.push emptyDict).objs.size = s.heap.objs.size + 1 := Heap.size_push ..
  obtain ⟨H₂, I₂, S₂, e₂⟩ := HPost.newX (r := ()) (a := s.heap.objs.size + 1) (Q := fun _ H' => ¬ (H.setD s.heap.objs.size []).dom (s.heap.objs.size + 1) ∧ H' = (H.setD s.heap.objs.size []).setX (s.heap.objs.size + 1) s.heap.objs.size) (x := s.heap.objs.size)
    (s' := { s with heap := (s.heap.push emptyDict).push (instObj 52 s.heap.objs.size) }) I₁ (by rw [← hz]; exact Heap.get?_push_size _ rfl) (by rw [← hz]; exact Nat.le_refl _) keep_push size_push' rfl rfl (fun d => ⟨d, rfl⟩)
  obtain ⟨d2, rfl⟩ := e₂
  have S := S₁.trans S₂
  obtain ⟨hp, g, d, t, os⟩ := s
  refine make_core (makes_of (K := K0 w.params) I.base (by rfl)) (looks_findIn (K := K0 w.params) I.base (show findIn (K0 w.params) (.ref 52) "__init__" = some (some (.ref 28)) by rfl)) (fun self => bind_fn (K := K0 w.params) I.base self (by rfl)) (.inl rfl) ?_
  refine codeAny_le (ale_cls n _ _) (codeAny_mono (h _ _ d1 d2 (.ref 28) (.ref (hp.objs.size + 1) :: a') [] rfl rfl rfl _ I₂) fun r s' ⟨v, e, H', I', S', ev, q⟩ => ?_)
  subst e
  exact ⟨er_none ev, _, rfl, H', I', S.trans S', q⟩
end Mine

namespace Mine
open Builtin Builtin.ObjectAttr
variable {w : World} {h₀ : Heap} {c : Cx} {n : Nat}

theorem slot_fn_ga : Slot "function" "__getattribute__" "object.__getattribute__" :=
  .of (owner := "object") (n := "__getattribute__") (by rw [typeLookup_type, builtinLookup_eq_fast]; kernel_rfl) (by decide +kernel) (by decide +kernel) (by decide +kernel)
    (by first | exact .inl (by decide +kernel) | exact .inr (by decide +kernel)) (by rw [isSubtype_type]; kernel_rfl)
theorem slot_fn_sa : Slot "function" "__setattr__" "object.__setattr__" :=
  .of (owner := "object") (n := "__setattr__") (by rw [typeLookup_type, builtinLookup_eq_fast]; kernel_rfl) (by decide +kernel) (by decide +kernel) (by decide +kernel)
    (by first | exact .inl (by decide +kernel) | exact .inr (by decide +kernel)) (by rw [isSubtype_type]; kernel_rfl)
theorem fn_no_getattr : typeLookup (.type "function") "__getattr__" = pure none := by rw [typeLookup_type, builtinLookup_eq_fast]; kernel_rfl
theorem fn_no_read : typeLookup (.type "function") "read" = pure none := by rw [typeLookup_type, builtinLookup_eq_fast]; kernel_rfl
theorem fn_mro : mroOf (.type "function") = pure [.type "function", .type "object"] := by rw [mroOf_type]; kernel_rfl
theorem fn_passes (self : Value) : refuseLoop self "__setattr__" [.type "function", .type "object"] = pure () := by kernel_rfl
theorem fn_dict : typeHasDict (.type "function") = true := by decide +kernel
theorem fn_notAlone : finalisedInACycleAlone "function" = false := by decide +kernel
theorem ga_canon : (Manifest.canonical "object.__getattribute__" != "object.__getattribute__") = false := by decide +kernel

theorem fs_obj {H : AH} {s : Shared} (I : InvH w h₀ H s) {f : Addr} {fa : FnA} (ef : H.fs f = some fa) : ∃ fd sl, s.heap.get? f = some ⟨.type "function", fa.dict, .func fd, sl⟩ := by
  obtain ⟨fd, sl, g, _⟩ := I.fs f fa ef
  exact ⟨fd, sl, g⟩

theorem GatT.fn {f d : Addr} {fa : FnA} {kv : List (Str × Value)} {v : Value} {H : AH} {Q : Value → AH → Prop} (ef : H.fs f = some fa) (ed : fa.dict = some d) (hd : H.ds d = some kv) (ev : kv.lookup (Str.ofString "read") = some v) (hb : ∀ i, v ≠ .builtin i) (h : Q v H) :
    GatT w h₀ n (.ref f) "read" H Q := fun o' ex eo s I => by
  rw [er_ref eo]
  obtain ⟨fd, sl, g⟩ := fs_obj I ef
  rw [ed] at g
  obtain ⟨es, k, gd, hk, hm, hn⟩ := I.dict hd
  rw [← hm] at ev
  obtain ⟨v', g', q⟩ := getL_some hk ev
  have hT : s.TypeIs (.ref f) "function" := ⟨_, g, rfl⟩
  have hh : handedIn v' = true := by cases v' <;> first | rfl | exact absurd (by rw [← q]; rfl) (hb _)
  have hT1 : ({ s with toks := s.toks + 1 } : Shared).TypeIs (.ref f) "function" := ⟨_, g, rfl⟩
  unfold getAttr getAttrBy
  refine wpAny_bind (wpAny_mkText (wpAny_holding (wpAny_bind (wpAny_typeOf hT1 (wpAny_bind (wpAny_of_eq slot_fn_ga.lookup ?_))))))
  show wpAny _ _ (getAttrByItsOwn (.ref f) (.str "read" s.toks) (.type "function") (.builtin "object.__getattribute__") true ex) _ _ _
  unfold getAttrByItsOwn hookBefore callGetattribute boundAndCalled
  refine wpAny_bind (wpAny_of_eq (show (if onTheHeap (.type "function") then typeLookup (.type "function") "__getattr__" else pure none) = pure none from rfl) ?_)
  refine wpAny_bind (wpAny_attempt (wpAny_holding ?_))
  have e1 : (ex && onTheHeap (.builtin "object.__getattribute__")) = false := by cases ex <;> rfl
  rw [e1]
  show wpAny _ _ (bindSpecial (.builtin "object.__getattribute__") (.ref f) >>= _) _ _ _
  refine wpAny_bind (wpAny_of_eq (slot_fn_ga.bind _) ?_)
  refine wpAny_mono (Q := fun v s' => v = v' ∧ s' = { s with toks := s.toks + 1 }) (E := fun _ _ => False) ?_ (fun u s' hu => ?_) fun _ _ z => z.elim
  · refine wpAny_call_entry slot_fn_ga hT1 F.entry_object_getattribute ?_ (F.args_object_getattribute_2 _ _)
    unfold Builtin.«object.__getattribute__»
    refine wpAny_bind (wpAny_of_eq (a := (Value.ref f, [Value.str "read" s.toks])) rfl ?_)
    refine wpAny_bind (wpAny_of_eq (a := ("read" : Str)) rfl ?_)
    refine wpAny_bind (wpAny_typeOf hT1 ?_)
    unfold find
    refine wpAny_bind (wpAny_bind (wpAny_of_eq fn_no_read (wpAny_bind (wpAny_pure (wpAny_bind (wpAny_pure ?_))))))
    unfold ownThenClass inOwnDict ObjectAttr.ownDict loadHead
    refine wpAny_bind (wpAny_bind (wpAny_bind (wpAny_loadPart g ?_)))
    dsimp only
    unfold instanceDict
    refine wpAny_bind (wpAny_loadPart g ?_)
    refine wpAny_pure (a := some d) ?_
    refine wpAny_bind (wpAny_loadPart gd ?_)
    rw [nsLook_of (show lookIn "read" (dictOf es k) = some (some v') from g')]
    exact wpAny_pure (wpAny_bind (wpAny_rule (wpAny_pure (wpAny_pure ⟨_, rfl, rfl, rfl⟩))))
  · obtain ⟨rfl, rfl⟩ := hu
    show wpAny _ _ (handedOut u) _ _ _
    rw [handedOut_of hh]
    exact wpAny_pure (hpost_tok I (show Q (er u) H from q.symm ▸ h))
theorem GmT.fn {f d : Addr} {fa : FnA} {kv : List (Str × Value)} {v : Value} {H : AH} {Q : Value → List Value → AH → Prop} (ef : H.fs f = some fa) (ed : fa.dict = some d) (hd : H.ds d = some kv) (ev : kv.lookup (Str.ofString "read") = some v) (hb : ∀ i, v ≠ .builtin i) (h : Q v [] H) :
    GmT w h₀ n (.ref f) "read" H Q := fun pl o' eo s I => by
  have K := GatT.fn (w := w) (h₀ := h₀) (n := n) (Q := fun v H => Q v [] H) ef ed hd ev hb h o' false eo s I
  rw [er_ref eo] at K ⊢
  obtain ⟨fd, sl, g⟩ := fs_obj I ef
  have hT : s.TypeIs (.ref f) "function" := ⟨_, g, rfl⟩
  unfold getMethod
  refine wpAny_bind (wpAny_specialOf hT slot_fn_ga.lookup ?_)
  show wpAny _ _ (if (Manifest.canonical "object.__getattribute__" != "object.__getattribute__") = true then _ else _) _ _ _
  rw [ga_canon, if_neg (by decide)]
  refine wpAny_bind (wpAny_specialOf hT fn_no_getattr ?_)
  refine wpAny_bind (wpAny_specialOf hT fn_no_read ?_)
  exact wpAny_bind (wpAny_mono K (fun v s' x => wpAny_pure x) fun _ _ e => e)
theorem SetAT.fn {f : Addr} {fa : FnA} {v : Value} {H : AH} {R : AH → Prop} (ef : H.fs f = some fa) (ed : fa.dict = none) (h : ∀ d, ¬ H.dom d → R (((H.setD d []).setF f { fa with dict := some d }).setD d [("read", v)])) : SetAT w h₀ n (.ref f) "read" v H R := fun o' v' eo ev s I => by
  rw [er_ref eo]
  obtain ⟨fd, sl, g, r⟩ := I.fs f fa ef
  rw [ed] at g
  have hT : s.TypeIs (.ref f) "function" := ⟨_, g, rfl⟩
  have hT1 : ({ s with toks := s.toks + 1 } : Shared).TypeIs (.ref f) "function" := ⟨_, g, rfl⟩
  have hlt := Heap.lt_size g
  unfold setAttr
  refine wpAny_bind (wpAny_mkText (wpAny_bind (wpAny_callSpecial?_slot (name := Str.ofString "__setattr__") hT1 slot_fn_sa
    (wpAny_call_entry slot_fn_sa hT1 F.entry_object_sa ?_ (F.store_object.args _ _ _)))))
  rw [osa_eq, refuse_eq]
  refine wpAny_bind (wpAny_bind (wpAny_typeOf hT1 (wpAny_bind (wpAny_of_eq fn_mro ?_))))
  rw [fn_passes]
  refine wpAny_pure (wpAny_bind (wpAny_typeOf hT1 (wpAny_bind (wpAny_of_eq fn_no_read (wpAny_bind (wpAny_pure ?_))))))
  show wpAny _ _ (storeInOwnDict (.ref f) (.type "function") (.str "read" s.toks) "read" v' false) _ _ _
  unfold storeInOwnDict
  refine wpAny_bind (wpAny_of_eq (show ownStreamTells (.ref f) (.type "function") = pure () from rfl) ?_)
  rw [if_neg (by decide)]
  unfold ownDictForStores instanceDict
  refine wpAny_bind (wpAny_bind (wpAny_loadPart g ?_))
  dsimp only
  rw [fn_dict]
  rw [if_neg (by decide)]
  obtain ⟨H₁, I₁, S₁, e₁⟩ := HPost.newD (r := ()) (Q := fun _ H' => ¬ H.dom s.heap.objs.size ∧ H' = H.setD s.heap.objs.size []) (x := []) (s' := { s with heap := s.heap.push emptyDict, toks := s.toks + 1 }) I
    ⟨#[], 0, Heap.get?_push_size _ rfl, (fun _ he => by simp at he), rfl, by simp⟩ (Nat.le_refl _) keep_push size_push' rfl rfl (fun d => ⟨d, rfl⟩)
  obtain ⟨nd, rfl⟩ := e₁
  have g1 : (s.heap.push emptyDict).get? f = some ⟨.type "function", none, .func fd, sl⟩ := Heap.get?_push_of_some _ g
  refine wpAny_bind (wpAny_alloc ?_)
  refine wpAny_bind (wpAny_update g1 ?_)
  have g2 : ((s.heap.push emptyDict).update f fun o => { o with dict := some s.heap.objs.size }).get? f = some ⟨.type "function", some s.heap.objs.size, .func fd, sl⟩ := Heap.get?_update_self _ g1 rfl
  have hsb := Heap.SameBut.update (s.heap.push emptyDict) f (fun o => { o with dict := some s.heap.objs.size })
  obtain ⟨r1, r2, r3, r4, r5, r6, r7, r8, q, rc⟩ := r
  have rc2 : CodeAt ((s.heap.push emptyDict).update f fun o => { o with dict := some s.heap.objs.size }) fd.code q := by
    obtain ⟨cd, d', vs, sl', t, a1, a2, a3⟩ := rc
    refine ⟨cd, d', vs, sl', t, a1, (hsb.2 cd (fun z => ?_)).trans (Heap.get?_push_of_some _ a2), a3⟩
    rw [z, g] at a2
    have a4 := congrArg Obj.cls (Option.some.inj a2)
    exact absurd (show Value.type "function" = Value.type "code" from a4) (by decide)
  have U := InvH.updF (s' := { s with heap := (s.heap.push emptyDict).update f fun o => { o with dict := some s.heap.objs.size }, toks := s.toks + 1 }) (x := { fa with dict := some s.heap.objs.size }) I₁ (show (H.setD s.heap.objs.size []).fs f = some fa from ef) hsb
    ⟨fd, sl, g2, r1, r2, r3, r4, r5, r6, r7, r8, q, rc2⟩ rfl rfl
  have gd : ((s.heap.push emptyDict).update f fun o => { o with dict := some s.heap.objs.size }).get? s.heap.objs.size = some emptyDict := (hsb.2 _ (Nat.ne_of_gt hlt)).trans (Heap.get?_push_size _ rfl)
  unfold dictMade
  dsimp only
  rw [fn_notAlone]
  refine wpAny_pure (a := some s.heap.objs.size) ?_
  show wpAny _ _ (storeInDict s.heap.objs.size (.str "read" s.toks) "read" v') _ _ _
  unfold storeInDict
  refine wpAny_bind (wpAny_pure (wpAny_bind ?_))
  unfold nsSet
  refine wpAny_bind (wpAny_bind (wpAny_askSetting (wpAny_pure (wpAny_bind (wpAny_mkText (wpAny_bind (wpAny_loadPart gd ?_)))))))
  dsimp only
  rw [aRefKeyMayBeTheName_at]
  rw [if_neg (by simp)]
  refine wpAny_updatePart gd ?_
  have hp : Obj.putName "read" (PyData.keyHash w.params "read") (.str "read" (s.toks + 1)) v' emptyDict = dictOf [⟨PyData.keyHash w.params "read", .str "read" (s.toks + 1), v'⟩] 1 := putName_dict (es := []) ..
  have g3 : (((s.heap.push emptyDict).update f fun o => { o with dict := some s.heap.objs.size }).update s.heap.objs.size (Obj.putName "read" (PyData.keyHash w.params "read") (.str "read" (s.toks + 1)) v')).get? s.heap.objs.size = some (dictOf [⟨PyData.keyHash w.params "read", .str "read" (s.toks + 1), v'⟩] 1) := by
    rw [← hp]; exact Heap.get?_update_self _ gd (by rw [hp]; rfl)
  refine wpAny_bind (wpAny_lookBehind g3 (pastItsLine_dict (by rw [List.size_toArray, sizeLine_eq]; show 1 ≤ _; omega)) ?_)
  refine wpAny_pure ⟨_, rfl, wpAny_pure ?_⟩
  refine HPost.step (S₁.trans U.2) (HPost.updD (Q := fun _ => R) (x := [("read", v)]) U.1 (show ((H.setD s.heap.objs.size []).setF f { fa with dict := some s.heap.objs.size }).ds s.heap.objs.size = some [] from if_pos rfl) (Heap.SameBut.update _ _ _)
    ⟨_, _, g3, fun e he => ?_, ?_, by simp⟩ rfl rfl (h _ nd))
  · have : e = ⟨PyData.keyHash w.params "read", .str "read" (s.toks + 1), v'⟩ := by simpa using he
    subst this; exact ⟨_, _, rfl, rfl⟩
  · rw [← ev]; rfl
end Mine

namespace Mine
variable {w : World} {h₀ : Heap} {c : Cx} {n : Nat}

theorem codeAmong_app {pos : Pos} {a b : Int} {x cv : Value} (l : List Value) (ht : TriplesOk l) (e : codeAmong pos (l ++ [rawInt a, rawInt b, x]) = some cv) : codeAmong pos l = some cv ∨ cv = x := by
  fun_induction TriplesOk l with
  | case1 =>
    have e2 : (if (a == (pos.line : Int) && b == (pos.col : Int)) = true then some x else codeAmong pos []) = some cv := e
    split at e2
    · exact .inr (Option.some.inj e2).symm
    · cases e2
  | case2 i t j u y r ih =>
    have e2 : (if (i == (pos.line : Int) && j == (pos.col : Int)) = true then some y else codeAmong pos (r ++ [rawInt a, rawInt b, x])) = some cv := e
    show (if (i == (pos.line : Int) && j == (pos.col : Int)) = true then some y else codeAmong pos r) = some cv ∨ _
    split at e2
    · rename_i h; rw [if_pos h]; exact .inl e2
    · rename_i h; rw [if_neg h]; exact ih ht e2
  | case3 => exact ht.elim

theorem tabs_apart : ∀ p ∈ tabs, ∀ q ∈ tabs, q.1 ≠ p.2 ∧ (q ≠ p → q.2 ≠ p.2) := by decide
theorem tabs_tabA : ∀ p ∈ tabs, p.2 ∈ tabA := by decide
theorem tabs_ne : ∀ p ∈ tabs, p.2 ≠ 0 ∧ p.2 ≠ 3 ∧ p.2 ≠ 4 ∧ p.2 ≠ 2 := by decide
theorem k0_noTab (P : Params) : ∀ p ∈ tabs, ∀ q ∈ K0 P, q.1 ≠ p.2 := by
  have h : ((K0 P).map (·.1)).all (fun a => tabs.all fun p => decide (a ≠ p.2)) = true := by rfl
  intro p hp q hq
  have h1 := List.all_eq_true.mp h q.1 (List.mem_map_of_mem hq)
  have h2 := List.all_eq_true.mp h1 p hp
  exact of_decide_eq_true h2

theorem InvH.table {H : AH} {s s' : Shared} (I : InvH w h₀ H s) {cc P : Addr} (hP : (cc, P) ∈ tabs) {ps : Array Value} (hta : s.heap.TableAt cc P ps) (hcs : ∀ pos c, codeAmong pos ps.toList = some c → ∃ q, CodeAt s.heap c q) (htr : TriplesOk ps.toList)
    {a b : Int} {x : Value} {q : Str} (hx : Heap.ExtBut P s.heap s'.heap) (hsz : s.heap.objs.size ≤ s'.heap.objs.size) (hg : s'.gens = s.gens) (hos : s'.os = s.os)
    (hco' : s'.heap.IsCode cc P (ps ++ #[rawInt a, rawInt b, x])) (hta' : s'.heap.TableAt cc P (ps ++ #[rawInt a, rawInt b, x])) (hq : CodeAt s'.heap x q) : InvH w h₀ H s' ∧ StepH H s H s' := by
  have hlt := tabs_low _ hP
  have ne0 := tabs_ne _ hP
  have lt : ∀ b, h₀.objs.size ≤ b → b ≠ P := fun b hb e => Nat.lt_irrefl _ (Nat.lt_of_lt_of_le (e ▸ hlt.2) (Nat.le_trans I.big hb))
  have hxd : ∀ b o, H.dom b → s.heap.get? b = some o → s'.heap.get? b = some o := fun b o d e => hx b o (lt b (I.low b d).1) e
  have hNC : ∀ o, s.heap.get? P = some o → NotCode o := fun o e => by
    rw [hta.2] at e; cases e; exact NotCode.cls (show Value.none ≠ Value.type "code" by decide)
  obtain ⟨⟨ps₀, ht₀⟩, _⟩ := I.tab _ hP
  refine ⟨⟨fun b o e => hx b o (fun z => k0_noTab w.params _ hP _ (lookup_mem e) z) (I.base b o e), I.big, Nat.le_trans I.grown hsz, OldK.step_table (c := cc) I.old ht₀ hta hta' hx ne0.2.2.2, ?_, ?_, ?_, fun p hp => ?_, fun b hb => ?_, ?_, ?_, ?_, ?_, ?_, ?_, ?_, hg.trans I.gens⟩, ?_, fun b d => .inl d, hsz, hos⟩
  · obtain ⟨mb, hn, hb⟩ := I.bi
    exact ⟨mb, hn.extBut hx (Ne.symm ne0.1), hb⟩
  · obtain ⟨mg, hn⟩ := I.gl
    exact ⟨mg, hn.extBut hx (Ne.symm ne0.2.1)⟩
  · obtain ⟨ob, e, r⟩ := I.bm; exact ⟨ob, hx _ _ (Ne.symm ne0.2.2.1) e, r⟩
  · by_cases h : p = (cc, P)
    · subst h
      refine ⟨⟨ps₀, ht₀⟩, _, hco', hta', fun pos c e => ?_⟩
      rw [Array.toList_append] at e
      rcases codeAmong_app _ htr e with e | e
      · obtain ⟨q', hq'⟩ := hcs pos c e; exact ⟨q', hq'.ext hx hNC⟩
      · exact ⟨q, e ▸ hq⟩
    · obtain ⟨h1, qs, k1, k2, k3⟩ := I.tab p hp
      have ap := tabs_apart _ hP p hp
      have h2 := ap.2 h
      exact ⟨h1, qs, k1.extBut (a := P) hx ap.1 h2, k2.extBut (a := P) hx ap.1 h2, fun pos c e => let ⟨q', hq'⟩ := k3 pos c e; ⟨q', hq'.ext hx hNC⟩⟩
  · have := I.low b hb; exact ⟨this.1, Nat.lt_of_lt_of_le this.2 hsz⟩
  · intro b y e; obtain ⟨i, n, g, r⟩ := I.ls b y e; exact ⟨i, n, hxd b _ (AH.dom_ls e) g, r⟩
  · intro b y e; obtain ⟨i, n, g, r⟩ := I.ts b y e; exact ⟨i, n, hxd b _ (AH.dom_ts e) g, r⟩
  · intro b y e; obtain ⟨i, g, r⟩ := I.cs b y e; exact ⟨i, hxd b _ (AH.dom_cs e) g, r⟩
  · intro b y e; obtain ⟨i, n, g, r⟩ := I.ds b y e; exact ⟨i, n, hxd b _ (AH.dom_ds e) g, r⟩
  · intro b y e; exact hxd b _ (AH.dom_xs e) (I.xs b y e)
  · intro b y e
    obtain ⟨fd, sl, g, e1, e2, e3, e4, e5, e6, e7, e8, q', r⟩ := I.fs b y e
    exact ⟨fd, sl, hxd b _ (AH.dom_fs e) g, e1, e2, e3, e4, e5, e6, e7, e8, q', r.ext hx hNC⟩
  · intro b y e; obtain ⟨i, g, r⟩ := I.is b y e; exact ⟨i, hxd b _ (AH.dom_is e) g, r⟩
  · intro b o e _ ht
    exact hx b o (fun z => ht (z ▸ tabs_tabA _ hP)) e

/-- the last part of making a function -/
noncomputable def fnRest (name qual : Str) (params : Arguments) (body : FuncBody) (scope : Scope) (env : Env) (clos : List (Str × Addr)) (ctv : Value) (pos : Pos) (fl : Nat) : Sem Value := do
  let code ← functionCode env pos fl name qual params scope body
  let b ← builtinsFor mainGlobals env.builtins
  let pm ← nsGet mainGlobals "__name__"
  let doc ← match body with
    | .stmts b => (match docOf b with | some s => mkText s | none => pure .none)
    | .expr _ => pure .none
  newObj (.type "function") (.func { name, qualname := qual, params, body, scope, globals := mainGlobals, closure := clos, closureTuple := ctv, code := code, builtins := b, defaults := .none, kwdefaults := .none, annotations := none, pyModule := pm.getD .none, doc := doc })
theorem mkFn_end {name qual : Str} {params : Arguments} {body : FuncBody} {scope : Scope} {env : Env} {clos : List (Str × Addr)} {ctv code : Value} {H : AH} {Q : Value → AH → Prop} {q : Str}
    (h : ∀ f, ¬ H.dom f → Q (.ref f) (H.setF f ⟨params, body, scope, clos, none⟩)) (s : Shared) (I : InvH w h₀ H s) (hc : CodeAt s.heap code q) :
    wpAny (MM w) (AA n) (do
      let b ← builtinsFor mainGlobals env.builtins
      let pm ← nsGet mainGlobals "__name__"
      let doc ← match body with
        | .stmts b => (match docOf b with | some s => mkText s | none => pure .none)
        | .expr _ => pure .none
      newObj (.type "function") (.func { name, qualname := qual, params, body, scope, globals := mainGlobals, closure := clos, closureTuple := ctv, code := code, builtins := b, defaults := .none, kwdefaults := .none, annotations := none, pyModule := pm.getD .none, doc := doc }))
      (HPost w h₀ H s (fun v => Q (er v))) NoE s := by
  obtain ⟨mg, G⟩ := I.gl
  obtain ⟨ob, g4, c1, c2, c3⟩ := I.bm
  have e4 : mg "__builtins__" = some (.ref 4) := mg_of I.base G (show nsIn (K0 w.params) mainGlobals "__builtins__" = some (some (.ref 4)) by rfl)
  refine wpAny_bind (wpAny_builtinsFor G e4 (by decide) g4 c1 c2 c3 ?_)
  refine wpAny_bind (wpAny_nsGet G ?_)
  have fin : ∀ (doc : Value) (t : Tok), wpAny (MM w) (AA n) (newObj (.type "function") (.func { name, qualname := qual, params, body, scope, globals := mainGlobals, closure := clos, closureTuple := ctv, code := code, builtins := builtinsNs, defaults := .none, kwdefaults := .none, annotations := none, pyModule := (mg "__name__").getD .none, doc := doc }))
      (HPost w h₀ H s (fun v => Q (er v))) NoE { s with toks := t } := fun doc t => by
    refine wpAny_newObj_type ?_ (by size_fits)
    refine HPost.newF (x := ⟨params, body, scope, clos, none⟩) I ⟨_, #[], Heap.get?_push_size _ rfl, rfl, rfl, rfl, rfl, rfl, rfl, rfl, rfl, q, ?_⟩ (Nat.le_refl _) keep_push size_push' rfl rfl (h _)
    obtain ⟨cd, d, vs, sl, t, a1, a2, a3⟩ := hc
    exact ⟨cd, d, vs, sl, t, a1, Heap.get?_push_of_some _ a2, a3⟩
  cases body with
  | expr e => exact wpAny_bind (wpAny_pure (fin .none s.toks))
  | stmts l =>
    refine wpAny_bind ?_
    show wpAny _ _ (match docOf l with | some s => mkText s | none => pure .none) _ _ _
    cases hd : docOf l with
    | none => exact wpAny_pure (fin .none s.toks)
    | some t => exact wpAny_mkText (fin _ _)
theorem mkFn_rest {name qual : Str} {params : Arguments} {body : FuncBody} {scope : Scope} {env : Env} {clos : List (Str × Addr)} {ctv : Value} {pos : Pos} {fl : Nat} {cc P : Addr} {H : AH} {Q : Value → AH → Prop} (hP : (cc, P) ∈ tabs) (hcode : env.code = .ref cc)
    (h : ∀ f, ¬ H.dom f → Q (.ref f) (H.setF f ⟨params, body, scope, clos, none⟩)) : HT w h₀ n (fnRest name qual params body scope env clos ctv pos fl) H (fun v => Q (er v)) := fun s I => by
  obtain ⟨_, ps, hco, hta, hcs⟩ := I.tab _ hP
  have htr : TriplesOk ps.toList := by obtain ⟨_, _, _, _, _, _, _, _, _, _, _, _, _, _, _, _, _, _, _, htr, _⟩ := hco; exact htr
  unfold fnRest
  refine wpAny_bind ?_
  cases hf : codeAmong pos ps.toList with
  | some cv =>
    obtain ⟨q, hq⟩ := hcs pos cv hf
    exact wpAny_functionCode_hit hcode hco hf (mkFn_end h s I hq)
  | none =>
    refine wpAny_size (wpAny_functionCodeX hcode hco hta hf fun c' h' tk hx hge hlt hco' hrec hta' ⟨P', _, hc1, hc2⟩ hsz => ?_)
    have hq : CodeAt h' (.ref c') qual := by
      obtain ⟨⟨o1, vs1, a1, a2, a3, a4⟩, _⟩ := hc2
      obtain ⟨c2, o2, vs2, t2, b1, b2, b3, b4⟩ := hrec
      cases b1
      rw [a1] at b2; cases b2
      obtain ⟨oc, od, oda, osl⟩ := o1
      simp only at a2 b3
      subst a2 b3
      exact ⟨c', od, vs2, osl, t2, rfl, a1, b4⟩
    have T := InvH.table (s' := { s with heap := h', toks := tk }) I hP hta hcs htr hx hsz rfl rfl hco' hta' hq
    exact wpAny_mono (mkFn_end h _ T.1 hq) (fun v s₂ r => r.step T.2) fun _ _ e => e
theorem mkFn_HT {name qual : Str} {params : Arguments} {body : FuncBody} {scope : Scope} {env : Env} {clos : List (Str × Addr)} {pos : Pos} {fl : Nat} {cc P : Addr} {H : AH} {Q : Value → AH → Prop} (hP : (cc, P) ∈ tabs) (hcode : env.code = .ref cc) (hg0 : env.globals = mainGlobals) (hcl : closureFor scope env = pure clos)
    (h : ∀ f, ¬ H.dom f → Q (.ref f) (H.setF f ⟨params, body, scope, clos, none⟩)) : HT w h₀ n (makeFunction name qual params body scope env [] [] [] pos fl) H (fun v => Q (er v)) := fun s I => by
  rw [makeFunction_eq]
  simp only [List.zip_nil_right, List.filterMap_nil, List.isEmpty_nil, if_true, pure_bind]
  unfold makeTail
  rw [hcl, hg0]
  refine wpAny_bind (wpAny_pure ?_)
  cases clos with
  | nil =>
    simp only [List.isEmpty_nil, if_true]
    exact wpAny_bind (wpAny_pure (mkFn_rest (ctv := .none) (pos := pos) (fl := fl) (name := name) (qual := qual) hP hcode h s I))
  | cons q r =>
    simp only [List.isEmpty_cons, Bool.false_eq_true, if_false]
    refine wpAny_bind (wpAny_newTextTuple ?_)
    have J := I.ext (s' := { s with heap := s.heap.push { cls := .type "tuple", data := .seq (((q :: r).mergeSort fun a b => a.1.cps.toList ≤ b.1.cps.toList).map fun x => Value.ref x.2).toArray } }) keep_push size_push' rfl rfl
    exact wpAny_mono (mkFn_rest (ctv := .ref s.heap.objs.size) (pos := pos) (fl := fl) (name := name) (qual := qual) hP hcode h _ J.1) (fun v s₂ x => x.step J.2) fun _ _ e => e

/-! ## def and lambda -/
theorem EvT.lambda {params : Arguments} {body : Expr} {scope : Scope} {p : Pos} {cc P : Addr} {clos : List (Str × Addr)} {lo : Lo} {H : AH} {Q : Value → St → Prop} (h : ∀ f, ¬ H.dom f → Q (.ref f) ⟨lo, H.setF f ⟨params, .expr body, scope, clos, Option.none⟩⟩)
    (hP : (cc, P) ∈ tabs) (hcode : c.env.code = .ref cc := by rfl) (hcl : closureFor scope c.env = Pure.pure clos := by rfl) (hg0 : c.env.globals = mainGlobals := by rfl) (hdef : defaultsOf params c.env = ([], []) := by rfl) : EvT w h₀ c (.Lambda params body scope p) ⟨lo, H⟩ Q := fun s I =>
  kla_eval hdef (Tr.heap (c := c) (mkFn_HT (Q := fun v H => Q v ⟨lo, H⟩) hP hcode hg0 hcl h) s I)
theorem ExT.def {name : Str} {params : Arguments} {body : List Stmt} {scope : Scope} {p : Pos} {cc P : Addr} {clos : List (Str × Addr)} {lo : Lo} {H : AH} {Q : Flow → St → Prop} (h : ∀ f, ¬ H.dom f → StoreT w h₀ c name (.ref f) ⟨lo, H.setF f ⟨params, .stmts body, scope, clos, Option.none⟩⟩ (kNx Q))
    (hP : (cc, P) ∈ tabs) (hcode : c.env.code = .ref cc := by rfl) (hcl : closureFor scope c.env = Pure.pure clos := by rfl) (hg0 : c.env.globals = mainGlobals := by rfl) (hd0 : params.defaults = [] := by rfl) (hk0 : params.kw_defaults = [] := by rfl) (ha : annTrees params Option.none c.env = [] := by rfl) :
    ExT w h₀ c (.FunctionDef name params body [] Option.none [] scope Option.none name p) ⟨lo, H⟩ Q := fun s I => by
  refine nestDef_K hd0 hk0 ha ?_
  refine wpAny_mono (Tr.heap (c := c) (Q := fun v st₁ => StoreT w h₀ c name (er v) st₁ (fun st₂ => Q .next st₂)) (mkFn_HT (Q := fun v H => StoreT w h₀ c name v ⟨lo, H⟩ (fun st₂ => Q .next st₂)) hP hcode hg0 hcl h) s I) (fun v s₁ ⟨st₁, I₁, S₁, q⟩ => ?_) fun _ _ e => e
  exact wpAny_mono (q v rfl s₁ I₁) (fun _ s₂ r => TPost.step S₁ r) fun _ _ e => e
end Mine

namespace Mine
variable {w : World} {h₀ : Heap} {c : Cx} {n : Nat}

/-! ## an iterator's own iterator -/
noncomputable def SelfT (w : World) (h₀ : Heap) (n : Nat) (it : Addr) (H : AH) : Prop := ∀ (Q : AH → Prop), Q H → HT w h₀ n (pyIter (.ref it)) H (fun v H' => v = .ref it ∧ Q H')
section
variable {H : AH} {it l : Addr}
theorem SelfT.list {i : Nat} (e : H.is it = some (.list l i)) : SelfT w h₀ n it H := fun Q q s I => by
  obtain ⟨o, g, r⟩ := I.is it _ e
  exact wpAny_pyIter_listiter ⟨o, g, r⟩ ⟨H, I, .refl, rfl, q⟩
theorem SelfT.range {x left step : Int} (e : H.is it = some (.range x left step)) : SelfT w h₀ n it H := fun Q q s I => by
  obtain ⟨o, g, r⟩ := I.is it _ e
  rw [show o = _ from r] at g
  exact wpAny_pyIter_rangeiter g ⟨H, I, .refl, rfl, q⟩
theorem SelfT.str {x : Str} {i : Nat} (e : H.is it = some (.str x i)) : SelfT w h₀ n it H := fun Q q s I => by
  obtain ⟨o, g, t, q1, q2⟩ := I.is it _ e
  by_cases ha : x.cps.all (· < 128) = true
  · have et : strIterType x = "str_ascii_iterator" := if_pos ha
    rw [et] at q1
    exact (Walks.strAscii (prog := PP) (w := w) (A := AA n) rfl it x t).self i s _ _ ⟨o, g, q1, q2⟩ ⟨H, I, .refl, rfl, q⟩
  · have et : strIterType x = "str_iterator" := if_neg ha
    rw [et] at q1
    exact (Walks.strWide (prog := PP) (w := w) (A := AA n) rfl it x t).self i s _ _ ⟨o, g, q1, q2⟩ ⟨H, I, .refl, rfl, q⟩
end

/-! ## the loops of a comprehension -/
noncomputable def ClT (w : World) (h₀ : Heap) (c : Cx) (e : Expr) (d : Nat) (it acc : Addr) (st : St) (Q : St → Prop) : Prop := ∀ s, Inv w h₀ c st s →
  codeAny (MM w) (AA c.n) (.compLoop e d (.ref it) (.ref acc) c.env) (fun r s' => r = .ok .next ∧ ∃ st', Inv w h₀ c st' s' ∧ Step c.env.locals st.H s st'.H s' ∧ Q st') s
noncomputable def CsT (w : World) (h₀ : Heap) (c : Cx) (e : Expr) (d : Nat) (it acc : Addr) (st : St) (Q : St → Prop) : Prop := ∀ s, Inv w h₀ c st s →
  codeAny (MM w) (AA c.n) (.compStart e d (.ref it) (.ref acc) c.env) (fun r s' => r = .ok .next ∧ ∃ st', Inv w h₀ c st' s' ∧ Step c.env.locals st.H s st'.H s' ∧ Q st') s
noncomputable def TestsT (w : World) (h₀ : Heap) (c : Cx) (ifs : List Expr) (st : St) (Q : Bool → St → Prop) : Prop := Tr w h₀ c (forIn ifs true fun x r => if r = true then do let ok ← isTrue x c.env (eval x c.env); pure (ForInStep.yield ok) else pure (ForInStep.yield r)) st Q
theorem TestsT.nil {st : St} {Q : Bool → St → Prop} (h : Q true st) : TestsT w h₀ c [] st Q := by
  unfold TestsT; rw [List.forIn_nil]; exact Tr.pure h
theorem TestsT.one {x : Expr} {st : St} {Q : Bool → St → Prop} (h : IfT w h₀ c x st Q) : TestsT w h₀ c [x] st Q := fun s I => wpAny_tests_one (h s I)
noncomputable def gensOf : Expr → List Comprehension
  | .ListComp _ gens _ _ => gens
  | _ => []
noncomputable def eltOf : Expr → Expr
  | .ListComp elt _ _ _ => elt
  | e => e
/-- what is done with one item that passed -/
noncomputable def EmitT (w : World) (h₀ : Heap) (c : Cx) (e : Expr) (d : Nat) (acc : Addr) (st : St) (N : St → Prop) : Prop := match (gensOf e)[d + 1]? with
  | some g => EvT w h₀ c g.iter st (fun x st₁ => ItrT w h₀ c.n x st₁.H (fun it H => CsT w h₀ c e (d + 1) it acc ⟨st₁.lo, H⟩ N))
  | none => EvT w h₀ c (eltOf e) st (fun y st₁ => CalT w h₀ c.n (.builtin "list.append") [.ref acc, y] [] st₁.H (fun _ H => N ⟨st₁.lo, H⟩))
theorem noE_notedBy {A : Around} {env : Env} {R : Result → Shared → Prop} : ∀ e s', NoE e s' → notedBy (MM w) A env (fun e s' => R (.error e) s') e s' := fun _ _ e => e.elim
theorem ClT.rule {elt : Expr} {gens : List Comprehension} {scope : Scope} {pos : Pos} {d : Nat} {it acc : Addr} {st : St} {Q : St → Prop} {g : Comprehension} (J : Nat → St → Prop) (n₀ : Nat) (j₀ : J n₀ st)
    (turn : ∀ k st', J k st' → ∀ N : St → Prop, (∀ {st₄}, (∃ m, m < k ∧ J m st₄) → N st₄) → NxT w h₀ c.n it st'.H (fun r H => match r with
      | none => Q ⟨st'.lo, H⟩
      | some v => AsT w h₀ c g.target v ⟨st'.lo, H⟩ (fun st₂ => TestsT w h₀ c g.ifs st₂ (fun ok st₃ => if ok then EmitT w h₀ c (.ListComp elt gens scope pos) d acc st₃ N else N st₃))))
    (hg : gens[d]? = some g := by rfl) (h0 : g.is_async = 0 := by rfl) (hn : ∀ g', gens[d + 1]? = some g' → g'.is_async = 0 ∧ ∀ x, foldedSetIterable g'.iter c.env x = pure x := by intro g' h; first | (cases h; done) | (cases h; exact ⟨rfl, fun _ => rfl⟩))
    (ht : ∀ it v, letOwnedTupleGo g.target it v = pure () := by intro _ _; rfl) :
    ClT w h₀ c (.ListComp elt gens scope pos) d it acc st Q := fun s I => by
  refine codeAny_loop (by rfl) (fun k s' => ∃ st', Inv w h₀ c st' s' ∧ Step c.env.locals st.H s st'.H s' ∧ J k st') (fun k s' ⟨st', I', S', j⟩ => ?_) n₀ ⟨st, I, .refl, j₀⟩
  show wpAny _ (AA c.n) ((compTurn (.ListComp elt gens scope pos) d (.ref it) (.ref acc) c.env).onRaise (fun x => do noteFrame x c.env; theTreesLotGoes x)) _ _ s'
  refine wpAny_noted ?_
  unfold compTurn
  simp only [hg, h0, bne_self_eq_false, Bool.false_eq_true, if_false]
  refine wpAny_bind (wpAny_standAt (wpAny_bind (wpAny_mono (turn k st' j (fun st₄ => ∃ m, m < k ∧ J m st₄) (fun q => q) s' I'.h) (fun r s₃ ⟨H₃, I₃, S₃, q₃⟩ => ?_) fun _ _ e => e.elim)))
  have I₃' := I'.after I₃ S₃
  have S₃' : Step c.env.locals st.H s H₃ s₃ := S'.trans S₃.step
  cases r with
  | none => exact wpAny_pure ⟨rfl, ⟨st'.lo, H₃⟩, I₃', S₃', q₃⟩
  | some v =>
    refine wpAny_bind (wpAny_of_eq (ht _ v) ?_)
    refine wpAny_bind (wpAny_mono (q₃ v rfl s₃ I₃') (fun _ s₄ ⟨st₄, I₄, S₄, q₄⟩ => ?_) fun _ _ e => e.elim)
    refine wpAny_bind (wpAny_mono (q₄ s₄ I₄) (fun ok s₅ ⟨st₅, I₅, S₅, q₅⟩ => ?_) fun _ _ e => e.elim)
    have S₅' := S₃'.trans (S₄.trans S₅)
    cases ok with
    | false => obtain ⟨m, hm, j⟩ := q₅; exact wpAny_pure ⟨rfl, m, hm, st₅, I₅, S₅', j⟩
    | true =>
      simp only [if_true] at q₅ ⊢
      unfold EmitT at q₅
      cases hg' : gens[d + 1]? with
      | none =>
        rw [show (gensOf (.ListComp elt gens scope pos))[d + 1]? = none from hg'] at q₅
        refine wpAny_bind (wpAny_bind (wpAny_mono (q₅ s₅ I₅) (fun y s₆ ⟨st₆, I₆, S₆, q₆⟩ => ?_) fun _ _ e => e.elim))
        refine wpAny_bind (wpAny_mono (q₆ (.builtin "list.append") [.ref acc, y] [] rfl rfl rfl s₆ I₆.h) (fun _ s₇ ⟨H₇, I₇, S₇, m, hm, j⟩ => ?_) fun _ _ e => e.elim)
        exact wpAny_pure (wpAny_pure ⟨rfl, m, hm, ⟨st₆.lo, H₇⟩, I₆.after I₇ S₇, S₅'.trans (S₆.trans S₇.step), j⟩)
      | some g' =>
        rw [show (gensOf (.ListComp elt gens scope pos))[d + 1]? = some g' from hg'] at q₅
        obtain ⟨ha, hf⟩ := hn g' hg'
        simp only [ha, bne_self_eq_false, Bool.false_eq_true, if_false]
        refine wpAny_bind (wpAny_mono (q₅ s₅ I₅) (fun x s₆ ⟨st₆, I₆, S₆, q₆⟩ => ?_) fun _ _ e => e.elim)
        refine wpAny_bind (wpAny_standAt (wpAny_bind (wpAny_of_eq (hf x) ?_)))
        refine wpAny_bind (wpAny_holding (wpAny_mono (q₆ x rfl s₆ I₆.h) (fun itv s₇ ⟨H₇, I₇, S₇, it', e', q₇⟩ => ?_) fun _ _ e => e.elim))
        subst e'
        refine wpAny_bind (wpAny_runOwn (codeAny_mono (q₇ s₇ (I₆.after I₇ S₇)) fun r s₈ ⟨e₈, st₈, I₈, S₈, m, hm, j⟩ => ?_))
        subst e₈
        exact wpAny_pure ⟨rfl, m, hm, st₈, I₈, S₅'.trans (S₆.trans (S₇.step.trans S₈)), j⟩
theorem CsT.start {elt : Expr} {gens : List Comprehension} {scope : Scope} {pos : Pos} {d : Nat} {it acc : Addr} {st : St} {Q : St → Prop} {g : Comprehension} (hs : SelfT w h₀ c.n it st.H) (h : ClT w h₀ c (.ListComp elt gens scope pos) d it acc st Q)
    (hg : gens[d]? = some g := by rfl) (h0 : g.is_async = 0 := by rfl) : CsT w h₀ c (.ListComp elt gens scope pos) d it acc st Q := fun s I => by
  refine codeAny_of_tree ?_
  show wpAny _ (AA c.n) ((compStart (.ListComp elt gens scope pos) d (.ref it) (.ref acc) c.env).onRaise (fun x => do noteFrame x c.env; standAt theWindowsPlace)) _ _ s
  refine wpAny_notedAt ?_
  unfold compStart
  have hc : (clausesOf (.ListComp elt gens scope pos))[d]? = some g := hg
  simp only [hc, Option.elim_some, h0, bne_self_eq_false, Bool.false_eq_true, if_false]
  refine wpAny_bind (wpAny_askSetting (wpAny_ite ?_))
  split
  · first
      | exact wpAny_bind (wpAny_pure (wpAny_pure (And.intro rfl (h s I))))
      | exact wpAny_pure (And.intro rfl (h s I))
  · have fin : wpAny (MM w) (AA c.n) (pyIter (.ref it)) (fun it' s' => codeAny (MM w) (AA c.n) (.compLoop (.ListComp elt gens scope pos) d it' (.ref acc) c.env)
        (fun r s' => r = .ok .next ∧ ∃ st', Inv w h₀ c st' s' ∧ Step c.env.locals st.H s st'.H s' ∧ Q st') s') NoE s :=
      wpAny_mono (hs (fun H => H = st.H) rfl s I.h) (fun v s' ⟨H', I', S', e, eH⟩ => by
        subst e eH
        exact codeAny_mono (h s' (I.after I' S')) fun r s₂ ⟨e, st₂, I₂, S₂, q⟩ => ⟨e, st₂, I₂, S'.step.trans S₂, q⟩) fun _ _ e => e
    first
      | exact wpAny_bind (wpAny_rule (wpAny_bind (wpAny_standAt (wpAny_bind (wpAny_mono fin (fun it' s' h' => wpAny_pure (And.intro rfl h')) fun _ _ x => x.elim)))))
      | (refine wpAny_bind (wpAny_rule ?_)
         refine wpAny_bind (wpAny_standAt ?_)
         exact wpAny_bind (wpAny_mono fin (fun it' s' h' => wpAny_pure (And.intro rfl h')) fun _ _ x => x.elim))
end Mine

namespace Mine
variable {w : World} {h₀ : Heap} {c : Cx} {n : Nat}

noncomputable def cEnv (scope : Scope) (cl : List (Str × Addr)) (C : Addr) (env : Env) : Env :=
  { scope := relabel scope env, locals := C, globals := env.globals, cells := cellsFrom (C + 1) scope.names cl, qual := env.qual, func := none, code := env.code, frame := env.frame, builtins := env.builtins }
theorem wpAny_cenv {H : AH} {s : Shared} (I : InvH w h₀ H s) {scope : Scope} {cl : List (Str × Addr)} {env : Env} {Q : Env → Shared → Prop}
    (hQ : ∀ s', Inv w h₀ ⟨n, cEnv scope cl s.heap.objs.size env⟩ ⟨[], addCells (s.heap.objs.size + 1) scope.names H⟩ s' → StepH H s (addCells (s.heap.objs.size + 1) scope.names H) s' →
      ∀ cenv : Env, { cenv with scope := relabel scope env } = cEnv scope cl s.heap.objs.size env → cenv.locals = s.heap.objs.size → Q cenv s') :
    wpAny (MM w) (AA n) (newFunctionEnv scope env.globals cl [] env.qual none .none (some env)) Q NoE s := by
  simp only [newFunctionEnv, Option.isSome_some, if_true]
  refine wpAny_bind (wpAny_alloc ?_)
  refine wpAny_bind (wpAny_layCells _ (fun name kind cells => by cases hkc : kind == NameKind.cell <;> simp [hkc]) _ _ _ _ ?_)
  have J := I.ext (s' := { s with heap := s.heap.push { cls := .type "dict", data := .dict #[] } }) keep_push size_push' rfl rfl
  have P := pushCells_inv scope.names _ _ J.1
  rw [Heap.size_push] at P
  rw [show ({ s with heap := s.heap.push { cls := .type "dict", data := .dict #[] } } : Shared).heap.objs.size = s.heap.objs.size + 1 from Heap.size_push ..]
  have S := J.2.trans P.2
  have hns : (pushCells (s.heap.push { cls := .type "dict", data := .dict #[] }) scope.names).Ns s.heap.objs.size (fun _ => none) := (Heap.Ns.new s.heap (.type "dict")).keeps (pushCells_keeps _ _)
  have hout : ¬ (addCells (s.heap.objs.size + 1) scope.names H).dom s.heap.objs.size := fun d => by
    rcases P.2.dom _ d with d | d
    · exact I.fresh (Nat.le_refl _) d
    · have : s.heap.objs.size + 1 ≤ s.heap.objs.size := by simpa [Heap.size_push] using d
      omega
  rw [List.forIn_nil]
  refine wpAny_bind (wpAny_pure (wpAny_pure (hQ _ ⟨P.1, ⟨_, hns, fun _ => rfl⟩, hout, I.grown⟩ S _ rfl rfl)))

@[reducible] noncomputable def cCo (c : Cx) (scope : Scope) (cl : List (Str × Addr)) (C : Addr) : Cx := ⟨c.n, cEnv scope cl C c.env⟩
@[reducible] noncomputable def kCo (acc : Addr) (lo : Lo) (Q : Value → St → Prop) : St → Prop := fun st' => Q (.ref acc) ⟨lo, st'.H⟩
@[reducible] noncomputable def kCp (w : World) (h₀ : Heap) (c : Cx) (elt target iter : Expr) (ifs : List Expr) (rest : List Comprehension) (scope : Scope) (pos : Pos) (cl : List (Str × Addr)) (Q : Value → St → Prop) : Value → St → Prop := fun x ⟨lo, H⟩ => ItrT w h₀ c.n x H (fun it H₂ => ∀ acc C, ¬ H₂.dom acc → (∀ b, C ≤ b → ¬ (H₂.setL acc []).dom b) →
  CsT w h₀ (cCo c scope cl C) (.ListComp elt (⟨target, iter, ifs, 0⟩ :: rest) scope pos) 0 it acc ⟨[], addCells (C + 1) scope.names (H₂.setL acc [])⟩ (kCo acc lo Q))
theorem EvT.comp {elt target iter : Expr} {ifs : List Expr} {rest : List Comprehension} {scope : Scope} {pos : Pos} {cl : List (Str × Addr)} {st : St} {Q : Value → St → Prop}
    (h : EvT w h₀ c iter st (kCp w h₀ c elt target iter ifs rest scope pos cl Q))
    (hs : ∀ x, foldedSetIterable iter c.env x = Pure.pure x := by intro _; rfl) (hcl : closureFor scope c.env = Pure.pure cl := by rfl) (hk : scope.kind = .function := by rfl)
    (hn : ∀ x ∈ scope.names, x.2 = .local → scope.names.lookup x.1 = some .local := by decide) : EvT w h₀ c (.ListComp elt (⟨target, iter, ifs, 0⟩ :: rest) scope pos) st Q := fun s I => by
  rw [eval_ListComp]
  refine wpAny_comprehension_free (use := Option.none) rfl hs hcl hk hn ?_
  refine wpAny_mono (h s I) (fun x s₁ ⟨st₁, I₁, S₁, q₁⟩ => ?_) fun _ _ e => e
  refine wpAny_mono (q₁ x rfl s₁ I₁.h) (fun itv s₂ ⟨H₂, I₂, S₂, it, e, q₂⟩ => ?_) fun _ _ e => e
  subst e
  have I₂' := I₁.after I₂ S₂
  refine wpAny_newObj_type ?_ (by size_fits)
  obtain ⟨H₃, I₃, S₃, nd, e₃⟩ := HPost.newL (r := ()) (Q := fun _ H' => ¬ H₂.dom s₂.heap.objs.size ∧ H' = H₂.setL s₂.heap.objs.size []) (x := []) (s' := { s₂ with heap := s₂.heap.push { cls := .type "list", data := .seq ([] : List Value).toArray } }) I₂
    ⟨#[], 0, Heap.get?_push_size _ rfl, rfl⟩ (Nat.le_refl _) keep_push size_push' rfl rfl (fun d => ⟨d, rfl⟩)
  subst e₃
  have I₃' := I₂'.after (st := ⟨st₁.lo, H₂⟩) I₃ S₃
  refine wpAny_cenv (n := c.n) I₃ fun s₄ I₄ S₄ cenv ec el => ?_
  rw [ec]
  have hC : ∀ b, s₂.heap.objs.size + 1 ≤ b → ¬ (H₂.setL s₂.heap.objs.size []).dom b := fun b hb => I₃.fresh (by show (s₂.heap.push _).objs.size ≤ b; rw [Heap.size_push]; exact hb)
  have eC : (({ s₂ with heap := s₂.heap.push { cls := .type "list", data := .seq ([] : List Value).toArray } } : Shared).heap.objs.size) = s₂.heap.objs.size + 1 := Heap.size_push ..
  rw [eC] at I₄ S₄ el ⊢
  refine codeAny_mono (q₂ s₂.heap.objs.size (s₂.heap.objs.size + 1) nd hC s₄ I₄) fun r s₅ ⟨er', st₅, I₅, S₅, q₅⟩ => ?_
  subst er'
  have S14 : StepH st₁.H s₁ (addCells (s₂.heap.objs.size + 1 + 1) scope.names (H₂.setL s₂.heap.objs.size [])) s₄ := S₂.trans (S₃.trans S₄)
  obtain ⟨m, hm, _⟩ := I₅.ns
  have hm' : s₅.heap.Ns (s₂.heap.objs.size + 1) m := hm
  refine ⟨m, by rw [el]; exact hm', fun h' hs' => ?_⟩
  rw [el] at hs'
  have hLlt : c.env.locals < s₁.heap.objs.size := by obtain ⟨m1, h1, _⟩ := I₁.ns; exact h1.lt
  have hsz12 : s₁.heap.objs.size ≤ s₂.heap.objs.size := S₂.size
  have hLC : c.env.locals ≠ s₂.heap.objs.size + 1 := Nat.ne_of_lt (Nat.lt_of_lt_of_le hLlt (Nat.le_trans hsz12 (Nat.le_succ _)))
  have hC₀ : h₀.objs.size ≤ s₂.heap.objs.size + 1 := I₄.hi
  have I₆ : InvH w h₀ st₅.H { s₅ with heap := h' } := I₅.h.other hs' I₅.out hC₀ hm'.lt (ns_notCode hm') rfl rfl
  have S₆ : StepH st₁.H s₁ st₅.H { s₅ with heap := h' } := by
    refine ⟨fun b o e hb ht => ?_, fun b d => ?_, ?_, ?_⟩
    · have hbl : b < s₁.heap.objs.size := Heap.lt_size e
      have hbC : b ≠ s₂.heap.objs.size + 1 := Nat.ne_of_lt (Nat.lt_of_lt_of_le hbl (Nat.le_trans hsz12 (Nat.le_succ _)))
      have e4 := S14.keep b o e hb ht
      have nd4 : ¬ (addCells (s₂.heap.objs.size + 1 + 1) scope.names (H₂.setL s₂.heap.objs.size [])).dom b := fun d => (S14.dom b d).elim hb fun z => Nat.not_lt.mpr z hbl
      exact (hs'.2 b hbC).trans (S₅.keep b o e4 nd4 hbC ht)
    · rcases S₅.dom b d with d | d
      · exact S14.dom b d
      · exact .inr (Nat.le_trans S14.size d)
    · rw [show ({ s₅ with heap := h' } : Shared).heap = h' from rfl, hs'.1]; exact Nat.le_trans S14.size S₅.size
    · exact S₅.os.trans S14.os
  exact ⟨⟨st₁.lo, st₅.H⟩, I₁.after I₆ S₆, S₁.trans S₆.step, q₅⟩
end Mine

namespace Mine
variable {w : World} {h₀ : Heap} {c : Cx} {n : Nat}

@[reducible] noncomputable def kCs (w : World) (h₀ : Heap) (c : Cx) (t : Str) (acc : Addr) (lo : Lo) (Q : Flow → St → Prop) : St → Prop := fun st' => StoreT w h₀ c t (.ref acc) ⟨lo, st'.H⟩ (kNx Q)
@[reducible] noncomputable def kCq (w : World) (h₀ : Heap) (c : Cx) (t : Str) (elt target iter : Expr) (ifs : List Expr) (rest : List Comprehension) (scope : Scope) (pos : Pos) (cl : List (Str × Addr)) (Q : Flow → St → Prop) : Value → St → Prop := fun x ⟨lo, H⟩ => ItrT w h₀ c.n x H (fun it H₂ => ∀ acc C, ¬ H₂.dom acc → (∀ b, C ≤ b → ¬ (H₂.setL acc []).dom b) →
  CsT w h₀ (cCo c scope cl C) (.ListComp elt (⟨target, iter, ifs, 0⟩ :: rest) scope pos) 0 it acc ⟨[], addCells (C + 1) scope.names (H₂.setL acc [])⟩ (kCs w h₀ c t acc lo Q))
theorem ExT.assignComp {t : Str} {tp p : Pos} {elt target iter : Expr} {ifs : List Expr} {rest : List Comprehension} {scope : Scope} {pos : Pos} {cl : List (Str × Addr)} {st : St} {Q : Flow → St → Prop}
    (h : EvT w h₀ c iter st (kCq w h₀ c t elt target iter ifs rest scope pos cl Q))
    (hsw : swapsWith (.ListComp elt (⟨target, iter, ifs, 0⟩ :: rest) scope pos) (some (.Name t tp)) p.line c.env = Pure.pure true := by rfl)
    (hs : ∀ x, foldedSetIterable iter c.env x = Pure.pure x := by intro _; rfl) (hcl : closureFor scope c.env = Pure.pure cl := by rfl) (hk : scope.kind = .function := by rfl)
    (hn : ∀ x ∈ scope.names, x.2 = .local → scope.names.lookup x.1 = some .local := by decide) : ExT w h₀ c (.Assign [.Name t tp] (.ListComp elt (⟨target, iter, ifs, 0⟩ :: rest) scope pos) p) st Q := fun s I => by
  rw [exec_Assign_Name_used _ _ _ _ hsw]
  refine wpAny_bind (wpAny_standAt (wpAny_bind ?_))
  unfold evalThenUse
  refine wpAny_bind ?_
  refine wpAny_comprehension_free (use := some _) rfl hs hcl hk hn ?_
  refine wpAny_mono (h s I) (fun x s₁ ⟨st₁, I₁, S₁, q₁⟩ => ?_) fun _ _ e => e
  refine wpAny_mono (q₁ x rfl s₁ I₁.h) (fun itv s₂ ⟨H₂, I₂, S₂, it, e, q₂⟩ => ?_) fun _ _ e => e
  subst e
  have I₂' := I₁.after I₂ S₂
  refine wpAny_newObj_type ?_ (by size_fits)
  obtain ⟨H₃, I₃, S₃, nd, e₃⟩ := HPost.newL (r := ()) (Q := fun _ H' => ¬ H₂.dom s₂.heap.objs.size ∧ H' = H₂.setL s₂.heap.objs.size []) (x := []) (s' := { s₂ with heap := s₂.heap.push { cls := .type "list", data := .seq ([] : List Value).toArray } }) I₂
    ⟨#[], 0, Heap.get?_push_size _ rfl, rfl⟩ (Nat.le_refl _) keep_push size_push' rfl rfl (fun d => ⟨d, rfl⟩)
  subst e₃
  have I₃' := I₂'.after (st := ⟨st₁.lo, H₂⟩) I₃ S₃
  refine wpAny_cenv (n := c.n) I₃ fun s₄ I₄ S₄ cenv ec el => ?_
  rw [ec]
  have hC : ∀ b, s₂.heap.objs.size + 1 ≤ b → ¬ (H₂.setL s₂.heap.objs.size []).dom b := fun b hb => I₃.fresh (by show (s₂.heap.push _).objs.size ≤ b; rw [Heap.size_push]; exact hb)
  have eC : (({ s₂ with heap := s₂.heap.push { cls := .type "list", data := .seq ([] : List Value).toArray } } : Shared).heap.objs.size) = s₂.heap.objs.size + 1 := Heap.size_push ..
  rw [eC] at I₄ S₄ el ⊢
  refine codeAny_mono (q₂ s₂.heap.objs.size (s₂.heap.objs.size + 1) nd hC s₄ I₄) fun r s₅ ⟨er', st₅, I₅, S₅, q₅⟩ => ?_
  subst er'
  have S14 : StepH st₁.H s₁ (addCells (s₂.heap.objs.size + 1 + 1) scope.names (H₂.setL s₂.heap.objs.size [])) s₄ := S₂.trans (S₃.trans S₄)
  obtain ⟨m, hm, _⟩ := I₅.ns
  have hm' : s₅.heap.Ns (s₂.heap.objs.size + 1) m := hm
  have hLlt : c.env.locals < s₁.heap.objs.size := by obtain ⟨m1, h1, _⟩ := I₁.ns; exact h1.lt
  have hsz12 : s₁.heap.objs.size ≤ s₂.heap.objs.size := S₂.size
  have hLC : c.env.locals ≠ s₂.heap.objs.size + 1 := Nat.ne_of_lt (Nat.lt_of_lt_of_le hLlt (Nat.le_trans hsz12 (Nat.le_succ _)))
  have hC₀ : h₀.objs.size ≤ s₂.heap.objs.size + 1 := I₄.hi
  have S15 : StepH st₁.H s₁ st₅.H s₅ := by
    refine ⟨fun b o e hb ht => ?_, fun b d => ?_, Nat.le_trans S14.size S₅.size, S₅.os.trans S14.os⟩
    · have hbl : b < s₁.heap.objs.size := Heap.lt_size e
      have hbC : b ≠ s₂.heap.objs.size + 1 := Nat.ne_of_lt (Nat.lt_of_lt_of_le hbl (Nat.le_trans hsz12 (Nat.le_succ _)))
      have nd4 : ¬ (addCells (s₂.heap.objs.size + 1 + 1) scope.names (H₂.setL s₂.heap.objs.size [])).dom b := fun d => (S14.dom b d).elim hb fun z => Nat.not_lt.mpr z hbl
      exact S₅.keep b o (S14.keep b o e hb ht) nd4 hbC ht
    · rcases S₅.dom b d with d | d
      · exact S14.dom b d
      · exact .inr (Nat.le_trans S14.size d)
  have I5o : Inv w h₀ c ⟨st₁.lo, st₅.H⟩ s₅ := I₁.after I₅.h S15
  show wpAny _ _ (assign (.Name t tp) c.env (.ref s₂.heap.objs.size)) _ _ s₅
  refine wpAny_mono (AsT.name q₅ (.ref s₂.heap.objs.size) rfl s₅ I5o) (fun _ s₆ ⟨st₆, I₆, S₆, q₆⟩ => ?_) fun _ _ e => e
  have hCA : s₂.heap.objs.size + 1 ∉ tabA := fun z => by
    have z2 := (by decide : ∀ b ∈ tabA, b < 175) _ z
    exact Nat.lt_irrefl _ (Nat.lt_of_lt_of_le z2 (Nat.le_trans I₆.h.big hC₀))
  have hm6 : s₆.heap.Ns (s₂.heap.objs.size + 1) m := by
    obtain ⟨o, es, ep, e, r⟩ := hm'
    exact ⟨o, es, ep, S₆.keep _ _ e I₅.out (Ne.symm hLC) hCA, r⟩
  have out6 : ¬ st₆.H.dom (s₂.heap.objs.size + 1) := fun d => by
    rcases S₆.dom _ d with d | d
    · exact I₅.out d
    · exact Nat.not_lt.mpr d hm'.lt
  refine ⟨m, by rw [el]; exact hm6, fun h' hs' => ?_⟩
  rw [el] at hs'
  have I₇ : InvH w h₀ st₆.H { s₆ with heap := h' } := I₆.h.other hs' out6 hC₀ hm6.lt (ns_notCode hm6) rfl rfl
  obtain ⟨m6, ⟨o6, es6, ep6, e6, r6⟩, q6⟩ := I₆.ns
  refine wpAny_pure (wpAny_pure ⟨st₆, ⟨I₇, ⟨m6, ⟨o6, es6, ep6, (hs'.2 _ hLC).trans e6, r6⟩, q6⟩, I₆.out, I₆.hi⟩, ?_, q₆⟩)
  refine ⟨fun b o e hb hl ht => ?_, fun b d => ?_, ?_, ?_⟩
  · have e1 := S₁.keep b o e hb hl ht
    have nd1 : ¬ st₁.H.dom b := fun d => (S₁.dom b d).elim hb fun z => Nat.not_lt.mpr z (Heap.lt_size e)
    have e5 := S15.keep b o e1 nd1 ht
    have nd5 : ¬ st₅.H.dom b := fun d => (S15.dom b d).elim nd1 fun z => Nat.not_lt.mpr z (Heap.lt_size e1)
    have hbl : b < s₁.heap.objs.size := Heap.lt_size e1
    exact (hs'.2 b (Nat.ne_of_lt (Nat.lt_of_lt_of_le hbl (Nat.le_trans hsz12 (Nat.le_succ _))))).trans (S₆.keep b o e5 nd5 hl ht)
  · rcases S₆.dom b d with d | d
    · rcases S15.dom b d with d | d
      · exact S₁.dom b d
      · exact .inr (Nat.le_trans S₁.size d)
    · exact .inr (Nat.le_trans S₁.size (Nat.le_trans S15.size d))
  · rw [show ({ s₆ with heap := h' } : Shared).heap = h' from rfl, hs'.1]; exact Nat.le_trans S₁.size (Nat.le_trans S15.size S₆.size)
  · exact S₆.os.trans (S15.os.trans S₁.os)
end Mine

namespace Mine
variable {w : World} {h₀ : Heap} {c : Cx} {n : Nat}

theorem owner_ci : Manifest.owners.lookup (String.ofList ['r', 'o', 't', 'a', 'r', 'e', 't', 'i', '_', 'e', 'l', 'b', 'a', 'l', 'l', 'a', 'c'].reverse) = some Manifest.sig_callable_iterator := by kernel_rfl
theorem slot_ci_next : Slot "callable_iterator" "__next__" "callable_iterator.__next__" :=
  .of (owner := "callable_iterator") (n := "__next__") (by rw [typeLookup_type, builtinLookup_eq_fast]; kernel_rfl) (by decide +kernel) (by decide +kernel) (by decide +kernel)
    (by first | exact .inl (by decide +kernel) | exact .inr (by decide +kernel)) (by rw [isSubtype_type]; kernel_rfl)
theorem entry_ci_next : entryFor table "callable_iterator.__next__" = some Builtin.«callable_iterator.__next__» := entryFor_of_tree (by kernel_rfl)
theorem args_ci_next (a : Value) : argsOk "callable_iterator.__next__" ⟨[a], []⟩ := by
  unfold argsOk; rw [signature?_of (id := "callable_iterator.__next__") (n := ['_', '_', 't', 'x', 'e', 'n', '_', '_']) (o := ['r', 'o', 't', 'a', 'r', 'e', 't', 'i', '_', 'e', 'l', 'b', 'a', 'l', 'l', 'a', 'c']) (by kernel_rfl) owner_ci]; kernel_rfl
theorem slot_ci_iter : Slot "callable_iterator" "__iter__" "callable_iterator.__iter__" :=
  .of (owner := "callable_iterator") (n := "__iter__") (by rw [typeLookup_type, builtinLookup_eq_fast]; kernel_rfl) (by decide +kernel) (by decide +kernel) (by decide +kernel)
    (by first | exact .inl (by decide +kernel) | exact .inr (by decide +kernel)) (by rw [isSubtype_type]; kernel_rfl)
theorem args_ci_iter (a : Value) : argsOk "callable_iterator.__iter__" ⟨[a], []⟩ := by
  unfold argsOk; rw [signature?_of (id := "callable_iterator.__iter__") (n := ['_', '_', 'r', 'e', 't', 'i', '_', '_']) (o := ['r', 'o', 't', 'a', 'r', 'e', 't', 'i', '_', 'e', 'l', 'b', 'a', 'l', 'l', 'a', 'c']) (by kernel_rfl) owner_ci]; kernel_rfl
theorem entry_ci_iter : entryFor table "callable_iterator.__iter__" = some Builtin.«dict_keyiterator.__iter__» :=
  entryFor_alias (id' := "dict_keyiterator.__iter__") (by kernel_rfl) (by first | rfl | decide +kernel | (unfold String.splitOn; simp +decide [String.splitOnAux])) (by decide +kernel) (by kernel_rfl)
theorem kind_iter : builtinKind "iter" = none := by decide +kernel
theorem plain_iter : plainId "iter" = true := by decide +kernel
theorem entry_iter : entryFor table "iter" = some Builtin.«iter» := entryFor_of_tree (by kernel_rfl)
theorem args_iter2 (a b : Value) : argsOk "iter" ⟨[a, b], []⟩ := by unfold argsOk; kernel_rfl
theorem meth_call : typeLookup (.type "method") "__call__" = pure (some (.builtin "method.__call__")) := by rw [typeLookup_type, builtinLookup_eq_fast]; kernel_rfl

/-- a method of a lexer, bound -/
theorem GatT.bound {H : AH} {x d f : Addr} {kv : List (Str × Value)} {name : Str} {Q : Value → AH → Prop} (ex : H.xs x = some d) (ed : H.ds d = some kv) (ev : kv.lookup name = none) (hf : findIn (K0 w.params) (.ref 52) name = some (some (.ref f)))
    (ht : typeIn (K0 w.params) (.ref f) = some (.type "function")) (hg : specialIn (K0 w.params) (.ref f) "__get__" = some (some (.builtin "function.__get__"))) (hk : takesIn (K0 w.params) (.ref f) = some false) (hc : copiedNames.contains name = false)
    (h : ∀ m, ¬ H.dom m → Q (.ref m) (H.setI m (.meth f x))) : GatT w h₀ n (.ref x) name H Q := fun o' e eo s I => by
  rw [er_ref eo]
  obtain ⟨es, k, g, hkk, hm, hn⟩ := I.dict ed
  rw [← hm] at ev
  have gn := getL_none hkk ev
  have hfo : findObj (K0 w.params) 52 (some (dictOf es k)) name = some (.bind (.builtin "function.__get__") (.ref f)) := by
    obtain ⟨cd, hcd, hdd⟩ := any_some (hdi52 w.params)
    unfold findObj
    have ho : W.ownOf cd (some (dictOf es k)) name = some none := by unfold W.ownOf; rw [if_pos hdd]; exact gn
    rw [hcd, Option.bind_some, hf, Option.bind_some]
    simp only [hg, hk, Option.bind_some, ho, hc, Bool.false_and, Bool.false_eq_true, if_false]
  refine get_bind (K := K0 w.params) I.base (instAt (kv := kv) I ex g) (hga52 _) hfo (hgt52 _) (wpAny_call (fn_get (K := K0 w.params) (s := { s with toks := s.toks + 1 }) I.base ht ?_))
  show wpAny _ _ (handedOut (.ref s.heap.objs.size)) _ _ _
  rw [handedOut_of rfl]
  exact wpAny_pure (HPost.newI (x := .meth f x) I ⟨_, Heap.get?_push_size _ rfl, rfl⟩ (Nat.le_refl _) keep_push size_push' rfl rfl (h _))

theorem CalT.iter2 {H : AH} {m f x : Addr} {sv : Value} {Q : Value → AH → Prop} (em : H.is m = some (.meth f x)) (h : ∀ it, ¬ H.dom it → Q (.ref it) (H.setI it (.call (.ref m) sv))) : CalT w h₀ n (.builtin "iter") [.ref m, sv] [] H Q := fun f' a' k' e1 e2 e3 s I => by
  rw [er_builtin e1, kw0 e3]
  obtain ⟨a, b, rfl, ea, eb⟩ := map2 e2
  rw [er_ref ea]
  obtain ⟨o, g, r⟩ := I.is m _ em
  rw [show o = _ from r] at g
  refine Calls.call_function_entry kind_iter plain_iter entry_iter (args_iter2 _ _) ?_
  unfold Builtin.«iter»
  refine wpAny_bind (wpAny_of_eq (a := [Value.ref m, b]) rfl ?_)
  refine wpAny_bind (wpAny_specialOf (s := s) (T := "method") ⟨_, g, rfl⟩ meth_call ?_)
  rw [if_neg (by decide)]
  refine wpAny_bind (wpAny_rule (wpAny_bind (wpAny_newObj_type (wpAny_pure ⟨_, rfl, ?_⟩) (by size_fits))))
  exact HPost.newI (x := .call (.ref m) sv) I ⟨_, Heap.get?_push_size _ rfl, _, _, _, rfl, rfl, eb⟩ (Nat.le_refl _) keep_push size_push' rfl rfl (h _)

theorem ItrT.call {H : AH} {it : Addr} {x : ItA} {Q : Addr → AH → Prop} (e : H.is it = some x) (hx : x = .done ∨ ∃ f t, x = .call f t) (h : Q it H) : ItrT w h₀ n (.ref it) H Q := fun x' ex s I => by
  rw [er_ref ex]
  obtain ⟨o, g, r⟩ := I.is it _ e
  have hT : s.TypeIs (.ref it) "callable_iterator" := by
    rcases hx with rfl | ⟨f, t, rfl⟩
    · obtain ⟨sl, rfl⟩ := r; exact ⟨_, g, rfl⟩
    · obtain ⟨_, _, sl, rfl, _⟩ := r; exact ⟨_, g, rfl⟩
  refine wpAny_pyIter_slot hT slot_ci_iter (wpAny_call_entry slot_ci_iter hT entry_ci_iter ?_ (args_ci_iter _))
  show wpAny _ _ (ret (.ref it)) _ _ s
  exact wpAny_pure ⟨_, rfl, "callable_iterator", _, hT, slot_ci_next.lookup, H, I, .refl, _, rfl, h⟩

theorem wpAny_callBorrowed {M : Model} {A : Around} {f : Value} {pos : List Value} {Q : Value → Shared → Prop} {E : Value → Shared → Prop} {s : Shared}
    (hc : codeAny M A (.call f ⟨pos, []⟩) (fun r s' => match r with | .ok (.ret v) => Q v s' | .ok _ => False | .error e => E e s') s) : wpAny M A (callBorrowed f pos) Q E s := fun Γ p hΓ => by
  unfold callBorrowed
  rw [Sem.wp_call]
  refine codeAny_mono hc (fun r s' h => ?_) _ p rfl (hΓ.enter _ none p (by intro x; cases x))
  cases r with
  | error e => exact h
  | ok f => cases f <;> first | exact h | exact h.elim

theorem fnIn_obj {P : Params} {s : Shared} (X : (K0 P).In s.heap) {f : Addr} (hf : fnIn (K0 P) f = true) : ∃ oc od fd sl, s.heap.get? f = some ⟨oc, od, .func fd, sl⟩ := by
  unfold fnIn at hf
  split at hf
  · rename_i e; exact ⟨_, _, _, _, X _ _ e⟩
  · cases hf
theorem borrows {M : Model} {A : Around} {E : Value → Shared → Prop} {s : Shared} {m f x : Addr} {Q : Bool → Shared → Prop} (gm : s.heap.get? m = some { cls := .type "method", data := .fields #[.ref f, .ref x] }) (gf : ∃ oc od fd sl, s.heap.get? f = some ⟨oc, od, .func fd, sl⟩) (h : Q true s) :
    wpAny M A (borrowsExactly (.ref m)) Q E s := by
  obtain ⟨oc, od, fd, sl, gf⟩ := gf
  unfold borrowsExactly
  refine wpAny_bind (wpAny_load gm ?_)
  show wpAny _ _ (do match (← load f).data with | .func _ => pure true | _ => pure false) _ _ _
  exact wpAny_bind (wpAny_load gf (wpAny_pure h))

theorem stop_end {α : Type} {A B : Around} {Q : Option Value → Shared → Prop} {P : α → Shared → Prop} {s : Shared} (hh : A.handled = none) (hQ : ∀ h', (∀ b o, s.heap.get? b = some o → h'.get? b = some o) → s.heap.objs.size ≤ h'.objs.size → Q none { s with heap := h' }) :
    wpAny (MM w) A (Builtin.SmallTypes.stopIteration : Sem α) P (fun e s' => wpAny (MM w) B (do if ← isInstance e (.type "StopIteration") then pure none else throw e) Q NoE s') s := by
  show wpAny _ _ (newExc (.type "StopIteration") [] >>= _) _ _ _
  refine wpAny_bind ?_
  simp only [newExc, newTuple]
  refine wpAny_bind (wpAny_newObj_type ?_ (by size_fits))
  refine wpAny_bind (m := firstArgMember _ _) (wpAny_of_eq (a := Value.none) (by first | rfl | (simp only [firstArgMember]; rfl)) ?_)
  refine wpAny_newObj_type ?_ (by size_fits)
  simp only [raiseNew]
  refine wpAny_bind (wpAny_handled ?_)
  rw [hh]
  refine wpAny_bind (wpAny_pure (wpAny_throw ?_))
  refine wpAny_bind (wpAny_isInstance (T := "StopIteration") (b := true) ⟨_, Heap.get?_push_size _ rfl, rfl⟩ isSubtype_stop ?_)
  exact wpAny_pure (hQ _ (fun b o e => Heap.get?_push_of_some _ (Heap.get?_push_of_some _ e)) (by rw [Heap.size_push, Heap.size_push]; omega))

theorem NxT.done {H : AH} {it : Addr} {R : Option Value → AH → Prop} (ei : H.is it = some .done) (h : R none H) : NxT w h₀ n it H R := fun s I => by
  obtain ⟨o, g, sl, rfl⟩ := I.is it _ ei
  have hT : s.TypeIs (.ref it) "callable_iterator" := ⟨_, g, rfl⟩
  refine wpAny_size ?_
  unfold pyNext
  refine wpAny_bind (wpAny_attempt (wpAny_callSpecial?_slot (name := Str.ofString "__next__") hT slot_ci_next (wpAny_call_entry slot_ci_next hT entry_ci_next ?_ (args_ci_next _))))
  unfold Builtin.«callable_iterator.__next__»
  refine wpAny_bind (wpAny_of_eq (a := (Value.ref it, [])) rfl ?_)
  refine wpAny_bind (wpAny_field g rfl (x := .bool true) rfl ?_)
  rw [if_pos (by decide)]
  refine wpAny_bind (wpAny_rule ?_)
  refine wpAny_bind (wpAny_mono (Q := fun _ _ => False) (stop_end (B := AA n) (Q := fun a s' => s.heap.objs.size ≤ s'.heap.objs.size → HPost w h₀ H s (fun r => R (r.map er)) a s') rfl fun h' hx hsz _ => HPost.grew I hx hsz rfl rfl h) (fun _ _ z => z.elim) fun _ _ e => e)

theorem NxT.call {H : AH} {it m f x : Addr} {sen : Str} {R : Option Value → AH → Prop} (ei : H.is it = some (.call (.ref m) (.str sen 0))) (em : H.is m = some (.meth f x)) (hf : fnIn (K0 w.params) f = true)
    (h : CallT w h₀ (n + 1) (.ref f) [.ref x] [] H (fun r H' => ∃ ch, r = .str ch 0 ∧ H'.is it = some (.call (.ref m) (.str sen 0)) ∧ H'.is m = some (.meth f x) ∧ if sen == ch then R none (H'.setI it .done) else R (some (.str ch 0)) H')) : NxT w h₀ n it H R := fun s I => by
  obtain ⟨o, g, f', t', sl, rfl, ef, et⟩ := I.is it _ ei
  have ef2 := er_ref ef
  subst ef2
  obtain ⟨tt, rfl⟩ := er_str et
  obtain ⟨om, gm, rm⟩ := I.is m _ em
  rw [show om = _ from rm] at gm
  have hT : s.TypeIs (.ref it) "callable_iterator" := ⟨_, g, rfl⟩
  refine wpAny_size ?_
  unfold pyNext
  refine wpAny_bind (wpAny_attempt (wpAny_callSpecial?_slot (name := Str.ofString "__next__") hT slot_ci_next (wpAny_call_entry slot_ci_next hT entry_ci_next ?_ (args_ci_next _))))
  unfold Builtin.«callable_iterator.__next__»
  refine wpAny_bind (wpAny_of_eq (a := (Value.ref it, [])) rfl ?_)
  refine wpAny_bind (wpAny_field g rfl (x := .bool false) rfl ?_)
  rw [if_neg (by decide)]
  refine wpAny_bind (wpAny_field g rfl (x := .ref m) rfl ?_)
  refine wpAny_bind (wpAny_attempt ?_)
  unfold callOutOfASlot
  refine wpAny_bind (borrows gm (fnIn_obj I.base hf) ?_)
  rw [if_pos rfl]
  refine wpAny_callBorrowed (method_call gm (codeAny_le (ale_in1 n) (codeAny_mono (h (.ref f) [.ref x] [] rfl rfl rfl s I) fun r s₁ hr => ?_)))
  obtain ⟨v, rfl, H₁, I₁, S₁, ch, ev, ei₁, em₁, q⟩ := hr
  obtain ⟨tc, rfl⟩ := er_str ev
  obtain ⟨o₁, g₁, f₁, t₁, sl₁, rfl, ef₁, et₁⟩ := I₁.is it _ ei₁
  have ef₁' := er_ref ef₁
  subst ef₁'
  obtain ⟨tt₁, rfl⟩ := er_str et₁
  obtain ⟨om₁, gm₁, rm₁⟩ := I₁.is m _ em₁
  rw [show om₁ = _ from rm₁] at gm₁
  dsimp only
  refine wpAny_bind (wpAny_field g₁ rfl (x := .bool false) rfl ?_)
  rw [if_neg (by decide)]
  refine wpAny_bind (wpAny_field g₁ rfl (x := .str sen tt₁) rfl (wpAny_bind (wpAny_holding (eqBool_str ?_))))
  cases hc : (sen == ch) with
  | false =>
    rw [hc] at q
    rw [if_pos (by decide)]
    exact wpAny_pure ⟨_, rfl, wpAny_pure fun _ => ⟨H₁, I₁, S₁, q⟩⟩
  | true =>
    rw [hc] at q
    rw [if_neg (by decide)]
    refine wpAny_bind (wpAny_rule ?_)
    show wpAny _ _ ((do
      slotLetsGo "callable_iterator.__next__" (← field (.ref it) 0) (fun | .builtin "callable_iterator.__next__" x => x.pos.head? == some (.ref it) | _ => false)
      setField (.ref it) 0 .none; setField (.ref it) 1 .none; setField (.ref it) 2 (.bool true) : Sem Unit) >>= fun _ => Builtin.SmallTypes.stopIteration) _ _ s₁
    refine wpAny_bind (wpAny_bind (wpAny_field g₁ rfl (x := .ref m) rfl (wpAny_bind ?_)))
    have lets : ∀ {Q : Unit → Shared → Prop} {E : Value → Shared → Prop}, Q () s₁ → wpAny (MM w) (AA n).in1 (slotLetsGo "callable_iterator.__next__" (.ref m) (fun | .builtin "callable_iterator.__next__" x => x.pos.head? == some (.ref it) | _ => false)) Q E s₁ := fun hq => by
      unfold slotLetsGo
      refine wpAny_bind (borrows gm₁ (fnIn_obj I₁.base hf) ?_)
      rw [if_pos rfl]
      exact wpAny_pure hq
    refine lets ?_
    refine wpAny_bind (wpAny_setField g₁ rfl (by simp) ?_)
    have g2 := Heap.get?_update_self (Obj.mapFields (·.setIfInBounds 0 .none)) g₁ rfl
    refine wpAny_bind (wpAny_setField g2 rfl (by simp) ?_)
    have g3 := Heap.get?_update_self (Obj.mapFields (·.setIfInBounds 1 .none)) g2 rfl
    refine wpAny_setField g3 rfl (by simp) ?_
    have g4 := Heap.get?_update_self (Obj.mapFields (·.setIfInBounds 2 (.bool true))) g3 rfl
    have sb : Heap.SameBut it s₁.heap (((s₁.heap.update it (Obj.mapFields (·.setIfInBounds 0 .none))).update it (Obj.mapFields (·.setIfInBounds 1 .none))).update it (Obj.mapFields (·.setIfInBounds 2 (.bool true)))) :=
      (Heap.SameBut.update ..).trans ((Heap.SameBut.update ..).trans (Heap.SameBut.update ..))
    have U := I₁.updI (s' := { s₁ with heap := ((s₁.heap.update it (Obj.mapFields (·.setIfInBounds 0 .none))).update it (Obj.mapFields (·.setIfInBounds 1 .none))).update it (Obj.mapFields (·.setIfInBounds 2 (.bool true))) }) (x := .done) ei₁ sb ⟨_, g4, sl₁, rfl⟩ rfl rfl
    refine wpAny_mono (Q := fun _ _ => False) (stop_end (B := AA n) (Q := fun a s' => s.heap.objs.size ≤ s'.heap.objs.size → HPost w h₀ H s (fun r => R (r.map er)) a s') rfl fun h' hx hsz _ => ?_) (fun _ _ z => z.elim) fun _ _ e => e
    exact HPost.step (S₁.trans U.2) (HPost.grew U.1 hx hsz rfl rfl q)
end Mine

namespace Mine
variable {w : World} {h₀ : Heap} {c : Cx} {n : Nat}

/-- an iterator that gives val 0 .. val (m - 1) while K holds of the heap -/
structure Src (w : World) (h₀ : Heap) (n : Nat) (it : Addr) (K : Nat → AH → Prop) (m : Nat) (S : Nat → ItA) (val : Nat → Value) : Prop where
  next : ∀ i H (R : Option Value → AH → Prop), i < m → K i H → H.is it = some (S i) → R (some (val i)) (H.setI it (S (i + 1))) → NxT w h₀ n it H R
  done : ∀ H (R : Option Value → AH → Prop), K m H → H.is it = some (S m) → R none (H.delI it) → NxT w h₀ n it H R
  self : ∀ H, H.is it = some (S 0) → SelfT w h₀ n it H
noncomputable def rgS (x0 stp : Int) (m i : Nat) : ItA := .range (x0 + i * stp) ((m : Int) - i) stp
theorem Src.range {it : Addr} {K : Nat → AH → Prop} {m : Nat} (x0 stp : Int) : Src w h₀ n it K m (rgS x0 stp m) (fun i => .int (x0 + i * stp) 0) where
  next := fun i H R hi _ e h => NxT.range e (by omega) (by
    have e1 : x0 + (i : Int) * stp + stp = x0 + ((i + 1 : Nat) : Int) * stp := by rw [Int.natCast_add, Int.add_mul, Int.add_assoc]; simp
    have e2 : (m : Int) - i - 1 = (m : Int) - ((i + 1 : Nat) : Int) := by omega
    rw [e1, e2]; exact h)
  done := fun H R _ e h => NxT.rangeEnd e (by omega) h
  self := fun H e => SelfT.range e
theorem Src.list {it l : Addr} {K : Nat → AH → Prop} {xs : List Value} (hk : ∀ i H, K i H → H.ls l = some xs) : Src w h₀ n it K xs.length (fun i => .list l i) (fun i => xs[i]?.getD .none) where
  next := fun i H R hi k e h => NxT.list e (hk i H k) (List.getElem?_eq_getElem hi) (by rw [List.getElem?_eq_getElem hi] at h; exact h)
  done := fun H R k e h => NxT.listEnd e (hk _ H k) (List.getElem?_eq_none (Nat.le_refl _)) h
  self := fun H e => SelfT.list e
theorem Src.str {it : Addr} {K : Nat → AH → Prop} (l : List Nat) : Src w h₀ n it K l.length (fun i => .str ⟨l.toArray⟩ i) (fun i => .str ⟨#[l[i]?.getD 0]⟩ 0) where
  next := fun i H R hi k e h => NxT.str (cp := l[i]) e (by simp [hi]) (by rw [List.getElem?_eq_getElem hi] at h; exact h)
  done := fun H R k e h => NxT.strEnd e (by simp) h
  self := fun H e => SelfT.str e

@[reducible] noncomputable def kEm (w : World) (h₀ : Heap) (c : Cx) (acc : Addr) (N : St → Prop) : Value → St → Prop := fun y ⟨lo, H⟩ => CalT w h₀ c.n (.builtin "list.append") [.ref acc, y] [] H (fun _ H => N ⟨lo, H⟩)
theorem EmitT.last {elt : Expr} {gens : List Comprehension} {scope : Scope} {pos : Pos} {d : Nat} {acc : Addr} {st : St} {N : St → Prop} (h : EvT w h₀ c elt st (kEm w h₀ c acc N))
    (hl : gens[d + 1]? = Option.none := by rfl) : EmitT w h₀ c (.ListComp elt gens scope pos) d acc st N := by
  unfold EmitT
  rw [show (gensOf (.ListComp elt gens scope pos))[d + 1]? = Option.none from hl]
  exact h
theorem EmitT.next {elt : Expr} {gens : List Comprehension} {g : Comprehension} {scope : Scope} {pos : Pos} {d : Nat} {acc : Addr} {st : St} {N : St → Prop} (h : EvT w h₀ c g.iter st (fun x st₁ => ItrT w h₀ c.n x st₁.H (fun it H => CsT w h₀ c (.ListComp elt gens scope pos) (d + 1) it acc ⟨st₁.lo, H⟩ N)))
    (hl : gens[d + 1]? = some g := by rfl) : EmitT w h₀ c (.ListComp elt gens scope pos) d acc st N := by
  unfold EmitT
  rw [show (gensOf (.ListComp elt gens scope pos))[d + 1]? = some g from hl]
  exact h
theorem ifT' {b : Bool} {A B : Prop} (e : b = true) (h : A) : if b then A else B := by subst e; exact h
/-- a comprehension of one clause, without tests -/
theorem cs_src {it acc : Addr} {K : Nat → AH → Prop} {m : Nat} {S : Nat → ItA} {val : Nat → Value} (f : Nat → Value) {elt t iter : Expr} {scope : Scope} {pos : Pos} {st₀ : St} {P : St → Prop} (src : Src w h₀ c.n it K m S val) (hm : m ≤ 1000)
    (k₀ : K 0 st₀.H) (hit : st₀.H.is it = some (S 0)) (hacc : st₀.H.ls acc = some [])
    (kI : ∀ i H x, K i H → K i (H.setI it x)) (kL : ∀ i H x, K i H → K i (H.setL acc x)) (kD : ∀ i H, K i H → K i (H.delI it))
    (step : ∀ i lo H, i < m → K i H → H.ls acc = some ((List.range i).map f) → H.is it = some (S (i + 1)) → ∀ N : Value → St → Prop, (∀ {y st₂}, y = f i ∧ K (i + 1) st₂.H ∧ st₂.H.ls acc = some ((List.range i).map f) ∧ st₂.H.is it = some (S (i + 1)) → N y st₂) →
      AsT w h₀ c t (val i) ⟨lo, H⟩ (fun st₁ => EvT w h₀ c elt st₁ N))
    (fin : ∀ st', K m st'.H → st'.H.ls acc = some ((List.range m).map f) → P st')
    (ht : ∀ it v, letOwnedTupleGo t it v = pure () := by intro _ _; rfl) : CsT w h₀ c (.ListComp elt [⟨t, iter, [], 0⟩] scope pos) 0 it acc st₀ P := by
  refine CsT.start (src.self _ hit) ?_
  refine ClT.rule (fun k st' => ∃ i, i ≤ m ∧ k = m - i ∧ K i st'.H ∧ st'.H.is it = some (S i) ∧ st'.H.ls acc = some ((List.range i).map f)) m ⟨0, Nat.zero_le _, rfl, k₀, hit, hacc⟩ ?_ (ht := ht)
  rintro k st' ⟨i, hi, rfl, ki, ei, ea⟩ N hN
  by_cases h : i < m
  · refine src.next i _ _ h ki ei ?_
    refine fun v' ev => Tr.mono (step i st'.lo _ h (kI _ _ _ ki) ea (setI_hit _ _ _) _ (fun q => q) v' ev) fun _ st₁ q => ?_
    refine TestsT.nil (ifT' rfl ?_)
    refine EmitT.last ?_
    refine Tr.mono q fun y st₂ ⟨ey, k2, a2, i2⟩ => ?_
    refine CalT.append a2 (by simp; omega) ?_
    refine hN ⟨m - (i + 1), by omega, i + 1, h, rfl, kL _ _ _ k2, i2, ?_⟩
    rw [ey, List.range_succ, List.map_append]
    exact setL_hit _ _ _
  · have e : i = m := by omega
    subst e
    exact src.done _ _ ki ei (fin ⟨st'.lo, _⟩ (kD _ _ ki) ea)
end Mine

namespace Mine
variable {w : World} {h₀ : Heap} {c : Cx} {n : Nat}

/-- a for over a source -/
theorem for_src {it : Addr} {K : Nat → AH → Prop} {m : Nat} {S : Nat → ItA} {val : Nat → Value} (G : Nat → St → Prop) {t : Expr} {b o : List Stmt} {st : St} {Q : Flow → St → Prop} (src : Src w h₀ c.n it K m S val)
    (gk : ∀ i st, G i st → K i st.H) (g₀ : G 0 st) (hit : st.H.is it = some (S 0)) (gI : ∀ i lo H x, G i ⟨lo, H⟩ → G i ⟨lo, H.setI it x⟩)
    (step : ∀ i lo H, i < m → G i ⟨lo, H⟩ → H.is it = some (S (i + 1)) → ∀ N : Flow → St → Prop, (∀ {st₃}, G (i + 1) st₃ ∧ st₃.H.is it = some (S (i + 1)) → N .next st₃) → (∀ {st₃}, G (i + 1) st₃ ∧ st₃.H.is it = some (S (i + 1)) → N .cont st₃) → (∀ {st₃}, Q .next st₃ → N .brk st₃) → (∀ {v st₃}, Q (.ret v) st₃ → N (.ret v) st₃) →
      AsT w h₀ c t (val i) ⟨lo, H⟩ (fun st₂ => EsT w h₀ c b st₂ N))
    (fin : ∀ lo H, G m ⟨lo, H⟩ → EsT w h₀ c o ⟨lo, H.delI it⟩ Q) :
    ∃ (J : Nat → St → Prop) (n₀ : Nat), J n₀ st ∧ ∀ k st', J k st' → TurnT w h₀ c it t b o st' Q (fun st₃ => ∃ m, m < k ∧ J m st₃) := by
  refine ⟨fun k st' => ∃ i, i ≤ m ∧ k = m - i ∧ G i st' ∧ st'.H.is it = some (S i), m, ⟨0, Nat.zero_le _, rfl, g₀, hit⟩, ?_⟩
  rintro k ⟨lo, H⟩ ⟨i, hi, rfl, g, ei⟩
  by_cases h : i < m
  · refine src.next i _ _ h (gk _ _ g) ei ?_
    exact step i lo _ h (gI _ _ _ _ g) (setI_hit _ _ _) _ (fun q => ⟨m - (i + 1), by omega, i + 1, h, rfl, q⟩) (fun q => ⟨m - (i + 1), by omega, i + 1, h, rfl, q⟩) (fun q => q) (fun q => q)
  · have e : i = m := by omega
    subst e
    exact src.done _ _ (gk _ _ g) ei (fin _ _ g)
end Mine

namespace Mine

noncomputable def fk (k : Int) (l : List Keyed) : List Keyed := l.filter fun p => numOf p.1 == k
theorem fk_app (k : Int) (a b : List Keyed) : fk k (a ++ b) = fk k a ++ fk k b := List.filter_append ..
theorem fk_rev (k : Int) (a : List Keyed) : fk k a.reverse = (fk k a).reverse := List.filter_reverse ..
theorem fk_none {k : Int} {l : List Keyed} (h : ∀ p ∈ l, numOf p.1 ≠ k) : fk k l = [] := List.filter_eq_nil_iff.mpr fun p hp => by simpa using h p hp

theorem at_left {α : Type} {P B R : List α} {q : Nat} (h : q < P.length) : (P ++ B ++ R)[q]? = P[q]? := by
  rw [List.append_assoc, List.getElem?_append_left h]
theorem at_mid {α : Type} {P B R : List α} {d : Nat} (h : d < B.length) : (P ++ B ++ R)[P.length + d]? = B[d]? := by
  rw [List.append_assoc, List.getElem?_append_right (Nat.le_add_right _ _), Nat.add_sub_cancel_left, List.getElem?_append_left h]
theorem at_right {α : Type} {P B R : List α} {d : Nat} : (P ++ B ++ R)[P.length + B.length + d]? = R[d]? := by
  rw [List.getElem?_append_right (by rw [List.length_append]; exact Nat.le_add_right _ _), List.length_append, Nat.add_sub_cancel_left]
theorem mir_ix {p b d : Nat} (h : d < b) : p + (p + b) - 1 - (p + d) = p + (b - 1 - d) := by omega
theorem mirror_list {xs : Array Keyed} {P B R : List Keyed} {i j : Nat} (e : xs.toList = P ++ B ++ R) (hi : i = P.length) (hj : j = P.length + B.length) :
    (mirror xs i j ((j - i) / 2)).toList = P ++ B.reverse ++ R := by
  subst hi hj
  have hsz : P.length + B.length ≤ xs.size := by rw [← Array.length_toList, e, List.length_append, List.length_append]; exact Nat.le_add_right _ _
  apply List.ext_getElem?
  intro k
  rw [Array.getElem?_toList, getElem?_mirror_all hsz]
  clear hsz
  have g : ∀ q, xs[q]? = (P ++ B ++ R)[q]? := fun q => by rw [← e, Array.getElem?_toList]
  by_cases h1 : P.length ≤ k ∧ k < P.length + B.length
  · rw [if_pos h1, g]
    obtain ⟨d, rfl⟩ := Nat.exists_eq_add_of_le h1.1
    have hd : d < B.length := Nat.lt_of_add_lt_add_left h1.2
    rw [mir_ix hd, at_mid (by omega), at_mid (by rw [List.length_reverse]; exact hd), List.getElem?_reverse hd]
  · rw [if_neg h1, g]
    rcases Nat.lt_or_ge k P.length with h2 | h2
    · rw [at_left h2, at_left h2]
    · obtain ⟨d, rfl⟩ := Nat.exists_eq_add_of_le (show P.length + B.length ≤ k by omega)
      rw [at_right]
      have := at_right (P := P) (B := B.reverse) (R := R) (d := d)
      rw [List.length_reverse] at this
      exact this.symm
theorem bubble_list {xs : Array Keyed} {P B R : List Keyed} {e : Keyed} {l k : Nat} (h : xs.toList = P ++ B ++ e :: R) (hl : l = P.length) (hk : k = P.length + B.length) :
    (bubble xs k (k - l)).toList = P ++ e :: B ++ R := by
  subst hl hk
  have hsz : P.length + B.length < xs.size := by rw [← Array.length_toList, h, List.length_append, List.length_append, List.length_cons]; exact Nat.lt_add_of_pos_right (Nat.succ_pos _)
  apply List.ext_getElem?
  intro q
  rw [Nat.add_sub_cancel_left, Array.getElem?_toList, getElem?_bubble hsz _ (Nat.le_add_left _ _)]
  clear hsz
  have g : ∀ q, xs[q]? = (P ++ B ++ e :: R)[q]? := fun q => by rw [← h, Array.getElem?_toList]
  rw [Nat.add_sub_cancel]
  by_cases h1 : q = P.length
  · subst h1
    rw [if_pos rfl, g]
    have e1 := at_right (P := P) (B := B) (R := e :: R) (d := 0)
    have e2 := at_mid (P := P) (B := e :: B) (R := R) (d := 0) (Nat.succ_pos _)
    exact e1.trans e2.symm
  · rw [if_neg h1]
    by_cases h2 : P.length < q ∧ q ≤ P.length + B.length
    · rw [if_pos h2, g]
      obtain ⟨d, rfl⟩ := Nat.exists_eq_add_of_le (Nat.succ_le_of_lt h2.1)
      have hd : d < B.length := by omega
      rw [show P.length.succ + d - 1 = P.length + d by omega, at_mid hd, show P.length.succ + d = P.length + (d + 1) by omega, at_mid (B := e :: B) (Nat.succ_lt_succ hd)]
      rfl
    · rw [if_neg h2, g]
      rcases Nat.lt_or_ge q P.length with h3 | h3
      · rw [at_left h3, at_left h3]
      · obtain ⟨d, rfl⟩ := Nat.exists_eq_add_of_le (show P.length + B.length + 1 ≤ q by omega)
        have e1 := at_right (P := P) (B := B) (R := e :: R) (d := d + 1)
        have e2 := at_right (P := P) (B := e :: B) (R := R) (d := d)
        rw [show P.length + B.length + 1 + d = P.length + B.length + (d + 1) by omega, e1, List.getElem?_cons_succ]
        rw [show P.length + B.length + (d + 1) = P.length + (e :: B).length + d by rw [List.length_cons]; omega]
        exact e2.symm

theorem fk_comm {A B : List Keyed} (h : ∀ p ∈ A, ∀ q ∈ B, numOf p.1 ≠ numOf q.1) (k : Int) : fk k (A ++ B) = fk k (B ++ A) := by
  rw [fk_app, fk_app]
  by_cases hA : ∀ p ∈ A, numOf p.1 ≠ k
  · rw [fk_none hA, List.nil_append, List.append_nil]
  · have hB : ∀ q ∈ B, numOf q.1 ≠ k := fun q hq e => hA fun p hp e2 => h p hp q hq (e2.trans e.symm)
    rw [fk_none hB, List.nil_append, List.append_nil]
theorem K_list {xs : Array Keyed} {i : Nat} {p : Keyed} (h : xs.toList[i]? = some p) : K xs i = numOf p.1 := by
  rw [Array.getElem?_toList] at h
  unfold K
  rw [h]
theorem K_mid {xs : Array Keyed} {P B R : List Keyed} (e : xs.toList = P ++ B ++ R) {p : Keyed} (hp : p ∈ B) : ∃ i, P.length ≤ i ∧ i < P.length + B.length ∧ K xs i = numOf p.1 := by
  obtain ⟨j, hj, rfl⟩ := List.getElem_of_mem hp
  refine ⟨P.length + j, by omega, by omega, K_list ?_⟩
  rw [e, List.append_assoc, List.getElem?_append_right (by omega), List.getElem?_append_left (by omega), Nat.add_sub_cancel_left, List.getElem?_eq_getElem hj]
theorem K_at {xs : Array Keyed} {P B R : List Keyed} (e : xs.toList = P ++ B ++ R) {i : Nat} (h1 : P.length ≤ i) (h2 : i < P.length + B.length) : ∃ p ∈ B, K xs i = numOf p.1 := by
  refine ⟨B[i - P.length]'(by omega), List.getElem_mem _, K_list ?_⟩
  rw [e, List.append_assoc, List.getElem?_append_right (by omega), List.getElem?_append_left (by omega), List.getElem?_eq_getElem (by omega)]
theorem cut3 {α : Type} (l : List α) {i j : Nat} (h : i ≤ j) : l = l.take i ++ (l.take j).drop i ++ l.drop j := by
  have h1 : l.take i = (l.take j).take i := by rw [List.take_take, Nat.min_eq_left h]
  rw [h1, List.take_append_drop, List.take_append_drop]

noncomputable def Stab (a₀ xs : Array Keyed) : Prop := ∀ k, fk k xs.toList = fk k a₀.toList

section
variable {prog : Program} {w : World} {A : Around} {E : Value → Shared → Prop} {s : Shared} {a₀ : Array Keyed}

theorem stab_bubble {xs : Array Keyed} {l k : Nat} (hl : l ≤ k) (hk : k < xs.size) (hhi : ∀ i, l ≤ i → i < k → K xs k < K xs i) (ht : Stab a₀ xs) : Stab a₀ (bubble xs k (k - l)) := fun c => by
  have hk' : k < xs.toList.length := by rw [Array.length_toList]; exact hk
  have e1 := cut3 xs.toList hl
  have lP : (xs.toList.take l).length = l := by rw [List.length_take]; omega
  have lB : ((xs.toList.take k).drop l).length = k - l := by rw [List.length_drop, List.length_take]; omega
  generalize xs.toList.take l = P at *
  generalize (xs.toList.take k).drop l = B at *
  rw [List.drop_eq_getElem_cons hk'] at e1
  have eK : K xs k = numOf (xs.toList[k]).1 := K_list (List.getElem?_eq_getElem hk')
  generalize xs.toList[k] = e at *
  generalize xs.toList.drop (k + 1) = R at *
  rw [bubble_list e1 (by omega) (by omega), ← ht c, e1]
  have : fk c ([e] ++ B) = fk c (B ++ [e]) := fk_comm (fun p hp q hq => by
    rw [List.mem_singleton] at hp
    subst hp
    obtain ⟨i, h1, h2, h3⟩ := K_mid e1 hq
    have := hhi i (by omega) (by omega)
    omega) c
  rw [show P ++ e :: B ++ R = P ++ ([e] ++ B) ++ R by simp, show P ++ B ++ e :: R = P ++ (B ++ [e]) ++ R by simp, fk_app c (P ++ ([e] ++ B)) R, fk_app c P, this, ← fk_app, ← fk_app]

theorem wpS_insS {st : SortSt} {n ok : Nat} {Q : Bool → SortSt → Prop} (h0 : IntKeys a₀) (hn : n ≤ a₀.size) (hok : ok ≤ n) (hB : SBase a₀ st) (hs : SortedTo (arrOf st) ok) (ht : Stab a₀ (arrOf st))
    (h : ∀ st', SBase a₀ st' → SortedTo (arrOf st') n → Stab a₀ (arrOf st') → Q true st') : wpS (model prog w) A E s (binarySort' 0 n ok) Q st := by
  rw [binarySort'_eq]
  simp only [Nat.zero_add]
  refine wpS_bind (wpS_mono (wpS_forRange (I := fun k c t => c = (none, ()) ∧ SBase a₀ t ∧ Stab a₀ (arrOf t) ∧ SortedTo (arrOf t) (min k n)) (Q := fun c t => c = (none, ()) ∧ SBase a₀ t ∧ Stab a₀ (arrOf t) ∧ SortedTo (arrOf t) n)
    (fun k c t hk1 hk2 z => ?turn) (fun c t ⟨hc, b, tt, ss⟩ => ⟨hc, b, tt, fun i j hij hj => ss i j hij (by omega)⟩) ⟨rfl, hB, ht, fun i j hij hj => ?start⟩) fun c t ⟨hc, b, tt, ss⟩ => by subst hc; exact wpS_pure (h t b ss tt))
  case start =>
    by_cases h1 : ok = 0
    · have : i = j := by omega
      subst this; exact Int.le_refl _
    · exact hs i j hij (by omega)
  case turn =>
    obtain ⟨hc, b, tt, ss⟩ := z
    subst hc
    have ss' : SortedTo (arrOf t) k := fun i j hij hj => ss i j hij (by omega)
    have hk : k < a₀.size := by omega
    refine wpS_bind (wpS_mono (wpS_forRange (I := fun x c u => u = t ∧ ∃ l r, c = (none, l, r) ∧ l ≤ r ∧ r ≤ k ∧ r + x ≤ k + l ∧ (∀ i, i < l → K (arrOf t) i ≤ K (arrOf t) k) ∧ (∀ i, r ≤ i → i < k → K (arrOf t) k < K (arrOf t) i))
      (Q := fun c u => u = t ∧ ∃ l, c = (none, l, l) ∧ l ≤ k ∧ (∀ i, i < l → K (arrOf t) i ≤ K (arrOf t) k) ∧ (∀ i, l ≤ i → i < k → K (arrOf t) k < K (arrOf t) i))
      (fun x c u _ hx z => ?half) (fun c u z => ?over) ⟨rfl, 0, k, rfl, by omega, by omega, by omega, fun i hi => by omega, fun i h1 h2 => by omega⟩) fun c u z => ?move)
    case over =>
      obtain ⟨eu, l, r, hc, hlr, hrk, hm, hlo, hhi⟩ := z
      have : l = r := by omega
      subst this
      exact ⟨eu, l, hc, hrk, hlo, hhi⟩
    case half =>
      obtain ⟨eu, l, r, hc, hlr, hrk, hm, hlo, hhi⟩ := z
      subst eu hc
      dsimp only
      by_cases hge : l ≥ r
      · rw [if_pos hge]
        have : l = r := by omega
        subst this
        exact wpS_pure ⟨rfl, l, rfl, hrk, hlo, hhi⟩
      · rw [if_neg hge]
        refine wpS_bind (wpS_ltK b h0 hk (by omega) ?_)
        by_cases hless : K (arrOf u) k < K (arrOf u) ((l + r) / 2)
        · simp only [hless, decide_true, if_true]
          exact wpS_pure ⟨rfl, l, (l + r) / 2, rfl, by omega, by omega, by omega, hlo, fun i h1 h2 => Int.lt_of_lt_of_le hless (ss' _ _ h1 h2)⟩
        · simp only [hless, decide_false, Bool.false_eq_true, if_false]
          exact wpS_pure ⟨rfl, (l + r) / 2 + 1, r, rfl, by omega, by omega, by omega, fun i h1 => Int.le_trans (ss' i ((l + r) / 2) (by omega) (by omega)) (Int.not_lt.mp hless), hhi⟩
    case move =>
      obtain ⟨eu, l, hc, hlk, hlo, hhi⟩ := z
      subst eu hc
      show wpS _ _ _ _ (do moveDown' k l; pure (ForInStep.yield (none, ()))) _ _
      rw [moveDown'_eq]
      have hks : k < (arrOf u).size := by rw [b.size]; exact hk
      refine wpS_bind (wpS_modify (wpS_pure ⟨rfl, b.setArr (bubble_perm _ _ _), stab_bubble hlk hks hhi tt, fun i j hij hj => ?_⟩))
      show K (bubble (arrOf u) k (k - l)) i ≤ K (bubble (arrOf u) k (k - l)) j
      rw [K_bubble hks (by omega), K_bubble hks (by omega), show k - (k - l) = l by omega]
      have hj' : j ≤ k := by omega
      repeat' split
      all_goals first
        | (exfalso; omega)
        | exact Int.le_refl _
        | exact hlo _ (by omega)
        | exact Int.le_of_lt (hhi _ (by omega) (by omega))
        | exact ss' _ _ (by omega) (by omega)
end
end Mine

namespace Mine
section
variable {prog : Program} {w : World} {A : Around} {E : Value → Shared → Prop} {s : Shared} {a₀ : Array Keyed}

/-- the descending run, turned: P stands reversed, B is the last block of equal keys, R is untouched -/
structure Dsc (a₀ xs : Array Keyed) (x neq : Nat) (P B R : List Keyed) : Prop where
  e : xs.toList = P ++ B ++ R
  len : P.length + B.length = x
  blk : B.length = neq + 1
  low : ∀ p ∈ P, ∀ q ∈ B, numOf q.1 < numOf p.1
  eq : ∀ p ∈ B, ∀ q ∈ B, numOf p.1 = numOf q.1
  fk : ∀ k, fk k (P.reverse ++ B ++ R) = fk k a₀.toList
theorem NonInc.le {xs : Array Keyed} {x : Nat} (h : NonInc xs x) {c : Int} (hx : ∀ i, i < x → c ≤ K xs i) (hc : K xs x = c) : NonInc xs (x + 1) := fun i j hij hj => by
  by_cases hjx : j < x
  · exact h i j hij hjx
  · have hj' : j = x := by omega
    subst hj'
    by_cases hi' : i = j
    · subst hi'; exact Int.le_refl _
    · rw [hc]; exact hx i (by omega)

theorem wpS_tailS {st : SortSt} {n nrem : Nat} {Q : Option Nat → SortSt → Prop} (h0 : IntKeys a₀) (hn : nrem ≤ a₀.size) (h1 : 1 ≤ n) (hnn : n ≤ nrem) (hB : SBase a₀ st)
    (hs : NonInc (arrOf st) n) (ht : Stab a₀ (mirror (arrOf st) 0 n ((n - 0) / 2))) (h : ∀ m st', SBase a₀ st' → 1 ≤ m → m ≤ nrem → SortedTo (arrOf st') m → Stab a₀ (arrOf st') → Q (some m) st') :
    wpS (model prog w) A E s (tail3 n nrem) Q st := by
  unfold tail3
  have hsz : n ≤ (arrOf st).size := by rw [hB.size]; omega
  have hB' : SBase a₀ (setArr st (mirror (arrOf st) 0 n ((n - 0) / 2))) := hB.setArr (mirror_perm _ _ _ _)
  refine wpS_bind (wpS_reverse (wpS_bind (wpS_ascLoop h0 hn h1 hnn hB' (fun i j hij hj => ?_) fun m hm1 hm2 hsm _ => wpS_pure (h m _ hB' (by omega) hm2 hsm ht))))
  show K (mirror (arrOf st) 0 n ((n - 0) / 2)) i ≤ K (mirror (arrOf st) 0 n ((n - 0) / 2)) j
  rw [K_mirror hsz, K_mirror hsz, if_pos (by omega), if_pos (by omega)]
  exact hs _ _ (by omega) (by omega)

theorem Dsc.K {xs : Array Keyed} {x neq : Nat} {P B R : List Keyed} (d : Dsc a₀ xs x neq P B R) {p : Keyed} (hp : p ∈ B) : K xs (x - 1) = numOf p.1 := by
  obtain ⟨q, hq, e⟩ := K_at (i := x - 1) d.e (by have := d.len; have := d.blk; omega) (by have := d.len; have := d.blk; omega)
  rw [e]; exact d.eq q hq p hp
theorem Dsc.hd {xs : Array Keyed} {x neq : Nat} {P B R : List Keyed} (d : Dsc a₀ xs x neq P B R) (hx : x < xs.size) : ∃ e R', R = e :: R' ∧ PyProof.Rows.K xs x = numOf e.1 := by
  have hl : xs.toList.length = P.length + B.length + R.length := by rw [d.e]; simp; omega
  rw [Array.length_toList] at hl
  have := d.len
  match R, hl, d with
  | [], hl, _ => simp at hl; omega
  | e :: R', hl, d =>
    refine ⟨e, R', rfl, K_list ?_⟩
    rw [d.e, List.getElem?_append_right (by simp; omega)]
    simp [← d.len]
theorem Dsc.less {xs ys : Array Keyed} {x neq : Nat} {P B R : List Keyed} {e : Keyed} (d : Dsc a₀ xs x neq P B (e :: R)) (hy : ys.toList = P ++ B.reverse ++ e :: R) (hk : numOf e.1 < PyProof.Rows.K xs (x - 1)) : Dsc a₀ ys (x + 1) 0 (P ++ B.reverse) [e] R := by
  obtain ⟨b, hb⟩ : ∃ b, b ∈ B := List.exists_mem_of_length_pos (by rw [d.blk]; exact Nat.succ_pos _)
  refine ⟨by rw [hy]; simp, by have := d.len; simp; omega, rfl, fun p hp q hq => ?_, fun p hp q hq => by rw [List.mem_singleton] at hp hq; rw [hp, hq], fun k => ?_⟩
  · rw [List.mem_singleton] at hq
    subst hq
    have eb := d.K hb
    rcases List.mem_append.mp hp with hp | hp
    · have := d.low p hp b hb; omega
    · have := d.eq p (List.mem_reverse.mp hp) b hb; omega
  · rw [← d.fk k, List.reverse_append, List.reverse_reverse]
    have := fk_comm (A := B) (B := P.reverse) (fun p hp q hq => by have := d.low q (List.mem_reverse.mp hq) p hp; omega) k
    rw [List.append_assoc, fk_app, this, ← fk_app]
    rfl
theorem Dsc.same {xs : Array Keyed} {x neq : Nat} {P B R : List Keyed} {e : Keyed} (d : Dsc a₀ xs x neq P B (e :: R)) (hk : numOf e.1 = PyProof.Rows.K xs (x - 1)) : Dsc a₀ xs (x + 1) (neq + 1) P (B ++ [e]) R := by
  obtain ⟨b, hb⟩ : ∃ b, b ∈ B := List.exists_mem_of_length_pos (by rw [d.blk]; exact Nat.succ_pos _)
  have eb := d.K hb
  have ke : ∀ p ∈ B ++ [e], numOf p.1 = numOf b.1 := fun p hp => by
    rcases List.mem_append.mp hp with hp | hp
    · exact d.eq p hp b hb
    · rw [List.mem_singleton] at hp; subst hp; omega
  refine ⟨by rw [d.e]; simp, by have := d.len; simp; omega, by have := d.blk; simp; omega, fun p hp q hq => by rw [ke q hq]; exact d.low p hp b hb, fun p hp q hq => (ke p hp).trans (ke q hq).symm, fun k => ?_⟩
  rw [← d.fk k]; simp
theorem Dsc.heq {xs : Array Keyed} {x neq : Nat} {P B R : List Keyed} (d : Dsc a₀ xs x neq P B R) : ∀ k, x - (neq + 1) ≤ k → k < x → PyProof.Rows.K xs k = PyProof.Rows.K xs (x - 1) := fun k h1 h2 => by
  obtain ⟨q, hq, e⟩ := K_at (i := k) d.e (by have := d.len; have := d.blk; omega) (by have := d.len; omega)
  rw [e, d.K hq]
theorem Dsc.mir {xs : Array Keyed} {x neq : Nat} {P B R : List Keyed} (d : Dsc a₀ xs x neq P B R) : (mirror xs (x - (neq + 1)) x ((x - (x - (neq + 1))) / 2)).toList = P ++ B.reverse ++ R :=
  mirror_list d.e (by have := d.len; have := d.blk; omega) (by have := d.len; omega)
theorem Dsc.one {xs : Array Keyed} {x : Nat} {P B R : List Keyed} (d : Dsc a₀ xs x 0 P B R) : xs.toList = P ++ B.reverse ++ R := by
  obtain ⟨b, rfl⟩ := List.length_eq_one_iff.mp d.blk
  exact d.e
theorem Dsc.end {xs ys : Array Keyed} {x neq : Nat} {P B R : List Keyed} (d : Dsc a₀ xs x neq P B R) (hy : ys.toList = P ++ B.reverse ++ R) : Stab a₀ (mirror ys 0 x ((x - 0) / 2)) := fun k => by
  have e : ys.toList = [] ++ (P ++ B.reverse) ++ R := by rw [hy]; simp
  rw [mirror_list (i := 0) (j := x) e rfl (by have := d.len; simp; omega), ← d.fk k, List.nil_append, List.reverse_append, List.reverse_reverse]
  have := fk_comm (A := B) (B := P.reverse) (fun p hp q hq => by have := d.low q (List.mem_reverse.mp hq) p hp; omega) k
  rw [fk_app, this, ← fk_app]

theorem wpS_descS {st : SortSt} {n nrem : Nat} {Q : DescSt → SortSt → Prop} (h0 : IntKeys a₀) (hn : nrem ≤ a₀.size) (h1 : 1 ≤ n) (hnn : n ≤ nrem) (hB : SBase a₀ st)
    (hs : NonInc (arrOf st) n) (hd : ∃ P B R, Dsc a₀ (arrOf st) n 0 P B R)
    (h : ∀ m neq st', SBase a₀ st' → n ≤ m → m ≤ nrem → NonInc (arrOf st') m → (∃ P B R, Dsc a₀ (arrOf st') m neq P B R) → Q (none, m, neq) st') :
    wpS (model prog w) A E s (descLoop n nrem) Q st := by
  unfold descLoop
  refine wpS_forRange (I := fun x c t => ∃ neq, c = (none, x, neq) ∧ SBase a₀ t ∧ NonInc (arrOf t) x ∧ ∃ P B R, Dsc a₀ (arrOf t) x neq P B R)
    (fun x c t hx1 hx2 ⟨neq, hc, b, ni, P, B, R, d⟩ => ?turn) (fun c t ⟨neq, hc, b, ni, d⟩ => ?over) ⟨0, rfl, hB, hs, hd⟩
  case over =>
    subst hc
    rw [show max n nrem = nrem by omega] at ni d ⊢
    exact h nrem neq t b hnn (Nat.le_refl _) ni d
  case turn =>
    subst hc
    dsimp only
    have hxs : x < (arrOf t).size := by rw [b.size]; omega
    obtain ⟨e, R', rfl, ek⟩ := d.hd hxs
    refine wpS_bind (wpS_ltK b h0 (by omega) (by omega) ?_)
    by_cases hless : K (arrOf t) x < K (arrOf t) (x - 1)
    · simp only [hless, decide_true, if_true]
      have lo : ∀ i, i < x → K (arrOf t) x ≤ K (arrOf t) i := fun i hi => Int.le_trans (Int.le_of_lt hless) (ni i (x - 1) (by omega) (by omega))
      have ni' := NonInc.le ni lo rfl
      by_cases hneq : neq > 0
      · rw [if_pos hneq]
        refine wpS_bind (wpS_reverse (wpS_pure ⟨0, rfl, b.setArr (mirror_perm _ _ _ _), fun i j hij hj => ?_, _, _, _, d.less d.mir (by omega)⟩))
        show K (mirror (arrOf t) _ _ _) j ≤ K (mirror (arrOf t) _ _ _) i
        rw [K_mirror_equal (by omega) d.heq, K_mirror_equal (by omega) d.heq]
        exact ni' i j hij hj
      · rw [if_neg hneq]
        have : neq = 0 := by omega
        subst this
        exact wpS_pure ⟨0, rfl, b, ni', _, _, _, d.less d.one (by omega)⟩
    · simp only [hless, decide_false, Bool.false_eq_true, if_false]
      refine wpS_bind (wpS_ltK b h0 (by omega) (by omega) ?_)
      by_cases hlarger : K (arrOf t) (x - 1) < K (arrOf t) x
      · simp only [hlarger, decide_true, if_true]
        exact wpS_pure (h x neq t b hx1 (by omega) ni ⟨_, _, _, d⟩)
      · simp only [hlarger, decide_false, Bool.false_eq_true, if_false]
        have heqx : K (arrOf t) x = K (arrOf t) (x - 1) := by omega
        exact wpS_pure ⟨neq + 1, rfl, b, NonInc.le ni (fun i hi => by rw [heqx]; exact ni i (x - 1) (by omega) (by omega)) rfl, _, _, _, d.same (by omega)⟩

theorem wpS_descPartS {st : SortSt} {n nrem : Nat} {Q : Option Nat → SortSt → Prop} (h0 : IntKeys a₀) (hn : nrem ≤ a₀.size) (hnn : n + 1 ≤ nrem) (hB : SBase a₀ st)
    (hs : NonInc (arrOf st) (n + 1)) (hd : ∃ P B R, Dsc a₀ (arrOf st) (n + 1) 0 P B R) (h : ∀ m st', SBase a₀ st' → 1 ≤ m → m ≤ nrem → SortedTo (arrOf st') m → Stab a₀ (arrOf st') → Q (some m) st') :
    wpS (model prog w) A E s (descPart n nrem) Q st := by
  unfold descPart
  refine wpS_bind (wpS_lift (wpAny_rule ⟨rfl, ?_⟩))
  refine wpS_bind (wpS_descS h0 hn (by omega) hnn hB hs hd fun m neq t b hm1 hm2 ni ⟨P, B, R, d⟩ => ?_)
  dsimp only
  have hsz : m ≤ (arrOf t).size := by rw [b.size]; omega
  by_cases hneq : neq > 0
  · rw [if_pos hneq]
    refine wpS_bind (wpS_reverse (wpS_tailS h0 hn (by omega) hm2 (b.setArr (mirror_perm _ _ _ _)) (fun i j hij hj => ?_) (d.end d.mir) h))
    show K (mirror (arrOf t) _ _ _) j ≤ K (mirror (arrOf t) _ _ _) i
    rw [K_mirror_equal hsz d.heq, K_mirror_equal hsz d.heq]
    exact ni i j hij hj
  · rw [if_neg hneq]
    have : neq = 0 := by omega
    subst this
    exact wpS_tailS h0 hn (by omega) hm2 b ni (d.end d.one) h

theorem wpS_countS {st : SortSt} {nrem : Nat} {Q : Option Nat → SortSt → Prop} (h0 : IntKeys a₀) (hn : nrem ≤ a₀.size) (h1 : 1 ≤ nrem) (hB : SBase a₀ st) (ha : arrOf st = a₀)
    (h : ∀ m st', SBase a₀ st' → 1 ≤ m → m ≤ nrem → SortedTo (arrOf st') m → Stab a₀ (arrOf st') → Q (some m) st') :
    wpS (model prog w) A E s (countRun' 0 nrem) Q st := by
  rw [countRun0_eq]
  refine wpS_bind (wpS_ascLoop h0 hn (Nat.le_refl 1) h1 hB (fun i j hij hj => by have : i = j := by omega
                                                                                 subst this; exact Int.le_refl _) fun n hn1 hn2 hsn hor => ?_)
  dsimp only
  by_cases hnn : n = nrem
  · rw [if_pos (by simpa using hnn)]
    exact wpS_pure (h n st hB hn1 hn2 hsn (by rw [ha]; exact fun _ => rfl))
  · rw [if_neg (by simpa using hnn)]
    have hlt : K (arrOf st) n < K (arrOf st) (n - 1) := hor.resolve_left hnn
    have hsz : n < (arrOf st).size := by rw [hB.size]; omega
    have hall2 : (∀ k, k < n → K (arrOf st) k = K (arrOf st) (n - 1)) → NonInc (arrOf st) (n + 1) ∧ ∀ ys : Array Keyed, ys.toList = (a₀.toList.take n).reverse ++ a₀.toList.drop n → Dsc a₀ ys (n + 1) 0 (a₀.toList.take n).reverse [a₀.toList[n]'(by rw [← ha, Array.length_toList]; exact hsz)] (a₀.toList.drop (n + 1)) := fun hall => by
      have hn' : n < a₀.toList.length := by rw [← ha, Array.length_toList]; exact hsz
      refine ⟨NonInc.le (fun i j hij hj => by rw [hall i (by omega), hall j hj]; exact Int.le_refl _) (fun i hi => by rw [hall i hi]; exact Int.le_of_lt hlt) rfl, fun ys hy => ⟨by rw [hy, List.drop_eq_getElem_cons hn', List.append_assoc]; rfl, by simp; omega, rfl, fun p hp q hq => ?_, fun p hp q hq => by rw [List.mem_singleton] at hp hq; rw [hp, hq], fun k => ?_⟩⟩
      · rw [List.mem_singleton] at hq
        subst hq
        have e1 : K (arrOf st) n = numOf (a₀.toList[n]).1 := K_list (by rw [ha, List.getElem?_eq_getElem hn'])
        obtain ⟨i, hi, ei⟩ := List.getElem_of_mem (List.mem_reverse.mp hp)
        have hi2 : i < n := by rw [List.length_take] at hi; omega
        have e2 : K (arrOf st) i = numOf p.1 := K_list (by rw [ha, ← ei, List.getElem_take, List.getElem?_eq_getElem])
        rw [← e1, ← e2, hall i hi2]; exact hlt
      · rw [List.reverse_reverse, List.append_assoc]
        rw [show [a₀.toList[n]] ++ a₀.toList.drop (n + 1) = a₀.toList.drop n by rw [List.drop_eq_getElem_cons hn']; rfl, List.take_append_drop]
    by_cases hgt : n > 1
    · rw [if_pos hgt]
      refine wpS_bind (wpS_ltK hB h0 (by omega) (by omega) ?_)
      by_cases hrose : K (arrOf st) 0 < K (arrOf st) (n - 1)
      · simp only [hrose, decide_true, if_true]
        exact wpS_pure (h n st hB hn1 hn2 hsn (by rw [ha]; exact fun _ => rfl))
      · simp only [hrose, decide_false, Bool.false_eq_true, if_false]
        have hall : ∀ k, k < n → K (arrOf st) k = K (arrOf st) (n - 1) := fun k hk => by
          have a1 := hsn 0 k (by omega) hk
          have a2 := hsn k (n - 1) (by omega) (by omega)
          omega
        obtain ⟨ni, dd⟩ := hall2 hall
        refine wpS_bind (wpS_reverse (wpS_descPartS h0 hn (by omega) (hB.setArr (mirror_perm _ _ _ _)) (fun i j hij hj => ?_) ⟨_, _, _, dd _ ?_⟩ h))
        · show K (mirror (arrOf st) _ _ _) j ≤ K (mirror (arrOf st) _ _ _) i
          rw [K_mirror_equal (by omega) (fun k _ hk => hall k hk), K_mirror_equal (by omega) (fun k _ hk => hall k hk)]
          exact ni i j hij hj
        · show (mirror (arrOf st) 0 n ((n - 0) / 2)).toList = _
          rw [mirror_list (xs := arrOf st) (i := 0) (j := n) (P := []) (B := a₀.toList.take n) (R := a₀.toList.drop n) (by rw [ha]; simp) rfl (by rw [ha] at hsz; simp; omega)]
          rfl
    · rw [if_neg hgt]
      have hn1' : n = 1 := by omega
      subst hn1'
      obtain ⟨ni, dd⟩ := hall2 fun k hk => by have : k = 0 := by omega
                                              subst this; rfl
      refine wpS_descPartS h0 hn (by omega) hB ni ⟨_, _, _, dd _ ?_⟩ h
      rw [ha]
      have : 0 < a₀.toList.length := by rw [← ha, Array.length_toList]; omega
      match e : a₀.toList, this with
      | x :: r, _ => rfl

theorem wpS_runsS {st : SortSt} {Q : Unit → SortSt → Prop} (h0 : IntKeys a₀) (hB : SBase a₀ st) (ha : arrOf st = a₀) (h2 : 2 ≤ a₀.size) (h64 : a₀.size < 64)
    (h : ∀ st', (arrOf st').Perm a₀ → failedOf st' = none → SortedTo (arrOf st') a₀.size → Stab a₀ (arrOf st') → Q () st') : wpS (model prog w) A E s sortRuns' Q st := by
  rw [sortRuns'_eq]
  refine wpS_bind (wpS_get ?_)
  dsimp only
  have hmr : minRun' a₀.size a₀.size 0 = a₀.size := by
    obtain ⟨f, hf⟩ : ∃ f, a₀.size = f + 1 := ⟨a₀.size - 1, by omega⟩
    have : minRun' (f + 1) a₀.size 0 = a₀.size := by rw [minRun'_succ, if_pos h64]; rfl
    rwa [← hf] at this
  simp only [hB.size, hmr]
  refine wpS_bind (wpS_mono (wpS_forRange
    (I := fun x c t => (x = 0 ∧ c = (none, 0) ∧ t = st) ∨ (1 ≤ x ∧ c = (none, a₀.size) ∧ SDone a₀ t ∧ Stab a₀ (arrOf t)))
    (Q := fun c t => c = (none, a₀.size) ∧ SDone a₀ t ∧ Stab a₀ (arrOf t)) (fun x c t _ hx hI => ?turn) (fun c t hI => hI.elim (fun q => by omega) fun q => q.2) (.inl ⟨rfl, rfl, rfl⟩)) fun c t ⟨hc, hD, hS⟩ => ?rest)
  case turn =>
    rcases hI with ⟨rfl, rfl, rfl⟩ | ⟨hx1, rfl, hD, hS⟩
    · dsimp only
      rw [if_neg (by omega)]
      simp only [Nat.sub_zero, Nat.min_self, Nat.zero_add]
      refine wpS_bind (wpS_countS h0 (Nat.le_refl _) (by omega) hB ha fun m st2 hB2 hm1 hm2 hs2 ht2 => ?_)
      dsimp only
      have pb : ∀ st3, SBase a₀ st3 → (pendingOf st3).back? = none := fun st3 b => by rw [b.pend]; rfl
      by_cases hlt : m < a₀.size
      · rw [if_pos hlt]
        refine wpS_bind (wpS_lift (wpAny_rule ⟨rfl, ?_⟩))
        refine wpS_bind (wpS_insS h0 (Nat.le_refl _) hm2 hB2 hs2 ht2 fun st3 hB3 hs3 ht3 => ?_)
        simp only [Bool.not_true, Bool.false_eq_true, if_false]
        refine wpS_bind (wpS_get ?_)
        rw [pb st3 hB3]
        dsimp only
        exact wpS_bind (wpS_modify (wpS_pure (.inr ⟨by omega, rfl, hB3.done hs3, ht3⟩)))
      · rw [if_neg hlt]
        have hm : m = a₀.size := by omega
        subst hm
        refine wpS_bind (wpS_get ?_)
        rw [pb st2 hB2]
        dsimp only
        exact wpS_bind (wpS_modify (wpS_pure (.inr ⟨by omega, rfl, hB2.done hs2, ht2⟩)))
    · dsimp only
      rw [if_pos (Nat.le_refl _)]
      exact wpS_pure ⟨rfl, hD, hS⟩
  case rest =>
    subst hc
    dsimp only
    refine wpS_bind (wpS_mono (wpS_forRange (I := fun _ c u => u = t ∧ c = (none, ())) (Q := fun c u => u = t ∧ c = (none, ())) ?_ (fun _ _ hh => hh) ⟨rfl, rfl⟩) ?_)
    · rintro x c u _ _ ⟨rfl, rfl⟩
      refine wpS_bind (wpS_get ?_)
      rw [if_pos (by rw [hD.2.2.1]; exact Nat.le_refl 1)]
      exact wpS_pure ⟨rfl, rfl⟩
    · rintro c u ⟨rfl, rfl⟩
      exact wpS_pure (h _ hD.1 hD.2.1 hD.2.2.2 hS)
end
end Mine

namespace Mine
variable {w : World} {h₀ : Heap} {c : Cx} {n : Nat}
theorem BodyT.stmts {b : FuncBody} {l : List Stmt} {st : St} {Q : Value → AH → Prop} (h : EsT w h₀ c l st (fun f st' => Q (retOf f) st'.H)) (e : b = .stmts l := by rfl) : BodyT w h₀ c b st Q := by subst e; exact h
theorem BodyT.expr {b : FuncBody} {x : Expr} {st : St} {Q : Value → AH → Prop} (h : EvT w h₀ c x st (fun v st' => Q v st'.H)) (e : b = .expr x := by rfl) : BodyT w h₀ c b st Q := by subst e; exact h
theorem ifB {b : Bool} {A B : Prop} (h1 : b = true → A) (h2 : b = false → B) : if b then A else B := by
  cases b with
  | true => exact h1 rfl
  | false => exact h2 rfl
theorem BdT.nil {st : St} {R : St → Prop} (h : R st) : BdT w h₀ c [] st R := h
theorem BdT.loc {x : Str} {v : Value} {r : List (Str × Value)} {st : St} {R : St → Prop} (h : BdT w h₀ c r ⟨lput x v st.lo, st.H⟩ R) (hk : c.env.scope.kind = .function := by rfl) (hl : c.env.kindOf x = some .local := by rfl) : BdT w h₀ c ((x, v) :: r) st R := StoreT.local h hk hl
theorem BdT.cell {x : Str} {v : Value} {a : Addr} {r : List (Str × Value)} {st : St} {R : St → Prop} (h : BdT w h₀ c r ⟨st.lo, st.H.setC a (some v)⟩ R) {v0 : Option Value} (hv : st.H.cs a = some v0) (hc : c.env.cells.lookup x = some a := by rfl) (hk : c.env.scope.kind = .function := by rfl) (hl : c.env.kindOf x = some .cell := by rfl) : BdT w h₀ c ((x, v) :: r) st R := StoreT.cell hv h hc hk hl
theorem le_up {n a b : Nat} (h : n ≤ a) (d : Nat.ble (a + 1) b = true := by rfl) : n + 1 ≤ b := Nat.le_trans (Nat.succ_le_succ h) (Nat.le_of_ble_eq_true d)
theorem rg0 (i : Nat) : (0 + (i : Int) * 1) = i := by omega
theorem nn0 (k : Nat) : (0 : Int) ≤ (k : Int) := Int.natCast_nonneg k
theorem len_succ {α : Type} {l : List α} {m : Nat} (h : l.length = m + 1) : ∃ a r, l = a :: r ∧ r.length = m := by
  cases l with
  | nil => cases h
  | cons a r => exact ⟨a, r, rfl, Nat.succ.inj h⟩
theorem len6 {α : Type} {l : List α} (h : l.length = 6) : ∃ a b c d e f, l = [a, b, c, d, e, f] := by
  obtain ⟨a, r1, e1, h1⟩ := len_succ h
  obtain ⟨b, r2, e2, h2⟩ := len_succ h1
  obtain ⟨c, r3, e3, h3⟩ := len_succ h2
  obtain ⟨d, r4, e4, h4⟩ := len_succ h3
  obtain ⟨e, r5, e5, h5⟩ := len_succ h4
  obtain ⟨f, r6, e6, h6⟩ := len_succ h5
  exact ⟨a, b, c, d, e, f, by rw [e1, e2, e3, e4, e5, e6, List.length_eq_zero_iff.mp h6]⟩
theorem len7 {α : Type} {l : List α} (h : l.length = 7) : ∃ a b c d e f g, l = [a, b, c, d, e, f, g] := by
  obtain ⟨a, r, rfl, h1⟩ := len_succ h
  obtain ⟨b, c, d, e, f, g, rfl⟩ := len6 h1
  exact ⟨a, b, c, d, e, f, g, rfl⟩
noncomputable def lowerS (x : Str) : Str := ⟨placed x fun i _ => Unicode.lowerAt x.cps i⟩
theorem CalT.lowerS {x : Str} {H : AH} {Q : Value → AH → Prop} (hz : Builtin.Str.tooLong (lowerS x).length = false) (h : Q (.str (lowerS x) 0) H) : CalT w h₀ n (.builtin "str.lower") [.str x 0] [] H Q := CalT.lower hz h
theorem T_subst {x y : Str} {H : AH} {Q : Value → AH → Prop} (hn : n ≤ 99) (hx : Builtin.Str.tooLong (lowerS x).length = false) (hy : Builtin.Str.tooLong (lowerS y).length = false)
    (h : Q (.int (if x.cps.toList == y.cps.toList then 0 else if (lowerS x).cps.toList == (lowerS y).cps.toList then 1 else 2) 0) H) : CallT w h₀ n (.ref 132) [.str x 0, .str y 0] [] H Q := by
  refine CallT.base (binds := [("ch_a", .str x 0), ("ch_b", .str y 0)]) ⟨_, _, _, _, _, _, _, rfl, rfl, rfl, rfl⟩ (fun a' k' e2 e3 s I => ?_) (fun L hL => ?_) (by omega)
  · obtain ⟨x', y', rfl, ex, ey⟩ := map2 e2
    rw [kw0 e3]
    exact ⟨[("ch_a", x'), ("ch_b", y')], .of_eq rfl, by simp [ex, ey]⟩
  refine BdT.loc (BdT.loc (BdT.nil (BodyT.stmts ?_)))
  refine EsT.cons ?_
  refine ExT.if ?_
  refine IfT.compare ?_
  refine EvT.local ?_
  refine EvT.local ?_
  refine CmpT.eqS (TruT.bool (ifB (fun hc => ?_) fun hc => ?_))
  · rw [if_pos hc] at h
    refine EsT.cons ?_; refine ExT.return ?_; refine EvT.int ?_
    exact h
  rw [if_neg (by simp [hc])] at h
  refine EsT.nil ?_
  refine EsT.cons ?_
  refine ExT.if ?_
  refine IfT.compare ?_
  refine EvT.method ?_
  refine EvT.local ?_
  refine GmT.str F.slot_str_lower F.type_str_lower ?_
  refine ArgsT.nil ?_
  refine ⟨trivial, CalT.lowerS hx ?_⟩
  refine EvT.method ?_
  refine EvT.local ?_
  refine GmT.str F.slot_str_lower F.type_str_lower ?_
  refine ArgsT.nil ?_
  refine ⟨trivial, CalT.lowerS hy ?_⟩
  refine CmpT.eqS (TruT.bool (ifB (fun hc => ?_) fun hc => ?_))
  · rw [if_pos hc] at h
    refine EsT.cons ?_; refine ExT.return ?_; refine EvT.global ?_
    exact h
  · rw [if_neg (by rw [show (_ == _) = false from hc]; decide)] at h
    refine EsT.nil ?_; refine EsT.cons ?_; refine ExT.return ?_; refine EvT.global ?_
    exact h

theorem ifT {b : Bool} {A B : Prop} (e : b = true) (h : A) : if b then A else B := by subst e; exact h
theorem ifF {b : Bool} {A B : Prop} (e : b = false) (h : B) : if b then A else B := by subst e; exact h
/-! ## lexers -/
theorem setL_setL (H : AH) (a : Addr) (x y : List Value) : (H.setL a x).setL a y = H.setL a y := by
  unfold AH.setL; congr 1; funext b; by_cases h : b = a <;> simp [h]
theorem setD_setD (H : AH) (a : Addr) (x y : List (Str × Value)) : (H.setD a x).setD a y = H.setD a y := by
  unfold AH.setD; congr 1; funext b; by_cases h : b = a <;> simp [h]
theorem setC_setC (H : AH) (a : Addr) (x y : Option Value) : (H.setC a x).setC a y = H.setC a y := by
  unfold AH.setC; congr 1; funext b; by_cases h : b = a <;> simp [h]
theorem setI_setI (H : AH) (a : Addr) (x y : ItA) : (H.setI a x).setI a y = H.setI a y := by
  unfold AH.setI; congr 1; funext b; by_cases h : b = a <;> simp [h]

noncomputable def nestSt (st : Stmt) (j : Nat) : Stmt := match st with
  | .FunctionDef _ _ body _ _ _ _ _ _ _ => (body[j]?).getD default
  | _ => default
noncomputable def fnA (st : Stmt) (clos : List (Str × Addr)) (d : Option Addr) : FnA := match st with
  | .FunctionDef _ args body _ _ _ scope _ _ _ => ⟨args, .stmts body, scope, clos, d⟩
  | _ => ⟨default, .stmts [], default, clos, d⟩
structure LexA where
  DX : Addr
  PB : Addr
  FS : Addr
  DS : Addr
  FR : Addr
  CL : Addr
  LL : Addr
noncomputable def ws4 : Str := "\n\t\r "
noncomputable def kvL (a : LexA) (ln : Int) : List (Str × Value) := [("lineno", .int ln 0), ("instream", .ref a.FS), ("whitespace", .str ws4 0), ("pushback", .ref a.PB)]
structure LexOk (B : AH) (X : Addr) (a : LexA) : Prop where
  x : B.xs X = some a.DX
  fs : ∃ fa, B.fs a.FS = some fa ∧ fa.dict = some a.DS
  ds : B.ds a.DS = some [(Str.ofString "read", Value.ref a.FR)]
  fr : B.fs a.FR = some (fnA (nestSt (topSt 21) 1) [(Str.ofString "left", a.CL)] none)
  cl : B.cs a.CL = some (some (.ref a.LL))
  n1 : a.DS ≠ a.DX
  n2 : a.PB ≠ a.LL
noncomputable def chV (l : List Nat) : List Value := l.map fun c => .str ⟨#[c]⟩ 0
noncomputable def lexH (B : AH) (a : LexA) (left : List Nat) (ln : Int) : AH := (B.setL a.LL (chV left)).setD a.DX (kvL a ln)
theorem lexH_ll {B : AH} {a : LexA} {left : List Nat} {ln : Int} : (lexH B a left ln).ls a.LL = some (chV left) := if_pos rfl
theorem lexH_dx {B : AH} {a : LexA} {left : List Nat} {ln : Int} : (lexH B a left ln).ds a.DX = some (kvL a ln) := if_pos rfl
theorem lexH_setL {B : AH} {a : LexA} {left l' : List Nat} {ln : Int} : (lexH B a left ln).setL a.LL (chV l') = lexH B a l' ln := by
  show ((B.setL a.LL _).setL a.LL _).setD a.DX _ = _
  rw [setL_setL]; rfl
theorem lexH_setD {B : AH} {a : LexA} {left : List Nat} {ln ln' : Int} : (lexH B a left ln).setD a.DX (kvL a ln') = lexH B a left ln' := by
  unfold lexH
  rw [setD_setD]

theorem T_read {B : AH} {X : Addr} {a : LexA} {left : List Nat} {ln k : Int} {Q : Value → AH → Prop} (ok : LexOk B X a) (hn : n ≤ 99) (hz : left.length ≤ 1000)
    (h : match left with | [] => Q (.str ⟨#[]⟩ 0) (lexH B a [] ln) | c :: l => Q (.str ⟨#[c]⟩ 0) (lexH B a l ln)) : CallT w h₀ n (.ref a.FR) [.int k 0] [] (lexH B a left ln) Q := by
  refine CallT.made (fa := fnA (nestSt (topSt 21) 1) [(Str.ofString "left", a.CL)] none) (binds := [("size", .int k 0)]) ok.fr (fun fd e1 e2 e3 a' k' e4 e5 => ?_) (fun L q cd hL => ?_) (by omega) rfl rfl
  · obtain ⟨x', rfl, ex⟩ := map1 e4
    rw [kw0 e5]
    obtain ⟨nm, qn, pa, bo, sc, gl, cl, de, kd, dc, pm, an, co, ct, bu⟩ := fd
    simp only at e1 e2 e3
    subst e1 e2 e3
    exact ⟨[("size", x')], rfl, by simp [ex]⟩
  refine BdT.loc (BdT.nil (BodyT.stmts ?_))
  refine EsT.cons (ExT.if (IfT.plain (EvT.free (a := a.CL) ok.cl (TruT.list lexH_ll ?_ (by simp [chV]; rw [sizeLine_eq]; omega)))))
  cases left with
  | nil =>
    refine ifF rfl ?_
    refine EsT.nil ?_
    refine EsT.cons ?_; refine ExT.return ?_; refine EvT.str ?_
    exact h
  | cons x l =>
    refine ifT rfl ?_
    refine EsT.cons ?_
    refine ExT.return ?_
    refine EvT.method (EvT.free (a := a.CL) ok.cl (GmT.list lexH_ll F.slot_list_pop F.type_list_pop ?_))
    refine ArgsT.pos ?_; refine ItsT.cons ?_; refine EvT.int ?_; refine ItsT.nil ?_
    refine ⟨trivial, CalT.pop0 (xs := chV l) lexH_ll (by simp [chV] at hz ⊢; omega) ?_⟩
    exact (lexH_setL (left := x :: l) (l' := l) (B := B) (a := a) (ln := ln)).symm ▸ h

theorem ExT.augAttr {o value : Expr} {attr : Str} {tp p : Pos} {op : Operator} {st : St} {Q : Flow → St → Prop}
    (h : EvT w h₀ c o st (fun ov st₁ => GatT w h₀ c.n ov attr st₁.H (fun old H₂ => EvT w h₀ c value ⟨st₁.lo, H₂⟩ (fun v st₃ => IopT w h₀ c.n op old v st₃.H (fun new H₄ => SetAT w h₀ c.n ov attr new H₄ (fun H₅ => Q .next ⟨st₃.lo, H₅⟩)))))) :
    ExT w h₀ c (.AugAssign (.Attribute o attr tp) op value p) st Q := by
  unfold ExT
  rw [arm_exec_AugAssign_2]
  refine Tr.bind (Tr.standAt (Tr.bind (Tr.mono h fun ov st₁ q => Tr.bind (Tr.holding (Tr.bind (Tr.standAt (Tr.bind (Tr.heap ((q ov true rfl).mono fun old H₂ q₂ => ?_)))))))))
  refine Tr.bind (Tr.holding (Tr.mono q₂ fun v st₃ q₃ => Tr.bind (Tr.standAt (Tr.operate (Tr.heap ((q₃ old v rfl rfl).mono fun new H₄ q₄ => ?_))))))
  refine Tr.bind (Tr.standAt (Tr.bind (Tr.holding (Tr.heap (st := ⟨st₃.lo, H₄⟩) ((q₄ ov new rfl rfl).mono fun _ H₅ q₅ => Tr.bind (Tr.release (Tr.pure q₅)))))))

theorem lexH_ds {B : AH} {a : LexA} {left : List Nat} {ln : Int} {d : Addr} (h : d ≠ a.DX) : (lexH B a left ln).ds d = B.ds d := if_neg h
theorem lexH_ls {B : AH} {a : LexA} {left : List Nat} {ln : Int} {d : Addr} (h : d ≠ a.LL) : (lexH B a left ln).ls d = B.ls d := if_neg h
theorem fi_lineno (P : Params) : findIn (K0 P) (.ref 52) "lineno" = some none := by kernel_rfl
theorem fi_instream (P : Params) : findIn (K0 P) (.ref 52) "instream" = some none := by kernel_rfl
theorem fi_whitespace (P : Params) : findIn (K0 P) (.ref 52) "whitespace" = some none := by kernel_rfl
theorem fi_pushback (P : Params) : findIn (K0 P) (.ref 52) "pushback" = some none := by kernel_rfl
theorem fi_readChar (P : Params) : findIn (K0 P) (.ref 52) "_read_char" = some (some (.ref 35)) := by kernel_rfl
theorem fi_getToken (P : Params) : findIn (K0 P) (.ref 52) "get_token" = some (some (.ref 42)) := by kernel_rfl
theorem fi_pushToken (P : Params) : findIn (K0 P) (.ref 52) "push_token" = some (some (.ref 49)) := by kernel_rfl
theorem ta_lineno (P : Params) : takerIn (K0 P) 52 "lineno" = some none := by kernel_rfl
theorem ta_instream (P : Params) : takerIn (K0 P) 52 "instream" = some none := by kernel_rfl
theorem ta_whitespace (P : Params) : takerIn (K0 P) 52 "whitespace" = some none := by kernel_rfl
theorem ta_pushback (P : Params) : takerIn (K0 P) 52 "pushback" = some none := by kernel_rfl
theorem ty_fn (P : Params) : typeIn (K0 P) (.ref 35) = some (.type "function") ∧ typeIn (K0 P) (.ref 42) = some (.type "function") ∧ typeIn (K0 P) (.ref 49) = some (.type "function") := ⟨by kernel_rfl, by kernel_rfl, by kernel_rfl⟩
theorem sp_fn (P : Params) : specialIn (K0 P) (.ref 35) "__get__" = some (some (.builtin "function.__get__")) := by kernel_rfl
theorem tk_fn (P : Params) : takesIn (K0 P) (.ref 35) = some false := by kernel_rfl
theorem cp_fn : copiedNames.contains "_read_char" = false := by decide +kernel
theorem fn_35 (P : Params) : fnIn (K0 P) 35 = true := by kernel_rfl
noncomputable def nlUp (x : Nat) (ln : Int) : Int := if x = 10 then ln + 1 else ln
noncomputable def rcPost (B : AH) (a : LexA) (left : List Nat) (ln : Int) (Q : Value → AH → Prop) : Prop := match left with
  | [] => Q (.str ⟨#[]⟩ 0) (lexH B a [] ln)
  | x :: l => Q (.str ⟨#[x]⟩ 0) (lexH B a l (nlUp x ln))
theorem T_readChar {B : AH} {X : Addr} {a : LexA} {left : List Nat} {ln : Int} {Q : Value → AH → Prop} (ok : LexOk B X a) (hn : n ≤ 90) (hz : left.length ≤ 1000) (h : rcPost B a left ln Q) : CallT w h₀ n (.ref 35) [.ref X] [] (lexH B a left ln) Q := by
  refine CallT.base (binds := [("self", .ref X)]) ⟨_, _, _, _, _, _, _, rfl, rfl, rfl, rfl⟩ (fun a' k' e2 e3 s I => ?_) (fun L hL => ?_) (by omega)
  · obtain ⟨x', rfl, ex⟩ := map1 e2
    rw [kw0 e3]
    exact ⟨[("self", x')], .of_eq rfl, by simp [ex]⟩
  refine BdT.loc (BdT.nil (BodyT.stmts ?_))
  obtain ⟨fa, hfa, hfd⟩ := ok.fs
  have hds : (lexH B a left ln).ds a.DS = some [(Str.ofString "read", Value.ref a.FR)] := (lexH_ds ok.n1).trans ok.ds
  refine EsT.cons ?_; refine ExT.assignName ?_; refine EvT.method ?_; refine EvT.attr ?_; refine EvT.local ?_
  refine GatT.inst (v := .ref a.FS) ok.x lexH_dx rfl (fi_instream _) (by intro i; simp) ?_
  refine GmT.fn (v := .ref a.FR) hfa hfd hds rfl (by intro i; simp) ?_
  refine ArgsT.pos ?_; refine ItsT.cons ?_; refine EvT.int ?_; refine ItsT.nil ?_
  refine ⟨.inr (fun z => by have := ok.fr.symm.trans z; cases this), CallT.cal (T_read ok (le_up hn) hz ?_)⟩
  cases left with
  | nil =>
    refine StoreT.local ?_; refine EsT.cons ?_; refine ExT.if ?_; refine IfT.compare ?_; refine EvT.local ?_; refine EvT.str ?_
    refine CmpT.eqS (TruT.bool (ifF rfl ?_))
    refine EsT.nil ?_; refine EsT.cons ?_; refine ExT.return ?_; refine EvT.local ?_
    exact h
  | cons x l =>
    refine StoreT.local ?_; refine EsT.cons ?_; refine ExT.if ?_; refine IfT.compare ?_; refine EvT.local ?_; refine EvT.str ?_
    refine CmpT.eqS (TruT.bool (ifB (fun hc => ?_) fun hc => ?_))
    · have ex : x = 10 := by have h1 : [x] = ([10] : List Nat) := eq_of_beq hc; simpa using h1
      refine EsT.cons ?_
      refine ExT.augAttr ?_
      refine EvT.local ?_
      refine GatT.inst (v := .int ln 0) ok.x lexH_dx rfl (fi_lineno _) (by intro i; simp) ?_
      refine EvT.int ?_
      refine IopT.addI (SetAT.inst ok.x lexH_dx (ta_lineno _) (by simp [kvL]) ?_)
      refine EsT.nil ?_; refine EsT.cons ?_; refine ExT.return ?_; refine EvT.local ?_
      have e : nlUp x ln = ln + 1 := if_pos ex
      have h2 : Q (.str ⟨#[x]⟩ 0) (lexH B a l (ln + 1)) := by rw [← e]; exact h
      exact (lexH_setD (left := l) (ln := ln) (ln' := ln + 1) (B := B) (a := a)).symm ▸ h2
    · have ex : x ≠ 10 := fun z => by rw [z] at hc; revert hc; decide
      refine EsT.nil ?_; refine EsT.cons ?_; refine ExT.return ?_; refine EvT.local ?_
      have e : nlUp x ln = ln := if_neg ex
      have h2 : Q (.str ⟨#[x]⟩ 0) (lexH B a l ln) := by rw [← e]; exact h
      exact h2

theorem T_push {H : AH} {X : Addr} {a : LexA} {ln : Int} {q : List Value} {v : Value} {Q : Value → AH → Prop} (hx : H.xs X = some a.DX) (hd : H.ds a.DX = some (kvL a ln)) (hp : H.ls a.PB = some q) (hn : n ≤ 90) (hz : q.length ≤ 1000) (h : Q .none (H.setL a.PB (q ++ [v]))) :
    CallT w h₀ n (.ref 49) [.ref X, v] [] H Q := by
  refine CallT.base (binds := [("self", .ref X), ("token", v)]) ⟨_, _, _, _, _, _, _, rfl, rfl, rfl, rfl⟩ (fun a' k' e2 e3 s I => ?_) (fun L hL => ?_) (by omega)
  · obtain ⟨x', y', rfl, ex, ey⟩ := map2 e2
    rw [kw0 e3]
    exact ⟨[("self", x'), ("token", y')], .of_eq rfl, by simp [ex, ey]⟩
  refine BdT.loc (BdT.loc (BdT.nil (BodyT.stmts ?_)))
  refine EsT.cons ?_; refine ExT.expr ?_; refine EvT.method ?_; refine EvT.attr ?_; refine EvT.local ?_
  refine GatT.inst (v := .ref a.PB) hx hd rfl (fi_pushback _) (by intro i; simp) ?_
  refine GmT.list hp F.slot_list_append F.type_list_append ?_
  refine ArgsT.pos ?_; refine ItsT.cons ?_; refine EvT.local ?_; refine ItsT.nil ?_
  refine ⟨trivial, CalT.append hp hz ?_⟩
  refine ⟨by intro a; simp, ?_⟩
  refine EsT.nil ?_
  exact h
theorem T_getQ {H : AH} {X : Addr} {a : LexA} {ln : Int} {q : List Value} {v : Value} {Q : Value → AH → Prop} (hx : H.xs X = some a.DX) (hd : H.ds a.DX = some (kvL a ln)) (hp : H.ls a.PB = some (v :: q)) (hn : n ≤ 90) (hz : q.length ≤ 900) (h : Q v (H.setL a.PB q)) :
    CallT w h₀ n (.ref 42) [.ref X] [] H Q := by
  refine CallT.base (binds := [("self", .ref X)]) ⟨_, _, _, _, _, _, _, rfl, rfl, rfl, rfl⟩ (fun a' k' e2 e3 s I => ?_) (fun L hL => ?_) (by omega)
  · obtain ⟨x', rfl, ex⟩ := map1 e2
    rw [kw0 e3]
    exact ⟨[("self", x')], .of_eq rfl, by simp [ex]⟩
  refine BdT.loc (BdT.nil (BodyT.stmts ?_))
  refine EsT.cons ?_; refine ExT.if ?_; refine IfT.plain ?_; refine EvT.attr ?_; refine EvT.local ?_
  refine GatT.inst (v := .ref a.PB) hx hd rfl (fi_pushback _) (by intro i; simp) ?_
  refine TruT.list hp (ifT rfl ?_) (by rw [sizeLine_eq]; simp; omega)
  refine EsT.cons ?_; refine ExT.return ?_; refine EvT.method ?_; refine EvT.attr ?_; refine EvT.local ?_
  refine GatT.inst (v := .ref a.PB) hx hd rfl (fi_pushback _) (by intro i; simp) ?_
  refine GmT.list hp F.slot_list_pop F.type_list_pop ?_
  refine ArgsT.pos ?_; refine ItsT.cons ?_; refine EvT.int ?_; refine ItsT.nil ?_
  refine ⟨trivial, CalT.pop0 hp (by omega) ?_⟩
  exact h

noncomputable def isWs (x : Nat) : Bool := decide (x ∈ ([10, 9, 13, 32] : List Nat))
theorem CmpT.inWs {x : Nat} {H : AH} {Q : Value → AH → Prop} (h : Q (.bool (isWs x)) H) : CmpT w h₀ n .In (.str ⟨#[x]⟩ 0) (.str ws4 0) H Q := by
  refine CmpT.inS ?_
  rw [StrLaws.found_one]
  exact h
inductive LxM where
  | start | quo | quEsc | pl | plEsc
noncomputable def lx : LxM → List Nat → List Nat → Int → List Nat × List Nat × Int
  | _, [], tok, ln => (tok, [], ln)
  | .start, x :: l, tok, ln => if isWs x then lx .start l tok (nlUp x ln) else if x = 34 then lx .quo l tok ln else if x = 92 then lx .plEsc l tok ln else lx .pl l (tok ++ [x]) ln
  | .quo, x :: l, tok, ln => if x = 34 then (tok, l, ln) else if x = 92 then lx .quEsc l tok ln else lx .quo l (tok ++ [x]) (nlUp x ln)
  | .quEsc, x :: l, tok, ln => lx .quo l (tok ++ [x]) (nlUp x ln)
  | .pl, x :: l, tok, ln => if isWs x then (tok, l, nlUp x ln) else if x = 92 then lx .plEsc l tok ln else lx .pl l (tok ++ [x]) ln
  | .plEsc, x :: l, tok, ln => lx .pl l (tok ++ [x]) (nlUp x ln)
noncomputable def tokS (t : List Nat) : Value := .str ⟨t.toArray⟩ 0
noncomputable abbrev Lo.g (lo : Lo) (x : Str) : Option Value := lo.lookup x
structure LoG (lo : Lo) (X it : Addr) (t : List Nat) : Prop where
  self : lo.g "self" = some (.ref X)
  token : lo.g "token" = some (tokS t)
  fiter : lo.g "fiter" = some (.ref it)
theorem LoG.put {lo : Lo} {X it : Addr} {t : List Nat} (g : LoG lo X it t) (v : Value) : LoG (lput "ch" v lo) X it t :=
  ⟨(lput_lookup _ _ _ _).trans ((if_neg (by decide)).trans g.self), (lput_lookup _ _ _ _).trans ((if_neg (by decide)).trans g.token), (lput_lookup _ _ _ _).trans ((if_neg (by decide)).trans g.fiter)⟩
theorem LoG.ch (lo : Lo) (v : Value) : Lo.g (lput "ch" v lo) "ch" = some v := (lput_lookup _ _ _ _).trans (if_pos rfl)
theorem LoG.tok {lo : Lo} {X it : Addr} {t : List Nat} (g : LoG lo X it t) (t' : List Nat) : LoG (lput "token" (tokS t') lo) X it t' :=
  ⟨(lput_lookup _ _ _ _).trans ((if_neg (by decide)).trans g.self), (lput_lookup _ _ _ _).trans (if_pos rfl), (lput_lookup _ _ _ _).trans ((if_neg (by decide)).trans g.fiter)⟩

/-- what the iterator over the signs gives -/
structure ItOk (B : AH) (X : Addr) (a : LexA) (it m : Addr) : Prop where
  ok : LexOk B X a
  it : B.is it = some (.call (.ref m) (.str ⟨#[]⟩ 0))
  m : B.is m = some (.meth 35 X)
theorem LexOk.setI {B : AH} {X : Addr} {a : LexA} (ok : LexOk B X a) (b : Addr) (x : ItA) : LexOk (B.setI b x) X a := ⟨ok.x, ok.fs, ok.ds, ok.fr, ok.cl, ok.n1, ok.n2⟩
theorem nx_char {B : AH} {X it m : Addr} {a : LexA} {left : List Nat} {ln : Int} {R : Option Value → AH → Prop} (k : ItOk B X a it m) (hn : n ≤ 80) (hz : left.length ≤ 1000)
    (h : match left with | [] => R none (lexH (B.setI it .done) a [] ln) | x :: l => R (some (.str ⟨#[x]⟩ 0)) (lexH B a l (nlUp x ln))) : NxT w h₀ n it (lexH B a left ln) R := by
  refine NxT.call (m := m) (f := 35) (x := X) (sen := ⟨#[]⟩) k.it k.m (fn_35 _) (T_readChar k.ok (by omega) hz ?_)
  cases left with
  | nil => exact ⟨_, rfl, k.it, k.m, by rw [if_pos (by decide)]; exact h⟩
  | cons x l => exact ⟨_, rfl, k.it, k.m, by rw [if_neg (by simp)]; exact h⟩
theorem str_app (t : List Nat) (x : Nat) : (⟨t.toArray⟩ : Str) ++ (⟨#[x]⟩ : Str) = ⟨(t ++ [x]).toArray⟩ := by
  show (⟨t.toArray ++ #[x]⟩ : Str) = _
  simp
theorem str_app0 (t : List Nat) : (⟨t.toArray⟩ : Str) ++ (⟨#[]⟩ : Str) = ⟨t.toArray⟩ := by
  show (⟨t.toArray ++ #[]⟩ : Str) = _
  simp

theorem one_eq {x y : Nat} {a b : List Nat} (ha : a = [x]) (hb : b = [y]) (h : (a == b) = true) : x = y := by
  subst ha hb; have h1 : [x] = [y] := eq_of_beq h; simpa using h1
theorem one_ne {x y : Nat} {a b : List Nat} (ha : a = [x]) (hb : b = [y]) (h : (a == b) = false) : x ≠ y := fun z => by
  subst ha hb z; rw [beq_self_eq_true] at h; cases h
theorem ahle_setI {B : AH} {b : Addr} {x : ItA} (h : ¬ B.dom b) : AHle B (B.setI b x) := ⟨fun _ _ e => e, fun _ _ e => e, fun _ _ e => e, fun _ _ e => e, fun _ _ e => e, fun _ _ e => e, fun b' y e => by
  have : b' ≠ b := fun z => h (z ▸ AH.dom_is e)
  rw [setI_miss this]; exact e⟩
theorem ahle_lexH {B B' : AH} {a : LexA} {l : List Nat} {ln : Int} (h : AHle B B') : AHle (lexH B a l ln) (lexH B' a l ln) :=
  ⟨fun b x e => by
    by_cases hb : b = a.LL
    · subst hb; rw [lexH_ll] at e ⊢; exact e
    · rw [lexH_ls hb] at e ⊢; exact h.ls b x e, h.ts, h.cs, fun b x e => by
    by_cases hb : b = a.DX
    · subst hb; rw [lexH_dx] at e ⊢; exact e
    · rw [lexH_ds hb] at e ⊢; exact h.ds b x e, h.xs, h.fs, h.is⟩
theorem notdom_lexH {B : AH} {X : Addr} {a : LexA} {l : List Nat} {ln : Int} {b : Addr} (h : ¬ (lexH B a l ln).dom b) : ¬ B.dom b := fun d => h (dom_setD (dom_setL d))

theorem rcPost_nil {B : AH} {a : LexA} {ln : Int} {Q : Value → AH → Prop} (h : Q (.str ⟨#[]⟩ 0) (lexH B a [] ln)) : rcPost B a [] ln Q := h
theorem rcPost_cons {B : AH} {a : LexA} {x : Nat} {l : List Nat} {ln : Int} {Q : Value → AH → Prop} (h : Q (.str ⟨#[x]⟩ 0) (lexH B a l (nlUp x ln))) : rcPost B a (x :: l) ln Q := h
theorem lx_start (x : Nat) (l tok : List Nat) (ln : Int) : lx .start (x :: l) tok ln = if isWs x then lx .start l tok (nlUp x ln) else if x = 34 then lx .quo l tok ln else if x = 92 then lx .plEsc l tok ln else lx .pl l (tok ++ [x]) ln := rfl
theorem lx_quo (x : Nat) (l tok : List Nat) (ln : Int) : lx .quo (x :: l) tok ln = if x = 34 then (tok, l, ln) else if x = 92 then lx .quEsc l tok ln else lx .quo l (tok ++ [x]) (nlUp x ln) := rfl
theorem lx_pl (x : Nat) (l tok : List Nat) (ln : Int) : lx .pl (x :: l) tok ln = if isWs x then (tok, l, nlUp x ln) else if x = 92 then lx .plEsc l tok ln else lx .pl l (tok ++ [x]) ln := rfl
theorem lx_nil (k : LxM) (tok : List Nat) (ln : Int) : lx k [] tok ln = (tok, [], ln) := by cases k <;> rfl
noncomputable def stBody : Stmt → List Stmt
  | .FunctionDef _ _ b _ _ _ _ _ _ _ => b
  | .For _ _ b _ _ => b
  | .If _ b _ _ => b
  | _ => []
noncomputable def stElse : Stmt → List Stmt
  | .If _ _ o _ => o
  | _ => []
noncomputable def stAt (l : List Stmt) (i : Nat) : Stmt := (l[i]?).getD default
noncomputable def gtFor : Stmt := stAt (stBody (clsSt 1 2)) 3
noncomputable def gtQu : Stmt := stAt (stBody (stAt (stBody gtFor) 1)) 0
noncomputable def gtPl : Stmt := stAt (stElse (stAt (stBody gtFor) 1)) 2
noncomputable def cGt (n : Nat) (L : Addr) (q : Str) (cd : Value) : Cx := cFn n L (fnD (clsSt 1 2) "" .none .none .none .none).scope [] q 42 cd
structure GtJ (B' : AH) (X : Addr) (a : LexA) (it : Addr) (md : LxM) (t rest : List Nat) (ln' : Int) (k : Nat) (st : St) : Prop where
  ex : ∃ l2 tk ln2, k = l2.length ∧ tk.length + l2.length ≤ 900 ∧ LoG st.lo X it tk ∧ st.H = lexH B' a l2 ln2 ∧ lx md l2 tk ln2 = (t, rest, ln')
section
variable {L : Addr} {qn : Str} {cd : Value} {B' : AH} {X : Addr} {a : LexA} {it m : Addr} {t rest : List Nat} {ln' : Int} {N : Flow → St → Prop}
set_option maxHeartbeats 1000000 in
theorem gt_qu (k0 : ItOk B' X a it m) (hn : n ≤ 70) {lo : Lo} {l tk0 : List Nat} {lnn : Int} (hlo : LoG lo X it tk0) (hl : tk0.length + l.length ≤ 900) (hlx : lx .quo l tk0 lnn = (t, rest, ln'))
    (hret : ∀ lo, N (.ret (tokS t)) ⟨lo, lexH B' a rest ln'⟩) (hend : rest = [] → ∀ lo, LoG lo X it t → N .next ⟨lo, lexH (B'.setI it .done) a [] ln'⟩) : ExT w h₀ (cGt n L qn cd) gtQu ⟨lo, lexH B' a l lnn⟩ N := by
  show ExT w h₀ _ (.For _ _ _ _ _) _ _
  refine ExT.for ?_
  refine EvT.local ?_ hlo.fiter
  refine ItrT.call (x := .call (.ref m) (.str ⟨#[]⟩ 0)) k0.it (.inr ⟨_, _, rfl⟩) ?_
  refine ⟨GtJ B' X a it .quo t rest ln', l.length, ⟨l, tk0, lnn, rfl, hl, hlo, rfl, hlx⟩, ?_⟩
  rintro k ⟨lo2, H2⟩ ⟨l2, tk, ln2, rfl, hl2, hlo2, hH2, hlx2⟩
  subst hH2
  refine TurnT.opq fun N' hN hC hB hR => ?_
  refine nx_char k0 (le_up hn) (by omega) ?_
  cases l2 with
  | nil =>
    rw [lx_nil] at hlx2
    obtain ⟨rfl, rfl, rfl⟩ : tk = t ∧ [] = rest ∧ ln2 = ln' := by simpa using hlx2
    refine EsT.nil ?_
    exact hend rfl _ hlo2
  | cons x2 l2 =>
    rw [List.length_cons] at hl2
    refine AsT.name ?_; refine StoreT.local ?_
    have hlo3 := hlo2.put (.str ⟨#[x2]⟩ 0)
    have hch3 : Lo.g (lput "ch" (.str ⟨#[x2]⟩ 0) lo2) "ch" = some (.str ⟨#[x2]⟩ 0) := LoG.ch _ _
    generalize lput "ch" (Value.str ⟨#[x2]⟩ 0) lo2 = lo3 at hlo3 hch3
    refine EsT.cons ?_; refine ExT.if ?_; refine IfT.compare ?_
    refine EvT.local ?_ hch3
    refine EvT.str ?_
    rw [lx_quo] at hlx2
    refine CmpT.eqS (TruT.bool (ifB (fun hc3 => ?_) fun hc3 => ?_))
    · have ex3 : x2 = 34 := one_eq (y := 34) rfl rfl hc3
      rw [if_pos ex3] at hlx2
      obtain ⟨rfl, rfl, rfl⟩ : tk = t ∧ l2 = rest ∧ ln2 = ln' := by simpa using hlx2
      have e4 : nlUp x2 ln2 = ln2 := if_neg (by omega)
      refine EsT.cons ?_; refine ExT.return ?_
      refine EvT.local ?_ hlo3.token
      rw [e4]
      exact hR (hret _)
    rw [if_neg (one_ne (y := 34) rfl rfl hc3)] at hlx2
    refine EsT.cons ?_; refine ExT.if ?_; refine IfT.compare ?_
    refine EvT.local ?_ hch3
    refine EvT.str ?_
    refine CmpT.eqS (TruT.bool (ifB (fun hc4 => ?_) fun hc4 => ?_))
    · have ex4 : x2 = 92 := one_eq (y := 92) rfl rfl hc4
      rw [if_pos ex4] at hlx2
      have e4 : nlUp x2 ln2 = ln2 := if_neg (by omega)
      rw [e4]
      refine EsT.cons ?_; refine ExT.assignName ?_; refine EvT.method ?_
      refine EvT.local ?_ hlo3.self
      refine GmT.inst (f := 35) k0.ok.x lexH_dx rfl (fi_readChar _) (ty_fn _).1 ?_
      refine ArgsT.nil ?_
      refine ⟨.inl rfl, CallT.cal (T_readChar k0.ok (le_up hn) (by omega) ?_)⟩
      cases l2 with
      | nil =>
        refine rcPost_nil ?_
        refine StoreT.local ?_; repeat (first | with_reducible refine EsT.nil ?_ | with_reducible refine EsT.cons ?_)
        have hlo5 := hlo3.put (.str ⟨#[]⟩ 0)
        have hch5 : Lo.g (lput "ch" (.str ⟨#[]⟩ 0) lo3) "ch" = some (.str ⟨#[]⟩ 0) := LoG.ch _ _
        generalize lput "ch" (Value.str ⟨#[]⟩ 0) lo3 = lo5 at hlo5 hch5
        refine ExT.augName (v0 := tokS tk) ?_ hlo5.token; refine EvT.local ?_ hch5
        refine IopT.addS (a := ⟨tk.toArray⟩) (b := ⟨#[]⟩) ?_ (by rw [sizeLine_eq]; simp [Str.length]; omega)
        rw [str_app0]
        refine StoreT.local ?_; repeat (first | with_reducible refine EsT.nil ?_ | with_reducible refine EsT.cons ?_)
        exact hN ⟨0, by simp, [], tk, ln2, rfl, by omega, hlo5.tok tk, rfl, hlx2⟩
      | cons y l3 =>
        rw [List.length_cons] at hl2
        refine rcPost_cons ?_
        refine StoreT.local ?_; repeat (first | with_reducible refine EsT.nil ?_ | with_reducible refine EsT.cons ?_)
        have hlo5 := hlo3.put (.str ⟨#[y]⟩ 0)
        have hch5 : Lo.g (lput "ch" (.str ⟨#[y]⟩ 0) lo3) "ch" = some (.str ⟨#[y]⟩ 0) := LoG.ch _ _
        generalize lput "ch" (Value.str ⟨#[y]⟩ 0) lo3 = lo5 at hlo5 hch5
        refine ExT.augName (v0 := tokS tk) ?_ hlo5.token; refine EvT.local ?_ hch5
        refine IopT.addS (a := ⟨tk.toArray⟩) (b := ⟨#[y]⟩) ?_ (by rw [sizeLine_eq]; simp [Str.length]; omega)
        rw [str_app]
        refine StoreT.local ?_; repeat (first | with_reducible refine EsT.nil ?_ | with_reducible refine EsT.cons ?_)
        exact hN ⟨l3.length, by simp only [List.length_cons]; omega, l3, tk ++ [y], nlUp y ln2, rfl, by simp; omega, hlo5.tok (tk ++ [y]), rfl, hlx2⟩
    · rw [if_neg (one_ne (y := 92) rfl rfl hc4)] at hlx2
      repeat (first | with_reducible refine EsT.nil ?_ | with_reducible refine EsT.cons ?_)
      refine ExT.augName (v0 := tokS tk) ?_ hlo3.token; refine EvT.local ?_ hch3
      refine IopT.addS (a := ⟨tk.toArray⟩) (b := ⟨#[x2]⟩) ?_ (by rw [sizeLine_eq]; simp [Str.length]; omega)
      rw [str_app]
      refine StoreT.local ?_; repeat (first | with_reducible refine EsT.nil ?_ | with_reducible refine EsT.cons ?_)
      exact hN ⟨l2.length, by simp, l2, tk ++ [x2], nlUp x2 ln2, rfl, by simp; omega, hlo3.tok (tk ++ [x2]), rfl, hlx2⟩
set_option maxHeartbeats 1000000 in
theorem gt_pl (k0 : ItOk B' X a it m) (hn : n ≤ 70) {lo : Lo} {l tk0 : List Nat} {lnn : Int} (hlo : LoG lo X it tk0) (hl : tk0.length + l.length ≤ 900) (hlx : lx .pl l tk0 lnn = (t, rest, ln'))
    (hret : ∀ lo, N (.ret (tokS t)) ⟨lo, lexH B' a rest ln'⟩) (hend : rest = [] → ∀ lo, LoG lo X it t → N .next ⟨lo, lexH (B'.setI it .done) a [] ln'⟩) : ExT w h₀ (cGt n L qn cd) gtPl ⟨lo, lexH B' a l lnn⟩ N := by
  show ExT w h₀ _ (.For _ _ _ _ _) _ _
  refine ExT.for ?_
  refine EvT.local ?_ hlo.fiter
  refine ItrT.call (x := .call (.ref m) (.str ⟨#[]⟩ 0)) k0.it (.inr ⟨_, _, rfl⟩) ?_
  refine ⟨GtJ B' X a it .pl t rest ln', l.length, ⟨l, tk0, lnn, rfl, hl, hlo, rfl, hlx⟩, ?_⟩
  rintro k ⟨lo2, H2⟩ ⟨l2, tk, ln2, rfl, hl2, hlo2, hH2, hlx2⟩
  subst hH2
  refine TurnT.opq fun N' hN hC hB hR => ?_
  refine nx_char k0 (le_up hn) (by omega) ?_
  cases l2 with
  | nil =>
    rw [lx_nil] at hlx2
    obtain ⟨rfl, rfl, rfl⟩ : tk = t ∧ [] = rest ∧ ln2 = ln' := by simpa using hlx2
    refine EsT.nil ?_
    exact hend rfl _ hlo2
  | cons x2 l2 =>
    rw [List.length_cons] at hl2
    refine AsT.name ?_; refine StoreT.local ?_
    have hlo3 := hlo2.put (.str ⟨#[x2]⟩ 0)
    have hch3 : Lo.g (lput "ch" (.str ⟨#[x2]⟩ 0) lo2) "ch" = some (.str ⟨#[x2]⟩ 0) := LoG.ch _ _
    generalize lput "ch" (Value.str ⟨#[x2]⟩ 0) lo2 = lo3 at hlo3 hch3
    refine EsT.cons ?_; refine ExT.if ?_; refine IfT.compare ?_
    refine EvT.local ?_ hch3
    refine EvT.attr ?_; refine EvT.local ?_ hlo3.self
    refine GatT.inst (v := .str ws4 0) k0.ok.x lexH_dx rfl (fi_whitespace _) (by intro i; simp) ?_
    rw [lx_pl] at hlx2
    refine CmpT.inWs (TruT.bool (ifB (fun hc3 => ?_) fun hc3 => ?_))
    · rw [if_pos hc3] at hlx2
      obtain ⟨rfl, rfl, rfl⟩ : tk = t ∧ l2 = rest ∧ nlUp x2 ln2 = ln' := by simpa using hlx2
      refine EsT.cons ?_; refine ExT.return ?_
      refine EvT.local ?_ hlo3.token
      exact hR (hret _)
    rw [if_neg (by rw [hc3]; decide)] at hlx2
    have e4 : nlUp x2 ln2 = ln2 := if_neg fun z => by subst z; exact absurd hc3 (by decide)
    rw [e4]
    refine EsT.cons ?_; refine ExT.if ?_; refine IfT.compare ?_
    refine EvT.local ?_ hch3
    refine EvT.str ?_
    refine CmpT.eqS (TruT.bool (ifB (fun hc4 => ?_) fun hc4 => ?_))
    · have ex4 : x2 = 92 := one_eq (y := 92) rfl rfl hc4
      rw [if_pos ex4] at hlx2
      refine EsT.cons ?_; refine ExT.assignName ?_; refine EvT.method ?_
      refine EvT.local ?_ hlo3.self
      refine GmT.inst (f := 35) k0.ok.x lexH_dx rfl (fi_readChar _) (ty_fn _).1 ?_
      refine ArgsT.nil ?_
      refine ⟨.inl rfl, CallT.cal (T_readChar k0.ok (le_up hn) (by omega) ?_)⟩
      cases l2 with
      | nil =>
        refine rcPost_nil ?_
        refine StoreT.local ?_; repeat (first | with_reducible refine EsT.nil ?_ | with_reducible refine EsT.cons ?_)
        have hlo5 := hlo3.put (.str ⟨#[]⟩ 0)
        have hch5 : Lo.g (lput "ch" (.str ⟨#[]⟩ 0) lo3) "ch" = some (.str ⟨#[]⟩ 0) := LoG.ch _ _
        generalize lput "ch" (Value.str ⟨#[]⟩ 0) lo3 = lo5 at hlo5 hch5
        refine ExT.augName (v0 := tokS tk) ?_ hlo5.token; refine EvT.local ?_ hch5
        refine IopT.addS (a := ⟨tk.toArray⟩) (b := ⟨#[]⟩) ?_ (by rw [sizeLine_eq]; simp [Str.length]; omega)
        rw [str_app0]
        refine StoreT.local ?_; repeat (first | with_reducible refine EsT.nil ?_ | with_reducible refine EsT.cons ?_)
        exact hN ⟨0, by simp, [], tk, ln2, rfl, by omega, hlo5.tok tk, rfl, hlx2⟩
      | cons y l3 =>
        rw [List.length_cons] at hl2
        refine rcPost_cons ?_
        refine StoreT.local ?_; repeat (first | with_reducible refine EsT.nil ?_ | with_reducible refine EsT.cons ?_)
        have hlo5 := hlo3.put (.str ⟨#[y]⟩ 0)
        have hch5 : Lo.g (lput "ch" (.str ⟨#[y]⟩ 0) lo3) "ch" = some (.str ⟨#[y]⟩ 0) := LoG.ch _ _
        generalize lput "ch" (Value.str ⟨#[y]⟩ 0) lo3 = lo5 at hlo5 hch5
        refine ExT.augName (v0 := tokS tk) ?_ hlo5.token; refine EvT.local ?_ hch5
        refine IopT.addS (a := ⟨tk.toArray⟩) (b := ⟨#[y]⟩) ?_ (by rw [sizeLine_eq]; simp [Str.length]; omega)
        rw [str_app]
        refine StoreT.local ?_; repeat (first | with_reducible refine EsT.nil ?_ | with_reducible refine EsT.cons ?_)
        exact hN ⟨l3.length, by simp only [List.length_cons]; omega, l3, tk ++ [y], nlUp y ln2, rfl, by simp; omega, hlo5.tok (tk ++ [y]), rfl, hlx2⟩
    · have hne4 := one_ne (y := 92) rfl rfl hc4
      rw [if_neg hne4] at hlx2
      repeat (first | with_reducible refine EsT.nil ?_ | with_reducible refine EsT.cons ?_)
      refine ExT.augName (v0 := tokS tk) ?_ hlo3.token; refine EvT.local ?_ hch3
      refine IopT.addS (a := ⟨tk.toArray⟩) (b := ⟨#[x2]⟩) ?_ (by rw [sizeLine_eq]; simp [Str.length]; omega)
      rw [str_app]
      refine StoreT.local ?_; repeat (first | with_reducible refine EsT.nil ?_ | with_reducible refine EsT.cons ?_)
      exact hN ⟨l2.length, by simp, l2, tk ++ [x2], ln2, rfl, by simp; omega, hlo3.tok (tk ++ [x2]), rfl, hlx2⟩
end
set_option maxHeartbeats 1000000 in
theorem T_getTok {B : AH} {X : Addr} {a : LexA} {left : List Nat} {ln : Int} {t rest : List Nat} {ln' : Int} {Q : Value → AH → Prop} (ok : LexOk B X a) (hq : B.ls a.PB = some []) (hn : n ≤ 70) (hz : left.length ≤ 900)
    (hr : lx .start left [] ln = (t, rest, ln')) (h : Q (tokS t) (lexH B a rest ln')) : CallT w h₀ n (.ref 42) [.ref X] [] (lexH B a left ln) Q := by
  refine CallT.drop ?_
  have fin : ∀ B1, AHle B B1 → ∃ H'', AHle H'' (lexH B1 a rest ln') ∧ Q (tokS t) H'' := fun B1 l => ⟨_, ahle_lexH l, h⟩
  refine CallT.base (binds := [("self", .ref X)]) ⟨_, _, _, _, _, _, _, rfl, rfl, rfl, rfl⟩ (fun a' k' e2 e3 s I => ?_) (fun L hL => ?_) (by omega)
  · obtain ⟨x', rfl, ex⟩ := map1 e2
    rw [kw0 e3]
    exact ⟨[("self", x')], .of_eq rfl, by simp [ex]⟩
  refine BdT.loc (BdT.nil (BodyT.stmts ?_))
  have hpb : (lexH B a left ln).ls a.PB = some [] := (lexH_ls ok.n2).trans hq
  refine EsT.cons ?_; refine ExT.if ?_; refine IfT.plain ?_; refine EvT.attr ?_; refine EvT.local ?_
  refine GatT.inst (v := .ref a.PB) ok.x lexH_dx rfl (fi_pushback _) (by intro i; simp) ?_
  refine TruT.list hpb (ifF rfl ?_) (by rw [sizeLine_eq]; simp)
  refine EsT.nil ?_
  refine EsT.cons ?_; refine ExT.assignName ?_; refine EvT.str ?_; refine StoreT.local ?_
  refine EsT.cons ?_; refine ExT.assignName ?_; refine EvT.call ?_; refine EvT.builtin ?_; refine ArgsT.pos ?_; refine ItsT.cons ?_; refine EvT.attr ?_; refine EvT.local ?_
  refine GatT.bound (f := 35) ok.x lexH_dx rfl (fi_readChar _) (ty_fn _).1 (sp_fn _) (tk_fn _) cp_fn fun m hm => ?_
  refine ItsT.cons ?_; refine EvT.str ?_; refine ItsT.nil ?_
  refine ⟨trivial, CalT.iter2 (f := 35) (x := X) (setI_hit _ _ _) fun it hit => ?_⟩
  refine StoreT.local ?_
  refine EsT.cons ?_
  have hm0 : ¬ B.dom m := notdom_lexH (X := X) hm
  have hne : m ≠ it := fun z => hit (z ▸ AH.dom_is (setI_hit _ _ _))
  have hit0 : ¬ (B.setI m (.meth 35 X)).dom it := fun d => hit (by
    have : (lexH (B.setI m (.meth 35 X)) a left ln).dom it := dom_setD (dom_setL d)
    exact this)
  have k0 : ItOk ((B.setI m (.meth 35 X)).setI it (.call (.ref m) (.str ⟨#[]⟩ 0))) X a it m := ⟨(ok.setI _ _).setI _ _, setI_hit _ _ _, (setI_miss hne).trans (setI_hit _ _ _)⟩
  have le0 : ∀ y, AHle B ((B.setI m (.meth 35 X)).setI it y) := fun y => (ahle_setI hm0).trans (ahle_setI hit0)
  generalize hB' : (B.setI m (.meth 35 X)).setI it (.call (.ref m) (.str ⟨#[]⟩ 0)) = B' at k0
  have leB' : AHle B B' := hB' ▸ le0 _
  have leBd : AHle B (B'.setI it .done) := by rw [← hB', setI_setI]; exact le0 _
  refine ExT.for ?_
  refine EvT.local ?_
  refine ItrT.call (x := .call (.ref m) (.str ⟨#[]⟩ 0)) (setI_hit _ _ _) (.inr ⟨_, _, rfl⟩) ?_
  refine ⟨fun k st' => (k = 0 ∧ LoG st'.lo X it t ∧ st'.H = lexH (B'.setI it .done) a [] ln' ∧ rest = []) ∨
    (∃ l lnn, k = l.length + 1 ∧ l.length ≤ 900 ∧ LoG st'.lo X it [] ∧ st'.H = lexH B' a l lnn ∧ lx .start l [] lnn = (t, rest, ln')), left.length + 1, .inr ⟨left, ln, rfl, hz, ⟨rfl, rfl, rfl⟩, by rw [← hB']; rfl, hr⟩, ?_⟩
  rintro k st' (⟨rfl, hlo, hH, hrest⟩ | ⟨l, lnn, rfl, hl, hlo, hH, hlx⟩)
  · unfold TurnT
    rw [hH]
    refine NxT.done (setI_hit _ _ _) ?_
    refine EsT.nil ?_
    refine EsT.cons ?_; refine ExT.return ?_
    refine EvT.local ?_ hlo.token
    rw [hrest] at fin
    exact fin _ leBd
  refine TurnT.opq fun N hN hC hB hR => ?_
  rw [hH]
  refine nx_char k0 (le_up hn) (by omega) ?_
  cases l with
  | nil =>
    have e : ([], [], lnn) = (t, rest, ln') := hlx
    obtain ⟨rfl, rfl, rfl⟩ : [] = t ∧ [] = rest ∧ lnn = ln' := by simpa using e
    refine EsT.nil ?_
    refine EsT.cons ?_; refine ExT.return ?_
    refine EvT.local ?_ hlo.token
    exact fin _ leBd
  | cons x l =>
    rw [List.length_cons] at hl
    refine AsT.name ?_; refine StoreT.local ?_
    have hlo1 := hlo.put (.str ⟨#[x]⟩ 0)
    have hch : Lo.g (lput "ch" (.str ⟨#[x]⟩ 0) st'.lo) "ch" = some (.str ⟨#[x]⟩ 0) := LoG.ch _ _
    generalize lput "ch" (Value.str ⟨#[x]⟩ 0) st'.lo = lo1 at hlo1 hch
    refine EsT.cons ?_; refine ExT.if ?_; refine IfT.compare ?_
    refine EvT.local ?_ hch
    refine EvT.attr (EvT.local ?_ hlo1.self)
    refine GatT.inst (v := .str ws4 0) k0.ok.x lexH_dx rfl (fi_whitespace _) (by intro i; simp) ?_
    refine CmpT.inWs (TruT.bool (ifB (fun hw => ?_) fun hw => ?_))
    · refine EsT.cons ?_; refine ExT.continue ?_
      have e : lx .start l [] (nlUp x lnn) = (t, rest, ln') := by rw [← hlx, lx_start, if_pos hw]
      exact hC ⟨l.length + 1, by simp, .inr ⟨l, _, rfl, by omega, hlo1, rfl, e⟩⟩
    have hlx1 : (if x = 34 then lx .quo l [] lnn else if x = 92 then lx .plEsc l [] lnn else lx .pl l [x] lnn) = (t, rest, ln') := by
      have e0 := hlx
      rw [lx_start, if_neg (by rw [hw]; decide)] at e0
      exact e0
    have hnl : nlUp x lnn = lnn := if_neg fun z => by subst z; exact absurd hw (by decide)
    rw [hnl]
    refine EsT.nil ?_
    refine EsT.cons ?_; refine ExT.if ?_; refine IfT.compare ?_
    refine EvT.local ?_ hch
    refine EvT.str ?_
    refine CmpT.eqS (TruT.bool (ifB (fun hc => ?_) fun hc => ?_))
    · -- a quotation mark
      have ex : x = 34 := one_eq (y := 34) rfl rfl hc
      rw [if_pos ex] at hlx1
      refine EsT.cons ?_
      refine gt_qu k0 hn hlo1 (by simp; omega) hlx1 (fun lo => hR (fin _ leB')) fun er lo hl2 => ?_
      refine EsT.nil ?_; refine EsT.nil ?_
      exact hN ⟨0, by omega, .inl ⟨rfl, hl2, rfl, er⟩⟩
    · have ex : x ≠ 34 := one_ne (y := 34) rfl rfl hc
      rw [if_neg ex] at hlx1
      have t1 : ∀ lo, N (.ret (tokS t)) ⟨lo, lexH B' a rest ln'⟩ := fun lo => hR (fin _ leB')
      have t2 : rest = [] → ∀ lo, LoG lo X it t → N .next ⟨lo, lexH (B'.setI it .done) a [] ln'⟩ := fun er lo hl2 => hN ⟨0, by omega, .inl ⟨rfl, hl2, rfl, er⟩⟩
      refine EsT.cons ?_; refine ExT.if ?_; refine IfT.compare ?_
      refine EvT.local ?_ hch
      refine EvT.str ?_
      refine CmpT.eqS (TruT.bool (ifB (fun hb => ?_) fun hb => ?_))
      · have ex4 : x = 92 := one_eq (y := 92) rfl rfl hb
        rw [if_pos ex4] at hlx1
        refine EsT.cons ?_; refine ExT.assignName ?_; refine EvT.method ?_
        refine EvT.local ?_ hlo1.self
        refine GmT.inst (f := 35) k0.ok.x lexH_dx rfl (fi_readChar _) (ty_fn _).1 ?_
        refine ArgsT.nil ?_
        refine ⟨.inl rfl, CallT.cal (T_readChar k0.ok (le_up hn) (by omega) ?_)⟩
        cases l with
        | nil =>
          refine rcPost_nil ?_
          refine StoreT.local ?_; repeat (first | with_reducible refine EsT.nil ?_ | with_reducible refine EsT.cons ?_)
          have hloa := hlo1.put (.str ⟨#[]⟩ 0)
          have hcha : Lo.g (lput "ch" (.str ⟨#[]⟩ 0) lo1) "ch" = some (.str ⟨#[]⟩ 0) := LoG.ch _ _
          generalize lput "ch" (Value.str ⟨#[]⟩ 0) lo1 = loa at hloa hcha
          refine ExT.augName (v0 := tokS []) ?_ hloa.token; refine EvT.local ?_ hcha
          refine IopT.addS (a := ⟨([] : List Nat).toArray⟩) (b := ⟨#[]⟩) ?_ (by rw [sizeLine_eq]; simp [Str.length])
          rw [str_app0]
          refine StoreT.local ?_; repeat (first | with_reducible refine EsT.nil ?_ | with_reducible refine EsT.cons ?_)
          have hlob := hloa.tok []
          have hlxb : lx .pl [] [] lnn = (t, rest, ln') := hlx1
          exact gt_pl k0 hn hlob (by simp) hlxb t1 fun er lo hl2 => EsT.nil (EsT.nil (t2 er lo hl2))
        | cons y l3 =>
          rw [List.length_cons] at hl
          refine rcPost_cons ?_
          refine StoreT.local ?_; repeat (first | with_reducible refine EsT.nil ?_ | with_reducible refine EsT.cons ?_)
          have hloa := hlo1.put (.str ⟨#[y]⟩ 0)
          have hcha : Lo.g (lput "ch" (.str ⟨#[y]⟩ 0) lo1) "ch" = some (.str ⟨#[y]⟩ 0) := LoG.ch _ _
          generalize lput "ch" (Value.str ⟨#[y]⟩ 0) lo1 = loa at hloa hcha
          refine ExT.augName (v0 := tokS []) ?_ hloa.token; refine EvT.local ?_ hcha
          refine IopT.addS (a := ⟨([] : List Nat).toArray⟩) (b := ⟨#[y]⟩) ?_ (by rw [sizeLine_eq]; simp [Str.length])
          rw [str_app]
          refine StoreT.local ?_; repeat (first | with_reducible refine EsT.nil ?_ | with_reducible refine EsT.cons ?_)
          have hlob := hloa.tok ([] ++ [y])
          have hlxb : lx .pl l3 ([] ++ [y]) (nlUp y lnn) = (t, rest, ln') := hlx1
          exact gt_pl k0 hn hlob (by simp; omega) hlxb t1 fun er lo hl2 => EsT.nil (EsT.nil (t2 er lo hl2))
      · rw [if_neg (one_ne (y := 92) rfl rfl hb)] at hlx1
        repeat (first | with_reducible refine EsT.nil ?_ | with_reducible refine EsT.cons ?_)
        refine ExT.augName (v0 := tokS []) ?_ hlo1.token; refine EvT.local ?_ hch
        refine IopT.addS (a := ⟨([] : List Nat).toArray⟩) (b := ⟨#[x]⟩) ?_ (by rw [sizeLine_eq]; simp [Str.length])
        rw [str_app]
        refine StoreT.local ?_; repeat (first | with_reducible refine EsT.nil ?_ | with_reducible refine EsT.cons ?_)
        have hlob := hlo1.tok ([] ++ [x])
        exact gt_pl k0 hn hlob (by simp; omega) hlx1 t1 fun er lo hl2 => EsT.nil (EsT.nil (t2 er lo hl2))

theorem T_init {H : AH} {X d fs : Addr} {Q : Value → AH → Prop} (hx : H.xs X = some d) (hd : H.ds d = some []) (hn : n ≤ 90)
    (h : ∀ pb, ¬ H.dom pb → Q .none ((H.setL pb []).setD d [("lineno", .int 1 0), ("instream", .ref fs), ("whitespace", .str ws4 0), ("pushback", .ref pb)])) : CallT w h₀ n (.ref 28) [.ref X, .ref fs] [] H Q := by
  refine CallT.base (binds := [("self", .ref X), ("fp", .ref fs)]) ⟨_, _, _, _, _, _, _, rfl, rfl, rfl, rfl⟩ (fun a' k' e2 e3 s I => ?_) (fun L hL => ?_) (by omega)
  · obtain ⟨x', y', rfl, ex, ey⟩ := map2 e2
    rw [kw0 e3]
    exact ⟨[("self", x'), ("fp", y')], .of_eq rfl, by simp [ex, ey]⟩
  refine BdT.loc (BdT.loc (BdT.nil (BodyT.stmts ?_)))
  refine EsT.cons ?_; refine ExT.assignT ?_; refine EvT.int ?_; refine AsT.attr ?_; refine EvT.local ?_
  refine SetAT.inst (kv := []) hx hd (ta_lineno _) (by simp) ?_
  refine EsT.cons ?_; refine ExT.assignT ?_; refine EvT.local ?_; refine AsT.attr ?_; refine EvT.local ?_
  refine SetAT.inst (kv := [("lineno", .int 1 0)]) hx (setD_hit _ _ _) (ta_instream _) (by simp) ?_
  refine EsT.cons ?_; refine ExT.assignT ?_; refine EvT.str ?_; refine AsT.attr ?_; refine EvT.local ?_
  refine SetAT.inst (kv := [("lineno", .int 1 0), ("instream", .ref fs)]) hx (setD_hit _ _ _) (ta_whitespace _) (by simp) ?_
  refine EsT.cons ?_; refine ExT.assignT ?_; refine EvT.list ?_; refine ItsT.nil ?_
  refine ⟨by simp, fun pb hpb => ?_⟩
  refine AsT.attr ?_; refine EvT.local ?_
  refine SetAT.inst (kv := [("lineno", .int 1 0), ("instream", .ref fs), ("whitespace", .str ws4 0)]) hx (setD_hit _ _ _) (ta_pushback _) (by simp) ?_
  refine EsT.nil ?_
  have h2 := h pb (fun z => hpb (dom_setD (dom_setD (dom_setD z))))
  have e : ∀ (A B C D : List (Str × Value)), ((((((H.setD d A).setD d B).setD d C).setL pb []).setD d D) : AH) = (H.setL pb []).setD d D := fun A B C D => by
    rw [setD_setD, setD_setD]
    show ((H.setL pb []).setD d C).setD d D = _
    rw [setD_setD]
  exact (e _ _ _ _).symm ▸ h2

theorem AHle.setL {H G : AH} {a : Addr} {x : List Value} (l : AHle H G) (h : ¬ H.dom a) : AHle H (G.setL a x) := ⟨fun b y e => (by by_cases hb : b = a; (subst hb; exact absurd (AH.dom_ls e) h); (rw [setL_miss hb]; exact l.ls b y e)), l.ts, l.cs, l.ds, l.xs, l.fs, l.is⟩
theorem AHle.setT {H G : AH} {a : Addr} {x : List Value} (l : AHle H G) (h : ¬ H.dom a) : AHle H (G.setT a x) := ⟨l.ls, fun b y e => (by by_cases hb : b = a; (subst hb; exact absurd (AH.dom_ts e) h); (rw [setT_miss hb]; exact l.ts b y e)), l.cs, l.ds, l.xs, l.fs, l.is⟩
theorem AHle.setC {H G : AH} {a : Addr} {x : Option Value} (l : AHle H G) (h : ¬ H.dom a) : AHle H (G.setC a x) := ⟨l.ls, l.ts, fun b y e => (by by_cases hb : b = a; (subst hb; exact absurd (AH.dom_cs e) h); (rw [setC_miss hb]; exact l.cs b y e)), l.ds, l.xs, l.fs, l.is⟩
theorem AHle.setD {H G : AH} {a : Addr} {x : List (Str × Value)} (l : AHle H G) (h : ¬ H.dom a) : AHle H (G.setD a x) := ⟨l.ls, l.ts, l.cs, fun b y e => (by by_cases hb : b = a; (subst hb; exact absurd (AH.dom_ds e) h); (rw [setD_miss hb]; exact l.ds b y e)), l.xs, l.fs, l.is⟩
theorem AHle.setX {H G : AH} {a : Addr} {x : Addr} (l : AHle H G) (h : ¬ H.dom a) : AHle H (G.setX a x) := ⟨l.ls, l.ts, l.cs, l.ds, fun b y e => (by by_cases hb : b = a; (subst hb; exact absurd (AH.dom_xs e) h); (rw [setX_miss hb]; exact l.xs b y e)), l.fs, l.is⟩
theorem AHle.setF {H G : AH} {a : Addr} {x : FnA} (l : AHle H G) (h : ¬ H.dom a) : AHle H (G.setF a x) := ⟨l.ls, l.ts, l.cs, l.ds, l.xs, fun b y e => (by by_cases hb : b = a; (subst hb; exact absurd (AH.dom_fs e) h); (rw [setF_miss hb]; exact l.fs b y e)), l.is⟩
theorem AHle.setI {H G : AH} {a : Addr} {x : ItA} (l : AHle H G) (h : ¬ H.dom a) : AHle H (G.setI a x) := ⟨l.ls, l.ts, l.cs, l.ds, l.xs, l.fs, fun b y e => (by by_cases hb : b = a; (subst hb; exact absurd (AH.dom_is e) h); (rw [setI_miss hb]; exact l.is b y e))⟩
structure LexNew (H H' : AH) (X : Addr) (a : LexA) (text : List Nat) : Prop where
  le : AHle H H'
  ok : LexOk H' X a
  ll : H'.ls a.LL = some (chV text)
  dx : H'.ds a.DX = some (kvL a 1)
  pb : H'.ls a.PB = some []
  fX : ¬ H.dom X
  fDX : ¬ H.dom a.DX
  fPB : ¬ H.dom a.PB
  fLL : ¬ H.dom a.LL
theorem lexNew_of {H H2 H3 H4 H5 H6 H7 : AH} {C LL FR FS DS DX X PB : Addr} {text : List Nat} {ff : FnA}
    (e2 : H2 = ((H.setC C none).setL LL (chV text)).setC C (some (.ref LL))) (e3 : H3 = H2.setF FR (fnA (nestSt (topSt 21) 1) [(Str.ofString "left", C)] none)) (e4 : H4 = H3.setF FS ff)
    (e5 : H5 = ((H4.setD DS []).setF FS { ff with dict := some DS }).setD DS [(Str.ofString "read", Value.ref FR)]) (e6 : H6 = (H5.setD DX []).setX X DX) (e7 : H7 = (H6.setL PB []).setD DX (kvL ⟨DX, PB, FS, DS, FR, C, LL⟩ 1))
    (fC : ¬ H.dom C) (fLL : ¬ (H.setC C none).dom LL) (fFR : ¬ H2.dom FR) (fFS : ¬ H3.dom FS) (fDS : ¬ H4.dom DS) (fDX : ¬ H5.dom DX) (fX : ¬ (H5.setD DX []).dom X) (fPB : ¬ H6.dom PB) : LexNew H H7 X ⟨DX, PB, FS, DS, FR, C, LL⟩ text := by
  have l2 : AHle H H2 := by rw [e2]; exact ((AHle.refl.setC fC).setL fun d => fLL (dom_setC d)).setC fC
  have gLL : ¬ H.dom LL := fun d => fLL (dom_setC d)
  have gFR : ¬ H.dom FR := fun d => fFR (l2.dom d)
  have l3 : AHle H H3 := e3 ▸ l2.setF gFR
  have gFS : ¬ H.dom FS := fun d => fFS (l3.dom d)
  have l4 : AHle H H4 := e4 ▸ l3.setF gFS
  have gDS : ¬ H.dom DS := fun d => fDS (l4.dom d)
  have l5 : AHle H H5 := e5 ▸ ((l4.setD gDS).setF gFS).setD gDS
  have gDX : ¬ H.dom DX := fun d => fDX (l5.dom d)
  have gX : ¬ H.dom X := fun d => fX ((l5.setD gDX).dom d)
  have l6 : AHle H H6 := e6 ▸ (l5.setD gDX).setX gX
  have gPB : ¬ H.dom PB := fun d => fPB (l6.dom d)
  have l7 : AHle H H7 := e7 ▸ (l6.setL gPB).setD gDX
  have d2 : H2.dom LL := by rw [e2]; exact dom_setC (AH.dom_ls (setL_hit _ _ _))
  have d3 : H3.dom LL := by rw [e3]; exact dom_setF d2
  have d3r : H3.dom FR := by rw [e3]; exact AH.dom_fs (setF_hit _ _ _)
  have d4 : H4.dom LL := by rw [e4]; exact dom_setF d3
  have d5 : H5.dom LL := by rw [e5]; exact dom_setD (dom_setF (dom_setD d4))
  have d5s : H5.dom DS := by rw [e5]; exact AH.dom_ds (setD_hit _ _ _)
  have d6 : H6.dom LL := by rw [e6]; exact dom_setX (dom_setD d5)
  have nLP : LL ≠ PB := fun z => fPB (z ▸ d6)
  have nDS : DS ≠ DX := fun z => fDX (z ▸ d5s)
  have nFR : FR ≠ FS := fun z => fFS (z ▸ d3r)
  have q2 : H2.ls LL = some (chV text) := by rw [e2]; exact setL_hit _ _ _
  have q7 : H7.ls = fun b => if b = PB then some [] else H2.ls b := by rw [e7, e6, e5, e4, e3]; rfl
  have r7 : H7.ds = fun b => if b = DX then some (kvL ⟨DX, PB, FS, DS, FR, C, LL⟩ 1) else (H5.setD DX []).ds b := by rw [e7, e6]; rfl
  refine ⟨l7, ⟨?_, ⟨{ ff with dict := some DS }, ?_, rfl⟩, ?_, ?_, ?_, nDS, Ne.symm nLP⟩, ?_, ?_, ?_, gX, gDX, gPB, gLL⟩
  · rw [e7, e6]; exact setX_hit _ _ _
  · rw [e7, e6, e5]; exact setF_hit _ _ _
  · rw [r7]
    show (if DS = DX then _ else _) = _
    rw [if_neg nDS, setD_miss nDS, e5]; exact setD_hit _ _ _
  · have : H7.fs FR = H4.fs FR := by rw [e7, e6, e5]; exact setF_miss nFR
    rw [this, e4, setF_miss nFR, e3]; exact setF_hit _ _ _
  · have : H7.cs C = H2.cs C := by rw [e7, e6, e5, e4, e3]; rfl
    rw [this, e2]; exact setC_hit _ _ _
  · rw [q7]
    show (if LL = PB then _ else _) = _
    rw [if_neg nLP]; exact q2
  · rw [r7]; exact if_pos rfl
  · rw [q7]; exact if_pos rfl
theorem T_lexer {H : AH} {text : List Nat} {Q : Value → AH → Prop} (hn : n ≤ 80) (hz : text.length ≤ 900) (h : ∀ H' X a, LexNew H H' X a text → Q (.ref X) H') : CallT w h₀ n (.ref 146) [.str ⟨text.toArray⟩ 0] [] H Q := by
  refine CallT.base (binds := [("text", .str ⟨text.toArray⟩ 0)]) ⟨_, _, _, _, _, _, _, rfl, rfl, rfl, rfl⟩ (fun a' k' e2 e3 s I => ?_) (fun L hL => ?_) (by omega)
  · obtain ⟨x', rfl, ex⟩ := map1 e2
    rw [kw0 e3]
    exact ⟨[("text", x')], .of_eq rfl, by simp [ex]⟩
  refine BdT.loc (BdT.nil (BodyT.stmts ?_))
  refine EsT.cons ?_; refine ExT.assignName ?_; refine EvT.call ?_; refine EvT.builtin ?_; refine ArgsT.pos ?_; refine ItsT.cons ?_; refine EvT.local ?_; refine ItsT.nil ?_
  refine ⟨trivial, CalT.listStr (by simp; omega) fun LL hLL => ?_⟩
  refine StoreT.cell (a := L + 1) (v0 := none) (setC_hit _ _ _) ?_
  refine EsT.cons ?_
  refine ExT.def (cc := 145) (P := 141) (clos := [("left", L + 1)]) (fun FR hFR => ?_) (by decide)
  refine StoreT.local ?_
  refine EsT.cons ?_; refine ExT.assignName ?_
  refine EvT.lambda (cc := 145) (P := 141) (clos := []) (fun FS hFS => ?_) (by decide)
  refine StoreT.local ?_
  refine EsT.cons ?_; refine ExT.assignT ?_; refine EvT.local ?_; refine AsT.attr ?_; refine EvT.local ?_
  refine SetAT.fn (setF_hit _ _ _) rfl fun DS hDS => ?_
  refine EsT.cons ?_; refine ExT.return ?_; refine EvT.call ?_; refine EvT.global ?_; refine ArgsT.pos ?_; refine ItsT.cons ?_; refine EvT.local ?_; refine ItsT.nil ?_
  refine ⟨.inl (by kernel_rfl), CallT.cal (CallT.make fun X DX hDX hX => ?_)⟩
  refine T_init (setX_hit _ _ _) (setD_hit _ _ _) (by show n + 1 + 1 ≤ 90; omega) fun PB hPB => ⟨rfl, ?_⟩
  have fC : ¬ H.dom (L + 1) := hL _ (Nat.le_succ _)
  have ec : charsV ⟨text.toArray⟩ = chV text := by simp [charsV, chV]
  refine h _ X ⟨DX, PB, FS, DS, FR, L + 1, LL⟩ (lexNew_of (e2 := ?_) (e3 := rfl) (e4 := rfl) (e5 := rfl) (e6 := rfl) (e7 := rfl) fC hLL hFR hFS hDS hDX hX hPB)
  rw [← ec]; rfl

noncomputable def chAt (num i : Nat) : Nat := if num / 2 ^ i % 2 = 1 then 65 + i else 97 + i
noncomputable def sAbc : Str := "abcABC"
theorem chAt_ok : ∀ num : Fin 24, ∀ i : Fin 3, (seqIndex? ((i.1 : Int) + 3 * Builtin.bitAnd ((num.1 : Int).fdiv (2 ^ (i.1 : Int).toNat)) 1) sAbc.length).bind (sAbc.cps[·]?) = some (chAt num.1 i.1) := by decide +kernel
theorem chIx_ok : ∀ num : Fin 24, ∀ i : Fin 3, (decide (((i.1 : Int) + 3 * Builtin.bitAnd ((num.1 : Int).fdiv (2 ^ (i.1 : Int).toNat)) 1) < -(2 ^ 63 : Int)) || decide (((i.1 : Int) + 3 * Builtin.bitAnd ((num.1 : Int).fdiv (2 ^ (i.1 : Int).toNat)) 1) ≥ 2 ^ 63)) = false := by decide +kernel
noncomputable def chips (num i : Nat) : List Str := (List.range i).map fun k => ⟨#[chAt num k]⟩
theorem lput_hit (x : Str) (v : Value) (lo : Lo) : (lput x v lo).lookup x = some v := (lput_lookup _ _ _ _).trans (if_pos rfl)
noncomputable def chipW (num : Nat) : Str := ((⟨(if num / 8 = 1 then [34] else if num / 8 = 2 then [32] else []).toArray⟩ : Str) ++ ⟨[chAt num 0, chAt num 1, chAt num 2].toArray⟩) ++ (⟨(if num / 8 = 2 then [92] else []).toArray⟩ : Str)
theorem T_chip {num : Nat} {H : AH} {Q : Value → AH → Prop} (hnum : num < 24) (hn : n ≤ 80) (h : Q (.str (chipW num) 0) H) : CallT w h₀ n (.ref 151) [.int num 0] [] H Q := by
  refine CallT.drop ?_
  refine CallT.base (binds := [("number", .int num 0)]) ⟨_, _, _, _, _, _, _, rfl, rfl, rfl, rfl⟩ (fun a' k' e2 e3 s I => ?_) (fun L hL => ?_) (by omega)
  · obtain ⟨x', rfl, ex⟩ := map1 e2
    rw [kw0 e3]
    exact ⟨[("number", x')], .of_eq rfl, by simp [ex]⟩
  refine BdT.cell (a := L + 1) ?_ (setC_hit _ _ _)
  refine BdT.nil (BodyT.stmts ?_)
  have leH : AHle H ((H.setC (L + 1) none).setC (L + 1) (some (.int num 0))) := (AHle.refl.setC (hL _ (Nat.le_succ _))).setC (hL _ (Nat.le_succ _))
  refine EsT.cons ?_; refine ExT.assignName ?_; refine EvT.method ?_; refine EvT.str ?_
  refine GmT.str F.slot_str_join F.type_str_join ?_
  refine ArgsT.pos ?_; refine ItsT.cons ?_
  refine EvT.comp (cl := [("number", L + 1)]) ?_
  refine EvT.call ?_; refine EvT.builtin ?_; refine ArgsT.pos ?_; refine ItsT.cons ?_; refine EvT.int ?_; refine ItsT.nil ?_
  refine ⟨trivial, CalT.range1 fun rg hrg => ?_⟩
  refine ItrT.rng (setI_hit _ _ _) (by decide) fun it hit => ?_
  intro acc C hacc hC
  have fit : ¬ H.dom it := fun d => hit (dom_setI (dom_setC (dom_setC d)))
  have frg : ¬ H.dom rg := fun d => hrg (dom_setC (dom_setC d))
  have facc : ¬ H.dom acc := fun d => hacc (dom_setI (dom_setI (dom_setC (dom_setC d))))
  refine cs_src (K := fun _ H' => AHle H H' ∧ H'.cs (L + 1) = some (some (.int num 0))) (m := 3) (fun i => .str ⟨#[chAt num i]⟩ 0) (Src.range 0 1) (by decide)
    ⟨((leH.setI frg).setI fit).setL facc, setC_hit _ _ _⟩ (setI_hit _ _ _) (setL_hit _ _ _) (fun i H' x k => ⟨k.1.setI fit, k.2⟩) (fun i H' x k => ⟨k.1.setL facc, k.2⟩) (fun i H' k => ⟨?_, k.2⟩) ?_ ?_
  · exact ⟨k.1.ls, k.1.ts, k.1.cs, k.1.ds, k.1.xs, k.1.fs, fun b x e => by
      have hb : b ≠ it := fun z => fit (z ▸ AH.dom_is e)
      rw [(delI_agree H' it).is b hb]; exact k.1.is b x e⟩
  · intro i lo H' hi k ea ei N hN
    rw [rg0]
    refine AsT.name ?_; refine StoreT.local ?_
    refine EvT.sub ?_; refine EvT.str ?_; refine EvT.binOp ?_
    refine EvT.local ?_ (lput_hit _ _ _)
    refine EvT.binOp ?_; refine EvT.int ?_; refine EvT.binOp ?_; refine EvT.binOp ?_
    refine EvT.cell (a := L + 1) k.2 ?_
    refine EvT.local ?_ (lput_hit _ _ _)
    refine BinT.shrI ?_ (by omega)
    refine EvT.int ?_
    refine BinT.andI (BinT.mulI (BinT.addI ?_) (IntMulOk.of_left (by decide)))
    refine ⟨trivial, GetT.str (cp := chAt num i) (chIx_ok ⟨num, hnum⟩ ⟨i, hi⟩) (chAt_ok ⟨num, hnum⟩ ⟨i, hi⟩) ?_⟩
    exact hN ⟨rfl, k, ea, ei⟩
  · intro st' k ea
    refine ItsT.nil ?_
    refine ⟨trivial, CalT.join (ys := [⟨#[chAt num 0]⟩, ⟨#[chAt num 1]⟩, ⟨#[chAt num 2]⟩]) ea (Nat.le_of_ble_eq_true rfl) ?_⟩
    have ej : Txt.join (Str.ofString "") [(⟨#[chAt num 0]⟩ : Str), ⟨#[chAt num 1]⟩, ⟨#[chAt num 2]⟩] = ⟨[chAt num 0, chAt num 1, chAt num 2].toArray⟩ := by rfl
    rw [ej]
    refine StoreT.local ?_
    refine EsT.cons ?_; refine ExT.return ?_
    have hq : (num : Int).fdiv 8 = ((num / 8 : Nat) : Int) := by rw [Int.fdiv_eq_ediv_of_nonneg _ (by decide)]; rfl
    refine EvT.binOp ?_; refine EvT.binOp ?_; refine EvT.sub ?_; refine EvT.list ?_; refine ItsT.cons ?_; refine EvT.str ?_; refine ItsT.cons ?_; refine EvT.str ?_; refine ItsT.cons ?_; refine EvT.str ?_; refine ItsT.nil ?_
    refine ⟨by rw [sizeLine_eq]; simp, fun l1 hl1 => ?_⟩
    refine EvT.binOp ?_
    refine EvT.cell (a := L + 1) k.2 ?_
    refine EvT.int ?_
    refine BinT.divI ?_ (by decide) (by decide)
    rw [hq]
    have hlt : num / 8 < 3 := by omega
    have hQ : Q (.str (((⟨(if num / 8 = 1 then [34] else if num / 8 = 2 then [32] else []).toArray⟩ : Str) ++ ⟨[chAt num 0, chAt num 1, chAt num 2].toArray⟩) ++ (⟨(if num / 8 = 2 then [92] else []).toArray⟩ : Str)) 0) H := h
    have fl1 : ¬ H.dom l1 := fun d => hl1 (k.1.dom d)
    generalize num / 8 = q at hlt hQ hq ⊢
    have hq3 : q = 0 ∨ q = 1 ∨ q = 2 := by omega
    rcases hq3 with rfl | rfl | rfl
    all_goals
      refine ⟨SubOk.ls (setL_hit _ _ _), GetT.list (setL_hit _ _ _) (by decide) (by decide) rfl ?_⟩
      refine EvT.local ?_
      refine BinT.addS ?_ (Nat.le_of_ble_eq_true rfl)
      refine EvT.sub ?_; refine EvT.list ?_; refine ItsT.cons ?_; refine EvT.str ?_; refine ItsT.cons ?_; refine EvT.str ?_; refine ItsT.cons ?_; refine EvT.str ?_; refine ItsT.nil ?_
      refine ⟨by rw [sizeLine_eq]; simp, fun l2 hl2 => ?_⟩
      have fl2 : ¬ H.dom l2 := fun d => hl2 ((k.1.setL fl1).dom d)
      refine EvT.binOp ?_
      refine EvT.cell (a := L + 1) k.2 ?_
      refine EvT.int ?_
      refine BinT.divI ?_ (by decide) (by decide)
      rw [hq]
      refine ⟨SubOk.ls (setL_hit _ _ _), GetT.list (setL_hit _ _ _) (by decide) (by decide) rfl ?_⟩
      refine BinT.addS ?_ (Nat.le_of_ble_eq_true rfl)
      exact ⟨H, (k.1.setL fl1).setL fl2, hQ⟩

noncomputable abbrev fdBR : FuncData := fnD (topSt 11) ⟨#[98, 105, 115, 101, 99, 116, 95, 114, 105, 103, 104, 116]⟩ (.ref 99) (.ref 100) (.str ⟨#[99, 112, 121, 51, 49, 51, 46, 98, 105, 115, 101, 99, 116]⟩ 329) (.ref 106)
theorem bindsBR {H : AH} {s : Shared} (I : InvH w h₀ H s) (x y : Value) : BindsTo s fdBR ⟨[x, y], []⟩ [("a", x), ("x", y), ("lo", .int 0 331), ("hi", .none), ("key", .none)] := fun M A E Q hq => by
  have g99 : s.heap.get? 99 = some ⟨.type "tuple", none, .seq #[.int 0 331, .none] 0, #[]⟩ := I.base _ _ (by rfl)
  show wpAny M A (seqItems? (.ref 99) >>= _) Q E s
  refine wpAny_bind (wpAny_seqItems g99 rfl ?_)
  dsimp only
  refine wpAny_bind ?_
  refine wpAny_pure ?_
  rw [show (List.map (fun x => x.arg) fdBR.params.kwonlyargs) = [Str.ofString "key"] from rfl, List.forIn_cons]
  refine wpAny_bind (wpAny_bind ?_)
  rw [if_pos (by rfl)]
  show wpAny M A (nsGet 100 "key" >>= _) _ _ s
  refine wpAny_bind ((looks_nsIn (M := M) I.base (show nsIn (K0 w.params) 100 "key" = some (some .none) by rfl)).here ?_)
  refine wpAny_pure ?_
  refine wpAny_pure ?_
  exact wpAny_pure hq

structure LoB (lo : Lo) (a : Addr) (x l h : Int) : Prop where
  a : lo.g "a" = some (.ref a)
  x : lo.g "x" = some (.int x 0)
  l : lo.g "lo" = some (.int l 0)
  h : lo.g "hi" = some (.int h 0)
theorem LoB.mid {lo : Lo} {a : Addr} {x l h : Int} (g : LoB lo a x l h) (v : Value) : LoB (lput "mid" v lo) a x l h :=
  ⟨(lput_lookup _ _ _ _).trans ((if_neg (by decide)).trans g.a), (lput_lookup _ _ _ _).trans ((if_neg (by decide)).trans g.x), (lput_lookup _ _ _ _).trans ((if_neg (by decide)).trans g.l), (lput_lookup _ _ _ _).trans ((if_neg (by decide)).trans g.h)⟩
theorem LoB.setL {lo : Lo} {a : Addr} {x l h : Int} (g : LoB lo a x l h) (l' : Int) : LoB (lput "lo" (.int l' 0) lo) a x l' h :=
  ⟨(lput_lookup _ _ _ _).trans ((if_neg (by decide)).trans g.a), (lput_lookup _ _ _ _).trans ((if_neg (by decide)).trans g.x), (lput_lookup _ _ _ _).trans (if_pos rfl), (lput_lookup _ _ _ _).trans ((if_neg (by decide)).trans g.h)⟩
theorem LoB.setH {lo : Lo} {a : Addr} {x l h : Int} (g : LoB lo a x l h) (h' : Int) : LoB (lput "hi" (.int h' 0) lo) a x l h' :=
  ⟨(lput_lookup _ _ _ _).trans ((if_neg (by decide)).trans g.a), (lput_lookup _ _ _ _).trans ((if_neg (by decide)).trans g.x), (lput_lookup _ _ _ _).trans ((if_neg (by decide)).trans g.l), (lput_lookup _ _ _ _).trans (if_pos rfl)⟩
theorem T_bisectRight {A : Addr} {xs : List Int} {x : Int} {H : AH} {Q : Value → AH → Prop} (hn : n ≤ 80) (ea : H.ls A = some (xs.map (Value.int · 0))) (hz : xs.length ≤ 1000) (hs : xs.Pairwise (· ≤ ·))
    (h : ∀ r : Nat, r ≤ xs.length → (∀ i (hi : i < xs.length), i < r → xs[i] ≤ x) → (∀ i (hi : i < xs.length), r ≤ i → x < xs[i]) → Q (.int r 0) H) : CallT w h₀ n (.ref 107) [.ref A, .int x 0] [] H Q := by
  refine CallT.base (binds := [("a", .ref A), ("x", .int x 0), ("lo", .int 0 0), ("hi", .none), ("key", .none)]) ⟨_, _, _, _, _, _, _, rfl, rfl, rfl, rfl⟩ (fun a' k' e2 e3 s I => ?_) (fun L hL => ?_) (by omega)
  · obtain ⟨x', y', rfl, ex, ey⟩ := map2 e2
    rw [kw0 e3]
    exact ⟨_, bindsBR I x' y', show ([("a", er x'), ("x", er y'), ("lo", .int 0 0), ("hi", .none), ("key", .none)] : List (Str × Value)) = _ by rw [ex, ey]⟩
  refine BdT.loc (BdT.loc (BdT.loc (BdT.loc (BdT.loc (BdT.nil (BodyT.stmts ?_))))))
  refine EsT.cons ?_; refine ExT.if ?_; refine IfT.compare ?_; refine EvT.local ?_; refine EvT.int ?_
  refine CmpT.ltI (TruT.bool (ifF rfl ?_))
  refine EsT.nil ?_; refine EsT.cons ?_; refine ExT.if ?_; refine IfT.compare ?_; refine EvT.local ?_; refine EvT.none ?_
  refine CmpT.isNone (TruT.bool (ifT rfl ?_))
  refine EsT.cons ?_; refine ExT.assignName ?_
  refine EvT.call ?_; refine EvT.builtin ?_; refine ArgsT.pos ?_; refine ItsT.cons ?_; refine EvT.local ?_; refine ItsT.nil ?_
  refine ⟨trivial, CalT.len ea (by simp; omega) ?_⟩
  refine StoreT.local ?_
  refine EsT.nil ?_; refine EsT.cons ?_
  refine ExT.if ?_; refine IfT.compare ?_; refine EvT.local ?_; refine EvT.none ?_
  refine CmpT.isNone (TruT.bool (ifT rfl ?_))
  refine EsT.cons ?_
  refine ExT.while (fun k st => ∃ l u : Nat, l ≤ u ∧ u ≤ xs.length ∧ k = u - l ∧ LoB st.lo A x l u ∧ st.H = H ∧ (∀ i (hi : i < xs.length), i < l → xs[i] ≤ x) ∧ (∀ i (hi : i < xs.length), u ≤ i → x < xs[i])) xs.length
    ⟨0, xs.length, Nat.zero_le _, Nat.le_refl _, rfl, ⟨rfl, rfl, rfl, by simp; rfl⟩, rfl, fun i hi h0 => absurd h0 (Nat.not_lt_zero _), fun i hi h0 => absurd hi (Nat.not_lt.mpr h0)⟩ ?_
  rintro k st ⟨l, u, hlu, hul, rfl, lb, hH, i1, i2⟩ N hN hC hB hR
  refine IfT.compare ?_
  refine EvT.local ?_ lb.l
  refine EvT.local ?_ lb.h
  refine CmpT.ltI (TruT.bool (ifB (fun hc => ?_) fun hc => ?_))
  · have hlt : l < u := by have := of_decide_eq_true hc; omega
    have hm : ((l : Int) + u).fdiv 2 = (((l + u) / 2 : Nat) : Int) := by rw [Int.fdiv_eq_ediv_of_nonneg _ (by decide)]; omega
    refine EsT.cons ?_; refine ExT.assignName ?_; refine EvT.binOp ?_; refine EvT.binOp ?_
    refine EvT.local ?_ lb.l
    refine EvT.local ?_ lb.h
    refine BinT.addI ?_
    refine EvT.int ?_
    refine BinT.divI ?_ (by decide) (by decide)
    rw [hm]
    refine StoreT.local ?_
    have lb2 := lb.mid (.int (((l + u) / 2 : Nat) : Int) 0)
    have hmid : Lo.g (lput "mid" (.int (((l + u) / 2 : Nat) : Int) 0) st.lo) "mid" = some (.int (((l + u) / 2 : Nat) : Int) 0) := (lput_lookup _ _ _ _).trans (if_pos rfl)
    generalize lput "mid" (Value.int (((l + u) / 2 : Nat) : Int) 0) st.lo = lo2 at lb2 hmid
    have hmu : (l + u) / 2 < u := by omega
    have hml : l ≤ (l + u) / 2 := by omega
    generalize (l + u) / 2 = md at hmu hml hmid lb2
    have hmd : md < xs.length := by omega
    refine EsT.cons ?_; refine ExT.if ?_; refine IfT.compare ?_
    refine EvT.local ?_ lb2.x
    refine EvT.sub ?_
    refine EvT.local ?_ lb2.a
    refine EvT.local ?_ hmid
    have ea' : st.H.ls A = some (xs.map (Value.int · 0)) := hH ▸ ea
    refine ⟨SubOk.ls ea', GetT.list ea' (nn0 _) (by omega) (by rw [Int.toNat_natCast, List.getElem?_map, List.getElem?_eq_getElem hmd]; rfl) ?_⟩
    refine CmpT.ltI (TruT.bool (ifB (fun hd => ?_) fun hd => ?_))
    · have hd' := of_decide_eq_true hd
      refine EsT.cons ?_; refine ExT.assignName ?_
      refine EvT.local ?_ hmid
      refine StoreT.local ?_; refine EsT.nil ?_; refine EsT.nil ?_
      refine hN ⟨md - l, by omega, l, md, by omega, by omega, rfl, lb2.setH md, hH, i1, fun i hi hge => ?_⟩
      have := List.pairwise_iff_getElem.mp hs
      rcases Nat.lt_or_eq_of_le hge with h5 | h5
      · exact Int.lt_of_lt_of_le hd' (this md i hmd hi h5)
      · subst h5; exact hd'
    · have hd' : ¬ x < xs[md] := of_decide_eq_false hd
      refine EsT.cons ?_; refine ExT.assignName ?_; refine EvT.binOp ?_
      refine EvT.local ?_ hmid
      refine EvT.int ?_
      refine BinT.addI ?_
      refine StoreT.local ?_; refine EsT.nil ?_; refine EsT.nil ?_
      refine hN ⟨u - (md + 1), by omega, md + 1, u, by omega, by omega, rfl, lb2.setL _, hH, fun i hi hlt2 => ?_, i2⟩
      have := List.pairwise_iff_getElem.mp hs
      rcases Nat.lt_or_eq_of_le (Nat.le_of_lt_succ hlt2) with h5 | h5
      · exact Int.le_trans (this i md hi hmd h5) (Int.not_lt.mp hd')
      · subst h5; exact Int.not_lt.mp hd'
  · have hge : ¬ ((l : Int) < u) := of_decide_eq_false hc
    have hlu' : l = u := by omega
    subst hlu'
    refine EsT.nil ?_; refine EsT.nil ?_; refine EsT.cons ?_
    refine ExT.return ?_
    refine EvT.local ?_ lb.l
    have := h l hul i1 i2
    rw [← hH] at this
    exact this

theorem T_div21 {a b m : Int} {H : AH} {Q : Value → AH → Prop} (hn : n ≤ 90) (hb : b ≠ 0) (hp : b.natAbs.log2 < 9000) (hl : (Builtin.Int.intBits a : Int) - m ≤ 4000) (h : ∀ t, ¬ H.dom t → Q (.ref t) (H.setT t [.int (a.fdiv b) 0, .int (a.fmod b) 0])) :
    CallT w h₀ n (.ref 63) [.int a 0, .int b 0, .int m 0] [] H Q := by
  refine CallT.base (binds := [("a", .int a 0), ("b", .int b 0), ("n", .int m 0)]) ⟨_, _, _, _, _, _, _, rfl, rfl, rfl, rfl⟩ (fun a' k' e2 e3 s I => ?_) (fun L hL => ?_) (by omega)
  · obtain ⟨x', y', z', rfl, ex, ey, ez⟩ := map3 e2
    rw [kw0 e3]
    exact ⟨[("a", x'), ("b", y'), ("n", z')], .of_eq rfl, by simp [ex, ey, ez]⟩
  refine BdT.loc (BdT.loc (BdT.loc (BdT.nil (BodyT.stmts ?_))))
  refine EsT.cons ?_; refine ExT.if ?_; refine IfT.compare ?_; refine EvT.binOp ?_; refine EvT.method ?_; refine EvT.local ?_
  refine GmT.int F.slot_int_bit_length F.type_int_bit_length ?_
  refine ArgsT.nil ?_
  refine ⟨trivial, CalT.bitLength ?_⟩
  refine EvT.local ?_
  refine BinT.subI ?_
  refine EvT.global ?_
  refine CmpT.leI (TruT.bool (ifT (decide_eq_true hl) ?_))
  refine EsT.cons ?_; refine ExT.return ?_
  refine EvT.call ?_; refine EvT.builtin ?_; refine ArgsT.pos ?_; refine ItsT.cons ?_; refine EvT.local ?_; refine ItsT.cons ?_; refine EvT.local ?_; refine ItsT.nil ?_
  refine ⟨trivial, CalT.divmod hb hp fun t ht => ?_⟩
  exact h t ht

theorem xor_low {x : Int} {n : Nat} (hx : 0 ≤ x) : Builtin.bitXor x (x.fdiv (2 ^ n) * 2 ^ n) = x.fmod (2 ^ n) := by
  have h2 : (0 : Int) ≤ 2 ^ n := Int.le_of_lt (Int.pow_pos (by decide))
  rw [Int.fdiv_eq_ediv_of_nonneg _ h2, Int.fmod_eq_emod_of_nonneg _ h2, bitXor_and]
  have hy : 0 ≤ x / 2 ^ n * 2 ^ n := Int.mul_nonneg (Int.ediv_nonneg hx h2) h2
  rw [bitAnd_pp hx hy]
  obtain ⟨m, rfl⟩ := Int.eq_ofNat_of_zero_le hx
  have e1 : ((m : Int) / 2 ^ n * 2 ^ n) = ((m / 2 ^ n * 2 ^ n : Nat) : Int) := by push_cast; rfl
  rw [e1, Int.toNat_natCast, Int.toNat_natCast]
  have e2 : m &&& (m / 2 ^ n * 2 ^ n) = m / 2 ^ n * 2 ^ n := by
    apply Nat.eq_of_testBit_eq
    intro i
    rw [Nat.testBit_and, ← Nat.shiftLeft_eq, ← Nat.shiftRight_eq_div_pow, Nat.testBit_shiftLeft, Nat.testBit_shiftRight]
    by_cases h : i ≥ n
    · simp [h, Nat.add_sub_cancel' h]
    · simp [h]
  rw [e2]
  have := Nat.div_add_mod m (2 ^ n)
  have e3 : (m : Int) % 2 ^ n = ((m % 2 ^ n : Nat) : Int) := by push_cast; rfl
  rw [e3]
  have e4 : m / 2 ^ n * 2 ^ n + m % 2 ^ n = m := by rw [Nat.mul_comm]; exact this
  omega

structure I2 (H : AH) (C1 C2 C3 F D : Addr) (m : Int) : Prop where
  c1 : H.cs C1 = some (some (.int m 0))
  c2 : H.cs C2 = some (some (.ref D))
  c3 : H.cs C3 = some (some (.ref F))
  f : H.fs F = some (fnA (nestSt (topSt 6) 1) [("n", C1), ("inner", C3), ("a_digits", C2)] none)
theorem Kept.made {P : Params} {H : AH} {a : Addr} {x : FnA} (e : H.fs a = some x) : Kept P H (.ref a) := .inr (by rw [e]; simp)
theorem I2.setL {H : AH} {C1 C2 C3 F D A : Addr} {m : Int} {v : List Value} (i : I2 H C1 C2 C3 F D m) : I2 (H.setL A v) C1 C2 C3 F D m := ⟨i.c1, i.c2, i.c3, i.f⟩

theorem T_i2leaf {H : AH} {C1 C2 C3 F D : Addr} {m x l r : Int} {ds : List Value} {Q : Value → AH → Prop} (i : I2 H C1 C2 C3 F D m) (ed : H.ls D = some ds) (hlr : l + 1 = r) (h0 : 0 ≤ l) (h1 : l < 2 ^ 63) (h2 : l < ds.length) (hn : n ≤ 90)
    (h : Q .none (H.setL D (ds.set l.toNat (.int x 0)))) : CallT w h₀ n (.ref F) [.int x 0, .int l 0, .int r 0] [] H Q := by
  refine CallT.made (fa := fnA (nestSt (topSt 6) 1) [("n", C1), ("inner", C3), ("a_digits", C2)] none) (binds := [("x", .int x 0), ("L", .int l 0), ("R", .int r 0)]) i.f (fun fd e1 e2 e3 a' k' e4 e5 => ?_) (fun L q cd hL => ?_) (by omega) rfl rfl
  · obtain ⟨x', y', z', rfl, ex, ey, ez⟩ := map3 e4
    rw [kw0 e5]
    obtain ⟨nm, qn, pa, bo, sc, gl, cl, de, kd, dc, pm, an, co, ct, bu⟩ := fd
    simp only at e1 e2 e3
    subst e1 e2 e3
    exact ⟨[("x", x'), ("L", y'), ("R", z')], rfl, by simp [ex, ey, ez]⟩
  refine BdT.loc (BdT.loc (BdT.loc (BdT.nil (BodyT.stmts ?_))))
  refine EsT.cons ?_; refine ExT.if ?_; refine IfT.compare ?_; refine EvT.binOp ?_; refine EvT.local ?_; refine EvT.int ?_
  refine BinT.addI ?_
  refine EvT.local ?_
  refine CmpT.eqI (TruT.bool (ifT (by rw [hlr]; simp) ?_))
  refine EsT.cons ?_; refine ExT.assignT ?_; refine EvT.local ?_; refine AsT.item ?_
  refine EvT.free (a := C2) i.c2 ?_
  refine EvT.local ?_
  refine SetIT.list ed h0 h1 h2 ?_
  refine EsT.cons ?_; refine ExT.returnNone ?_
  exact h

set_option maxHeartbeats 2000000 in
theorem T_i2two {H : AH} {C1 C2 C3 F D : Addr} {m : Nat} {x : Int} {v0 v1 : Value} {Q : Value → AH → Prop} (i : I2 H C1 C2 C3 F D m) (ed : H.ls D = some [v0, v1]) (hx : 0 ≤ x) (hb : Builtin.Int.intBits x ≤ 1000) (hm : m ≤ 1000) (hn : n ≤ 80)
    (h : Q .none (H.setL D [.int (x.fmod (2 ^ m)) 0, .int (x.fdiv (2 ^ m)) 0])) : CallT w h₀ n (.ref F) [.int x 0, .int 0 0, .int 2 0] [] H Q := by
  refine CallT.made (fa := fnA (nestSt (topSt 6) 1) [("n", C1), ("inner", C3), ("a_digits", C2)] none) (binds := [("x", .int x 0), ("L", .int 0 0), ("R", .int 2 0)]) i.f (fun fd e1 e2 e3 a' k' e4 e5 => ?_) (fun L q cd hL => ?_) (by omega) rfl rfl
  · obtain ⟨x', y', z', rfl, ex, ey, ez⟩ := map3 e4
    rw [kw0 e5]
    obtain ⟨nm, qn, pa, bo, sc, gl, cl, de, kd, dc, pm, an, co, ct, bu⟩ := fd
    simp only at e1 e2 e3
    subst e1 e2 e3
    exact ⟨[("x", x'), ("L", y'), ("R", z')], rfl, by simp [ex, ey, ez]⟩
  refine BdT.loc (BdT.loc (BdT.loc (BdT.nil (BodyT.stmts ?_))))
  refine EsT.cons ?_; refine ExT.if ?_; refine IfT.compare ?_; refine EvT.binOp ?_; refine EvT.local ?_; refine EvT.int ?_
  refine BinT.addI ?_
  refine EvT.local ?_
  refine CmpT.eqI (TruT.bool (ifF rfl ?_))
  refine EsT.nil ?_
  -- mid
  refine EsT.cons ?_; refine ExT.assignName ?_; refine EvT.binOp ?_; refine EvT.binOp ?_; refine EvT.local ?_; refine EvT.local ?_
  refine BinT.addI ?_
  refine EvT.int ?_
  refine BinT.shrI ?_ (by decide)
  refine StoreT.local ?_
  -- shift
  refine EsT.cons ?_; refine ExT.assignName ?_; refine EvT.binOp ?_; refine EvT.binOp ?_; refine EvT.local ?_; refine EvT.local ?_
  refine BinT.subI ?_
  refine EvT.free (a := C1) i.c1 ?_
  refine BinT.mulI ?_ (.of_le (m := 1) (n := 64) (by decide) (intBits_cast_le (by rw [sizeLine_eq]; omega)) (by decide))
  rw [show (((0 : Int) + 2).fdiv (2 ^ (1 : Int).toNat) - 0) * (m : Int) = (m : Int) by rw [show (((0 : Int) + 2).fdiv (2 ^ (1 : Int).toNat) - 0) = 1 from by decide, Int.one_mul]]
  refine StoreT.local ?_
  -- upper
  refine EsT.cons ?_; refine ExT.assignName ?_; refine EvT.binOp ?_; refine EvT.local ?_; refine EvT.local ?_
  refine BinT.shrI ?_ (by omega)
  rw [Int.toNat_natCast]
  refine StoreT.local ?_
  -- lower
  refine EsT.cons ?_; refine ExT.assignName ?_; refine EvT.binOp ?_; refine EvT.local ?_; refine EvT.binOp ?_; refine EvT.local ?_; refine EvT.local ?_
  refine BinT.shlI ?_ (by omega) (by have := intBits_fdiv_le (y := 2 ^ m) hb; omega)
  rw [Int.toNat_natCast]
  refine BinT.xorI ?_
  rw [xor_low hx]
  refine StoreT.local ?_
  refine EsT.cons ?_; refine ExT.expr ?_
  refine EvT.call (EvT.free (a := C3) i.c3 ?_)
  refine ArgsT.pos ?_; refine ItsT.cons ?_; refine EvT.local ?_; refine ItsT.cons ?_; refine EvT.local ?_; refine ItsT.cons ?_; refine EvT.local ?_; refine ItsT.nil ?_
  refine ⟨Kept.made i.f, CallT.cal (T_i2leaf i ed rfl (by decide) (by decide) (by simp) (le_up hn) ?_)⟩
  refine ⟨by simp, ?_⟩
  refine EsT.cons ?_; refine ExT.expr ?_
  have i' := I2.setL (A := D) (v := [v0, v1].set (0 : Int).toNat (.int (x.fmod (2 ^ m)) 0)) i
  refine EvT.call (EvT.free (a := C3) i'.c3 ?_)
  refine ArgsT.pos ?_; refine ItsT.cons ?_; refine EvT.local ?_; refine ItsT.cons ?_; refine EvT.local ?_; refine ItsT.cons ?_; refine EvT.local ?_; refine ItsT.nil ?_
  refine ⟨Kept.made i'.f, CallT.cal (T_i2leaf i' (setL_hit _ _ _) rfl (by decide) (by decide) (by simp) (le_up hn) ?_)⟩
  refine ⟨by simp, ?_⟩
  refine EsT.nil ?_
  rw [setL_setL]
  exact h

theorem AHle.setLL {H G : AH} {a : Addr} {x : List Value} (l : AHle H G) : AHle (H.setL a x) (G.setL a x) :=
  ⟨fun b v e => by
    by_cases hb : b = a
    · subst hb; rw [setL_hit] at e ⊢; exact e
    · rw [setL_miss hb] at e ⊢; exact l.ls b v e, l.ts, l.cs, l.ds, l.xs, l.fs, l.is⟩
theorem setL_same {H : AH} {a : Addr} {x : List Value} (e : H.ls a = some x) : AHle (H.setL a x) H :=
  ⟨fun b v e' => by
    by_cases hb : b = a
    · subst hb; rw [setL_hit] at e'; rw [e]; exact e'
    · rw [setL_miss hb] at e'; exact e', fun _ _ e => e, fun _ _ e => e, fun _ _ e => e, fun _ _ e => e, fun _ _ e => e, fun _ _ e => e⟩
theorem rep_flat {α : Type} (k : Nat) (x : α) : (List.replicate k [x]).flatten = List.replicate k x := by
  induction k with
  | zero => rfl
  | succ k ih => rw [List.replicate_succ, List.flatten_cons, ih, List.replicate_succ]; rfl
theorem log2_le (m : Nat) : m.log2 ≤ m := by
  rcases Nat.eq_zero_or_pos m with h | h
  · subst h; decide
  · exact Nat.le_of_lt ((Nat.log2_lt (Nat.pos_iff_ne_zero.mp h)).mpr Nat.lt_two_pow_self)
noncomputable def digs (a : Int) (m : Nat) : Nat → List Int
  | 0 => []
  | 1 => [a]
  | _ => [a.fmod (2 ^ m), a.fdiv (2 ^ m)]
noncomputable def digV (l : List Int) : List Value := l.map (Value.int · 0)

theorem adNe {L i j : Nat} (h : i ≠ j) : L + i ≠ L + j := by omega
set_option maxHeartbeats 2000000 in
theorem T_i2d {a : Int} {m k : Nat} {H : AH} {Q : Value → AH → Prop} (ha : 0 ≤ a) (hm : 0 < m) (hm2 : m ≤ 1000) (hb : Builtin.Int.intBits a ≤ 1000) (hk2 : k ≤ 2) (hk : ((Builtin.Int.intBits a : Int) + m - 1).fdiv m = k) (hz : k = 0 ↔ a = 0) (hn : n ≤ 70)
    (h : ∀ D, ¬ H.dom D → Q (.ref D) (H.setL D (digV (digs a m k)))) : CallT w h₀ n (.ref 77) [.int a 0, .int m 0] [] H Q := by
  refine CallT.drop (CallT.base (binds := [("a", .int a 0), ("n", .int m 0)]) ⟨_, _, _, _, _, _, _, rfl, rfl, rfl, rfl⟩ (fun a' k' e2 e3 s I => ?_) (fun L hL => ?_) (by omega))
  · obtain ⟨x', y', rfl, ex, ey⟩ := map2 e2
    rw [kw0 e3]
    exact ⟨[("a", x'), ("n", y')], .of_eq rfl, by simp [ex, ey]⟩
  refine BdT.loc (BdT.cell (a := L + 1) (v0 := none) (BdT.nil (BodyT.stmts ?_)) ?hv)
  case hv =>
    show (((H.setC (L + 1) none).setC (L + 2) none).setC (L + 3) none).cs (L + 1) = some none
    exact (setC_miss (adNe (by decide))).trans ((setC_miss (adNe (by decide))).trans (setC_hit _ _ _))
  show EsT w h₀ _ _ ⟨_, ((((H.setC (L + 1) none).setC (L + 2) none).setC (L + 3) none).setC (L + 1) (some (.int m 0)))⟩ _
  generalize eH1 : ((((H.setC (L + 1) none).setC (L + 2) none).setC (L + 3) none).setC (L + 1) (some (.int m 0))) = H1
  have l1 : AHle H H1 := by
    rw [← eH1]
    exact AHle.setC (AHle.setC (AHle.setC (AHle.setC .refl (hL _ (Nat.le_add_right _ _))) (hL _ (Nat.le_add_right _ _))) (hL _ (Nat.le_add_right _ _))) (hL _ (Nat.le_add_right _ _))
  have g1 : H1.cs (L + 1) = some (some (.int m 0)) := by rw [← eH1]; exact setC_hit _ _ _
  have g2 : H1.cs (L + 2) = some none := by rw [← eH1]; exact (setC_miss (adNe (by decide))).trans ((setC_miss (adNe (by decide))).trans (setC_hit _ _ _))
  have g3 : H1.cs (L + 3) = some none := by rw [← eH1]; exact (setC_miss (adNe (by decide))).trans (setC_hit _ _ _)
  refine EsT.cons ?_; refine ExT.assignName ?_; refine EvT.binOp ?_; refine EvT.list ?_; refine ItsT.cons ?_; refine EvT.int ?_; refine ItsT.nil ?_
  refine ⟨by simp [sizeLine_eq], fun Z hZ => ?_⟩
  refine EvT.binOp ?_; refine EvT.binOp ?_; refine EvT.binOp ?_; refine EvT.method ?_; refine EvT.local ?_
  refine GmT.int F.slot_int_bit_length F.type_int_bit_length ?_
  refine ArgsT.nil ?_
  refine ⟨trivial, CalT.bitLength ?_⟩
  refine EvT.cell (a := L + 1) g1 ?_
  refine BinT.addI ?_
  refine EvT.int ?_
  refine BinT.subI ?_
  refine EvT.cell (a := L + 1) g1 ?_
  refine BinT.divI ?_ (by omega) (Nat.lt_of_le_of_lt (log2_le _) (by omega))
  rw [hk]
  refine BinT.mulL (setL_hit _ _ _) (by omega) (by omega) (by simp; omega) fun D hD => ?_
  refine StoreT.cell (a := L + 2) (v0 := none) g2 ?_
  rw [show (List.replicate ((k : Int)).toNat [Value.int 0 0]).flatten = List.replicate k (Value.int 0 0) by rw [Int.toNat_natCast]; exact rep_flat _ _]
  refine EsT.cons ?_
  refine ExT.def (cc := 76) (P := 72) (clos := [("n", L + 1), ("inner", L + 3), ("a_digits", L + 2)]) (fun F hF => ?_) (by decide)
  refine StoreT.cell (a := L + 3) (v0 := none) ((setC_miss (adNe (by decide))).trans g3) ?_
  have hDH : ¬ H.dom D := fun d => hD (dom_setL (l1.dom d))
  have hZH : ¬ H.dom Z := fun d => hZ (l1.dom d)
  have hFH : ¬ H.dom F := fun d => hF (dom_setC (dom_setL (dom_setL (l1.dom d))))
  have fin : ∀ v, AHle (H.setL D v) ((((((H1.setL Z [Value.int 0 0]).setL D (List.replicate k (Value.int 0 0))).setC (L + 2) (some (.ref D))).setF F (fnA (nestSt (topSt 6) 1) [("n", L + 1), ("inner", L + 3), ("a_digits", L + 2)] none)).setC (L + 3) (some (.ref F))).setL D v) := fun v =>
    AHle.setLL (AHle.setC (AHle.setF (AHle.setC (AHle.setL (AHle.setL l1 hZH) hDH) (hL _ (Nat.le_add_right _ _))) hFH) (hL _ (Nat.le_add_right _ _)))
  have i : I2 (((((H1.setL Z [Value.int 0 0]).setL D (List.replicate k (Value.int 0 0))).setC (L + 2) (some (.ref D))).setF F (fnA (nestSt (topSt 6) 1) [("n", L + 1), ("inner", L + 3), ("a_digits", L + 2)] none)).setC (L + 3) (some (.ref F))) (L + 1) (L + 2) (L + 3) F D m :=
    ⟨(setC_miss (adNe (by decide))).trans ((setC_miss (adNe (by decide))).trans g1), (setC_miss (adNe (by decide))).trans (setC_hit _ _ _), setC_hit _ _ _, setF_hit _ _ _⟩
  have eD : (((((H1.setL Z [Value.int 0 0]).setL D (List.replicate k (Value.int 0 0))).setC (L + 2) (some (.ref D))).setF F (fnA (nestSt (topSt 6) 1) [("n", L + 1), ("inner", L + 3), ("a_digits", L + 2)] none)).setC (L + 3) (some (.ref F))).ls D = some (List.replicate k (Value.int 0 0)) := setL_hit _ _ _
  show EsT w h₀ _ _ ⟨_, (((((H1.setL Z [Value.int 0 0]).setL D (List.replicate k (Value.int 0 0))).setC (L + 2) (some (.ref D))).setF F (fnA (nestSt (topSt 6) 1) [("n", L + 1), ("inner", L + 3), ("a_digits", L + 2)] none)).setC (L + 3) (some (.ref F)))⟩ _
  generalize (((((H1.setL Z [Value.int 0 0]).setL D (List.replicate k (Value.int 0 0))).setC (L + 2) (some (.ref D))).setF F (fnA (nestSt (topSt 6) 1) [("n", L + 1), ("inner", L + 3), ("a_digits", L + 2)] none)).setC (L + 3) (some (.ref F))) = H2 at i eD fin
  refine EsT.cons ?_; refine ExT.if ?_; refine IfT.plain ?_; refine EvT.local ?_
  refine TruT.int (ifB (fun hc => ?_) fun hc => ?_)
  · have ha0 : a ≠ 0 := by simpa using hc
    have hk0 : k ≠ 0 := fun z => ha0 (hz.mp z)
    refine EsT.cons ?_; refine ExT.expr ?_
    refine EvT.call (EvT.cell (a := L + 3) i.c3 ?_)
    refine ArgsT.pos ?_; refine ItsT.cons ?_; refine EvT.local ?_; refine ItsT.cons ?_; refine EvT.int ?_; refine ItsT.cons ?_; refine EvT.call ?_
    refine EvT.builtin ?_; refine ArgsT.pos ?_; refine ItsT.cons ?_
    refine EvT.cell (a := L + 2) i.c2 ?_
    refine ItsT.nil ?_
    refine ⟨trivial, CalT.len eD (by simp; omega) ?_⟩
    refine ItsT.nil ?_
    refine ⟨Kept.made i.f, CallT.cal ?_⟩
    match k, hk2, hk0 with
    | 1, _, _ =>
      refine T_i2leaf i eD (by simp) (by decide) (by decide) (by simp) (le_up hn) ?_
      refine ⟨by simp, ?_⟩
      refine EsT.nil ?_; refine EsT.cons ?_; refine ExT.return ?_
      refine EvT.cell (a := L + 2) i.c2 ?_
      exact ⟨_, fin _, h D hDH⟩
    | 2, _, _ =>
      refine T_i2two i eD ha hb hm2 (le_up hn) ?_
      refine ⟨by simp, ?_⟩
      refine EsT.nil ?_; refine EsT.cons ?_; refine ExT.return ?_
      refine EvT.cell (a := L + 2) i.c2 ?_
      exact ⟨_, fin _, h D hDH⟩
  · have ha0 : a = 0 := by simpa using hc
    have hk0 : k = 0 := hz.mpr ha0
    subst hk0
    refine EsT.nil ?_; refine EsT.cons ?_; refine ExT.return ?_
    refine EvT.cell (a := L + 2) i.c2 ?_
    refine ⟨_, ?_, h D hDH⟩
    exact (fin []).trans (setL_same eD)

structure D2 (H : AH) (C1 C2 C3 F D : Addr) (m : Int) (ds : List Int) : Prop where
  c1 : H.cs C1 = some (some (.ref D))
  c2 : H.cs C2 = some (some (.int m 0))
  c3 : H.cs C3 = some (some (.ref F))
  f : H.fs F = some (fnA (nestSt (topSt 7) 0) [("n", C2), ("inner", C3), ("digits", C1)] none)
  d : H.ls D = some (digV ds)

theorem T_d2leaf {H : AH} {C1 C2 C3 F D : Addr} {m l r x : Int} {ds : List Int} {Q : Value → AH → Prop} (i : D2 H C1 C2 C3 F D m ds) (hlr : l + 1 = r) (h0 : 0 ≤ l) (h1 : l < 2 ^ 63) (h2 : ds[l.toNat]? = some x) (hn : n ≤ 90)
    (h : Q (.int x 0) H) : CallT w h₀ n (.ref F) [.int l 0, .int r 0] [] H Q := by
  refine CallT.made (fa := fnA (nestSt (topSt 7) 0) [("n", C2), ("inner", C3), ("digits", C1)] none) (binds := [("L", .int l 0), ("R", .int r 0)]) i.f (fun fd e1 e2 e3 a' k' e4 e5 => ?_) (fun L q cd hL => ?_) (by omega) rfl rfl
  · obtain ⟨x', y', rfl, ex, ey⟩ := map2 e4
    rw [kw0 e5]
    obtain ⟨nm, qn, pa, bo, sc, gl, cl, de, kd, dc, pm, an, co, ct, bu⟩ := fd
    simp only at e1 e2 e3
    subst e1 e2 e3
    exact ⟨[("L", x'), ("R", y')], rfl, by simp [ex, ey]⟩
  refine BdT.loc (BdT.loc (BdT.nil (BodyT.stmts ?_)))
  refine EsT.cons ?_; refine ExT.if ?_; refine IfT.compare ?_; refine EvT.binOp ?_; refine EvT.local ?_; refine EvT.int ?_
  refine BinT.addI ?_
  refine EvT.local ?_
  refine CmpT.eqI (TruT.bool (ifT (by rw [hlr]; simp) ?_))
  refine EsT.cons ?_; refine ExT.return ?_; refine EvT.sub ?_
  refine EvT.free (a := C1) i.c1 ?_
  refine EvT.local ?_
  refine ⟨SubOk.ls i.d, GetT.list i.d h0 h1 (by rw [digV, List.getElem?_map, h2]; rfl) ?_⟩
  exact h

theorem T_d2two {H : AH} {C1 C2 C3 F D : Addr} {m : Nat} {x y : Int} {Q : Value → AH → Prop} (i : D2 H C1 C2 C3 F D m [x, y]) (hb : Builtin.Int.intBits y ≤ 1000) (hm : m ≤ 1000) (hn : n ≤ 80)
    (h : Q (.int (y * 2 ^ m + x) 0) H) : CallT w h₀ n (.ref F) [.int 0 0, .int 2 0] [] H Q := by
  refine CallT.made (fa := fnA (nestSt (topSt 7) 0) [("n", C2), ("inner", C3), ("digits", C1)] none) (binds := [("L", .int 0 0), ("R", .int 2 0)]) i.f (fun fd e1 e2 e3 a' k' e4 e5 => ?_) (fun L q cd hL => ?_) (by omega) rfl rfl
  · obtain ⟨x', y', rfl, ex, ey⟩ := map2 e4
    rw [kw0 e5]
    obtain ⟨nm, qn, pa, bo, sc, gl, cl, de, kd, dc, pm, an, co, ct, bu⟩ := fd
    simp only at e1 e2 e3
    subst e1 e2 e3
    exact ⟨[("L", x'), ("R", y')], rfl, by simp [ex, ey]⟩
  refine BdT.loc (BdT.loc (BdT.nil (BodyT.stmts ?_)))
  refine EsT.cons ?_; refine ExT.if ?_; refine IfT.compare ?_; refine EvT.binOp ?_; refine EvT.local ?_; refine EvT.int ?_
  refine BinT.addI ?_
  refine EvT.local ?_
  refine CmpT.eqI (TruT.bool (ifF rfl ?_))
  refine EsT.nil ?_
  refine EsT.cons ?_; refine ExT.assignName ?_; refine EvT.binOp ?_; refine EvT.binOp ?_; refine EvT.local ?_; refine EvT.local ?_
  refine BinT.addI ?_
  refine EvT.int ?_
  refine BinT.shrI ?_ (by decide)
  refine StoreT.local ?_
  refine EsT.cons ?_; refine ExT.assignName ?_; refine EvT.binOp ?_; refine EvT.binOp ?_; refine EvT.local ?_; refine EvT.local ?_
  refine BinT.subI ?_
  refine EvT.free (a := C2) i.c2 ?_
  refine BinT.mulI ?_ (.of_le (m := 1) (n := 64) (by decide) (intBits_cast_le (by rw [sizeLine_eq]; omega)) (by decide))
  rw [show (((0 : Int) + 2).fdiv (2 ^ (1 : Int).toNat) - 0) * (m : Int) = (m : Int) by rw [show (((0 : Int) + 2).fdiv (2 ^ (1 : Int).toNat) - 0) = 1 from by decide, Int.one_mul]]
  refine StoreT.local ?_
  refine EsT.cons ?_; refine ExT.return ?_; refine EvT.binOp ?_; refine EvT.binOp ?_
  refine EvT.call (EvT.free (a := C3) i.c3 ?_)
  refine ArgsT.pos ?_; refine ItsT.cons ?_; refine EvT.local ?_; refine ItsT.cons ?_; refine EvT.local ?_; refine ItsT.nil ?_
  refine ⟨Kept.made i.f, CallT.cal (T_d2leaf (x := y) i rfl (by decide) (by decide) rfl (le_up hn) ?_)⟩
  refine EvT.local ?_
  refine BinT.shlI ?_ (by omega) (by omega)
  rw [Int.toNat_natCast]
  refine EvT.call (EvT.free (a := C3) i.c3 ?_)
  refine ArgsT.pos ?_; refine ItsT.cons ?_; refine EvT.local ?_; refine ItsT.cons ?_; refine EvT.local ?_; refine ItsT.nil ?_
  refine ⟨Kept.made i.f, CallT.cal (T_d2leaf (x := x) i rfl (by decide) (by decide) rfl (le_up hn) ?_)⟩
  refine BinT.addI ?_
  exact h

noncomputable def d2iV (m : Nat) : List Int → Int
  | [] => 0
  | [x] => x
  | x :: y :: _ => y * 2 ^ m + x
set_option maxHeartbeats 1000000 in
theorem T_d2i {D : Addr} {m : Nat} {ds : List Int} {H : AH} {Q : Value → AH → Prop} (ed : H.ls D = some (digV ds)) (hds : ds.length ≤ 2) (hb : ∀ y ∈ ds, Builtin.Int.intBits y ≤ 1000) (hm2 : m ≤ 1000) (hn : n ≤ 70)
    (h : Q (.int (d2iV m ds) 0) H) : CallT w h₀ n (.ref 84) [.ref D, .int m 0] [] H Q := by
  refine CallT.drop (CallT.base (binds := [("digits", .ref D), ("n", .int m 0)]) ⟨_, _, _, _, _, _, _, rfl, rfl, rfl, rfl⟩ (fun a' k' e2 e3 s I => ?_) (fun L hL => ?_) (by omega))
  · obtain ⟨x', y', rfl, ex, ey⟩ := map2 e2
    rw [kw0 e3]
    exact ⟨[("digits", x'), ("n", y')], .of_eq rfl, by simp [ex, ey]⟩
  refine BdT.cell (a := L + 1) (v0 := none) (BdT.cell (a := L + 2) (v0 := none) (BdT.nil (BodyT.stmts ?_)) ?hw) ?hv
  case hv =>
    show (((H.setC (L + 1) none).setC (L + 2) none).setC (L + 3) none).cs (L + 1) = some none
    exact (setC_miss (adNe (by decide))).trans ((setC_miss (adNe (by decide))).trans (setC_hit _ _ _))
  case hw =>
    show ((((H.setC (L + 1) none).setC (L + 2) none).setC (L + 3) none).setC (L + 1) (some (.ref D))).cs (L + 2) = some none
    exact (setC_miss (adNe (by decide))).trans ((setC_miss (adNe (by decide))).trans (setC_hit _ _ _))
  show EsT w h₀ _ _ ⟨_, (((((H.setC (L + 1) none).setC (L + 2) none).setC (L + 3) none).setC (L + 1) (some (.ref D))).setC (L + 2) (some (.int m 0)))⟩ _
  generalize eH1 : (((((H.setC (L + 1) none).setC (L + 2) none).setC (L + 3) none).setC (L + 1) (some (.ref D))).setC (L + 2) (some (.int m 0))) = H1
  have l1 : AHle H H1 := by
    rw [← eH1]
    exact AHle.setC (AHle.setC (AHle.setC (AHle.setC (AHle.setC .refl (hL _ (Nat.le_add_right _ _))) (hL _ (Nat.le_add_right _ _))) (hL _ (Nat.le_add_right _ _))) (hL _ (Nat.le_add_right _ _))) (hL _ (Nat.le_add_right _ _))
  have g1 : H1.cs (L + 1) = some (some (.ref D)) := by rw [← eH1]; exact (setC_miss (adNe (by decide))).trans (setC_hit _ _ _)
  have g2 : H1.cs (L + 2) = some (some (.int m 0)) := by rw [← eH1]; exact setC_hit _ _ _
  have g3 : H1.cs (L + 3) = some none := by rw [← eH1]; exact (setC_miss (adNe (by decide))).trans ((setC_miss (adNe (by decide))).trans (setC_hit _ _ _))
  refine EsT.cons ?_
  refine ExT.def (cc := 83) (P := 79) (clos := [("n", L + 2), ("inner", L + 3), ("digits", L + 1)]) (fun F hF => ?_) (by decide)
  refine StoreT.cell (a := L + 3) (v0 := none) g3 ?_
  show EsT w h₀ _ _ ⟨_, ((H1.setF F (fnA (nestSt (topSt 7) 0) [("n", L + 2), ("inner", L + 3), ("digits", L + 1)] none)).setC (L + 3) (some (.ref F)))⟩ _
  generalize eH2 : ((H1.setF F (fnA (nestSt (topSt 7) 0) [("n", L + 2), ("inner", L + 3), ("digits", L + 1)] none)).setC (L + 3) (some (.ref F))) = H2
  have i : D2 H2 (L + 1) (L + 2) (L + 3) F D m ds := by
    rw [← eH2]
    exact ⟨(setC_miss (adNe (by decide))).trans g1, (setC_miss (adNe (by decide))).trans g2, setC_hit _ _ _, setF_hit _ _ _, l1.ls _ _ ed⟩
  have l2 : AHle H H2 := by
    rw [← eH2]
    exact AHle.setC (AHle.setF l1 (fun d => hF (l1.dom d))) (hL _ (Nat.le_add_right _ _))
  refine EsT.cons ?_; refine ExT.return ?_; refine EvT.ifExp ?_; refine IfT.plain ?_
  refine EvT.cell (a := L + 1) i.c1 ?_
  refine TruT.list i.d (ifB (fun hc => ?_) fun hc => ?_) (by simp [digV, sizeLine_eq]; omega)
  · refine EvT.call (EvT.cell (a := L + 3) i.c3 ?_)
    refine ArgsT.pos ?_; refine ItsT.cons ?_; refine EvT.int ?_; refine ItsT.cons ?_; refine EvT.call ?_; refine EvT.builtin ?_; refine ArgsT.pos ?_; refine ItsT.cons ?_
    refine EvT.cell (a := L + 1) i.c1 ?_
    refine ItsT.nil ?_
    refine ⟨trivial, CalT.len i.d (by simp [digV]; omega) ?_⟩
    refine ItsT.nil ?_
    refine ⟨Kept.made i.f, CallT.cal ?_⟩
    match ds, hds, hc, i, h, hb with
    | [x], _, _, i, h, hb => exact T_d2leaf (x := x) i rfl (by decide) (by decide) rfl (le_up hn) ⟨_, l2, h⟩
    | [x, y], _, _, i, h, hb => exact T_d2two i (hb _ (by simp)) hm2 (le_up hn) ⟨_, l2, h⟩
  · have : ds = [] := by cases ds with
      | nil => rfl
      | cons a l => simp [digV] at hc
    subst this
    refine EvT.int ?_
    exact ⟨_, l2, h⟩

theorem lh {x : Str} {v : Value} {lo : Lo} : (lput x v lo).lookup x = some v := lput_hit _ _ _
theorem lm {x y : Str} {v u : Value} {lo : Lo} (h : y ≠ x) (e : lo.lookup y = some u) : (lput x v lo).lookup y = some u := (lput_lookup _ _ _ _).trans ((if_neg h).trans e)
noncomputable def dvS (b : Int) (m : Nat) : List Int → Int × List Int
  | [] => (0, [])
  | d :: l => (((dvS b m l).1 * 2 ^ m + d).fmod b, (dvS b m l).2 ++ [((dvS b m l).1 * 2 ^ m + d).fdiv b])
theorem dvS_len (b : Int) (m : Nat) : ∀ l, (dvS b m l).2.length = l.length
  | [] => rfl
  | d :: l => by simp [dvS, dvS_len b m l]
theorem dvS_bits {b : Int} {m : Nat} (hb : 0 < b) : ∀ l, 0 ≤ (dvS b m l).1 ∧ (dvS b m l).1 < b
  | [] => ⟨Int.le_refl _, hb⟩
  | d :: l => ⟨Int.fmod_nonneg_of_pos _ hb, Int.fmod_lt_of_pos _ hb⟩
theorem bits_lt {r b : Int} {k : Nat} (h0 : 0 ≤ r) (h1 : r < b) (hb : Builtin.Int.intBits b ≤ k) : Builtin.Int.intBits r ≤ k := intBits_le_of_natAbs (by omega) hb
theorem log2_bits {b : Int} {m : Nat} (hb : 0 < b) (em : Builtin.Int.intBits b = m) : b.natAbs.log2 ≤ m := by
  unfold Builtin.Int.intBits at em
  rw [if_neg (by simp; omega)] at em
  omega
theorem bits_p2 (m : Nat) : Builtin.Int.intBits ((2 : Int) ^ m) ≤ m + 1 := intBits_le_iff.mpr (by
  rw [show ((2 : Int) ^ m).natAbs = 2 ^ m by rw [Int.natAbs_pow]; rfl, Nat.pow_succ]; have : 0 < 2 ^ m := Nat.pow_pos (by decide); omega)
theorem AHle.delI' {H G : AH} {a : Addr} (l : AHle H G) (h : ¬ H.dom a) : AHle H (G.delI a) :=
  ⟨l.ls, l.ts, l.cs, l.ds, l.xs, l.fs, fun b v e => by
    by_cases hb : b = a
    · subst hb; exact absurd (AH.dom_is e) h
    · exact (if_neg hb).trans (l.is b v e)⟩
structure DmI (H : AH) (b : Int) (m : Nat) (ds : List Int) (D QD it : Addr) (j : Nat) (st : St) : Prop where
  gn : st.lo.g "n" = some (.int m 0)
  gb : st.lo.g "b" = some (.int b 0)
  gr : st.lo.g "r" = some (.int (dvS b m (ds.drop j)).1 0)
  gq : st.lo.g "q_digits" = some (.ref QD)
  it : st.H.is it = some (.rev D ((j : Int) - 1))
  d : st.H.ls D = some (digV ds)
  qd : st.H.ls QD = some (digV (dvS b m (ds.drop j)).2)
  j : j ≤ ds.length
  le : AHle H st.H
theorem dvS_all {b : Int} {m : Nat} {k : Nat} (hb : 0 < b) (hbb : Builtin.Int.intBits b ≤ k) (hk : k ≤ 100) (hm : m ≤ 100) : ∀ l : List Int, (∀ y ∈ l, Builtin.Int.intBits y ≤ 300) → ∀ y ∈ (dvS b m l).2, Builtin.Int.intBits y ≤ 1000
  | [], _, y, hy => by simp [dvS] at hy
  | d :: l, h, y, hy => by
    rw [dvS, List.mem_append] at hy
    rcases hy with hy | hy
    · exact dvS_all hb hbb hk hm l (fun z hz => h z (.tail _ hz)) y hy
    · rw [List.mem_singleton] at hy
      subst hy
      have r := dvS_bits (m := m) hb l
      have h1 := intBits_mul_le (bits_lt r.1 r.2 hbb) (bits_p2 m)
      have h2 := intBits_add_le h1 (h d (.head _))
      exact Nat.le_trans (intBits_fdiv_le h2) (by omega)
set_option maxHeartbeats 2000000 in
theorem T_dmp0 {a b : Int} {k : Nat} {H : AH} {Q : Value → AH → Prop} (ha : 0 ≤ a) (hb : 0 < b) (hb2 : Builtin.Int.intBits b ≤ 100) (hba : Builtin.Int.intBits a ≤ 300) (hk2 : k ≤ 2) (hk : ((Builtin.Int.intBits a : Int) + Builtin.Int.intBits b - 1).fdiv (Builtin.Int.intBits b) = k) (hz : k = 0 ↔ a = 0) (hn : n ≤ 60)
    (h : ∀ H' t, AHle H H' → ¬ H.dom t → H'.ts t = some [.int (d2iV (Builtin.Int.intBits b) (dvS b (Builtin.Int.intBits b) (digs a (Builtin.Int.intBits b) k)).2.reverse) 0, .int (dvS b (Builtin.Int.intBits b) (digs a (Builtin.Int.intBits b) k)).1 0] → Q (.ref t) H') : CallT w h₀ n (.ref 91) [.int a 0, .int b 0] [] H Q := by
  have hm : 0 < Builtin.Int.intBits b := by
    rcases Nat.eq_zero_or_pos (Builtin.Int.intBits b) with e | e
    · have := intBits_le_iff.mp (Nat.le_of_eq e)
      omega
    · exact e
  refine CallT.base (binds := [("a", .int a 0), ("b", .int b 0)]) ⟨_, _, _, _, _, _, _, rfl, rfl, rfl, rfl⟩ (fun a' k' e2 e3 s I => ?_) (fun L hL => ?_) (by omega)
  · obtain ⟨x', y', rfl, ex, ey⟩ := map2 e2
    rw [kw0 e3]
    exact ⟨[("a", x'), ("b", y')], .of_eq rfl, by simp [ex, ey]⟩
  refine BdT.loc (BdT.loc (BdT.nil (BodyT.stmts ?_)))
  refine EsT.cons ?_; refine ExT.assignName ?_; refine EvT.method ?_; refine EvT.local ?_
  refine GmT.int F.slot_int_bit_length F.type_int_bit_length ?_
  refine ArgsT.nil ?_
  refine ⟨trivial, CalT.bitLength ?_⟩
  refine StoreT.local ?_
  generalize em : Builtin.Int.intBits b = m at *
  refine EsT.cons ?_; refine ExT.assignName ?_
  refine EvT.call ?_; refine EvT.global ?_; refine ArgsT.pos ?_; refine ItsT.cons ?_; refine EvT.local ?_; refine ItsT.cons ?_; refine EvT.local ?_; refine ItsT.nil ?_
  refine ⟨.inl (by kernel_rfl), CallT.cal (T_i2d ha hm (by omega) (by omega) hk2 hk hz (le_up hn) fun D hD => ?_)⟩
  have hdl : (digs a m k).length ≤ 2 := by
    match k, hk2 with
    | 0, _ => simp [digs]
    | 1, _ => simp [digs]
    | 2, _ => simp [digs]
  have hdb : ∀ y ∈ digs a m k, Builtin.Int.intBits y ≤ 300 := by
    have h1 : Builtin.Int.intBits (a.fdiv (2 ^ m)) ≤ 300 := intBits_fdiv_le hba
    have h2 : Builtin.Int.intBits (a.fmod (2 ^ m)) ≤ 300 := Nat.le_trans (intBits_fmod_le hba (bits_p2 m)) (by omega)
    match k, hk2 with
    | 0, _ => simp [digs]
    | 1, _ => simpa [digs] using hba
    | 2, _ => simp [digs, h1, h2]
  generalize digs a m k = ds at *
  refine StoreT.local ?_
  refine EsT.cons ?_; refine ExT.assignName ?_; refine EvT.int ?_; refine StoreT.local ?_
  refine EsT.cons ?_; refine ExT.assignName ?_; refine EvT.list ?_; refine ItsT.nil ?_
  refine ⟨by simp, fun QD hQD => ?_⟩
  refine StoreT.local ?_
  refine EsT.cons ?_
  refine ExT.for ?_
  refine EvT.call ?_; refine EvT.builtin ?_; refine ArgsT.pos ?_; refine ItsT.cons ?_; refine EvT.local ?_; refine ItsT.nil ?_
  have hne : D ≠ QD := fun e => hQD (e ▸ AH.dom_ls (setL_hit _ _ _))
  refine ⟨trivial, CalT.reversed (xs := digV ds) ((setL_miss hne).trans (setL_hit _ _ _)) fun it hit => ?_⟩
  have lQ : AHle H ((H.setL D (digV ds)).setL QD []) := AHle.setL (AHle.setL .refl hD) (fun d => hQD (dom_setL d))
  have itH : ¬ H.dom it := fun d => hit (lQ.dom d)
  have QDH : ¬ H.dom QD := fun d => hQD (dom_setL d)
  refine ItrT.rev (setI_hit _ _ _) ⟨DmI H b m ds D QD it, ds.length, ⟨rfl, rfl, by rw [List.drop_length]; rfl, rfl, by simp [digV], (setL_miss hne).trans (setL_hit _ _ _), by rw [List.drop_length]; exact setL_hit _ _ _, Nat.le_refl _, lQ.setI itH⟩, ?_⟩
  rintro j st ⟨gn, gb, gr, gq, gi, gd, gqd, gj, gle⟩
  cases j with
  | succ j =>
    have hj : j < ds.length := gj
    refine NxT.rev (i := j) (v := .int ds[j] 0) (by simpa using gi) gd (by rw [digV, List.getElem?_map, List.getElem?_eq_getElem hj]; rfl) ?_
    refine AsT.name (StoreT.local ?_)
    have rb := dvS_bits (m := m) hb (ds.drop (j + 1))
    have hdrop : ds.drop j = ds[j] :: ds.drop (j + 1) := (List.drop_eq_getElem_cons hj)
    have b1 := bits_lt rb.1 rb.2 (Nat.le_of_eq em)
    have b2 := intBits_add_le (intBits_mul_le b1 (bits_p2 m)) (hdb ds[j] (List.getElem_mem hj))
    refine EsT.cons ?_
    refine ExT.assignT ?_
    refine EvT.call ?_; refine EvT.global ?_; refine ArgsT.pos ?_; refine ItsT.cons ?_; refine EvT.binOp ?_; refine EvT.binOp ?_
    refine EvT.local ?_ (lm (by decide) gr)
    refine EvT.local ?_ (lm (by decide) gn)
    refine BinT.shlI ?_ (by omega) (by omega)
    rw [Int.toNat_natCast]
    refine EvT.local ?_ lh
    refine BinT.addI ?_
    refine ItsT.cons ?_
    refine EvT.local ?_ (lm (by decide) gb)
    refine ItsT.cons ?_
    refine EvT.local ?_ (lm (by decide) gn)
    refine ItsT.nil ?_
    refine ⟨.inl (by kernel_rfl), CallT.cal (T_div21 (le_up hn) (by omega) (Nat.lt_of_le_of_lt (log2_bits hb em) (by omega)) (by omega) fun t ht => ?_)⟩
    have e0 : (dvS b m (ds.drop j)).1 = ((dvS b m (ds.drop (j + 1))).1 * 2 ^ m + ds[j]).fmod b := by rw [hdrop]; rfl
    have e1 : (dvS b m (ds.drop j)).2 = (dvS b m (ds.drop (j + 1))).2 ++ [((dvS b m (ds.drop (j + 1))).1 * 2 ^ m + ds[j]).fdiv b] := by rw [hdrop]; rfl
    refine AsT.pair (setT_hit _ _ _) (AsT.name (StoreT.local (AsT.name (StoreT.local ?_))))
    rw [← e0]
    refine EsT.cons ?_; refine ExT.expr ?_; refine EvT.method ?_
    refine EvT.local ?_ (lm (by decide) (lm (by decide) (lm (by decide) gq)))
    refine GmT.list gqd F.slot_list_append F.type_list_append ?_
    refine ArgsT.pos ?_; refine ItsT.cons ?_
    refine EvT.local ?_ (lm (by decide) lh)
    refine ItsT.nil ?_
    refine ⟨trivial, CalT.append gqd (by simp [digV, dvS_len]; omega) ?_⟩
    refine ⟨by simp, ?_⟩
    refine EsT.nil ?_
    have tH : ¬ H.dom t := fun d => ht (dom_setI (gle.dom d))
    refine ⟨j, Nat.lt_succ_self _, lm (by decide) (lm (by decide) (lm (by decide) gn)), lm (by decide) (lm (by decide) (lm (by decide) gb)), lh, lm (by decide) (lm (by decide) (lm (by decide) gq)), setI_hit _ _ _, (setL_miss hne).trans gd, ?_, by omega, ?_⟩
    · refine (setL_hit _ _ _).trans ?_
      rw [e1]; simp [digV]
    · exact AHle.setL (AHle.setT (AHle.setI gle itH) tH) QDH
  | zero =>
    refine NxT.revEnd (by simpa using gi) ?_
    refine EsT.nil ?_
    rw [List.drop_zero] at gr gqd
    refine EsT.cons ?_; refine ExT.expr ?_; refine EvT.method ?_
    refine EvT.local ?_ gq
    refine GmT.list gqd F.slot_list_reverse F.type_list_reverse ?_
    refine ArgsT.nil ?_
    refine ⟨trivial, CalT.reverse gqd (by simp [digV, dvS_len]; omega) ?_⟩
    refine ⟨by simp, ?_⟩
    refine EsT.cons ?_; refine ExT.assignName ?_; refine EvT.call ?_; refine EvT.global ?_; refine ArgsT.pos ?_; refine ItsT.cons ?_
    refine EvT.local ?_ gq
    refine ItsT.cons ?_
    refine EvT.local ?_ gn
    refine ItsT.nil ?_
    refine ⟨.inl (by kernel_rfl), CallT.cal (T_d2i (ds := (dvS b m ds).2.reverse) ((setL_hit _ _ _).trans (by simp [digV])) (by simp [dvS_len]; omega) (fun y hy => dvS_all hb (Nat.le_of_eq em) (by omega) (by omega) ds hdb y (List.mem_reverse.mp hy)) (by omega) (le_up hn) ?_)⟩
    refine StoreT.local ?_
    refine EsT.cons ?_; refine ExT.return ?_; refine EvT.tuple ?_; refine ItsT.cons ?_
    refine EvT.local ?_ lh
    refine ItsT.cons ?_
    refine EvT.local ?_ (lm (by decide) gr)
    refine ItsT.nil ?_
    refine ⟨by simp [sizeLine_eq], fun t ht => ?_⟩
    have lz := AHle.setL (x := (digV (dvS b m ds).2).reverse) (AHle.delI' gle itH) QDH
    refine h _ t (AHle.setT lz (fun d => ht (lz.dom d))) (fun d => ht (lz.dom d)) (setT_hit _ _ _)

theorem fdiv_uniq {a b q r : Int} (h0 : 0 ≤ r) (h1 : r < b) (e : a = q * b + r) : a.fdiv b = q ∧ a.fmod b = r := by
  have hb : 0 < b := Int.lt_of_le_of_lt h0 h1
  have e1 : a.fdiv b = q := by
    rw [Int.fdiv_eq_ediv_of_nonneg _ (Int.le_of_lt hb), e, Int.mul_comm, Int.add_comm, Int.add_mul_ediv_left _ _ (by omega), Int.ediv_eq_zero_of_lt h0 h1, Int.zero_add]
  refine ⟨e1, ?_⟩
  have := Int.mul_fdiv_add_fmod a b
  rw [e1, Int.mul_comm] at this
  omega
theorem dv_two {a b : Int} {m : Nat} (hb : 0 < b) :
    d2iV m (dvS b m [a.fmod (2 ^ m), a.fdiv (2 ^ m)]).2.reverse = a.fdiv b ∧ (dvS b m [a.fmod (2 ^ m), a.fdiv (2 ^ m)]).1 = a.fmod b := by
  have e := Int.mul_fdiv_add_fmod a (2 ^ m)
  show ((0 * 2 ^ m + a.fdiv (2 ^ m)).fdiv b) * 2 ^ m + (((0 * 2 ^ m + a.fdiv (2 ^ m)).fmod b) * 2 ^ m + a.fmod (2 ^ m)).fdiv b = a.fdiv b ∧ (((0 * 2 ^ m + a.fdiv (2 ^ m)).fmod b) * 2 ^ m + a.fmod (2 ^ m)).fmod b = a.fmod b
  rw [Int.zero_mul, Int.zero_add]
  generalize a.fdiv (2 ^ m) = hi at *
  generalize a.fmod (2 ^ m) = lo at *
  generalize (2 : Int) ^ m = p at *
  have e1 := Int.mul_fdiv_add_fmod hi b
  have e2 := Int.mul_fdiv_add_fmod (hi.fmod b * p + lo) b
  have l0 := Int.fmod_nonneg_of_pos (hi.fmod b * p + lo) hb
  have l1 := Int.fmod_lt_of_pos (hi.fmod b * p + lo) hb
  generalize (hi.fmod b * p + lo).fmod b = r at *
  generalize (hi.fmod b * p + lo).fdiv b = q0 at *
  generalize hi.fmod b = r1 at *
  generalize hi.fdiv b = q1 at *
  have := fdiv_uniq (a := a) (q := q1 * p + q0) l0 l1 (by
    rw [← e, ← e1, Int.add_mul, Int.mul_add]
    have h1 : p * (b * q1) = q1 * p * b := by rw [Int.mul_comm b q1, ← Int.mul_assoc, Int.mul_comm p q1]
    have h2 : p * r1 = r1 * p := Int.mul_comm _ _
    have h3 : q0 * b = b * q0 := Int.mul_comm _ _
    rw [h1, h2, h3]
    omega)
  exact ⟨this.1.symm, this.2.symm⟩
theorem T_dmp {a b : Int} {H : AH} {Q : Value → AH → Prop} (ha : 0 ≤ a) (hb : 0 < b) (hb2 : Builtin.Int.intBits b ≤ 100) (hba : Builtin.Int.intBits a ≤ 2 * Builtin.Int.intBits b) (hn : n ≤ 60)
    (h : ∀ H' t, AHle H H' → ¬ H.dom t → H'.ts t = some [.int (a.fdiv b) 0, .int (a.fmod b) 0] → Q (.ref t) H') : CallT w h₀ n (.ref 91) [.int a 0, .int b 0] [] H Q := by
  have hm : 0 < Builtin.Int.intBits b := by
    rcases Nat.eq_zero_or_pos (Builtin.Int.intBits b) with e | e
    · have := intBits_le_iff.mp (Nat.le_of_eq e)
      omega
    · exact e
  have ia0 : Builtin.Int.intBits a = 0 → a = 0 := fun e => by
    have := intBits_le_iff.mp (Nat.le_of_eq e)
    omega
  obtain ⟨m, em⟩ : ∃ m, m = Builtin.Int.intBits b := ⟨_, rfl⟩
  obtain ⟨ia, eia⟩ : ∃ ia, ia = Builtin.Int.intBits a := ⟨_, rfl⟩
  obtain ⟨k, ek⟩ : ∃ k, k = (ia + m - 1) / m := ⟨_, rfl⟩
  have hk : ((Builtin.Int.intBits a : Int) + Builtin.Int.intBits b - 1).fdiv (Builtin.Int.intBits b) = k := by
    rw [← em, ← eia, Int.fdiv_eq_ediv_of_nonneg _ (by omega), ek, Int.natCast_ediv]
    congr 1
    omega
  have hk2 : k ≤ 2 := by
    rw [ek]
    have : (ia + m - 1) / m < 3 := (Nat.div_lt_iff_lt_mul (by omega)).mpr (by omega)
    omega
  have k0 : k = 0 ↔ ia = 0 := by
    rw [ek, Nat.div_eq_zero_iff]
    omega
  have hz : k = 0 ↔ a = 0 := k0.trans ⟨fun e => ia0 (eia ▸ e), fun e => by rw [eia, e]; rfl⟩
  refine T_dmp0 (k := k) ha hb hb2 (by omega) hk2 hk hz hn fun H' t l ht e => h H' t l ht (e.trans ?_)
  rw [← em]
  match k, hk2, hz with
  | 0, _, hz =>
    have := hz.mp rfl
    subst this
    rfl
  | 1, _, _ =>
    show some [Value.int ((0 * 2 ^ m + a).fdiv b) 0, Value.int ((0 * 2 ^ m + a).fmod b) 0] = _
    rw [Int.zero_mul, Int.zero_add]
  | 2, _, _ =>
    have := dv_two (a := a) (m := m) hb
    show some [Value.int (d2iV m (dvS b m [a.fmod (2 ^ m), a.fdiv (2 ^ m)]).2.reverse) 0, Value.int (dvS b m [a.fmod (2 ^ m), a.fdiv (2 ^ m)]).1 0] = _
    rw [this.1, this.2]

theorem T_idmP {a b : Int} {H : AH} {Q : Value → AH → Prop} (ha : 0 ≤ a) (hb : 0 < b) (hb2 : Builtin.Int.intBits b ≤ 100) (hba : Builtin.Int.intBits a ≤ 2 * Builtin.Int.intBits b) (hn : n ≤ 50)
    (h : ∀ H' t, AHle H H' → ¬ H.dom t → H'.ts t = some [.int (a.fdiv b) 0, .int (a.fmod b) 0] → Q (.ref t) H') : CallT w h₀ n (.ref 98) [.int a 0, .int b 0] [] H Q := by
  refine CallT.base (binds := [("a", .int a 0), ("b", .int b 0)]) ⟨_, _, _, _, _, _, _, rfl, rfl, rfl, rfl⟩ (fun a' k' e2 e3 s I => ?_) (fun L hL => ?_) (by omega)
  · obtain ⟨x', y', rfl, ex, ey⟩ := map2 e2
    rw [kw0 e3]
    exact ⟨[("a", x'), ("b", y')], .of_eq rfl, by simp [ex, ey]⟩
  refine BdT.loc (BdT.loc (BdT.nil (BodyT.stmts ?_)))
  refine EsT.cons ?_; refine ExT.if ?_; refine IfT.compare ?_; refine EvT.local ?_; refine EvT.int ?_
  refine CmpT.eqI (TruT.bool (ifF (by simp; omega) ?_))
  refine EsT.cons ?_; refine ExT.if ?_; refine IfT.compare ?_; refine EvT.local ?_; refine EvT.int ?_
  refine CmpT.ltI (TruT.bool (ifF (decide_eq_false (by omega)) ?_))
  refine EsT.cons ?_; refine ExT.if ?_; refine IfT.compare ?_; refine EvT.local ?_; refine EvT.int ?_
  refine CmpT.ltI (TruT.bool (ifF (decide_eq_false (by omega)) ?_))
  refine EsT.cons ?_; refine ExT.return ?_
  refine EvT.call ?_; refine EvT.global ?_; refine ArgsT.pos ?_; refine ItsT.cons ?_; refine EvT.local ?_; refine ItsT.cons ?_; refine EvT.local ?_; refine ItsT.nil ?_
  refine ⟨.inl (by kernel_rfl), CallT.cal (T_dmp ha hb hb2 hba (le_up hn) fun H' t l ht e => ?_)⟩
  exact h H' t l ht e
theorem idm_neg {a b : Int} (hb : 0 < b) : -((-a - 1).fdiv b) - 1 = a.fdiv b ∧ b + (-((-a - 1).fmod b) - 1) = a.fmod b := by
  have e := Int.mul_fdiv_add_fmod (-a - 1) b
  have l0 := Int.fmod_nonneg_of_pos (-a - 1) hb
  have l1 := Int.fmod_lt_of_pos (-a - 1) hb
  generalize (-a - 1).fdiv b = q at *
  generalize (-a - 1).fmod b = r at *
  have := fdiv_uniq (a := a) (b := b) (q := -q - 1) (r := b + (-r - 1)) (by omega) (by omega) (by
    have : (-q - 1) * b = -(b * q) - b := by rw [Int.sub_mul, Int.neg_mul, Int.mul_comm q b, Int.one_mul]
    omega)
  exact ⟨this.1.symm, this.2.symm⟩
theorem idm_negb {a b : Int} (hb : b < 0) : ((-a).fdiv (-b)) = a.fdiv b ∧ -((-a).fmod (-b)) = a.fmod b := by
  refine ⟨Int.neg_fdiv_neg _ _, ?_⟩
  have := Int.neg_fmod_neg a b
  omega
set_option maxHeartbeats 1000000 in
theorem T_idmA {a b : Int} {H : AH} {Q : Value → AH → Prop} (hb : 0 < b) (hb2 : Builtin.Int.intBits b ≤ 100) (hba : Builtin.Int.intBits a ≤ 2 * Builtin.Int.intBits b) (hn : n ≤ 40)
    (h : ∀ H' t, AHle H H' → ¬ H.dom t → H'.ts t = some [.int (a.fdiv b) 0, .int (a.fmod b) 0] → Q (.ref t) H') : CallT w h₀ n (.ref 98) [.int a 0, .int b 0] [] H Q := by
  by_cases ha : 0 ≤ a
  · exact T_idmP ha hb hb2 hba (by omega) h
  refine CallT.base (binds := [("a", .int a 0), ("b", .int b 0)]) ⟨_, _, _, _, _, _, _, rfl, rfl, rfl, rfl⟩ (fun a' k' e2 e3 s I => ?_) (fun L hL => ?_) (by omega)
  · obtain ⟨x', y', rfl, ex, ey⟩ := map2 e2
    rw [kw0 e3]
    exact ⟨[("a", x'), ("b", y')], .of_eq rfl, by simp [ex, ey]⟩
  refine BdT.loc (BdT.loc (BdT.nil (BodyT.stmts ?_)))
  refine EsT.cons ?_; refine ExT.if ?_; refine IfT.compare ?_; refine EvT.local ?_; refine EvT.int ?_
  refine CmpT.eqI (TruT.bool (ifF (by simp; omega) ?_))
  refine EsT.cons ?_; refine ExT.if ?_; refine IfT.compare ?_; refine EvT.local ?_; refine EvT.int ?_
  refine CmpT.ltI (TruT.bool (ifF (decide_eq_false (by omega)) ?_))
  refine EsT.cons ?_; refine ExT.if ?_; refine IfT.compare ?_; refine EvT.local ?_; refine EvT.int ?_
  refine CmpT.ltI (TruT.bool (ifT (decide_eq_true (by omega)) ?_))
  refine EsT.cons ?_; refine ExT.assignT ?_; refine EvT.call ?_; refine EvT.global ?_; refine ArgsT.pos ?_; refine ItsT.cons ?_; refine EvT.unaryOp ?_; refine EvT.local ?_
  refine UnT.invI ?_
  refine ItsT.cons ?_; refine EvT.local ?_; refine ItsT.nil ?_
  have en : ∀ x, Builtin.bitNot x = -x - 1 := fun x => by unfold Builtin.bitNot; omega
  rw [en]
  refine ⟨.inl (by kernel_rfl), CallT.cal (T_idmP (by omega) hb hb2 (Nat.le_trans (intBits_le_of_natAbs (y := a) (by omega) (Nat.le_refl _)) hba) (le_up hn) fun H' t l ht e => ?_)⟩
  refine AsT.pair e (AsT.name (StoreT.local (AsT.name (StoreT.local ?_))))
  refine EsT.cons ?_
  refine ExT.return ?_; refine EvT.tuple ?_; refine ItsT.cons ?_; refine EvT.unaryOp ?_; refine EvT.local ?_
  refine UnT.invI ?_
  refine ItsT.cons ?_; refine EvT.binOp ?_; refine EvT.local ?_; refine EvT.unaryOp ?_; refine EvT.local ?_
  refine UnT.invI ?_
  refine BinT.addI ?_
  refine ItsT.nil ?_
  refine ⟨by simp [sizeLine_eq], fun u hu => ?_⟩
  have := idm_neg (a := a) hb
  rw [en, en, this.1, this.2]
  exact h _ u (l.setT fun d => hu (l.dom d)) (fun d => hu (l.dom d)) (setT_hit _ _ _)
set_option maxHeartbeats 1000000 in
theorem T_idm {a b : Int} {H : AH} {Q : Value → AH → Prop} (hb : b ≠ 0) (hb2 : Builtin.Int.intBits b ≤ 100) (hba : Builtin.Int.intBits a ≤ 2 * Builtin.Int.intBits b) (hn : n ≤ 30)
    (h : ∀ H' t, AHle H H' → ¬ H.dom t → H'.ts t = some [.int (a.fdiv b) 0, .int (a.fmod b) 0] → Q (.ref t) H') : CallT w h₀ n (.ref 98) [.int a 0, .int b 0] [] H Q := by
  by_cases hbp : 0 < b
  · exact T_idmA hbp hb2 hba (by omega) h
  refine CallT.base (binds := [("a", .int a 0), ("b", .int b 0)]) ⟨_, _, _, _, _, _, _, rfl, rfl, rfl, rfl⟩ (fun a' k' e2 e3 s I => ?_) (fun L hL => ?_) (by omega)
  · obtain ⟨x', y', rfl, ex, ey⟩ := map2 e2
    rw [kw0 e3]
    exact ⟨[("a", x'), ("b", y')], .of_eq rfl, by simp [ex, ey]⟩
  refine BdT.loc (BdT.loc (BdT.nil (BodyT.stmts ?_)))
  refine EsT.cons ?_; refine ExT.if ?_; refine IfT.compare ?_; refine EvT.local ?_; refine EvT.int ?_
  refine CmpT.eqI (TruT.bool (ifF (by simp; omega) ?_))
  refine EsT.cons ?_; refine ExT.if ?_; refine IfT.compare ?_; refine EvT.local ?_; refine EvT.int ?_
  refine CmpT.ltI (TruT.bool (ifT (decide_eq_true (by omega)) ?_))
  refine EsT.cons ?_; refine ExT.assignT ?_; refine EvT.call ?_; refine EvT.global ?_; refine ArgsT.pos ?_; refine ItsT.cons ?_; refine EvT.unaryOp ?_; refine EvT.local ?_
  refine UnT.negI ?_
  refine ItsT.cons ?_; refine EvT.unaryOp ?_; refine EvT.local ?_
  refine UnT.negI ?_
  refine ItsT.nil ?_
  have eb : Builtin.Int.intBits (-b) = Builtin.Int.intBits b := Nat.le_antisymm (intBits_le_of_natAbs (y := b) (by omega) (Nat.le_refl _)) (intBits_le_of_natAbs (y := -b) (by omega) (Nat.le_refl _))
  refine ⟨.inl (by kernel_rfl), CallT.cal (T_idmA (by omega) (by rw [eb]; exact hb2) (by rw [eb]; exact Nat.le_trans (intBits_le_of_natAbs (y := a) (by omega) (Nat.le_refl _)) hba) (le_up hn) fun H' t l ht e => ?_)⟩
  refine AsT.pair e (AsT.name (StoreT.local (AsT.name (StoreT.local ?_))))
  refine EsT.cons ?_
  refine ExT.return ?_; refine EvT.tuple ?_; refine ItsT.cons ?_; refine EvT.local ?_; refine ItsT.cons ?_; refine EvT.unaryOp ?_; refine EvT.local ?_
  refine UnT.negI ?_
  refine ItsT.nil ?_
  refine ⟨by simp [sizeLine_eq], fun u hu => ?_⟩
  have := idm_negb (a := a) (b := b) (by omega)
  rw [this.1, this.2]
  exact h _ u (l.setT fun d => hu (l.dom d)) (fun d => hu (l.dom d)) (setT_hit _ _ _)

noncomputable abbrev fdIL : FuncData := fnD (topSt 12) ⟨#[105, 110, 115, 111, 114, 116, 95, 108, 101, 102, 116]⟩ (.ref 108) (.ref 109) (.str ⟨#[99, 112, 121, 51, 49, 51, 46, 98, 105, 115, 101, 99, 116]⟩ 329) (.ref 115)
noncomputable abbrev fdBL : FuncData := fnD (topSt 13) ⟨#[98, 105, 115, 101, 99, 116, 95, 108, 101, 102, 116]⟩ (.ref 117) (.ref 118) (.str ⟨#[99, 112, 121, 51, 49, 51, 46, 98, 105, 115, 101, 99, 116]⟩ 329) (.ref 124)
theorem bindsIL {H : AH} {s : Shared} (I : InvH w h₀ H s) (x y k : Value) : BindsTo s fdIL ⟨[x, y], [("key", k)]⟩ [("a", x), ("x", y), ("lo", .int 0 345), ("hi", .none), ("key", k)] := fun M A E Q hq => by
  have g99 : s.heap.get? 108 = some ⟨.type "tuple", none, .seq #[.int 0 345, .none] 0, #[]⟩ := I.base _ _ (by rfl)
  show wpAny M A (seqItems? (.ref 108) >>= _) Q E s
  refine wpAny_bind (wpAny_seqItems g99 rfl ?_)
  dsimp only
  exact wpAny_pure hq
theorem bindsBL {H : AH} {s : Shared} (I : InvH w h₀ H s) (x y l h k : Value) : BindsTo s fdBL ⟨[x, y, l, h], [("key", k)]⟩ [("a", x), ("x", y), ("lo", l), ("hi", h), ("key", k)] := fun M A E Q hq => by
  have g99 : s.heap.get? 117 = some ⟨.type "tuple", none, .seq #[.int 0 358, .none] 0, #[]⟩ := I.base _ _ (by rfl)
  show wpAny M A (seqItems? (.ref 117) >>= _) Q E s
  refine wpAny_bind (wpAny_seqItems g99 rfl ?_)
  dsimp only
  exact wpAny_pure hq

theorem kw1 {kw : List (Str × Value)} {k : Str} {v : Value} (e : kw.map (fun p => (p.1, er p.2)) = [(k, v)]) : ∃ x, kw = [(k, x)] ∧ er x = v := by
  obtain ⟨⟨k', x⟩, r, rfl, ex, er'⟩ := List.map_eq_cons_iff.mp e
  obtain rfl := List.map_eq_nil_iff.mp er'
  obtain ⟨rfl, e2⟩ := Prod.mk.inj ex
  exact ⟨x, rfl, e2⟩
theorem map4 {vs : List Value} {a b c d : Value} (e : vs.map er = [a, b, c, d]) : ∃ x y z u, vs = [x, y, z, u] ∧ er x = a ∧ er y = b ∧ er z = c ∧ er u = d := by
  obtain ⟨x, r, rfl, ex, er'⟩ := List.map_eq_cons_iff.mp e
  obtain ⟨y, z, u, rfl, ey⟩ := map3 er'
  exact ⟨x, y, z, u, rfl, ex, ey⟩
noncomputable def KeyT (w : World) (h₀ : Heap) (K : Addr) (kf : Str → Int) (H : AH) (xs : List Str) : Prop := ∀ v ∈ xs, ∀ m, m ≤ 60 → ∀ Q : Value → AH → Prop, Q (.int (kf v) 0) H → CallT w h₀ m (.ref K) [.str v 0] [] H Q
set_option maxHeartbeats 2000000 in
theorem T_bisectLeft {A K : Addr} {fa : FnA} {kf : Str → Int} {xs : List Str} {x : Int} {H : AH} {Q : Value → AH → Prop} (hn : n ≤ 50) (ea : H.ls A = some (xs.map (Value.str · 0))) (hz : xs.length ≤ 1000) (hs : (xs.map kf).Pairwise (· ≤ ·))
    (ek : H.fs K = some fa) (hK : KeyT w h₀ K kf H xs)
    (h : ∀ r : Nat, r ≤ xs.length → (∀ i (hi : i < xs.length), i < r → kf xs[i] < x) → (∀ i (hi : i < xs.length), r ≤ i → x ≤ kf xs[i]) → Q (.int r 0) H) : CallT w h₀ n (.ref 125) [.ref A, .int x 0, .int 0 0, .none] [("key", .ref K)] H Q := by
  refine CallT.base (binds := [("a", .ref A), ("x", .int x 0), ("lo", .int 0 0), ("hi", .none), ("key", .ref K)]) ⟨_, _, _, _, _, _, _, rfl, rfl, rfl, rfl⟩ (fun a' k' e2 e3 s I => ?_) (fun L hL => ?_) (by omega)
  · obtain ⟨x', y', z', u', rfl, ex, ey, ez, eu⟩ := map4 e2
    obtain ⟨k', rfl, ek⟩ := kw1 e3
    exact ⟨_, bindsBL I x' y' z' u' k', show ([("a", er x'), ("x", er y'), ("lo", er z'), ("hi", er u'), ("key", er k')] : List (Str × Value)) = _ by rw [ex, ey, ez, eu, ek]⟩
  refine BdT.loc (BdT.loc (BdT.loc (BdT.loc (BdT.loc (BdT.nil (BodyT.stmts ?_))))))
  refine EsT.cons ?_; refine ExT.if ?_; refine IfT.compare ?_; refine EvT.local ?_; refine EvT.int ?_
  refine CmpT.ltI (TruT.bool (ifF rfl ?_))
  refine EsT.nil ?_; refine EsT.cons ?_; refine ExT.if ?_; refine IfT.compare ?_; refine EvT.local ?_; refine EvT.none ?_
  refine CmpT.isNone (TruT.bool (ifT rfl ?_))
  refine EsT.cons ?_; refine ExT.assignName ?_
  refine EvT.call ?_; refine EvT.builtin ?_; refine ArgsT.pos ?_; refine ItsT.cons ?_; refine EvT.local ?_; refine ItsT.nil ?_
  refine ⟨trivial, CalT.len ea (by simp; omega) ?_⟩
  refine StoreT.local ?_
  refine EsT.nil ?_; refine EsT.cons ?_
  refine ExT.if ?_; refine IfT.compare ?_; refine EvT.local ?_; refine EvT.none ?_
  refine CmpT.isNone (TruT.bool (ifF rfl ?_))
  refine EsT.cons ?_
  refine ExT.while (fun k st => ∃ l u : Nat, l ≤ u ∧ u ≤ xs.length ∧ k = u - l ∧ LoB st.lo A x l u ∧ st.lo.g "key" = some (.ref K) ∧ st.H = H ∧ (∀ i (hi : i < xs.length), i < l → kf xs[i] < x) ∧ (∀ i (hi : i < xs.length), u ≤ i → x ≤ kf xs[i])) xs.length
    ⟨0, xs.length, Nat.zero_le _, Nat.le_refl _, rfl, ⟨rfl, rfl, rfl, by simp; rfl⟩, rfl, rfl, fun i hi h0 => absurd h0 (Nat.not_lt_zero _), fun i hi h0 => absurd hi (Nat.not_lt.mpr h0)⟩ ?_
  rintro k ⟨lo, H'⟩ ⟨l, u, hlu, hul, rfl, lb, lk, hH, i1, i2⟩ N hN hC hB hR
  have hH : H' = H := hH
  subst hH
  refine IfT.compare ?_
  refine EvT.local ?_ lb.l
  refine EvT.local ?_ lb.h
  refine CmpT.ltI (TruT.bool (ifB (fun hc => ?_) fun hc => ?_))
  · have hlt : l < u := by have := of_decide_eq_true hc; omega
    have hm : ((l : Int) + u).fdiv 2 = (((l + u) / 2 : Nat) : Int) := by rw [Int.fdiv_eq_ediv_of_nonneg _ (by decide)]; omega
    refine EsT.cons ?_; refine ExT.assignName ?_; refine EvT.binOp ?_; refine EvT.binOp ?_
    refine EvT.local ?_ lb.l
    refine EvT.local ?_ lb.h
    refine BinT.addI ?_
    refine EvT.int ?_
    refine BinT.divI ?_ (by decide) (by decide)
    rw [hm]
    refine StoreT.local ?_
    have lb2 := lb.mid (.int (((l + u) / 2 : Nat) : Int) 0)
    have hmid : Lo.g (lput "mid" (.int (((l + u) / 2 : Nat) : Int) 0) lo) "mid" = some (.int (((l + u) / 2 : Nat) : Int) 0) := lh
    have lk2 : Lo.g (lput "mid" (.int (((l + u) / 2 : Nat) : Int) 0) lo) "key" = some (.ref K) := lm (by decide) lk
    generalize lput "mid" (Value.int (((l + u) / 2 : Nat) : Int) 0) lo = lo2 at lb2 hmid lk2
    have hmu : (l + u) / 2 < u := by omega
    have hml : l ≤ (l + u) / 2 := by omega
    generalize (l + u) / 2 = md at hmu hml hmid lb2
    have hmd : md < xs.length := by omega
    have pw : ∀ i j (hi : i < xs.length) (hj : j < xs.length), i < j → kf xs[i] ≤ kf xs[j] := fun i j hi hj hij => by
      have := List.pairwise_iff_getElem.mp hs i j (by simpa using hi) (by simpa using hj) hij
      simpa using this
    refine EsT.cons ?_; refine ExT.if ?_; refine IfT.compare ?_
    refine EvT.call (EvT.local ?_ lk2)
    refine ArgsT.pos ?_; refine ItsT.cons ?_; refine EvT.sub ?_
    refine EvT.local ?_ lb2.a
    refine EvT.local ?_ hmid
    refine ⟨SubOk.ls ea, GetT.list (v := .str xs[md] 0) ea (nn0 _) (by omega) (by rw [Int.toNat_natCast, List.getElem?_map, List.getElem?_eq_getElem hmd]; rfl) ?_⟩
    refine ItsT.nil ?_
    refine ⟨Kept.made ek, CallT.cal (hK _ (List.getElem_mem hmd) _ (le_up hn) _ ?_)⟩
    refine EvT.local ?_ lb2.x
    refine CmpT.ltI (TruT.bool (ifB (fun hd => ?_) fun hd => ?_))
    · have hd' := of_decide_eq_true hd
      refine EsT.cons ?_; refine ExT.assignName ?_; refine EvT.binOp ?_
      refine EvT.local ?_ hmid
      refine EvT.int ?_
      refine BinT.addI ?_
      refine StoreT.local ?_; refine EsT.nil ?_; refine EsT.nil ?_
      refine hN ⟨u - (md + 1), by omega, md + 1, u, by omega, by omega, rfl, lb2.setL _, lm (by decide) lk2, rfl, fun i hi hlt2 => ?_, i2⟩
      rcases Nat.lt_or_eq_of_le (Nat.le_of_lt_succ hlt2) with h5 | h5
      · exact Int.lt_of_le_of_lt (pw i md hi hmd h5) hd'
      · subst h5; exact hd'
    · have hd' := of_decide_eq_false hd
      refine EsT.cons ?_; refine ExT.assignName ?_
      refine EvT.local ?_ hmid
      refine StoreT.local ?_; refine EsT.nil ?_; refine EsT.nil ?_
      refine hN ⟨md - l, by omega, l, md, by omega, by omega, rfl, lb2.setH md, lm (by decide) lk2, rfl, i1, fun i hi hge => ?_⟩
      rcases Nat.lt_or_eq_of_le hge with h5 | h5
      · exact Int.le_trans (Int.not_lt.mp hd') (pw md i hmd hi h5)
      · subst h5; exact Int.not_lt.mp hd'
  · have hge : ¬ ((l : Int) < u) := of_decide_eq_false hc
    have hlu' : l = u := by omega
    subst hlu'
    refine EsT.nil ?_; refine EsT.nil ?_; refine EsT.cons ?_
    refine ExT.return ?_
    refine EvT.local ?_ lb.l
    exact h l hul i1 i2

theorem T_insortLeft {A K : Addr} {fa : FnA} {kf : Str → Int} {xs : List Str} {x : Str} {H : AH} {Q : Value → AH → Prop} (hn : n ≤ 40) (ea : H.ls A = some (xs.map (Value.str · 0))) (hz : xs.length ≤ 900) (hs : (xs.map kf).Pairwise (· ≤ ·))
    (ek : H.fs K = some fa) (hK : KeyT w h₀ K kf H (x :: xs))
    (h : ∀ r : Nat, r ≤ xs.length → (∀ i (hi : i < xs.length), i < r → kf xs[i] < kf x) → (∀ i (hi : i < xs.length), r ≤ i → kf x ≤ kf xs[i]) → Q .none (H.setL A ((xs.take r ++ x :: xs.drop r).map (Value.str · 0)))) : CallT w h₀ n (.ref 116) [.ref A, .str x 0] [("key", .ref K)] H Q := by
  refine CallT.base (binds := [("a", .ref A), ("x", .str x 0), ("lo", .int 0 0), ("hi", .none), ("key", .ref K)]) ⟨_, _, _, _, _, _, _, rfl, rfl, rfl, rfl⟩ (fun a' k' e2 e3 s I => ?_) (fun L hL => ?_) (by omega)
  · obtain ⟨x', y', rfl, ex, ey⟩ := map2 e2
    obtain ⟨k', rfl, ek⟩ := kw1 e3
    exact ⟨_, bindsIL I x' y' k', show ([("a", er x'), ("x", er y'), ("lo", .int 0 0), ("hi", .none), ("key", er k')] : List (Str × Value)) = _ by rw [ex, ey, ek]⟩
  refine BdT.loc (BdT.loc (BdT.loc (BdT.loc (BdT.loc (BdT.nil (BodyT.stmts ?_))))))
  refine EsT.cons ?_; refine ExT.if ?_; refine IfT.compare ?_; refine EvT.local ?_; refine EvT.none ?_
  refine CmpT.isNone (TruT.bool (ifF rfl ?_))
  refine EsT.cons ?_; refine ExT.assignName ?_; refine EvT.call ?_; refine EvT.global ?_; refine ArgsT.kw ?_; refine ItsT.cons ?_; refine EvT.local ?_; refine ItsT.cons ?_
  refine EvT.call (EvT.local ?_)
  refine ArgsT.pos ?_; refine ItsT.cons ?_; refine EvT.local ?_; refine ItsT.nil ?_
  refine ⟨Kept.made ek, CallT.cal (hK x (.head _) _ (le_up hn) _ ?_)⟩
  refine ItsT.cons ?_; refine EvT.local ?_; refine ItsT.cons ?_; refine EvT.local ?_; refine ItsT.nil ?_; refine EvT.local ?_
  refine ⟨.inl (by kernel_rfl), CallT.cal (T_bisectLeft (le_up hn) ea (by omega) hs ek (fun v hv => hK v (.tail _ hv)) fun r hr h1 h2 => ?_)⟩
  refine StoreT.local ?_; refine EsT.nil ?_; refine EsT.cons ?_; refine ExT.expr ?_; refine EvT.method ?_; refine EvT.local ?_
  refine GmT.list ea F.slot_list_insert F.type_list_insert ?_
  refine ArgsT.pos ?_; refine ItsT.cons ?_; refine EvT.local ?_; refine ItsT.cons ?_; refine EvT.local ?_; refine ItsT.nil ?_
  refine ⟨trivial, CalT.insert ea (by simp; omega) (by omega) (by omega) ?_⟩
  refine ⟨by simp, ?_⟩
  refine EsT.nil ?_
  have := h r hr h1 h2
  change Q Value.none _
  simpa [List.map_take, List.map_drop] using this

theorem ale_in2 (n : Nat) : ALe (AA n).in1.in1 (AA (n + 1)) := ⟨rfl, by simp [AA, Around.in1]; omega, rfl, rfl, by simp [AA, Around.in1]; omega⟩
theorem notCode_list {out : Array Value} {e : Nat} : NotCode (seqObj "list" out e) := NotCode.cls (by simp [seqObj])
theorem stepO {H : AH} {s0 s s' : Shared} {D : Addr} (S : StepH H s0 H s) (hD : s0.heap.objs.size ≤ D) (hx : Heap.SameBut D s.heap s'.heap) (hsz : s.heap.objs.size ≤ s'.heap.objs.size) (hos : s'.os = s.os) : StepH H s0 H s' :=
  ⟨fun b o e hb ht => (hx.2 b (Nat.ne_of_lt (Nat.lt_of_lt_of_le (Heap.lt_size e) hD))).trans (S.keep b o e hb ht), fun b d => .inl d, Nat.le_trans S.size hsz, hos.trans S.os⟩
/-- an object of ours that the abstract heap does not tell -/
structure Own (w : World) (h₀ : Heap) (H : AH) (s0 : Shared) (s : Shared) : Prop where
  I : InvH w h₀ H s
  S : StepH H s0 H s
  g : InvH w h₀ H s0
theorem Own.out {H : AH} {s0 s : Shared} (o : Own w h₀ H s0 s) {D : Addr} (hD : s0.heap.objs.size ≤ D) : ¬ H.dom D := o.g.fresh hD
theorem Own.upd {H : AH} {s0 s : Shared} (o : Own w h₀ H s0 s) {D : Addr} (hD : s0.heap.objs.size ≤ D) {out : Array Value} {e : Nat} (ho : s.heap.get? D = some (seqObj "list" out e)) (f : Array Value → Array Value) :
    Own w h₀ H s0 { s with heap := s.heap.update D (Obj.mapSeq f) } := by
  have sb := Heap.SameBut.update s.heap D (Obj.mapSeq f)
  exact ⟨o.I.other (s' := { s with heap := s.heap.update D (Obj.mapSeq f) }) sb (o.out hD) (Nat.le_trans o.g.grown hD) (Heap.lt_size ho) (fun o' e' => by rw [ho] at e'; cases e'; exact notCode_list) rfl rfl,
    stepO o.S hD sb (by rw [Heap.size_update]; exact Nat.le_refl _) rfl, o.g⟩
theorem Own.push {H : AH} {s0 s : Shared} (o : Own w h₀ H s0 s) (x : Obj) : Own w h₀ H s0 { s with heap := s.heap.push x } := by
  have := o.I.ext (s' := { s with heap := s.heap.push x }) keep_push size_push' rfl rfl
  exact ⟨this.1, o.S.trans this.2, o.g⟩

noncomputable def KeySorted (kf : Str → Int) (xs ys : List Str) : Prop := ys.Perm xs ∧ (ys.map kf).Pairwise (· ≤ ·) ∧ ∀ k, ys.filter (fun y => kf y == k) = xs.filter (fun y => kf y == k)
theorem strOf_er {v : Value} {x : Str} (h : er v = .str x 0) : strOf v = x := by
  obtain ⟨t, rfl⟩ := er_str h; rfl
theorem strs_map {vs : List Value} {xs : List Str} (h : vs.map er = xs.map (Value.str · 0)) : vs.map strOf = xs := by
  induction vs generalizing xs with
  | nil => cases xs with
    | nil => rfl
    | cons x xs => simp at h
  | cons v vs ih => cases xs with
    | nil => simp at h
    | cons x xs =>
      simp only [List.map_cons, List.cons.injEq] at h ⊢
      exact ⟨strOf_er h.1, ih h.2⟩
theorem er_strOf {v : Value} {xs : List Str} (h : er v ∈ xs.map (Value.str · 0)) : er v = .str (strOf v) 0 := by
  obtain ⟨x, _, e⟩ := List.mem_map.mp h
  rw [← e, strOf_er e.symm]

theorem key_out {kf : Str → Int} {xs : List Str} {keys vs : List Value} (hk : keys.map er = (xs.map kf).map (Value.int · 0)) (hv : vs.map er = xs.map (Value.str · 0)) {ps : Array Keyed} {a₀ : Array Keyed} (h0 : a₀.toList = keys.zip vs)
    (hp : ps.Perm a₀) (hs : SortedTo ps a₀.size) (ht : Stab a₀ ps) : ∃ ys, (ps.map (·.2)).toList.map er = ys.map (Value.str · 0) ∧ KeySorted kf xs ys := by
  have hl : ps.toList.Perm (keys.zip vs) := by rw [← h0]; exact Array.perm_iff_toList_perm.mp hp
  have lk : keys.length = vs.length := by
    have h1 := congrArg List.length hk
    have h2 := congrArg List.length hv
    simp at h1 h2
    omega
  have good : ∀ (keys vs : List Value) (xs : List Str), keys.map er = (xs.map kf).map (Value.int · 0) → vs.map er = xs.map (Value.str · 0) → ∀ p ∈ keys.zip vs, numOf p.1 = kf (strOf p.2) ∧ er p.2 = .str (strOf p.2) 0 := by
    intro keys
    induction keys with
    | nil => intro vs xs _ _ p hp; simp at hp
    | cons k ks ih =>
      intro vs xs e1 e2 p hp
      match vs, xs, e1, e2, hp with
      | v :: vs, x :: xs, e1, e2, hp =>
        simp only [List.map_cons, List.cons.injEq] at e1 e2
        rw [List.zip_cons_cons] at hp
        rcases List.mem_cons.mp hp with rfl | hp
        · obtain ⟨t, e⟩ := er_int e1.1
          refine ⟨?_, by rw [strOf_er e2.1]; exact e2.1⟩
          rw [strOf_er e2.1, e]; rfl
        · exact ih vs xs e1.2 e2.2 p hp
  have good' : ∀ p ∈ ps.toList, numOf p.1 = kf (strOf p.2) ∧ er p.2 = .str (strOf p.2) 0 := fun p hp => good keys vs xs hk hv p (hl.mem_iff.mp hp)
  have ez : (keys.zip vs).map (fun p => strOf p.2) = xs := by
    have : (keys.zip vs).map (fun p => strOf p.2) = ((keys.zip vs).map Prod.snd).map strOf := by rw [List.map_map]; rfl
    rw [this, List.map_snd_zip (by omega), strs_map hv]
  refine ⟨ps.toList.map (fun p => strOf p.2), ?_, ?_, ?_, fun k => ?_⟩
  · rw [Array.toList_map, List.map_map, List.map_map]
    exact List.map_congr_left fun p hp => (good' p hp).2
  · have := hl.map (fun p : Keyed => strOf p.2)
    rwa [ez] at this
  · rw [List.map_map, List.pairwise_iff_getElem]
    intro i j hi hj hij
    have hi' : i < ps.toList.length := by simpa using hi
    have hj' : j < ps.toList.length := by simpa using hj
    have q := hs i j (Nat.le_of_lt hij) (by rw [← hp.size_eq]; simpa using hj')
    rw [K_list (List.getElem?_eq_getElem hi'), K_list (List.getElem?_eq_getElem hj'), (good' _ (List.getElem_mem hi')).1, (good' _ (List.getElem_mem hj')).1] at q
    simpa using q
  · have e1 : ∀ l : List Keyed, (∀ p ∈ l, numOf p.1 = kf (strOf p.2)) → (l.map (fun p => strOf p.2)).filter (fun y => kf y == k) = (fk k l).map (fun p => strOf p.2) := fun l hl => by
      rw [List.filter_map]
      congr 1
      exact List.filter_congr fun p hp => by simp [hl p hp]
    rw [e1 _ fun p hp => (good' p hp).1, ht k, ← e1 a₀.toList (fun p hp => (good keys vs xs hk hv p (by rw [← h0]; exact hp)).1), h0, ez]

set_option maxHeartbeats 2000000 in
theorem sort_tree {H : AH} {s0 s : Shared} {D K : Addr} {e : Nat} {vs : List Value} {xs : List Str} {kf : Str → Int} {P : PySem.Fin → Shared → Prop} (ow : Own w h₀ H s0 s) (hD : s0.heap.objs.size ≤ D) (ho : s.heap.get? D = some (seqObj "list" vs.toArray e))
    (hv : vs.map er = xs.map (Value.str · 0)) (h2 : 2 ≤ xs.length) (h64 : xs.length < 64) (hn : n ≤ 60) (hK : KeyT w h₀ K kf H xs)
    (h : ∀ s' out c ys, Own w h₀ H s0 s' → s'.heap.get? D = some (seqObj "list" out c) → out.toList.map er = ys.map (Value.str · 0) → KeySorted kf xs ys → P (.done (.ret .none)) s') :
    wpAny (MM w) (AA n) (ksk_tree D (.ref K) false) P NoE s := by
  have hvl : vs.length = xs.length := by have := congrArg List.length hv; simpa using this
  have hDs : D < s.heap.objs.size := Heap.lt_size ho
  obtain ⟨e1, ho1⟩ : ∃ e1, (s.heap.update D (Obj.mapSeq fun _ => (#[] : Array Value))).get? D = some (seqObj "list" #[] e1) := ⟨_, get?_update_seq ho fun _ => #[]⟩
  have ow1 := ow.upd hD ho fun _ => #[]
  unfold ksk_tree
  refine wpAny_bind (listItems_at ho rfl ?_)
  refine wpAny_bind (listUpdate_at ho rfl ?_ (by rw [List.size_toArray, sizeLine_eq]; omega) (Nat.zero_le _))
  refine wpAny_bind (seqEpoch_at ho1 rfl ?_)
  refine wpAny_bind (wpAny_newTuple ?_ (by show vs.length ≤ _; rw [sizeLine_eq]; omega))
  refine wpAny_bind (wpAny_newList ?_ (Nat.zero_le _))
  refine wpAny_holding ?_
  have ow2 := (ow1.push (seqObj "tuple" vs.toArray 0)).push (seqObj "list" #[] 0)
  have hkS : ((s.heap.update D (Obj.mapSeq fun _ => (#[] : Array Value))).push (seqObj "tuple" vs.toArray 0)).objs.size = s.heap.objs.size + 1 := by rw [PyProof.Rows.size_push', Heap.size_update]
  have hoD : (((s.heap.update D (Obj.mapSeq fun _ => (#[] : Array Value))).push (seqObj "tuple" vs.toArray 0)).push (seqObj "list" #[] 0)).get? D = some (seqObj "list" #[] e1) := Heap.get?_push_of_some _ (Heap.get?_push_of_some _ ho1)
  have hoS : (((s.heap.update D (Obj.mapSeq fun _ => (#[] : Array Value))).push (seqObj "tuple" vs.toArray 0)).push (seqObj "list" #[] 0)).get? (s.heap.objs.size + 1) = some (seqObj "list" #[] 0) := by
    rw [← hkS]; exact Heap.get?_push_size _ rfl
  have hne : s.heap.objs.size + 1 ≠ D := Nat.ne_of_gt (Nat.lt_succ_of_lt hDs)
  have hS0 : s0.heap.objs.size ≤ s.heap.objs.size + 1 := Nat.le_succ_of_le ow.S.size
  show wpAny (MM w) (AA n) (ksk_rest D (.ref K) false vs.toArray e1 (.ref ((s.heap.update D (Obj.mapSeq fun _ => (#[] : Array Value))).push (seqObj "tuple" vs.toArray 0)).objs.size)) P NoE { s with heap := ((s.heap.update D (Obj.mapSeq fun _ => (#[] : Array Value))).push (seqObj "tuple" vs.toArray 0)).push (seqObj "list" #[] 0) }
  rw [hkS]
  generalize hS : s.heap.objs.size + 1 = kS at *
  change Own w h₀ H s0 { s with heap := ((s.heap.update D (Obj.mapSeq fun _ => (#[] : Array Value))).push (seqObj "tuple" vs.toArray 0)).push (seqObj "list" #[] 0) } at ow2
  generalize ((s.heap.update D (Obj.mapSeq fun _ => (#[] : Array Value))).push (seqObj "tuple" vs.toArray 0)).push (seqObj "list" #[] 0) = hp2 at *
  unfold ksk_rest
  refine wpAny_bind (wpAny_rule ?_)
  rw [List.forIn_toArray]
  refine wpAny_bind (ksk_fold (fun i s' => ∃ kA e, Own w h₀ H s0 s' ∧ s'.heap.get? D = some (seqObj "list" #[] e1) ∧ s'.heap.get? kS = some (seqObj "list" kA e) ∧ kA.toList.map er = ((xs.take i).map kf).map (Value.int · 0)) vs 0 _
    ⟨#[], 0, ow2, hoD, hoS, rfl⟩ (fun j x s' hx ⟨kA, e, o, gD, gS, ek⟩ => ?step) (fun s' ⟨kA, e, o, gD, gS, ek⟩ => ?done))
  case step =>
    rw [Nat.zero_add] at ek ⊢
    have hj : j < xs.length := by rw [← hvl]; exact (List.getElem?_eq_some_iff.mp hx).1
    have exj : er x = .str xs[j] 0 := by
      have := congrArg (·[j]?) hv
      simp only [List.getElem?_map, hx, List.getElem?_eq_getElem hj, Option.map_some, Option.some.injEq] at this
      exact this
    have hkl : kA.size ≤ xs.length := by
      have := congrArg List.length ek
      simp at this; omega
    refine wpAny_bind (wpAny_attempt (wpAny_mono (HT.call (f := .ref K) (pos := [x]) (kw := []) (Q := fun v H' => v = .int (kf xs[j]) 0 ∧ H' = H) (by
      show CallT w h₀ n (.ref K) [er x] [] H _
      rw [exj]
      exact hK _ (List.getElem_mem hj) _ hn _ ⟨rfl, rfl⟩) s' o.I) (fun v s'' ⟨H', I2, S2, ev, eH⟩ => ?_) fun _ _ hF => hF.elim))
    subst eH
    dsimp only
    have nD : D ∉ tabA := fun hm => by
      have : D < 175 := by
        have : ∀ b ∈ tabA, b < 175 := by decide
        exact this _ hm
      have a1 := ow.g.grown
      have a2 := ow.g.big
      exact Nat.lt_irrefl _ (Nat.lt_of_lt_of_le this (Nat.le_trans a2 (Nat.le_trans a1 hD)))
    have nS : kS ∉ tabA := fun hm => by
      have : kS < 175 := by
        have : ∀ b ∈ tabA, b < 175 := by decide
        exact this _ hm
      have a1 := ow.g.grown
      have a2 := ow.g.big
      exact Nat.lt_irrefl _ (Nat.lt_of_lt_of_le this (Nat.le_trans a2 (Nat.le_trans a1 hS0)))
    have gD2 := S2.keep _ _ gD (ow.out hD) nD
    have gS2 := S2.keep _ _ gS (ow.out hS0) nS
    have o2 : Own w h₀ H' s0 s'' := ⟨I2, o.S.trans S2, o.g⟩
    obtain ⟨c2, hc2⟩ : ∃ c2, (s''.heap.update kS (Obj.mapSeq (·.push v))).get? kS = some (seqObj "list" (kA.push v) c2) := ⟨_, get?_update_seq gS2 (·.push v)⟩
    refine wpAny_bind (listUpdate_at gS2 rfl ?_ (by rw [sizeLine_eq]; omega) (Nat.le_trans (Nat.le_of_eq (Array.size_push ..)) (by rw [sizeLine_eq]; omega)))
    refine wpAny_pure ⟨rfl, kA.push v, c2, o2.upd hS0 gS2 _, ?_, hc2, ?_⟩
    · exact ((Heap.SameBut.update s''.heap kS (Obj.mapSeq (·.push v))).2 D (Ne.symm hne)).trans gD2
    · have et : xs.take (j + 1) = xs.take j ++ [xs[j]] := by rw [List.take_add_one, List.getElem?_eq_getElem hj]; rfl
      rw [Array.toList_push, List.map_append, ek, et, List.map_append, List.map_append]
      simp only [List.map_cons, List.map_nil, ev]
  case done =>
    rw [Nat.zero_add, hvl, List.take_length] at ek
    refine wpAny_bind (listItems_at gS rfl ?_)
    have hkl : kA.size = xs.length := by
      have := congrArg List.length ek
      simpa using this
    have hI : IntsAre kA.toList (xs.map kf) := intsAre_of ek
    have hzs : (kA.zip vs.toArray).size = xs.length := by rw [Array.size_zip, hkl, List.size_toArray, hvl, Nat.min_self]
    unfold ksk_end
    dsimp only
    simp only [Bool.false_eq_true, if_false]
    rw [if_neg (by rw [List.size_toArray]; omega), if_neg (by rw [List.size_toArray]; omega), ksk_kind hI (by omega)]
    refine wpAny_bind (wpAny_pure ?_)
    refine wpAny_bind (wpAny_mono (wpS_runsS (a₀ := kA.zip vs.toArray) (st := SortSt.mk' oneType' (kA.zip vs.toArray) #[] 7 none)
      (Q := fun _ st' => (arrOf st').Perm (kA.zip vs.toArray) ∧ failedOf st' = none ∧ SortedTo (arrOf st') (kA.zip vs.toArray).size ∧ Stab (kA.zip vs.toArray) (arrOf st'))
      (ksk_intKeys hI) ⟨Array.Perm.refl _, rfl, rfl, rfl⟩ rfl (by rw [hzs]; omega) (by rw [hzs]; exact h64) fun st' a1 a2 a3 a4 => ⟨a1, a2, a3, a4⟩) ?_ fun _ _ e => e)
    rintro ⟨⟨⟩, st'⟩ s'' ⟨rfl, hp, hf, hs, hst⟩
    dsimp only
    obtain ⟨ys, ey, ks⟩ := key_out ek hv (ksk_zip kA vs) hp hs hst
    have o2 := o.upd hS0 gS fun _ => #[]
    have gD2 : (s''.heap.update kS (Obj.mapSeq fun _ => (#[] : Array Value))).get? D = some (seqObj "list" #[] e1) := ((Heap.SameBut.update s''.heap kS (Obj.mapSeq fun _ => (#[] : Array Value))).2 D (Ne.symm hne)).trans gD
    have hsz2 : (arrOf st').size = xs.length := by rw [hp.size_eq, hzs]
    unfold ksk_tail
    try dsimp only
    refine wpAny_bind (listUpdate_at gS rfl ?_ (by rw [hkl, sizeLine_eq]; omega) (Nat.zero_le _))
    refine wpAny_bind (wpAny_letGo ?_)
    refine wpAny_bind (seqEpoch_at gD2 rfl ?_)
    refine wpAny_bind (listUpdate_at gD2 rfl ?_ (Nat.zero_le _) (by simp only [Bool.false_eq_true, if_false, Array.size_map]; rw [hsz2, sizeLine_eq]; omega))
    rw [hf]
    simp only [bne_self_eq_false, Bool.false_eq_true, if_false]
    obtain ⟨c2, hc2⟩ : ∃ c2, ((s''.heap.update kS (Obj.mapSeq fun _ => (#[] : Array Value))).update D (Obj.mapSeq fun _ => (arrOf st').map (·.2))).get? D = some (seqObj "list" ((arrOf st').map (·.2)) c2) := ⟨_, get?_update_seq gD2 fun _ => (arrOf st').map (·.2)⟩
    exact wpAny_pure (h _ _ c2 ys (o2.upd hD gD2 _) hc2 ey ks)

theorem CalT.sortedKey {a K : Addr} {xs : List Str} {kf : Str → Int} {H : AH} {Q : Value → AH → Prop} (ea : H.ls a = some (xs.map (Value.str · 0))) (h2 : 2 ≤ xs.length) (h64 : xs.length < 64) (hn : n ≤ 50) (hK : KeyT w h₀ K kf H xs)
    (h : ∀ D ys, ¬ H.dom D → KeySorted kf xs ys → Q (.ref D) (H.setL D (ys.map (Value.str · 0)))) : CalT w h₀ n (.builtin "sorted") [.ref a] [("key", .ref K)] H Q := fun f' a' k' e1 e2 e3 s I => by
  rw [er_builtin e1]
  obtain ⟨x, rfl, ex⟩ := map1 e2
  obtain ⟨kx, rfl, ekx⟩ := kw1 e3
  rw [er_ref ex, er_ref ekx]
  obtain ⟨items, k, g, r⟩ := I.isL ea
  obtain ⟨vs, rfl⟩ : ∃ vs, items = vs.toArray := ⟨items.toList, by simp⟩
  have hv : vs.map er = xs.map (Value.str · 0) := r
  have hvl : vs.length = xs.length := by have := congrArg List.length hv; simpa using this
  refine call_function_entry_kw kind_sorted plain_sorted entry_sorted (ksk_s1 _ _) ?_
  unfold Builtin.«sorted»
  refine wpAny_bind (m := checkCount "sorted" 1 1 _) (wpAny_pure ?_)
  refine wpAny_bind (collect_list (IsL.isList g) ?_ (by rw [sizeLine_eq]; omega))
  refine wpAny_bind (wpAny_newList ?_ (by rw [sizeLine_eq]; omega))
  have o0 : Own w h₀ H s s := ⟨I, .refl, I⟩
  have o1 := o0.push (seqObj "list" #[] 0)
  have o2 := (o1.upd (D := s.heap.objs.size) (Nat.le_refl _) (out := #[]) (e := 0) (Heap.get?_push_size _ rfl) (· ++ vs.toArray)).push (seqObj "list" vs.toArray 0)
  have hsz : ((s.heap.push (seqObj "list" #[] 0)).update s.heap.objs.size (Obj.mapSeq (· ++ vs.toArray))).objs.size = s.heap.objs.size + 1 := by
    rw [Heap.size_update, PyProof.Rows.size_push']
  have hoL : (((s.heap.push (seqObj "list" #[] 0)).update s.heap.objs.size (Obj.mapSeq (· ++ vs.toArray))).push (seqObj "list" vs.toArray 0)).get? (s.heap.objs.size + 1) = some (seqObj "list" vs.toArray 0) := by
    rw [← hsz]; exact Heap.get?_push_size _ rfl
  show wpAny _ _ _ _ _ { s with heap := ((s.heap.push (seqObj "list" #[] 0)).update s.heap.objs.size (Obj.mapSeq (· ++ vs.toArray))).push (seqObj "list" vs.toArray 0) }
  rw [hsz]
  refine wpAny_bind (wpAny_holding (wpAny_call_entry_kw slot_list_sort ⟨_, hoL, rfl⟩ entry_list_sort ?_ (ksk_l1 _ _)))
  rw [ksk_t1]
  refine wpAny_le (ale_in2 n) (sort_tree (n := n + 1) o2 (Nat.le_succ _) hoL hv h2 h64 (by omega) hK fun s' out c ys o gD ey ks => ⟨_, rfl, ?_⟩)
  have nd := o.out (D := s.heap.objs.size + 1) (Nat.le_succ _)
  refine wpAny_pure ⟨_, rfl, ?_⟩
  exact ⟨_, o.I.addL nd (Nat.le_trans o.g.grown (Nat.le_succ _)) ⟨out, c, gD, ey⟩, ⟨o.S.keep, fun b d => (setL_dom d).elim (fun e => .inr (e ▸ Nat.le_succ _)) .inl, o.S.size, o.S.os⟩, h _ _ nd ks⟩

section
variable {a : Addr} {H : AH} {Q : Value → AH → Prop}
theorem CalT.sortedI {ns : List Int} (ea : H.ls a = some (ns.map (Value.int · 0))) (hz : ns.length < 64) (h : ∀ D (ms : List Int), ¬ H.dom D → ms.Perm ns → ms.Pairwise (· ≤ ·) → Q (.ref D) (H.setL D (ms.map (Value.int · 0)))) : CalT w h₀ n (.builtin "sorted") [.ref a] [] H Q := fun f' a' k' e1 e2 e3 s I => by
  rw [er_builtin e1, kw0 e3]
  obtain ⟨x, rfl, ex⟩ := map1 e2
  rw [er_ref ex]
  obtain ⟨items, k, g, r⟩ := I.isL ea
  obtain ⟨vs, rfl⟩ : ∃ vs, items = vs.toArray := ⟨items.toList, by simp⟩
  have hv : vs.map er = ns.map (Value.int · 0) := r
  have hvl : vs.length = ns.length := by have := congrArg List.length hv; simpa using this
  refine sorted_ints (IsL.isList g) (intsAre_of hv) (by omega) fun out ms io hp hs => ?_
  have eo : out.toList.map er = ms.map (Value.int · 0) := by
    clear hp hs
    generalize out.toList = l at io
    induction io with
    | nil => rfl
    | cons k t _ ih => simp only [List.map_cons, ih]; rfl
  obtain ⟨e, ge⟩ := sortedAll_at s.heap vs out
  have hsz : s.heap.objs.size + 1 < (sortedAll s.heap vs out).objs.size := Heap.lt_size ge
  exact HPost.newL (s' := { s with heap := sortedAll s.heap vs out }) I ⟨out, e, ge, eo⟩ (Nat.le_succ _) (fun b o e => sortedAll_old e) (Nat.le_of_lt (Nat.lt_of_succ_lt hsz)) rfl rfl fun nd => h _ ms nd hp hs
theorem CalT.sortedS {ns : List Str} (ea : H.ls a = some (ns.map (Value.str · 0))) (hz : ns.length < 64) (h : ∀ D (ms : List Str), ¬ H.dom D → ms.Perm ns → sortedS ms = true → Q (.ref D) (H.setL D (ms.map (Value.str · 0)))) : CalT w h₀ n (.builtin "sorted") [.ref a] [] H Q := fun f' a' k' e1 e2 e3 s I => by
  rw [er_builtin e1, kw0 e3]
  obtain ⟨x, rfl, ex⟩ := map1 e2
  rw [er_ref ex]
  obtain ⟨items, k, g, r⟩ := I.isL ea
  obtain ⟨vs, rfl⟩ : ∃ vs, items = vs.toArray := ⟨items.toList, by simp⟩
  have hv : vs.map er = ns.map (Value.str · 0) := r
  have hvl : vs.length = ns.length := by have := congrArg List.length hv; simpa using this
  refine sorted_strs (IsL.isList g) (strsAre_of hv) (by omega) fun out ms io hp hs => ?_
  have eo : out.toList.map er = ms.map (Value.str · 0) := by
    clear hp hs
    generalize out.toList = l at io
    induction io with
    | nil => rfl
    | cons k t _ ih => simp only [List.map_cons, ih]; rfl
  obtain ⟨e, ge⟩ := sortedAll_at s.heap vs out
  have hsz : s.heap.objs.size + 1 < (sortedAll s.heap vs out).objs.size := Heap.lt_size ge
  exact HPost.newL (s' := { s with heap := sortedAll s.heap vs out }) I ⟨out, e, ge, eo⟩ (Nat.le_succ _) (fun b o e => sortedAll_old e) (Nat.le_of_lt (Nat.lt_of_succ_lt hsz)) rfl rfl fun nd => h _ ms nd hp hs

theorem CalT.indexI {ns : List Int} {k : Int} (ea : H.ls a = some (ns.map (Value.int · 0))) (hz : ns.length ≤ 1000) (hk : k ∈ ns) (h : Q (.int (ns.idxOf k : Nat) 0) H) : CalT w h₀ n (.builtin "list.index") [.ref a, .int k 0] [] H Q := fun f' a' k' e1 e2 e3 s I => by
  rw [er_builtin e1, kw0 e3]
  obtain ⟨x, y, rfl, ex, ey⟩ := map2 e2
  rw [er_ref ex]
  obtain ⟨t, rfl⟩ := er_int ey
  obtain ⟨items, kk, g, r⟩ := I.isL ea
  have hl := isL_size r
  rw [List.length_map] at hl
  have hj : ns.idxOf k < ns.length := List.idxOf_lt_length_iff.mpr hk
  have at' : ∀ i (hi : i < items.size), ∃ t, items[i] = .int (ns[i]'(by omega)) t := fun i hi => by
    have := congrArg (·[i]?) r
    simp only [List.getElem?_map, Array.getElem?_toList, Array.getElem?_eq_getElem hi, List.getElem?_eq_getElem (show i < ns.length by omega), Option.map_some, Option.some.injEq] at this
    exact er_int this
  refine call_meets PySem.F.slot_list_index ⟨_, g, rfl⟩ PySem.F.entry_list_index (PySem.F.args_list_index_2 _ _)
    (MeetsSeq.list_index a items kk (.int k t) (fun v => match v with | .int n _ => n == k | _ => false) (fun y hy => ?_) (ns.idxOf k) (by omega) (by omega) ?_ fun i hi hlt => ?_) ⟨g, hpost_tok I h⟩
  · obtain ⟨i, hi, rfl⟩ := Array.getElem_of_mem hy
    obtain ⟨u, eu⟩ := at' i hi
    rw [eu]; exact MeetsSeq.EqGives.int _ _ _ _
  · obtain ⟨u, eu⟩ := at' (ns.idxOf k) (by omega)
    rw [eu]; simpa using List.getElem_idxOf hj
  · obtain ⟨u, eu⟩ := at' i hi
    rw [eu]
    exact beq_eq_false_iff_ne.mpr fun e => by
      have := List.not_of_lt_findIdx (p := (· == k)) (xs := ns) (i := i) hlt
      simp [e] at this
theorem CalT.indexS {ns : List Str} {k : Str} (ea : H.ls a = some (ns.map (Value.str · 0))) (hz : ns.length ≤ 1000) (hk : k ∈ ns) (h : Q (.int (ns.idxOf k : Nat) 0) H) : CalT w h₀ n (.builtin "list.index") [.ref a, .str k 0] [] H Q := fun f' a' k' e1 e2 e3 s I => by
  rw [er_builtin e1, kw0 e3]
  obtain ⟨x, y, rfl, ex, ey⟩ := map2 e2
  rw [er_ref ex]
  obtain ⟨t, rfl⟩ := er_str ey
  obtain ⟨items, kk, g, r⟩ := I.isL ea
  have hl := isL_size r
  rw [List.length_map] at hl
  have hj : ns.idxOf k < ns.length := List.idxOf_lt_length_iff.mpr hk
  have at' : ∀ i (hi : i < items.size), ∃ t, items[i] = .str (ns[i]'(by omega)) t := fun i hi => by
    have := congrArg (·[i]?) r
    simp only [List.getElem?_map, Array.getElem?_toList, Array.getElem?_eq_getElem hi, List.getElem?_eq_getElem (show i < ns.length by omega), Option.map_some, Option.some.injEq] at this
    exact er_str this
  refine call_meets PySem.F.slot_list_index ⟨_, g, rfl⟩ PySem.F.entry_list_index (PySem.F.args_list_index_2 _ _)
    (MeetsSeq.list_index a items kk (.str k t) (fun v => match v with | .str n _ => n == k | _ => false) (fun y hy => ?_) (ns.idxOf k) (by omega) (by omega) ?_ fun i hi hlt => ?_) ⟨g, hpost_tok I h⟩
  · obtain ⟨i, hi, rfl⟩ := Array.getElem_of_mem hy
    obtain ⟨u, eu⟩ := at' i hi
    rw [eu]; exact eqGives_str _ _ _ _
  · obtain ⟨u, eu⟩ := at' (ns.idxOf k) (by omega)
    rw [eu]; simpa using List.getElem_idxOf hj
  · obtain ⟨u, eu⟩ := at' i hi
    rw [eu]
    exact beq_eq_false_iff_ne.mpr fun e => by
      have := List.not_of_lt_findIdx (p := (· == k)) (xs := ns) (i := i) hlt
      simp [e] at this
end

/-- next, and the loop lets go of the iterator's own tuple -/
noncomputable def NxLT (w : World) (h₀ : Heap) (n : Nat) (it : Addr) (target : Expr) (H : AH) (Q : Option Value → AH → Prop) : Prop := ∀ s, InvH w h₀ H s → wpAny (MM w) (AA n) (pyNext (.ref it)) (fun r s₁ => match r with
  | none => HPost w h₀ H s Q none s₁
  | some v => wpAny (MM w) (AA n) (letOwnedTupleGo target (.ref it) v) (fun _ s₂ => HPost w h₀ H s Q (some (er v)) s₂) NoE s₁) NoE s

theorem ClT.ruleL {elt : Expr} {g : Comprehension} {scope : Scope} {pos : Pos} {it acc : Addr} {st : St} {Q : St → Prop} (J : Nat → St → Prop) (n₀ : Nat) (j₀ : J n₀ st)
    (turn : ∀ k st', J k st' → ∀ N : St → Prop, (∀ {st₄}, (∃ m, m < k ∧ J m st₄) → N st₄) → NxLT w h₀ c.n it g.target st'.H (fun r H => match r with
      | none => Q ⟨st'.lo, H⟩
      | some v => AsT w h₀ c g.target v ⟨st'.lo, H⟩ (fun st₂ => EvT w h₀ c elt st₂ (fun y st₃ => CalT w h₀ c.n (.builtin "list.append") [.ref acc, y] [] st₃.H (fun _ H => N ⟨st₃.lo, H⟩)))))
    (h0 : g.is_async = 0 := by rfl) (hi : g.ifs = [] := by rfl) :
    ClT w h₀ c (.ListComp elt [g] scope pos) 0 it acc st Q := fun s I => by
  refine codeAny_loop (by rfl) (fun k s' => ∃ st', Inv w h₀ c st' s' ∧ Step c.env.locals st.H s st'.H s' ∧ J k st') (fun k s' ⟨st', I', S', j⟩ => ?_) n₀ ⟨st, I, .refl, j₀⟩
  show wpAny _ (AA c.n) ((compTurn (.ListComp elt [g] scope pos) 0 (.ref it) (.ref acc) c.env).onRaise (fun x => do noteFrame x c.env; theTreesLotGoes x)) _ _ s'
  refine wpAny_noted ?_
  unfold compTurn
  have hg : ([g] : List Comprehension)[0]? = some g := rfl
  have hg1 : ([g] : List Comprehension)[0 + 1]? = none := rfl
  simp only [hg, h0, hi, bne_self_eq_false, Bool.false_eq_true, if_false]
  refine wpAny_bind (wpAny_standAt (wpAny_bind (wpAny_mono (turn k st' j (fun st₄ => ∃ m, m < k ∧ J m st₄) (fun q => q) s' I'.h) (fun r s₃ q => ?_) fun _ _ e => e.elim)))
  cases r with
  | none =>
    obtain ⟨H₃, I₃, S₃, q₃⟩ := q
    exact wpAny_pure ⟨rfl, ⟨st'.lo, H₃⟩, I'.after I₃ S₃, S'.trans S₃.step, q₃⟩
  | some v =>
    refine wpAny_bind (wpAny_mono q (fun _ s₄ ⟨H₃, I₃, S₃, q₃⟩ => ?_) fun _ _ e => e.elim)
    have I₃' := I'.after I₃ S₃
    have S₃' : Step c.env.locals st.H s H₃ s₄ := S'.trans S₃.step
    refine wpAny_bind (wpAny_mono (q₃ v rfl s₄ I₃') (fun _ s₅ ⟨st₄, I₄, S₄, q₄⟩ => ?_) fun _ _ e => e.elim)
    rw [List.forIn_nil]
    refine wpAny_bind (wpAny_pure ?_)
    simp only [if_true, hg1]
    refine wpAny_bind (wpAny_bind (wpAny_mono (q₄ s₅ I₄) (fun y s₆ ⟨st₆, I₆, S₆, q₆⟩ => ?_) fun _ _ e => e.elim))
    refine wpAny_bind (wpAny_mono (q₆ (.builtin "list.append") [.ref acc, y] [] rfl rfl rfl s₆ I₆.h) (fun _ s₇ ⟨H₇, I₇, S₇, m, hm, j⟩ => ?_) fun _ _ e => e.elim)
    exact wpAny_pure (wpAny_pure ⟨rfl, m, hm, ⟨st₆.lo, H₇⟩, I₆.after I₇ S₇, S₃'.trans (S₄.trans (S₆.trans S₇.step)), j⟩)

theorem CalT.enumerate {a : Addr} {xs : List Value} {H : AH} {Q : Value → AH → Prop} (ea : H.ls a = some xs) (h : ∀ it e, ¬ H.dom it → ¬ (H.setI it (.list a 0)).dom e → Q (.ref e) ((H.setI it (.list a 0)).setI e (.enum it 0 .none))) : CalT w h₀ n (.type "enumerate") [.ref a] [] H Q := fun f' a' k' e1 e2 e3 s I => by
  rw [er_type e1, kw0 e3]
  obtain ⟨x, rfl, ex⟩ := map1 e2
  rw [er_ref ex]
  obtain ⟨items, k, g, r⟩ := I.isL ea
  refine call_enumerate_list (IsL.isList g) fun h' ge gi hz hk => ?_
  have x := I.ext (s' := { s with heap := h' }) hk (by show s.heap.objs.size ≤ h'.objs.size; omega) rfl rfl
  obtain ⟨o, go, c1, c2⟩ := gi
  have n1 : ¬ H.dom s.heap.objs.size := I.fresh (Nat.le_refl _)
  have n2 : ¬ (H.setI s.heap.objs.size (.list a 0)).dom (s.heap.objs.size + 1) := fun d => (setI_dom d).elim (fun e => absurd e (Nat.succ_ne_self _)) (I.fresh (Nat.le_succ _))
  have I2 := x.1.addI (x := .list a 0) n1 I.grown ⟨o, go, c1, c2⟩
  have I3 := I2.addI (x := .enum s.heap.objs.size 0 .none) n2 (Nat.le_succ_of_le I.grown) ⟨_, ge, rfl⟩
  exact ⟨_, I3, ⟨x.2.keep, fun b d => (setI_dom d).elim (fun e => .inr (e ▸ Nat.le_succ _)) fun d => (setI_dom d).elim (fun e => .inr (e ▸ Nat.le_refl _)) .inl, x.2.size, x.2.os⟩, h _ _ n1 n2⟩

theorem ItrT.enum {e it : Addr} {i : Nat} {old : Value} {H : AH} {Q : Addr → AH → Prop} (ei : H.is e = some (.enum it i old)) (h : Q e H) : ItrT w h₀ n (.ref e) H Q := fun x' ex s I => by
  rw [er_ref ex]
  obtain ⟨o, g, r⟩ := I.is e _ ei
  rw [show o = _ from r] at g
  exact wpAny_pyIter_enum g ⟨H, I, .refl, _, rfl, h⟩
theorem SelfT.enum {e it : Addr} {i : Nat} {old : Value} {H : AH} (ei : H.is e = some (.enum it i old)) : SelfT w h₀ n e H := fun Q q s I => by
  obtain ⟨o, g, r⟩ := I.is e _ ei
  rw [show o = _ from r] at g
  exact wpAny_pyIter_enum g ⟨H, I, .refl, rfl, q⟩

theorem isI_notCode {h : Heap} {a : Addr} {x : ItA} (z : IsIs h a x) : ∀ o, h.get? a = some o → NotCode o := fun o e => NotCode.cls (by
  obtain ⟨o', e', T, hT, c'⟩ := z.obj
  rw [e'] at e; cases e; rw [c']; exact (by decide : ∀ T ∈ itTypes, Value.type T ≠ .type "code") T hT)

theorem NxLT.enum {e it l : Addr} {i : Nat} {old v : Value} {xs : List Value} {elts : List Expr} {x1} {pos : Pos} {H : AH} {Q : Option Value → AH → Prop} (ei : H.is e = some (.enum it i old)) (ej : H.is it = some (.list l i)) (ea : H.ls l = some xs) (hne : e ≠ it) (hx : xs[i]? = some v)
    (h : ∀ t old', ¬ H.dom t → Q (some (.ref t)) (((H.setI e (.enum it (i + 1) old')).setI it (.list l (i + 1))).setT t [.int i 0, v])) : NxLT w h₀ n e (.Tuple elts x1 pos) H Q := fun s I => by
  obtain ⟨items, k, g, r⟩ := I.isL ea
  obtain ⟨o1, g1, r1⟩ := I.is e _ ei
  rw [show o1 = _ from r1] at g1
  obtain ⟨o2, g2, c2, d2⟩ := I.is it _ ej
  obtain ⟨x, hx', ex⟩ := get_map r hx
  refine wpAny_pyNext_enum_item g1 ⟨o2, g2, c2, d2⟩ (IsL.isList g) hx' hne fun h' ge gi gt hz hk => ?_
  refine wpAny_letOwnedTupleGo_enum ge fun h'' ge'' hs => ?_
  have le := I.low e (AH.dom_is ei)
  have li := I.low it (AH.dom_is ej)
  -- the enumerate object alone, then the rest
  obtain ⟨hm, ehm⟩ : ∃ hm, hm = (s.heap.update e (fun _ => ({ cls := .type "enumerate", dict := none, data := .fields #[.none, .bool false, .ref it, rawInt ((i : Int) + 1), .none, x], slots := #[] } : Obj))) := ⟨_, rfl⟩
  have sb : Heap.SameBut e s.heap hm := by rw [ehm]; exact Heap.SameBut.update s.heap e _
  have g1' : hm.get? e = some { cls := .type "enumerate", dict := none, data := .fields #[.none, .bool false, .ref it, rawInt ((i : Int) + 1), .none, x], slots := #[] } := by rw [ehm]; exact Heap.get?_update_self _ g1 rfl
  have I1 := I.updI (s' := { s with heap := hm }) (x := .enum it (i + 1) x) ei sb ⟨_, g1', rfl⟩ rfl rfl
  clear ehm
  have hzz : h''.objs.size = s.heap.objs.size + 1 := hs.1.trans hz
  have hmz : hm.objs.size = s.heap.objs.size := sb.1
  obtain ⟨o3, g3, c3, d3⟩ := gi
  have eit : it ≠ e := Ne.symm hne
  have keep2 : ∀ b o, b ≠ it → hm.get? b = some o → h''.get? b = some o := fun b o hb e' => by
    by_cases hbe : b = e
    · subst hbe
      rw [g1'] at e'
      rw [ge'']; exact e'
    · have := hk b o hbe hb ((sb.2 b hbe).symm.trans e')
      exact (hs.2 b hbe).trans this
  have ej1 : (H.setI e (.enum it (i + 1) x)).is it = some (.list l i) := (setI_miss eit).trans ej
  have z1 := I1.1.is it _ ej1
  have I2 := I1.1.core (s' := { s with heap := h'', toks := s.toks + 1 }) (H' := (H.setI e (.enum it (i + 1) x)).setI it (.list l (i + 1))) it keep2 li.1 (by show it < h''.objs.size; rw [hzz]; exact Nat.lt_succ_of_lt li.2) (by show hm.objs.size ≤ h''.objs.size; omega) rfl rfl (.inl (AH.dom_is ej1)) (isI_notCode z1) (setI_agree _ _ _)
    (fun y e => apartI (I1.1.ls it y e).obj z1.obj (by decide)) (fun y e => apartI (I1.1.ts it y e).obj z1.obj (by decide)) (fun y e => apartI (I1.1.cs it y e).obj z1.obj (by decide)) (fun y e => apartI (I1.1.ds it y e).obj z1.obj (by decide))
    (fun y e => apartI (I1.1.xs it y e).obj z1.obj (by decide)) (fun y e => apartI (I1.1.fs it y e).obj z1.obj (by decide)) (fun y e => by rw [setI_hit] at e; cases e; exact ⟨o3, (hs.2 it eit).trans g3, c3, d3⟩)
  have nt : ¬ H.dom s.heap.objs.size := I.fresh (Nat.le_refl _)
  have nt2 : ¬ ((H.setI e (.enum it (i + 1) x)).setI it (.list l (i + 1))).dom s.heap.objs.size := fun d => (setI_dom d).elim (fun q => Nat.ne_of_gt li.2 q) fun d => (setI_dom d).elim (fun q => Nat.ne_of_gt le.2 q) nt
  have nte : s.heap.objs.size ≠ e := fun q => Nat.ne_of_gt le.2 q
  have I3 := I2.1.addT (x := [.int i 0, v]) nt2 I.grown ⟨_, _, (hs.2 _ nte).trans gt, by show [er (Value.int i s.toks), er x] = _; rw [ex]; rfl⟩
  refine ⟨_, I3, ⟨fun b o eb nb nbt => ?_, fun b d => ?_, by show s.heap.objs.size ≤ h''.objs.size; omega, rfl⟩, h _ x nt⟩
  · have b1 : b ≠ e := fun q => nb (q ▸ AH.dom_is ei)
    have b2 : b ≠ it := fun q => nb (q ▸ AH.dom_is ej)
    exact (hs.2 b b1).trans (hk b o b1 b2 eb)
  · exact (setT_dom d).elim (fun q => .inr (q ▸ Nat.le_refl _)) fun d => (setI_dom d).elim (fun q => .inl (q ▸ AH.dom_is ej)) fun d => (setI_dom d).elim (fun q => .inl (q ▸ AH.dom_is ei)) .inl
theorem NxLT.enumEnd {e it l : Addr} {i : Nat} {old : Value} {xs : List Value} {t : Expr} {H : AH} {Q : Option Value → AH → Prop} (ei : H.is e = some (.enum it i old)) (ej : H.is it = some (.list l i)) (ea : H.ls l = some xs) (hx : xs[i]? = none)
    (h : Q none (H.delI it)) : NxLT w h₀ n e t H Q := fun s I => by
  obtain ⟨items, k, g, r⟩ := I.isL ea
  obtain ⟨o1, g1, r1⟩ := I.is e _ ei
  rw [show o1 = _ from r1] at g1
  obtain ⟨o2, g2, c2, d2⟩ := I.is it _ ej
  exact wpAny_size (wpAny_pyNext_enum_end rfl g1 ⟨o2, g2, c2, d2⟩ (IsL.isList g) (get_map_none r hx) fun h' hx hsz => HPost.endI I ej hx hsz rfl rfl h)

open PySem.Builtin PySem.Builtin.Str in
theorem occ_count_go (x : Str) (c lim : Nat) : ∀ (l : List Nat) (found : Array Nat) (free : Nat), (∀ i ∈ l, free ≤ i) → l.Pairwise (· < ·) → found.size + l.length ≤ lim →
    (forIn l (found, free) (StrLaws.occBody x ⟨#[c]⟩ x.length lim)).run.fst.size = found.size + l.countP (fun i => x.cps.toList[i]? == some c)
  | [], found, free, _, _, _ => rfl
  | a :: l, found, free, hf, hp, hl => by
    rw [List.forIn_cons]
    unfold StrLaws.occBody
    rw [List.length_cons] at hl
    have hp' := List.pairwise_cons.mp hp
    have fa := hf a (.head _)
    rw [List.countP_cons]
    by_cases hc : a + (⟨#[c]⟩ : Str).length ≤ x.length ∧ subAt x ⟨#[c]⟩ a = true
    · have c1 : (((found, free) : Array Nat × Nat).fst.size < lim ∧ ((found, free) : Array Nat × Nat).snd ≤ a) ∧ a + (⟨#[c]⟩ : Str).length ≤ x.length := ⟨⟨by show found.size < lim; omega, fa⟩, hc.1⟩
      rw [if_pos ⟨c1, hc.2⟩]
      have := (StrLaws.subAt_one x c a).mp hc
      rw [if_pos (by rw [this]; simp)]
      have ih := occ_count_go x c lim l (found.push a) (a + 1) (fun i hi => hp'.1 i hi) hp'.2 (by rw [Array.size_push]; omega)
      rw [Array.size_push] at ih
      exact ih.trans (by omega)
    · have c2 : ¬ (((((found, free) : Array Nat × Nat).fst.size < lim ∧ ((found, free) : Array Nat × Nat).snd ≤ a) ∧ a + (⟨#[c]⟩ : Str).length ≤ x.length) ∧ subAt x ⟨#[c]⟩ a = true) := fun h => hc ⟨h.1.2, h.2⟩
      rw [if_neg c2]
      have : ¬ x.cps.toList[a]? = some c := fun h => hc ((StrLaws.subAt_one x c a).mpr h)
      rw [if_neg (by simpa using this)]
      exact occ_count_go x c lim l found free (fun i hi => hf i (.tail _ hi)) hp'.2 (by omega)
theorem countP_range (l : List Nat) (c : Nat) : ∀ n, (List.range n).countP (fun i => l[i]? == some c) = (l.take n).count c
  | 0 => by simp
  | n + 1 => by
    rw [List.range_succ, List.countP_append, countP_range l c n, List.take_add_one, List.count_append]
    congr 1
    rw [List.countP_singleton]
    cases h : l[n]? with
    | none => simp
    | some d => by_cases e : d = c <;> simp [e]
theorem occ_count (x : Str) (c : Nat) : (Builtin.Str.occurrences x ⟨#[c]⟩ 0 x.length (x.length + 1)).length = x.cps.toList.count c := by
  rw [StrLaws.occ_eq, Array.length_toList]
  have h := occ_count_go x c (x.length + 1) (List.range' 0 (x.length + 1 - 0)) #[] 0 (fun i _ => Nat.zero_le _) (List.pairwise_lt_range' (step := 1) (pos := by decide)) (by simp)
  rw [h, Nat.sub_zero, ← List.range_eq_range', countP_range]
  have hl : x.cps.toList.length ≤ x.length + 1 := by rw [Array.length_toList]; exact Nat.le_succ _
  rw [List.take_of_length_le hl]
  exact Nat.zero_add _

noncomputable def escS (s : List Nat) (l : List Nat) : List Nat := l.flatMap fun c => if c ∈ s then [92, c] else [c]
noncomputable def escE : List Nat := [34, 92]
noncomputable def escO : List Nat := [34, 32, 92, 65, 66, 67]
noncomputable def okW (l : List Nat) : Prop := l ≠ [] ∧ l.length ≤ 10 ∧ ∀ c ∈ l, c ≠ 10 ∧ c ≠ 9 ∧ c ≠ 13 ∧ c < 1000
theorem escS_cons (s : List Nat) (c : Nat) (l : List Nat) : escS s (c :: l) = (if c ∈ s then [92, c] else [c]) ++ escS s l := rfl
theorem nlUp_ne {c : Nat} (h : c ≠ 10) (ln : Int) : nlUp c ln = ln := if_neg h
theorem lx_quoE (rest : List Nat) (ln : Int) : ∀ (l tok : List Nat), (∀ c ∈ l, c ≠ 10) → lx .quo (escS escE l ++ 34 :: rest) tok ln = (tok ++ l, rest, ln)
  | [], tok, _ => by rw [show escS escE [] ++ 34 :: rest = 34 :: rest from rfl, lx_quo, if_pos rfl, List.append_nil]
  | c :: l, tok, h => by
    have h1 := h c (.head _)
    have ih := lx_quoE rest ln l (tok ++ [c]) fun d hd => h d (.tail _ hd)
    rw [escS_cons]
    by_cases hc : c ∈ escE
    · rw [if_pos hc]
      show lx .quo (92 :: c :: (escS escE l ++ 34 :: rest)) tok ln = _
      rw [lx_quo, if_neg (by decide), if_pos rfl]
      show lx .quo (escS escE l ++ 34 :: rest) (tok ++ [c]) (nlUp c ln) = _
      rw [nlUp_ne h1, ih, List.append_assoc]; rfl
    · rw [if_neg hc]
      show lx .quo (c :: (escS escE l ++ 34 :: rest)) tok ln = _
      simp only [escE, List.mem_cons, List.not_mem_nil, or_false, not_or] at hc
      rw [lx_quo, if_neg hc.1, if_neg hc.2, nlUp_ne h1, ih, List.append_assoc]; rfl
theorem lx_plO (rest : List Nat) (ln : Int) : ∀ (l tok : List Nat), (∀ c ∈ l, c ≠ 10 ∧ c ≠ 9 ∧ c ≠ 13 ∧ c < 1000) → lx .pl (escS escO l ++ 10 :: rest) tok ln = (tok ++ l, rest, ln + 1)
  | [], tok, _ => by rw [show escS escO [] ++ 10 :: rest = 10 :: rest from rfl, lx_pl, if_pos (by decide), List.append_nil]; rfl
  | c :: l, tok, h => by
    have h1 := h c (.head _)
    have ih := lx_plO rest ln l (tok ++ [c]) fun d hd => h d (.tail _ hd)
    rw [escS_cons]
    by_cases hc : c ∈ escO
    · rw [if_pos hc]
      show lx .pl (92 :: c :: (escS escO l ++ 10 :: rest)) tok ln = _
      rw [lx_pl, if_neg (by decide), if_pos rfl]
      show lx .pl (escS escO l ++ 10 :: rest) (tok ++ [c]) (nlUp c ln) = _
      rw [nlUp_ne h1.1, ih, List.append_assoc]; rfl
    · rw [if_neg hc]
      show lx .pl (c :: (escS escO l ++ 10 :: rest)) tok ln = _
      simp only [escO, List.mem_cons, List.not_mem_nil, or_false, not_or] at hc
      have hw : isWs c = false := decide_eq_false (by simp only [List.mem_cons, List.not_mem_nil, or_false, not_or]; exact ⟨h1.1, h1.2.1, h1.2.2.1, hc.2.1⟩)
      rw [lx_pl, hw, if_neg (by decide), if_neg hc.2.2.1, ih, List.append_assoc]; rfl
theorem lx_stE (rest : List Nat) (ln : Int) {l : List Nat} (h : okW l) : lx .start (34 :: escS escE l ++ 34 :: rest) [] ln = (l, rest, ln) := by
  show lx .start (34 :: (escS escE l ++ 34 :: rest)) [] ln = _
  rw [lx_start, if_neg (by decide), if_pos rfl, lx_quoE rest ln l [] fun c hc => (h.2.2 c hc).1]; rfl
theorem lx_stO (rest : List Nat) (ln : Int) {l : List Nat} (h : okW l) : lx .start (escS escO l ++ 10 :: rest) [] ln = (l, rest, ln + 1) := by
  match l, h with
  | c :: l, h =>
    have h1 := h.2.2 c (.head _)
    have ih := lx_plO rest ln l [c] fun d hd => h.2.2 d (.tail _ hd)
    rw [escS_cons]
    by_cases hc : c ∈ escO
    · rw [if_pos hc]
      show lx .start (92 :: c :: (escS escO l ++ 10 :: rest)) [] ln = _
      rw [lx_start, if_neg (by decide), if_neg (by decide), if_pos rfl]
      show lx .pl (escS escO l ++ 10 :: rest) [c] (nlUp c ln) = _
      rw [nlUp_ne h1.1, ih]; rfl
    · rw [if_neg hc]
      show lx .start (c :: (escS escO l ++ 10 :: rest)) [] ln = _
      simp only [escO, List.mem_cons, List.not_mem_nil, or_false, not_or] at hc
      have hw : isWs c = false := decide_eq_false (by simp only [List.mem_cons, List.not_mem_nil, or_false, not_or]; exact ⟨h1.1, h1.2.1, h1.2.2.1, hc.2.1⟩)
      rw [lx_start, hw, if_neg (by decide), if_neg hc.1, if_neg hc.2.2.1]
      show lx .pl (escS escO l ++ 10 :: rest) [c] ln = _
      rw [ih]; rfl
theorem escS_count {s : List Nat} (hs : (10 : Nat) ∉ s) : ∀ {l : List Nat}, (∀ c ∈ l, c ≠ 10) → (escS s l).count 10 = 0
  | [], _ => rfl
  | c :: l, h => by
    have h1 := h c (.head _)
    rw [escS_cons, List.count_append, escS_count hs fun d hd => h d (.tail _ hd), Nat.add_zero]
    split
    · rw [List.count_cons_of_ne (by decide), List.count_cons_of_ne h1]; rfl
    · rw [List.count_cons_of_ne h1]; rfl
theorem escS_len (s : List Nat) : ∀ l : List Nat, (escS s l).length ≤ 2 * l.length
  | [] => by simp [escS]
  | c :: l => by
    rw [escS_cons, List.length_append, List.length_cons]
    have := escS_len s l
    split <;> simp <;> omega
noncomputable def piece (k : Nat) (l : List Nat) : List Nat := if k % 2 = 1 then escS escO l ++ [10] else 34 :: escS escE l ++ [34]
noncomputable def txt (ws : List (List Nat)) (k : Nat) : List Nat := (List.range k).flatMap fun i => piece i (ws[i]?.getD [])
/-- the text from word k on -/
noncomputable def txtFrom (ws : List (List Nat)) (k : Nat) : List Nat := (List.range' k (6 - k)).flatMap fun i => piece i (ws[i]?.getD [])
theorem txt_from (ws : List (List Nat)) : txt ws 6 = txtFrom ws 0 := by
  unfold txt txtFrom
  rw [List.range_eq_range']
theorem lx_turn {ws : List (List Nat)} (hw : ws.length = 6) (ok : ∀ l ∈ ws, okW l) {k : Nat} (hk : k < 6) (ln : Int) :
    lx .start (txtFrom ws k) [] ln = (ws[k]?.getD [], txtFrom ws (k + 1), ln + ((k % 2 : Nat) : Int)) := by
  have hk' : k < ws.length := by omega
  have o := ok ws[k] (List.getElem_mem hk')
  have e : txtFrom ws k = piece k (ws[k]?.getD []) ++ txtFrom ws (k + 1) := by
    unfold txtFrom
    obtain ⟨m, hm⟩ : ∃ m, 6 - k = m + 1 := ⟨5 - k, by omega⟩
    rw [hm, show 6 - (k + 1) = m by omega, List.range'_succ, List.flatMap_cons]
  rw [e, List.getElem?_eq_getElem hk', Option.getD_some]
  unfold piece
  by_cases h : k % 2 = 1
  · rw [if_pos h, h, List.append_assoc]
    exact lx_stO _ ln o
  · rw [if_neg h, show k % 2 = 0 by omega, List.append_assoc]
    refine (lx_stE _ ln o).trans ?_
    simp
theorem piece_count {k : Nat} {l : List Nat} (h : okW l) : (piece k l).count 10 = k % 2 := by
  unfold piece
  split
  · rename_i e
    rw [List.count_append, escS_count (by decide) fun c hc => (h.2.2 c hc).1, e]; rfl
  · rename_i e
    rw [List.count_append, List.count_cons_of_ne (by decide), escS_count (by decide) fun c hc => (h.2.2 c hc).1]
    show 0 + 0 = k % 2
    omega
theorem txt_succ (ws : List (List Nat)) (k : Nat) : txt ws (k + 1) = txt ws k ++ piece k (ws[k]?.getD []) := by
  unfold txt
  rw [List.range_succ, List.flatMap_append]
  simp
theorem txt_count {ws : List (List Nat)} (hw : ws.length = 6) (ok : ∀ l ∈ ws, okW l) : (txt ws 6).count 10 = 3 := by
  have p : ∀ k, k < 6 → (piece k (ws[k]?.getD [])).count 10 = k % 2 := fun k hk => by
    have hk' : k < ws.length := by omega
    rw [List.getElem?_eq_getElem hk', Option.getD_some]
    exact piece_count (ok _ (List.getElem_mem hk'))
  simp only [txt_succ, List.count_append]
  rw [p 0 (by decide), p 1 (by decide), p 2 (by decide), p 3 (by decide), p 4 (by decide), p 5 (by decide)]
  rfl
theorem txt_len {ws : List (List Nat)} (ok : ∀ l ∈ ws, okW l) : ∀ k, (txt ws k).length ≤ 22 * k
  | 0 => by simp [txt]
  | k + 1 => by
    have ih := txt_len ok k
    rw [txt_succ, List.length_append]
    have : (piece k (ws[k]?.getD [])).length ≤ 22 := by
      have hl : (ws[k]?.getD []).length ≤ 10 := by
        cases h : ws[k]? with
        | none => simp
        | some l => exact (ok l (List.mem_of_getElem? h)).2.1
      have h1 := escS_len escO (ws[k]?.getD [])
      have h2 := escS_len escE (ws[k]?.getD [])
      unfold piece
      split <;> simp <;> omega
    omega

theorem comp1 {it : Addr} {m : Nat} {S : Nat → ItA} {val : Nat → Value} (f : Nat → Value) {elt t iter : Expr} {scope : Scope} {pos : Pos} {cl : List (Str × Addr)} {H : AH} {P : St → Prop} {acc C : Addr} (hit : ¬ H.dom it) (hacc : ¬ (H.setI it (S 0)).dom acc)
    (src : Src w h₀ c.n it (fun _ H' => AHle H H') m S val) (hm : m ≤ 1000)
    (step : ∀ i lo H', i < m → AHle H H' → ∀ N : Value → St → Prop, (∀ {y st₂}, y = f i ∧ AHle H' st₂.H → N y st₂) → AsT w h₀ (cCo c scope cl C) t (val i) ⟨lo, H'⟩ (fun st₁ => EvT w h₀ (cCo c scope cl C) elt st₁ N))
    (fin : ∀ st', ¬ H.dom acc → AHle H st'.H → st'.H.ls acc = some ((List.range m).map f) → P st')
    (hc : ∀ n H, addCells n scope.names H = H := by intro _ _; rfl) (ht : ∀ it v, letOwnedTupleGo t it v = pure () := by intro _ _; rfl) :
    CsT w h₀ (cCo c scope cl C) (.ListComp elt [⟨t, iter, [], 0⟩] scope pos) 0 it acc ⟨[], addCells (C + 1) scope.names ((H.setI it (S 0)).setL acc [])⟩ P := by
  rw [hc]
  have fa : ¬ H.dom acc := fun d => hacc (dom_setI d)
  refine cs_src (c := (cCo c scope cl C)) (K := fun _ H' => AHle H H') f src hm ((AHle.refl.setI hit).setL fa) (setI_hit _ _ _) (setL_hit _ _ _) (fun i H' x k => k.setI hit) (fun i H' x k => k.setL fa) (fun i H' k => k.delI' hit) (fun i lo H' hi k ea ei N hN => ?_) (fun st' k ea => fin st' fa k ea) ht
  exact step i lo H' hi k N (fun ⟨ey, l⟩ => hN ⟨ey, k.trans l, l.ls _ _ ea, l.is _ _ ei⟩)

noncomputable def strL (l : List Nat) : Str := ⟨l.toArray⟩
theorem join_one (s : List Nat) : ∀ l : List Nat, Str.join (Str.ofString "") (l.map fun c => if c ∈ s then strL [92, c] else strL [c]) = strL (escS s l)
  | [] => rfl
  | [c] => by
    rw [escS_cons]
    show (if c ∈ s then strL [92, c] else strL [c]) = _
    split <;> rfl
  | c :: d :: l => by
    have ih := join_one s (d :: l)
    rw [List.map_cons] at ih
    rw [List.map_cons, List.map_cons]
    rw [escS_cons]
    show (if c ∈ s then strL [92, c] else strL [c]) ++ Str.ofString "" ++ Str.join (Str.ofString "") (_ :: _) = _
    rw [ih]
    have ap : ∀ a b : List Nat, strL a ++ strL b = strL (a ++ b) := fun a b => by
      show (⟨a.toArray ++ b.toArray⟩ : Str) = ⟨(a ++ b).toArray⟩
      simp
    have e0 : (Str.ofString "" : Str) = strL [] := rfl
    rw [e0]
    split <;> simp only [ap] <;> rfl
theorem strL_app (a b : List Nat) : strL a ++ strL b = strL (a ++ b) := by
  show (⟨a.toArray ++ b.toArray⟩ : Str) = ⟨(a ++ b).toArray⟩
  simp
theorem strL_len (a : List Nat) : (strL a).length = a.length := by simp [strL, Str.length]
theorem Txt.join_one (s l : List Nat) : Txt.join (Str.ofString "") (l.map fun c => if c ∈ s then strL [92, c] else strL [c]) = strL (escS s l) :=
  (StrLaws.glued_eq_join _ _).trans (Mine.join_one s l)
theorem setL_id {H : AH} {a : Addr} {x : List Value} (e : H.ls a = some x) : H.setL a x = H := by
  have : (H.setL a x).ls = H.ls := by
    funext b
    by_cases hb : b = a
    · subst hb; rw [setL_hit, e]
    · exact setL_miss hb
  show ({ H with ls := (H.setL a x).ls } : AH) = H
  rw [this]
theorem setD_id {H : AH} {a : Addr} {x : List (Str × Value)} (e : H.ds a = some x) : H.setD a x = H := by
  have : (H.setD a x).ds = H.ds := by
    funext b
    by_cases hb : b = a
    · subst hb; rw [setD_hit, e]
    · exact setD_miss hb
  show ({ H with ds := (H.setD a x).ds } : AH) = H
  rw [this]
theorem lexH_id {H : AH} {a : LexA} {left : List Nat} {ln : Int} (e1 : H.ls a.LL = some (chV left)) (e2 : H.ds a.DX = some (kvL a ln)) : lexH H a left ln = H := by
  unfold lexH
  rw [setL_id e1, setD_id e2]

theorem CmpT.inCh {x : Nat} {s : Str} {H : AH} {Q : Value → AH → Prop} (h : Q (.bool (decide (x ∈ s.cps.toList))) H) : CmpT w h₀ n .In (.str ⟨#[x]⟩ 0) (.str s 0) H Q := by
  refine CmpT.inS ?_
  rw [StrLaws.found_one]
  exact h
theorem range_getD {β : Type} (l : List Nat) (g : Nat → β) : (List.range l.length).map (fun j => g (l[j]?.getD 0)) = l.map g := by
  apply List.ext_getElem
  · simp
  · intro j h1 h2
    have : j < l.length := by simpa using h1
    simp [this]
theorem esc_vals (s l : List Nat) : (List.range l.length).map (fun j => Value.str (if l[j]?.getD 0 ∈ s then strL [92, l[j]?.getD 0] else strL [l[j]?.getD 0]) 0) = (l.map fun c => if c ∈ s then strL [92, c] else strL [c]).map (Value.str · 0) :=
  (range_getD l fun c => Value.str (if c ∈ s then strL [92, c] else strL [c]) 0).trans (by rw [List.map_map]; rfl)
theorem esc_sum (s l : List Nat) (h : l.length ≤ 10) : ((l.map fun c => if c ∈ s then strL [92, c] else strL [c]).map (·.length)).sum + (l.map fun c => if c ∈ s then strL [92, c] else strL [c]).length * (Str.ofString "").length ≤ 16777216 := by
  have : ∀ l : List Nat, ((l.map fun c => if c ∈ s then strL [92, c] else strL [c]).map (·.length)).sum ≤ 2 * l.length := by
    intro l
    induction l with
    | nil => simp
    | cons c l ih =>
      simp only [List.map_cons, List.sum_cons, List.length_cons]
      have : (if c ∈ s then strL [92, c] else strL [c]).length ≤ 2 := by split <;> exact Nat.le_of_ble_eq_true rfl
      omega
  have h0 : (Str.ofString "").length = 0 := rfl
  rw [h0, Nat.mul_zero]
  have := this l
  omega
structure LrG (H : AH) (WL : Addr) (ws : List (List Nat)) (i : Nat) (st : St) : Prop where
  gw : st.lo.g "words" = some (.ref WL)
  gt : st.lo.g "text" = some (tokS (txt ws i))
  le : AHle H st.H
noncomputable def lnAt (i : Nat) : Int := 1 + ((min i 6 / 2 : Nat) : Int)
theorem lx_step {ws : List (List Nat)} (hw : ws.length = 6) (ok : ∀ l ∈ ws, okW l) {i : Nat} (hi : i ≤ 6) : lx .start (txtFrom ws i) [] (lnAt i) = (ws[i]?.getD [], txtFrom ws (i + 1), lnAt (i + 1)) := by
  rcases Nat.lt_or_eq_of_le hi with h | h
  · rw [lx_turn hw ok h]
    congr 2
    unfold lnAt
    rw [Nat.min_eq_left (by omega), Nat.min_eq_left (by omega)]
    omega
  · subst h
    have e1 : txtFrom ws 6 = [] := rfl
    have e2 : txtFrom ws (6 + 1) = [] := rfl
    rw [e1, e2, List.getElem?_eq_none (by omega)]
    rfl
theorem txtFrom_len {ws : List (List Nat)} (ok : ∀ l ∈ ws, okW l) (k : Nat) : (txtFrom ws k).length ≤ 132 := by
  unfold txtFrom
  have : ∀ m k, ((List.range' k m).flatMap fun i => piece i (ws[i]?.getD [])).length ≤ 22 * m := by
    intro m
    induction m with
    | zero => intro k; simp
    | succ m ih =>
      intro k
      rw [List.range'_succ, List.flatMap_cons, List.length_append]
      have h0 := ih (k + 1)
      have : (piece k (ws[k]?.getD [])).length ≤ 22 := by
        have hl : (ws[k]?.getD []).length ≤ 10 := by
          cases h : ws[k]? with
          | none => simp
          | some l => exact (ok l (List.mem_of_getElem? h)).2.1
        have h1 := escS_len escO (ws[k]?.getD [])
        have h2 := escS_len escE (ws[k]?.getD [])
        unfold piece
        split <;> simp <;> omega
      omega
  have := this (6 - k) k
  omega
theorem T_getTok' {H : AH} {X : Addr} {a : LexA} {left : List Nat} {ln : Int} {t rest : List Nat} {ln' : Int} {Q : Value → AH → Prop} (ok : LexOk H X a) (hq : H.ls a.PB = some []) (ll : H.ls a.LL = some (chV left)) (dx : H.ds a.DX = some (kvL a ln)) (hn : n ≤ 70) (hz : left.length ≤ 900)
    (hr : lx .start left [] ln = (t, rest, ln')) (h : Q (tokS t) (lexH H a rest ln')) : CallT w h₀ n (.ref 42) [.ref X] [] H Q := by
  have := T_getTok (w := w) (h₀ := h₀) (n := n) (B := H) (X := X) (a := a) (left := left) (ln := ln) ok hq hn hz hr h
  rwa [lexH_id ll dx] at this
/-- the lexer while the tokens are told -/
structure LrK (H : AH) (X : Addr) (a : LexA) (C1 : Addr) (ws : List (List Nat)) (i : Nat) (H' : AH) : Prop where
  le : AHle H H'
  cell : H'.cs C1 = some (some (.ref X))
  ok : LexOk H' X a
  pb : H'.ls a.PB = some []
  ll : H'.ls a.LL = some (chV (txtFrom ws i))
  dx : H'.ds a.DX = some (kvL a (lnAt i))
theorem LexOk.setL {B : AH} {X : Addr} {a : LexA} (ok : LexOk B X a) (b : Addr) (x : List Value) : LexOk (B.setL b x) X a := ⟨ok.x, ok.fs, ok.ds, ok.fr, ok.cl, ok.n1, ok.n2⟩
theorem LexOk.delI {B : AH} {X : Addr} {a : LexA} (ok : LexOk B X a) (b : Addr) : LexOk (B.delI b) X a := ⟨ok.x, ok.fs, ok.ds, ok.fr, ok.cl, ok.n1, ok.n2⟩
theorem LexOk.lexH {B : AH} {X : Addr} {a : LexA} (ok : LexOk B X a) {l : List Nat} {ln : Int} : LexOk (lexH B a l ln) X a := ⟨ok.x, ok.fs, (lexH_ds ok.n1).trans ok.ds, ok.fr, ok.cl, ok.n1, ok.n2⟩
theorem LrK.setI {H : AH} {X : Addr} {a : LexA} {C1 : Addr} {ws : List (List Nat)} {i : Nat} {H' : AH} (k : LrK H X a C1 ws i H') {b : Addr} {x : ItA} (hb : ¬ H.dom b) : LrK H X a C1 ws i (H'.setI b x) := ⟨k.le.setI hb, k.cell, k.ok.setI b x, k.pb, k.ll, k.dx⟩
theorem LrK.delI {H : AH} {X : Addr} {a : LexA} {C1 : Addr} {ws : List (List Nat)} {i : Nat} {H' : AH} (k : LrK H X a C1 ws i H') {b : Addr} (hb : ¬ H.dom b) : LrK H X a C1 ws i (H'.delI b) := ⟨k.le.delI' hb, k.cell, k.ok.delI b, k.pb, k.ll, k.dx⟩
theorem LrK.setL {H : AH} {X : Addr} {a : LexA} {C1 : Addr} {ws : List (List Nat)} {i : Nat} {H' : AH} (k : LrK H X a C1 ws i H') {b : Addr} {x : List Value} (hb : ¬ H.dom b) (h1 : b ≠ a.LL) (h2 : b ≠ a.PB) : LrK H X a C1 ws i (H'.setL b x) :=
  ⟨k.le.setL hb, k.cell, k.ok.setL b x, (setL_miss (Ne.symm h2)).trans k.pb, (setL_miss (Ne.symm h1)).trans k.ll, k.dx⟩
theorem LrK.next {H : AH} {X : Addr} {a : LexA} {C1 : Addr} {ws : List (List Nat)} {i : Nat} {H' : AH} (k : LrK H X a C1 ws i H') (h1 : ¬ H.dom a.LL) (h2 : ¬ H.dom a.DX) : LrK H X a C1 ws (i + 1) (lexH H' a (txtFrom ws (i + 1)) (lnAt (i + 1))) :=
  ⟨(k.le.setL h1).setD h2, k.cell, k.ok.lexH, (lexH_ls k.ok.n2).trans k.pb, lexH_ll, lexH_dx⟩
theorem take6 {ws : List (List Nat)} (hw : ws.length = 6) : (pick (ws.map tokS ++ [tokS []]) none (some 6) none) = ws.map tokS := by
  rw [pick_one]
  obtain ⟨a, b, c, d, e, f, rfl⟩ := len6 hw
  rfl
theorem told7 {ws : List (List Nat)} (hw : ws.length = 6) : ((List.range 7).map fun i => tokS (ws[i]?.getD [])) = ws.map tokS ++ [tokS []] := by
  obtain ⟨a, b, c, d, e, f, rfl⟩ := len6 hw
  rfl
set_option maxHeartbeats 4000000 in
theorem T_lawRead {WL : Addr} {ws : List (List Nat)} {H : AH} {Q : Value → AH → Prop} (hn : n ≤ 40) (ew : H.ls WL = some (ws.map tokS)) (hw : ws.length = 6) (ok : ∀ l ∈ ws, okW l)
    (h : ∀ H' T, AHle H H' → ¬ H.dom T → H'.ls T = some (ws.map tokS) → Q (.ref T) H') : CallT w h₀ n (.ref 156) [.ref WL] [] H Q := by
  refine CallT.base (binds := [("words", .ref WL)]) ⟨_, _, _, _, _, _, _, rfl, rfl, rfl, rfl⟩ (fun a' k' e2 e3 s I => ?_) (fun L hL => ?_) (by omega)
  · obtain ⟨x', rfl, ex⟩ := map1 e2
    rw [kw0 e3]
    exact ⟨[("words", x')], .of_eq rfl, by simp [ex]⟩
  refine BdT.loc (BdT.nil (BodyT.stmts ?_))
  show EsT w h₀ _ _ ⟨_, H.setC (L + 1) none⟩ _
  have l1 : AHle H (H.setC (L + 1) none) := AHle.setC .refl (hL _ (Nat.le_succ _))
  have g1 : (H.setC (L + 1) none).cs (L + 1) = some none := setC_hit _ _ _
  generalize H.setC (L + 1) none = H1 at *
  refine EsT.cons ?_; refine ExT.assignName ?_; refine EvT.str ?_; refine StoreT.local ?_
  refine EsT.cons ?_
  refine ExT.for ?_
  refine EvT.call ?_; refine EvT.builtin ?_; refine ArgsT.pos ?_; refine ItsT.cons ?_; refine EvT.int ?_; refine ItsT.nil ?_
  refine ⟨trivial, CalT.range1 fun rg hrg => ?_⟩
  refine ItrT.rng (setI_hit _ _ _) (by decide) fun it hit => ?_
  have l2 : AHle H1 ((H1.setI rg (.rng 0 6 1)).setI it (.range 0 6 1)) := AHle.setI (AHle.setI .refl hrg) fun d => hit (dom_setI d)
  have itH : ¬ H1.dom it := fun d => hit (dom_setI d)
  refine for_src (K := fun _ _ => True) (m := 6) (LrG H1 WL ws) (Src.range 0 1) (fun _ _ _ => trivial) ⟨rfl, rfl, l2⟩ (setI_hit _ _ _) (fun i lo H' x g => ⟨g.gw, g.gt, g.le.setI itH⟩) (fun i lo H' hi g ei N hN hC hB hR => ?turn) (fun lo H' g => ?rest)
  case turn =>
    obtain ⟨gw, gt, gle⟩ := g
    rw [rg0]
    refine AsT.name (StoreT.local ?_)
    have hi' : i < ws.length := by omega
    have oki := ok ws[i] (List.getElem_mem hi')
    have eWL : H'.ls WL = some (ws.map tokS) := gle.ls _ _ (l1.ls _ _ ew)
    have eget : (ws.map tokS)[i]? = some (.str (strL ws[i]) 0) := by rw [List.getElem?_map, List.getElem?_eq_getElem hi']; rfl
    have ets : txt ws (i + 1) = txt ws i ++ piece i ws[i] := by rw [txt_succ, List.getElem?_eq_getElem hi']; rfl
    have tl := txt_len ok i
    have el1 := escS_len escO ws[i]
    have el2 := escS_len escE ws[i]
    have olen := oki.2.1
    refine EsT.cons ?_; refine ExT.if ?_; refine IfT.plain ?_; refine EvT.binOp ?_
    refine EvT.local ?_ lh
    refine EvT.int ?_
    refine BinT.modI ?_ (by decide)
    refine TruT.int (ifB (fun hc => ?_) fun hc => ?_)
    · have hk : i % 2 = 1 := by
        simp only [bne_iff_ne, ne_eq] at hc
        rw [Int.fmod_eq_emod_of_nonneg _ (by decide)] at hc
        omega
      refine EsT.cons ?_
      refine ExT.augName ?_ (lm (by decide) gt)
      refine EvT.binOp ?_; refine EvT.method ?_; refine EvT.str ?_
      refine GmT.str F.slot_str_join F.type_str_join ?_
      refine ArgsT.pos ?_; refine ItsT.cons ?_
      refine EvT.comp (cl := []) ?_
      refine EvT.sub ?_
      refine EvT.local ?_ (lm (by decide) gw)
      refine EvT.local ?_ lh
      refine ⟨SubOk.ls eWL, GetT.list eWL (nn0 _) (by omega) (by rw [Int.toNat_natCast]; exact eget) ?_⟩
      refine ItrT.str fun it2 hit2 => ?_
      intro acc C hacc hC
      refine comp1 (m := ws[i].length) (fun j => .str (if ws[i][j]?.getD 0 ∈ escO then strL [92, ws[i][j]?.getD 0] else strL [ws[i][j]?.getD 0]) 0) hit2 hacc (Src.str ws[i]) (by omega) (fun j lo2 H2 hj le2 N2 hN2 => ?_) (fun ⟨lo2, H2⟩ ha le2 eacc => ?_)
      · refine AsT.name ?_; refine StoreT.local ?_
        refine EvT.ifExp ?_
        refine IfT.compare ?_
        refine EvT.local ?_ lh
        refine EvT.str ?_
        refine CmpT.inCh (TruT.bool (ifB (fun hd => ?_) fun hd => ?_))
        · have hd' : ws[i][j]?.getD 0 ∈ escO := of_decide_eq_true hd
          refine EvT.binOp ?_; refine EvT.str ?_
          refine EvT.local ?_ lh
          refine BinT.addS ?_ (by rw [sizeLine_eq]; exact Nat.le_of_ble_eq_true rfl)
          exact hN2 ⟨by rw [if_pos hd']; rfl, .refl⟩
        · have hd' : ¬ ws[i][j]?.getD 0 ∈ escO := of_decide_eq_false hd
          refine EvT.local ?_ lh
          exact hN2 ⟨by rw [if_neg hd']; rfl, .refl⟩
      · refine ItsT.nil ?_
        refine ⟨trivial, CalT.join (ys := ws[i].map fun c => if c ∈ escO then strL [92, c] else strL [c]) (eacc.trans (congrArg some (esc_vals escO ws[i]))) (esc_sum escO ws[i] (by omega)) ?_⟩
        rw [Txt.join_one]
        refine EvT.str ?_
        refine BinT.addS ?_ (by rw [sizeLine_eq, strL_len]; show _ + 1 ≤ _; omega)
        refine IopT.addS ?_ (by rw [sizeLine_eq]; show (strL (txt ws i)).length + (strL (escS escO ws[i]) ++ strL [10]).length ≤ _; rw [strL_app, strL_len, strL_len, List.length_append]; show _ + (_ + 1) ≤ _; omega)
        refine StoreT.local ?_; refine EsT.nil ?_; refine EsT.nil ?_
        refine hN ⟨⟨lm (by decide) (lm (by decide) gw), ?_, gle.trans le2⟩, le2.is _ _ ei⟩
        refine lh.trans (congrArg some ?_)
        show Value.str (strL (txt ws i) ++ (strL (escS escO ws[i]) ++ strL [10])) 0 = .str (strL (txt ws (i + 1))) 0
        rw [strL_app, strL_app, ets, piece, if_pos hk]
    · have hk : ¬ i % 2 = 1 := by
        simp only [bne_eq_false_iff_eq] at hc
        rw [Int.fmod_eq_emod_of_nonneg _ (by decide)] at hc
        omega
      refine EsT.cons ?_
      refine ExT.augName ?_ (lm (by decide) gt)
      refine EvT.binOp ?_; refine EvT.binOp ?_; refine EvT.str ?_; refine EvT.method ?_; refine EvT.str ?_
      refine GmT.str F.slot_str_join F.type_str_join ?_
      refine ArgsT.pos ?_; refine ItsT.cons ?_
      refine EvT.comp (cl := []) ?_
      refine EvT.sub ?_
      refine EvT.local ?_ (lm (by decide) gw)
      refine EvT.local ?_ lh
      refine ⟨SubOk.ls eWL, GetT.list eWL (nn0 _) (by omega) (by rw [Int.toNat_natCast]; exact eget) ?_⟩
      refine ItrT.str fun it2 hit2 => ?_
      intro acc C hacc hC
      refine comp1 (m := ws[i].length) (fun j => .str (if ws[i][j]?.getD 0 ∈ escE then strL [92, ws[i][j]?.getD 0] else strL [ws[i][j]?.getD 0]) 0) hit2 hacc (Src.str ws[i]) (by omega) (fun j lo2 H2 hj le2 N2 hN2 => ?_) (fun ⟨lo2, H2⟩ ha le2 eacc => ?_)
      · refine AsT.name ?_; refine StoreT.local ?_
        refine EvT.ifExp ?_
        refine IfT.compare ?_
        refine EvT.local ?_ lh
        refine EvT.str ?_
        refine CmpT.inCh (TruT.bool (ifB (fun hd => ?_) fun hd => ?_))
        · have hd' : ws[i][j]?.getD 0 ∈ escE := of_decide_eq_true hd
          refine EvT.binOp ?_; refine EvT.str ?_
          refine EvT.local ?_ lh
          refine BinT.addS ?_ (by rw [sizeLine_eq]; exact Nat.le_of_ble_eq_true rfl)
          exact hN2 ⟨by rw [if_pos hd']; rfl, .refl⟩
        · have hd' : ¬ ws[i][j]?.getD 0 ∈ escE := of_decide_eq_false hd
          refine EvT.local ?_ lh
          exact hN2 ⟨by rw [if_neg hd']; rfl, .refl⟩
      · refine ItsT.nil ?_
        refine ⟨trivial, CalT.join (ys := ws[i].map fun c => if c ∈ escE then strL [92, c] else strL [c]) (eacc.trans (congrArg some (esc_vals escE ws[i]))) (esc_sum escE ws[i] (by omega)) ?_⟩
        rw [Txt.join_one]
        refine BinT.addS ?_ (by rw [sizeLine_eq, strL_len]; show 1 + _ ≤ _; omega)
        refine EvT.str ?_
        refine BinT.addS ?_ (by rw [sizeLine_eq]; show (strL [34] ++ strL (escS escE ws[i])).length + 1 ≤ _; rw [strL_app, strL_len, List.length_append]; show 1 + _ + 1 ≤ _; omega)
        refine IopT.addS ?_ (by rw [sizeLine_eq]; show (strL (txt ws i)).length + (strL [34] ++ strL (escS escE ws[i]) ++ strL [34]).length ≤ _; rw [strL_app, strL_app, strL_len, strL_len, List.length_append, List.length_append]; show _ + (1 + _ + 1) ≤ _; omega)
        refine StoreT.local ?_; refine EsT.nil ?_; refine EsT.nil ?_
        refine hN ⟨⟨lm (by decide) (lm (by decide) gw), ?_, gle.trans le2⟩, le2.is _ _ ei⟩
        refine lh.trans (congrArg some ?_)
        show Value.str (strL (txt ws i) ++ (strL [34] ++ strL (escS escE ws[i]) ++ strL [34])) 0 = .str (strL (txt ws (i + 1))) 0
        rw [strL_app, strL_app, strL_app, ets, piece, if_neg hk]
        rfl
  case rest =>
    obtain ⟨gw, gt, gle⟩ := g
    refine EsT.nil ?_
    have leD : AHle H1 (H'.delI it) := gle.delI' itH
    generalize H'.delI it = H2 at *
    refine EsT.cons ?_; refine ExT.assignName ?_; refine EvT.call ?_; refine EvT.global ?_; refine ArgsT.pos ?_; refine ItsT.cons ?_
    refine EvT.local ?_ gt
    refine ItsT.nil ?_
    refine ⟨.inl (by kernel_rfl), CallT.cal (T_lexer (text := txt ws 6) (le_up hn) (by have := txt_len ok 6; omega) fun H3 X a ln => ?_)⟩
    have g3 : H3.cs (L + 1) = some none := ln.le.cs _ _ (leD.cs _ _ g1)
    refine StoreT.cell (a := L + 1) (v0 := none) g3 ?_
    have hC1 : ¬ H.dom (L + 1) := hL _ (Nat.le_succ _)
    have l3 : AHle H (H3.setC (L + 1) (some (.ref X))) := (l1.trans (leD.trans ln.le)).setC hC1
    have k0 : LrK H X a (L + 1) ws 0 (H3.setC (L + 1) (some (.ref X))) := ⟨l3, setC_hit _ _ _, ⟨ln.ok.x, ln.ok.fs, ln.ok.ds, ln.ok.fr, ?clx, ln.ok.n1, ln.ok.n2⟩, ln.pb, by rw [← txt_from]; exact ln.ll, ln.dx⟩
    case clx =>
      have : a.CL ≠ L + 1 := fun e => by
        have h1 := ln.ok.cl
        rw [e, g3] at h1
        cases h1
      exact (setC_miss this).trans ln.ok.cl
    have nLL : ¬ H.dom a.LL := fun d => ln.fLL ((l1.trans leD).dom d)
    have nDX : ¬ H.dom a.DX := fun d => ln.fDX ((l1.trans leD).dom d)
    generalize H3.setC (L + 1) (some (.ref X)) = H4 at *
    refine EsT.cons ?_
    refine ExT.assignComp (cl := [("lexer", L + 1)]) ?_
    refine EvT.call ?_; refine EvT.builtin ?_; refine ArgsT.pos ?_; refine ItsT.cons ?_; refine EvT.int ?_; refine ItsT.nil ?_
    refine ⟨trivial, CalT.range1 fun rg2 hrg2 => ?_⟩
    refine ItrT.rng (setI_hit _ _ _) (by decide) fun it2 hit2 => ?_
    intro acc C hacc hC
    have facc : ¬ H4.dom acc := fun d => hacc (dom_setI (dom_setI d))
    have fit2 : ¬ H4.dom it2 := fun d => hit2 (dom_setI d)
    have aLL : acc ≠ a.LL := fun e => facc (e ▸ AH.dom_ls k0.ll)
    have aPB : acc ≠ a.PB := fun e => facc (e ▸ AH.dom_ls k0.pb)
    have aH : ¬ H.dom acc := fun d => facc (k0.le.dom d)
    have iH : ¬ H.dom it2 := fun d => fit2 (k0.le.dom d)
    refine cs_src (K := fun i H' => LrK H X a (L + 1) ws i H') (m := 7) (fun i => tokS (ws[i]?.getD [])) (Src.range 0 1) (by decide)
      (((k0.setI (fun d => hrg2 (k0.le.dom d))).setI iH).setL aH aLL aPB) (setI_hit _ _ _) (setL_hit _ _ _) (fun i H' x k => k.setI iH) (fun i H' x k => k.setL aH aLL aPB) (fun i H' k => k.delI iH) ?_ ?_
    · intro i lo2 H' hi k ea ei N2 hN2
      rw [rg0]
      refine AsT.name ?_; refine StoreT.local ?_
      refine EvT.method (EvT.cell (a := L + 1) k.cell (GmT.inst k.ok.x k.dx (by rfl) (fi_getToken _) (ty_fn _).2.1 ?_))
      refine ArgsT.nil ?_
      refine ⟨.inl (by kernel_rfl), CallT.cal (T_getTok' (left := txtFrom ws i) (ln := lnAt i) k.ok k.pb k.ll k.dx (le_up hn) (Nat.le_trans (txtFrom_len ok i) (by decide)) (lx_step hw ok (by omega)) ?_)⟩
      exact hN2 ⟨rfl, k.next nLL nDX, (lexH_ls aLL).trans ea, ei⟩
    · rintro ⟨lo2, H5⟩ k ea
      replace ea : H5.ls acc = some ((List.range 7).map fun i => tokS (ws[i]?.getD [])) := ea
      rw [told7 hw] at ea
      have eW : H5.ls WL = some (ws.map tokS) := k.le.ls _ _ ew
      refine StoreT.local ?_
      refine EsT.cons ?_; refine ExT.if ?_; refine IfT.or ?_; refine IfT.compare ?_
      refine EvT.local ?_ lh
      refine EvT.binOp ?_
      refine EvT.local ?_ (lm (by decide) gw)
      refine EvT.list ?_; refine ItsT.cons ?_; refine EvT.str ?_; refine ItsT.nil ?_
      refine ⟨by rw [sizeLine_eq]; simp, fun e1 he1 => ?_⟩
      have w1 : WL ≠ e1 := fun e => he1 (e ▸ AH.dom_ls eW)
      refine BinT.addL ((setL_miss w1).trans eW) (setL_hit _ _ _) (by simp [sizeLine_eq]; omega) fun e2 he2 => ?_
      have a1 : acc ≠ e1 := fun e => he1 (e ▸ AH.dom_ls ea)
      have a2 : acc ≠ e2 := fun e => he2 (dom_setL (e ▸ AH.dom_ls ea))
      have k2 : LrK H X a (L + 1) ws 7 ((H5.setL e1 [Value.str (Str.ofString "") 0]).setL e2 (ws.map tokS ++ [Value.str (Str.ofString "") 0])) :=
        (k.setL (fun d => he1 (k.le.dom d)) (fun e => he1 (e ▸ AH.dom_ls k.ll)) (fun e => he1 (e ▸ AH.dom_ls k.pb))).setL (fun d => he2 (dom_setL (k.le.dom d))) (fun e => he2 (dom_setL (e ▸ AH.dom_ls k.ll))) (fun e => he2 (dom_setL (e ▸ AH.dom_ls k.pb)))
      have ea2 : ((H5.setL e1 [Value.str (Str.ofString "") 0]).setL e2 (ws.map tokS ++ [Value.str (Str.ofString "") 0])).ls acc = some (ws.map tokS ++ [tokS []]) := (setL_miss a2).trans ((setL_miss a1).trans ea)
      have ee2 : ((H5.setL e1 [Value.str (Str.ofString "") 0]).setL e2 (ws.map tokS ++ [Value.str (Str.ofString "") 0])).ls e2 = some (ws.map tokS ++ [tokS []]) := setL_hit _ _ _
      generalize (H5.setL e1 [Value.str (Str.ofString "") 0]).setL e2 (ws.map tokS ++ [Value.str (Str.ofString "") 0]) = H6 at *
      have ev : ws.map tokS ++ [tokS []] = ((ws ++ [[]]).map strL).map (Value.str · 0) := by rw [List.map_map, List.map_append]; rfl
      have so : ((ws ++ [[]]).map strL).all PyData.strOk = true := by
        rw [List.all_eq_true]
        intro s hs
        obtain ⟨l, hl, rfl⟩ := List.mem_map.mp hs
        show (l.toArray.all (· < 0x110000)) = true
        rw [List.all_toArray, List.all_eq_true]
        intro c hc
        rcases List.mem_append.mp hl with hl | hl
        · have := ((ok l hl).2.2 c hc).2.2.2
          exact decide_eq_true (by omega)
        · rw [List.mem_singleton] at hl; subst hl; cases hc
      refine CmpT.neLS (ea2.trans (congrArg some ev)) (ee2.trans (congrArg some ev)) (le_up hn) so so (TruT.bool (ifF (by simp) ?_))
      refine IfT.or ?_; refine IfT.compare ?_
      refine EvT.attr (EvT.cell (a := L + 1) k2.cell (GatT.inst k2.ok.x k2.dx (by rfl) (fi_lineno _) (by intro i e; cases e) ?_))
      refine EvT.binOp ?_; refine EvT.int ?_; refine EvT.method ?_
      refine EvT.local ?_ (lm (by decide) gt)
      refine GmT.str F.slot_str_count F.type_str_count ?_
      refine ArgsT.pos ?_; refine ItsT.cons ?_; refine EvT.str ?_; refine ItsT.nil ?_
      refine ⟨trivial, CalT.count ?_⟩
      have ec : (Builtin.Str.occurrences ⟨(txt ws 6).toArray⟩ (Str.ofString "\n") 0 (⟨(txt ws 6).toArray⟩ : Str).length ((⟨(txt ws 6).toArray⟩ : Str).length + 1)).length = 3 := (occ_count _ 10).trans (by simpa using txt_count hw ok)
      rw [ec]
      refine BinT.addI ?_
      refine CmpT.neI (TruT.bool (ifF (by rfl) ?_))
      refine IfT.orNil ?_
      refine ifF rfl ?_
      refine EsT.nil ?_; refine EsT.cons ?_; refine ExT.return ?_; refine EvT.slice ?_
      refine EvT.local ?_ lh
      refine PartT.none ?_; refine PartT.some ?_; refine EvT.int ?_; refine PartT.none ?_
      refine ⟨SubOk.ls ea2, SliT.list (lo := none) (hi := some 6) (st := none) ea2 rfl rfl rfl (by decide) (by simp [sizeLine_eq]; omega) fun T hT => ?_⟩
      refine h _ T (k2.le.setL fun d => hT (k2.le.dom d)) (fun d => hT (k2.le.dom d)) ((setL_hit _ _ _).trans (congrArg some ?_))
      exact take6 hw

noncomputable def loC (x : Nat) : Nat := if x = 65 then 97 else if x = 66 then 98 else if x = 67 then 99 else x
noncomputable def S9 : List Nat := [34, 32, 92, 97, 98, 99, 65, 66, 67]
noncomputable def scT (x y : Nat) : Int := if x = y then 0 else if loC x = loC y then 1 else 2
theorem lowerS_one : ∀ x ∈ S9, lowerS ⟨#[x]⟩ = ⟨#[loC x]⟩ := by decide +kernel
theorem T_substC {x y : Nat} {H : AH} {Q : Value → AH → Prop} (hn : n ≤ 99) (hx : x ∈ S9) (hy : y ∈ S9) (h : Q (.int (scT x y) 0) H) : CallT w h₀ n (.ref 132) [.str ⟨#[x]⟩ 0, .str ⟨#[y]⟩ 0] [] H Q := by
  refine T_subst hn (by rw [lowerS_one x hx]; rfl) (by rw [lowerS_one y hy]; rfl) ?_
  rw [lowerS_one x hx, lowerS_one y hy]
  have : (if ([x] == [y]) = true then (0 : Int) else if ([loC x] == [loC y]) = true then 1 else 2) = scT x y := by
    unfold scT
    simp
  exact this ▸ h
noncomputable def lcp : List Nat → List Nat → Nat
  | x :: a, y :: b => if x = y then lcp a b + 1 else 0
  | _, _ => 0
noncomputable abbrev LvS := Int × Int × Int × List Int
noncomputable def lvStep (bc : Nat) (a : List Nat) (s : LvS) (i : Nat) : LvS :=
  let sub := s.1 + scT bc (a[i]?.getD 0)
  let d := s.2.2.2[i]?.getD 0
  let id := (if d < s.2.1 then d else s.2.1) + 2
  let r := if sub < id then sub else id
  (d, r, (if r < s.2.2.1 then r else s.2.2.1), s.2.2.2.set i r)
noncomputable def lvRow (bc : Nat) (a : List Nat) (bi : Nat) (row : List Int) (j : Nat) : LvS := (List.range j).foldl (lvStep bc a) ((bi : Int) * 2, (bi : Int) * 2, 9223372036854775807, row)
noncomputable def lvGo (a b : List Nat) (mc : Int) : Nat → Nat → List Int → Int → Int
  | 0, _, _, res => res
  | k + 1, bi, row, res => let s := lvRow (b[bi]?.getD 0) a bi row a.length; if mc < s.2.2.1 then mc + 1 else lvGo a b mc k (bi + 1) s.2.2.2 s.2.1
noncomputable def lvDp (x y : List Nat) (mc : Int) : Int :=
  if mc < ((y.length : Int) - x.length) * 2 then mc + 1 else lvGo x y mc y.length 0 ((List.range x.length).map fun i : Nat => (2 : Int) + i * 2) 0
noncomputable def lvCut (a b : List Nat) (mc : Int) : Int :=
  if a = [] ∨ b = [] then 2 * ((a.length : Int) + b.length) else if b.length < a.length then lvDp b a mc else lvDp a b mc
noncomputable def lvTail (a b : List Nat) (mc : Int) : Int := lvCut (a.take (a.length - lcp a.reverse b.reverse)) (b.take (b.length - lcp a.reverse b.reverse)) mc
noncomputable def lev (a b : List Nat) (mc : Int) : Int := if a = b then 0 else lvTail (a.drop (lcp a b)) (b.drop (lcp a b)) mc

theorem lcp_drop {a b : List Nat} {i : Nat} (ha : i < a.length) (hb : i < b.length) : lcp (a.drop i) (b.drop i) = if a[i] = b[i] then lcp (a.drop (i + 1)) (b.drop (i + 1)) + 1 else 0 := by
  rw [List.drop_eq_getElem_cons ha, List.drop_eq_getElem_cons hb]; rfl
theorem lcp_end {a b : List Nat} {i : Nat} (h : a.length ≤ i ∨ b.length ≤ i) : lcp (a.drop i) (b.drop i) = 0 := by
  rcases h with h | h
  · rw [List.drop_eq_nil_of_le h]; rfl
  · rw [List.drop_eq_nil_of_le h]
    cases a.drop i <;> rfl
theorem lcp_le (a b : List Nat) : lcp a b ≤ a.length ∧ lcp a b ≤ b.length := by
  induction a generalizing b with
  | nil => exact ⟨Nat.zero_le _, Nat.zero_le _⟩
  | cons x a ih =>
    cases b with
    | nil => exact ⟨Nat.zero_le _, Nat.zero_le _⟩
    | cons y b =>
      unfold lcp
      split
      · have := ih b; simp; omega
      · simp
theorem sliceS_from {a : List Nat} {i : Nat} (h : i ≤ a.length) : sliceS (strL a) (some (i : Int)) none = strL (a.drop i) := by
  have e1 : (strL a).length = a.length := strL_len a
  have e2 : loN (strL a).length (some (i : Int)) = i := by
    rw [e1]
    show (max 0 (min (if (i : Int) < 0 then (i : Int) + a.length else i) (a.length : Int))).toNat = i
    rw [if_neg (by omega)]; omega
  unfold sliceS
  rw [e2, e1]
  show (⟨(((a.drop i).take (a.length - i))).toArray⟩ : Str) = _
  rw [List.take_of_length_le (by simp)]; rfl
noncomputable def hiOf (j : Nat) : Option Int := if j = 0 then none else some (-(j : Int))
theorem sliceS_to {a : List Nat} {j : Nat} (h : j ≤ a.length) : sliceS (strL a) none (hiOf j) = strL (a.take (a.length - j)) := by
  have e1 : (strL a).length = a.length := strL_len a
  have e2 : hiN (strL a).length (hiOf j) = a.length - j := by
    unfold hiOf hiN
    rw [e1]
    by_cases hj : j = 0
    · rw [if_pos hj]; show a.length = _; omega
    · rw [if_neg hj]
      show (max 0 (min (if -(j : Int) < 0 then -(j : Int) + a.length else -(j : Int)) (a.length : Int))).toNat = _
      rw [if_pos (by omega)]; omega
  unfold sliceS
  rw [e2]
  show (⟨(((a.drop 0).take (a.length - j - 0))).toArray⟩ : Str) = _
  rw [List.drop_zero, Nat.sub_zero]; rfl
structure LvL (lo : Lo) (a b : List Nat) (mc : Int) : Prop where
  ga : lo.g "a" = some (.str (strL a) 0)
  gb : lo.g "b" = some (.str (strL b) 0)
  gm : lo.g "max_cost" = some (.int mc 0)
theorem LvL.put {lo : Lo} {a b : List Nat} {mc : Int} (g : LvL lo a b mc) {x : Str} {v : Value} (h1 : (Str.ofString "a" : Str) ≠ x) (h2 : (Str.ofString "b" : Str) ≠ x) (h3 : (Str.ofString "max_cost" : Str) ≠ x) : LvL (lput x v lo) a b mc := ⟨lm h1 g.ga, lm h2 g.gb, lm h3 g.gm⟩

noncomputable def lvOk (a : List Nat) : Prop := a.length ≤ 10 ∧ ∀ c ∈ a, c ∈ S9
theorem lvOk.drop {a : List Nat} (h : lvOk a) (i : Nat) : lvOk (a.drop i) := ⟨by rw [List.length_drop]; have := h.1; omega, fun c hc => h.2 c (List.mem_of_mem_drop hc)⟩
theorem lvOk.take {a : List Nat} (h : lvOk a) (i : Nat) : lvOk (a.take i) := ⟨by rw [List.length_take]; have := h.1; omega, fun c hc => h.2 c (List.mem_of_mem_take hc)⟩
theorem strL_beq (a b : List Nat) : ((strL a).cps.toList == (strL b).cps.toList) = decide (a = b) := by
  show (a == b) = _
  by_cases h : a = b <;> simp [h]
theorem GetT.strN {a : List Nat} {i : Int} {j : Nat} {H : AH} {Q : Value → AH → Prop} (hl : a.length ≤ 10) (hj : j < a.length) (he : i = j ∨ i = (j : Int) - a.length) (h : Q (.str ⟨#[a[j]]⟩ 0) H) : GetT w h₀ n (.str (strL a) 0) (.int i 0) H Q := by
  refine GetT.str (cp := a[j]) (by rw [Bool.or_eq_false_iff]; exact ⟨decide_eq_false (by omega), decide_eq_false (by omega)⟩) ?_ h
  have : seqIndex? i (strL a).length = some j := by
    rw [strL_len]
    have e : (if i < 0 then i + (a.length : Int) else i) = (j : Int) := by rcases he with rfl | rfl <;> split <;> omega
    unfold seqIndex?
    simp only [e]
    rw [if_pos (by simp; omega), Int.toNat_natCast]
  rw [this]
  show (strL a).cps[j]? = _
  show a.toArray[j]? = _
  rw [List.getElem?_toArray, List.getElem?_eq_getElem hj]

theorem ExT.assignSwap {x1 x2 : Str} {tgts : List Expr} {k : Nat} {tp p : Pos} {value : Expr} {st : St} {Q : Flow → St → Prop}
    (h : EvT w h₀ c value st (fun v st₁ => ∃ a v1 v2, v = .ref a ∧ st₁.H.ts a = some [v1, v2] ∧ StoreT w h₀ c x2 v2 st₁ (fun st₂ => StoreT w h₀ c x1 v1 st₂ (fun st₃ => Q .next st₃))))
    (hs : swapsWithSole [.Tuple tgts k tp] value p.line c.env = Pure.pure false := by rfl) (hw : swappedStores [.Tuple tgts k tp] value c.env = Pure.pure (some [x1, x2]) := by rfl) : ExT w h₀ c (.Assign [.Tuple tgts k tp] value p) st Q := fun s I => by
  refine Assign_Tuple_swapped (names := [x1, x2]) (wpAny_mono (h s I) (fun v s₁ ⟨st₁, I₁, S₁, a, v1, v2, ev, ht, q⟩ => ?_) fun _ _ e => e) hs hw
  rw [er_ref ev]
  obtain ⟨items, hit, hm⟩ := (I₁.h.ts a _ ht).isTuple
  obtain ⟨y1, y2, hi⟩ : ∃ y1 y2, items.toList = [y1, y2] := by
    match hq : items.toList with
    | [] => rw [hq] at hm; cases hm
    | [_] => rw [hq] at hm; cases hm
    | [y1, y2] => exact ⟨y1, y2, rfl⟩
    | _ :: _ :: _ :: _ => rw [hq] at hm; simp at hm
  rw [hi] at hm
  simp only [List.map_cons, List.map_nil, List.cons.injEq, and_true] at hm
  have hz : items.size = 2 := by rw [← Array.length_toList, hi]; rfl
  refine wpAny_size ?_
  have u := wpAny_unpackItems_tuple (prog := PP) (w := w) (A := AA c.n) (E := NoE) (s := s₁) (Q := fun xs s' => s₁.heap.objs.size ≤ s'.heap.objs.size → wpAny (MM w) (AA c.n) (assignInOrder (([x1, x2] : List Str).reverse.map fun n => bindName c.env n) xs.reverse) (fun _ s₂ => TPost w h₀ c st s (fun f => Q (erF f)) .next s₂) NoE s') rfl hit
    (fun h' hx hsz => ?_)
  · rw [hz] at u
    exact u
  · have hk : ∀ b o, s₁.heap.get? b = some o → h'.get? b = some o := fun b o e => hx b o (Nat.ne_of_lt (Heap.lt_size e)) e
    obtain ⟨J, S⟩ := I₁.h.ext (s' := { s₁ with heap := h' }) hk hsz rfl rfl
    have I' := I₁.after J S
    rw [hi]
    show wpAny _ _ (assignInOrder [bindName c.env x2, bindName c.env x1] [y2, y1]) _ _ _
    unfold assignInOrder
    refine wpAny_bind (wpAny_holding (bindName_ (wpAny_mono (q y2 hm.2 _ I') (fun _ s₂ ⟨st₂, I₂, S₂, q₂⟩ => ?_) fun _ _ e => e)))
    unfold assignInOrder
    refine wpAny_bind (wpAny_holding (bindName_ (wpAny_mono (q₂ y1 hm.1 _ I₂) (fun _ s₃ ⟨st₃, I₃, S₃, q₃⟩ => ?_) fun _ _ e => e)))
    exact wpAny_pure ⟨st₃, I₃, S₁.trans (S.step.trans (S₂.trans S₃)), q₃⟩

theorem ev_cut {nm : Str} {A : List Nat} {j k : Nat} {p1 p2 p3 p4 p5 p6 : Pos} {st : St} {Q : Value → St → Prop} (hA : st.lo.lookup nm = some (.str (strL A) 0)) (hp : st.lo.lookup (Str.ofString "post") = some (.int (-(j : Int)) 0)) (hj : j ≤ A.length) (hz : A.length ≤ 10)
    (h : Q (.str (strL (A.take (A.length - j))) 0) st) (hk : c.env.scope.kind = .function := by rfl) (hl : c.env.kindOf nm = some .local := by rfl) (hl2 : c.env.kindOf (Str.ofString "post") = some .local := by rfl) (hd : (nm == ("__debug__" : Str)) = false := by decide) :
    EvT w h₀ c (.Subscript (.Name nm p1) (.Slice Option.none (some (.BoolOp .Or [.Name (Str.ofString "post") p2, .Constant .none k p3] p4)) Option.none p5) p6) st Q := by
  refine EvT.slice (EvT.local ?_ hA hk hl hd)
  refine PartT.none (PartT.some ?_)
  have go : ∀ v, v = asPart (hiOf j) → PartT w h₀ c Option.none st (fun x st₄ => SubOk st₄.H (.str (strL A) 0) ∧ SliT w h₀ c.n (.str (strL A) 0) .none v x st₄.H (fun v H => Q v ⟨st₄.lo, H⟩)) := fun v ev =>
    PartT.none ⟨trivial, SliT.str (lo := Option.none) (hi := hiOf j) rfl ev (by rw [sizeLine_eq, strL_len]; omega) (by rw [sliceS_to hj]; exact h)⟩
  refine EvT.or2 (EvT.local ?_ hp hk hl2 (by decide))
  refine TruT.int (ifB (fun hc => ?_) fun hc => ?_)
  · have : j ≠ 0 := fun e => by subst e; simp at hc
    exact go _ (by unfold hiOf; rw [if_neg this]; rfl)
  · have : j = 0 := by simp at hc; omega
    exact EvT.none (go _ (by unfold hiOf; rw [if_pos this]; rfl))

/-- the table while its rows are told -/
structure LvO (H : AH) (X Y : List Nat) (mc : Int) (R : Addr) (ans : Int) (i : Nat) (row : List Int) (res : Int) (st : St) : Prop where
  gl : LvL st.lo X Y mc
  gr : st.lo.g "row" = some (.ref R)
  gs : st.lo.g "result" = some (.int res 0)
  er : st.H.ls R = some (digV row)
  len : row.length = X.length
  ans : lvGo X Y mc (Y.length - i) i row res = ans
  le : AHle H st.H
theorem lvRow_len (bc : Nat) (a : List Nat) (bi : Nat) (row : List Int) : ∀ j, (lvRow bc a bi row j).2.2.2.length = row.length
  | 0 => rfl
  | j + 1 => by
    have := lvRow_len bc a bi row j
    unfold lvRow at this ⊢
    rw [List.range_succ, List.foldl_append]
    show (List.set _ _ _).length = _
    rw [List.length_set]; exact this
structure LvI (H : AH) (X Y : List Nat) (mc : Int) (R : Addr) (bc i : Nat) (row : List Int) (it1 : Addr) (S1 : ItA) (j : Nat) (st : St) : Prop where
  gl : LvL st.lo X Y mc
  gr : st.lo.g "row" = some (.ref R)
  gb : st.lo.g "bchar" = some (.str ⟨#[bc]⟩ 0)
  gd : st.lo.g "distance" = some (.int (lvRow bc X i row j).1 0)
  gs : st.lo.g "result" = some (.int (lvRow bc X i row j).2.1 0)
  gm : st.lo.g "minimum" = some (.int (lvRow bc X i row j).2.2.1 0)
  er : st.H.ls R = some (digV (lvRow bc X i row j).2.2.2)
  le : AHle H st.H
  it : st.H.is it1 = some S1
structure Hid (p : Prop) : Prop where
  h : p
theorem le_sz {k : Nat} (h : k ≤ 10) : k ≤ sizeLine := by rw [sizeLine_eq]; omega
theorem lv_n {m i : Nat} (h : ¬ ((m - i : Nat) : Int) = 0) : i < m := by omega
theorem lv_n0 {m i : Nat} (h : ((m - i : Nat) : Int) = 0) : m ≤ i := by omega
theorem lv_cut {A : List Nat} {j : Nat} (h : ¬ ((min (A.length - j) A.length : Nat) : Int) = 0) : A.length - 1 - j < A.length ∧ -(j : Int) - 1 = ((A.length - 1 - j : Nat) : Int) - A.length ∧ j < A.reverse.length := by
  rw [List.length_reverse]; omega
theorem lv_cut0 {A : List Nat} {j : Nat} (hj : j ≤ A.length) (h : ((min (A.length - j) A.length : Nat) : Int) = 0) : A.reverse.length ≤ j := by
  rw [List.length_reverse]; omega
theorem sz_drop {A : List Nat} {i : Nat} (h : A.length ≤ 10) : (strL (A.drop i)).length ≤ sizeLine := le_sz (by rw [strL_len, List.length_drop]; exact Nat.le_trans (Nat.sub_le _ _) h)
theorem sz_take {A : List Nat} {i : Nat} (h : A.length ≤ 10) : (strL (A.take i)).length ≤ sizeLine := le_sz (by rw [strL_len, List.length_take]; exact Nat.le_trans (Nat.min_le_right _ _) h)
theorem sz_str {A : List Nat} (h : A.length ≤ 10) : (strL A).length ≤ sizeLine := le_sz (by rw [strL_len]; exact h)
theorem lv_rest {m i : Nat} (h : i < m) : m - i = (m - (i + 1)) + 1 := by omega
set_option maxHeartbeats 8000000 in
theorem T_lev {a b : List Nat} {mc : Int} {H : AH} {Q : Value → AH → Prop} (hn : n ≤ 40) (ha : lvOk a) (hb : lvOk b) (h : Q (.int (lev a b mc) 0) H) : CallT w h₀ n (.ref 139) [.str (strL a) 0, .str (strL b) 0, .int mc 0] [] H Q := by
  refine CallT.drop (CallT.base (binds := [("a", .str (strL a) 0), ("b", .str (strL b) 0), ("max_cost", .int mc 0)]) ⟨_, _, _, _, _, _, _, rfl, rfl, rfl, rfl⟩ (fun a' k' e2 e3 s I => ?_) (fun L hL => ?_) (by omega))
  · obtain ⟨x', y', z', rfl, ex, ey, ez⟩ := map3 e2
    rw [kw0 e3]
    exact ⟨[("a", x'), ("b", y'), ("max_cost", z')], .of_eq rfl, by simp [ex, ey, ez]⟩
  refine BdT.loc (BdT.loc (BdT.loc (BdT.nil (BodyT.stmts ?_))))
  show EsT w h₀ _ _ ⟨_, H⟩ _
  refine EsT.cons ?_; refine ExT.if ?_; refine IfT.compare ?_; refine EvT.local ?_; refine EvT.local ?_
  refine CmpT.eqS (TruT.bool ?_)
  rw [strL_beq]
  unfold lev at h
  refine ifB (fun hc => ?_) fun hc => ?_
  · rw [if_pos (of_decide_eq_true hc)] at h
    refine EsT.cons ?_; refine ExT.return ?_; refine EvT.int ?_
    exact ⟨_, .refl, h⟩
  rw [if_neg (of_decide_eq_false hc)] at h
  refine EsT.nil ?_
  refine EsT.cons ?_; refine ExT.assignName ?_; refine EvT.int ?_; refine StoreT.local ?_
  refine EsT.cons ?_
  refine ExT.while (fun k st => ∃ i : Nat, i ≤ a.length ∧ i ≤ b.length ∧ i + lcp (a.drop i) (b.drop i) = lcp a b ∧ k = lcp (a.drop i) (b.drop i) ∧ LvL st.lo a b mc ∧ st.lo.g "pre" = some (.int i 0) ∧ st.H = H) (lcp a b)
    ⟨0, Nat.zero_le _, Nat.zero_le _, Nat.zero_add _, rfl, ⟨rfl, rfl, rfl⟩, rfl, rfl⟩ ?_
  rintro k ⟨lo, H'⟩ ⟨i, hia, hib, hi0, rfl, g, gp, hH⟩ N hN hC hB hR
  have hi := Hid.mk hi0
  clear hi0
  have hH : H' = H := hH
  subst hH
  have hz1 := ha.1
  have hz2 := hb.1
  refine Tr.mono (Q := fun x st₂ => st₂ = (⟨lo, H'⟩ : St) ∧ x = decide (lcp (a.drop i) (b.drop i) ≠ 0)) (show IfT w h₀ _ _ _ _ from ?_) ?_
  · refine IfT.and ?_; refine IfT.plain ?_; refine EvT.slice ?_
    refine EvT.local ?_ g.ga
    refine PartT.some ?_
    refine EvT.local ?_ gp
    refine PartT.none ?_; refine PartT.none ?_
    refine ⟨trivial, SliT.str (lo := some (i : Int)) (hi := none) rfl rfl (by rw [sizeLine_eq, strL_len]; omega) ?_⟩
    rw [sliceS_from hia]
    refine TruT.str (ifB (fun h1 => ?_) fun h1 => ?_) (sz_drop hz1)
    · rw [strL_len, List.length_drop, bne_iff_ne, ne_eq] at h1
      refine IfT.and ?_; refine IfT.plain ?_; refine EvT.slice ?_
      refine EvT.local ?_ g.gb
      refine PartT.some ?_
      refine EvT.local ?_ gp
      refine PartT.none ?_; refine PartT.none ?_
      refine ⟨trivial, SliT.str (lo := some (i : Int)) (hi := none) rfl rfl (by rw [sizeLine_eq, strL_len]; omega) ?_⟩
      rw [sliceS_from hib]
      refine TruT.str (ifB (fun h2 => ?_) fun h2 => ?_) (sz_drop hz2)
      · rw [strL_len, List.length_drop, bne_iff_ne, ne_eq] at h2
        have hia' := lv_n h1
        have hib' := lv_n h2
        refine IfT.and ?_; refine IfT.compare ?_; refine EvT.sub ?_
        refine EvT.local ?_ g.ga
        refine EvT.local ?_ gp
        refine ⟨trivial, GetT.strN hz1 hia' (.inl rfl) ?_⟩
        refine EvT.sub ?_
        refine EvT.local ?_ g.gb
        refine EvT.local ?_ gp
        refine ⟨trivial, GetT.strN hz2 hib' (.inl rfl) ?_⟩
        refine CmpT.eqS (TruT.bool ?_)
        rw [lcp_drop hia' hib']
        refine ifB (fun h3 => ?_) fun h3 => ?_
        · refine IfT.andNil ?_
          have : a[i] = b[i] := by simpa using h3
          exact ⟨rfl, by rw [if_pos this]; simp⟩
        · have : ¬ a[i] = b[i] := by simpa using h3
          exact ⟨rfl, by rw [if_neg this]; simp⟩
      · rw [strL_len, List.length_drop, bne_eq_false_iff_eq] at h2
        exact ⟨rfl, by rw [lcp_end (.inr (lv_n0 h2))]; simp⟩
    · rw [strL_len, List.length_drop, bne_eq_false_iff_eq] at h1
      exact ⟨rfl, by rw [lcp_end (.inl (lv_n0 h1))]; simp⟩
  rintro x st₂ ⟨rfl, hx⟩
  subst hx
  refine ifB (fun hc2 => ?_) fun hc2 => ?_
  · have hne : lcp (a.drop i) (b.drop i) ≠ 0 := of_decide_eq_true hc2
    have hia' : i < a.length := Nat.lt_of_not_le fun z => hne (lcp_end (.inl z))
    have hib' : i < b.length := Nat.lt_of_not_le fun z => hne (lcp_end (.inr z))
    have e := lcp_drop hia' hib'
    have hab : a[i] = b[i] := Classical.byContradiction fun z => by rw [if_neg z] at e; exact hne e
    rw [if_pos hab] at e
    refine EsT.cons ?_
    refine ExT.augName ?_ gp
    refine EvT.int ?_
    refine IopT.addI ?_
    refine StoreT.local ?_; refine EsT.nil ?_
    exact hN ⟨lcp (a.drop (i + 1)) (b.drop (i + 1)), by omega, i + 1, hia', hib', by have := hi.h; omega, rfl, g.put (by decide) (by decide) (by decide), lh, rfl⟩
  have he : lcp (a.drop i) (b.drop i) = 0 := by simpa using of_decide_eq_false hc2
  have hi := hi.h
  rw [he, Nat.add_zero] at hi
  rw [← hi] at h
  refine EsT.nil ?_
  refine EsT.cons ?_; refine ExT.assignName ?_; refine EvT.slice ?_
  refine EvT.local ?_ g.ga
  refine PartT.some ?_
  refine EvT.local ?_ gp
  refine PartT.none ?_; refine PartT.none ?_
  refine ⟨trivial, SliT.str (lo := some (i : Int)) (hi := none) rfl rfl (by rw [sizeLine_eq, strL_len]; omega) ?_⟩
  rw [sliceS_from hia]
  refine StoreT.local ?_
  refine EsT.cons ?_; refine ExT.assignName ?_; refine EvT.slice ?_
  refine EvT.local ?_ (lm (by decide) g.gb)
  refine PartT.some ?_
  refine EvT.local ?_ (lm (by decide) gp)
  refine PartT.none ?_; refine PartT.none ?_
  refine ⟨trivial, SliT.str (lo := some (i : Int)) (hi := none) rfl rfl (by rw [sizeLine_eq, strL_len]; omega) ?_⟩
  rw [sliceS_from hib]
  refine StoreT.local ?_
  have oa := ha.drop i
  have ob := hb.drop i
  have g2 : LvL (lput "b" (.str (strL (b.drop i)) 0) (lput "a" (.str (strL (a.drop i)) 0) lo)) (a.drop i) (b.drop i) mc := ⟨lm (by decide) lh, lh, lm (by decide) (lm (by decide) g.gm)⟩
  revert g2
  generalize lput "b" (.str (strL (b.drop i)) 0) (lput "a" (.str (strL (a.drop i)) 0) lo) = lo2
  intro g2
  generalize a.drop i = A at *
  generalize b.drop i = B at *
  refine EsT.cons ?_; refine ExT.assignName ?_; refine EvT.int ?_; refine StoreT.local ?_
  refine EsT.cons ?_
  have hzA := oa.1
  have hzB := ob.1
  unfold lvTail at h
  refine ExT.while (fun k st => ∃ j : Nat, j ≤ A.length ∧ j ≤ B.length ∧ j + lcp (A.reverse.drop j) (B.reverse.drop j) = lcp A.reverse B.reverse ∧ k = lcp (A.reverse.drop j) (B.reverse.drop j) ∧ LvL st.lo A B mc ∧ st.lo.g "post" = some (.int (-(j : Int)) 0) ∧ st.H = H') (lcp A.reverse B.reverse)
    ⟨0, Nat.zero_le _, Nat.zero_le _, Nat.zero_add _, rfl, g2.put (by decide) (by decide) (by decide), lh, rfl⟩ ?_
  rintro k ⟨lo3, H3⟩ ⟨j, hja, hjb, hj0, rfl, g3, gq, hH3⟩ N2 hN2 hC2 hB2 hR2
  have hj := Hid.mk hj0
  clear hj0
  have hH3 : H3 = H' := hH3
  subst hH3
  have rl : Hid (A.reverse.length = A.length ∧ B.reverse.length = B.length) := ⟨List.length_reverse, List.length_reverse⟩
  refine Tr.mono (Q := fun x st₂ => st₂ = (⟨lo3, H3⟩ : St) ∧ x = decide (lcp (A.reverse.drop j) (B.reverse.drop j) ≠ 0)) (show IfT w h₀ _ _ _ _ from ?_) ?_
  · refine IfT.and ?_; refine IfT.plain ?_
    refine ev_cut g3.ga gq hja hzA ?_
    refine TruT.str (ifB (fun h1 => ?_) fun h1 => ?_) (sz_take hzA)
    · rw [strL_len, List.length_take, bne_iff_ne, ne_eq] at h1
      refine IfT.and ?_; refine IfT.plain ?_
      refine ev_cut g3.gb gq hjb hzB ?_
      refine TruT.str (ifB (fun h2 => ?_) fun h2 => ?_) (sz_take hzB)
      · rw [strL_len, List.length_take, bne_iff_ne, ne_eq] at h2
        have hia' := (lv_cut h1).1
        have hib' := (lv_cut h2).1
        refine IfT.and ?_; refine IfT.compare ?_; refine EvT.sub ?_
        refine EvT.local ?_ g3.ga
        refine EvT.binOp ?_
        refine EvT.local ?_ gq
        refine EvT.int ?_
        refine BinT.subI ?_
        refine ⟨trivial, GetT.strN hzA hia' (.inr (lv_cut h1).2.1) ?_⟩
        refine EvT.sub ?_
        refine EvT.local ?_ g3.gb
        refine EvT.binOp ?_
        refine EvT.local ?_ gq
        refine EvT.int ?_
        refine BinT.subI ?_
        refine ⟨trivial, GetT.strN hzB hib' (.inr (lv_cut h2).2.1) ?_⟩
        refine CmpT.eqS (TruT.bool ?_)
        rw [lcp_drop (lv_cut h1).2.2 (lv_cut h2).2.2, List.getElem_reverse, List.getElem_reverse]
        refine ifB (fun h3 => ?_) fun h3 => ?_
        · refine IfT.andNil ?_
          have : A[A.length - 1 - j] = B[B.length - 1 - j] := by simpa using h3
          exact ⟨rfl, by rw [if_pos this]; simp⟩
        · have : ¬ A[A.length - 1 - j] = B[B.length - 1 - j] := by simpa using h3
          exact ⟨rfl, by rw [if_neg this]; simp⟩
      · rw [strL_len, List.length_take, bne_eq_false_iff_eq] at h2
        exact ⟨rfl, by rw [lcp_end (.inr (lv_cut0 hjb h2))]; simp⟩
    · rw [strL_len, List.length_take, bne_eq_false_iff_eq] at h1
      exact ⟨rfl, by rw [lcp_end (.inl (lv_cut0 hja h1))]; simp⟩
  rintro x st₂ ⟨rfl, hx⟩
  subst hx
  refine ifB (fun hc2 => ?_) fun hc2 => ?_
  · have hne : lcp (A.reverse.drop j) (B.reverse.drop j) ≠ 0 := of_decide_eq_true hc2
    have hia' : j < A.reverse.length := Nat.lt_of_not_le fun z => hne (lcp_end (.inl z))
    have hib' : j < B.reverse.length := Nat.lt_of_not_le fun z => hne (lcp_end (.inr z))
    have e := lcp_drop hia' hib'
    have hab : A.reverse[j] = B.reverse[j] := Classical.byContradiction fun z => by rw [if_neg z] at e; exact hne e
    rw [if_pos hab] at e
    refine EsT.cons ?_
    refine ExT.augName ?_ gq
    refine EvT.int ?_
    refine IopT.subI ?_
    refine StoreT.local ?_; refine EsT.nil ?_
    exact hN2 ⟨lcp (A.reverse.drop (j + 1)) (B.reverse.drop (j + 1)), by omega, j + 1, by rw [List.length_reverse] at hia'; exact hia', by rw [List.length_reverse] at hib'; exact hib', by have := hj.h; omega, rfl, g3.put (by decide) (by decide) (by decide), lh.trans (by congr 2; omega), rfl⟩
  have he : lcp (A.reverse.drop j) (B.reverse.drop j) = 0 := by simpa using of_decide_eq_false hc2
  have hj := hj.h
  rw [he, Nat.add_zero] at hj
  rw [← hj] at h
  refine EsT.nil ?_
  refine EsT.cons ?_; refine ExT.assignName ?_
  refine ev_cut g3.ga gq hja hzA ?_
  refine StoreT.local ?_
  refine EsT.cons ?_; refine ExT.assignName ?_
  refine ev_cut (lm (by decide) g3.gb) (lm (by decide) gq) hjb hzB ?_
  refine StoreT.local ?_
  have oa2 := oa.take (A.length - j)
  have ob2 := ob.take (B.length - j)
  have g4 : LvL (lput "b" (.str (strL (B.take (B.length - j))) 0) (lput "a" (.str (strL (A.take (A.length - j))) 0) lo3)) (A.take (A.length - j)) (B.take (B.length - j)) mc := ⟨lm (by decide) lh, lh, lm (by decide) (lm (by decide) g3.gm)⟩
  revert g4
  generalize lput "b" (.str (strL (B.take (B.length - j))) 0) (lput "a" (.str (strL (A.take (A.length - j))) 0) lo3) = lo4
  intro g4
  generalize A.take (A.length - j) = A2 at *
  generalize B.take (B.length - j) = B2 at *
  have hzA2 := oa2.1
  have hzB2 := ob2.1
  unfold lvCut at h
  refine EsT.cons ?_; refine ExT.if ?_
  refine Tr.mono (Q := fun x st₂ => st₂ = (⟨lo4, H3⟩ : St) ∧ x = decide (A2 = [] ∨ B2 = [])) (show IfT w h₀ _ _ _ _ from ?_) ?_
  · refine IfT.or ?_; refine IfT.not ?_; refine IfT.plain ?_
    refine EvT.local ?_ g4.ga
    refine TruT.str (ifB (fun h1 => ?_) fun h1 => ?_) (by rw [sizeLine_eq, strL_len]; omega)
    · rw [strL_len] at h1
      have : A2 = [] := by
        cases A2 with
        | nil => rfl
        | cons _ _ => simp at h1; omega
      exact ⟨rfl, by simp [this]⟩
    · rw [strL_len] at h1
      have n1 : A2 ≠ [] := fun e => by subst e; simp at h1
      refine IfT.or ?_; refine IfT.not ?_; refine IfT.plain ?_
      refine EvT.local ?_ g4.gb
      refine TruT.str (ifB (fun h2 => ?_) fun h2 => ?_) (by rw [sizeLine_eq, strL_len]; omega)
      · rw [strL_len] at h2
        have : B2 = [] := by
          cases B2 with
          | nil => rfl
          | cons _ _ => simp at h2; omega
        exact ⟨rfl, by simp [this]⟩
      · rw [strL_len] at h2
        have n2 : B2 ≠ [] := fun e => by subst e; simp at h2
        refine IfT.orNil ?_
        exact ⟨rfl, by simp [n1, n2]⟩
  rintro x st₂ ⟨rfl, hx⟩
  subst hx
  refine ifB (fun hc3 => ?_) fun hc3 => ?_
  · rw [if_pos (of_decide_eq_true hc3)] at h
    refine EsT.cons ?_; refine ExT.return ?_; refine EvT.binOp ?_; refine EvT.global ?_; refine EvT.binOp ?_; refine EvT.call ?_; refine EvT.builtin ?_; refine ArgsT.pos ?_; refine ItsT.cons ?_
    refine EvT.local ?_ g4.ga
    refine ItsT.nil ?_
    refine ⟨trivial, CalT.lenS (by rw [strL_len]; omega) ?_⟩
    refine EvT.call ?_; refine EvT.builtin ?_; refine ArgsT.pos ?_; refine ItsT.cons ?_
    refine EvT.local ?_ g4.gb
    refine ItsT.nil ?_
    refine ⟨trivial, CalT.lenS (by rw [strL_len]; omega) ?_⟩
    rw [strL_len, strL_len]
    refine BinT.addI (BinT.mulI ?_ (.of_le (m := 2) (n := 64) (by decide) (by rw [show ((A2.length : Int) + B2.length) = ((A2.length + B2.length : Nat) : Int) by omega]; exact intBits_cast_le (by rw [sizeLine_eq]; omega)) (by decide)))
    exact ⟨_, .refl, h⟩
  rw [if_neg (of_decide_eq_false hc3)] at h
  refine EsT.nil ?_
  -- the two sizes
  refine EsT.cons ?_; refine ExT.if ?_
  refine Tr.mono (Q := fun x st₂ => st₂ = (⟨lo4, H3⟩ : St) ∧ x = false) (show IfT w h₀ _ _ _ _ from ?_) ?_
  · refine IfT.or ?_; refine IfT.compare ?_; refine EvT.call ?_; refine EvT.builtin ?_; refine ArgsT.pos ?_; refine ItsT.cons ?_
    refine EvT.local ?_ g4.ga
    refine ItsT.nil ?_
    refine ⟨trivial, CalT.lenS (by rw [strL_len]; omega) ?_⟩
    refine EvT.global ?_
    rw [strL_len]
    refine CmpT.gtI (TruT.bool (ifF (decide_eq_false (by omega)) ?_))
    refine IfT.or ?_; refine IfT.compare ?_; refine EvT.call ?_; refine EvT.builtin ?_; refine ArgsT.pos ?_; refine ItsT.cons ?_
    refine EvT.local ?_ g4.gb
    refine ItsT.nil ?_
    refine ⟨trivial, CalT.lenS (by rw [strL_len]; omega) ?_⟩
    refine EvT.global ?_
    rw [strL_len]
    refine CmpT.gtI (TruT.bool (ifF (decide_eq_false (by omega)) ?_))
    refine IfT.orNil ?_
    exact ⟨rfl, rfl⟩
  rintro x st₂ ⟨rfl, hx⟩
  subst hx
  refine ifF rfl ?_
  refine EsT.nil ?_
  refine EsT.cons ?_
  have nAB : A2 ≠ [] ∧ B2 ≠ [] := by
    have := of_decide_eq_false hc3
    simpa using this
  obtain ⟨ans, ean⟩ : ∃ ans, (if B2.length < A2.length then lvDp B2 A2 mc else lvDp A2 B2 mc) = ans := ⟨_, rfl⟩
  rw [ean] at h
  refine Tr.mono (Q := fun f st₂ => erF f = Flow.next ∧ ∃ X Y, LvL st₂.lo X Y mc ∧ lvOk X ∧ lvOk Y ∧ X.length ≤ Y.length ∧ AHle H3 st₂.H ∧ lvDp X Y mc = ans)
    (show ExT w h₀ _ _ _ (fun f st₂ => f = Flow.next ∧ ∃ X Y, LvL st₂.lo X Y mc ∧ lvOk X ∧ lvOk Y ∧ X.length ≤ Y.length ∧ AHle H3 st₂.H ∧ lvDp X Y mc = ans) from ?_) ?_
  · refine ExT.if ?_; refine IfT.compare ?_; refine EvT.call ?_; refine EvT.builtin ?_; refine ArgsT.pos ?_; refine ItsT.cons ?_
    refine EvT.local ?_ g4.gb
    refine ItsT.nil ?_
    refine ⟨trivial, CalT.lenS (by rw [strL_len]; omega) ?_⟩
    refine EvT.call ?_; refine EvT.builtin ?_; refine ArgsT.pos ?_; refine ItsT.cons ?_
    refine EvT.local ?_ g4.ga
    refine ItsT.nil ?_
    refine ⟨trivial, CalT.lenS (by rw [strL_len]; omega) ?_⟩
    rw [strL_len, strL_len]
    refine CmpT.ltI (TruT.bool (ifB (fun h1 => ?_) fun h1 => ?_))
    · have h1' := of_decide_eq_true h1
      rw [if_pos (by omega)] at ean
      refine EsT.cons ?_
      refine ExT.assignSwap (x1 := "a") (x2 := "b") ?_
      refine EvT.tuple ?_; refine ItsT.cons ?_
      refine EvT.local ?_ g4.gb
      refine ItsT.cons ?_
      refine EvT.local ?_ g4.ga
      refine ItsT.nil ?_
      refine ⟨by rw [sizeLine_eq]; simp, fun tt htt => ?_⟩
      refine ⟨tt, _, _, rfl, setT_hit _ _ _, StoreT.local (StoreT.local ?_)⟩
      refine EsT.nil ?_
      exact ⟨rfl, B2, A2, ⟨lh, lm (by decide) lh, lm (by decide) (lm (by decide) g4.gm)⟩, ob2, oa2, by omega, AHle.setT .refl htt, ean⟩
    · have h1' := of_decide_eq_false h1
      rw [if_neg (by omega)] at ean
      refine EsT.nil ?_
      exact ⟨rfl, A2, B2, g4, oa2, ob2, by omega, .refl, ean⟩
  rintro f ⟨lo5, H5⟩ ⟨ef, X, Y, g5, oX, oY, hXY, le5, eXY⟩
  rw [ef]
  clear ean hc3 g4 oa2 ob2 hzA2 hzB2 nAB
  have hzX := oX.1
  have hzY := oY.1
  unfold lvDp at eXY
  refine EsT.cons ?_; refine ExT.if ?_; refine IfT.compare ?_; refine EvT.binOp ?_; refine EvT.binOp ?_; refine EvT.call ?_; refine EvT.builtin ?_; refine ArgsT.pos ?_; refine ItsT.cons ?_
  refine EvT.local ?_ g5.gb
  refine ItsT.nil ?_
  refine ⟨trivial, CalT.lenS (by rw [strL_len]; omega) ?_⟩
  refine EvT.call ?_; refine EvT.builtin ?_; refine ArgsT.pos ?_; refine ItsT.cons ?_
  refine EvT.local ?_ g5.ga
  refine ItsT.nil ?_
  refine ⟨trivial, CalT.lenS (by rw [strL_len]; omega) ?_⟩
  rw [strL_len, strL_len]
  refine BinT.subI ?_
  refine EvT.global ?_
  refine BinT.mulI ?_ (.of_le (m := 64) (n := 2) (by rw [show ((Y.length : Int) - X.length) = ((Y.length - X.length : Nat) : Int) by omega]; exact intBits_cast_le (by rw [sizeLine_eq]; omega)) (by decide) (by decide))
  refine EvT.local ?_ g5.gm
  refine CmpT.gtI (TruT.bool (ifB (fun h1 => ?_) fun h1 => ?_))
  · rw [if_pos (of_decide_eq_true h1)] at eXY
    refine EsT.cons ?_; refine ExT.return ?_; refine EvT.binOp ?_
    refine EvT.local ?_ g5.gm
    refine EvT.int ?_
    refine BinT.addI ?_
    rw [eXY]
    exact ⟨_, le5, h⟩
  rw [if_neg (of_decide_eq_false h1)] at eXY
  refine EsT.nil ?_
  have smallR : ∀ m < 11, (Builtin.Range.small 2 (2 * (((m : Nat) : Int) + 1)) 2 = true ∧ Builtin.Range.rangeSize 2 (2 * (((m : Nat) : Int) + 1)) 2 = m) ∧ Builtin.Range.small 0 ((m : Nat) : Int) 1 = true ∧ Builtin.Range.rangeSize 0 ((m : Nat) : Int) 1 = m := by decide
  have smX := Hid.mk (smallR X.length (by omega))
  have smY := Hid.mk (smallR Y.length (by omega))
  refine EsT.cons ?_; refine ExT.assignName ?_; refine EvT.call ?_; refine EvT.builtin ?_; refine ArgsT.pos ?_; refine ItsT.cons ?_
  refine EvT.call ?_; refine EvT.builtin ?_; refine ArgsT.pos ?_; refine ItsT.cons ?_; refine EvT.global ?_; refine ItsT.cons ?_; refine EvT.binOp ?_; refine EvT.global ?_; refine EvT.binOp ?_; refine EvT.call ?_; refine EvT.builtin ?_; refine ArgsT.pos ?_; refine ItsT.cons ?_
  refine EvT.local ?_ g5.ga
  refine ItsT.nil ?_
  refine ⟨trivial, CalT.lenS (by rw [strL_len]; omega) ?_⟩
  rw [strL_len]
  refine EvT.int ?_
  refine BinT.addI ?_
  refine BinT.mulI ?_ (.of_le (m := 2) (n := 64) (by decide) (by rw [show ((X.length : Int) + 1) = ((X.length + 1 : Nat) : Int) by omega]; exact intBits_cast_le (by rw [sizeLine_eq]; omega)) (by decide))
  refine ItsT.cons ?_; refine EvT.global ?_; refine ItsT.nil ?_
  refine ⟨trivial, CalT.range3 (by decide) (by decide) fun rg hrg => ?_⟩
  refine ItsT.nil ?_
  refine ⟨trivial, CalT.listRange (setI_hit _ _ _) smX.h.1.1 smX.h.1.2 (by omega) fun R hR => ?_⟩
  refine StoreT.local ?_
  refine EsT.cons ?_; refine ExT.assignName ?_; refine EvT.int ?_; refine StoreT.local ?_
  have lR : AHle H3 ((H5.setI rg (.rng 2 (2 * ((X.length : Int) + 1)) 2)).setL R ((List.range X.length).map fun x : Nat => .int (2 + x * 2) 0)) := AHle.setL (AHle.setI le5 fun d => hrg (le5.dom d)) fun d => hR (dom_setI (le5.dom d))
  have RH : ¬ H3.dom R := fun d => hR (dom_setI (le5.dom d))
  have eR : ((H5.setI rg (.rng 2 (2 * ((X.length : Int) + 1)) 2)).setL R ((List.range X.length).map fun x : Nat => .int (2 + x * 2) 0)).ls R = some (digV ((List.range X.length).map fun i : Nat => (2 : Int) + i * 2)) := (setL_hit _ _ _).trans (by rw [digV, List.map_map]; rfl)
  have lenR : ((List.range X.length).map fun i : Nat => (2 : Int) + i * 2).length = X.length := by simp
  generalize ((List.range X.length).map fun i : Nat => (2 : Int) + i * 2) = row0 at *
  generalize (H5.setI rg (.rng 2 (2 * ((X.length : Int) + 1)) 2)).setL R ((List.range X.length).map fun x : Nat => .int (2 + x * 2) 0) = H6 at *
  refine EsT.cons ?_
  refine ExT.for ?_
  refine EvT.call ?_; refine EvT.builtin ?_; refine ArgsT.pos ?_; refine ItsT.cons ?_; refine EvT.call ?_; refine EvT.builtin ?_; refine ArgsT.pos ?_; refine ItsT.cons ?_
  refine EvT.local ?_ (lm (by decide) (lm (by decide) g5.gb))
  refine ItsT.nil ?_
  refine ⟨trivial, CalT.lenS (by rw [strL_len]; omega) ?_⟩
  rw [strL_len]
  refine ItsT.nil ?_
  refine ⟨trivial, CalT.range1 fun rg1 hrg1 => ?_⟩
  refine ItrT.rng (setI_hit _ _ _) smY.h.2.1 fun it1 hit1 => ?_
  rw [smY.h.2.2]
  have it1H : ¬ H3.dom it1 := fun d => hit1 (dom_setI (lR.dom d))
  refine for_src (K := fun _ _ => True) (m := Y.length) (fun i st => ∃ row res, LvO H3 X Y mc R ans i row res st) (Src.range 0 1) (fun _ _ _ => trivial)
    ⟨row0, 0, ⟨(g5.put (by decide) (by decide) (by decide)).put (by decide) (by decide) (by decide), lm (by decide) lh, lh, eR, lenR, eXY, (lR.setI fun d => hrg1 (lR.dom d)).setI it1H⟩⟩ (by rw [setI_hit]; simp [rgS]) (fun i lo H' x ⟨row, res, g⟩ => ⟨row, res, g.gl, g.gr, g.gs, g.er, g.len, g.ans, g.le.setI it1H⟩) (fun i lo H' hi ⟨row, res, g⟩ ei N hN hC hB hR => ?outer) (fun lo H' ⟨row, res, g⟩ => ?last)
  case last =>
    refine EsT.nil ?_
    refine EsT.cons ?_; refine ExT.return ?_
    refine EvT.local ?_ g.gs
    have := g.ans
    rw [Nat.sub_self] at this
    have : res = ans := this
    rw [this]
    exact ⟨_, g.le.delI' it1H, h⟩
  case outer =>
    rw [rg0]
    obtain ⟨gl, gr, gs, er', len, ga, gle⟩ := g
    refine AsT.name (StoreT.local ?_)
    refine EsT.cons ?_; refine ExT.assignName ?_; refine EvT.sub ?_
    refine EvT.local ?_ (lm (by decide) gl.gb)
    refine EvT.local ?_ lh
    refine ⟨trivial, GetT.strN hzY hi (.inl rfl) ?_⟩
    refine StoreT.local ?_
    refine EsT.cons ?_; refine ExT.assignTT ?_; refine EvT.binOp ?_
    refine EvT.local ?_ (lm (by decide) lh)
    refine EvT.global ?_
    refine BinT.mulI ?_ (.of_le (m := 64) (n := 2) (intBits_cast_le (by rw [sizeLine_eq]; omega)) (by decide) (by decide))
    refine AsT.name ?_; refine StoreT.local ?_; refine AsT.name ?_; refine StoreT.local ?_
    refine EsT.cons ?_; refine ExT.assignName ?_; refine EvT.int ?_; refine StoreT.local ?_
    refine EsT.cons ?_
    refine ExT.for ?_
    refine EvT.call ?_; refine EvT.builtin ?_; refine ArgsT.pos ?_; refine ItsT.cons ?_; refine EvT.call ?_; refine EvT.builtin ?_; refine ArgsT.pos ?_; refine ItsT.cons ?_
    refine EvT.local ?_ (lm (by decide) (lm (by decide) (lm (by decide) (lm (by decide) (lm (by decide) gl.ga)))))
    refine ItsT.nil ?_
    refine ⟨trivial, CalT.lenS (by rw [strL_len]; omega) ?_⟩
    rw [strL_len]
    refine ItsT.nil ?_
    refine ⟨trivial, CalT.range1 fun rg2 hrg2 => ?_⟩
    refine ItrT.rng (setI_hit _ _ _) smX.h.2.1 fun it2 hit2 => ?_
    rw [smX.h.2.2]
    have it2H : ¬ H3.dom it2 := fun d => hit2 (dom_setI (gle.dom d))
    have n12 : it1 ≠ it2 := fun e => hit2 (dom_setI (e ▸ AH.dom_is ei))
    have n1r : it1 ≠ rg2 := fun e => hrg2 (e ▸ AH.dom_is ei)
    have bcS : Y[i] ∈ S9 := oY.2 _ (List.getElem_mem hi)
    have gL5 : ∀ v1 v2 v3 v4 v5, LvL (lput "minimum" v5 (lput "result" v4 (lput "distance" v3 (lput "bchar" v2 (lput "bindex" v1 lo))))) X Y mc := fun _ _ _ _ _ => (((((gl.put (by decide) (by decide) (by decide)).put (by decide) (by decide) (by decide)).put (by decide) (by decide) (by decide)).put (by decide) (by decide) (by decide)).put (by decide) (by decide) (by decide))
    refine for_src (K := fun _ _ => True) (m := X.length) (LvI H3 X Y mc R Y[i] i row it1 (rgS 0 1 Y.length (i + 1))) (Src.range 0 1) (fun _ _ _ => trivial)
      ⟨gL5 _ _ _ _ _, (lm (by decide) (lm (by decide) (lm (by decide) (lm (by decide) (lm (by decide) gr))))), (lm (by decide) (lm (by decide) (lm (by decide) lh))), (lm (by decide) (lm (by decide) lh)), (lm (by decide) lh), lh, er', (gle.setI fun d => hrg2 (gle.dom d)).setI it2H, (setI_miss n12).trans ((setI_miss n1r).trans ei)⟩ (by rw [setI_hit]; simp [rgS])
      (fun j lo H' x g => ⟨g.gl, g.gr, g.gb, g.gd, g.gs, g.gm, g.er, g.le.setI it2H, (setI_miss n12).trans g.it⟩) (fun j lo H' hj g ej N2 hN2 hC2 hB2 hR2 => ?inner) (fun lo H' g => ?row)
    case row =>
      refine EsT.nil ?_
      have eg : lvGo X Y mc (Y.length - i) i row res = if mc < (lvRow Y[i] X i row X.length).2.2.1 then mc + 1 else lvGo X Y mc (Y.length - (i + 1)) (i + 1) (lvRow Y[i] X i row X.length).2.2.2 (lvRow Y[i] X i row X.length).2.1 := by
        rw [lv_rest hi]
        show (let s := lvRow (Y[i]?.getD 0) X i row X.length; if mc < s.2.2.1 then mc + 1 else lvGo X Y mc (Y.length - (i + 1)) (i + 1) s.2.2.2 s.2.1) = _
        rw [List.getElem?_eq_getElem hi]; rfl
      rw [ga] at eg
      refine EsT.cons ?_; refine ExT.if ?_; refine IfT.compare ?_
      refine EvT.local ?_ g.gm
      refine EvT.local ?_ g.gl.gm
      refine CmpT.gtI (TruT.bool (ifB (fun h2 => ?_) fun h2 => ?_))
      · rw [if_pos (of_decide_eq_true h2)] at eg
        refine EsT.cons ?_; refine ExT.return ?_; refine EvT.binOp ?_
        refine EvT.local ?_ g.gl.gm
        refine EvT.int ?_
        refine BinT.addI ?_
        rw [← eg]
        exact hR ⟨_, g.le.delI' it2H, h⟩
      · rw [if_neg (of_decide_eq_false h2)] at eg
        refine EsT.nil ?_; refine EsT.nil ?_
        exact hN ⟨⟨_, _, ⟨g.gl, g.gr, g.gs, g.er, (lvRow_len _ _ _ _ _).trans len, eg.symm, g.le.delI' it2H⟩⟩, ((delI_agree H' it2).is it1 n12).trans g.it⟩
    case inner =>
      rw [rg0]
      obtain ⟨hl, hr, hbc, hd, hs, hmn, her, hle, hit⟩ := g
      have es : lvRow Y[i] X i row (j + 1) = lvStep Y[i] X (lvRow Y[i] X i row j) j := by unfold lvRow; rw [List.range_succ, List.foldl_append]; rfl
      have ll : (lvRow Y[i] X i row j).2.2.2.length = X.length := (lvRow_len _ _ _ _ _).trans len
      have xS : X[j] ∈ S9 := oX.2 _ (List.getElem_mem hj)
      generalize lvRow Y[i] X i row j = s at *
      obtain ⟨d, r, mm, rw'⟩ := s
      dsimp only at hd hs hmn her ll
      refine AsT.name (StoreT.local ?_)
      refine EsT.cons ?_; refine ExT.assignName ?_; refine EvT.binOp ?_
      refine EvT.local ?_ (lm (by decide) hd)
      refine EvT.call ?_; refine EvT.global ?_; refine ArgsT.pos ?_; refine ItsT.cons ?_
      refine EvT.local ?_ (lm (by decide) hbc)
      refine ItsT.cons ?_; refine EvT.sub ?_
      refine EvT.local ?_ (lm (by decide) hl.ga)
      refine EvT.local ?_ lh
      refine ⟨trivial, GetT.strN hzX hj (.inl rfl) ?_⟩
      refine ItsT.nil ?_
      refine ⟨.inl (by kernel_rfl), CallT.cal (T_substC (le_up hn) bcS xS ?_)⟩
      refine BinT.addI ?_
      refine StoreT.local ?_
      refine EsT.cons ?_; refine ExT.assignName ?_; refine EvT.sub ?_
      refine EvT.local ?_ (lm (by decide) (lm (by decide) hr))
      refine EvT.local ?_ (lm (by decide) lh)
      have hjr : j < rw'.length := by omega
      refine ⟨SubOk.ls her, GetT.list (v := .int rw'[j] 0) her (nn0 _) (by omega) (by rw [Int.toNat_natCast, digV, List.getElem?_map, List.getElem?_eq_getElem hjr]; rfl) ?_⟩
      refine StoreT.local ?_
      refine EsT.cons ?_; refine ExT.assignName ?_; refine EvT.binOp ?_; refine EvT.call ?_; refine EvT.builtin ?_; refine ArgsT.pos ?_; refine ItsT.cons ?_
      refine EvT.local ?_ (lm (by decide) (lm (by decide) (lm (by decide) hs)))
      refine ItsT.cons ?_
      refine EvT.local ?_ lh
      refine ItsT.nil ?_
      refine ⟨trivial, CalT.min ?_⟩
      refine EvT.global ?_
      refine BinT.addI ?_
      refine StoreT.local ?_
      refine EsT.cons ?_; refine ExT.assignName ?_; refine EvT.call ?_; refine EvT.builtin ?_; refine ArgsT.pos ?_; refine ItsT.cons ?_
      refine EvT.local ?_ lh
      refine ItsT.cons ?_
      refine EvT.local ?_ (lm (by decide) (lm (by decide) lh))
      refine ItsT.nil ?_
      refine ⟨trivial, CalT.min ?_⟩
      refine StoreT.local ?_
      have es2 : lvStep Y[i] X (d, r, mm, rw') j = (rw'[j], (if d + scT Y[i] X[j] < (if rw'[j] < r then rw'[j] else r) + 2 then d + scT Y[i] X[j] else (if rw'[j] < r then rw'[j] else r) + 2), (if (if d + scT Y[i] X[j] < (if rw'[j] < r then rw'[j] else r) + 2 then d + scT Y[i] X[j] else (if rw'[j] < r then rw'[j] else r) + 2) < mm then (if d + scT Y[i] X[j] < (if rw'[j] < r then rw'[j] else r) + 2 then d + scT Y[i] X[j] else (if rw'[j] < r then rw'[j] else r) + 2) else mm), rw'.set j (if d + scT Y[i] X[j] < (if rw'[j] < r then rw'[j] else r) + 2 then d + scT Y[i] X[j] else (if rw'[j] < r then rw'[j] else r) + 2)) := by
        unfold lvStep
        dsimp only
        rw [List.getElem?_eq_getElem hj, List.getElem?_eq_getElem hjr]
        rfl
      rw [es2] at es
      generalize (if d + scT Y[i] X[j] < (if rw'[j] < r then rw'[j] else r) + 2 then d + scT Y[i] X[j] else (if rw'[j] < r then rw'[j] else r) + 2) = res2 at *
      refine EsT.cons ?_; refine ExT.assignT ?_
      refine EvT.local ?_ lh
      refine AsT.item ?_
      refine EvT.local ?_ (lm (by decide) (lm (by decide) (lm (by decide) (lm (by decide) (lm (by decide) hr)))))
      refine EvT.local ?_ (lm (by decide) (lm (by decide) (lm (by decide) (lm (by decide) lh))))
      refine SetIT.list her (nn0 _) (by omega) (by rw [digV, List.length_map]; omega) ?_
      rw [Int.toNat_natCast]
      have eset : (digV rw').set j (.int res2 0) = digV (rw'.set j res2) := by rw [digV, digV, List.map_set]
      rw [eset]
      have fin2 : ∀ lo2 mn, lo2.g "minimum" = some (.int mn 0) → mn = (if res2 < mm then res2 else mm) → LvL lo2 X Y mc → lo2.g "row" = some (.ref R) → lo2.g "bchar" = some (.str ⟨#[Y[i]]⟩ 0) → lo2.g "distance" = some (.int rw'[j] 0) → lo2.g "result" = some (.int res2 0) →
          LvI H3 X Y mc R Y[i] i row it1 (rgS 0 1 Y.length (i + 1)) (j + 1) ⟨lo2, H'.setL R (digV (rw'.set j res2))⟩ := fun lo2 mn q1 q2 q3 q4 q5 q6 q7 =>
        ⟨q3, q4, q5, by rw [es]; exact q6, by rw [es]; exact q7, by rw [es]; show lo2.g "minimum" = some (.int (if res2 < mm then res2 else mm) 0); rw [← q2]; exact q1, by rw [es]; exact setL_hit _ _ _, hle.setL RH, hit⟩
      have hlP : ∀ v1 v2 v3 v4 v5, LvL (lput "result" v5 (lput "insert_delete" v4 (lput "distance" v3 (lput "substitute" v2 (lput "index" v1 lo))))) X Y mc := fun _ _ _ _ _ => (((((hl.put (by decide) (by decide) (by decide)).put (by decide) (by decide) (by decide)).put (by decide) (by decide) (by decide)).put (by decide) (by decide) (by decide)).put (by decide) (by decide) (by decide))
      refine EsT.cons ?_; refine ExT.if ?_; refine IfT.compare ?_
      refine EvT.local ?_ lh
      refine EvT.local ?_ (lm (by decide) (lm (by decide) (lm (by decide) (lm (by decide) (lm (by decide) hmn)))))
      refine CmpT.ltI (TruT.bool (ifB (fun h2 => ?_) fun h2 => ?_))
      · refine EsT.cons ?_; refine ExT.assignName ?_
        refine EvT.local ?_ lh
        refine StoreT.local ?_; refine EsT.nil ?_; refine EsT.nil ?_
        exact hN2 ⟨fin2 _ res2 lh (by rw [if_pos (of_decide_eq_true h2)]) ((hlP _ _ _ _ _).put (by decide) (by decide) (by decide)) (lm (by decide) (lm (by decide) (lm (by decide) (lm (by decide) (lm (by decide) (lm (by decide) hr)))))) (lm (by decide) (lm (by decide) (lm (by decide) (lm (by decide) (lm (by decide) (lm (by decide) hbc)))))) (lm (by decide) (lm (by decide) (lm (by decide) lh))) (lm (by decide) lh), ej⟩
      · refine EsT.nil ?_; refine EsT.nil ?_
        exact hN2 ⟨fin2 _ mm (lm (by decide) (lm (by decide) (lm (by decide) (lm (by decide) (lm (by decide) hmn))))) (by rw [if_neg (of_decide_eq_false h2)]) (hlP _ _ _ _ _) (lm (by decide) (lm (by decide) (lm (by decide) (lm (by decide) (lm (by decide) hr))))) (lm (by decide) (lm (by decide) (lm (by decide) (lm (by decide) (lm (by decide) hbc))))) (lm (by decide) (lm (by decide) lh)) lh, ej⟩

noncomputable def chL (num : Nat) : List Nat := ((if num / 8 = 1 then [34] else if num / 8 = 2 then [32] else []) ++ [chAt num 0, chAt num 1, chAt num 2]) ++ (if num / 8 = 2 then [92] else [])
theorem chipW_eq (num : Nat) : chipW num = strL (chL num) := by
  unfold chipW chL
  exact (congrArg (· ++ _) (strL_app _ _)).trans (strL_app _ _)
noncomputable def price (num : Nat) : Int := (((num % 2 + num / 2 % 2 + num / 4 % 2) + 2 * (num / 8) : Nat) : Int)
noncomputable def abcL : List Nat := [97, 98, 99]
noncomputable def boundAt (k : Nat) : Int := if k / 2 = 0 then -1 else if k / 2 = 1 then 0 else 39
noncomputable def levAt (k num : Nat) : Int := if k % 2 = 1 then lev (chL num) abcL (price num + boundAt k) else lev abcL (chL num) (price num + boundAt k)
theorem levAt_eq : ∀ k : Fin 6, ∀ num : Fin 24, levAt k num = price num := by decide +kernel
theorem chL_ok : ∀ num : Fin 24, (chL num).length ≤ 10 ∧ (chL num) ≠ [] ∧ (∀ c ∈ chL num, c ∈ S9) ∧ ∀ c ∈ chL num, c ≠ 10 ∧ c ≠ 9 ∧ c ≠ 13 ∧ c < 1000 := by decide +kernel
theorem chL_inj : ∀ a b : Fin 24, chL a = chL b → a = b := by decide +kernel
theorem chL_okW {num : Nat} (h : num < 24) : okW (chL num) := let q := chL_ok ⟨num, h⟩; ⟨q.2.1, q.1, q.2.2.2⟩
theorem chL_lvOk {num : Nat} (h : num < 24) : lvOk (chL num) := let q := chL_ok ⟨num, h⟩; ⟨q.1, q.2.2.1⟩
theorem lput_len (x : Str) (v : Value) : ∀ kv : Lo, (lput x v kv).length ≤ kv.length + 1
  | [] => by simp [lput]
  | p :: r => by
    unfold lput
    split
    · simp
    · have := lput_len x v r; simp; omega
structure FarG (H : AH) (WL PL FD : Addr) (nums : List Nat) (i : Nat) (st : St) : Prop where
  gw : st.lo.g "words" = some (.ref WL)
  gp : st.lo.g "prices" = some (.ref PL)
  gf : st.lo.g "far" = some (.ref FD)
  le : AHle H st.H
  fd : ∃ kv, st.H.ds FD = some kv ∧ kv.length ≤ i ∧ ∀ j num, nums[j]? = some num → j < i → kv.lookup (strL (chL num)) = some (.int (price num) 0)

set_option maxHeartbeats 4000000 in
theorem T_lawFar {WL PL : Addr} {nums : List Nat} {H : AH} {Q : Value → AH → Prop} (hn : n ≤ 30) (hw : nums.length = 6) (h24 : ∀ x ∈ nums, x < 24) (ew : H.ls WL = some (nums.map fun x => tokS (chL x))) (ep : H.ls PL = some (nums.map fun x => .int (price x) 0))
    (h : ∀ H' FD kv, AHle H H' → ¬ H.dom FD → H'.ds FD = some kv → (∀ num ∈ nums, kv.lookup (strL (chL num)) = some (.int (price num) 0)) → Q (.ref FD) H') : CallT w h₀ n (.ref 163) [.ref WL, .ref PL] [] H Q := by
  refine CallT.base (binds := [("words", .ref WL), ("prices", .ref PL)]) ⟨_, _, _, _, _, _, _, rfl, rfl, rfl, rfl⟩ (fun a' k' e2 e3 s I => ?_) (fun L hL => ?_) (by omega)
  · obtain ⟨x', y', rfl, ex, ey⟩ := map2 e2
    rw [kw0 e3]
    exact ⟨[("words", x'), ("prices", y')], .of_eq rfl, by simp [ex, ey]⟩
  refine BdT.loc (BdT.loc (BdT.nil (BodyT.stmts ?_)))
  show EsT w h₀ _ _ ⟨_, H⟩ _
  refine EsT.cons ?_; refine ExT.assignName ?_
  refine EvT.dictNil fun FD hFD => ?_
  refine StoreT.local ?_
  refine EsT.cons ?_
  refine ExT.for ?_
  refine EvT.call ?_; refine EvT.builtin ?_; refine ArgsT.pos ?_; refine ItsT.cons ?_; refine EvT.int ?_; refine ItsT.nil ?_
  refine ⟨trivial, CalT.range1 fun rg hrg => ?_⟩
  refine ItrT.rng (setI_hit _ _ _) (by decide) fun it hit => ?_
  have l1 : AHle H (H.setD FD []) := AHle.setD .refl hFD
  have l2 : AHle H (((H.setD FD []).setI rg (.rng 0 6 1)).setI it (.range 0 6 1)) := AHle.setI (AHle.setI l1 fun d => hrg (dom_setD d)) fun d => hit (dom_setI (dom_setD d))
  have itH : ¬ H.dom it := fun d => hit (dom_setI (dom_setD d))
  refine for_src (K := fun _ _ => True) (m := 6) (FarG H WL PL FD nums) (Src.range 0 1) (fun _ _ _ => trivial) ⟨rfl, rfl, rfl, l2, [], setD_hit _ _ _, Nat.le_refl _, fun j num _ hj => absurd hj (Nat.not_lt_zero _)⟩ (setI_hit _ _ _) (fun i lo H' x g => ⟨g.gw, g.gp, g.gf, g.le.setI itH, g.fd⟩) (fun i lo H' hi g ei N hN hC hB hR => ?turn) (fun lo H' g => ?rest)
  case turn =>
    obtain ⟨gw, gp, gf, gle, kv, efd, kvl, hkv⟩ := g
    rw [rg0]
    refine AsT.name (StoreT.local ?_)
    have hi' : i < nums.length := by omega
    have n24 := h24 nums[i] (List.getElem_mem hi')
    have eWL := gle.ls _ _ ew
    have ePL := gle.ls _ _ ep
    have egw : (nums.map fun x => tokS (chL x))[i]? = some (.str (strL (chL nums[i])) 0) := by rw [List.getElem?_map, List.getElem?_eq_getElem hi']; rfl
    have egp : (nums.map fun x => Value.int (price x) 0)[i]? = some (.int (price nums[i]) 0) := by rw [List.getElem?_map, List.getElem?_eq_getElem hi']; rfl
    refine EsT.cons ?_; refine ExT.assignName ?_; refine EvT.binOp ?_; refine EvT.sub ?_
    refine EvT.local ?_ (lm (by decide) gp)
    refine EvT.local ?_ lh
    refine ⟨SubOk.ls ePL, GetT.list ePL (nn0 _) (by omega) (by rw [Int.toNat_natCast]; exact egp) ?_⟩
    refine EvT.sub ?_; refine EvT.list ?_; refine ItsT.cons ?_; refine EvT.unaryOp ?_; refine EvT.int ?_
    refine UnT.negI ?_
    refine ItsT.cons ?_; refine EvT.int ?_; refine ItsT.cons ?_; refine EvT.int ?_; refine ItsT.nil ?_
    refine ⟨by rw [sizeLine_eq]; simp, fun B3 hB3 => ?_⟩
    refine EvT.binOp ?_
    refine EvT.local ?_ lh
    refine EvT.int ?_
    refine BinT.divI ?_ (by decide) (by decide)
    have hd : (i : Int).fdiv 2 = ((i / 2 : Nat) : Int) := by rw [Int.fdiv_eq_ediv_of_nonneg _ (by decide)]; rfl
    rw [hd]
    have lB : AHle H' (H'.setL B3 [.int (-1) 0, .int 0 0, .int 39 0]) := AHle.setL .refl hB3
    refine ⟨SubOk.ls (setL_hit _ _ _), GetT.list (v := .int (boundAt i) 0) (setL_hit _ _ _) (nn0 _) (by omega) (by
      rw [Int.toNat_natCast]
      have : ∀ k : Fin 6, ([.int (-1) 0, .int 0 0, .int 39 0] : List Value)[k.1 / 2]? = some (.int (boundAt k.1) 0) := by intro k; match k with | 0 => rfl | 1 => rfl | 2 => rfl | 3 => rfl | 4 => rfl | 5 => rfl
      exact this ⟨i, hi⟩) ?_⟩
    refine BinT.addI ?_
    refine StoreT.local ?_
    have fd2 : (H'.setL B3 [.int (-1) 0, .int 0 0, .int 39 0]).ds FD = some kv := efd
    have eW2 := lB.ls _ _ eWL
    have i2 := lB.is _ _ ei
    have le2 := gle.trans lB
    have FDH : ¬ H.dom FD := hFD
    change EsT w h₀ _ _ ⟨_, H'.setL B3 [.int (-1) 0, .int 0 0, .int 39 0]⟩ _
    generalize H'.setL B3 [.int (-1) 0, .int 0 0, .int 39 0] = H2 at *
    have lva := levAt_eq ⟨i, hi⟩ ⟨nums[i], n24⟩
    have done : FarG H WL PL FD nums (i + 1) ⟨lput "bound" (.int (price nums[i] + boundAt i) 0) (lput "k" (.int i 0) lo), H2.setD FD (lput (strL (chL nums[i])) (.int (price nums[i]) 0) kv)⟩ := by
      refine ⟨lm (by decide) (lm (by decide) gw), lm (by decide) (lm (by decide) gp), lm (by decide) (lm (by decide) gf), le2.setD FDH, _, setD_hit _ _ _, Nat.le_trans (lput_len _ _ _) (by omega), fun j num ej hj => ?_⟩
      refine (lput_lookup _ _ _ _).trans ?_
      by_cases hji : j = i
      · subst hji
        rw [List.getElem?_eq_getElem hi'] at ej
        cases ej
        rw [if_pos rfl]
      · split
        · rename_i e
          have e2 : chL num = chL nums[i] := by
            have := congrArg (fun s : Str => s.cps.toList) e
            exact this
          have hnum : num < 24 := h24 num (List.mem_of_getElem? ej)
          have := chL_inj ⟨num, hnum⟩ ⟨nums[i], n24⟩ e2
          have : num = nums[i] := congrArg Fin.val this
          rw [this]
        · exact hkv j num ej (by omega)
    refine EsT.cons ?_; refine ExT.if ?_; refine IfT.plain ?_; refine EvT.binOp ?_
    refine EvT.local ?_ (lm (by decide) lh)
    refine EvT.int ?_
    refine BinT.modI ?_ (by decide)
    refine TruT.int (ifB (fun hc => ?_) fun hc => ?_)
    · have hk : i % 2 = 1 := by
        simp only [bne_iff_ne, ne_eq] at hc
        rw [Int.fmod_eq_emod_of_nonneg _ (by decide)] at hc
        omega
      have lva' : lev (chL nums[i]) abcL (price nums[i] + boundAt i) = price nums[i] := by
        have q : (if i % 2 = 1 then lev (chL nums[i]) abcL (price nums[i] + boundAt i) else lev abcL (chL nums[i]) (price nums[i] + boundAt i)) = price nums[i] := lva
        rwa [if_pos hk] at q
      refine EsT.cons ?_; refine ExT.assignT ?_; refine EvT.call ?_; refine EvT.global ?_; refine ArgsT.pos ?_; refine ItsT.cons ?_; refine EvT.sub ?_
      refine EvT.local ?_ (lm (by decide) (lm (by decide) gw))
      refine EvT.local ?_ (lm (by decide) lh)
      refine ⟨SubOk.ls eW2, GetT.list eW2 (nn0 _) (by omega) (by rw [Int.toNat_natCast]; exact egw) ?_⟩
      refine ItsT.cons ?_; refine EvT.str ?_; refine ItsT.cons ?_
      refine EvT.local ?_ lh
      refine ItsT.nil ?_
      refine ⟨.inl (by kernel_rfl), CallT.cal (T_lev (a := chL nums[i]) (b := abcL) (le_up hn) (chL_lvOk n24) ⟨by decide, by decide⟩ ?_)⟩
      rw [lva']
      refine AsT.item ?_
      refine EvT.local ?_ (lm (by decide) (lm (by decide) gf))
      refine EvT.sub ?_
      refine EvT.local ?_ (lm (by decide) (lm (by decide) gw))
      refine EvT.local ?_ (lm (by decide) lh)
      refine ⟨SubOk.ls eW2, GetT.list eW2 (nn0 _) (by omega) (by rw [Int.toNat_natCast]; exact egw) ?_⟩
      refine SetIT.dict fd2 (by omega) ?_
      refine EsT.nil ?_; refine EsT.nil ?_
      exact hN ⟨done, i2⟩
    · have hk : ¬ i % 2 = 1 := by
        simp only [bne_eq_false_iff_eq] at hc
        rw [Int.fmod_eq_emod_of_nonneg _ (by decide)] at hc
        omega
      have lva' : lev abcL (chL nums[i]) (price nums[i] + boundAt i) = price nums[i] := by
        have q : (if i % 2 = 1 then lev (chL nums[i]) abcL (price nums[i] + boundAt i) else lev abcL (chL nums[i]) (price nums[i] + boundAt i)) = price nums[i] := lva
        rwa [if_neg hk] at q
      refine EsT.cons ?_; refine ExT.assignT ?_; refine EvT.call ?_; refine EvT.global ?_; refine ArgsT.pos ?_; refine ItsT.cons ?_; refine EvT.str ?_; refine ItsT.cons ?_; refine EvT.sub ?_
      refine EvT.local ?_ (lm (by decide) (lm (by decide) gw))
      refine EvT.local ?_ (lm (by decide) lh)
      refine ⟨SubOk.ls eW2, GetT.list eW2 (nn0 _) (by omega) (by rw [Int.toNat_natCast]; exact egw) ?_⟩
      refine ItsT.cons ?_
      refine EvT.local ?_ lh
      refine ItsT.nil ?_
      refine ⟨.inl (by kernel_rfl), CallT.cal (T_lev (a := abcL) (b := chL nums[i]) (le_up hn) ⟨by decide, by decide⟩ (chL_lvOk n24) ?_)⟩
      rw [lva']
      refine AsT.item ?_
      refine EvT.local ?_ (lm (by decide) (lm (by decide) gf))
      refine EvT.sub ?_
      refine EvT.local ?_ (lm (by decide) (lm (by decide) gw))
      refine EvT.local ?_ (lm (by decide) lh)
      refine ⟨SubOk.ls eW2, GetT.list eW2 (nn0 _) (by omega) (by rw [Int.toNat_natCast]; exact egw) ?_⟩
      refine SetIT.dict fd2 (by omega) ?_
      refine EsT.nil ?_; refine EsT.nil ?_
      exact hN ⟨done, i2⟩
  case rest =>
    obtain ⟨gw, gp, gf, gle, kv, efd, kvl, hkv⟩ := g
    refine EsT.nil ?_
    refine EsT.cons ?_; refine ExT.return ?_
    refine EvT.local ?_ gf
    refine h _ FD kv (gle.delI' itH) hFD efd fun num hnum => ?_
    obtain ⟨j, hj⟩ := List.getElem?_of_mem hnum
    exact hkv j num hj (by have := (List.getElem?_eq_some_iff.mp hj).1; omega)

noncomputable def up {α : Type} (f : Nat → α) (p : Nat) (v : α) : Nat → α := fun k => if k = p then v else f k
theorem up_hit {α : Type} (f : Nat → α) (p : Nat) (v : α) : up f p v p = v := if_pos rfl
theorem up_miss {α : Type} {f : Nat → α} {p k : Nat} {v : α} (h : k ≠ p) : up f p v k = f k := if_neg h
theorem up_up {α : Type} (f : Nat → α) (p : Nat) (v u : α) : up (up f p v) p u = up f p u := by
  funext k; unfold up; split <;> rfl
theorem up_id {α : Type} (f : Nat → α) (p : Nat) : up f p (f p) = f := by
  funext k; unfold up; split
  · rename_i h; rw [h]
  · rfl
noncomputable abbrev Sta := List Nat × List Nat
noncomputable def updL (l : List Nat) (p x y : Nat) : List Nat := (List.range 7).map fun k => if k = p then (l[k]?.getD 0) - (x + y) else if k + 1 = p then (l[k]?.getD 0) + x else if k = p + 1 then (l[k]?.getD 0) + y else l[k]?.getD 0
noncomputable def succs (s : Sta) : List Sta := [1, 2, 3, 4, 5].flatMap fun p => [(1, 1), (1, 0), (0, 0)].flatMap fun (x, y) =>
  if x + y ≤ s.1[p]?.getD 0 ∧ 2 ≤ (s.2[p]?.getD 0) + (x + y) then [(updL s.1 p x y, updL s.2 p (1 - x) (1 - y))] else []
noncomputable def dd : List Sta → List Sta
  | [] => []
  | s :: l => if s ∈ dd l then dd l else s :: dd l
theorem mem_dd {s : Sta} : ∀ {l : List Sta}, s ∈ l → s ∈ dd l
  | [], h => h
  | a :: l, h => by
    unfold dd
    rcases List.mem_cons.mp h with rfl | h
    · split
      · assumption
      · exact .head _
    · split
      · exact mem_dd h
      · exact .tail _ (mem_dd h)
noncomputable def startS (m : Nat) : Sta := ([0, 0, 0, m, 0, 0, 0], [0, 0, 0, 6 - m, 0, 0, 0])
noncomputable def layer (m : Nat) : Nat → List Sta
  | 0 => [startS m]
  | t + 1 => dd ((layer m t).flatMap succs)
noncomputable def lastS (m : Nat) : Sta := ((List.range 7).map fun k => if k = 3 then 0 else if (if k < 3 then k else k - 1) < m then 1 else 0, (List.range 7).map fun k => if k = 3 then 0 else if (if k < 3 then k else k - 1) < m then 0 else 1)
theorem layer_last : ∀ m : Fin 7, ∀ s ∈ layer m 14, s = lastS m := by decide +kernel
noncomputable def ownersL (c : List Nat) : List Nat := [1, 2, 3, 4, 5].flatMap fun k => if 1 < c[k]?.getD 0 then List.replicate (c[k]?.getD 0) k else []
noncomputable def placesL (c : List Nat) : List Nat := [1, 2, 3, 4, 5].filter fun k => decide (k ∈ ownersL c)
noncomputable def startsL (c : List Nat) : List Nat := (placesL c).map fun k => (ownersL c).idxOf k
structure OwnOk (c : List Nat) : Prop where
  two : 2 ≤ (ownersL c).length
  six : (ownersL c).length ≤ 6
  srt : (startsL c).Pairwise (· ≤ ·)
  ch : ∀ ch < (ownersL c).length, ∃ p, (ownersL c)[ch]? = some p ∧ 1 ≤ p ∧ p ≤ 5 ∧ 1 ≤ (startsL c).countP (· ≤ ch) ∧ (placesL c)[(startsL c).countP (· ≤ ch) - 1]? = some p ∧ (ownersL c).idxOf p ≤ ch ∧ 2 ≤ c[p]?.getD 0
noncomputable def ownB (c : List Nat) : Bool := decide (2 ≤ (ownersL c).length) && decide ((ownersL c).length ≤ 6) && decide ((startsL c).Pairwise (· ≤ ·)) &&
  (List.range (ownersL c).length).all fun ch => match (ownersL c)[ch]? with
    | some p => decide (1 ≤ p) && decide (p ≤ 5) && decide (1 ≤ (startsL c).countP (· ≤ ch)) && decide ((placesL c)[(startsL c).countP (· ≤ ch) - 1]? = some p) && decide ((ownersL c).idxOf p ≤ ch) && decide (2 ≤ c[p]?.getD 0)
    | none => false
theorem ownB_ok {c : List Nat} (h : ownB c = true) : OwnOk c := by
  unfold ownB at h
  simp only [Bool.and_eq_true, decide_eq_true_eq, List.all_eq_true, List.mem_range] at h
  refine ⟨h.1.1.1, h.1.1.2, h.1.2, fun ch hc => ?_⟩
  have := h.2 ch hc
  cases e : (ownersL c)[ch]? with
  | none => rw [e] at this; simp at this
  | some p =>
    rw [e] at this
    simp only [Bool.and_eq_true, decide_eq_true_eq] at this
    exact ⟨p, rfl, this.1.1.1.1.1, this.1.1.1.1.2, this.1.1.1.2, this.1.1.2, this.1.2, this.2⟩
theorem layer_own : ∀ t : Fin 14, ∀ s ∈ layer 6 t, ownB s.1 = true := by decide +kernel

noncomputable def cntF (f : Nat → Bool) (q : Nat → List Nat) : List Nat := (List.range 7).map fun k => (q k).countP f
theorem cntF_at (f : Nat → Bool) (q : Nat → List Nat) {k : Nat} (hk : k < 7) : (cntF f q)[k]?.getD 0 = (q k).countP f := by
  unfold cntF; simp [hk]
noncomputable def lft (a b : Nat) : Nat := if price b < price a then b else a
noncomputable def rgt (a b : Nat) : Nat := if price b < price a then a else b
noncomputable def fireQ (q : Nat → List Nat) (p a b : Nat) (rest : List Nat) : Nat → List Nat := fun k => if k = p then rest else if k + 1 = p then q k ++ [lft a b] else if k = p + 1 then q k ++ [rgt a b] else q k
noncomputable def b2n (b : Bool) : Nat := if b then 1 else 0
theorem cntF_fire (f : Nat → Bool) {q : Nat → List Nat} {p a b : Nat} {rest : List Nat} (hp : (q p).Perm (a :: b :: rest)) (h7 : p < 7) :
    cntF f (fireQ q p a b rest) = updL (cntF f q) p (b2n (f (lft a b))) (b2n (f (rgt a b))) ∧ b2n (f (lft a b)) + b2n (f (rgt a b)) ≤ (q p).countP f := by
  have e : (q p).countP f = b2n (f (lft a b)) + b2n (f (rgt a b)) + rest.countP f := by
    rw [hp.countP_eq]
    unfold lft rgt b2n
    rw [List.countP_cons, List.countP_cons]
    by_cases hpr : price b < price a
    · rw [if_pos hpr, if_pos hpr]; omega
    · rw [if_neg hpr, if_neg hpr]; omega
  refine ⟨?_, by omega⟩
  unfold updL
  rw [cntF]
  refine List.map_congr_left fun k hk => ?_
  rw [List.mem_range] at hk
  rw [cntF_at f q hk]
  unfold fireQ
  by_cases h1 : k = p
  · subst h1; rw [if_pos rfl, if_pos rfl]; omega
  · rw [if_neg h1, if_neg h1]
    by_cases h2 : k + 1 = p
    · rw [if_pos h2, if_pos h2, List.countP_append, List.countP_singleton]; rfl
    · rw [if_neg h2, if_neg h2]
      by_cases h3 : k = p + 1
      · rw [if_pos h3, if_pos h3, List.countP_append, List.countP_singleton]; rfl
      · rw [if_neg h3, if_neg h3]
noncomputable def thr (t : Int) (x : Nat) : Bool := decide (price x ≤ t)
noncomputable def cnt (t : Int) (q : Nat → List Nat) : Sta := (cntF (thr t) q, cntF (fun x => !thr t x) q)
theorem cnt_fire (t : Int) {q : Nat → List Nat} {p a b : Nat} {rest : List Nat} (hp : (q p).Perm (a :: b :: rest)) (h1 : 1 ≤ p) (h5 : p ≤ 5) : cnt t (fireQ q p a b rest) ∈ succs (cnt t q) := by
  obtain ⟨e1, l1⟩ := cntF_fire (thr t) hp (by omega)
  obtain ⟨e2, l2⟩ := cntF_fire (fun x => !thr t x) hp (by omega)
  have hle : price (lft a b) ≤ price (rgt a b) := by unfold lft rgt; split <;> omega
  have nn : ∀ x, b2n (!thr t x) = 1 - b2n (thr t x) := fun x => by unfold b2n; cases thr t x <;> rfl
  rw [nn, nn] at e2 l2
  unfold succs
  rw [List.mem_flatMap]
  refine ⟨p, ?_, ?_⟩
  · have : p = 1 ∨ p = 2 ∨ p = 3 ∨ p = 4 ∨ p = 5 := by omega
    rcases this with rfl | rfl | rfl | rfl | rfl <;> simp
  · rw [List.mem_flatMap]
    refine ⟨(b2n (thr t (lft a b)), b2n (thr t (rgt a b))), ?_, ?_⟩
    · by_cases hl : thr t (lft a b) = true
      · by_cases hr : thr t (rgt a b) = true <;> simp [b2n, hl, hr]
      · have hr : thr t (rgt a b) = false := by
          unfold thr at hl ⊢
          rw [decide_eq_true_eq] at hl
          exact decide_eq_false (by omega)
        simp [b2n, hl, hr]
    · have g1 := cntF_at (thr t) q (k := p) (by omega)
      have g2 := cntF_at (fun x => !thr t x) q (k := p) (by omega)
      have x1 : b2n (thr t (lft a b)) ≤ 1 := by unfold b2n; split <;> omega
      have y1 : b2n (thr t (rgt a b)) ≤ 1 := by unfold b2n; split <;> omega
      show cnt t (fireQ q p a b rest) ∈ if _ then _ else _
      rw [if_pos ⟨by show _ ≤ (cntF (thr t) q)[p]?.getD 0; omega, by show 2 ≤ (cntF (fun x => !thr t x) q)[p]?.getD 0 + _; omega⟩]
      rw [List.mem_singleton]
      exact Prod.ext e1 e2
noncomputable def totF (f : Nat → Bool) (q : Nat → List Nat) : Nat := (cntF f q).sum
theorem updL_sum {l : List Nat} {p x y : Nat} (hl : l.length = 7) (h1 : 1 ≤ p) (h5 : p ≤ 5) (hx : x + y ≤ l[p]?.getD 0) : (updL l p x y).sum = l.sum := by
  obtain ⟨a, b, c, d, e, f, g, rfl⟩ := len7 hl
  · have : p = 1 ∨ p = 2 ∨ p = 3 ∨ p = 4 ∨ p = 5 := by omega
    rcases this with rfl | rfl | rfl | rfl | rfl <;> simp [updL, List.range_succ] at hx ⊢ <;> omega
theorem totF_fire (f : Nat → Bool) {q : Nat → List Nat} {p a b : Nat} {rest : List Nat} (hp : (q p).Perm (a :: b :: rest)) (h1 : 1 ≤ p) (h5 : p ≤ 5) : totF f (fireQ q p a b rest) = totF f q := by
  obtain ⟨e1, l1⟩ := cntF_fire f hp (by omega)
  unfold totF
  rw [e1, updL_sum (by simp [cntF]) h1 h5 (by rw [cntF_at f q (by omega)]; exact l1)]

theorem le_sum_mem {x : Nat} : ∀ {l : List Nat}, x ∈ l → x ≤ l.sum
  | a :: l, h => by
    rw [List.sum_cons]
    rcases List.mem_cons.mp h with rfl | h
    · omega
    · have := le_sum_mem h; omega
/-- the queues after t firings -/
structure Pur (nums : List Nat) (t : Nat) (q : Nat → List Nat) : Prop where
  lay : ∀ u : Int, cnt u q ∈ layer (nums.countP (thr u)) t
  tot : ∀ f, totF f q = nums.countP f
noncomputable def q0 (nums : List Nat) : Nat → List Nat := fun k => if k = 3 then nums else []
theorem Pur.zero {nums : List Nat} (h : nums.length = 6) : Pur nums 0 (q0 nums) := by
  refine ⟨fun u => ?_, fun f => ?_⟩
  · show _ ∈ [startS _]
    rw [List.mem_singleton]
    have e := List.length_eq_countP_add_countP (thr u) (l := nums)
    have e2 : nums.countP (fun x => !thr u x) = 6 - nums.countP (thr u) := by
      have : (fun x => decide ¬(thr u x = true)) = fun x => !thr u x := by funext x; cases thr u x <;> rfl
      rw [this] at e; omega
    unfold cnt startS cntF q0
    simp [List.range_succ, e2]
  · unfold totF cntF q0
    simp [List.range_succ]
theorem Pur.fire {nums : List Nat} {t : Nat} {q : Nat → List Nat} (P : Pur nums t q) {p a b : Nat} {rest : List Nat} (hp : (q p).Perm (a :: b :: rest)) (h1 : 1 ≤ p) (h5 : p ≤ 5) : Pur nums (t + 1) (fireQ q p a b rest) :=
  ⟨fun u => mem_dd (List.mem_flatMap.mpr ⟨_, P.lay u, cnt_fire u hp h1 h5⟩), fun f => (totF_fire f hp h1 h5).trans (P.tot f)⟩
theorem Pur.mem {nums : List Nat} {t : Nat} {q : Nat → List Nat} (P : Pur nums t q) {k x : Nat} (hk : k < 7) (hx : x ∈ q k) : x ∈ nums := by
  have h1 := P.tot (· == x)
  have h2 : 0 < (q k).countP (· == x) := List.countP_pos_iff.mpr ⟨x, hx, by simp⟩
  have h3 : (q k).countP (· == x) ≤ totF (· == x) q := by
    unfold totF
    have : (q k).countP (· == x) ∈ cntF (· == x) q := List.mem_map.mpr ⟨k, List.mem_range.mpr hk, rfl⟩
    exact le_sum_mem this
  have h4 : 0 < nums.countP (· == x) := by omega
  obtain ⟨y, hy, e⟩ := List.countP_pos_iff.mp h4
  have : y = x := by simpa using e
  exact this ▸ hy
noncomputable def lens (q : Nat → List Nat) : List Nat := (List.range 7).map fun k => (q k).length
theorem Pur.own {nums : List Nat} {t : Nat} {q : Nat → List Nat} (P : Pur nums t q) (hl : nums.length = 6) (h24 : ∀ x ∈ nums, x < 24) (ht : t < 14) : OwnOk (lens q) := by
  have big : ∀ x ∈ nums, thr 100 x = true := fun x hx => decide_eq_true (by have := h24 x hx; unfold price; omega)
  have e1 : nums.countP (thr 100) = 6 := by rw [List.countP_eq_length.mpr big, hl]
  have e2 : (cnt 100 q).1 = lens q := by
    unfold cnt cntF lens
    refine List.map_congr_left fun k hk => ?_
    exact List.countP_eq_length.mpr fun x hx => big x (P.mem (List.mem_range.mp hk) hx)
  have h := P.lay 100
  rw [e1] at h
  have := layer_own ⟨t, ht⟩ _ h
  rw [e2] at this
  exact ownB_ok this

/-- the end: one word at each place but the middle, told by price -/
structure Ended (nums : List Nat) (q : Nat → List Nat) (e : List Nat) : Prop where
  q0 : q 0 = [e[0]?.getD 0]
  q1 : q 1 = [e[1]?.getD 0]
  q2 : q 2 = [e[2]?.getD 0]
  q3 : q 3 = []
  q4 : q 4 = [e[3]?.getD 0]
  q5 : q 5 = [e[4]?.getD 0]
  q6 : q 6 = [e[5]?.getD 0]
  len : e.length = 6
  perm : e.Perm nums
  srt : (e.map price).Pairwise (· ≤ ·)
theorem one_of {l : List Nat} (h : l.length = 1) : ∃ x, l = [x] := by
  match l, h with
  | [x], _ => exact ⟨x, rfl⟩
theorem Pur.end {nums : List Nat} {q : Nat → List Nat} (P : Pur nums 14 q) (hl : nums.length = 6) (h24 : ∀ x ∈ nums, x < 24) : ∃ e, Ended nums q e := by
  have cle : ∀ u, nums.countP (thr u) < 7 := fun u => by have := List.countP_le_length (p := thr u) (l := nums); omega
  have ls : ∀ u, cnt u q = lastS (nums.countP (thr u)) := fun u => layer_last ⟨_, cle u⟩ _ (P.lay u)
  have big : ∀ x ∈ nums, thr 100 x = true := fun x hx => decide_eq_true (by have := h24 x hx; unfold price; omega)
  have e1 : nums.countP (thr 100) = 6 := by rw [List.countP_eq_length.mpr big, hl]
  have el : ∀ k, k < 7 → (q k).length = if k = 3 then 0 else 1 := fun k hk => by
    have h1 := congrArg (fun s : Sta => s.1[k]?.getD 0) (ls 100)
    have h2 : (cnt 100 q).1[k]?.getD 0 = (q k).length := by
      show (cntF (thr 100) q)[k]?.getD 0 = _
      rw [cntF_at _ _ hk]
      exact List.countP_eq_length.mpr fun x hx => big x (P.mem hk hx)
    rw [← h2]
    refine h1.trans ?_
    rw [e1]
    have : ∀ k : Fin 7, ((lastS 6).1[k.1]?.getD 0) = if k.1 = 3 then 0 else 1 := by decide
    exact this ⟨k, hk⟩
  obtain ⟨x0, h0⟩ := one_of (el 0 (by decide))
  obtain ⟨x1, h1⟩ := one_of (el 1 (by decide))
  obtain ⟨x2, h2⟩ := one_of (el 2 (by decide))
  have h3 : q 3 = [] := List.length_eq_zero_iff.mp (el 3 (by decide))
  obtain ⟨x4, h4⟩ := one_of (el 4 (by decide))
  obtain ⟨x5, h5⟩ := one_of (el 5 (by decide))
  obtain ⟨x6, h6⟩ := one_of (el 6 (by decide))
  refine ⟨[x0, x1, x2, x4, x5, x6], h0, h1, h2, h3, h4, h5, h6, rfl, ?_, ?_⟩
  · refine List.perm_iff_count.mpr fun x => ?_
    have := P.tot (· == x)
    rw [List.count_eq_countP, List.count_eq_countP, ← this]
    unfold totF cntF
    simp [List.range_succ, h0, h1, h2, h3, h4, h5, h6, List.countP_cons]
    omega
  · -- a word is not dearer than one to its right
    have key : ∀ i j x y, i < j → j < 7 → q i = [x] → q j = [y] → price x ≤ price y := fun i j x y hij hj hx hy => by
      refine Classical.byContradiction fun hn => ?_
      have hlt : price y < price x := by omega
      have a1 := congrArg (fun s : Sta => s.1[i]?.getD 0) (ls (price y))
      have a2 := congrArg (fun s : Sta => s.1[j]?.getD 0) (ls (price y))
      have b1 : (cnt (price y) q).1[i]?.getD 0 = 0 := by
        show (cntF (thr (price y)) q)[i]?.getD 0 = _
        rw [cntF_at _ _ (by omega), hx]
        simp [thr]; omega
      have b2 : (cnt (price y) q).1[j]?.getD 0 = 1 := by
        show (cntF (thr (price y)) q)[j]?.getD 0 = _
        rw [cntF_at _ _ hj, hy]
        simp [thr]
      have c1 := b1.symm.trans a1
      have c2 := b2.symm.trans a2
      have hm := cle (price y)
      generalize nums.countP (thr (price y)) = m at *
      have i3 : i ≠ 3 := fun e => by subst e; rw [h3] at hx; cases hx
      have : ∀ m i j : Fin 7, i.1 ≠ 3 → i.1 < j.1 → 0 = ((lastS m.1).1[i.1]?.getD 0) → 1 = ((lastS m.1).1[j.1]?.getD 0) → False := by decide +kernel
      exact this ⟨m, hm⟩ ⟨i, by omega⟩ ⟨j, hj⟩ i3 hij c1 c2
    have k01 := key 0 1 x0 x1 (by decide) (by decide) h0 h1
    have k12 := key 1 2 x1 x2 (by decide) (by decide) h1 h2
    have k24 := key 2 4 x2 x4 (by decide) (by decide) h2 h4
    have k45 := key 4 5 x4 x5 (by decide) (by decide) h4 h5
    have k56 := key 5 6 x5 x6 (by decide) (by decide) h5 h6
    simp
    omega

noncomputable def wq (l : List Nat) : List Value := l.map fun x => tokS (chL x)
theorem wq_app (l m : List Nat) : wq (l ++ m) = wq l ++ wq m := List.map_append ..
theorem wq_len (l : List Nat) : (wq l).length = l.length := List.length_map ..
noncomputable def refs7 (X : Nat → Addr) : List Value := (List.range 7).map fun k => .ref (X k)
theorem refs7_at (X : Nat → Addr) {k : Nat} (hk : k < 7) : (refs7 X)[k]? = some (.ref (X k)) := by unfold refs7; simp [hk]
theorem refs7_set (X : Nat → Addr) {p : Nat} (t : Addr) : (refs7 X).set p (.ref t) = refs7 (up X p t) := by
  apply List.ext_getElem?
  intro k
  unfold refs7 up
  rw [List.getElem?_set]
  by_cases h : p = k
  · subst h
    by_cases h7 : p < 7 <;> simp [h7]
  · rw [if_neg h]
    by_cases h7 : k < 7
    · simp [h7, Ne.symm h]
    · simp [h7]
structure Lx7 (H : AH) (a : Nat → LexA) (X : Nat → Addr) (q : Nat → List Nat) (i : Nat) (H' : AH) : Prop where
  le : AHle H H'
  ok : ∀ k < i, LexOk H' (X k) (a k)
  dx : ∀ k < i, H'.ds (a k).DX = some (kvL (a k) 1)
  ll : ∀ k < i, H'.ls (a k).LL = some (chV [122])
  pb : ∀ k < i, H'.ls (a k).PB = some (wq (q k))
structure Ap7 (H : AH) (a : Nat → LexA) (C1 C2 : Addr) (i : Nat) : Prop where
  pp : ∀ j k, j < i → k < i → j ≠ k → (a j).PB ≠ (a k).PB
  pl : ∀ j k, j < i → k < i → (a j).PB ≠ (a k).LL
  ln : ∀ j k, j < i → k < i → j ≠ k → (a j).LL ≠ (a k).LL
  dd : ∀ j k, j < i → k < i → j ≠ k → (a j).DX ≠ (a k).DX
  ds : ∀ j k, j < i → k < i → (a j).DS ≠ (a k).DX
  c1 : ∀ k < i, (a k).CL ≠ C1
  c2 : ∀ k < i, (a k).CL ≠ C2
  fp : ∀ k < i, ¬ H.dom (a k).PB
  fl : ∀ k < i, ¬ H.dom (a k).LL
  fd : ∀ k < i, ¬ H.dom (a k).DX
theorem LexOk.le {B B' : AH} {X : Addr} {a : LexA} (ok : LexOk B X a) (l : AHle B B') : LexOk B' X a :=
  ⟨l.xs _ _ ok.x, let ⟨fa, e, d⟩ := ok.fs; ⟨fa, l.fs _ _ e, d⟩, l.ds _ _ ok.ds, l.fs _ _ ok.fr, l.cs _ _ ok.cl, ok.n1, ok.n2⟩
theorem Lx7.mono {H : AH} {a : Nat → LexA} {X : Nat → Addr} {q : Nat → List Nat} {i : Nat} {H' H'' : AH} (x : Lx7 H a X q i H') (l : AHle H' H'') : Lx7 H a X q i H'' :=
  ⟨x.le.trans l, fun k hk => (x.ok k hk).le l, fun k hk => l.ds _ _ (x.dx k hk), fun k hk => l.ls _ _ (x.ll k hk), fun k hk => l.ls _ _ (x.pb k hk)⟩
theorem Lx7.setL {H : AH} {a : Nat → LexA} {X : Nat → Addr} {q : Nat → List Nat} {i : Nat} {H' : AH} (x : Lx7 H a X q i H') {b : Addr} {v : List Value} (hb : ¬ H.dom b) (h1 : ∀ k < i, b ≠ (a k).LL) (h2 : ∀ k < i, b ≠ (a k).PB) : Lx7 H a X q i (H'.setL b v) :=
  ⟨x.le.setL hb, fun k hk => (x.ok k hk).setL b v, x.dx, fun k hk => (setL_miss (Ne.symm (h1 k hk))).trans (x.ll k hk), fun k hk => (setL_miss (Ne.symm (h2 k hk))).trans (x.pb k hk)⟩
theorem Lx7.setI {H : AH} {a : Nat → LexA} {X : Nat → Addr} {q : Nat → List Nat} {i : Nat} {H' : AH} (x : Lx7 H a X q i H') {b : Addr} {v : ItA} (hb : ¬ H.dom b) : Lx7 H a X q i (H'.setI b v) :=
  ⟨x.le.setI hb, fun k hk => (x.ok k hk).setI b v, x.dx, x.ll, x.pb⟩
theorem Lx7.delI {H : AH} {a : Nat → LexA} {X : Nat → Addr} {q : Nat → List Nat} {i : Nat} {H' : AH} (x : Lx7 H a X q i H') {b : Addr} (hb : ¬ H.dom b) : Lx7 H a X q i (H'.delI b) :=
  ⟨x.le.delI' hb, fun k hk => (x.ok k hk).delI b, x.dx, x.ll, x.pb⟩
theorem LexOk.setC {B : AH} {X : Addr} {a : LexA} (ok : LexOk B X a) {b : Addr} {v : Option Value} (h : a.CL ≠ b) : LexOk (B.setC b v) X a := ⟨ok.x, ok.fs, ok.ds, ok.fr, (setC_miss h).trans ok.cl, ok.n1, ok.n2⟩
theorem Lx7.setC {H : AH} {a : Nat → LexA} {X : Nat → Addr} {q : Nat → List Nat} {i : Nat} {H' : AH} (x : Lx7 H a X q i H') {b : Addr} {v : Option Value} (hb : ¬ H.dom b) (h : ∀ k < i, (a k).CL ≠ b) : Lx7 H a X q i (H'.setC b v) :=
  ⟨x.le.setC hb, fun k hk => (x.ok k hk).setC (h k hk), x.dx, x.ll, x.pb⟩
theorem Lx7.setPB {H : AH} {a : Nat → LexA} {X : Nat → Addr} {q : Nat → List Nat} {C1 C2 : Addr} {i : Nat} {H' : AH} (x : Lx7 H a X q i H') (A : Ap7 H a C1 C2 i) {p : Nat} (hp : p < i) {l : List Nat} : Lx7 H a X (up q p l) i (H'.setL (a p).PB (wq l)) :=
  ⟨x.le.setL (A.fp p hp), fun k hk => (x.ok k hk).setL _ _, x.dx, fun k hk => (setL_miss (Ne.symm (A.pl p k hp hk))).trans (x.ll k hk), fun k hk => by
    by_cases h : k = p
    · subst h; rw [up_hit]; exact setL_hit _ _ _
    · rw [up_miss h]; exact (setL_miss (A.pp k p hk hp h)).trans (x.pb k hk)⟩
/-- the twin lists -/
structure Tw7 (a : Nat → LexA) (T : Nat → Addr) (q : Nat → List Nat) (i : Nat) (H' : AH) : Prop where
  tk : ∀ k < i, H'.ls (T k) = some (wq (q k))
structure ApT (H : AH) (a : Nat → LexA) (T : Nat → Addr) (i : Nat) : Prop where
  tt : ∀ j k, j < i → k < i → j ≠ k → T j ≠ T k
  tp : ∀ j k, j < i → k < 7 → T j ≠ (a k).PB
  tl : ∀ j k, j < i → k < 7 → T j ≠ (a k).LL
  ft : ∀ k < i, ¬ H.dom (T k)
structure Sta7 (H : AH) (a : Nat → LexA) (LN TW C1 C2 : Addr) : Prop where
  ap : Ap7 H a C1 C2 7
  pn : ∀ k < 7, (a k).PB ≠ LN
  pw : ∀ k < 7, (a k).PB ≠ TW
  lw : ∀ k < 7, (a k).LL ≠ TW
  nw : LN ≠ TW
  fw : ¬ H.dom TW
  fn : ¬ H.dom LN
  c12 : C1 ≠ C2
  f1 : ¬ H.dom C1
  f2 : ¬ H.dom C2
structure FW (H : AH) (a : Nat → LexA) (X : Nat → Addr) (LN TW C1 C2 : Addr) (T : Nat → Addr) (q q' : Nat → List Nat) (H' : AH) : Prop where
  s : Sta7 H a LN TW C1 C2
  lx : Lx7 H a X q 7 H'
  tw : Tw7 a T q' 7 H'
  ln : H'.ls LN = some (refs7 X)
  twl : H'.ls TW = some (refs7 T)
  c1 : H'.cs C1 = some (some (.ref TW))
  c2 : ∃ v, H'.cs C2 = some v
  at' : ApT H a T 7
  tn : ∀ k < 7, T k ≠ LN
  tw' : ∀ k < 7, T k ≠ TW
section
variable {H : AH} {a : Nat → LexA} {X : Nat → Addr} {LN TW C1 C2 : Addr} {T : Nat → Addr} {q q' : Nat → List Nat} {H' H'' : AH}
theorem FW.mono (f : FW H a X LN TW C1 C2 T q q' H') (l : AHle H' H'') : FW H a X LN TW C1 C2 T q q' H'' :=
  ⟨f.s, f.lx.mono l, ⟨fun k hk => l.ls _ _ (f.tw.tk k hk)⟩, l.ls _ _ f.ln, l.ls _ _ f.twl, l.cs _ _ f.c1, let ⟨v, e⟩ := f.c2; ⟨v, l.cs _ _ e⟩, f.at', f.tn, f.tw'⟩
theorem FW.setI (f : FW H a X LN TW C1 C2 T q q' H') {b : Addr} {v : ItA} (hb : ¬ H.dom b) : FW H a X LN TW C1 C2 T q q' (H'.setI b v) := ⟨f.s, f.lx.setI hb, ⟨f.tw.tk⟩, f.ln, f.twl, f.c1, f.c2, f.at', f.tn, f.tw'⟩
theorem FW.delI (f : FW H a X LN TW C1 C2 T q q' H') {b : Addr} (hb : ¬ H.dom b) : FW H a X LN TW C1 C2 T q q' (H'.delI b) := ⟨f.s, f.lx.delI hb, ⟨f.tw.tk⟩, f.ln, f.twl, f.c1, f.c2, f.at', f.tn, f.tw'⟩
theorem FW.setC2 (f : FW H a X LN TW C1 C2 T q q' H') {v : Option Value} : FW H a X LN TW C1 C2 T q q' (H'.setC C2 v) :=
  ⟨f.s, f.lx.setC f.s.f2 f.s.ap.c2, ⟨f.tw.tk⟩, f.ln, f.twl, (setC_miss f.s.c12).trans f.c1, ⟨_, setC_hit _ _ _⟩, f.at', f.tn, f.tw'⟩
theorem FW.setPB (f : FW H a X LN TW C1 C2 T q q' H') {p : Nat} (hp : p < 7) {l : List Nat} : FW H a X LN TW C1 C2 T (up q p l) q' (H'.setL (a p).PB (wq l)) :=
  ⟨f.s, f.lx.setPB f.s.ap hp, ⟨fun k hk => (setL_miss (f.at'.tp k p hk hp)).trans (f.tw.tk k hk)⟩, (setL_miss (Ne.symm (f.s.pn p hp))).trans f.ln, (setL_miss (Ne.symm (f.s.pw p hp))).trans f.twl, f.c1, f.c2, f.at', f.tn, f.tw'⟩
theorem FW.setT (f : FW H a X LN TW C1 C2 T q q' H') {p : Nat} (hp : p < 7) {l : List Nat} : FW H a X LN TW C1 C2 T q (up q' p l) (H'.setL (T p) (wq l)) :=
  ⟨f.s, f.lx.setL (f.at'.ft p hp) (fun k hk => f.at'.tl p k hp hk) (fun k hk => f.at'.tp p k hp hk), ⟨fun k hk => by
    by_cases h : k = p
    · subst h; rw [up_hit]; exact setL_hit _ _ _
    · rw [up_miss h]; exact (setL_miss (f.at'.tt k p hk hp h)).trans (f.tw.tk k hk)⟩, (setL_miss (Ne.symm (f.tn p hp))).trans f.ln, (setL_miss (Ne.symm (f.tw' p hp))).trans f.twl, f.c1, f.c2, f.at', f.tn, f.tw'⟩
/-- a twin list put anew -/
theorem FW.newT (f : FW H a X LN TW C1 C2 T q q' H') {p : Nat} (hp : p < 7) {t : Addr} {l : List Nat} (et : H'.ls t = some (wq l)) (h1 : ∀ k < 7, t ≠ (a k).PB) (h2 : ∀ k < 7, t ≠ (a k).LL) (h3 : ∀ k < 7, t ≠ T k) (h4 : t ≠ LN) (h5 : t ≠ TW) (h6 : ¬ H.dom t) :
    FW H a X LN TW C1 C2 (up T p t) q (up q' p l) (H'.setL TW (refs7 (up T p t))) :=
  ⟨f.s, f.lx.setL f.s.fw (fun k hk => Ne.symm (f.s.lw k hk)) (fun k hk => Ne.symm (f.s.pw k hk)), ⟨fun k hk => by
    by_cases h : k = p
    · subst h; rw [up_hit, up_hit]; exact (setL_miss h5).trans et
    · rw [up_miss h, up_miss h]; exact (setL_miss (f.tw' k hk)).trans (f.tw.tk k hk)⟩, (setL_miss f.s.nw).trans f.ln, setL_hit _ _ _, f.c1, f.c2,
   ⟨fun j k hj hk hjk => by
      by_cases ej : j = p
      · subst ej; rw [up_hit, up_miss (Ne.symm hjk)]; exact h3 k hk
      · rw [up_miss ej]
        by_cases ek : k = p
        · subst ek; rw [up_hit]; exact Ne.symm (h3 j hj)
        · rw [up_miss ek]; exact f.at'.tt j k hj hk hjk,
    fun j k hj hk => by
      by_cases ej : j = p
      · subst ej; rw [up_hit]; exact h1 k hk
      · rw [up_miss ej]; exact f.at'.tp j k hj hk,
    fun j k hj hk => by
      by_cases ej : j = p
      · subst ej; rw [up_hit]; exact h2 k hk
      · rw [up_miss ej]; exact f.at'.tl j k hj hk,
    fun k hk => by
      by_cases ek : k = p
      · subst ek; rw [up_hit]; exact h6
      · rw [up_miss ek]; exact f.at'.ft k hk⟩,
   fun k hk => by
      by_cases ek : k = p
      · subst ek; rw [up_hit]; exact h4
      · rw [up_miss ek]; exact f.tn k hk,
   fun k hk => by
      by_cases ek : k = p
      · subst ek; rw [up_hit]; exact h5
      · rw [up_miss ek]; exact f.tw' k hk⟩
theorem FW.le (f : FW H a X LN TW C1 C2 T q q' H') : AHle H H' := f.lx.le
/-- what lies there is none of ours -/
structure FW.Away (H : AH) (a : Nat → LexA) (LN TW : Addr) (T : Nat → Addr) (t : Addr) : Prop where
  h1 : ∀ k < 7, t ≠ (a k).PB
  h2 : ∀ k < 7, t ≠ (a k).LL
  h3 : ∀ k < 7, t ≠ T k
  h4 : t ≠ LN
  h5 : t ≠ TW
  h6 : ¬ H.dom t
theorem FW.away (f : FW H a X LN TW C1 C2 T q q' H') {t : Addr} (ht : ¬ H'.dom t) : FW.Away H a LN TW T t :=
  ⟨fun k hk e => ht (e ▸ AH.dom_ls (f.lx.pb k hk)), fun k hk e => ht (e ▸ AH.dom_ls (f.lx.ll k hk)), fun k hk e => ht (e ▸ AH.dom_ls (f.tw.tk k hk)), fun e => ht (e ▸ AH.dom_ls f.ln), fun e => ht (e ▸ AH.dom_ls f.twl), fun d => ht (f.le.dom d)⟩
theorem FW.setL (f : FW H a X LN TW C1 C2 T q q' H') {t : Addr} {v : List Value} (w : FW.Away H a LN TW T t) : FW H a X LN TW C1 C2 T q q' (H'.setL t v) :=
  ⟨f.s, f.lx.setL w.h6 w.h2 w.h1, ⟨fun k hk => (setL_miss (Ne.symm (w.h3 k hk))).trans (f.tw.tk k hk)⟩, (setL_miss (Ne.symm w.h4)).trans f.ln, (setL_miss (Ne.symm w.h5)).trans f.twl, f.c1, f.c2, f.at', f.tn, f.tw'⟩
end

theorem cs_ex {it acc : Addr} {m : Nat} {S : Nat → ItA} {val : Nat → Value} (G : Nat → List Value → AH → Prop) {elt t iter : Expr} {ifs : List Expr} {scope : Scope} {pos : Pos} {st₀ : St} {P : St → Prop} (src : Src w h₀ c.n it (fun i H => ∃ vs, G i vs H) m S val) (hm : m ≤ 1000)
    (g₀ : G 0 [] st₀.H) (hit : st₀.H.is it = some (S 0)) (hacc : st₀.H.ls acc = some [])
    (gI : ∀ i vs H x, G i vs H → G i vs (H.setI it x)) (gL : ∀ i vs H x, G i vs H → G i vs (H.setL acc x)) (gD : ∀ i vs H, G i vs H → G i vs (H.delI it))
    (step : ∀ i vs lo H, i < m → G i vs H → H.ls acc = some vs → vs.length ≤ i → H.is it = some (S (i + 1)) → ∀ (N : Value → St → Prop) (M : St → Prop), (∀ {y st₃}, G (i + 1) (vs ++ [y]) st₃.H ∧ st₃.H.ls acc = some vs ∧ st₃.H.is it = some (S (i + 1)) → N y st₃) → (∀ {st₂}, G (i + 1) vs st₂.H ∧ st₂.H.ls acc = some vs ∧ st₂.H.is it = some (S (i + 1)) → M st₂) →
      AsT w h₀ c t (val i) ⟨lo, H⟩ (fun st₁ => TestsT w h₀ c ifs st₁ (fun ok st₂ => if ok then EvT w h₀ c elt st₂ N else M st₂)))
    (fin : ∀ st' vs, G m vs st'.H → st'.H.ls acc = some vs → P st')
    (ht : ∀ it v, letOwnedTupleGo t it v = pure () := by intro _ _; rfl) : CsT w h₀ c (.ListComp elt [⟨t, iter, ifs, 0⟩] scope pos) 0 it acc st₀ P := by
  refine CsT.start (src.self _ hit) ?_
  refine ClT.rule (fun k st' => ∃ i vs, i ≤ m ∧ k = m - i ∧ vs.length ≤ i ∧ G i vs st'.H ∧ st'.H.is it = some (S i) ∧ st'.H.ls acc = some vs) m ⟨0, [], Nat.zero_le _, rfl, Nat.le_refl _, g₀, hit, hacc⟩ ?_ (ht := ht)
  rintro k st' ⟨i, vs, hi, rfl, hl, g, ei, ea⟩ N hN
  by_cases h : i < m
  · refine src.next i _ _ h ⟨vs, g⟩ ei ?_
    refine fun v' ev => Tr.mono (step i vs st'.lo _ h (gI _ _ _ _ g) ea hl (setI_hit _ _ _) (fun y st₃ => G (i + 1) (vs ++ [y]) st₃.H ∧ st₃.H.ls acc = some vs ∧ st₃.H.is it = some (S (i + 1))) (fun st₂ => G (i + 1) vs st₂.H ∧ st₂.H.ls acc = some vs ∧ st₂.H.is it = some (S (i + 1))) (fun q => q) (fun q => q) v' ev) fun _ st₁ q => ?_
    refine Tr.mono q fun ok st₂ q2 => ?_
    cases ok with
    | true =>
      refine ifT' rfl (EmitT.last (Tr.mono q2 fun y st₃ ⟨g3, a3, i3⟩ => ?_))
      refine CalT.append a3 (by omega) (hN ⟨m - (i + 1), by omega, i + 1, vs ++ [er y], h, rfl, by simp; omega, gL _ _ _ _ g3, i3, setL_hit _ _ _⟩)
    | false =>
      have q3 : G (i + 1) vs st₂.H ∧ st₂.H.ls acc = some vs ∧ st₂.H.is it = some (S (i + 1)) := q2
      exact hN ⟨m - (i + 1), by omega, i + 1, vs, h, rfl, by omega, q3.1, q3.2.2, q3.2.1⟩
  · have : i = m := by omega
    subst this
    exact src.done _ _ ⟨vs, g⟩ ei (fin _ vs (gD _ _ _ g) ea)

noncomputable def Uc : Int := 2305843009213693951
theorem scale_pos {u x y : Int} (hu : 0 < u) (hy : 0 < y) : (u * x).fdiv (u * y) = x.fdiv y ∧ (u * x).fmod (u * y) = u * x.fmod y := by
  have e := Int.mul_fdiv_add_fmod x y
  have l0 := Int.fmod_nonneg_of_pos x hy
  have l1 := Int.fmod_lt_of_pos x hy
  generalize x.fdiv y = q at *
  generalize x.fmod y = m at *
  refine fdiv_uniq (Int.mul_nonneg (Int.le_of_lt hu) l0) (Int.mul_lt_mul_of_pos_left l1 hu) ?_
  rw [← e, Int.mul_add, ← Int.mul_assoc, Int.mul_comm q]
theorem scale_sgn {s num : Int} {lw : Nat} (hs : s = 1 ∨ s = -1) (hl : 0 < lw) : (Uc * num).fdiv (s * Uc * lw) = (s * num).fdiv lw ∧ (Uc * num).fmod (s * Uc * lw) = s * Uc * (s * num).fmod lw := by
  have hu : 0 < Uc := by decide
  have hy : (0 : Int) < lw := by omega
  rcases hs with rfl | rfl
  · rw [Int.one_mul, Int.one_mul]; exact scale_pos hu hy
  · have h := scale_pos (x := -num) hu hy
    have n := idm_negb (a := Uc * num) (b := -1 * Uc * lw) (by rw [Int.neg_mul, Int.neg_mul, Int.one_mul]; have := Int.mul_pos hu hy; omega)
    have e1 : -(Uc * num) = Uc * -num := (Int.mul_neg _ _).symm
    have e2 : -(-1 * Uc * (lw : Int)) = Uc * lw := by rw [Int.neg_mul, Int.neg_mul, Int.one_mul, Int.neg_neg]
    rw [e1, e2, h.1, h.2] at n
    have e3 : -1 * num = -num := by rw [Int.neg_mul, Int.one_mul]
    rw [e3, ← n.1, ← n.2]
    refine ⟨rfl, ?_⟩
    rw [Int.neg_mul, Int.one_mul, Int.neg_mul]
theorem choice_eq {s : Int} (hs : s = 1 ∨ s = -1) (m : Int) : (s * Uc * m).fdiv (s * Uc) = m := Int.mul_fdiv_cancel_left _ (by rcases hs with rfl | rfl <;> decide)
theorem uc_bits {num : Int} (h : num.natAbs ≤ 2 ^ 47) : Builtin.Int.intBits (Uc * num) ≤ 110 := by
  have h2 : num.natAbs < 2 ^ 48 := Nat.lt_of_le_of_lt h (by decide)
  exact Nat.le_trans (intBits_mul_le (m := 61) (n := 48) (intBits_le_iff.mpr (by decide)) (intBits_le_iff.mpr h2)) (by decide)
theorem div_abs {s : Int} (hs : s = 1 ∨ s = -1) (lw : Nat) : (s * Uc * lw).natAbs = 2305843009213693951 * lw := by
  rw [Int.natAbs_mul, Int.natAbs_mul]
  have : s.natAbs = 1 := by rcases hs with rfl | rfl <;> rfl
  rw [this]
  show 1 * 2305843009213693951 * lw = _
  omega
theorem div_bits {s : Int} (hs : s = 1 ∨ s = -1) {lw : Nat} (h2 : 2 ≤ lw) (h6 : lw ≤ 6) : 62 ≤ Builtin.Int.intBits (s * Uc * lw) ∧ Builtin.Int.intBits (s * Uc * lw) ≤ 64 ∧ s * Uc * lw ≠ 0 := by
  have e := div_abs hs lw
  refine ⟨Nat.lt_of_not_le fun h => ?_, intBits_le_iff.mpr (by rw [e]; omega), fun h => by rw [h] at e; simp at e; omega⟩
  have := intBits_le_iff.mp h
  rw [e] at this
  omega
theorem count_bis {xs : List Nat} {x r : Nat} (hr : r ≤ xs.length) (h1 : ∀ i (hi : i < xs.length), i < r → xs[i] ≤ x) (h2 : ∀ i (hi : i < xs.length), r ≤ i → x < xs[i]) : xs.countP (· ≤ x) = r := by
  have e : xs = xs.take r ++ xs.drop r := (List.take_append_drop r xs).symm
  rw [e, List.countP_append]
  have a1 : (xs.take r).countP (· ≤ x) = (xs.take r).length := List.countP_eq_length.mpr fun y hy => by
    obtain ⟨i, hi, rfl⟩ := List.getElem_of_mem hy
    rw [List.length_take] at hi
    rw [List.getElem_take]
    exact decide_eq_true (h1 i (by omega) (by omega))
  have a2 : (xs.drop r).countP (· ≤ x) = 0 := List.countP_eq_zero.mpr fun y hy => by
    obtain ⟨i, hi, rfl⟩ := List.getElem_of_mem hy
    rw [List.length_drop] at hi
    rw [List.getElem_drop]
    have := h2 (r + i) (by omega) (by omega)
    simp; omega
  rw [a1, a2, List.length_take]; omega

theorem pick_from1 (v : Value) (l : List Value) : pick (v :: l) (some 1) none none = l := by
  rw [pick_one]
  have h1 : loN (v :: l).length (some 1) = 1 := by
    show (max 0 (min (if (1 : Int) < 0 then 1 + ((v :: l).length : Int) else 1) ((v :: l).length : Int))).toNat = 1
    rw [if_neg (by decide), List.length_cons]; omega
  rw [h1]
  show (l.take ((v :: l).length - 1)) = l
  rw [List.length_cons, Nat.add_sub_cancel, List.take_length]
theorem pick_to1 (v : Value) (l : List Value) : pick (v :: l) none (some 1) none = [v] := by
  rw [pick_one]
  have h1 : hiN (v :: l).length (some 1) = 1 := by
    show (max 0 (min (if (1 : Int) < 0 then 1 + ((v :: l).length : Int) else 1) ((v :: l).length : Int))).toNat = 1
    rw [if_neg (by decide), List.length_cons]; omega
  rw [h1]
  show ((v :: l).drop 0).take (1 - 0) = [v]
  rfl
theorem pick_to2 (v u : Value) (l : List Value) : pick (v :: u :: l) none (some 2) none = [v, u] := by
  rw [pick_one]
  have h1 : hiN (v :: u :: l).length (some 2) = 2 := by
    show (max 0 (min (if (2 : Int) < 0 then 2 + ((v :: u :: l).length : Int) else 2) ((v :: u :: l).length : Int))).toNat = 2
    rw [if_neg (by decide), List.length_cons, List.length_cons]; omega
  rw [h1]
  show ((v :: u :: l).drop 0).take (2 - 0) = [v, u]
  rfl
theorem pick_from2 (v u : Value) (l : List Value) : pick (v :: u :: l) (some 2) none none = l := by
  rw [pick_one]
  have h1 : loN (v :: u :: l).length (some 2) = 2 := by
    show (max 0 (min (if (2 : Int) < 0 then 2 + ((v :: u :: l).length : Int) else 2) ((v :: u :: l).length : Int))).toNat = 2
    rw [if_neg (by decide), List.length_cons, List.length_cons]; omega
  rw [h1]
  show (l.take ((v :: u :: l).length - 2)) = l
  rw [List.length_cons, List.length_cons, show l.length + 1 + 1 - 2 = l.length by omega, List.take_length]
theorem pick_rev2 (v u : Value) : pick [v, u] none none (some (-1)) = [u, v] := by
  show (sliceRange (sliceBounds none none (some (-1)) 2).1 (sliceBounds none none (some (-1)) 2).2.1 (sliceBounds none none (some (-1)) 2).2.2).filterMap (([v, u] : List Value)[·]?) = [u, v]
  rw [show sliceRange (sliceBounds none none (some (-1)) 2).1 (sliceBounds none none (some (-1)) 2).2.1 (sliceBounds none none (some (-1)) 2).2.2 = [1, 0] from by decide +kernel]
  rfl

theorem up_lt {α : Type} {f : Nat → α} {i k : Nat} {v : α} (h : k < i) : up f i v k = f k := up_miss (Nat.ne_of_lt h)
theorem lx7_add {B : AH} {a : Nat → LexA} {X : Nat → Addr} {i : Nat} {H' H'' : AH} {X0 : Addr} {a0 : LexA} (x : Lx7 B a X (fun _ => []) i H') (n : LexNew H' H'' X0 a0 [122]) : Lx7 B (up a i a0) (up X i X0) (fun _ => []) (i + 1) H'' := by
  have y := x.mono n.le
  refine ⟨y.le, fun k hk => ?_, fun k hk => ?_, fun k hk => ?_, fun k hk => ?_⟩ <;> (rcases Nat.lt_or_eq_of_le (Nat.le_of_lt_succ hk) with h | h)
  · rw [up_lt h, up_lt h]; exact y.ok k h
  · subst h; rw [up_hit, up_hit]; exact n.ok
  · rw [up_lt h]; exact y.dx k h
  · subst h; rw [up_hit]; exact n.dx
  · rw [up_lt h]; exact y.ll k h
  · subst h; rw [up_hit]; exact n.ll
  · rw [up_lt h]; exact y.pb k h
  · subst h; rw [up_hit]; exact n.pb
theorem ap7_add {H B : AH} {a : Nat → LexA} {X : Nat → Addr} {C1 C2 : Addr} {i : Nat} {H' H'' : AH} {X0 : Addr} {a0 : LexA} (hB : AHle H B) (e1 : B.cs C1 = some none) (e2 : B.cs C2 = some none) (x : Lx7 B a X (fun _ => []) i H') (A : Ap7 H a C1 C2 i) (n : LexNew H' H'' X0 a0 [122]) : Ap7 H (up a i a0) C1 C2 (i + 1) := by
  have z := lx7_add x n
  have lt : ∀ {k}, k < i + 1 → k ≠ i → k < i := fun h1 h2 => by omega
  have dPB : ∀ k, k < i → a0.PB ≠ (a k).PB := fun k hk e => n.fPB (e ▸ AH.dom_ls (x.pb k hk))
  have dPL : ∀ k, k < i → a0.PB ≠ (a k).LL := fun k hk e => n.fPB (e ▸ AH.dom_ls (x.ll k hk))
  have dLP : ∀ k, k < i → a0.LL ≠ (a k).PB := fun k hk e => n.fLL (e ▸ AH.dom_ls (x.pb k hk))
  have dLL : ∀ k, k < i → a0.LL ≠ (a k).LL := fun k hk e => n.fLL (e ▸ AH.dom_ls (x.ll k hk))
  have dDD : ∀ k, k < i → a0.DX ≠ (a k).DX := fun k hk e => n.fDX (e ▸ AH.dom_ds (x.dx k hk))
  have cl0 : ∀ C, B.cs C = some none → a0.CL ≠ C := fun C e e' => by
    have h1 := n.ok.cl
    rw [e', n.le.cs _ _ (x.le.cs _ _ e)] at h1
    cases h1
  refine ⟨fun j k hj hk hjk => ?_, fun j k hj hk => ?_, fun j k hj hk hjk => ?_, fun j k hj hk hjk => ?_, fun j k hj hk e => ?_, fun k hk => ?_, fun k hk => ?_, fun k hk => ?_, fun k hk => ?_, fun k hk => ?_⟩
  · by_cases ej : j = i
    · subst ej; rw [up_hit, up_miss (Ne.symm hjk)]; exact dPB k (lt hk (Ne.symm hjk))
    · rw [up_miss ej]
      by_cases ek : k = i
      · subst ek; rw [up_hit]; exact Ne.symm (dPB j (lt hj ej))
      · rw [up_miss ek]; exact A.pp j k (lt hj ej) (lt hk ek) hjk
  · by_cases ej : j = i
    · subst ej; rw [up_hit]
      by_cases ek : k = j
      · subst ek; rw [up_hit]; exact n.ok.n2
      · rw [up_miss ek]; exact dPL k (lt hk ek)
    · rw [up_miss ej]
      by_cases ek : k = i
      · subst ek; rw [up_hit]; exact Ne.symm (dLP j (lt hj ej))
      · rw [up_miss ek]; exact A.pl j k (lt hj ej) (lt hk ek)
  · by_cases ej : j = i
    · subst ej; rw [up_hit, up_miss (Ne.symm hjk)]; exact dLL k (lt hk (Ne.symm hjk))
    · rw [up_miss ej]
      by_cases ek : k = i
      · subst ek; rw [up_hit]; exact Ne.symm (dLL j (lt hj ej))
      · rw [up_miss ek]; exact A.ln j k (lt hj ej) (lt hk ek) hjk
  · by_cases ej : j = i
    · subst ej; rw [up_hit, up_miss (Ne.symm hjk)]; exact dDD k (lt hk (Ne.symm hjk))
    · rw [up_miss ej]
      by_cases ek : k = i
      · subst ek; rw [up_hit]; exact Ne.symm (dDD j (lt hj ej))
      · rw [up_miss ek]; exact A.dd j k (lt hj ej) (lt hk ek) hjk
  · have h1 := (z.ok j hj).ds
    rw [e, z.dx k hk] at h1
    have := congrArg (fun o : Option (List (Str × Value)) => (o.getD []).length) h1
    simp [kvL] at this
  · by_cases ek : k = i
    · subst ek; rw [up_hit]; exact cl0 _ e1
    · rw [up_miss ek]; exact A.c1 k (lt hk ek)
  · by_cases ek : k = i
    · subst ek; rw [up_hit]; exact cl0 _ e2
    · rw [up_miss ek]; exact A.c2 k (lt hk ek)
  · by_cases ek : k = i
    · subst ek; rw [up_hit]; exact fun d => n.fPB (x.le.dom (hB.dom d))
    · rw [up_miss ek]; exact A.fp k (lt hk ek)
  · by_cases ek : k = i
    · subst ek; rw [up_hit]; exact fun d => n.fLL (x.le.dom (hB.dom d))
    · rw [up_miss ek]; exact A.fl k (lt hk ek)
  · by_cases ek : k = i
    · subst ek; rw [up_hit]; exact fun d => n.fDX (x.le.dom (hB.dom d))
    · rw [up_miss ek]; exact A.fd k (lt hk ek)
theorem ap7_zero {H : AH} {a : Nat → LexA} {C1 C2 : Addr} : Ap7 H a C1 C2 0 :=
  ⟨fun _ _ h => absurd h (Nat.not_lt_zero _), fun _ _ h => absurd h (Nat.not_lt_zero _), fun _ _ h => absurd h (Nat.not_lt_zero _), fun _ _ h => absurd h (Nat.not_lt_zero _), fun _ _ h => absurd h (Nat.not_lt_zero _), fun _ h => absurd h (Nat.not_lt_zero _), fun _ h => absurd h (Nat.not_lt_zero _), fun _ h => absurd h (Nat.not_lt_zero _), fun _ h => absurd h (Nat.not_lt_zero _), fun _ h => absurd h (Nat.not_lt_zero _)⟩
theorem refs_succ (X : Nat → Addr) (i : Nat) (x : Addr) : (List.range i).map (fun k => Value.ref (X k)) ++ [.ref x] = (List.range (i + 1)).map (fun k => Value.ref (up X i x k)) := by
  rw [List.range_succ, List.map_append]
  congr 1
  · exact List.map_congr_left fun k hk => by rw [up_lt (List.mem_range.mp hk)]
  · show [Value.ref x] = [.ref (up X i x i)]
    rw [up_hit]
structure GLx (H B : AH) (C1 C2 acc : Addr) (i : Nat) (vs : List Value) (H' : AH) : Prop where
  ex : ∃ a X, Lx7 B a X (fun _ => []) i H' ∧ Ap7 H a C1 C2 i ∧ (∀ k < i, (a k).PB ≠ acc ∧ (a k).LL ≠ acc) ∧ vs = (List.range i).map fun k => .ref (X k)
structure GTw (H B : AH) (a : Nat → LexA) (X : Nat → Addr) (LN acc : Addr) (i : Nat) (vs : List Value) (H' : AH) : Prop where
  lx : Lx7 B a X (fun _ => []) 7 H'
  ln : H'.ls LN = some (refs7 X)
  ex : ∃ T, Tw7 a T (fun _ => []) i H' ∧ ApT H a T i ∧ (∀ k < i, T k ≠ LN ∧ T k ≠ acc) ∧ vs = (List.range i).map fun k => .ref (T k)
structure FL (LN FD : Addr) (number : Int) (lo : Lo) : Prop where
  gl : lo.g "lines" = some (.ref LN)
  gf : lo.g "far" = some (.ref FD)
  gn : lo.g "number" = some (.int number 0)
theorem FL.put {LN FD : Addr} {number : Int} {lo : Lo} (g : FL LN FD number lo) {x : Str} {v : Value} (h1 : (Str.ofString "lines" : Str) ≠ x) (h2 : (Str.ofString "far" : Str) ≠ x) (h3 : (Str.ofString "number" : Str) ≠ x) : FL LN FD number (lput x v lo) := ⟨lm h1 g.gl, lm h2 g.gf, lm h3 g.gn⟩
theorem fw_push {H : AH} {a : Nat → LexA} {X : Nat → Addr} {LN TW C1 C2 : Addr} {T : Nat → Addr} {q q' : Nat → List Nat} {H' : AH} {Q : Value → AH → Prop} (f : FW H a X LN TW C1 C2 T q q' H') {p x : Nat} (hp : p < 7) (hn : n ≤ 90) (hz : (q p).length ≤ 900)
    (h : FW H a X LN TW C1 C2 T (up q p (q p ++ [x])) q' (H'.setL (a p).PB (wq (q p ++ [x]))) → Q .none (H'.setL (a p).PB (wq (q p ++ [x])))) : CallT w h₀ n (.ref 49) [.ref (X p), tokS (chL x)] [] H' Q := by
  refine T_push (f.lx.ok p hp).x (f.lx.dx p hp) (f.lx.pb p hp) hn (by rw [wq_len]; omega) ?_
  have := f.setPB hp (l := q p ++ [x])
  exact wq_app (q p) [x] ▸ h this
theorem fw_append {H : AH} {a : Nat → LexA} {X : Nat → Addr} {LN TW C1 C2 : Addr} {T : Nat → Addr} {q q' : Nat → List Nat} {H' : AH} {Q : Value → AH → Prop} (f : FW H a X LN TW C1 C2 T q q' H') {p x : Nat} (hp : p < 7) (hz : (q' p).length ≤ 900)
    (h : FW H a X LN TW C1 C2 T q (up q' p (q' p ++ [x])) (H'.setL (T p) (wq (q' p ++ [x]))) → Q .none (H'.setL (T p) (wq (q' p ++ [x])))) : CalT w h₀ n (.builtin "list.append") [.ref (T p), tokS (chL x)] [] H' Q := by
  refine CalT.append (f.tw.tk p hp) (by rw [wq_len]; omega) ?_
  have := f.setT hp (l := q' p ++ [x])
  exact wq_app (q' p) [x] ▸ h this
theorem fw_get {H : AH} {a : Nat → LexA} {X : Nat → Addr} {LN TW C1 C2 : Addr} {T : Nat → Addr} {q q' : Nat → List Nat} {H' : AH} {Q : Value → AH → Prop} (f : FW H a X LN TW C1 C2 T q q' H') {p x : Nat} {l : List Nat} (hp : p < 7) (hq : q p = x :: l) (hn : n ≤ 90) (hz : l.length ≤ 900)
    (h : FW H a X LN TW C1 C2 T (up q p l) q' (H'.setL (a p).PB (wq l)) → Q (tokS (chL x)) (H'.setL (a p).PB (wq l))) : CallT w h₀ n (.ref 42) [.ref (X p)] [] H' Q := by
  refine T_getQ (q := wq l) (v := tokS (chL x)) (f.lx.ok p hp).x (f.lx.dx p hp) ((f.lx.pb p hp).trans (by rw [hq]; rfl)) hn (by rw [wq_len]; omega) ?_
  exact h (f.setPB hp (l := l))
noncomputable def intV (l : List Nat) : List Value := l.map fun x : Nat => Value.int ((x : Nat) : Int) 0
theorem intV_app (l m : List Nat) : intV (l ++ m) = intV l ++ intV m := List.map_append ..
theorem intV_eq (l : List Nat) : intV l = (l.map fun x : Nat => ((x : Nat) : Int)).map (Value.int · 0) := by rw [List.map_map]; rfl
noncomputable def ownT (c : List Nat) (j : Nat) : List Nat := ([1, 2, 3, 4, 5].take j).flatMap fun k => if 1 < c[k]?.getD 0 then List.replicate (c[k]?.getD 0) k else []
theorem ownT_5 (c : List Nat) : ownT c 5 = ownersL c := rfl
theorem ownT_succ (c : List Nat) {j : Nat} (hj : j < 5) : ownT c (j + 1) = ownT c j ++ if 1 < c[j + 1]?.getD 0 then List.replicate (c[j + 1]?.getD 0) (j + 1) else [] := by
  unfold ownT
  have : j = 0 ∨ j = 1 ∨ j = 2 ∨ j = 3 ∨ j = 4 := by omega
  rcases this with rfl | rfl | rfl | rfl | rfl <;> simp
theorem ownT_len (c : List Nat) (j : Nat) : (ownT c j).length ≤ (ownersL c).length := by
  have e : ownersL c = ownT c j ++ ([1, 2, 3, 4, 5].drop j).flatMap fun k => if 1 < c[k]?.getD 0 then List.replicate (c[k]?.getD 0) k else [] := by
    unfold ownT ownersL
    rw [← List.flatMap_append, List.take_append_drop]
  rw [e, List.length_append]; omega
theorem lens_at (q : Nat → List Nat) {k : Nat} (hk : k < 7) : (lens q)[k]?.getD 0 = (q k).length := by unfold lens; simp [hk]
structure OwJ (H : AH) (a : Nat → LexA) (X : Nat → Addr) (LN TW C1 C2 : Addr) (T : Nat → Addr) (q : Nat → List Nat) (it4 : Addr) (S4 : ItA) (acc : Addr) (done : List Nat) (H' : AH) : Prop where
  f : FW H a X LN TW C1 C2 T q q H'
  i4 : H'.is it4 = some S4
  ac : H'.ls acc = some (intV done)
theorem OwJ.setI {H : AH} {a : Nat → LexA} {X : Nat → Addr} {LN TW C1 C2 : Addr} {T : Nat → Addr} {q : Nat → List Nat} {it4 : Addr} {S4 : ItA} {acc : Addr} {done : List Nat} {H' : AH} (o : OwJ H a X LN TW C1 C2 T q it4 S4 acc done H') {b : Addr} {v : ItA} (h1 : ¬ H.dom b) (h2 : it4 ≠ b) : OwJ H a X LN TW C1 C2 T q it4 S4 acc done (H'.setI b v) :=
  ⟨o.f.setI h1, (setI_miss h2).trans o.i4, o.ac⟩
theorem OwJ.delI {H : AH} {a : Nat → LexA} {X : Nat → Addr} {LN TW C1 C2 : Addr} {T : Nat → Addr} {q : Nat → List Nat} {it4 : Addr} {S4 : ItA} {acc : Addr} {done : List Nat} {H' : AH} (o : OwJ H a X LN TW C1 C2 T q it4 S4 acc done H') {b : Addr} (h1 : ¬ H.dom b) (h2 : it4 ≠ b) : OwJ H a X LN TW C1 C2 T q it4 S4 acc done (H'.delI b) :=
  ⟨o.f.delI h1, ((delI_agree H' b).is it4 h2).trans o.i4, o.ac⟩
structure PlK (H : AH) (a : Nat → LexA) (X : Nat → Addr) (LN TW C1 C2 : Addr) (T : Nat → Addr) (q : Nat → List Nat) (it4 : Addr) (S4 : ItA) (OW : Addr) (ow : List Nat) (H' : AH) : Prop where
  f : FW H a X LN TW C1 C2 T q q H'
  i4 : H'.is it4 = some S4
  c2 : H'.cs C2 = some (some (.ref OW))
  ow : H'.ls OW = some (intV ow)
theorem PlK.mono {H : AH} {a : Nat → LexA} {X : Nat → Addr} {LN TW C1 C2 : Addr} {T : Nat → Addr} {q : Nat → List Nat} {it4 : Addr} {S4 : ItA} {OW : Addr} {ow : List Nat} {H' H'' : AH} (p : PlK H a X LN TW C1 C2 T q it4 S4 OW ow H') (l : AHle H' H'') : PlK H a X LN TW C1 C2 T q it4 S4 OW ow H'' :=
  ⟨p.f.mono l, l.is _ _ p.i4, l.cs _ _ p.c2, l.ls _ _ p.ow⟩
noncomputable def placesT (c : List Nat) (i : Nat) : List Nat := ([1, 2, 3, 4, 5].take i).filter fun k => decide (k ∈ ownersL c)
theorem placesT_5 (c : List Nat) : placesT c 5 = placesL c := rfl
theorem placesT_succ (c : List Nat) {i : Nat} (hi : i < 5) : placesT c (i + 1) = placesT c i ++ if i + 1 ∈ ownersL c then [i + 1] else [] := by
  unfold placesT
  have : ([1, 2, 3, 4, 5] : List Nat).take (i + 1) = [1, 2, 3, 4, 5].take i ++ [i + 1] := by
    have : i = 0 ∨ i = 1 ∨ i = 2 ∨ i = 3 ∨ i = 4 := by omega
    rcases this with rfl | rfl | rfl | rfl | rfl <;> rfl
  rw [this, List.filter_append]
  congr 1
  by_cases h : i + 1 ∈ ownersL c <;> simp [h]
theorem placesT_len (c : List Nat) (i : Nat) : (placesT c i).length ≤ 5 := by
  unfold placesT
  refine Nat.le_trans (List.length_filter_le _ _) ?_
  rw [List.length_take]; exact Nat.min_le_right _ _
theorem places_mem {c : List Nat} {k : Nat} (h : k ∈ placesL c) : k ∈ ownersL c := of_decide_eq_true (List.mem_filter.mp h).2
theorem any_int (l : List Nat) (k : Nat) : (l.map fun x : Nat => ((x : Nat) : Int)).any (· == ((k : Nat) : Int)) = decide (k ∈ l) := by
  rw [Bool.eq_iff_iff, List.any_eq_true, decide_eq_true_eq]
  constructor
  · rintro ⟨y, hy, e⟩
    obtain ⟨x, hx, rfl⟩ := List.mem_map.mp hy
    have e' := eq_of_beq e
    have : x = k := by omega
    exact this ▸ hx
  · intro h
    exact ⟨_, List.mem_map.mpr ⟨k, h, rfl⟩, by simp⟩
theorem idx_int (l : List Nat) (k : Nat) : (l.map fun x : Nat => ((x : Nat) : Int)).idxOf ((k : Nat) : Int) = l.idxOf k := by
  induction l with
  | nil => rfl
  | cons a l ih =>
    rw [List.map_cons, List.idxOf_cons, List.idxOf_cons, ih]
    by_cases h : a = k
    · subst h; simp
    · have : ((a : Int) == (k : Int)) = false := beq_eq_false_iff_ne.mpr (by omega)
      have h2 : (a == k) = false := by simpa using h
      rw [this, h2]
noncomputable def qK (q : Nat → List Nat) (p u v : Nat) : Nat → Nat → List Nat
  | 0 => q
  | 1 => up q (p - 1) (q (p - 1) ++ [u])
  | _ => up (up q (p - 1) (q (p - 1) ++ [u])) (p + 1) (up q (p - 1) (q (p - 1) ++ [u]) (p + 1) ++ [v])
theorem qK_fire (q : Nat → List Nat) {p x y : Nat} {l : List Nat} (hp : 1 ≤ p) : qK (up q p l) p (lft x y) (rgt x y) 2 = fireQ q p x y l := by
  have a1 : p - 1 ≠ p := by omega
  have a2 : p + 1 ≠ p := by omega
  have a3 : p + 1 ≠ p - 1 := by omega
  funext k
  show up (up (up q p l) (p - 1) ((up q p l) (p - 1) ++ [lft x y])) (p + 1) (up (up q p l) (p - 1) ((up q p l) (p - 1) ++ [lft x y]) (p + 1) ++ [rgt x y]) k = _
  rw [up_miss a1, up_miss a3, up_miss a2]
  unfold fireQ
  by_cases h1 : k = p
  · subst h1
    rw [up_miss (Ne.symm a2), up_miss (Ne.symm a1), up_hit, if_pos rfl]
  · by_cases h2 : k = p + 1
    · subst h2
      rw [up_hit, if_neg h1, if_neg (by omega), if_pos rfl]
    · by_cases h3 : k = p - 1
      · subst h3
        rw [up_miss (Ne.symm a3), up_hit, if_neg h1, if_pos (by omega)]
      · rw [up_miss h2, up_miss h3, up_miss h1, if_neg h1, if_neg (by omega), if_neg h2]
theorem qK_succ (q : Nat → List Nat) {p u v k : Nat} (hp : 1 ≤ p) (hk : k < 2) : up (qK q p u v k) (p - 1 + 2 * k) (qK q p u v k (p - 1 + 2 * k) ++ [if k = 0 then u else v]) = qK q p u v (k + 1) := by
  have : k = 0 ∨ k = 1 := by omega
  rcases this with rfl | rfl
  · rfl
  · rw [show p - 1 + 2 * 1 = p + 1 by omega]; rfl
theorem qK_at (q : Nat → List Nat) {p u v k : Nat} {l : List Nat} (hp : 1 ≤ p) (hk : k < 2) : qK (up q p l) p u v k (p - 1 + 2 * k) = q (p - 1 + 2 * k) := by
  have : k = 0 ∨ k = 1 := by omega
  rcases this with rfl | rfl
  · exact up_miss (show p - 1 + 2 * 0 ≠ p by omega)
  · rw [show p - 1 + 2 * 1 = p + 1 by omega]
    show up (up q p l) (p - 1) _ (p + 1) = _
    rw [up_miss (by omega), up_miss (by omega)]
noncomputable def told14 (e : List Nat) : List Value := wq (e.take 3) ++ [tokS [122]] ++ wq (e.drop 3) ++ [tokS [122], tokS [122], tokS [122], tokS [], tokS [122], tokS [122], tokS [122]]
theorem refs_len (X : Nat → Addr) (i : Nat) : ((List.range i).map fun k => Value.ref (X k)).length = i := by simp

noncomputable def qA (q : Nat → List Nat) (k i : Nat) : List Nat := if k < i then [] else q k
noncomputable def leftA (k i : Nat) : List Nat := if (if k = 3 then 3 else 7 + k) < i then [] else [122]
theorem leftA_same {k i : Nat} (h : (if k = 3 then 3 else 7 + k) ≠ i) : leftA k i = leftA k (i + 1) := by
  unfold leftA
  generalize (if k = 3 then 3 else 7 + k) = c at *
  by_cases h1 : c < i
  · rw [if_pos h1, if_pos (by omega)]
  · rw [if_neg h1, if_neg (by omega)]
theorem leftA_nil {k i : Nat} (h : (if k = 3 then 3 else 7 + k) < i) : leftA k i = [] := if_pos h
theorem leftA_full {k i : Nat} (h : ¬ (if k = 3 then 3 else 7 + k) < i) : leftA k i = [122] := if_neg h
theorem leftA_len (k i : Nat) : (leftA k i).length ≤ 900 := by
  by_cases h : (if k = 3 then 3 else 7 + k) < i
  · rw [leftA_nil h]; decide
  · rw [leftA_full h]; decide
structure LaK (H : AH) (a : Nat → LexA) (X : Nat → Addr) (LL2 : Addr) (q : Nat → List Nat) (i : Nat) (H' : AH) : Prop where
  le : AHle H H'
  l2 : H'.ls LL2 = some (refs7 X ++ refs7 X)
  ok : ∀ k < 7, LexOk H' (X k) (a k)
  dx : ∀ k < 7, H'.ds (a k).DX = some (kvL (a k) 1)
  ll : ∀ k < 7, H'.ls (a k).LL = some (chV (leftA k i))
  pb : ∀ k < 7, H'.ls (a k).PB = some (wq (qA q k i))
section
variable {H : AH} {a : Nat → LexA} {X : Nat → Addr} {LL2 C1 C2 : Addr} {q : Nat → List Nat} {i : Nat} {H' : AH}
theorem LaK.setI (k : LaK H a X LL2 q i H') {b : Addr} {v : ItA} (hb : ¬ H.dom b) : LaK H a X LL2 q i (H'.setI b v) := ⟨k.le.setI hb, k.l2, fun j hj => (k.ok j hj).setI b v, k.dx, k.ll, k.pb⟩
theorem LaK.delI (k : LaK H a X LL2 q i H') {b : Addr} (hb : ¬ H.dom b) : LaK H a X LL2 q i (H'.delI b) := ⟨k.le.delI' hb, k.l2, fun j hj => (k.ok j hj).delI b, k.dx, k.ll, k.pb⟩
theorem LaK.setL (k : LaK H a X LL2 q i H') {b : Addr} {v : List Value} (hb : ¬ H.dom b) (h1 : ∀ j < 7, b ≠ (a j).LL) (h2 : ∀ j < 7, b ≠ (a j).PB) (h3 : b ≠ LL2) : LaK H a X LL2 q i (H'.setL b v) :=
  ⟨k.le.setL hb, (setL_miss (Ne.symm h3)).trans k.l2, fun j hj => (k.ok j hj).setL b v, k.dx, fun j hj => (setL_miss (Ne.symm (h1 j hj))).trans (k.ll j hj), fun j hj => (setL_miss (Ne.symm (h2 j hj))).trans (k.pb j hj)⟩
theorem LaK.popQ (k : LaK H a X LL2 q i H') (A : Ap7 H a C1 C2 7) (hi : i < 7) (h3 : i ≠ 3) (n2 : (a i).PB ≠ LL2) : LaK H a X LL2 q (i + 1) (H'.setL (a i).PB (wq [])) :=
  ⟨k.le.setL (A.fp i hi), (setL_miss (Ne.symm n2)).trans k.l2, fun j hj => (k.ok j hj).setL _ _, k.dx, fun j hj => ((setL_miss (Ne.symm (A.pl i j hi hj))).trans (k.ll j hj)).trans (by
      have : leftA j i = leftA j (i + 1) := leftA_same (by split <;> omega)
      rw [this]), fun j hj => by
    by_cases e : j = i
    · subst e
      have : qA q j (j + 1) = [] := if_pos (Nat.lt_succ_self _)
      rw [this]; exact setL_hit _ _ _
    · have : qA q j (i + 1) = qA q j i := by
        unfold qA
        by_cases h : j < i
        · rw [if_pos h, if_pos (by omega)]
        · rw [if_neg h, if_neg (by omega)]
      rw [this]; exact (setL_miss (A.pp j i hj hi e)).trans (k.pb j hj)⟩
theorem LaK.readT (k : LaK H a X LL2 q i H') (A : Ap7 H a C1 C2 7) {j : Nat} (hj : j < 7) (hji : j = i ∧ i = 3 ∨ i = j + 7) (q3 : q 3 = []) (n2 : (a j).LL ≠ LL2) : LaK H a X LL2 q (i + 1) (lexH H' (a j) [] 1) :=
  ⟨(k.le.setL (A.fl j hj)).setD (A.fd j hj), (lexH_ls (Ne.symm n2)).trans k.l2, fun m hm => by
      have := k.ok m hm
      exact ⟨this.x, this.fs, (lexH_ds (A.ds m j hm hj)).trans this.ds, this.fr, this.cl, this.n1, this.n2⟩,
    fun m hm => by
      by_cases e : m = j
      · subst e; exact lexH_dx
      · exact (lexH_ds (A.dd m j hm hj e)).trans (k.dx m hm),
    fun m hm => by
      by_cases e : m = j
      · subst e
        have : leftA m (i + 1) = [] := leftA_nil (by split <;> omega)
        rw [this]; exact lexH_ll
      · have : leftA m (i + 1) = leftA m i := (leftA_same (by split <;> omega)).symm
        rw [this]; exact (lexH_ls (A.ln m j hm hj e)).trans (k.ll m hm),
    fun m hm => by
      have : qA q m (i + 1) = qA q m i := by
        unfold qA
        by_cases h : m < i
        · rw [if_pos h, if_pos (by omega)]
        · rw [if_neg h]
          by_cases h' : m < i + 1
          · have : m = 3 := by omega
            rw [if_pos h', this, q3]
          · rw [if_neg h']
      rw [this]; exact (lexH_ls (A.pl m j hm hj)).trans (k.pb m hm)⟩
end
noncomputable def zA (e : List Nat) (i : Nat) : Nat := e[if i < 3 then i else i - 1]?.getD 0
theorem Ended.at {nums : List Nat} {q : Nat → List Nat} {e : List Nat} (E : Ended nums q e) {i : Nat} (hi : i < 7) (h3 : i ≠ 3) : q i = [zA e i] := by
  have : i = 0 ∨ i = 1 ∨ i = 2 ∨ i = 4 ∨ i = 5 ∨ i = 6 := by omega
  rcases this with rfl | rfl | rfl | rfl | rfl | rfl
  · exact E.q0
  · exact E.q1
  · exact E.q2
  · exact E.q4
  · exact E.q5
  · exact E.q6
theorem told14_at {e : List Nat} (he : e.length = 6) : (∀ i, i < 7 → i ≠ 3 → (told14 e)[i]?.getD .none = tokS (chL (zA e i))) ∧ (told14 e)[3]?.getD .none = tokS [122] ∧ (∀ j, j < 7 → (told14 e)[j + 7]?.getD .none = tokS (if j = 3 then [] else [122])) ∧ (told14 e).length = 14 := by
  obtain ⟨a, b, c, d, f, g, rfl⟩ := len6 he
  · refine ⟨fun i hi h3 => ?_, rfl, fun j hj => ?_, rfl⟩
    · have : i = 0 ∨ i = 1 ∨ i = 2 ∨ i = 4 ∨ i = 5 ∨ i = 6 := by omega
      rcases this with rfl | rfl | rfl | rfl | rfl | rfl <;> rfl
    · have : j = 0 ∨ j = 1 ∨ j = 2 ∨ j = 3 ∨ j = 4 ∨ j = 5 ∨ j = 6 := by omega
      rcases this with rfl | rfl | rfl | rfl | rfl | rfl | rfl <;> rfl
theorem len_pred {k : Nat} (h : 1 ≤ k) : k = (k - 1) + 1 := by omega
structure JWord (H : AH) (a : Nat → LexA) (X : Nat → Addr) (LN TW L FD : Addr) (T : Nat → Addr) (number : Int) (nums : List Nat) (i : Nat) (st : St) : Prop where
  l : FL LN FD number st.lo
  f : FW H a X LN TW (L + 1) (L + 2) T (up (fun _ => []) 3 (nums.take i)) (up (fun _ => []) 3 (nums.take i)) st.H
structure JFire (H : AH) (a : Nat → LexA) (X : Nat → Addr) (LN TW L FD : Addr) (nums : List Nat) (i : Nat) (st : St) : Prop where
  ex : ∃ T q number, FW H a X LN TW (L + 1) (L + 2) T q q st.H ∧ FL LN FD number st.lo ∧ Pur nums i q ∧ number.natAbs ≤ 2 ^ 47
structure JOwn (H : AH) (a : Nat → LexA) (X : Nat → Addr) (LN TW L : Addr) (T : Nat → Addr) (q : Nat → List Nat) (it4 : Addr) (S4 : ItA) (OW it5 : Addr) (kk : Nat) (st' : St) : Prop where
  ex : ∃ j, j ≤ 5 ∧ kk = 5 - j ∧ OwJ H a X LN TW (L + 1) (L + 2) T q it4 S4 OW (ownT (lens q) j) st'.H ∧ st'.H.is it5 = some (rgS 1 1 5 j)
structure JTwin (H : AH) (a : Nat → LexA) (X : Nat → Addr) (LN TW L : Addr) (T : Nat → Addr) (q : Nat → List Nat) (it4 : Addr) (S4 : ItA) (OW it5 it6 : Addr) (j kk : Nat) (st' : St) : Prop where
  ex : ∃ r, r ≤ (q (j + 1)).length ∧ kk = (q (j + 1)).length - r ∧ OwJ H a X LN TW (L + 1) (L + 2) T q it4 S4 OW (ownT (lens q) j ++ if 1 < (lens q)[j + 1]?.getD 0 then List.replicate r (j + 1) else []) st'.H ∧ st'.H.is it5 = some (rgS 1 1 5 (j + 1)) ∧ st'.H.is it6 = some (.list (T (j + 1)) r) ∧ st'.lo.g "k" = some (.int ((j + 1 : Nat) : Int) 0)
structure JPl (H7 : AH) (q : Nat → List Nat) (i : Nat) (vs : List Value) (H' : AH) : Prop where
  l : AHle H7 H'
  e : vs = intV (placesT (lens q) i)
structure JTurn (H : AH) (a : Nat → LexA) (X : Nat → Addr) (LN TW L FD : Addr) (q : Nat → List Nat) (p : Nat) (num' : Int) (it4 : Addr) (S4 : ItA) (j : Nat) (st : St) : Prop where
  ex : ∃ T' l, FW H a X LN TW (L + 1) (L + 2) T' (up q p l) (up q p l) st.H ∧ l.Perm (q p) ∧ st.H.is it4 = some S4 ∧ FL LN FD num' st.lo ∧ st.lo.g "place" = some (.int p 0)
structure JPair (H : AH) (a : Nat → LexA) (X : Nat → Addr) (LN TW L FD : Addr) (T9 : Nat → Addr) (q : Nat → List Nat) (p : Nat) (num' : Int) (it4 : Addr) (S4 : ItA) (pv : List Value) (pr : Addr) (st : St) : Prop where
  f : FW H a X LN TW (L + 1) (L + 2) T9 q q st.H
  e : st.H.ls pr = some pv
  w : FW.Away H a LN TW T9 pr
  i4 : st.H.is it4 = some S4
  g : FL LN FD num' st.lo
  gp : st.lo.g "place" = some (.int p 0)
  gr : st.lo.g "pair" = some (.ref pr)
structure JPut (H : AH) (a : Nat → LexA) (X : Nat → Addr) (LN TW L FD : Addr) (T9 : Nat → Addr) (q : Nat → List Nat) (p x y : Nat) (num' : Int) (it4 : Addr) (S4 : ItA) (pv : List Value) (pr : Addr) (k : Nat) (st : St) : Prop where
  f : FW H a X LN TW (L + 1) (L + 2) T9 (qK q p x y k) (qK q p x y k) st.H
  e : st.H.ls pr = some pv
  i4 : st.H.is it4 = some S4
  g : FL LN FD num' st.lo
  gp : st.lo.g "place" = some (.int p 0)
  gr : st.lo.g "pair" = some (.ref pr)
set_option maxHeartbeats 8000000 in
theorem T_lawFired {WL FD : Addr} {nums : List Nat} {kv : List (Str × Value)} {number : Int} {H : AH} {Q : Value → AH → Prop} (hn : n ≤ 5) (hl : nums.length = 6) (h24 : ∀ x ∈ nums, x < 24) (ew : H.ls WL = some (wq nums)) (ef : H.ds FD = some kv) (hkv : ∀ x ∈ nums, kv.lookup (strL (chL x)) = some (.int (price x) 0)) (hnum : number.natAbs ≤ 2 ^ 47)
    (h : ∀ H' R e, AHle H H' → ¬ H.dom R → e.length = 6 → e.Perm nums → (e.map price).Pairwise (· ≤ ·) → H'.ls R = some (told14 e) → Q (.ref R) H') : CallT w h₀ n (.ref 168) [.ref WL, .ref FD, .int number 0] [] H Q := by
  refine CallT.base (binds := [("words", .ref WL), ("far", .ref FD), ("number", .int number 0)]) ⟨_, _, _, _, _, _, _, rfl, rfl, rfl, rfl⟩ (fun a' k' e2 e3 s I => ?_) (fun L hL => ?_) (by omega)
  · obtain ⟨x', y', z', rfl, ex, ey, ez⟩ := map3 e2
    rw [kw0 e3]
    exact ⟨[("words", x'), ("far", y'), ("number", z')], .of_eq rfl, by simp [ex, ey, ez]⟩
  refine BdT.loc (BdT.loc (BdT.loc (BdT.nil (BodyT.stmts ?_))))
  show EsT w h₀ _ _ ⟨_, (H.setC (L + 1) none).setC (L + 2) none⟩ _
  have f1 : ¬ H.dom (L + 1) := hL _ (Nat.le_add_right _ _)
  have f2 : ¬ H.dom (L + 2) := hL _ (Nat.le_add_right _ _)
  have lB : AHle H ((H.setC (L + 1) none).setC (L + 2) none) := (AHle.setC .refl f1).setC f2
  have b1 : ((H.setC (L + 1) none).setC (L + 2) none).cs (L + 1) = some none := (setC_miss (adNe (by decide))).trans (setC_hit _ _ _)
  have b2 : ((H.setC (L + 1) none).setC (L + 2) none).cs (L + 2) = some none := setC_hit _ _ _
  generalize (H.setC (L + 1) none).setC (L + 2) none = B at *
  refine EsT.cons ?_
  refine ExT.assignComp (cl := []) ?_
  refine EvT.call ?_; refine EvT.builtin ?_; refine ArgsT.pos ?_; refine ItsT.cons ?_; refine EvT.int ?_; refine ItsT.nil ?_
  refine ⟨trivial, CalT.range1 fun rg hrg => ?_⟩
  refine ItrT.rng (setI_hit _ _ _) (by decide) fun it hit => ?_
  intro LN C hLN hC
  have itB : ¬ B.dom it := fun d => hit (dom_setI d)
  have rgB : ¬ B.dom rg := hrg
  have LNB : ¬ B.dom LN := fun d => hLN (dom_setI (dom_setI d))
  have lz : AHle B (((B.setI rg (.rng 0 7 1)).setI it (.range 0 7 1)).setL LN []) := ((AHle.refl.setI rgB).setI itB).setL LNB
  refine cs_ex (GLx H B (L + 1) (L + 2) LN) (m := 7) (Src.range 0 1) (by decide) ⟨fun _ => ⟨0, 0, 0, 0, 0, 0, 0⟩, fun _ => 0, ⟨lz, fun _ h => absurd h (Nat.not_lt_zero _), fun _ h => absurd h (Nat.not_lt_zero _), fun _ h => absurd h (Nat.not_lt_zero _), fun _ h => absurd h (Nat.not_lt_zero _)⟩, ap7_zero, fun _ h => absurd h (Nat.not_lt_zero _), rfl⟩ (setI_hit _ _ _) (setL_hit _ _ _)
    (fun i vs H' x ⟨a, X, g, A, z, e⟩ => ⟨a, X, g.setI itB, A, z, e⟩) (fun i vs H' x ⟨a, X, g, A, z, e⟩ => ⟨a, X, g.setL LNB (fun k hk => Ne.symm (z k hk).2) (fun k hk => Ne.symm (z k hk).1), A, z, e⟩) (fun i vs H' ⟨a, X, g, A, z, e⟩ => ⟨a, X, g.delI itB, A, z, e⟩) (fun i vs lo H' hi ⟨a, X, g, A, z, e⟩ ea el ei N M hN hM => ?mk) (fun ⟨lo, H'⟩ vs ⟨a, X, g, A, z, e⟩ ea => ?go)
  case mk =>
    refine AsT.name (StoreT.local ?_)
    refine TestsT.nil (ifT' rfl ?_)
    refine EvT.call ?_; refine EvT.global ?_; refine ArgsT.pos ?_; refine ItsT.cons ?_; refine EvT.str ?_; refine ItsT.nil ?_
    refine ⟨.inl (by kernel_rfl), CallT.cal (T_lexer (text := [122]) (le_up hn) (by decide) fun H3 X0 a0 nw => ?_)⟩
    refine hN ⟨⟨_, _, lx7_add g nw, ap7_add lB b1 b2 g A nw, fun k hk => ?_, by rw [e]; exact refs_succ X i X0⟩, nw.le.ls _ _ ea, nw.le.is _ _ ei⟩
    by_cases ek : k = i
    · subst ek; rw [up_hit]; exact ⟨fun q => nw.fPB (q ▸ AH.dom_ls ea), fun q => nw.fLL (q ▸ AH.dom_ls ea)⟩
    · rw [up_miss ek]; exact z k (by omega)
  case go =>
    replace ea : H'.ls LN = some (refs7 X) := by rw [e] at ea; exact ea
    refine StoreT.local ?_
    refine EsT.cons ?_
    refine ExT.assignName ?_
    refine EvT.comp (cl := []) ?_
    refine EvT.call ?_; refine EvT.builtin ?_; refine ArgsT.pos ?_; refine ItsT.cons ?_; refine EvT.int ?_; refine ItsT.nil ?_
    refine ⟨trivial, CalT.range1 fun rg2 hrg2 => ?_⟩
    refine ItrT.rng (setI_hit _ _ _) (by decide) fun it2 hit2 => ?_
    intro TW C3 hTW hC3
    have it2' : ¬ H'.dom it2 := fun d => hit2 (dom_setI d)
    have TW' : ¬ H'.dom TW := fun d => hTW (dom_setI (dom_setI d))
    have it2B : ¬ B.dom it2 := fun d => it2' (g.le.dom d)
    have TWB : ¬ B.dom TW := fun d => TW' (g.le.dom d)
    have TWP : ∀ k < 7, TW ≠ (a k).PB := fun k hk q => TW' (q ▸ AH.dom_ls (g.pb k hk))
    have TWL : ∀ k < 7, TW ≠ (a k).LL := fun k hk q => TW' (q ▸ AH.dom_ls (g.ll k hk))
    have TWN : TW ≠ LN := fun q => TW' (q ▸ AH.dom_ls ea)
    have l0 : AHle H' (((H'.setI rg2 (.rng 0 7 1)).setI it2 (.range 0 7 1)).setL TW []) := ((AHle.refl.setI hrg2).setI it2').setL TW'
    refine cs_ex (GTw H B a X LN TW) (m := 7) (Src.range 0 1) (by decide) ⟨g.mono l0, l0.ls _ _ ea, fun _ => 0, ⟨fun _ h => absurd h (Nat.not_lt_zero _)⟩, ⟨fun _ _ h => absurd h (Nat.not_lt_zero _), fun _ _ h => absurd h (Nat.not_lt_zero _), fun _ _ h => absurd h (Nat.not_lt_zero _), fun _ h => absurd h (Nat.not_lt_zero _)⟩, fun _ h => absurd h (Nat.not_lt_zero _), rfl⟩ (setI_hit _ _ _) (setL_hit _ _ _)
      (fun i vs H' x ⟨g, ln, T, t, A, z, e⟩ => ⟨g.setI it2B, ln, T, ⟨t.tk⟩, A, z, e⟩) (fun i vs H' x ⟨g, ln, T, t, A, z, e⟩ => ⟨g.setL TWB TWL TWP, (setL_miss (Ne.symm TWN)).trans ln, T, ⟨fun k hk => (setL_miss (z k hk).2).trans (t.tk k hk)⟩, A, z, e⟩) (fun i vs H' ⟨g, ln, T, t, A, z, e⟩ => ⟨g.delI it2B, ln, T, ⟨t.tk⟩, A, z, e⟩) (fun i vs lo H2 hi ⟨g2, ln, T, t, A2, z2, e2⟩ ea2 el2 ei2 N M hN hM => ?mk2) (fun ⟨lo2, H2⟩ vs2 ⟨g2, ln, T, t, A2, z2, e2⟩ ea2 => ?go2)
    case mk2 =>
      refine AsT.name (StoreT.local ?_)
      refine TestsT.nil (ifT' rfl ?_)
      refine EvT.list ?_; refine ItsT.nil ?_
      refine ⟨by simp [sizeLine_eq], fun t0 ht0 => ?_⟩
      have l3 : AHle H2 (H2.setL t0 []) := AHle.refl.setL ht0
      have nT : ∀ k < i, t0 ≠ T k := fun k hk q => ht0 (q ▸ AH.dom_ls (t.tk k hk))
      refine hN ⟨⟨g2.mono l3, l3.ls _ _ ln, up T i t0, ⟨fun k hk => ?_⟩, ⟨fun j k hj hk hjk => ?_, fun j k hj hk => ?_, fun j k hj hk => ?_, fun k hk => ?_⟩, fun k hk => ?_, by rw [e2]; exact refs_succ T i t0⟩, l3.ls _ _ ea2, l3.is _ _ ei2⟩
      · by_cases ek : k = i
        · subst ek; rw [up_hit]; exact setL_hit _ _ _
        · rw [up_miss ek]; exact l3.ls _ _ (t.tk k (by omega))
      · by_cases ej : j = i
        · subst ej; rw [up_hit, up_miss (Ne.symm hjk)]; exact nT k (by omega)
        · rw [up_miss ej]
          by_cases ek : k = i
          · subst ek; rw [up_hit]; exact Ne.symm (nT j (by omega))
          · rw [up_miss ek]; exact A2.tt j k (by omega) (by omega) hjk
      · by_cases ej : j = i
        · subst ej; rw [up_hit]; exact fun q => ht0 (q ▸ AH.dom_ls (g2.pb k hk))
        · rw [up_miss ej]; exact A2.tp j k (by omega) hk
      · by_cases ej : j = i
        · subst ej; rw [up_hit]; exact fun q => ht0 (q ▸ AH.dom_ls (g2.ll k hk))
        · rw [up_miss ej]; exact A2.tl j k (by omega) hk
      · by_cases ek : k = i
        · subst ek; rw [up_hit]; exact fun d => ht0 (g2.le.dom (lB.dom d))
        · rw [up_miss ek]; exact A2.ft k (by omega)
      · by_cases ek : k = i
        · subst ek; rw [up_hit]; exact ⟨fun q => ht0 (q ▸ AH.dom_ls ln), fun q => ht0 (q ▸ AH.dom_ls ea2)⟩
        · rw [up_miss ek]; exact z2 k (by omega)
    case go2 =>
      replace ea2 : H2.ls TW = some (refs7 T) := by rw [e2] at ea2; exact ea2
      refine StoreT.cell (a := L + 1) (v0 := none) (g2.le.cs _ _ b1) ?_
      have st : Sta7 H a LN TW (L + 1) (L + 2) := ⟨A, fun k hk => (z k hk).1, fun k hk => Ne.symm (TWP k hk), fun k hk => Ne.symm (TWL k hk), Ne.symm TWN, fun d => TWB (lB.dom d), fun d => LNB (lB.dom d), adNe (by decide), f1, f2⟩
      have fw : FW H a X LN TW (L + 1) (L + 2) T (fun _ => []) (fun _ => []) (H2.setC (L + 1) (some (.ref TW))) :=
        ⟨st, ((⟨lB.trans g2.le, g2.ok, g2.dx, g2.ll, g2.pb⟩ : Lx7 H a X (fun _ => []) 7 H2).setC f1 A.c1), ⟨t.tk⟩, ln, ea2, setC_hit _ _ _, ⟨none, (setC_miss (adNe (by decide))).trans (g2.le.cs _ _ b2)⟩, A2, fun k hk => (z2 k hk).1, fun k hk => (z2 k hk).2⟩
      generalize H2.setC (L + 1) (some (.ref TW)) = H3 at *
      clear hC hC3 hTW hLN hit hit2 hrg hrg2 lz l0 e e2
      refine EsT.cons ?_
      refine ExT.for ?_
      refine EvT.local ?_
      have eW3 : H3.ls WL = some (wq nums) := fw.le.ls _ _ ew
      refine ItrT.list eW3 fun it3 hit3 => ?_
      have it3H : ¬ H.dom it3 := fun d => hit3 (fw.le.dom d)
      have hzl : (wq nums).length = 6 := by rw [wq_len]; exact hl
      refine for_src (K := fun _ H' => H'.ls WL = some (wq nums)) (m := (wq nums).length) (JWord H a X LN TW L FD T number nums) (Src.list (l := WL) (fun _ _ k => k)) (fun i st g => g.f.le.ls _ _ ew)
        ⟨⟨rfl, rfl, rfl⟩, ?first⟩ (setI_hit _ _ _) (fun i lo H' x g => ⟨g.l, g.f.setI it3H⟩) (fun i lo H' hi g ei N hN hC hB hR => ?word) (fun lo H' g => ?loop)
      case first =>
        have : up (fun _ => ([] : List Nat)) 3 (nums.take 0) = fun _ => [] := up_id (fun _ => []) 3
        rw [this]; exact fw.setI it3H
      case word =>
        obtain ⟨gl, f⟩ := g
        rw [hzl] at hi
        have hi' : i < nums.length := by omega
        have ev : (wq nums)[i]?.getD .none = tokS (chL nums[i]) := by rw [wq, List.getElem?_map, List.getElem?_eq_getElem hi']; rfl
        rw [ev]
        have et : nums.take (i + 1) = nums.take i ++ [nums[i]] := by rw [List.take_add_one, List.getElem?_eq_getElem hi']; rfl
        refine AsT.name (StoreT.local ?_)
        have hz : (up (fun _ => ([] : List Nat)) 3 (nums.take i) 3).length ≤ 900 := by rw [up_hit, List.length_take]; omega
        refine EsT.cons ?_; refine ExT.expr ?_; refine EvT.method ?_; refine EvT.sub ?_
        refine EvT.local ?_ (lm (by decide) gl.gl)
        refine EvT.int ?_
        refine ⟨SubOk.ls f.ln, GetT.list f.ln (by decide) (by decide) (refs7_at X (k := 3) (by decide)) ?_⟩
        refine GmT.inst (f.lx.ok 3 (by decide)).x (f.lx.dx 3 (by decide)) (by rfl) (fi_pushToken _) (ty_fn _).2.2 ?_
        refine ArgsT.pos ?_; refine ItsT.cons ?_
        refine EvT.local ?_ lh
        refine ItsT.nil ?_
        refine ⟨.inl (by kernel_rfl), CallT.cal (fw_push f (p := 3) (by decide) (le_up hn) hz fun f4 => ?_)⟩
        refine ⟨by simp, ?_⟩
        refine EsT.cons ?_; refine ExT.expr ?_; refine EvT.method ?_; refine EvT.sub ?_
        refine EvT.cell (a := L + 1) f4.c1 ?_
        refine EvT.int ?_
        refine ⟨SubOk.ls f4.twl, GetT.list f4.twl (by decide) (by decide) (refs7_at T (k := 3) (by decide)) ?_⟩
        refine GmT.list (f4.tw.tk 3 (by decide)) F.slot_list_append F.type_list_append ?_
        refine ArgsT.pos ?_; refine ItsT.cons ?_
        refine EvT.local ?_ lh
        refine ItsT.nil ?_
        refine ⟨trivial, fw_append f4 (p := 3) (by decide) hz fun f5 => ?_⟩
        refine ⟨by simp, ?_⟩
        refine EsT.nil ?_
        have eqs : up (up (fun _ => ([] : List Nat)) 3 (nums.take i)) 3 (up (fun _ => ([] : List Nat)) 3 (nums.take i) 3 ++ [nums[i]]) = up (fun _ => []) 3 (nums.take (i + 1)) := by rw [up_hit, up_up, et]
        rw [eqs] at f5
        exact hN ⟨⟨gl.put (by decide) (by decide) (by decide), f5⟩, ei⟩
      case loop =>
        obtain ⟨gl, f⟩ := g
        rw [hzl, ← hl, List.take_length] at f
        have f' : FW H a X LN TW (L + 1) (L + 2) T (q0 nums) (q0 nums) (H'.delI it3) := f.delI it3H
        generalize H'.delI it3 = H4 at *
        refine EsT.nil ?_
        refine EsT.cons ?_
        refine ExT.for ?_
        refine EvT.call ?_; refine EvT.builtin ?_; refine ArgsT.pos ?_; refine ItsT.cons ?_; refine EvT.int ?_; refine ItsT.nil ?_
        refine ⟨trivial, CalT.range1 fun rg4 hrg4 => ?_⟩
        refine ItrT.rng (setI_hit _ _ _) (by decide) fun it4 hit4 => ?_
        have rg4H : ¬ H.dom rg4 := fun d => hrg4 (f'.le.dom d)
        have it4H : ¬ H.dom it4 := fun d => hit4 (dom_setI (f'.le.dom d))
        refine for_src (K := fun _ _ => True) (m := 14) (JFire H a X LN TW L FD nums) (Src.range 0 1) (fun _ _ _ => trivial)
          ⟨T, _, number, (f'.setI rg4H).setI it4H, gl, Pur.zero hl, hnum⟩ (setI_hit _ _ _) (fun i lo H' x ⟨T, q, num, f, g⟩ => ⟨T, q, num, f.setI it4H, g⟩) (fun i lo H' hi ⟨T, q, num, f, gl, P, hm⟩ ei N hN hC hB hR => ?fire) (fun lo H' ⟨T, q, num, f, gl, P, hm⟩ => ?last)
        case last =>
          obtain ⟨e, E⟩ := P.end hl h24
          have f9 := f.delI it4H
          generalize H'.delI it4 = H9 at *
          refine EsT.nil ?_
          refine EsT.cons ?_; refine ExT.return ?_
          refine EvT.comp (cl := []) ?_
          refine EvT.binOp ?_
          refine EvT.local ?_ gl.gl
          refine EvT.local ?_ gl.gl
          refine BinT.addL f9.ln f9.ln (by rw [sizeLine_eq]; simp [refs7]) fun LL2 hLL2 => ?_
          have w2 := f9.away hLL2
          have f10 := f9.setL (v := refs7 X ++ refs7 X) w2
          have el2 : (H9.setL LL2 (refs7 X ++ refs7 X)).ls LL2 = some (refs7 X ++ refs7 X) := setL_hit _ _ _
          generalize H9.setL LL2 (refs7 X ++ refs7 X) = H10 at *
          refine ItrT.list el2 fun itb hitb => ?_
          intro R Cb hR hCb
          have R' : ¬ H10.dom R := fun d => hR (dom_setI d)
          have wR := f10.away R'
          have itbH : ¬ H.dom itb := fun d => hitb (f10.le.dom d)
          have R2 : R ≠ LL2 := fun e => R' (e ▸ AH.dom_ls el2)
          have l14 : (refs7 X ++ refs7 X).length = 14 := by simp [refs7]
          obtain ⟨t1, t2, t3, t4⟩ := told14_at E.len
          have k0 : LaK H a X LL2 q 0 ((H10.setI itb (.list LL2 0)).setL R []) := by
            refine LaK.setL (LaK.setI ⟨f10.le, el2, f10.lx.ok, f10.lx.dx, fun k hk => ?_, fun k hk => ?_⟩ itbH) wR.h6 wR.h2 wR.h1 R2
            · have : leftA k 0 = [122] := leftA_full (Nat.not_lt_zero _)
              rw [this]; exact f10.lx.ll k hk
            · have : qA q k 0 = q k := if_neg (Nat.not_lt_zero _)
              rw [this]; exact f10.lx.pb k hk
          have A := f.s.ap
          refine cs_src (K := LaK H a X LL2 q) (m := (refs7 X ++ refs7 X).length) (fun i => (told14 e)[i]?.getD .none) (Src.list (fun _ _ k => k.l2)) (by omega)
            k0 (setI_hit _ _ _) (setL_hit _ _ _) (fun i H' x k => k.setI itbH) (fun i H' x k => k.setL wR.h6 wR.h2 wR.h1 R2) (fun i H' k => k.delI itbH) (fun i lo11 H11 hi k er ei N hN => ?_) (fun ⟨lo11, H11⟩ k er => ?_)
          · rw [l14] at hi
            refine AsT.name (StoreT.local ?_)
            by_cases hA : i < 7 ∧ i ≠ 3
            · have ev : (refs7 X ++ refs7 X)[i]?.getD .none = .ref (X i) := by rw [List.getElem?_append_left (by simp [refs7]; omega), refs7_at X hA.1]; rfl
              rw [ev]
              have hq := E.at hA.1 hA.2
              have hqA : qA q i i = [zA e i] := (if_neg (Nat.lt_irrefl _)).trans hq
              refine EvT.method (EvT.local (GmT.inst (k.ok i hA.1).x (k.dx i hA.1) (by rfl) (fi_getToken _) (ty_fn _).2.1 ?_) lh)
              refine ArgsT.nil ?_
              refine ⟨.inl (by kernel_rfl), CallT.cal (T_getQ (q := wq []) (v := tokS (chL (zA e i))) (k.ok i hA.1).x (k.dx i hA.1) ((k.pb i hA.1).trans (by rw [hqA]; rfl)) (le_up hn) (by decide) ?_)⟩
              have nR : R ≠ (a i).PB := wR.h1 i hA.1
              exact hN ⟨(t1 i hA.1 hA.2).symm, k.popQ A hA.1 hA.2 (Ne.symm (w2.h1 i hA.1)), (setL_miss nR).trans er, ei⟩
            · obtain ⟨j, hj, hji⟩ : ∃ j, j < 7 ∧ (j = i ∧ i = 3 ∨ i = j + 7) := by
                by_cases h : i < 7
                · exact ⟨3, by omega, .inl ⟨by omega, by omega⟩⟩
                · exact ⟨i - 7, by omega, .inr (by omega)⟩
              have ev : (refs7 X ++ refs7 X)[i]?.getD .none = .ref (X j) := by
                rcases hji with ⟨h1, h2⟩ | h2
                · rw [List.getElem?_append_left (by simp [refs7]; omega), ← h1, refs7_at X hj]; rfl
                · rw [List.getElem?_append_right (by simp [refs7]; omega), h2]
                  rw [show j + 7 - (refs7 X).length = j by simp [refs7], refs7_at X hj]; rfl
              rw [ev]
              have hqA : qA q j i = [] := by
                rcases hji with ⟨h1, h2⟩ | h2
                · unfold qA; rw [if_neg (by omega), h1, h2]; exact E.q3
                · exact if_pos (by omega)
              obtain ⟨tt, ht1, ht2⟩ : ∃ tt, lx .start (leftA j i) [] 1 = (tt, [], 1) ∧ (told14 e)[i]?.getD .none = tokS tt := by
                rcases hji with ⟨h1, h2⟩ | h2
                · subst h1 h2; exact ⟨[122], rfl, t2⟩
                · subst h2
                  refine ⟨if j = 3 then [] else [122], ?_, t3 j hj⟩
                  by_cases h3 : j = 3
                  · subst h3; rfl
                  · have : leftA j (j + 7) = [122] := leftA_full (by rw [if_neg h3]; omega)
                    rw [this, if_neg h3]; rfl
              refine EvT.method (EvT.local (GmT.inst (k.ok j hj).x (k.dx j hj) (by rfl) (fi_getToken _) (ty_fn _).2.1 ?_) lh)
              refine ArgsT.nil ?_
              refine ⟨.inl (by kernel_rfl), CallT.cal (T_getTok' (left := leftA j i) (ln := 1) (k.ok j hj) ((k.pb j hj).trans (by rw [hqA]; rfl)) (k.ll j hj) (k.dx j hj) (le_up hn) (leftA_len j i) ht1 ?_)⟩
              exact hN ⟨ht2.symm, k.readT A hj hji E.q3 (Ne.symm (w2.h2 j hj)), (lexH_ls (wR.h2 j hj)).trans er, ei⟩
          · refine h H11 R e k.le wR.h6 E.len E.perm E.srt (er.trans (congrArg some ?_))
            rw [l14]
            apply List.ext_getElem?
            intro m
            by_cases hm : m < 14
            · rw [List.getElem?_map, List.getElem?_range hm]
              show some ((told14 e)[m]?.getD .none) = _
              rw [List.getElem?_eq_getElem (show m < (told14 e).length by omega)]; rfl
            · rw [List.getElem?_eq_none (by simp; omega), List.getElem?_eq_none (by omega)]
        case fire =>
          rw [rg0]
          refine AsT.name (StoreT.local ?_)
          have own := P.own hl h24 hi
          refine EsT.cons ?_
          refine ExT.assignName ?_
          refine EvT.comp (cl := [("twins", L + 1)]) ?_
          refine EvT.call ?_; refine EvT.builtin ?_; refine ArgsT.pos ?_; refine ItsT.cons ?_; refine EvT.int ?_; refine ItsT.cons ?_; refine EvT.int ?_; refine ItsT.nil ?_
          refine ⟨trivial, CalT.range2 fun rg5 hrg5 => ?_⟩
          refine ItrT.rng (setI_hit _ _ _) (by decide) fun it5 hit5 => ?_
          intro OW C5 hOW hC5
          have n45 : it4 ≠ it5 := fun e => hit5 (dom_setI (e ▸ AH.dom_is ei))
          have n4r : it4 ≠ rg5 := fun e => hrg5 (e ▸ AH.dom_is ei)
          have it5H : ¬ H.dom it5 := fun d => hit5 (dom_setI (f.le.dom d))
          have rg5H : ¬ H.dom rg5 := fun d => hrg5 (f.le.dom d)
          have OW' : ¬ H'.dom OW := fun d => hOW (dom_setI (dom_setI d))
          have aw := f.away OW'
          have l6 : ∀ k, k < 7 → (q k).length ≤ 900 := fun k hk => by
            have h1 := P.tot (fun _ => true)
            have h2 : (q k).countP (fun _ => true) ≤ totF (fun _ => true) q := le_sum_mem (List.mem_map.mpr ⟨k, List.mem_range.mpr hk, rfl⟩)
            have h3 : nums.countP (fun _ => true) ≤ nums.length := List.countP_le_length
            have h4 : (q k).countP (fun _ => true) = (q k).length := List.countP_eq_length.mpr fun _ _ => rfl
            omega
          refine CsT.start (SelfT.range (setI_hit _ _ _)) ?_
          refine ClT.rule (JOwn H a X LN TW L T q it4 (rgS 0 1 14 (i + 1)) OW it5) 5
            ⟨0, by decide, rfl, ⟨((f.setI rg5H).setI it5H).setL aw, (setI_miss n45).trans ((setI_miss n4r).trans ei), setL_hit _ _ _⟩, setI_hit _ _ _⟩ ?_
          rintro kk ⟨lo5, H5⟩ ⟨j, hj, rfl, o, e5⟩ N5 hN5
          have src : Src w h₀ (n + 1) it5 (fun _ _ => True) 5 (rgS 1 1 5) (fun j => .int (1 + (j : Int) * 1) 0) := Src.range 1 1
          by_cases hj5 : j < 5
          · refine src.next j _ _ hj5 trivial e5 ?_
            have hj7 : j + 1 < 7 := by omega
            have lenk := lens_at q hj7
            have lq := l6 (j + 1) hj7
            have oS := ownT_succ (lens q) hj5
            have oL := ownT_len (lens q) (j + 1)
            have o6 := own.six
            refine AsT.name (StoreT.local ?_)
            refine TestsT.nil (ifT' rfl ?_)
            refine EmitT.next ?_
            rw [show (1 + (j : Int) * 1) = ((j + 1 : Nat) : Int) by omega]
            have o' := o.setI (b := it5) (v := rgS 1 1 5 (j + 1)) it5H n45
            refine EvT.sub ?_
            refine EvT.cell (a := L + 1) o'.f.c1 ?_
            refine EvT.local ?_ lh
            refine ⟨SubOk.ls o'.f.twl, GetT.list o'.f.twl (nn0 _) (by omega) (by rw [Int.toNat_natCast]; exact refs7_at T hj7) ?_⟩
            refine ItrT.list (o'.f.tw.tk _ hj7) fun it6 hit6 => ?_
            have n46 : it4 ≠ it6 := fun e => hit6 (e ▸ AH.dom_is o'.i4)
            have n56 : it5 ≠ it6 := fun e => hit6 (e ▸ AH.dom_is (setI_hit _ _ _))
            have it6H : ¬ H.dom it6 := fun d => hit6 (o'.f.le.dom d)
            refine CsT.start (SelfT.list (setI_hit _ _ _)) ?_
            refine ClT.rule (d := 1) (JTwin H a X LN TW L T q it4 (rgS 0 1 14 (i + 1)) OW it5 it6 j) (q (j + 1)).length
              ⟨0, Nat.zero_le _, rfl, by
                have e0 : (ownT (lens q) j ++ if 1 < (lens q)[j + 1]?.getD 0 then List.replicate 0 (j + 1) else []) = ownT (lens q) j := by split <;> simp
                rw [e0]; exact o'.setI it6H n46, (setI_miss n56).trans (setI_hit _ _ _), setI_hit _ _ _, lh⟩ ?_
            rintro kk ⟨lo6, H6⟩ ⟨r, hr, rfl, o2, e52, e6, gk⟩ N6 hN6
            by_cases hrl : r < (q (j + 1)).length
            · refine NxT.list (v := tokS (chL (q (j + 1))[r])) e6 (o2.f.tw.tk _ hj7) (by rw [wq, List.getElem?_map, List.getElem?_eq_getElem hrl]; rfl) ?_
              have o3 := o2.setI (b := it6) (v := .list (T (j + 1)) (r + 1)) it6H n46
              refine AsT.name (StoreT.local ?_)
              refine TestsT.one ?_
              refine IfT.compare ?_; refine EvT.call ?_; refine EvT.builtin ?_; refine ArgsT.pos ?_; refine ItsT.cons ?_; refine EvT.sub ?_
              refine EvT.cell (a := L + 1) o3.f.c1 ?_
              refine EvT.local ?_ (lm (by decide) gk)
              refine ⟨SubOk.ls o3.f.twl, GetT.list o3.f.twl (nn0 _) (by omega) (by rw [Int.toNat_natCast]; exact refs7_at T hj7) ?_⟩
              refine ItsT.nil ?_
              refine ⟨trivial, CalT.len (o3.f.tw.tk _ hj7) (by rw [wq_len]; omega) ?_⟩
              refine EvT.int ?_
              rw [wq_len]
              refine CmpT.gtI (TruT.bool (ifB (fun hc => ?_) fun hc => ?_))
              · have hc' : 1 < (q (j + 1)).length := by have := of_decide_eq_true hc; omega
                refine EmitT.last ?_
                refine EvT.local ?_ (lm (by decide) gk)
                have o4 : H6.ls OW = some (intV (ownT (lens q) j ++ List.replicate r (j + 1))) := by have := o3.ac; rwa [lenk, if_pos hc'] at this
                have len4 : (ownT (lens q) j ++ List.replicate r (j + 1)).length ≤ 1000 := by
                  have := ownT_len (lens q) j
                  rw [List.length_append, List.length_replicate]; omega
                refine CalT.append o4 (by rw [intV, List.length_map]; omega) ?_
                refine hN6 ⟨(q (j + 1)).length - (r + 1), by omega, r + 1, hrl, rfl, ⟨o3.f.setL aw, o3.i4, ?_⟩, (setI_miss n56).trans e52, setI_hit _ _ _, lm (by decide) gk⟩
                refine (setL_hit _ _ _).trans (congrArg some ?_)
                rw [lenk, if_pos hc', List.replicate_succ', ← List.append_assoc, intV_app _ [j + 1]]; rfl
              · have hc' : ¬ 1 < (q (j + 1)).length := by have := of_decide_eq_false hc; omega
                refine hN6 ⟨(q (j + 1)).length - (r + 1), by omega, r + 1, hrl, rfl, ⟨o3.f, o3.i4, ?_⟩, (setI_miss n56).trans e52, setI_hit _ _ _, lm (by decide) gk⟩
                have := o3.ac
                rw [lenk, if_neg hc'] at this ⊢
                exact this
            · have : r = (q (j + 1)).length := by omega
              subst this
              refine NxT.listEnd e6 (o2.f.tw.tk _ hj7) (List.getElem?_eq_none (by rw [wq_len]; exact Nat.le_refl _)) ?_
              refine hN5 ⟨5 - (j + 1), by omega, j + 1, hj5, rfl, ?_, ((delI_agree H6 it6).is it5 n56).trans e52⟩
              rw [oS]
              have := o2.delI it6H n46
              rw [lenk] at this ⊢
              exact this
          · have : j = 5 := by omega
            subst this
            refine src.done _ _ trivial e5 ?_
            have o' := o.delI it5H n45
            rw [ownT_5] at o'
            change (fun st' : St => _) (⟨lo5, H5.delI it5⟩ : St)
            generalize H5.delI it5 = H6 at *
            obtain ⟨fo, ei6, eOW⟩ := o'
            obtain ⟨v2, ec2⟩ := fo.c2
            refine StoreT.cell (a := L + 2) ec2 ?_
            have fc := fo.setC2 (v := some (.ref OW))
            have c2v : (H6.setC (L + 2) (some (.ref OW))).cs (L + 2) = some (some (.ref OW)) := setC_hit _ _ _
            have eOW2 : (H6.setC (L + 2) (some (.ref OW))).ls OW = some (intV (ownersL (lens q))) := eOW
            have ei7 : (H6.setC (L + 2) (some (.ref OW))).is it4 = H6.is it4 := rfl
            rw [ei6] at ei7
            generalize H6.setC (L + 2) (some (.ref OW)) = H7 at *
            clear hOW hC5 hit5 hrg5 ei6 eOW ec2 fo o
            refine EsT.cons ?_
            refine ExT.assignComp (cl := [("owners", L + 2)]) ?_
            refine EvT.call ?_; refine EvT.builtin ?_; refine ArgsT.pos ?_; refine ItsT.cons ?_; refine EvT.int ?_; refine ItsT.cons ?_; refine EvT.int ?_; refine ItsT.nil ?_
            have p7 : PlK H a X LN TW (L + 1) (L + 2) T q it4 _ OW (ownersL (lens q)) H7 := ⟨fc, ei7, c2v, eOW2⟩
            refine ⟨trivial, CalT.range2 fun rg6 hrg6 => ?_⟩
            refine ItrT.rng (setI_hit _ _ _) (by decide) fun it7 hit7 => ?_
            intro PL C6 hPL hC6
            have it7' : ¬ H7.dom it7 := fun d => hit7 (dom_setI d)
            have PL' : ¬ H7.dom PL := fun d => hPL (dom_setI (dom_setI d))
            refine cs_ex (JPl H7 q) (m := 5) (Src.range 1 1) (by decide) ⟨((AHle.refl.setI hrg6).setI it7').setL PL', rfl⟩ (setI_hit _ _ _) (setL_hit _ _ _)
              (fun i vs H' x ⟨l, e⟩ => ⟨l.setI it7', e⟩) (fun i vs H' x ⟨l, e⟩ => ⟨l.setL PL', e⟩) (fun i vs H' ⟨l, e⟩ => ⟨l.delI' it7', e⟩) (fun j vs lo7 H8 hj ⟨l, e⟩ ea el ej N7 M7 hN7 hM7 => ?pl) (fun ⟨lo7, H8⟩ vs ⟨l, e⟩ ea => ?pd)
            case pl =>
              have p8 := p7.mono l
              rw [show (1 + (j : Int) * 1) = ((j + 1 : Nat) : Int) by omega]
              refine AsT.name (StoreT.local ?_)
              refine TestsT.one ?_
              refine IfT.compare ?_
              refine EvT.local ?_ lh
              refine EvT.cell (a := L + 2) p8.c2 ?_
              refine CmpT.inLI (xs := (ownersL (lens q)).map fun x : Nat => ((x : Nat) : Int)) (p8.ow.trans (congrArg some (intV_eq _))) ?_
              rw [any_int]
              refine TruT.bool (ifB (fun hc => ?_) fun hc => ?_)
              · have hc' := of_decide_eq_true hc
                refine EvT.local ?_ lh
                refine hN7 ⟨⟨l, ?_⟩, ea, ej⟩
                rw [e, placesT_succ _ hj, if_pos hc', intV_app]; rfl
              · have hc' := of_decide_eq_false hc
                refine hM7 ⟨⟨l, ?_⟩, ea, ej⟩
                rw [e, placesT_succ _ hj, if_neg hc', List.append_nil]
            case pd =>
              rw [e, placesT_5] at ea
              have p8 := p7.mono l
              clear hPL hC6 hit7 hrg6
              refine StoreT.local ?_
              refine EsT.cons ?_
              refine ExT.assignComp (cl := [("owners", L + 2)]) ?_
              refine EvT.local ?_ lh
              refine ItrT.list ea fun it8 hit8 => ?_
              intro SL C7 hSL hC7
              have SL' : ¬ H8.dom SL := fun d => hSL (dom_setI d)
              have pll := placesT_len (lens q) 5
              rw [placesT_5] at pll
              have ipl : (intV (placesL (lens q))).length = (placesL (lens q)).length := List.length_map ..
              refine comp1 (m := (intV (placesL (lens q))).length) (fun j => .int (((ownersL (lens q)).idxOf ((placesL (lens q))[j]?.getD 0) : Nat) : Int) 0) hit8 hSL (Src.list (fun _ _ l => l.ls _ _ ea)) (by omega) (fun j lo8 H9 hj l9 N8 hN8 => ?_) (fun ⟨lo8, H9⟩ hSL l9 es => ?_)
              · rw [ipl] at hj
                have evj : (intV (placesL (lens q)))[j]?.getD .none = .int (((placesL (lens q))[j] : Nat) : Int) 0 := by rw [intV, List.getElem?_map, List.getElem?_eq_getElem hj]; rfl
                rw [evj]
                have p9 := p8.mono l9
                have hm9 := places_mem (List.getElem_mem hj)
                refine AsT.name (StoreT.local ?_)
                refine EvT.method (EvT.cell (a := L + 2) p9.c2 (GmT.list p9.ow F.slot_list_index F.type_list_index ?_))
                refine ArgsT.pos ?_; refine ItsT.cons ?_
                refine EvT.local ?_ lh
                refine ItsT.nil ?_
                refine ⟨trivial, CalT.indexI (ns := (ownersL (lens q)).map fun x : Nat => ((x : Nat) : Int)) (p9.ow.trans (congrArg some (intV_eq _))) (by rw [List.length_map]; have := own.six; omega) (List.mem_map.mpr ⟨_, hm9, rfl⟩) ?_⟩
                rw [idx_int]
                exact hN8 ⟨by rw [List.getElem?_eq_getElem hj]; rfl, .refl⟩
              · have p9 := p8.mono l9
                have ea9 := l9.ls _ _ ea
                have es9 : H9.ls SL = some (intV (startsL (lens q))) := by
                  refine es.trans (congrArg some ?_)
                  rw [ipl, startsL]
                  generalize placesL (lens q) = pp
                  apply List.ext_getElem?
                  intro k
                  rw [intV, List.map_map, List.getElem?_map, List.getElem?_map]
                  by_cases hk : k < pp.length
                  · rw [List.getElem?_range hk, List.getElem?_eq_getElem hk]; simp [hk]
                  · rw [List.getElem?_eq_none (by simp; omega), List.getElem?_eq_none (by omega)]; rfl
                refine StoreT.local ?_
                have gl9 : FL LN FD num (lput "starts" (.ref SL) (lput "places" (.ref PL) (lput "step" (.int i 0) lo))) := ((gl.put (by decide) (by decide) (by decide)).put (by decide) (by decide) (by decide)).put (by decide) (by decide) (by decide)
                have g9s : Lo.g (lput "starts" (.ref SL) (lput "places" (.ref PL) (lput "step" (.int i 0) lo))) "starts" = some (.ref SL) := lh
                have g9p : Lo.g (lput "starts" (.ref SL) (lput "places" (.ref PL) (lput "step" (.int i 0) lo))) "places" = some (.ref PL) := lm (by decide) lh
                have g9i : Lo.g (lput "starts" (.ref SL) (lput "places" (.ref PL) (lput "step" (.int i 0) lo))) "step" = some (.int i 0) := lm (by decide) (lm (by decide) lh)
                change EsT w h₀ _ _ ⟨lput "starts" (.ref SL) (lput "places" (.ref PL) (lput "step" (.int i 0) lo)), H9⟩ _
                generalize lput "starts" (.ref SL) (lput "places" (.ref PL) (lput "step" (.int i 0) lo)) = lo9 at *
                refine EsT.cons ?_; refine ExT.assignName ?_; refine EvT.binOp ?_; refine EvT.binOp ?_; refine EvT.int ?_; refine EvT.binOp ?_; refine EvT.binOp ?_
                refine EvT.local ?_ g9i
                refine EvT.int ?_
                refine BinT.modI ?_ (by decide)
                refine EvT.int ?_
                have hmod : 0 ≤ (i : Int).fmod 2 ∧ (i : Int).fmod 2 < 2 := ⟨Int.fmod_nonneg_of_pos _ (by decide), Int.fmod_lt_of_pos _ (by decide)⟩
                obtain ⟨sg, esg, hsg⟩ : ∃ sg, 1 - (i : Int).fmod 2 * 2 = sg ∧ (sg = 1 ∨ sg = -1) := ⟨_, rfl, by omega⟩
                refine BinT.mulI ?_ (.of_le (m := 2) (n := 2) (intBits_le_iff.mpr (by omega)) (by decide) (by decide))
                refine BinT.subI ?_
                rw [esg]
                refine EvT.binOp ?_; refine EvT.binOp ?_; refine EvT.int ?_; refine EvT.int ?_
                refine BinT.shlI ?_ (by decide) (by decide)
                refine EvT.int ?_
                refine BinT.subI ?_
                rw [show (1 : Int) * 2 ^ (61 : Int).toNat - 1 = Uc from by decide]
                have bsg : Builtin.Int.intBits sg ≤ 1 := by rcases hsg with rfl | rfl <;> decide
                refine BinT.mulI ?_ (.of_le (m := 1) (n := 61) bsg (by decide) (by decide))
                refine StoreT.local ?_
                have bu : Builtin.Int.intBits (sg * Uc) ≤ 62 := intBits_mul_le bsg (show Builtin.Int.intBits Uc ≤ 61 by decide)
                refine EsT.cons ?_; refine ExT.assignName ?_; refine EvT.binOp ?_; refine EvT.call ?_; refine EvT.builtin ?_; refine ArgsT.pos ?_; refine ItsT.cons ?_
                refine EvT.local ?_ lh
                refine ItsT.nil ?_
                refine ⟨trivial, CalT.abs ?_⟩
                rw [show (if sg * Uc < 0 then -(sg * Uc) else sg * Uc) = Uc by rcases hsg with rfl | rfl <;> decide]
                refine EvT.local ?_ (lm (by decide) gl9.gn)
                have bm : Builtin.Int.intBits num ≤ 48 := intBits_le_iff.mpr (Nat.lt_of_le_of_lt hm (by decide))
                refine BinT.mulI ?_ (.of_le (m := 61) (n := 48) (by decide) bm (by decide))
                refine StoreT.local ?_
                have g10 := (gl9.put (x := "unit") (v := .int (sg * Uc) 0) (by decide) (by decide) (by decide)).put (x := "dividend") (v := .int (Uc * num) 0) (by decide) (by decide) (by decide)
                have g10s : Lo.g (lput "dividend" (.int (Uc * num) 0) (lput "unit" (.int (sg * Uc) 0) lo9)) "starts" = some (.ref SL) := (lm (by decide) (lm (by decide) g9s))
                have g10p : Lo.g (lput "dividend" (.int (Uc * num) 0) (lput "unit" (.int (sg * Uc) 0) lo9)) "places" = some (.ref PL) := (lm (by decide) (lm (by decide) g9p))
                have g10u : Lo.g (lput "dividend" (.int (Uc * num) 0) (lput "unit" (.int (sg * Uc) 0) lo9)) "unit" = some (.int (sg * Uc) 0) := (lm (by decide) lh)
                have g10d : Lo.g (lput "dividend" (.int (Uc * num) 0) (lput "unit" (.int (sg * Uc) 0) lo9)) "dividend" = some (.int (Uc * num) 0) := lh
                change EsT w h₀ _ _ ⟨lput "dividend" (.int (Uc * num) 0) (lput "unit" (.int (sg * Uc) 0) lo9), H9⟩ _
                generalize lput "dividend" (.int (Uc * num) 0) (lput "unit" (.int (sg * Uc) 0) lo9) = lo10 at *
                have two := own.two
                have six := own.six
                obtain ⟨lw, elw⟩ : ∃ lw, lw = (ownersL (lens q)).length := ⟨_, rfl⟩
                rw [← elw] at two six
                have db := div_bits hsg two six
                have il : (intV (ownersL (lens q))).length = lw := (List.length_map ..).trans elw.symm
                refine EsT.cons ?_; refine ExT.assignName ?_; refine EvT.call ?_; refine EvT.global ?_; refine ArgsT.pos ?_; refine ItsT.cons ?_
                refine EvT.local ?_ g10d
                refine ItsT.cons ?_; refine EvT.binOp ?_
                refine EvT.local ?_ g10u
                refine EvT.call ?_; refine EvT.builtin ?_; refine ArgsT.pos ?_; refine ItsT.cons ?_
                refine EvT.cell (a := L + 2) p9.c2 ?_
                refine ItsT.nil ?_
                refine ⟨trivial, CalT.len p9.ow (by omega) ?_⟩
                rw [il]
                have blw : Builtin.Int.intBits (lw : Int) ≤ 64 := intBits_cast_le (by rw [sizeLine_eq]; omega)
                refine BinT.mulI ?_ (.of_le (m := 62) (n := 64) bu blw (by decide))
                refine ItsT.nil ?_
                refine ⟨.inl (by kernel_rfl), CallT.cal (T_idm db.2.2 (by omega) (Nat.le_trans (uc_bits hm) (by omega)) (le_up hn) fun H10 t1 l10 ht1 et1 => ?_)⟩
                have p10 := p9.mono l10
                refine StoreT.local ?_
                refine EsT.cons ?_; refine ExT.if ?_; refine IfT.compare ?_
                refine EvT.local ?_ lh
                refine EvT.call ?_; refine EvT.builtin ?_; refine ArgsT.pos ?_; refine ItsT.cons ?_
                refine EvT.local ?_ (lm (by decide) g10d)
                refine ItsT.cons ?_; refine EvT.binOp ?_
                refine EvT.local ?_ (lm (by decide) g10u)
                refine EvT.call ?_; refine EvT.builtin ?_; refine ArgsT.pos ?_; refine ItsT.cons ?_
                refine EvT.cell (a := L + 2) p10.c2 ?_
                refine ItsT.nil ?_
                refine ⟨trivial, CalT.len p10.ow (by omega) ?_⟩
                rw [il]
                refine BinT.mulI ?_ (.of_le (m := 62) (n := 64) bu blw (by decide))
                refine ItsT.nil ?_
                have dlog : (sg * Uc * (lw : Int)).natAbs.log2 < 9000 := by
                  have h1 : (sg * Uc * (lw : Int)).natAbs < 2 ^ 64 := intBits_le_iff.mp db.2.1
                  have h2 : (sg * Uc * (lw : Int)).natAbs ≠ 0 := fun e => db.2.2 (Int.natAbs_eq_zero.mp e)
                  have := (Nat.log2_lt h2).mpr h1
                  omega
                refine ⟨trivial, CalT.divmod db.2.2 dlog fun t2 ht2 => ?_⟩
                have t12 : t1 ≠ t2 := fun e => ht2 (e ▸ AH.dom_ts et1)
                refine CmpT.neTI (xs := [_, _]) (ys := [_, _]) ((setT_miss t12).trans et1) (setT_hit _ _ _) (le_up hn) (TruT.bool (ifF (by simp) ?_))
                refine EsT.nil ?_
                have l11 : AHle H10 (H10.setT t2 [.int ((Uc * num).fdiv (sg * Uc * lw)) 0, .int ((Uc * num).fmod (sg * Uc * lw)) 0]) := AHle.setT .refl ht2
                have et1' := l11.ts _ _ et1
                have p11 := p10.mono l11
                have l911 := l10.trans l11
                change EsT w h₀ _ _ ⟨_, H10.setT t2 [.int ((Uc * num).fdiv (sg * Uc * lw)) 0, .int ((Uc * num).fmod (sg * Uc * lw)) 0]⟩ _
                generalize H10.setT t2 [.int ((Uc * num).fdiv (sg * Uc * lw)) 0, .int ((Uc * num).fmod (sg * Uc * lw)) 0] = H11 at *
                have sc := scale_sgn (num := num) hsg (show 0 < lw by omega)
                rw [sc.1, sc.2] at et1'
                have m0 := Int.fmod_nonneg_of_pos (sg * num) (show (0 : Int) < lw by omega)
                have m1 := Int.fmod_lt_of_pos (sg * num) (show (0 : Int) < lw by omega)
                have nb : ((sg * num).fdiv lw).natAbs ≤ 2 ^ 47 := Nat.le_trans (natAbs_fdiv_le _ _) (by rw [Int.natAbs_mul, show sg.natAbs = 1 by rcases hsg with rfl | rfl <;> rfl, Nat.one_mul]; exact hm)
                generalize (sg * num).fdiv lw = num' at *
                obtain ⟨ch, ech⟩ : ∃ ch : Nat, (sg * num).fmod lw = ch := ⟨((sg * num).fmod lw).toNat, by omega⟩
                rw [ech] at m1 et1'
                clear m0 ech sc et1 l10 l11 ht2 ht1 p10
                refine EsT.cons ?_; refine ExT.assignName ?_; refine EvT.sub ?_
                refine EvT.local ?_ lh
                refine EvT.int ?_
                refine ⟨SubOk.ts et1', GetT.tuple et1' (by decide) (by decide) rfl ?_⟩
                refine StoreT.local ?_
                refine EsT.cons ?_; refine ExT.assignName ?_; refine EvT.binOp ?_; refine EvT.sub ?_
                refine EvT.local ?_ (lm (by decide) lh)
                refine EvT.int ?_
                refine ⟨SubOk.ts et1', GetT.tuple et1' (by decide) (by decide) rfl ?_⟩
                refine EvT.local ?_ (lm (by decide) (lm (by decide) g10u))
                refine BinT.divI ?_ (by rcases hsg with rfl | rfl <;> decide) (by rcases hsg with rfl | rfl <;> decide)
                rw [choice_eq hsg]
                refine StoreT.local ?_
                have g12 : FL LN FD num' (lput "choice" (.int ch 0) (lput "number" (.int num' 0) (lput "told" (.ref t1) lo10))) := ⟨(lm (by decide) (lm (by decide) (lm (by decide) g10.gl))), (lm (by decide) (lm (by decide) (lm (by decide) g10.gf))), (lm (by decide) lh)⟩
                have g12s : Lo.g (lput "choice" (.int ch 0) (lput "number" (.int num' 0) (lput "told" (.ref t1) lo10))) "starts" = some (.ref SL) := (lm (by decide) (lm (by decide) (lm (by decide) g10s)))
                have g12p : Lo.g (lput "choice" (.int ch 0) (lput "number" (.int num' 0) (lput "told" (.ref t1) lo10))) "places" = some (.ref PL) := (lm (by decide) (lm (by decide) (lm (by decide) g10p)))
                have g12c : Lo.g (lput "choice" (.int ch 0) (lput "number" (.int num' 0) (lput "told" (.ref t1) lo10))) "choice" = some (.int ch 0) := lh
                change EsT w h₀ _ _ ⟨lput "choice" (.int ch 0) (lput "number" (.int num' 0) (lput "told" (.ref t1) lo10)), H11⟩ _
                generalize lput "choice" (.int ch 0) (lput "number" (.int num' 0) (lput "told" (.ref t1) lo10)) = lo12 at *
                have ch_lt : ch < (ownersL (lens q)).length := by omega
                obtain ⟨p, ep, hp1, hp5, hc1, hpl, hidx, hcp⟩ := own.ch ch ch_lt
                have hp7 : p < 7 := by omega
                rw [lens_at q hp7] at hcp
                have es11 := l911.ls _ _ es9
                have ea11 := l911.ls _ _ ea9
                have pO : p ∈ ownersL (lens q) := List.mem_of_getElem? ep
                refine EsT.cons ?_; refine ExT.assignName ?_; refine EvT.sub ?_
                refine EvT.local ?_ g12p
                refine EvT.binOp ?_; refine EvT.call ?_; refine EvT.global ?_; refine ArgsT.pos ?_; refine ItsT.cons ?_
                refine EvT.local ?_ g12s
                refine ItsT.cons ?_
                refine EvT.local ?_ g12c
                refine ItsT.nil ?_
                have sll : (startsL (lens q)).length ≤ 5 := by rw [startsL, List.length_map]; exact pll
                refine ⟨.inl (by kernel_rfl), CallT.cal (T_bisectRight (A := SL) (xs := (startsL (lens q)).map fun x : Nat => ((x : Nat) : Int)) (x := (ch : Int)) (le_up hn) (es11.trans (congrArg some (intV_eq _))) (by rw [List.length_map]; omega) (List.pairwise_map.mpr (own.srt.imp fun h => by omega)) fun r hr h1 h2 => ?_)⟩
                have hr' : r ≤ (startsL (lens q)).length := by rwa [List.length_map] at hr
                have er : (startsL (lens q)).countP (· ≤ ch) = r := count_bis hr' (fun k hk hkr => by have := h1 k (by rw [List.length_map]; exact hk) hkr; rw [List.getElem_map] at this; omega) (fun k hk hkr => by have := h2 k (by rw [List.length_map]; exact hk) hkr; rw [List.getElem_map] at this; omega)
                rw [er] at hc1 hpl
                refine EvT.int ?_
                refine BinT.subI ?_
                have eq1 : ((r : Int) - 1) = ((r - 1 : Nat) : Int) := by omega
                rw [eq1]
                refine ⟨SubOk.ls ea11, GetT.list (v := .int p 0) ea11 (nn0 _) (by omega) (by rw [Int.toNat_natCast, intV, List.getElem?_map, hpl]; rfl) ?_⟩
                refine StoreT.local ?_
                refine EsT.cons ?_; refine ExT.if ?_; refine IfT.compare ?_
                refine EvT.local ?_ lh
                refine EvT.sub ?_
                refine EvT.cell (a := L + 2) p11.c2 ?_
                refine EvT.local ?_ (lm (by decide) g12c)
                refine ⟨SubOk.ls p11.ow, GetT.list (v := .int p 0) p11.ow (nn0 _) (by omega) (by rw [Int.toNat_natCast, intV, List.getElem?_map, ep]; rfl) ?_⟩
                refine CmpT.neI (TruT.bool (ifF (by simp) ?_))
                refine EsT.nil ?_
                -- the turns
                refine EsT.cons ?_
                refine ExT.for ?_
                refine EvT.call ?_; refine EvT.builtin ?_; refine ArgsT.pos ?_; refine ItsT.cons ?_; refine EvT.binOp ?_
                refine EvT.local ?_ (lm (by decide) g12c)
                refine EvT.method (EvT.cell (a := L + 2) p11.c2 (GmT.list p11.ow F.slot_list_index F.type_list_index ?_))
                refine ArgsT.pos ?_; refine ItsT.cons ?_
                refine EvT.local ?_ lh
                refine ItsT.nil ?_
                refine ⟨trivial, CalT.indexI (ns := (ownersL (lens q)).map fun x : Nat => ((x : Nat) : Int)) (p11.ow.trans (congrArg some (intV_eq _))) (by rw [List.length_map]; omega) (List.mem_map.mpr ⟨_, pO, rfl⟩) ?_⟩
                rw [idx_int]
                refine BinT.subI ?_
                obtain ⟨rr, err⟩ : ∃ rr : Nat, ((ch : Int) - ((ownersL (lens q)).idxOf p : Nat)) = rr := ⟨ch - (ownersL (lens q)).idxOf p, by omega⟩
                have rr7 : rr < 7 := by omega
                rw [err]
                refine ItsT.nil ?_
                refine ⟨trivial, CalT.range1 fun rg9 hrg9 => ?_⟩
                have smallR : ∀ m < 7, Builtin.Range.small 0 ((m : Nat) : Int) 1 = true ∧ Builtin.Range.rangeSize 0 ((m : Nat) : Int) 1 = m := by decide
                refine ItrT.rng (setI_hit _ _ _) (smallR rr rr7).1 fun it9 hit9 => ?_
                rw [(smallR rr rr7).2]
                have n49 : it4 ≠ it9 := fun e => hit9 (dom_setI (e ▸ AH.dom_is p11.i4))
                have n4r9 : it4 ≠ rg9 := fun e => hrg9 (e ▸ AH.dom_is p11.i4)
                have it9H : ¬ H.dom it9 := fun d => hit9 (dom_setI (p11.f.le.dom d))
                have rg9H : ¬ H.dom rg9 := fun d => hrg9 (p11.f.le.dom d)
                have g13 := g12.put (x := "place") (v := .int p 0) (by decide) (by decide) (by decide)
                have lp := l6 p hp7
                refine for_src (K := fun _ _ => True) (m := rr) (JTurn H a X LN TW L FD q p num' it4 (rgS 0 1 14 (i + 1))) (Src.range 0 1) (fun _ _ _ => trivial)
                  ⟨T, q p, by rw [up_id]; exact (p11.f.setI rg9H).setI it9H, .refl _, (setI_miss n49).trans ((setI_miss n4r9).trans p11.i4), g13, lh⟩ (by rw [setI_hit]; simp [rgS])
                  (fun j lo H' x ⟨T', l, f, pl, e4, g, gp⟩ => ⟨T', l, f.setI it9H, pl, (setI_miss n49).trans e4, g, gp⟩) (fun j lo13 H12 hj ⟨T', l, f12, pl, e4, g, gp⟩ ej N9 hN9 hC9 hB9 hR9 => ?turn) (fun lo13 H12 ⟨T', l, f12, pl, e4, g, gp⟩ => ?pair)
                case turn =>
                  refine AsT.name (StoreT.local ?_)
                  have pll2 := pl.length_eq
                  obtain ⟨x, l', rfl, -⟩ := len_succ (pll2.trans (len_pred (Nat.le_trans (by decide) hcp)))
                  have lz : l'.length ≤ 900 := by simp at pll2; omega
                  have gp' := lm (x := "turn") (v := .int (0 + (j : Int) * 1) 0) (by decide) gp
                  have gL' := lm (x := "turn") (v := .int (0 + (j : Int) * 1) 0) (by decide) g.gl
                  refine EsT.cons ?_; refine ExT.expr ?_; refine EvT.method ?_; refine EvT.sub ?_
                  refine EvT.local ?_ gL'
                  refine EvT.local ?_ gp'
                  refine ⟨SubOk.ls f12.ln, GetT.list f12.ln (nn0 _) (by omega) (by rw [Int.toNat_natCast]; exact refs7_at X hp7) ?_⟩
                  refine GmT.inst (f12.lx.ok p hp7).x (f12.lx.dx p hp7) (by rfl) (fi_pushToken _) (ty_fn _).2.2 ?_
                  refine ArgsT.pos ?_; refine ItsT.cons ?_; refine EvT.method ?_; refine EvT.sub ?_
                  refine EvT.local ?_ gL'
                  refine EvT.local ?_ gp'
                  refine ⟨SubOk.ls f12.ln, GetT.list f12.ln (nn0 _) (by omega) (by rw [Int.toNat_natCast]; exact refs7_at X hp7) ?_⟩
                  refine GmT.inst (f12.lx.ok p hp7).x (f12.lx.dx p hp7) (by rfl) (fi_getToken _) (ty_fn _).2.1 ?_
                  refine ArgsT.nil ?_
                  refine ⟨.inl (by kernel_rfl), CallT.cal (fw_get f12 hp7 (up_hit _ _ _) (le_up hn) lz fun f13 => ?_)⟩
                  refine ItsT.nil ?_
                  refine ⟨.inl (by kernel_rfl), CallT.cal (fw_push f13 (x := x) hp7 (le_up hn) (by rw [up_hit]; exact lz) fun f14 => ?_)⟩
                  have eq2 : up (up (up q p (x :: l')) p l') p (up (up q p (x :: l')) p l' p ++ [x]) = up q p (l' ++ [x]) := by rw [up_hit, up_up, up_up]
                  rw [eq2] at f14
                  refine ⟨by simp, ?_⟩
                  have e4' : ((H12.setL (a p).PB (wq l')).setL (a p).PB (wq (up (up q p (x :: l')) p l' p ++ [x]))).is it4 = H12.is it4 := rfl
                  have ej' : ((H12.setL (a p).PB (wq l')).setL (a p).PB (wq (up (up q p (x :: l')) p l' p ++ [x]))).is it9 = H12.is it9 := rfl
                  rw [e4] at e4'
                  rw [show H12.is it9 = _ from ej] at ej'
                  refine EsT.cons ?_
                  change ExT w h₀ _ _ ⟨lput "turn" (.int (0 + (j : Int) * 1) 0) lo13, (H12.setL (a p).PB (wq l')).setL (a p).PB (wq (up (up q p (x :: l')) p l' p ++ [x]))⟩ _
                  generalize (H12.setL (a p).PB (wq l')).setL (a p).PB (wq (up (up q p (x :: l')) p l' p ++ [x])) = H14 at *
                  have tk14 := f14.tw.tk p hp7
                  rw [up_hit] at tk14
                  refine ExT.assignT ?_
                  refine EvT.binOp ?_; refine EvT.slice ?_; refine EvT.sub ?_
                  refine EvT.cell (a := L + 1) f14.c1 ?_
                  refine EvT.local ?_ gp'
                  refine ⟨SubOk.ls f14.twl, GetT.list f14.twl (nn0 _) (by omega) (by rw [Int.toNat_natCast]; exact refs7_at T' hp7) ?_⟩
                  refine PartT.some ?_; refine EvT.int ?_; refine PartT.none ?_; refine PartT.none ?_
                  refine ⟨SubOk.ls tk14, SliT.list (lo := some 1) (hi := none) (st := none) tk14 rfl rfl rfl (by decide) (by rw [wq_len, sizeLine_eq]; simp; omega) fun s1 hs1 => ?_⟩
                  have w1 := f14.away hs1
                  rw [show pick (wq (x :: l')) (some 1) none none = wq l' from pick_from1 _ _]
                  have f15 := f14.setL (v := wq l') w1
                  have tk15 := f15.tw.tk p hp7
                  rw [up_hit] at tk15
                  have es1 : (H14.setL s1 (wq l')).ls s1 = some (wq l') := setL_hit _ _ _
                  refine EvT.slice ?_; refine EvT.sub ?_
                  refine EvT.cell (a := L + 1) f15.c1 ?_
                  refine EvT.local ?_ gp'
                  refine ⟨SubOk.ls f15.twl, GetT.list f15.twl (nn0 _) (by omega) (by rw [Int.toNat_natCast]; exact refs7_at T' hp7) ?_⟩
                  refine PartT.none ?_; refine PartT.some ?_; refine EvT.int ?_; refine PartT.none ?_
                  refine ⟨SubOk.ls tk15, SliT.list (lo := none) (hi := some 1) (st := none) tk15 rfl rfl rfl (by decide) (by rw [wq_len, sizeLine_eq]; simp; omega) fun s2 hs2 => ?_⟩
                  have w2 := f15.away hs2
                  rw [show pick (wq (x :: l')) none (some 1) none = wq [x] from pick_to1 _ _]
                  have f16 := f15.setL (v := wq [x]) w2
                  have n12 : s1 ≠ s2 := fun e => hs2 (e ▸ AH.dom_ls es1)
                  refine BinT.addL ((setL_miss n12).trans es1) (setL_hit _ _ _) (by rw [wq_len, wq_len, sizeLine_eq]; simp; omega) fun s3 hs3 => ?_
                  have w3 := f16.away hs3
                  rw [← wq_app]
                  have f17 := f16.setL (v := wq (l' ++ [x])) w3
                  have es3 : (((H14.setL s1 (wq l')).setL s2 (wq [x])).setL s3 (wq (l' ++ [x]))).ls s3 = some (wq (l' ++ [x])) := setL_hit _ _ _
                  refine AsT.item ?_
                  refine EvT.cell (a := L + 1) f17.c1 ?_
                  refine EvT.local ?_ gp'
                  refine SetIT.list f17.twl (nn0 _) (by omega) (by rw [refs7, List.length_map, List.length_range]; omega) ?_
                  rw [Int.toNat_natCast, refs7_set]
                  have f18 := f17.newT hp7 es3 w3.h1 w3.h2 w3.h3 w3.h4 w3.h5 w3.h6
                  rw [up_up] at f18
                  refine EsT.nil ?_
                  refine hN9 ⟨⟨_, l' ++ [x], f18, (List.perm_append_comm.trans (List.Perm.refl _)).trans pl, e4', g.put (by decide) (by decide) (by decide), gp'⟩, ej'⟩
                case pair =>
                  refine EsT.nil ?_
                  have f13 := f12.delI it9H
                  have e5 : (H12.delI it9).is it4 = some (rgS 0 1 14 (i + 1)) := ((delI_agree H12 it9).is it4 n49).trans e4
                  generalize H12.delI it9 = H13 at *
                  have pll2 := pl.length_eq
                  obtain ⟨x, l1, rfl, hl1⟩ := len_succ (pll2.trans (len_pred (Nat.le_trans (by decide) hcp)))
                  obtain ⟨y, l', rfl, -⟩ := len_succ (hl1.trans (len_pred (Nat.le_sub_of_add_le hcp)))
                  have lz : l'.length ≤ 900 := by simp at pll2; omega
                  have gp' := gp
                  have gL' := g.gl
                  refine EsT.cons ?_; refine ExT.assignName ?_; refine EvT.list ?_; refine ItsT.cons ?_; refine EvT.method ?_; refine EvT.sub ?_
                  refine EvT.local ?_ gL'
                  refine EvT.local ?_ gp'
                  refine ⟨SubOk.ls f13.ln, GetT.list f13.ln (nn0 _) (by omega) (by rw [Int.toNat_natCast]; exact refs7_at X hp7) ?_⟩
                  refine GmT.inst (f13.lx.ok p hp7).x (f13.lx.dx p hp7) (by rfl) (fi_getToken _) (ty_fn _).2.1 ?_
                  refine ArgsT.nil ?_
                  refine ⟨.inl (by kernel_rfl), CallT.cal (fw_get f13 hp7 (up_hit _ _ _) (le_up hn) (by have := pll2; simp at this ⊢; omega) fun f14 => ?_)⟩
                  refine ItsT.cons ?_; refine EvT.method ?_; refine EvT.sub ?_
                  refine EvT.local ?_ gL'
                  refine EvT.local ?_ gp'
                  refine ⟨SubOk.ls f14.ln, GetT.list f14.ln (nn0 _) (by omega) (by rw [Int.toNat_natCast]; exact refs7_at X hp7) ?_⟩
                  refine GmT.inst (f14.lx.ok p hp7).x (f14.lx.dx p hp7) (by rfl) (fi_getToken _) (ty_fn _).2.1 ?_
                  refine ArgsT.nil ?_
                  refine ⟨.inl (by kernel_rfl), CallT.cal (fw_get f14 hp7 (up_hit _ _ _) (le_up hn) lz fun f15 => ?_)⟩
                  rw [up_up, up_up] at f15
                  refine ItsT.nil ?_
                  refine ⟨by rw [sizeLine_eq]; simp, fun pr hpr => ?_⟩
                  have wp := f15.away hpr
                  have f16 := f15.setL (v := wq [x, y]) wp
                  have epr : (((H13.setL (a p).PB (wq (y :: l'))).setL (a p).PB (wq l')).setL pr (wq [x, y])).ls pr = some (wq [x, y]) := setL_hit _ _ _
                  have e6 : (((H13.setL (a p).PB (wq (y :: l'))).setL (a p).PB (wq l')).setL pr (wq [x, y])).is it4 = H13.is it4 := rfl
                  rw [e5] at e6
                  refine StoreT.local ?_
                  change EsT w h₀ _ _ ⟨lput "pair" (.ref pr) lo13, ((H13.setL (a p).PB (wq (y :: l'))).setL (a p).PB (wq l')).setL pr (wq [x, y])⟩ _
                  generalize ((H13.setL (a p).PB (wq (y :: l'))).setL (a p).PB (wq l')).setL pr (wq [x, y]) = H16 at *
                  have tk16 := f16.tw.tk p hp7
                  rw [up_hit] at tk16
                  refine EsT.cons ?_; refine ExT.if ?_; refine IfT.compare ?_
                  refine EvT.local ?_ lh
                  refine EvT.slice ?_; refine EvT.sub ?_
                  refine EvT.cell (a := L + 1) f16.c1 ?_
                  refine EvT.local ?_ (lm (by decide) gp')
                  refine ⟨SubOk.ls f16.twl, GetT.list f16.twl (nn0 _) (by omega) (by rw [Int.toNat_natCast]; exact refs7_at T' hp7) ?_⟩
                  refine PartT.none ?_; refine PartT.some ?_; refine EvT.int ?_; refine PartT.none ?_
                  refine ⟨SubOk.ls tk16, SliT.list (lo := none) (hi := some 2) (st := none) tk16 rfl rfl rfl (by decide) (by rw [wq_len, sizeLine_eq]; simp; omega) fun s4 hs4 => ?_⟩
                  rw [show pick (wq (x :: y :: l')) none (some 2) none = wq [x, y] from pick_to2 _ _ _]
                  have w4 := f16.away hs4
                  have f17 := f16.setL (v := wq [x, y]) w4
                  have n4 : pr ≠ s4 := fun e => hs4 (e ▸ AH.dom_ls epr)
                  have epr2 : (H16.setL s4 (wq [x, y])).ls pr = some (wq [x, y]) := (setL_miss n4).trans epr
                  have nx : x ∈ nums := P.mem hp7 (pl.mem_iff.mp (.head _))
                  have ny : y ∈ nums := P.mem hp7 (pl.mem_iff.mp (.tail _ (.head _)))
                  have so : ([strL (chL x), strL (chL y)] : List Str).all PyData.strOk = true := by
                    have so1 : ∀ z ∈ nums, PyData.strOk (strL (chL z)) = true := fun z hz => by
                      show ((chL z).toArray.all (· < 0x110000)) = true
                      rw [List.all_toArray, List.all_eq_true]
                      intro c hc
                      have := (chL_ok ⟨z, h24 z hz⟩).2.2.2 c hc
                      exact decide_eq_true (by omega)
                    simp [so1 x nx, so1 y ny]
                  refine CmpT.neLS (xs := [strL (chL x), strL (chL y)]) (ys := [strL (chL x), strL (chL y)]) epr2 (setL_hit _ _ _) (le_up hn) so so (TruT.bool (ifF (by simp) ?_))
                  refine EsT.nil ?_
                  have e7 : (H16.setL s4 (wq [x, y])).is it4 = H16.is it4 := rfl
                  rw [e6] at e7
                  change EsT w h₀ _ _ ⟨lput "pair" (.ref pr) lo13, H16.setL s4 (wq [x, y])⟩ _
                  generalize H16.setL s4 (wq [x, y]) = H17 at *
                  have tk17 := f17.tw.tk p hp7
                  rw [up_hit] at tk17
                  refine EsT.cons ?_
                  refine ExT.assignT ?_
                  refine EvT.slice ?_; refine EvT.sub ?_
                  refine EvT.cell (a := L + 1) f17.c1 ?_
                  refine EvT.local ?_ (lm (by decide) gp')
                  refine ⟨SubOk.ls f17.twl, GetT.list f17.twl (nn0 _) (by omega) (by rw [Int.toNat_natCast]; exact refs7_at T' hp7) ?_⟩
                  refine PartT.some ?_; refine EvT.int ?_; refine PartT.none ?_; refine PartT.none ?_
                  refine ⟨SubOk.ls tk17, SliT.list (lo := some 2) (hi := none) (st := none) tk17 rfl rfl rfl (by decide) (by rw [wq_len, sizeLine_eq]; simp; omega) fun s5 hs5 => ?_⟩
                  rw [show pick (wq (x :: y :: l')) (some 2) none none = wq l' from pick_from2 _ _ _]
                  have w5 := f17.away hs5
                  have f18 := f17.setL (v := wq l') w5
                  have n5 : pr ≠ s5 := fun e => hs5 (e ▸ AH.dom_ls epr2)
                  have es5 : (H17.setL s5 (wq l')).ls s5 = some (wq l') := setL_hit _ _ _
                  refine AsT.item ?_
                  refine EvT.cell (a := L + 1) f18.c1 ?_
                  refine EvT.local ?_ (lm (by decide) gp')
                  refine SetIT.list f18.twl (nn0 _) (by omega) (by rw [refs7, List.length_map, List.length_range]; omega) ?_
                  rw [Int.toNat_natCast, refs7_set]
                  have f19 := f18.newT hp7 es5 w5.h1 w5.h2 w5.h3 w5.h4 w5.h5 w5.h6
                  rw [up_up] at f19
                  have epr3 : ((H17.setL s5 (wq l')).setL TW (refs7 (up T' p s5))).ls pr = some (wq [x, y]) := (setL_miss wp.h5).trans ((setL_miss n5).trans epr2)
                  have e8 : ((H17.setL s5 (wq l')).setL TW (refs7 (up T' p s5))).is it4 = H17.is it4 := rfl
                  rw [e7] at e8
                  change EsT w h₀ _ _ ⟨lput "pair" (.ref pr) lo13, (H17.setL s5 (wq l')).setL TW (refs7 (up T' p s5))⟩ _
                  generalize (H17.setL s5 (wq l')).setL TW (refs7 (up T' p s5)) = H19 at *
                  have w9 : FW.Away H a LN TW (up T' p s5) pr := ⟨wp.h1, wp.h2, fun k hk => by
                    by_cases ek : k = p
                    · subst ek; rw [up_hit]; exact n5
                    · rw [up_miss ek]; exact wp.h3 k hk, wp.h4, wp.h5, wp.h6⟩
                  generalize up T' p s5 = T9 at *
                  have efd : H19.ds FD = some kv := f19.le.ds _ _ ef
                  have wp9 : pr ≠ TW := wp.h5
                  refine EsT.cons ?_
                  refine Tr.mono (Q := fun f st₂ => erF f = Flow.next ∧ ∃ pr, JPair H a X LN TW L FD T9 (up q p l') p num' it4 (rgS 0 1 14 (i + 1)) (wq [lft x y, rgt x y]) pr st₂)
                    (show ExT w h₀ _ _ _ (fun f st₂ => f = Flow.next ∧ ∃ pr, JPair H a X LN TW L FD T9 (up q p l') p num' it4 (rgS 0 1 14 (i + 1)) (wq [lft x y, rgt x y]) pr st₂) from ?_) ?_
                  · refine ExT.if ?_; refine IfT.compare ?_; refine EvT.sub ?_
                    refine EvT.local ?_ (lm (by decide) g.gf)
                    refine EvT.sub ?_
                    refine EvT.local ?_ lh
                    refine EvT.int ?_
                    refine ⟨SubOk.ls epr3, GetT.list (v := tokS (chL x)) epr3 (by decide) (by decide) rfl ?_⟩
                    refine ⟨SubOk.ds efd, GetT.dict (v := .int (price x) 0) efd (hkv x nx) ?_⟩
                    refine EvT.sub ?_
                    refine EvT.local ?_ (lm (by decide) g.gf)
                    refine EvT.sub ?_
                    refine EvT.local ?_ lh
                    refine EvT.int ?_
                    refine ⟨SubOk.ls epr3, GetT.list (v := tokS (chL y)) epr3 (by decide) (by decide) rfl ?_⟩
                    refine ⟨SubOk.ds efd, GetT.dict (v := .int (price y) 0) efd (hkv y ny) ?_⟩
                    refine CmpT.gtI (TruT.bool (ifB (fun hc => ?_) fun hc => ?_))
                    · have hc' : price y < price x := of_decide_eq_true hc
                      refine EsT.cons ?_; refine ExT.assignName ?_; refine EvT.slice ?_
                      refine EvT.local ?_ lh
                      refine PartT.none ?_; refine PartT.none ?_; refine PartT.some ?_; refine EvT.unaryOp ?_; refine EvT.int ?_
                      refine UnT.negI ?_
                      refine ⟨SubOk.ls epr3, SliT.list (lo := none) (hi := none) (st := some (-1)) epr3 rfl rfl rfl (by decide) (by rw [wq_len, sizeLine_eq]; simp) fun s6 hs6 => ?_⟩
                      rw [show pick (wq [x, y]) none none (some (-1)) = wq [y, x] from pick_rev2 _ _]
                      refine StoreT.local ?_; refine EsT.nil ?_
                      have w6 := f19.away hs6
                      refine ⟨rfl, s6, f19.setL w6, ?_, w6, e8, (g.put (by decide) (by decide) (by decide)).put (by decide) (by decide) (by decide), (lm (by decide) (lm (by decide) gp')), lh⟩
                      refine (setL_hit _ _ _).trans ?_
                      unfold lft rgt
                      rw [if_pos hc', if_pos hc']
                    · have hc' : ¬ price y < price x := of_decide_eq_false hc
                      refine EsT.nil ?_
                      refine ⟨rfl, pr, f19, ?_, ?_, e8, g.put (by decide) (by decide) (by decide), (lm (by decide) gp'), lh⟩
                      · refine epr3.trans ?_
                        unfold lft rgt
                        rw [if_neg hc', if_neg hc']
                      · exact w9
                  rintro f ⟨lo20, H20⟩ ⟨efl, pr2, f20, ep20, w20, e20, g20, gp20, gpr20⟩
                  rw [efl]
                  refine EsT.cons ?_
                  refine ExT.for ?_
                  refine EvT.call ?_; refine EvT.builtin ?_; refine ArgsT.pos ?_; refine ItsT.cons ?_; refine EvT.int ?_; refine ItsT.nil ?_
                  refine ⟨trivial, CalT.range1 fun rga hrga => ?_⟩
                  refine ItrT.rng (setI_hit _ _ _) (by decide) fun ita hita => ?_
                  have n4a : it4 ≠ ita := fun e => hita (dom_setI (e ▸ AH.dom_is e20))
                  have n4ra : it4 ≠ rga := fun e => hrga (e ▸ AH.dom_is e20)
                  have itaH : ¬ H.dom ita := fun d => hita (dom_setI (f20.le.dom d))
                  have rgaH : ¬ H.dom rga := fun d => hrga (f20.le.dom d)
                  refine for_src (K := fun _ _ => True) (m := 2) (JPut H a X LN TW L FD T9 (up q p l') p (lft x y) (rgt x y) num' it4 (rgS 0 1 14 (i + 1)) (wq [lft x y, rgt x y]) pr2) (Src.range 0 1) (fun _ _ _ => trivial)
                    ⟨(f20.setI rgaH).setI itaH, ep20, (setI_miss n4a).trans ((setI_miss n4ra).trans e20), g20, gp20, gpr20⟩ (setI_hit _ _ _)
                    (fun k lo H' x ⟨f, ep, e4, g1, g2, g3⟩ => ⟨f.setI itaH, ep, (setI_miss n4a).trans e4, g1, g2, g3⟩) (fun k lo21 H21 hk ⟨f21, ep21, e21, g21, gp21, gpr21⟩ ek N10 hN10 hC10 hB10 hR10 => ?put) (fun lo21 H21 ⟨f21, ep21, e21, g21, gp21, gpr21⟩ => ?fin)
                  case put =>
                    rw [rg0]
                    refine AsT.name (StoreT.local ?_)
                    have d7 : p - 1 + 2 * k < 7 := by omega
                    have ed : ((p : Int) - 1 + 2 * (k : Int)) = ((p - 1 + 2 * k : Nat) : Int) := by omega
                    have evz : (wq [lft x y, rgt x y])[k]? = some (tokS (chL (if k = 0 then lft x y else rgt x y))) := by
                      have : k = 0 ∨ k = 1 := by omega
                      rcases this with rfl | rfl <;> rfl
                    have lqz : (qK (up q p l') p (lft x y) (rgt x y) k (p - 1 + 2 * k)).length ≤ 900 := by rw [qK_at q hp1 hk]; exact l6 _ d7
                    have okm : IntMulOk (2 : Int) (k : Int) := .of_le (m := 2) (n := 64) (by decide) (intBits_cast_le (by rw [sizeLine_eq]; omega)) (by decide)
                    refine EsT.cons ?_; refine ExT.expr ?_; refine EvT.method ?_; refine EvT.sub ?_
                    refine EvT.local ?_ (lm (by decide) g21.gl)
                    refine EvT.binOp ?_; refine EvT.binOp ?_
                    refine EvT.local ?_ (lm (by decide) gp21)
                    refine EvT.int ?_
                    refine BinT.subI ?_
                    refine EvT.binOp ?_; refine EvT.int ?_
                    refine EvT.local ?_ lh
                    refine BinT.mulI ?_ okm
                    refine BinT.addI ?_
                    rw [ed]
                    refine ⟨SubOk.ls f21.ln, GetT.list f21.ln (nn0 _) (by omega) (by rw [Int.toNat_natCast]; exact refs7_at X d7) ?_⟩
                    refine GmT.inst (f21.lx.ok _ d7).x (f21.lx.dx _ d7) (by rfl) (fi_pushToken _) (ty_fn _).2.2 ?_
                    refine ArgsT.pos ?_; refine ItsT.cons ?_; refine EvT.sub ?_
                    refine EvT.local ?_ (lm (by decide) gpr21)
                    refine EvT.local ?_ lh
                    refine ⟨SubOk.ls ep21, GetT.list ep21 (nn0 _) (by omega) (by rw [Int.toNat_natCast]; exact evz) ?_⟩
                    refine ItsT.nil ?_
                    refine ⟨.inl (by kernel_rfl), CallT.cal (fw_push f21 d7 (le_up hn) lqz fun f22 => ?_)⟩
                    refine ⟨by simp, ?_⟩
                    have ep22 := (setL_miss (x := wq (qK (up q p l') p (lft x y) (rgt x y) k (p - 1 + 2 * k) ++ [if k = 0 then lft x y else rgt x y])) (w20.h1 _ d7)).trans ep21
                    refine EsT.cons ?_; refine ExT.expr ?_; refine EvT.method ?_; refine EvT.sub ?_
                    refine EvT.cell (a := L + 1) f22.c1 ?_
                    refine EvT.binOp ?_; refine EvT.binOp ?_
                    refine EvT.local ?_ (lm (by decide) gp21)
                    refine EvT.int ?_
                    refine BinT.subI ?_
                    refine EvT.binOp ?_; refine EvT.int ?_
                    refine EvT.local ?_ lh
                    refine BinT.mulI ?_ okm
                    refine BinT.addI ?_
                    rw [ed]
                    refine ⟨SubOk.ls f22.twl, GetT.list f22.twl (nn0 _) (by omega) (by rw [Int.toNat_natCast]; exact refs7_at T9 d7) ?_⟩
                    refine GmT.list (f22.tw.tk _ d7) F.slot_list_append F.type_list_append ?_
                    refine ArgsT.pos ?_; refine ItsT.cons ?_; refine EvT.sub ?_
                    refine EvT.local ?_ (lm (by decide) gpr21)
                    refine EvT.local ?_ lh
                    refine ⟨SubOk.ls ep22, GetT.list ep22 (nn0 _) (by omega) (by rw [Int.toNat_natCast]; exact evz) ?_⟩
                    refine ItsT.nil ?_
                    refine ⟨trivial, fw_append f22 d7 lqz fun f23 => ?_⟩
                    refine ⟨by simp, ?_⟩
                    refine EsT.nil ?_
                    rw [qK_succ _ hp1 hk] at f23
                    exact hN10 ⟨⟨f23, (setL_miss (w20.h3 _ d7)).trans ep22, e21, g21.put (by decide) (by decide) (by decide), lm (by decide) gp21, lm (by decide) gpr21⟩, ek⟩
                  case fin =>
                    refine EsT.nil ?_; refine EsT.nil ?_
                    rw [qK_fire q hp1] at f21
                    exact hN ⟨⟨T9, _, num', f21.delI itaH, g21, P.fire pl.symm hp1 hp5, nb⟩, ((delI_agree H21 ita).is it4 n4a).trans e21⟩

noncomputable def OldL (h₀ : Heap) (A : Addr) (ns : List Int) : Prop := ∃ vs : List Value, h₀.IsList A vs.toArray ∧ vs.map er = ns.map (Value.int · 0)
theorem OldL.now {A : Addr} {ns : List Int} {H : AH} {s : Shared} (x : OldL h₀ A ns) (I : InvH w h₀ H s) : ∃ vs : List Value, s.heap.IsList A vs.toArray ∧ vs.map er = ns.map (Value.int · 0) := by
  obtain ⟨vs, ⟨o, ho, hc, r⟩, e⟩ := x
  exact ⟨vs, ⟨o, I.old.get_of_cls ho (by rw [hc]; simp), hc, r⟩, e⟩
theorem CalT.sumOld {A : Addr} {ns : List Int} {H : AH} {Q : Value → AH → Prop} (x : OldL h₀ A ns) (h : Q (.int ns.sum 0) H) : CalT w h₀ n (.builtin "sum") [.ref A] [] H Q := fun f' a' k' e1 e2 e3 s I => by
  rw [er_builtin e1, kw0 e3]
  obtain ⟨y, rfl, ey⟩ := map1 e2
  rw [er_ref ey]
  obtain ⟨vs, g, r⟩ := x.now I
  have hi := intsAre_of r
  obtain ⟨ps, hps⟩ := hi.allInts.items
  refine wpAny_size (sum_intListG rfl (xs := ps) (by rw [hps] at g; exact g) fun h' tk t' hk hsz => HPost.grew I hk hsz rfl rfl ?_)
  rw [preSum_eq, List.take_of_length_le (by simp)]
  have e : numsOf vs.toArray.toList = ns := hi.numsOf
  rw [hps, nums_intItems] at e
  rw [e]; exact h
theorem EvT.sliceOld {A : Addr} {ns : List Int} {value : Expr} {lo up stp : Option Expr} {p p' : Pos} {st : St} {Q : Value → St → Prop} (old : OldL h₀ A ns) (hsz : ns.length ≤ sizeLine)
    (h : EvT w h₀ c value st (fun o st₁ => PartT w h₀ c lo st₁ (fun l st₂ => PartT w h₀ c up st₂ (fun u st₃ => PartT w h₀ c stp st₃ (fun x st₄ => o = .ref A ∧ ∃ l' u' x', l = asPart l' ∧ u = asPart u' ∧ x = asPart x' ∧ x' ≠ some 0 ∧ ∀ b, ¬ st₄.H.dom b → Q (.ref b) ⟨st₄.lo, st₄.H.setL b (pick (ns.map (Value.int · 0)) l' u' x')⟩)))))
    (hs : ∀ o i, ∃ ops, subscripted (.Slice lo up stp p) false o i = operate ops (getItem o i) := by intro _ _; exact ⟨_, rfl⟩) : EvT w h₀ c (.Subscript value (.Slice lo up stp p) p') st Q := fun s I => by
  refine Subscript_ ?_
  refine wpAny_mono (h s I) (fun o s₁ ⟨st₁, I₁, S₁, q₁⟩ => ?_) fun _ _ e => e
  refine wpAny_Slice ?_
  refine wpAny_mono (q₁ s₁ I₁) (fun l s₂ ⟨st₂, I₂, S₂, q₂⟩ => ?_) fun _ _ e => e
  refine wpAny_mono (q₂ s₂ I₂) (fun u s₃ ⟨st₃, I₃, S₃, q₃⟩ => ?_) fun _ _ e => e
  refine wpAny_mono (q₃ s₃ I₃) (fun x s₄ z => ?_) fun _ _ e => e
  obtain ⟨st₄, I₄, S₄, eo, l', u', x', el, eu, ex, h0, q₄⟩ := z
  rw [er_ref eo]
  have J := I₄.h.ext (s' := { s₄ with heap := s₄.heap.push { cls := .type "slice", data := .fields #[l, u, x] } }) keep_push size_push' rfl rfl
  obtain ⟨vs, g, r⟩ := old.now J.1
  obtain ⟨o', ho', hc', _⟩ := id g
  obtain ⟨ops, ho⟩ := hs (.ref A) (.ref s₄.heap.objs.size)
  refine tail_any ⟨o', ho', hc'⟩ slot_list_getitem.lookup ?_ ho
  have hvl : vs.length = ns.length := by have := congrArg List.length r; simpa using this
  have r' : vs.toArray.toList.map er = ns.map (Value.int · 0) := r
  refine wpAny_getItem_list_slice g (Heap.IsSliceOf.new _ l u x) (asPart_is el) (asPart_is eu) (asPart_is ex) h0 ?_ (by rw [List.size_toArray, hvl]; exact hsz)
  obtain ⟨H₅, I₅, S₅, q₅⟩ := HPost.step J.2 (HPost.pushL J.1 (t := s₄.toks) (pick_map r' l' u' x') (Q := fun v H => Q v ⟨st₄.lo, H⟩) q₄)
  exact ⟨⟨st₄.lo, H₅⟩, I₄.after I₅ S₅, S₁.trans (S₂.trans (S₃.trans (S₄.trans S₅.step))), q₅⟩

noncomputable def pickI (xs : List Int) (lo hi st : Option Int) : List Int := (sliceRange (sliceBounds lo hi st xs.length).1 (sliceBounds lo hi st xs.length).2.1 (sliceBounds lo hi st xs.length).2.2).filterMap (xs[·]?)
theorem pick_int (xs : List Int) (lo hi st : Option Int) : pick (xs.map (Value.int · 0)) lo hi st = (pickI xs lo hi st).map (Value.int · 0) := by
  unfold pick pickI
  rw [List.length_map, List.map_filterMap]
  congr 1
  funext i
  rw [List.getElem?_map]
theorem pick_revL (xs : List Value) (h : xs.length = 6) : pick xs none none (some (-1)) = xs.reverse := by
  obtain ⟨a, b, c, d, e, f, rfl⟩ := len6 h
  · show (sliceRange (sliceBounds none none (some (-1)) 6).1 (sliceBounds none none (some (-1)) 6).2.1 (sliceBounds none none (some (-1)) 6).2.2).filterMap (([a, b, c, d, e, f] : List Value)[·]?) = _
    rw [show sliceRange (sliceBounds none none (some (-1)) 6).1 (sliceBounds none none (some (-1)) 6).2.1 (sliceBounds none none (some (-1)) 6).2.2 = [5, 4, 3, 2, 1, 0] from by decide +kernel]
    rfl

/-! ## the order of the words -/
/-- what insort leaves of the words told so far: told last stands first among its equals -/
noncomputable def Insorted (kf : Str → Int) (xs ys : List Str) : Prop := ys.Perm xs ∧ (ys.map kf).Pairwise (· ≤ ·) ∧ ∀ k, ys.filter (fun y => kf y == k) = (xs.filter (fun y => kf y == k)).reverse
theorem Insorted.nil (kf : Str → Int) : Insorted kf [] [] := ⟨.refl _, by simp, fun _ => rfl⟩
theorem Insorted.snoc {kf : Str → Int} {xs ys : List Str} {x : Str} {r : Nat} (h : Insorted kf xs ys) (hr : r ≤ ys.length) (h1 : ∀ i (hi : i < ys.length), i < r → kf ys[i] < kf x) (h2 : ∀ i (hi : i < ys.length), r ≤ i → kf x ≤ kf ys[i]) : Insorted kf (xs ++ [x]) (ys.take r ++ x :: ys.drop r) := by
  have lo : ∀ y ∈ ys.take r, kf y < kf x := fun y hy => by
    obtain ⟨i, hi, rfl⟩ := List.getElem_of_mem hy
    rw [List.length_take] at hi
    rw [List.getElem_take]; exact h1 i (by omega) (by omega)
  have hi' : ∀ y ∈ ys.drop r, kf x ≤ kf y := fun y hy => by
    obtain ⟨i, hi, rfl⟩ := List.getElem_of_mem hy
    rw [List.length_drop] at hi
    rw [List.getElem_drop]; exact h2 (r + i) (by omega) (by omega)
  obtain ⟨p, s, f⟩ := h
  have e : ys = ys.take r ++ ys.drop r := (List.take_append_drop r ys).symm
  refine ⟨?_, ?_, fun k => ?_⟩
  · refine List.perm_middle.trans ?_
    rw [List.take_append_drop]
    exact (List.Perm.cons x p).trans (List.perm_append_comm (l₁ := [x]))
  · rw [e, List.map_append, List.pairwise_append] at s
    rw [List.map_append, List.map_cons, List.pairwise_append, List.pairwise_cons]
    refine ⟨s.1, ⟨fun z hz => ?_, s.2.1⟩, fun z hz u hu => ?_⟩
    · obtain ⟨y, hy, rfl⟩ := List.mem_map.mp hz; exact hi' y hy
    · obtain ⟨y, hy, rfl⟩ := List.mem_map.mp hz
      rcases List.mem_cons.mp hu with rfl | hu
      · exact Int.le_of_lt (lo y hy)
      · exact s.2.2 _ hz _ hu
  · rw [List.filter_append, List.filter_append, List.reverse_append, ← f k, List.filter_cons]
    have ek : ys.filter (fun y => kf y == k) = (ys.take r).filter (fun y => kf y == k) ++ (ys.drop r).filter (fun y => kf y == k) := by rw [← List.filter_append, List.take_append_drop]
    by_cases hx : kf x = k
    · have e0 : (ys.take r).filter (fun y => kf y == k) = [] := List.filter_eq_nil_iff.mpr fun y hy => by
        have := lo y hy
        simp; omega
      rw [ek, e0]
      simp [hx]
    · have : (kf x == k) = false := by simpa using hx
      rw [ek]
      simp [this]
theorem sorted_uniq {kf : Str → Int} : ∀ (ys zs : List Str), (ys.map kf).Pairwise (· ≤ ·) → (zs.map kf).Pairwise (· ≤ ·) → (∀ k, ys.filter (fun y => kf y == k) = zs.filter (fun y => kf y == k)) → ys = zs
  | [], zs, _, _, h => by
    cases zs with
    | nil => rfl
    | cons z zs => have := h (kf z); simp at this
  | y :: ys, [], _, _, h => by have := h (kf y); simp at this
  | y :: ys, z :: zs, hy, hz, h => by
    rw [List.map_cons, List.pairwise_cons] at hy hz
    have hle : ∀ a b : Str, ∀ as bs : List Str, (∀ c ∈ as.map kf, kf a ≤ c) → (∀ k, (a :: as).filter (fun y => kf y == k) = (b :: bs).filter (fun y => kf y == k)) → kf a ≤ kf b := fun a b as bs ha hf => by
      have h1 : b ∈ (b :: bs).filter (fun y => kf y == kf b) := List.mem_filter.mpr ⟨.head _, by simp⟩
      rw [← hf (kf b)] at h1
      have h2 := (List.mem_filter.mp h1)
      rcases List.mem_cons.mp h2.1 with e | e
      · rw [e]; exact Int.le_refl _
      · exact ha _ (List.mem_map.mpr ⟨b, e, rfl⟩)
    have e1 := hle y z ys zs hy.1 h
    have e2 := hle z y zs ys hz.1 fun k => (h k).symm
    have ek : kf y = kf z := Int.le_antisymm e1 e2
    have hk := h (kf y)
    rw [List.filter_cons, List.filter_cons] at hk
    have t1 : (kf y == kf y) = true := by simp
    have t2 : (kf z == kf y) = true := by simp [ek]
    rw [if_pos t1, if_pos t2, List.cons.injEq] at hk
    have eyz := hk.1
    subst eyz
    rw [sorted_uniq ys zs hy.2 hz.2 fun k => ?_]
    have := h k
    rw [List.filter_cons, List.filter_cons] at this
    by_cases q : (kf y == k) = true
    · rw [if_pos q, if_pos q, List.cons.injEq] at this; exact this.2
    · rw [if_neg q, if_neg q] at this; exact this
theorem insort_is_sort {kf : Str → Int} {xs ys zs : List Str} (h1 : Insorted kf xs ys) (h2 : KeySorted kf xs.reverse zs) : ys = zs :=
  sorted_uniq ys zs h1.2.1 h2.2.1 fun k => by rw [h1.2.2, h2.2.2, List.filter_reverse]
theorem sorted_int_uniq : ∀ {as bs : List Int}, as.Pairwise (· ≤ ·) → bs.Pairwise (· ≤ ·) → as.Perm bs → as = bs
  | [], bs, _, _, p => (List.nil_perm.mp p).symm ▸ rfl
  | a :: as, [], _, _, p => absurd p.symm (by simp)
  | a :: as, b :: bs, ha, hb, p => by
    have ha' := List.pairwise_cons.mp ha
    have hb' := List.pairwise_cons.mp hb
    have e1 : a ≤ b := by
      rcases List.mem_cons.mp (p.mem_iff.mpr (.head _)) with e | e
      · rw [e]; exact Int.le_refl _
      · exact ha'.1 _ e
    have e2 : b ≤ a := by
      rcases List.mem_cons.mp (p.mem_iff.mp (.head _)) with e | e
      · rw [e]; exact Int.le_refl _
      · exact hb'.1 _ e
    have : a = b := Int.le_antisymm e1 e2
    subst this
    rw [sorted_int_uniq ha'.2 hb'.2 (List.Perm.cons_inv p)]
noncomputable def strLe (a b : Str) : Prop := a.cps.toList ≤ b.cps.toList
theorem rising_pw : ∀ (l : List Str) (p : Str), risingS p l = true → (∀ x ∈ l, strLe p x) ∧ l.Pairwise strLe
  | [], _, _ => ⟨fun _ h => absurd h (by simp), .nil⟩
  | x :: r, p, h => by
    unfold risingS at h
    rw [Bool.and_eq_true, ltCps_eq] at h
    have hpx : strLe p x := by
      have : ¬ x.cps.toList < p.cps.toList := by simpa using h.1
      exact this
    obtain ⟨h1, h2⟩ := rising_pw r x h.2
    refine ⟨fun y hy => ?_, List.pairwise_cons.mpr ⟨h1, h2⟩⟩
    rcases List.mem_cons.mp hy with rfl | hy
    · exact hpx
    · exact List.le_trans hpx (h1 y hy)
theorem sortedS_pw {l : List Str} (h : sortedS l = true) : l.Pairwise strLe := by
  cases l with
  | nil => exact .nil
  | cons x r =>
    have := rising_pw r x h
    exact List.pairwise_cons.mpr this
theorem str_anti {a b : Str} (h1 : strLe a b) (h2 : strLe b a) : a = b := by
  have : a.cps.toList = b.cps.toList := List.le_antisymm h1 h2
  obtain ⟨x⟩ := a
  obtain ⟨y⟩ := b
  have : x = y := Array.toList_inj.mp this
  rw [this]
theorem strLe_refl (a : Str) : strLe a a := List.le_refl _
theorem sorted_str_uniq : ∀ {as bs : List Str}, as.Pairwise strLe → bs.Pairwise strLe → as.Perm bs → as = bs
  | [], bs, _, _, p => (List.nil_perm.mp p).symm ▸ rfl
  | a :: as, [], _, _, p => absurd p.symm (by simp)
  | a :: as, b :: bs, ha, hb, p => by
    have ha' := List.pairwise_cons.mp ha
    have hb' := List.pairwise_cons.mp hb
    have e1 : strLe a b := by
      rcases List.mem_cons.mp (p.mem_iff.mpr (.head _)) with e | e
      · rw [e]; exact strLe_refl _
      · exact ha'.1 _ e
    have e2 : strLe b a := by
      rcases List.mem_cons.mp (p.mem_iff.mp (.head _)) with e | e
      · rw [e]; exact strLe_refl _
      · exact hb'.1 _ e
    have : a = b := str_anti e1 e2
    subst this
    rw [sorted_str_uniq ha'.2 hb'.2 (List.Perm.cons_inv p)]

noncomputable def lawC : List Int := [21, 14, 13, 6, 9, 22]
noncomputable def lawN (ns : List Int) (i : Nat) : Int := ((lawC[i]?.getD 0) + (pickI ns (some (i : Int)) none (some 6)).sum).fmod 24
noncomputable def lawNums (ns : List Int) : List Nat := (List.range 6).map fun i => (lawN ns i).toNat
theorem lawN_bd (ns : List Int) (i : Nat) : 0 ≤ lawN ns i ∧ lawN ns i < 24 := ⟨Int.fmod_nonneg_of_pos _ (by decide), Int.fmod_lt_of_pos _ (by decide)⟩
theorem lawNums_len (ns : List Int) : (lawNums ns).length = 6 := by simp [lawNums]
theorem lawNums_24 (ns : List Int) : ∀ x ∈ lawNums ns, x < 24 := fun x hx => by
  obtain ⟨i, _, rfl⟩ := List.mem_map.mp hx
  have := lawN_bd ns i
  omega
theorem lawNums_V (ns : List Int) : (List.range 6).map (fun i => Value.int (lawN ns i) 0) = intV (lawNums ns) := by
  unfold intV lawNums
  rw [List.map_map]
  refine List.map_congr_left fun i _ => ?_
  have := lawN_bd ns i
  show Value.int (lawN ns i) 0 = .int (((lawN ns i).toNat : Nat) : Int) 0
  rw [Int.toNat_of_nonneg this.1]

theorem price_sum : ∀ x : Fin 24, [Builtin.bitAnd ((x.1 : Int).fdiv (2 ^ 0)) 1, Builtin.bitAnd ((x.1 : Int).fdiv (2 ^ 1)) 1, Builtin.bitAnd ((x.1 : Int).fdiv (2 ^ 2)) 1].sum + 2 * (x.1 : Int).fdiv 8 = price x.1 := by decide +kernel
noncomputable def kfOf (kv : List (Str × Value)) (s : Str) : Int := match kv.lookup s with
  | some (.int i _) => i
  | _ => 0
theorem kfOf_eq {kv : List (Str × Value)} {s : Str} {i : Int} (h : kv.lookup s = some (.int i 0)) : kfOf kv s = i := by unfold kfOf; rw [h]
theorem told_s1 {e : List Nat} (he : e.length = 6) : pick (told14 e) none (some 3) none = wq (e.take 3) := by
  rw [pick_one]
  match e, he with
  | [a, b, c, d, f, g], _ => rfl
theorem told_s2 {e : List Nat} (he : e.length = 6) : pick (told14 e) (some 4) (some 7) none = wq (e.drop 3) := by
  rw [pick_one]
  match e, he with
  | [a, b, c, d, f, g], _ => rfl
theorem told_s3 {e : List Nat} (he : e.length = 6) : pick (told14 e) (some 3) (some 4) none = [tokS [122]] := by
  rw [pick_one]
  match e, he with
  | [a, b, c, d, f, g], _ => rfl
theorem told_s4 {e : List Nat} (he : e.length = 6) : pick (told14 e) (some 7) none none = [tokS [122], tokS [122], tokS [122], tokS [], tokS [122], tokS [122], tokS [122]] := by
  rw [pick_one]
  match e, he with
  | [a, b, c, d, f, g], _ => rfl
noncomputable def zS : Str := ⟨#[122]⟩
noncomputable def eS : Str := ⟨#[]⟩
theorem Tr.weaken {α : Type} {t : Sem α} {lo : Lo} {H' H'' : AH} {Q : α → St → Prop} (l : AHle H'' H') (h : Tr w h₀ c t ⟨lo, H''⟩ Q) : Tr w h₀ c t ⟨lo, H'⟩ Q := fun s I =>
  wpAny_mono (h s ⟨I.h.less l, I.ns, fun d => I.out (l.dom d), I.hi⟩) (fun a s' ⟨st', I', S', q⟩ => ⟨st', I', ⟨fun b o e nb nl nt => S'.keep b o e (fun d => nb (l.dom d)) nl nt, fun b d => (S'.dom b d).elim (fun d => .inl (l.dom d)) .inr, S'.size, S'.os⟩, q⟩) fun _ _ e => e
theorem EsT.weaken {xs : List Stmt} {lo : Lo} {H' H'' : AH} {Q : Flow → St → Prop} (l : AHle H'' H') (h : EsT w h₀ c xs ⟨lo, H''⟩ Q) : EsT w h₀ c xs ⟨lo, H'⟩ Q := Tr.weaken l h
theorem zs_ok : ([zS, zS, zS, zS, eS, zS, zS, zS] : List Str).all PyData.strOk = true := by decide +kernel
theorem IfT.weaken {x : Expr} {lo : Lo} {H' H'' : AH} {Q : Bool → St → Prop} (l : AHle H'' H') (h : IfT w h₀ c x ⟨lo, H''⟩ Q) : IfT w h₀ c x ⟨lo, H'⟩ Q := Tr.weaken l h
theorem strOkW {nums : List Nat} (h24 : ∀ x ∈ nums, x < 24) : (nums.map fun x => strL (chL x)).all PyData.strOk = true := by
  rw [List.all_eq_true]
  intro s hs
  obtain ⟨z, hz, rfl⟩ := List.mem_map.mp hs
  show ((chL z).toArray.all (· < 0x110000)) = true
  rw [List.all_toArray, List.all_eq_true]
  intro c hc
  have := (chL_ok ⟨z, h24 z hz⟩).2.2.2 c hc
  exact decide_eq_true (by omega)
theorem wq_str (nums : List Nat) : wq nums = (nums.map fun x => strL (chL x)).map (Value.str · 0) := by rw [List.map_map]; rfl
theorem range_getN {β : Type} (l : List Nat) (g : Nat → β) : (List.range l.length).map (fun j => g (l[j]?.getD 0)) = l.map g := range_getD l g
theorem range3 {β : Type} (f : Nat → β) : (List.range 3).map f = [f 0, f 1, f 2] := rfl
set_option maxHeartbeats 8000000 in
theorem T_law {A : Addr} {ns : List Int} (old : OldL h₀ A ns) (hlen : ns.length ≤ 100) {H : AH} {Q : Value → AH → Prop} (h : ∀ H', AHle H H' → Q (.bool true) H') : CallT w h₀ 0 (.ref 173) [.ref A] [] H Q := by
  refine CallT.base (binds := [("script", .ref A)]) ⟨_, _, _, _, _, _, _, rfl, rfl, rfl, rfl⟩ (fun a' k' e2 e3 s I => ?_) (fun L hL => ?_) (by omega)
  · obtain ⟨x', rfl, ex⟩ := map1 e2
    rw [kw0 e3]
    exact ⟨[("script", x')], .of_eq rfl, by simp [ex]⟩
  have hsz : ns.length ≤ sizeLine := by rw [sizeLine_eq]; omega
  refine BdT.cell (a := L + 1) (v0 := none) (BdT.nil (BodyT.stmts ?_)) ?hv
  case hv =>
    show ((((H.setC (L + 1) none).setC (L + 2) none).setC (L + 3) none).setC (L + 4) none).cs (L + 1) = some none
    exact (setC_miss (adNe (by decide))).trans ((setC_miss (adNe (by decide))).trans ((setC_miss (adNe (by decide))).trans (setC_hit _ _ _)))
  show EsT w h₀ _ _ ⟨_, (((((H.setC (L + 1) none).setC (L + 2) none).setC (L + 3) none).setC (L + 4) none).setC (L + 1) (some (.ref A)))⟩ _
  have fc : ∀ i, ¬ H.dom (L + i) := fun i => hL _ (Nat.le_add_right _ _)
  have lB : AHle H (((((H.setC (L + 1) none).setC (L + 2) none).setC (L + 3) none).setC (L + 4) none).setC (L + 1) (some (.ref A))) := ((((AHle.setC .refl (fc 1)).setC (fc 2)).setC (fc 3)).setC (fc 4)).setC (fc 1)
  have b1 : (((((H.setC (L + 1) none).setC (L + 2) none).setC (L + 3) none).setC (L + 4) none).setC (L + 1) (some (.ref A))).cs (L + 1) = some (some (.ref A)) := setC_hit _ _ _
  have b2 : (((((H.setC (L + 1) none).setC (L + 2) none).setC (L + 3) none).setC (L + 4) none).setC (L + 1) (some (.ref A))).cs (L + 2) = some none := (setC_miss (adNe (by decide))).trans ((setC_miss (adNe (by decide))).trans ((setC_miss (adNe (by decide))).trans (setC_hit _ _ _)))
  have b3 : (((((H.setC (L + 1) none).setC (L + 2) none).setC (L + 3) none).setC (L + 4) none).setC (L + 1) (some (.ref A))).cs (L + 3) = some none := (setC_miss (adNe (by decide))).trans ((setC_miss (adNe (by decide))).trans (setC_hit _ _ _))
  have b4 : (((((H.setC (L + 1) none).setC (L + 2) none).setC (L + 3) none).setC (L + 4) none).setC (L + 1) (some (.ref A))).cs (L + 4) = some none := (setC_miss (adNe (by decide))).trans (setC_hit _ _ _)
  generalize ((((H.setC (L + 1) none).setC (L + 2) none).setC (L + 3) none).setC (L + 4) none).setC (L + 1) (some (.ref A)) = B at *
  refine EsT.cons ?_
  refine ExT.assignComp (cl := [("script", L + 1)]) ?_
  refine EvT.call ?_; refine EvT.builtin ?_; refine ArgsT.pos ?_; refine ItsT.cons ?_
  refine EvT.list ?_; refine ItsT.cons ?_; refine EvT.int ?_; refine ItsT.cons ?_; refine EvT.int ?_; refine ItsT.cons ?_; refine EvT.int ?_; refine ItsT.cons ?_; refine EvT.int ?_; refine ItsT.cons ?_; refine EvT.int ?_; refine ItsT.cons ?_; refine EvT.int ?_; refine ItsT.nil ?_
  refine ⟨by rw [sizeLine_eq]; simp, fun CL hCL => ?_⟩
  refine ItsT.nil ?_
  refine ⟨trivial, CalT.enumerate (setL_hit _ _ _) fun itl en hitl hen => ?_⟩
  refine ItrT.enum (setI_hit _ _ _) ?_
  intro N1 C1 hN1 hC1
  show CsT w h₀ _ _ 0 en N1 ⟨[], ((((B.setL CL _).setI itl _).setI en _).setL N1 [])⟩ _
  have d1 : ∀ {b}, B.dom b → (B.setL CL [.int 21 0, .int 14 0, .int 13 0, .int 6 0, .int 9 0, .int 22 0]).dom b := fun d => dom_setL d
  have itlB : ¬ B.dom itl := fun d => hitl (dom_setL d)
  have enB : ¬ B.dom en := fun d => hen (dom_setI (dom_setL d))
  have N1B : ¬ B.dom N1 := fun d => hN1 (dom_setI (dom_setI (dom_setL d)))
  have neN : en ≠ itl := fun e => hen (e ▸ AH.dom_is (setI_hit _ _ _))
  have nCN : CL ≠ N1 := fun e => hN1 (dom_setI (dom_setI (e ▸ AH.dom_ls (setL_hit _ _ _))))
  refine CsT.start (SelfT.enum (setI_hit _ _ _)) ?_
  refine ClT.ruleL (fun kk st' => ∃ i old', i ≤ 6 ∧ kk = 6 - i ∧ AHle B st'.H ∧ st'.H.ls CL = some (lawC.map (Value.int · 0)) ∧ st'.H.is en = some (.enum itl i old') ∧ st'.H.is itl = some (.list CL i) ∧ st'.H.ls N1 = some ((List.range i).map fun i => Value.int (lawN ns i) 0)) 6
    ⟨0, .none, by decide, rfl, ((((AHle.refl.setL hCL).setI itlB).setI enB).setL N1B), (setL_miss nCN).trans (setL_hit _ _ _), setI_hit _ _ _, (setI_miss (Ne.symm neN)).trans (setI_hit _ _ _), setL_hit _ _ _⟩ ?_
  rintro kk ⟨lo1, H1⟩ ⟨i, old', hi, rfl, l1, eC, ee, el, eN⟩ N0 hN0
  by_cases hi6 : i < 6
  · have hc : (lawC.map (Value.int · 0))[i]? = some (.int (lawC[i]?.getD 0) 0) := by
      have : i = 0 ∨ i = 1 ∨ i = 2 ∨ i = 3 ∨ i = 4 ∨ i = 5 := by omega
      rcases this with rfl | rfl | rfl | rfl | rfl | rfl <;> rfl
    refine NxLT.enum ee el eC neN hc fun t old2 ht => ?_
    have nEl := neN
    have tB : ¬ B.dom t := fun d => ht (l1.dom d)
    refine AsT.pair (setT_hit _ _ _) (AsT.name (StoreT.local (AsT.name (StoreT.local ?_))))
    refine EvT.binOp ?_; refine EvT.binOp ?_
    refine EvT.local ?_ lh
    refine EvT.call ?_; refine EvT.builtin ?_; refine ArgsT.pos ?_; refine ItsT.cons ?_
    refine EvT.sliceOld old hsz (EvT.cell (a := L + 1) (l1.cs _ _ b1) ?_)
    refine PartT.some (EvT.local ?_ (lm (by decide) lh))
    refine PartT.none (PartT.some ?_)
    refine EvT.int ?_
    refine ⟨rfl, some (i : Int), none, some 6, rfl, rfl, rfl, by decide, fun sl hsl => ?_⟩
    rw [pick_int]
    refine ItsT.nil ?_
    refine ⟨trivial, CalT.sum (setL_hit _ _ _) ?_⟩
    refine BinT.addI ?_
    refine EvT.int ?_
    refine BinT.modI ?_ (by decide)
    have slB : ¬ B.dom sl := fun d => hsl (dom_setT (dom_setI (dom_setI (l1.dom d))))
    have n1 : CL ≠ sl := fun e => hsl (dom_setT (dom_setI (dom_setI (e ▸ AH.dom_ls eC))))
    have n2 : N1 ≠ sl := fun e => hsl (dom_setT (dom_setI (dom_setI (e ▸ AH.dom_ls eN))))
    refine CalT.append ((setL_miss n2).trans eN) (by simp; omega) ?_
    refine hN0 ⟨6 - (i + 1), by omega, i + 1, old2, hi6, rfl, (((((l1.setI enB).setI itlB).setT tB).setL slB).setL N1B), (setL_miss nCN).trans ((setL_miss n1).trans eC), (setI_miss neN).trans (setI_hit _ _ _), setI_hit _ _ _, (setL_hit _ _ _).trans ?_⟩
    rw [List.range_succ, List.map_append]; rfl
  · have : i = 6 := by omega
    subst this
    refine NxLT.enumEnd ee el eC rfl ?_
    have l2 := l1.delI' itlB
    have eN2 : (H1.delI itl).ls N1 = some (intV (lawNums ns)) := eN.trans (congrArg some (lawNums_V ns))
    generalize H1.delI itl = H2 at *
    refine StoreT.local ?_
    have n24 := lawNums_24 ns
    have nl := lawNums_len ns
    generalize lawNums ns = nums at *
    have inl : (intV nums).length = nums.length := List.length_map ..
    -- prices
    refine EsT.cons ?_
    refine ExT.assignName ?_
    refine EvT.comp (cl := []) ?_
    refine EvT.local ?_ lh
    refine ItrT.list eN2 fun it1 hit1 => ?_
    intro PR C2 hPR hC2
    show CsT w h₀ _ _ 0 it1 PR ⟨[], ((H2.setI it1 (.list N1 0)).setL PR []).setC (C2 + 1) none⟩ _
    have PR2 : ¬ H2.dom PR := fun d => hPR (dom_setI d)
    have cx2 : ¬ ((H2.setI it1 (.list N1 0)).setL PR []).dom (C2 + 1) := hC2 _ (Nat.le_succ _)
    have cxH : ¬ H2.dom (C2 + 1) := fun d => cx2 (dom_setL (dom_setI d))
    have pN : ∀ i, i < nums.length → (intV nums)[i]?.getD .none = .int ((nums[i]?.getD 0 : Nat) : Int) 0 := fun i hi => by rw [intV, List.getElem?_map, List.getElem?_eq_getElem hi]; rfl
    refine cs_ex (fun i vs H' => AHle H2 H' ∧ (∃ v, H'.cs (C2 + 1) = some v) ∧ vs = (List.range i).map fun i => .int (price (nums[i]?.getD 0)) 0) (m := (intV nums).length) (Src.list (fun i H' ⟨vs, l, _⟩ => l.ls _ _ eN2)) (by omega)
      ⟨((AHle.refl.setI hit1).setL PR2).setC cxH, ⟨none, setC_hit _ _ _⟩, rfl⟩ (setI_hit _ _ _) (setL_hit _ _ _)
      (fun i vs H' x ⟨l, c, e⟩ => ⟨l.setI hit1, c, e⟩) (fun i vs H' x ⟨l, c, e⟩ => ⟨l.setL PR2, c, e⟩) (fun i vs H' ⟨l, c, e⟩ => ⟨l.delI' hit1, c, e⟩) (fun i vs lo3 H3 hi ⟨l3, ⟨v3, c3⟩, e3⟩ ea3 el3 ei3 N M hN hM => ?price) (fun ⟨lo3, H3⟩ vs ⟨l3, _, e3⟩ ea3 => ?go1)
    case price =>
      rw [inl] at hi
      rw [pN i hi]
      have hx24 : nums[i]?.getD 0 < 24 := by rw [List.getElem?_eq_getElem hi]; exact n24 _ (List.getElem_mem hi)
      generalize hx : nums[i]?.getD 0 = x at *
      refine AsT.name (StoreT.cell (a := C2 + 1) c3 ?_)
      refine TestsT.nil (ifT' rfl ?_)
      have c4 : (H3.setC (C2 + 1) (some (.int x 0))).cs (C2 + 1) = some (some (.int x 0)) := setC_hit _ _ _
      have l4 : AHle H2 (H3.setC (C2 + 1) (some (.int x 0))) := l3.setC cxH
      have ea4 : (H3.setC (C2 + 1) (some (.int x 0))).ls PR = some vs := ea3
      have ei4 : (H3.setC (C2 + 1) (some (.int x 0))).is it1 = some (.list N1 (i + 1)) := ei3
      change EvT w h₀ _ _ ⟨lo3, H3.setC (C2 + 1) (some (.int x 0))⟩ _
      generalize H3.setC (C2 + 1) (some (.int x 0)) = H4 at *
      refine EvT.binOp ?_; refine EvT.call ?_; refine EvT.builtin ?_; refine ArgsT.pos ?_; refine ItsT.cons ?_
      refine EvT.comp (cl := [("x", C2 + 1)]) ?_
      refine EvT.call ?_; refine EvT.builtin ?_; refine ArgsT.pos ?_; refine ItsT.cons ?_; refine EvT.int ?_; refine ItsT.nil ?_
      refine ⟨trivial, CalT.range1 fun rg hrg => ?_⟩
      refine ItrT.rng (setI_hit _ _ _) (by decide) fun it2 hit2 => ?_
      intro acc C3 hacc hC3
      refine comp1 (c := cCo _ _ [] C2) (cl := [("x", C2 + 1)]) (C := C3) (m := 3) (H := H4.setI rg (.rng 0 3 1)) (it := it2) (acc := acc) (S := fun i : Nat => .range (0 + (i : Int) * 1) (((3 : Nat) : Int) - i) 1) (fun j => .int (Builtin.bitAnd ((x : Int).fdiv (2 ^ j)) 1) 0) hit2 hacc (Src.range 0 1) (by decide) (fun j lo5 H5 hj l5 N2 hN2 => ?_) (fun ⟨lo5, H5⟩ _ l5 es5 => ?_)
      · rw [rg0]
        refine AsT.name (StoreT.local ?_)
        have c5 := l5.cs (C2 + 1) _ c4
        refine EvT.binOp ?_; refine EvT.binOp ?_
        refine EvT.cell (a := C2 + 1) c5 ?_
        refine EvT.local ?_ lh
        refine BinT.shrI ?_ (by omega)
        rw [Int.toNat_natCast]
        refine EvT.int ?_
        refine BinT.andI ?_
        exact hN2 ⟨rfl, .refl⟩
      · have l45 : AHle H4 H5 := (AHle.setI .refl hrg).trans l5
        replace es5 : H5.ls acc = some ((List.range 3).map fun j => Value.int (Builtin.bitAnd ((x : Int).fdiv (2 ^ j)) 1) 0) := es5
        rw [range3] at es5
        refine ItsT.nil ?_
        refine ⟨trivial, CalT.sum (is := [Builtin.bitAnd ((x : Int).fdiv (2 ^ 0)) 1, Builtin.bitAnd ((x : Int).fdiv (2 ^ 1)) 1, Builtin.bitAnd ((x : Int).fdiv (2 ^ 2)) 1]) es5 ?_⟩
        refine EvT.binOp ?_; refine EvT.int ?_; refine EvT.binOp ?_
        refine EvT.cell (a := C2 + 1) (l45.cs _ _ c4) ?_
        refine EvT.int ?_
        refine BinT.divI ?_ (by decide) (by decide)
        refine BinT.mulI ?_ (.of_left (by decide))
        refine BinT.addI ?_
        rw [price_sum ⟨x, hx24⟩]
        refine hN ⟨⟨l4.trans l45, ⟨_, l45.cs _ _ c4⟩, ?_⟩, l45.ls _ _ ea4, l45.is _ _ ei4⟩
        rw [e3, List.range_succ, List.map_append]
        show _ = _ ++ [Value.int (price (nums[i]?.getD 0)) 0]
        rw [hx]
    case go1 =>
      rw [e3, inl, range_getN nums fun x => Value.int (price x) 0] at ea3
      refine StoreT.cell (a := L + 3) (v0 := none) (l3.cs _ _ (l2.cs _ _ b3)) ?_
      have l4 : AHle H (H3.setC (L + 3) (some (.ref PR))) := (lB.trans (l2.trans l3)).setC (fc 3)
      have k1 : (H3.setC (L + 3) (some (.ref PR))).cs (L + 1) = some (some (.ref A)) := (setC_miss (adNe (by decide))).trans (l3.cs _ _ (l2.cs _ _ b1))
      have k2 : (H3.setC (L + 3) (some (.ref PR))).cs (L + 2) = some none := (setC_miss (adNe (by decide))).trans (l3.cs _ _ (l2.cs _ _ b2))
      have k3 : (H3.setC (L + 3) (some (.ref PR))).cs (L + 3) = some (some (.ref PR)) := setC_hit _ _ _
      have k4 : (H3.setC (L + 3) (some (.ref PR))).cs (L + 4) = some none := (setC_miss (adNe (by decide))).trans (l3.cs _ _ (l2.cs _ _ b4))
      have eN : (H3.setC (L + 3) (some (.ref PR))).ls N1 = some (intV nums) := l3.ls _ _ eN2
      have eP : (H3.setC (L + 3) (some (.ref PR))).ls PR = some (nums.map fun x => .int (price x) 0) := ea3
      change EsT w h₀ _ _ ⟨_, H3.setC (L + 3) (some (.ref PR))⟩ _
      generalize H3.setC (L + 3) (some (.ref PR)) = H4 at *
      clear hPR hC2 PR2 cx2 cxH ea3 e3 l3 l2 b1 b2 b3 b4 eN2 hit1
      -- words
      refine EsT.cons ?_; refine ExT.assignName ?_; refine EvT.call ?_; refine EvT.global ?_; refine ArgsT.pos ?_; refine ItsT.cons ?_
      refine EvT.comp (cl := []) ?_
      refine EvT.local ?_ lh
      refine ItrT.list eN fun it1 hit1 => ?_
      intro WL C2 hWL hC2
      refine comp1 (cl := []) (C := C2) (H := H4) (it := it1) (acc := WL) (S := fun i => .list N1 i) (m := (intV nums).length) (fun j => tokS (chL (nums[j]?.getD 0))) hit1 hWL (Src.list (fun _ _ l => l.ls _ _ eN)) (by omega) (fun j lo5 H5 hj l5 N2 hN2 => ?_) (fun ⟨lo5, H5⟩ fWL l5 es5 => ?_)
      · rw [inl] at hj
        rw [pN j hj]
        refine AsT.name (StoreT.local ?_)
        refine EvT.call ?_; refine EvT.global ?_; refine ArgsT.pos ?_; refine ItsT.cons ?_
        refine EvT.local ?_ lh
        refine ItsT.nil ?_
        refine ⟨.inl (by kernel_rfl), CallT.cal (T_chip (num := nums[j]?.getD 0) (by rw [List.getElem?_eq_getElem hj]; exact n24 _ (List.getElem_mem hj)) (le_up (Nat.le_refl 0)) ?_)⟩
        exact hN2 ⟨by rw [chipW_eq]; rfl, .refl⟩
      · replace es5 : H5.ls WL = some (wq nums) := by
          refine es5.trans (congrArg some ?_)
          rw [inl]; exact range_getN nums fun x => tokS (chL x)
        refine ItsT.nil ?_
        refine ⟨.inl (by kernel_rfl), CallT.cal (T_lawRead (ws := nums.map chL) (le_up (Nat.le_refl 0)) (es5.trans (by rw [List.map_map]; rfl)) (by rw [List.length_map]; exact nl) (fun l hl => by obtain ⟨x, hx, rfl⟩ := List.mem_map.mp hl; exact chL_okW (n24 x hx)) fun H6 W l6 fW eW => ?_)⟩
        replace eW : H6.ls W = some (wq nums) := eW.trans (by rw [List.map_map]; rfl)
        have l46 := l5.trans l6
        refine StoreT.cell (a := L + 4) (v0 := none) (l46.cs _ _ k4) ?_
        have l7 : AHle H (H6.setC (L + 4) (some (.ref W))) := (l4.trans l46).setC (fc 4)
        have m1 : (H6.setC (L + 4) (some (.ref W))).cs (L + 1) = some (some (.ref A)) := (setC_miss (adNe (by decide))).trans (l46.cs _ _ k1)
        have m2 : (H6.setC (L + 4) (some (.ref W))).cs (L + 2) = some none := (setC_miss (adNe (by decide))).trans (l46.cs _ _ k2)
        have m3 : (H6.setC (L + 4) (some (.ref W))).cs (L + 3) = some (some (.ref PR)) := (setC_miss (adNe (by decide))).trans (l46.cs _ _ k3)
        have m4 : (H6.setC (L + 4) (some (.ref W))).cs (L + 4) = some (some (.ref W)) := setC_hit _ _ _
        have pP : (H6.setC (L + 4) (some (.ref W))).ls PR = some (nums.map fun x => .int (price x) 0) := l46.ls _ _ eP
        have pW : (H6.setC (L + 4) (some (.ref W))).ls W = some (wq nums) := eW
        change EsT w h₀ _ _ ⟨_, H6.setC (L + 4) (some (.ref W))⟩ _
        generalize H6.setC (L + 4) (some (.ref W)) = H7 at *
        clear hWL hC2 fWL es5 l5 l6 fW l46 k1 k2 k3 k4 eN eP eW hit1
        have ok := strOkW n24
        -- words == []
        refine EsT.cons ?_; refine ExT.if ?_; refine IfT.compare ?_
        refine EvT.cell (a := L + 4) m4 ?_
        refine EvT.list ?_; refine ItsT.nil ?_
        refine ⟨by simp [sizeLine_eq], fun E0 hE0 => ?_⟩
        have nE : W ≠ E0 := fun e => hE0 (e ▸ AH.dom_ls pW)
        refine CmpT.eqLS (xs := nums.map fun x => strL (chL x)) (ys := []) ((setL_miss nE).trans (pW.trans (congrArg some (wq_str nums)))) (setL_hit _ _ _) (le_up (Nat.le_refl 0)) ok rfl (TruT.bool (ifF ?_ ?_))
        · have : nums ≠ [] := fun e => by rw [e] at nl; simp at nl
          simp [this]
        refine EsT.nil ?_
        have l8 : AHle H7 (H7.setL E0 []) := AHle.setL .refl hE0
        change EsT w h₀ _ _ ⟨_, H7.setL E0 []⟩ _
        generalize H7.setL E0 [] = H8 at *
        -- far
        refine EsT.cons ?_; refine ExT.assignName ?_; refine EvT.call ?_; refine EvT.global ?_; refine ArgsT.pos ?_; refine ItsT.cons ?_
        refine EvT.cell (a := L + 4) (l8.cs _ _ m4) ?_
        refine ItsT.cons ?_
        refine EvT.cell (a := L + 3) (l8.cs _ _ m3) ?_
        refine ItsT.nil ?_
        refine ⟨.inl (by kernel_rfl), CallT.cal (T_lawFar (nums := nums) (le_up (Nat.le_refl 0)) nl n24 (l8.ls _ _ pW) (l8.ls _ _ pP) fun H9 FD kv l9 fFD eFD hkv => ?_)⟩
        have l79 := l8.trans l9
        refine StoreT.cell (a := L + 2) (v0 := none) (l79.cs _ _ m2) ?_
        have l10 : AHle H (H9.setC (L + 2) (some (.ref FD))) := (l7.trans l79).setC (fc 2)
        have r1 : (H9.setC (L + 2) (some (.ref FD))).cs (L + 1) = some (some (.ref A)) := (setC_miss (adNe (by decide))).trans (l79.cs _ _ m1)
        have r2 : (H9.setC (L + 2) (some (.ref FD))).cs (L + 2) = some (some (.ref FD)) := setC_hit _ _ _
        have r3 : (H9.setC (L + 2) (some (.ref FD))).cs (L + 3) = some (some (.ref PR)) := (setC_miss (adNe (by decide))).trans (l79.cs _ _ m3)
        have r4 : (H9.setC (L + 2) (some (.ref FD))).cs (L + 4) = some (some (.ref W)) := (setC_miss (adNe (by decide))).trans (l79.cs _ _ m4)
        have sP : (H9.setC (L + 2) (some (.ref FD))).ls PR = some (nums.map fun x => .int (price x) 0) := l79.ls _ _ pP
        have sW : (H9.setC (L + 2) (some (.ref FD))).ls W = some (wq nums) := l79.ls _ _ pW
        have sF : (H9.setC (L + 2) (some (.ref FD))).ds FD = some kv := eFD
        change EsT w h₀ _ _ ⟨_, H9.setC (L + 2) (some (.ref FD))⟩ _
        generalize H9.setC (L + 2) (some (.ref FD)) = H10 at *
        clear l79 l9 l8 fFD eFD m1 m2 m3 m4 pP pW hE0 nE l7 l4
        refine EsT.cons ?_; refine ExT.assignName ?_; refine EvT.list ?_; refine ItsT.nil ?_
        refine ⟨by simp [sizeLine_eq], fun RW hRW => ?_⟩
        refine StoreT.local ?_
        replace hRW : ¬ H10.dom RW := hRW
        have nWR : W ≠ RW := fun e => hRW (e ▸ AH.dom_ls sW)
        obtain ⟨Ws, eWs⟩ : ∃ Ws, Ws = nums.map fun x => strL (chL x) := ⟨_, rfl⟩
        have sW' : H10.ls W = some (Ws.map (Value.str · 0)) := by rw [eWs, ← wq_str]; exact sW
        have kfv : ∀ v ∈ Ws, kv.lookup v = some (.int (kfOf kv v) 0) := fun v hv => by
          rw [eWs] at hv
          obtain ⟨x, hx, rfl⟩ := List.mem_map.mp hv
          have := hkv x hx
          rw [kfOf_eq this]; exact this
        have Wl : Ws.length = 6 := by rw [eWs, List.length_map]; exact nl
        have okW' : Ws.all PyData.strOk = true := by rw [eWs]; exact ok
        refine EsT.cons ?_
        refine ExT.for ?_
        refine EvT.cell (a := L + 4) r4 ?_
        refine ItrT.list (show (H10.setL RW []).ls W = some (Ws.map (Value.str · 0)) from (setL_miss nWR).trans sW') fun it1 hit1 => ?_
        have it1H : ¬ H10.dom it1 := fun d => hit1 (dom_setL d)
        have l0 : AHle H10 ((H10.setL RW []).setI it1 (.list W 0)) := (AHle.refl.setL hRW).setI it1H
        have wml : (Ws.map (Value.str · 0)).length = Ws.length := List.length_map ..
        refine for_src (K := fun _ H' => H'.ls W = some (Ws.map (Value.str · 0))) (m := (Ws.map (Value.str · 0)).length) (fun i st => ∃ ys, AHle H10 st.H ∧ st.H.ls RW = some (ys.map (Value.str · 0)) ∧ Insorted (kfOf kv) (Ws.take i) ys ∧ st.lo.g "row" = some (.ref RW)) (Src.list (l := W) (fun _ _ k => k)) (fun i st ⟨ys, l, _⟩ => l.ls _ _ sW')
          ⟨[], l0, setL_hit _ _ _, Insorted.nil _, rfl⟩ (setI_hit _ _ _) (fun i lo H' x ⟨ys, l, e, ii, g⟩ => ⟨ys, l.setI it1H, e, ii, g⟩) (fun i lo H' hi ⟨ys, l, e, ii, g⟩ ei N hN hC hB hR => ?word) (fun lo H' ⟨ys, l, e, ii, g⟩ => ?after)
        case word =>
          rw [wml] at hi
          have ev : (Ws.map (Value.str · 0))[i]?.getD .none = .str Ws[i] 0 := by rw [List.getElem?_map, List.getElem?_eq_getElem hi]; rfl
          rw [ev]
          have et : Ws.take (i + 1) = Ws.take i ++ [Ws[i]] := by rw [List.take_add_one, List.getElem?_eq_getElem hi]; rfl
          have yl : ys.length ≤ 6 := by rw [ii.1.length_eq, List.length_take]; omega
          refine AsT.name (StoreT.local ?_)
          refine EsT.cons ?_; refine ExT.expr ?_; refine EvT.call ?_; refine EvT.global ?_; refine ArgsT.kw ?_; refine ItsT.cons ?_
          refine EvT.local ?_ (lm (by decide) g)
          refine ItsT.cons ?_
          refine EvT.local ?_ lh
          refine ItsT.nil ?_
          refine EvT.lambda (cc := 172) (P := 170) (clos := [("far", L + 2)]) (fun f hf => ?_) (by decide)
          refine ⟨.inl (by kernel_rfl), CallT.cal (T_insortLeft (kf := kfOf kv) (xs := ys) (x := Ws[i]) (le_up (Nat.le_refl 0)) e (by omega) ii.2.1 (setF_hit _ _ _) (fun v hv m hm Q' q' => ?key) fun r hr h1 h2 => ?_)⟩
          case key =>
            have hv' : v ∈ Ws := by
              rcases List.mem_cons.mp hv with rfl | hv
              · exact List.getElem_mem hi
              · exact List.mem_of_mem_take (ii.1.mem_iff.mp hv)
            refine CallT.made (binds := [("x", .str v 0)]) (setF_hit _ _ _) (fun fd e1 e2 e3 a' k' e4 e5 => ?_) (fun L2 q cd hL2 => ?_) (by omega) rfl rfl
            · obtain ⟨x', rfl, ex⟩ := map1 e4
              rw [kw0 e5]
              obtain ⟨nm, qn, pa, bo, sc, gl, cl, de, kd, dc, pm, an, co, ct, bu⟩ := fd
              simp only at e1 e2 e3
              subst e1 e2 e3
              exact ⟨[("x", x')], rfl, by simp [ex]⟩
            refine BdT.loc (BdT.nil (BodyT.expr ?_))
            refine EvT.sub ?_
            refine EvT.free (a := L + 2) (l.cs _ _ r2) ?_
            refine EvT.local ?_
            have eF : H'.ds FD = some kv := l.ds _ _ sF
            refine ⟨SubOk.ds eF, GetT.dict eF (kfv v hv') ?_⟩
            exact q'
          refine ⟨by simp, ?_⟩
          refine EsT.nil ?_
          refine hN ⟨⟨_, (l.setF fun d => hf (l.dom d)).setL hRW, setL_hit _ _ _, by rw [et]; exact ii.snoc hr h1 h2, lm (by decide) g⟩, ei⟩
        case after =>
          rw [wml, List.take_length] at ii
          refine EsT.nil ?_
          have lD := l.delI' it1H
          have e2 : (H'.delI it1).ls RW = some (ys.map (Value.str · 0)) := e
          generalize H'.delI it1 = H11 at *
          have okY : ys.all PyData.strOk = true := by
            rw [List.all_eq_true] at okW' ⊢
            exact fun y hy => okW' y (ii.1.mem_iff.mp hy)
          refine EsT.cons ?_; refine ExT.if ?_; refine IfT.compare ?_
          refine EvT.local ?_ g
          refine EvT.call ?_; refine EvT.builtin ?_; refine ArgsT.kw ?_; refine ItsT.cons ?_; refine EvT.slice ?_
          have w11 : H11.ls W = some (Ws.map (Value.str · 0)) := lD.ls _ _ sW'
          refine EvT.cell (a := L + 4) (lD.cs _ _ r4) ?_
          refine PartT.none ?_; refine PartT.none ?_; refine PartT.some ?_; refine EvT.unaryOp ?_; refine EvT.int ?_
          refine UnT.negI ?_
          refine ⟨SubOk.ls w11, SliT.list (lo := none) (hi := none) (st := some (-1)) w11 rfl rfl rfl (by decide) (by rw [List.length_map, Wl, sizeLine_eq]; decide) fun RV hRV => ?_⟩
          rw [pick_revL _ (by rw [List.length_map]; exact Wl), ← List.map_reverse]
          refine ItsT.nil ?_
          refine EvT.lambda (cc := 172) (P := 170) (clos := [("words", L + 4), ("prices", L + 3)]) (fun f hf => ?_) (by decide)
          have lF : AHle H11 (H11.setL RV (Ws.reverse.map (Value.str · 0))) := AHle.refl.setL hRV
          have lFf : ∀ fa, AHle H11 ((H11.setL RV (Ws.reverse.map (Value.str · 0))).setF f fa) := fun fa => (AHle.refl.setL hRV).setF fun d => hf (dom_setL d)
          refine ⟨trivial, CalT.sortedKey (kf := kfOf kv) (xs := Ws.reverse) (setL_hit _ _ _) (by rw [List.length_reverse]; omega) (by rw [List.length_reverse]; omega) (le_up (Nat.le_refl 0)) (fun v hv m hm Q' q' => ?key2) fun D zs hD ks => ?_⟩
          case key2 =>
            have hv' : v ∈ Ws := List.mem_reverse.mp hv
            refine CallT.made (binds := [("x", .str v 0)]) (setF_hit _ _ _) (fun fd e1 e2 e3 a' k' e4 e5 => ?_) (fun L2 q cd hL2 => ?_) (by omega) rfl rfl
            · obtain ⟨x', rfl, ex⟩ := map1 e4
              rw [kw0 e5]
              obtain ⟨nm, qn, pa, bo, sc, gl, cl, de, kd, dc, pm, an, co, ct, bu⟩ := fd
              simp only at e1 e2 e3
              subst e1 e2 e3
              exact ⟨[("x", x')], rfl, by simp [ex]⟩
            refine BdT.loc (BdT.nil (BodyT.expr ?_))
            refine EvT.sub ?_
            refine EvT.free (a := L + 3) (lD.cs _ _ r3) ?_
            have wF : (H11.setL RV (Ws.reverse.map (Value.str · 0))).ls W = some (Ws.map (Value.str · 0)) := lF.ls _ _ w11
            refine EvT.method (EvT.free (a := L + 4) (lD.cs _ _ r4) (GmT.list wF F.slot_list_index F.type_list_index ?_))
            refine ArgsT.pos ?_; refine ItsT.cons ?_
            refine EvT.local ?_ lh
            refine ItsT.nil ?_
            refine ⟨trivial, CalT.indexS (ns := Ws) wF (by omega) hv' ?_⟩
            have hix : Ws.idxOf v < Ws.length := List.idxOf_lt_length_iff.mpr hv'
            have pF : (H11.setL RV (Ws.reverse.map (Value.str · 0))).ls PR = some (nums.map fun x => .int (price x) 0) := lF.ls _ _ (lD.ls _ _ sP)
            refine ⟨SubOk.ls pF, GetT.list (v := .int (kfOf kv v) 0) pF (nn0 _) (by omega) ?_ ?_⟩
            · rw [Int.toNat_natCast, List.getElem?_map, List.getElem?_eq_getElem (by omega)]
              have ew : Ws[Ws.idxOf v] = v := List.getElem_idxOf hix
              have h1 : Ws[Ws.idxOf v] = strL (chL (nums[Ws.idxOf v]'(by omega))) := by
                have := congrArg (·[Ws.idxOf v]?) eWs
                simp only [List.getElem?_map, List.getElem?_eq_getElem hix, List.getElem?_eq_getElem (show Ws.idxOf v < nums.length by omega), Option.map_some, Option.some.injEq] at this
                exact this
              have h2 : kfOf kv v = price (nums[Ws.idxOf v]'(by omega)) := (congrArg (kfOf kv) (ew.symm.trans h1)).trans (kfOf_eq (hkv _ (List.getElem_mem _)))
              rw [h2]; rfl
            · exact q'
          have yz : ys = zs := insort_is_sort ii ks
          have nRV : RW ≠ RV := fun q => hRV (q ▸ AH.dom_ls e2)
          have nRD : RW ≠ D := fun q => hD (dom_setF (dom_setL (q ▸ AH.dom_ls e2)))
          refine CmpT.neLS (xs := ys) (ys := zs) ((setL_miss nRD).trans ((setL_miss nRV).trans e2)) (setL_hit _ _ _) (le_up (Nat.le_refl 0)) okY (yz ▸ okY) (TruT.bool (ifF (by rw [yz]; simp) ?_))
          refine EsT.nil ?_
          refine EsT.weaken (H'' := H11) ((lFf _).setL fun d => hD ((lFf _).dom d)) ?_
          have c1 := lD.cs _ _ r1
          have c2 := lD.cs _ _ r2
          have c3 := lD.cs _ _ r3
          have c4 := lD.cs _ _ r4
          have aP := lD.ls _ _ sP
          have aF := lD.ds _ _ sF
          have lH := l10.trans lD
          -- number
          refine EsT.cons ?_; refine ExT.assignName ?_; refine EvT.binOp ?_; refine EvT.binOp ?_; refine EvT.binOp ?_; refine EvT.int ?_; refine EvT.binOp ?_; refine EvT.int ?_; refine EvT.call ?_; refine EvT.builtin ?_; refine ArgsT.pos ?_; refine ItsT.cons ?_
          refine EvT.cell (a := L + 1) c1 ?_
          refine ItsT.nil ?_
          refine ⟨trivial, CalT.sumOld old ?_⟩
          refine BinT.mulI ?_ (.of_left (by decide))
          refine BinT.addI ?_
          refine EvT.binOp ?_; refine EvT.int ?_; refine EvT.int ?_
          refine BinT.powI ?_ (by decide) (by decide)
          refine BinT.modI ?_ (by decide)
          refine EvT.binOp ?_; refine EvT.int ?_; refine EvT.int ?_
          refine BinT.powI ?_ (by decide) (by decide)
          refine BinT.subI ?_
          have nb : ((271828182845904 + 314159265 * ns.sum : Int).fmod (2 ^ (48 : Int).toNat) - 2 ^ (47 : Int).toNat).natAbs ≤ 2 ^ 47 := by
            have e48 : (2 : Int) ^ (48 : Int).toNat = 281474976710656 := by decide
            have e47 : (2 : Int) ^ (47 : Int).toNat = 140737488355328 := by decide
            have n47 : (2 : Nat) ^ 47 = 140737488355328 := by decide
            rw [e48, e47, n47]
            have h0 := Int.fmod_nonneg_of_pos (271828182845904 + 314159265 * ns.sum) (show (0 : Int) < 281474976710656 by decide)
            have h1 := Int.fmod_lt_of_pos (271828182845904 + 314159265 * ns.sum) (show (0 : Int) < 281474976710656 by decide)
            omega
          generalize ((271828182845904 + 314159265 * ns.sum : Int).fmod (2 ^ (48 : Int).toNat) - 2 ^ (47 : Int).toNat) = number at *
          refine StoreT.local ?_
          -- told
          refine EsT.cons ?_; refine ExT.assignName ?_; refine EvT.call ?_; refine EvT.global ?_; refine ArgsT.pos ?_; refine ItsT.cons ?_
          refine EvT.cell (a := L + 4) c4 ?_
          refine ItsT.cons ?_
          refine EvT.cell (a := L + 2) c2 ?_
          refine ItsT.cons ?_
          refine EvT.local ?_ lh
          refine ItsT.nil ?_
          refine ⟨.inl (by kernel_rfl), CallT.cal (T_lawFired (nums := nums) (le_up (Nat.le_refl 0)) nl n24 (w11.trans (by rw [eWs, ← wq_str])) aF hkv nb fun H13 R e l13 fR el ep es eR => ?_)⟩
          have w13 := l13.ls _ _ w11
          have eWq : wq nums = Ws.map (Value.str · 0) := by rw [eWs, ← wq_str]
          refine StoreT.local ?_
          -- last
          refine EsT.cons ?_; refine ExT.assignName ?_; refine EvT.binOp ?_; refine EvT.slice ?_
          refine EvT.local ?_ lh
          refine PartT.none ?_; refine PartT.some ?_; refine EvT.int ?_; refine PartT.none ?_
          have t14 : (told14 e).length ≤ sizeLine := by rw [(told14_at el).2.2.2, sizeLine_eq]; decide
          refine ⟨SubOk.ls eR, SliT.list (lo := none) (hi := some 3) (st := none) eR rfl rfl rfl (by decide) t14 fun S1 hS1 => ?_⟩
          rw [told_s1 el]
          have nR1 : R ≠ S1 := fun q => hS1 (q ▸ AH.dom_ls eR)
          refine EvT.slice ?_
          refine EvT.local ?_ lh
          refine PartT.some ?_; refine EvT.int ?_; refine PartT.some ?_; refine EvT.int ?_; refine PartT.none ?_
          have eR1 : (H13.setL S1 (wq (e.take 3))).ls R = some (told14 e) := (setL_miss nR1).trans eR
          refine ⟨SubOk.ls eR1, SliT.list (lo := some 4) (hi := some 7) (st := none) eR1 rfl rfl rfl (by decide) t14 fun S2 hS2 => ?_⟩
          rw [told_s2 el]
          have nR2 : R ≠ S2 := fun q => hS2 (q ▸ AH.dom_ls eR1)
          have n12 : S1 ≠ S2 := fun q => hS2 (q ▸ AH.dom_ls (setL_hit _ _ _))
          refine BinT.addL ((setL_miss n12).trans (setL_hit _ _ _)) (setL_hit _ _ _) (by rw [wq_len, wq_len, sizeLine_eq]; simp; omega) fun LA hLA => ?_
          rw [← wq_app, List.take_append_drop]
          have lS : AHle H13 (((H13.setL S1 (wq (e.take 3))).setL S2 (wq (e.drop 3))).setL LA (wq e)) := ((AHle.refl.setL hS1).setL fun d => hS2 (dom_setL d)).setL fun d => hLA (dom_setL (dom_setL d))
          refine StoreT.local ?_
          have eLA : (((H13.setL S1 (wq (e.take 3))).setL S2 (wq (e.drop 3))).setL LA (wq e)).ls LA = some (wq e) := setL_hit _ _ _
          change EsT w h₀ _ _ ⟨_, ((H13.setL S1 (wq (e.take 3))).setL S2 (wq (e.drop 3))).setL LA (wq e)⟩ _
          have l14 := l13.trans lS
          have eR14 := lS.ls _ _ eR
          generalize ((H13.setL S1 (wq (e.take 3))).setL S2 (wq (e.drop 3))).setL LA (wq e) = H14 at *
          clear hS1 hS2 hLA nR1 nR2 n12 eR1 lS
          obtain ⟨es1, ees⟩ : ∃ es1, es1 = e.map fun x => strL (chL x) := ⟨_, rfl⟩
          have eLA' : H14.ls LA = some (es1.map (Value.str · 0)) := by rw [ees, ← wq_str]; exact eLA
          have pe : es1.Perm Ws := by rw [ees, eWs]; exact ep.map _
          -- the ends
          refine EsT.cons ?_; refine ExT.if ?_; refine IfT.or ?_; refine IfT.compare ?_; refine EvT.binOp ?_; refine EvT.slice ?_
          refine EvT.local ?_ (lm (by decide) lh)
          refine PartT.some ?_; refine EvT.int ?_; refine PartT.some ?_; refine EvT.int ?_; refine PartT.none ?_
          refine ⟨SubOk.ls eR14, SliT.list (lo := some 3) (hi := some 4) (st := none) eR14 rfl rfl rfl (by decide) t14 fun S3 hS3 => ?_⟩
          rw [told_s3 el]
          have n3 : R ≠ S3 := fun q => hS3 (q ▸ AH.dom_ls eR14)
          have eR15 : (H14.setL S3 [tokS [122]]).ls R = some (told14 e) := (setL_miss n3).trans eR14
          refine EvT.slice ?_
          refine EvT.local ?_ (lm (by decide) lh)
          refine PartT.some ?_; refine EvT.int ?_; refine PartT.none ?_; refine PartT.none ?_
          refine ⟨SubOk.ls eR15, SliT.list (lo := some 7) (hi := none) (st := none) eR15 rfl rfl rfl (by decide) t14 fun S4 hS4 => ?_⟩
          rw [told_s4 el]
          have n34 : S3 ≠ S4 := fun q => hS4 (q ▸ AH.dom_ls (setL_hit _ _ _))
          refine BinT.addL ((setL_miss n34).trans (setL_hit _ _ _)) (setL_hit _ _ _) (by rw [sizeLine_eq]; simp) fun S5 hS5 => ?_
          have l5 : AHle H14 (((H14.setL S3 [tokS [122]]).setL S4 [tokS [122], tokS [122], tokS [122], tokS [], tokS [122], tokS [122], tokS [122]]).setL S5 ([tokS [122]] ++ [tokS [122], tokS [122], tokS [122], tokS [], tokS [122], tokS [122], tokS [122]])) := ((AHle.refl.setL hS3).setL fun d => hS4 (dom_setL d)).setL fun d => hS5 (dom_setL (dom_setL d))
          have e5 : (((H14.setL S3 [tokS [122]]).setL S4 [tokS [122], tokS [122], tokS [122], tokS [], tokS [122], tokS [122], tokS [122]]).setL S5 ([tokS [122]] ++ [tokS [122], tokS [122], tokS [122], tokS [], tokS [122], tokS [122], tokS [122]])).ls S5 = some (([zS, zS, zS, zS, eS, zS, zS, zS] : List Str).map (Value.str · 0)) := setL_hit _ _ _
          change EvT w h₀ _ _ ⟨_, ((H14.setL S3 [tokS [122]]).setL S4 [tokS [122], tokS [122], tokS [122], tokS [], tokS [122], tokS [122], tokS [122]]).setL S5 ([tokS [122]] ++ [tokS [122], tokS [122], tokS [122], tokS [], tokS [122], tokS [122], tokS [122]])⟩ _
          generalize ((H14.setL S3 [tokS [122]]).setL S4 [tokS [122], tokS [122], tokS [122], tokS [], tokS [122], tokS [122], tokS [122]]).setL S5 ([tokS [122]] ++ [tokS [122], tokS [122], tokS [122], tokS [], tokS [122], tokS [122], tokS [122]]) = H15 at *
          refine EvT.binOp ?_; refine EvT.binOp ?_; refine EvT.binOp ?_; refine EvT.list ?_; refine ItsT.cons ?_; refine EvT.str ?_; refine ItsT.nil ?_
          refine ⟨by rw [sizeLine_eq]; simp, fun Z1 hZ1 => ?_⟩
          refine EvT.int ?_
          refine BinT.mulL (setL_hit _ _ _) (by decide) (by decide) (by decide) fun Z2 hZ2 => ?_
          refine EvT.list ?_; refine ItsT.cons ?_; refine EvT.str ?_; refine ItsT.nil ?_
          refine ⟨by rw [sizeLine_eq]; simp, fun Z3 hZ3 => ?_⟩
          have n23 : Z2 ≠ Z3 := fun q => hZ3 (q ▸ AH.dom_ls (setL_hit _ _ _))
          refine BinT.addL ((setL_miss n23).trans (setL_hit _ _ _)) (setL_hit _ _ _) (by rw [sizeLine_eq]; decide) fun Z4 hZ4 => ?_
          refine EvT.binOp ?_; refine EvT.list ?_; refine ItsT.cons ?_; refine EvT.str ?_; refine ItsT.nil ?_
          refine ⟨by rw [sizeLine_eq]; simp, fun Z5 hZ5 => ?_⟩
          refine EvT.int ?_
          refine BinT.mulL (setL_hit _ _ _) (by decide) (by decide) (by decide) fun Z6 hZ6 => ?_
          have n45 : Z4 ≠ Z5 := fun q => hZ5 (q ▸ AH.dom_ls (setL_hit _ _ _))
          have n46 : Z4 ≠ Z6 := fun q => hZ6 (dom_setL (q ▸ AH.dom_ls (setL_hit _ _ _)))
          refine BinT.addL ((setL_miss n46).trans ((setL_miss n45).trans (setL_hit _ _ _))) (setL_hit _ _ _) (by rw [sizeLine_eq]; decide) fun Z7 hZ7 => ?_
          refine CmpT.neLS (xs := [zS, zS, zS, zS, eS, zS, zS, zS]) (ys := [zS, zS, zS, zS, eS, zS, zS, zS]) (AHle.ls (((((((AHle.refl.setL hZ1).setL fun d => hZ2 (dom_setL d)).setL fun d => hZ3 (dom_setL (dom_setL d))).setL fun d => hZ4 (dom_setL (dom_setL (dom_setL d)))).setL fun d => hZ5 (dom_setL (dom_setL (dom_setL (dom_setL d))))).setL fun d => hZ6 (dom_setL (dom_setL (dom_setL (dom_setL (dom_setL d)))))).setL fun d => hZ7 (dom_setL (dom_setL (dom_setL (dom_setL (dom_setL (dom_setL d))))))) _ _ e5) (setL_hit _ _ _) (le_up (Nat.le_refl 0)) zs_ok zs_ok (TruT.bool (ifF (by simp) ?_))
          refine IfT.weaken (H'' := H14) (l5.trans (((((((AHle.refl.setL hZ1).setL fun d => hZ2 (dom_setL d)).setL fun d => hZ3 (dom_setL (dom_setL d))).setL fun d => hZ4 (dom_setL (dom_setL (dom_setL d)))).setL fun d => hZ5 (dom_setL (dom_setL (dom_setL (dom_setL d))))).setL fun d => hZ6 (dom_setL (dom_setL (dom_setL (dom_setL (dom_setL d)))))).setL fun d => hZ7 (dom_setL (dom_setL (dom_setL (dom_setL (dom_setL (dom_setL d)))))))) ?_
          clear hZ1 hZ2 hZ3 hZ4 hZ5 hZ6 hZ7 n23 n45 n46 e5 l5 hS5 hS4 hS3 n34 eR15 n3
          refine IfT.or ?_; refine IfT.compare ?_; refine EvT.call ?_; refine EvT.builtin ?_; refine ArgsT.pos ?_; refine ItsT.cons ?_
          refine EvT.local ?_ lh
          refine ItsT.nil ?_
          refine ⟨trivial, CalT.sortedS (ns := es1) eLA' (by rw [pe.length_eq]; omega) fun D1 ms1 hD1 pm1 sm1 => ?_⟩
          have nW1 : W ≠ D1 := fun q => hD1 (q ▸ AH.dom_ls (l14.ls _ _ w11))
          refine EvT.call ?_; refine EvT.builtin ?_; refine ArgsT.pos ?_; refine ItsT.cons ?_
          refine EvT.cell (a := L + 4) (l14.cs _ _ c4) ?_
          refine ItsT.nil ?_
          refine ⟨trivial, CalT.sortedS (ns := Ws) ((setL_miss nW1).trans (l14.ls _ _ w11)) (by omega) fun D2 ms2 hD2 pm2 sm2 => ?_⟩
          have n12 : D1 ≠ D2 := fun q => hD2 (q ▸ AH.dom_ls (setL_hit _ _ _))
          have em : ms1 = ms2 := sorted_str_uniq (sortedS_pw sm1) (sortedS_pw sm2) (pm1.trans (pe.trans pm2.symm))
          have ok1 : ms2.all PyData.strOk = true := by
            rw [List.all_eq_true] at okW' ⊢
            exact fun y hy => okW' y (pm2.mem_iff.mp hy)
          refine CmpT.neLS (xs := ms1) (ys := ms2) ((setL_miss n12).trans (setL_hit _ _ _)) (setL_hit _ _ _) (le_up (Nat.le_refl 0)) (em ▸ ok1) ok1 (TruT.bool (ifF (by rw [em]; simp) ?_))
          refine IfT.orNil ?_
          refine ifF rfl ?_
          refine EsT.nil ?_
          refine EsT.weaken (H'' := H14) ((AHle.refl.setL hD1).setL fun d => hD2 (dom_setL d)) ?_
          clear hD1 hD2 n12 nW1
          -- the verdict
          refine EsT.cons ?_; refine ExT.return ?_; refine EvT.compare ?_
          refine EvT.comp (cl := [("far", L + 2)]) ?_
          refine EvT.local ?_ lh
          refine ItrT.list eLA fun it2 hit2 => ?_
          intro VL C3 hVL hC3
          have wel : (wq e).length = e.length := wq_len e
          refine comp1 (cl := [("far", L + 2)]) (C := C3) (H := H14) (it := it2) (acc := VL) (S := fun i => .list LA i) (m := (wq e).length) (fun j => .int (price (e[j]?.getD 0)) 0) hit2 hVL (Src.list (fun _ _ l => l.ls _ _ eLA)) (by omega) (fun j lo5 H15 hj l15 N2 hN2 => ?_) (fun ⟨lo5, H15⟩ fVL l15 eV => ?_)
          · rw [wel] at hj
            have ev : (wq e)[j]?.getD .none = tokS (chL e[j]) := by rw [wq, List.getElem?_map, List.getElem?_eq_getElem hj]; rfl
            rw [ev]
            refine AsT.name (StoreT.local ?_)
            refine EvT.sub ?_
            refine EvT.cell (a := L + 2) (l15.cs _ _ (l14.cs _ _ c2)) ?_
            refine EvT.local ?_ lh
            have aF15 := l15.ds _ _ (l14.ds _ _ aF)
            refine ⟨SubOk.ds aF15, GetT.dict (v := .int (price e[j]) 0) aF15 (hkv _ (ep.mem_iff.mp (List.getElem_mem hj))) ?_⟩
            exact hN2 ⟨by rw [List.getElem?_eq_getElem hj]; rfl, .refl⟩
          · replace eV : H15.ls VL = some ((e.map price).map (Value.int · 0)) := by
              refine eV.trans (congrArg some ?_)
              rw [wel]
              exact (range_getN e fun x => Value.int (price x) 0).trans (by rw [List.map_map]; rfl)
            have lP15 : H15.ls PR = some ((nums.map price).map (Value.int · 0)) := (l15.ls _ _ (l14.ls _ _ aP)).trans (by rw [List.map_map]; rfl)
            refine EvT.call ?_; refine EvT.builtin ?_; refine ArgsT.pos ?_; refine ItsT.cons ?_
            refine EvT.cell (a := L + 3) (l15.cs _ _ (l14.cs _ _ c3)) ?_
            refine ItsT.nil ?_
            refine ⟨trivial, CalT.sortedI (ns := nums.map price) lP15 (by rw [List.length_map]; omega) fun D3 ms hD3 pm sm => ?_⟩
            have nV : VL ≠ D3 := fun q => hD3 (q ▸ AH.dom_ls eV)
            have evs : e.map price = ms := sorted_int_uniq es sm ((ep.map price).trans pm.symm)
            refine CmpT.eqLI (xs := e.map price) (ys := ms) ((setL_miss nV).trans eV) (setL_hit _ _ _) (le_up (Nat.le_refl 0)) ?_
            have hb : (e.map price == ms) = true := by rw [evs]; simp
            have hq : ∀ b : Bool, b = true → Q (.bool b) (H15.setL D3 (ms.map (Value.int · 0))) := fun b hb => hb ▸ h _ (((lH.trans l14).trans l15).setL fun d => hD3 (((lH.trans l14).trans l15).dom d))
            show Q _ _
            exact hq _ hb

noncomputable def AH0 : AH := ⟨fun _ => none, fun _ => none, fun _ => none, fun _ => none, fun _ => none, fun _ => none, fun _ => none⟩
theorem AH0.dom (a : Addr) : ¬ AH0.dom a := fun d => by
  rcases d with e | e | e | e | e | e | e <;> exact e rfl
theorem in_of_frag {P : Params} {F : Frag} {h : Heap} (x : F.In h) (e : (K0 P).map (fun p => F.lookup p.1) = (K0 P).map (fun p => some p.2)) : (K0 P).In h := fun a o q => by
  have hm := lookup_mem q
  exact x a o (List.map_inj_left.mp e _ hm)
theorem law_start {s₁ : Shared} {mg mb : Str → Option Value} (hK : (K0 w.params).In s₁.heap) (hT : ∀ a ∈ tabA, s₁.heap.get? a = some ({ cls := .none, data := .fields #[] } : Obj))
    (h4 : s₁.heap.get? 4 = some ({ cls := .type "module", dict := some builtinsNs, data := .plain } : Obj)) (g : s₁.heap.Ns mainGlobals mg) (b : s₁.heap.Ns builtinsNs mb) (bb : ∀ x : Str, x ≠ "__name__" → mb x = bootBuiltins x)
    (hg : s₁.gens = #[]) (hsz : s₁.heap.objs.size = 175) : InvH w s₁.heap AH0 s₁ := by
  have tb : ∀ c P : Addr, ∀ o, (K0 w.params).lookup c = some o → P ∈ tabA → o.cls = .type "code" → ∀ vs file tf flags tg inF text tt, o.data = .fields vs → vs[11]? = some (.ref P) → vs.getD 18 .none = .str file tf → vs.getD 7 .none = .int flags tg → vs.getD 9 .none = .bool inF → vs.getD 10 .none = .int text tt → vs.getD 11 .none = .ref P → c ≠ P →
      TabOk s₁.heap s₁.heap (c, P) := fun c P o eo hP hcl vs file tf flags tg inF text tt ed e11 e18 e7 e9 e10 e11' ne => by
    have gc := hK _ _ eo
    have gt := hT P hP
    have ta : s₁.heap.TableAt c P #[] := ⟨⟨o, vs, gc, hcl, ed, e11⟩, gt⟩
    exact ⟨⟨#[], ta⟩, #[], ⟨o, vs, file, tf, flags, tg, inF, text, tt, _, gc, ed, e11', e18, e7, e9, e10, gt, rfl, trivial, ne⟩, ta, fun pos c q => by cases q⟩
  refine ⟨hK, by omega, Nat.le_refl _, OldK.refl _, ⟨mb, b, bb⟩, ⟨mg, g⟩, ⟨_, h4, rfl, rfl, rfl⟩, fun p hp => ?_, fun a d => absurd d (AH0.dom a), fun a x e => (by cases e), fun a x e => (by cases e), fun a x e => (by cases e), fun a x e => (by cases e), fun a x e => (by cases e), fun a x e => (by cases e), fun a x e => (by cases e), hg⟩
  have : p = (145, 141) ∨ p = (76, 72) ∨ p = (83, 79) ∨ p = (172, 170) := by simpa [tabs] using hp
  rcases this with rfl | rfl | rfl | rfl
  · exact tb 145 141 _ rfl (by decide) rfl _ _ _ _ _ _ _ _ rfl rfl rfl rfl rfl rfl rfl (by decide)
  · exact tb 76 72 _ rfl (by decide) rfl _ _ _ _ _ _ _ _ rfl rfl rfl rfl rfl rfl rfl (by decide)
  · exact tb 83 79 _ rfl (by decide) rfl _ _ _ _ _ _ _ _ rfl rfl rfl rfl rfl rfl rfl (by decide)
  · exact tb 172 170 _ rfl (by decide) rfl _ _ _ _ _ _ _ _ rfl rfl rfl rfl rfl rfl rfl (by decide)
theorem ale_caller : ALe callerA (AA 0) := ⟨rfl, by decide, rfl, rfl, by decide⟩
theorem ints_er : ∀ {vs : List Value} {ns : List Int}, IntsAre vs ns → vs.map er = ns.map (Value.int · 0)
  | _, _, .nil => rfl
  | _, _, .cons n t h => by rw [List.map_cons, List.map_cons, ints_er h]; rfl
theorem law_end {s₁ : Shared} {vs : List Value} {ns : List Int} {c : ClaimW} {cl : Str → Option Addr} {mean : ExcName → Option Value} {args : List WData} (I : InvH w s₁.heap AH0 s₁) (hL : s₁.heap.IsList 174 vs.toArray) (hI : IntsAre vs ns) (hlen : ns.length ≤ 63)
    (hr : ∀ cls, c.raises args cls = false) (hp : c.post args (.bool true) args = true) :
    wpAny (MM w) callerA (call (.ref 173) [.ref 174]) (fun v s' => GoodWG c cl mean args s₁ (.ok (.ret v)) s') (fun e s' => GoodWG c cl mean args s₁ (.error e) s') s₁ := by
  have key := HT.call (w := w) (h₀ := s₁.heap) (n := 0) (f := .ref 173) (pos := [.ref 174]) (kw := []) (H := AH0) (Q := fun v _ => v = .bool true) (T_law (ns := ns) ⟨vs, hL, ints_er hI⟩ (by omega) fun _ _ => rfl) s₁ I
  refine wpAny_mono (wpAny_le ale_caller key) (fun v s' ⟨H', I', S', ev⟩ => ?_) fun _ _ hF => hF.elim
  have ev' := er_bool ev
  subst ev'
  exact ⟨.inl ⟨.bool true, .bool true, [], rfl, hr, .bool true, hp, fun _ => ⟨.nil, fun _ h => by cases h⟩⟩, I'.old, S'.os, by rw [I'.gens]; exact AllBare.empty⟩

end Mine

open PySem.W.X PySem.W.ZRun
open Mine
set_option maxHeartbeats 0 in
theorem PySem.Challenge.cw_tx0029_01_holds : PySem.Challenge.rw_tx0029_01.Holds := by
  refine holds_law said_ok fun said => ?_
  refine holds_openX (q := qV) (loose := looseV) (Xt := fun s => xlAt qV [] s && recOk [] s) (XP := XL qV []) (Yf := obsZ keysV) (Ya := valZ KV 174 455) (d := lawD.1) (kwd := lawD.2) left_ok
    (fun s e => xl_of s (Bool.and_eq_true_iff.mp e).1) XL.keeps (by kernel_rfl) (by kernel_rfl) (by kernel_rfl) (fun s e => recFacts_of (Bool.and_eq_true_iff.mp e).2) rfl said (by kernel_rfl) ⟨rfl, rfl, rfl, rfl, rfl, by kernel_rfl⟩ ?hw ?hc
  case hw => w_witness2
  intro w s₀ s₁ mg mb G y fa o pm cd doc dV kV ho hd hcd hD hmg hg args vals as L hpre hlay hrd hwl hlo
  obtain ⟨ZA, ZI, ZN, ZT⟩ := z_facts keysV_eq y
  have keeps := Laid.keeps L
  have KX : (KV w.params).In s₁.heap := InK.keeps w s₀.heap s₁.heap ZI keeps
  refine Ground.open G ?_
  intro T B D TE TW
  wrow_args hpre hlay hrd hwl hlo
  obtain ⟨hat, hsz⟩ := script_at L
  rw [ZN] at hat hsz
  subst hat
  have e1 : mg lawD.1.name = some (.ref 173) := mg_of KX T.g (by kernel_rfl)
  have hfa : fa = 173 := Value.ref.inj (Option.some.inj (hmg.symm.trans e1))
  subst hfa
  all_lens
  have hK := Mine.in_of_frag (P := w.params) KX (by kernel_rfl)
  have hT : ∀ a ∈ Mine.tabA, s₁.heap.get? a = some ({ cls := .none, data := .fields #[] } : Obj) := by
    intro a ha
    have : a = 141 ∨ a = 72 ∨ a = 79 ∨ a = 170 := by simpa [Mine.tabA] using ha
    rcases this with rfl | rfl | rfl | rfl
    · exact KX _ _ (by kernel_rfl)
    · exact KX _ _ (by kernel_rfl)
    · exact KX _ _ (by kernel_rfl)
    · exact KX _ _ (by kernel_rfl)
  have h4 : s₁.heap.get? 4 = some ({ cls := .type "module", dict := some builtinsNs, data := .plain } : Obj) := KX _ _ (by kernel_rfl)
  have I := Mine.law_start hK hT h4 T.g T.b T.builtins hg hsz
  exact Mine.law_end I (by assumption) (by assumption) (by omega) (fun _ => rfl) (by kernel_rfl)
