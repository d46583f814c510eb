import PyProof.Rows.All
import Wide.All
import OpenK.AllK
import Wide.FinOn
import Lean
import PySem.Challenge.RW_ji0034_01
set_option Elab.async false
section
open PySem PySem.W PyProof.Rows
namespace Mine
set_option maxRecDepth 100000

/-- the statements of the text -/
noncomputable def dSt (k : Nat) : Stmt := PySem.Challenge.pw_ji0034_01.main.body.getD k (.Pass {line := 0, col := 0, endLine := 0, endCol := 0})
noncomputable def mSt (k j : Nat) : Stmt := match dSt k with
  | .ClassDef _ _ _ b _ _ _ _ _ _ _ => b.getD j (.Pass {line := 0, col := 0, endLine := 0, endCol := 0})
  | s => s
noncomputable def noArgs : Arguments := { posonlyargs := [], args := [], vararg := none, kwonlyargs := [], kw_defaults := [], kwarg := none, defaults := [] }
noncomputable def recS : Stmt → DefRec
  | .FunctionDef n a b _ _ _ s _ _ p => ⟨n, a, b, s, p⟩
  | _ => ⟨Str.ofString "", noArgs, [], { kind := .function, names := [], isGenerator := false, isCoroutine := false }, {line := 0, col := 0, endLine := 0, endCol := 0}⟩
/-- the text without the names that are loose -/
noncomputable def V : Program := { PySem.Challenge.pw_ji0034_01 with main := { PySem.Challenge.pw_ji0034_01.main with body := ([0, 1, 2, 3, 4, 5, 7, 8, 9, 13, 14, 16, 17, 18, 19, 20, 21, 22, 23, 24, 25, 26, 27, 28, 29, 30, 31, 32, 33, 34, 35, 36, 37, 38, 39] : List Nat).map dSt } }
/-- what the text has made: the objects that the law reaches -/
noncomputable def K : Params → Frag := by
  exact (fun (n21 : Str) (p21 : Arguments) (b21 : List Stmt) (s21 : Scope) (q21 : Pos) (_ : recS (dSt 0) = ⟨n21, p21, b21, s21, q21⟩) (n28 : Str) (p28 : Arguments) (b28 : List Stmt) (s28 : Scope) (q28 : Pos) (_ : recS (dSt 3) = ⟨n28, p28, b28, s28, q28⟩) (n50 : Str) (p50 : Arguments) (b50 : List Stmt) (s50 : Scope) (q50 : Pos) (_ : recS (dSt 8) = ⟨n50, p50, b50, s50, q50⟩) (n57 : Str) (p57 : Arguments) (b57 : List Stmt) (s57 : Scope) (q57 : Pos) (_ : recS (dSt 9) = ⟨n57, p57, b57, s57, q57⟩) (n65 : Str) (p65 : Arguments) (b65 : List Stmt) (s65 : Scope) (q65 : Pos) (_ : recS (dSt 10) = ⟨n65, p65, b65, s65, q65⟩) (n73 : Str) (p73 : Arguments) (b73 : List Stmt) (s73 : Scope) (q73 : Pos) (_ : recS (dSt 11) = ⟨n73, p73, b73, s73, q73⟩) (n88 : Str) (p88 : Arguments) (b88 : List Stmt) (s88 : Scope) (q88 : Pos) (_ : recS (mSt 12 0) = ⟨n88, p88, b88, s88, q88⟩) (n96 : Str) (p96 : Arguments) (b96 : List Stmt) (s96 : Scope) (q96 : Pos) (_ : recS (mSt 12 1) = ⟨n96, p96, b96, s96, q96⟩) (n104 : Str) (p104 : Arguments) (b104 : List Stmt) (s104 : Scope) (q104 : Pos) (_ : recS (mSt 12 2) = ⟨n104, p104, b104, s104, q104⟩) (n111 : Str) (p111 : Arguments) (b111 : List Stmt) (s111 : Scope) (q111 : Pos) (_ : recS (mSt 12 3) = ⟨n111, p111, b111, s111, q111⟩) (n125 : Str) (p125 : Arguments) (b125 : List Stmt) (s125 : Scope) (q125 : Pos) (_ : recS (dSt 13) = ⟨n125, p125, b125, s125, q125⟩) (n132 : Str) (p132 : Arguments) (b132 : List Stmt) (s132 : Scope) (q132 : Pos) (_ : recS (dSt 14) = ⟨n132, p132, b132, s132, q132⟩) (n140 : Str) (p140 : Arguments) (b140 : List Stmt) (s140 : Scope) (q140 : Pos) (_ : recS (dSt 15) = ⟨n140, p140, b140, s140, q140⟩) (n147 : Str) (p147 : Arguments) (b147 : List Stmt) (s147 : Scope) (q147 : Pos) (_ : recS (dSt 16) = ⟨n147, p147, b147, s147, q147⟩) (n154 : Str) (p154 : Arguments) (b154 : List Stmt) (s154 : Scope) (q154 : Pos) (_ : recS (dSt 17) = ⟨n154, p154, b154, s154, q154⟩) (n161 : Str) (p161 : Arguments) (b161 : List Stmt) (s161 : Scope) (q161 : Pos) (_ : recS (dSt 18) = ⟨n161, p161, b161, s161, q161⟩) (n168 : Str) (p168 : Arguments) (b168 : List Stmt) (s168 : Scope) (q168 : Pos) (_ : recS (dSt 19) = ⟨n168, p168, b168, s168, q168⟩) (n175 : Str) (p175 : Arguments) (b175 : List Stmt) (s175 : Scope) (q175 : Pos) (_ : recS (dSt 21) = ⟨n175, p175, b175, s175, q175⟩) (n182 : Str) (p182 : Arguments) (b182 : List Stmt) (s182 : Scope) (q182 : Pos) (_ : recS (dSt 22) = ⟨n182, p182, b182, s182, q182⟩) (n189 : Str) (p189 : Arguments) (b189 : List Stmt) (s189 : Scope) (q189 : Pos) (_ : recS (dSt 23) = ⟨n189, p189, b189, s189, q189⟩) (n196 : Str) (p196 : Arguments) (b196 : List Stmt) (s196 : Scope) (q196 : Pos) (_ : recS (dSt 24) = ⟨n196, p196, b196, s196, q196⟩) (n203 : Str) (p203 : Arguments) (b203 : List Stmt) (s203 : Scope) (q203 : Pos) (_ : recS (dSt 25) = ⟨n203, p203, b203, s203, q203⟩) (n210 : Str) (p210 : Arguments) (b210 : List Stmt) (s210 : Scope) (q210 : Pos) (_ : recS (dSt 26) = ⟨n210, p210, b210, s210, q210⟩) (n217 : Str) (p217 : Arguments) (b217 : List Stmt) (s217 : Scope) (q217 : Pos) (_ : recS (dSt 27) = ⟨n217, p217, b217, s217, q217⟩) (n224 : Str) (p224 : Arguments) (b224 : List Stmt) (s224 : Scope) (q224 : Pos) (_ : recS (dSt 30) = ⟨n224, p224, b224, s224, q224⟩) (n229 : Str) (p229 : Arguments) (b229 : List Stmt) (s229 : Scope) (q229 : Pos) (_ : recS (dSt 31) = ⟨n229, p229, b229, s229, q229⟩) (n236 : Str) (p236 : Arguments) (b236 : List Stmt) (s236 : Scope) (q236 : Pos) (_ : recS (dSt 32) = ⟨n236, p236, b236, s236, q236⟩) (n243 : Str) (p243 : Arguments) (b243 : List Stmt) (s243 : Scope) (q243 : Pos) (_ : recS (dSt 33) = ⟨n243, p243, b243, s243, q243⟩) (n250 : Str) (p250 : Arguments) (b250 : List Stmt) (s250 : Scope) (q250 : Pos) (_ : recS (dSt 34) = ⟨n250, p250, b250, s250, q250⟩) (n255 : Str) (p255 : Arguments) (b255 : List Stmt) (s255 : Scope) (q255 : Pos) (_ : recS (dSt 35) = ⟨n255, p255, b255, s255, q255⟩) (n262 : Str) (p262 : Arguments) (b262 : List Stmt) (s262 : Scope) (q262 : Pos) (_ : recS (dSt 36) = ⟨n262, p262, b262, s262, q262⟩) (n269 : Str) (p269 : Arguments) (b269 : List Stmt) (s269 : Scope) (q269 : Pos) (_ : recS (dSt 37) = ⟨n269, p269, b269, s269, q269⟩) (n276 : Str) (p276 : Arguments) (b276 : List Stmt) (s276 : Scope) (q276 : Pos) (_ : recS (dSt 38) = ⟨n276, p276, b276, s276, q276⟩) (n281 : Str) (p281 : Arguments) (b281 : List Stmt) (s281 : Scope) (q281 : Pos) (_ : recS (dSt 39) = ⟨n281, p281, b281, s281, q281⟩) => (fun P => (nat_lit 2, ({ cls := Value.none, data := Data.dict #[] } : Obj)) ::
    (nat_lit 3, ({ cls := Value.type "dict", data := Data.dict #[{ hash := PyData.keyHash P (Str.ofString "__name__"), key := Value.str (Str.ofString "__name__") 165, val := Value.str (Str.ofString "law_ji0034_01") 419 }, { hash := PyData.keyHash P (Str.ofString "__doc__"), key := Value.str (Str.ofString "__doc__") 166, val := Value.none }, { hash := PyData.keyHash P (Str.ofString "__package__"), key := Value.str (Str.ofString "__package__") 167, val := Value.none }, { hash := PyData.keyHash P (Str.ofString "__loader__"), key := Value.str (Str.ofString "__loader__") 168, val := Value.builtin "__main__.__loader__#opaque" }, { hash := PyData.keyHash P (Str.ofString "__spec__"), key := Value.str (Str.ofString "__spec__") 169, val := Value.none }, { hash := PyData.keyHash P (Str.ofString "__annotations__"), key := Value.str (Str.ofString "__annotations__") 170, val := Value.ref 6 }, { hash := PyData.keyHash P (Str.ofString "__builtins__"), key := Value.str (Str.ofString "__builtins__") 171, val := Value.ref 4 }, { hash := PyData.keyHash P (Str.ofString "__file__"), key := Value.str (Str.ofString "__file__") 173, val := Value.str (Str.ofString "/claim/cut.py") 172 }, { hash := PyData.keyHash P (Str.ofString "__cached__"), key := Value.str (Str.ofString "__cached__") 174, val := Value.none }, { hash := PyData.keyHash P (Str.ofString "_wall"), key := Value.str (Str.ofString "_wall") 193, val := Value.ref 21 }, { hash := PyData.keyHash P (Str.ofString "FIRST_FEW_BYTES"), key := Value.str (Str.ofString "FIRST_FEW_BYTES") 197, val := Value.int 8000 196 }, { hash := PyData.keyHash P (Str.ofString "is_binary"), key := Value.str (Str.ofString "is_binary") 204, val := Value.ref 28 }, { hash := PyData.keyHash P (Str.ofString "CRLF"), key := Value.str (Str.ofString "CRLF") 206, val := Value.bytes #[13, 10] 205 }, { hash := PyData.keyHash P (Str.ofString "LF"), key := Value.str (Str.ofString "LF") 208, val := Value.bytes #[10] 207 }, { hash := PyData.keyHash P (Str.ofString "CRLFAction"), key := Value.str (Str.ofString "CRLFAction") 244, val := Value.ref 38 }, { hash := PyData.keyHash P (Str.ofString "_AUTO_ACTIONS"), key := Value.str (Str.ofString "_AUTO_ACTIONS") 248, val := Value.ref 43 }, { hash := PyData.keyHash P (Str.ofString "_crlf_action_from_attr"), key := Value.str (Str.ofString "_crlf_action_from_attr") 255, val := Value.ref 50 }, { hash := PyData.keyHash P (Str.ofString "_text_eol_is_crlf"), key := Value.str (Str.ofString "_text_eol_is_crlf") 263, val := Value.ref 57 }, { hash := PyData.keyHash P (Str.ofString "resolve_crlf_action"), key := Value.str (Str.ofString "resolve_crlf_action") 277, val := Value.ref 65 }, { hash := PyData.keyHash P (Str.ofString "line_ending_filter_for_action"), key := Value.str (Str.ofString "line_ending_filter_for_action") 288, val := Value.ref 73 }, { hash := PyData.keyHash P (Str.ofString "LineEndingFilter"), key := Value.str (Str.ofString "LineEndingFilter") 357, val := Value.ref 114 }, { hash := PyData.keyHash P (Str.ofString "convert_crlf_to_lf"), key := Value.str (Str.ofString "convert_crlf_to_lf") 364, val := Value.ref 125 }, { hash := PyData.keyHash P (Str.ofString "convert_lf_to_crlf"), key := Value.str (Str.ofString "convert_lf_to_crlf") 375, val := Value.ref 132 }, { hash := PyData.keyHash P (Str.ofString "check_safecrlf"), key := Value.str (Str.ofString "check_safecrlf") 388, val := Value.ref 140 }, { hash := PyData.keyHash P (Str.ofString "get_smudge_filter"), key := Value.str (Str.ofString "get_smudge_filter") 396, val := Value.ref 147 }, { hash := PyData.keyHash P (Str.ofString "get_clean_filter"), key := Value.str (Str.ofString "get_clean_filter") 404, val := Value.ref 154 }, { hash := PyData.keyHash P (Str.ofString "get_smudge_filter_autocrlf"), key := Value.str (Str.ofString "get_smudge_filter_autocrlf") 411, val := Value.ref 161 }, { hash := PyData.keyHash P (Str.ofString "get_clean_filter_autocrlf"), key := Value.str (Str.ofString "get_clean_filter_autocrlf") 418, val := Value.ref 168 }, { hash := PyData.keyHash P (Str.ofString "_law_words"), key := Value.str (Str.ofString "_law_words") 426, val := Value.ref 175 }, { hash := PyData.keyHash P (Str.ofString "_law_values"), key := Value.str (Str.ofString "_law_values") 432, val := Value.ref 182 }, { hash := PyData.keyHash P (Str.ofString "_law_ends"), key := Value.str (Str.ofString "_law_ends") 438, val := Value.ref 189 }, { hash := PyData.keyHash P (Str.ofString "_law_autos"), key := Value.str (Str.ofString "_law_autos") 444, val := Value.ref 196 }, { hash := PyData.keyHash P (Str.ofString "_law_cores"), key := Value.str (Str.ofString "_law_cores") 450, val := Value.ref 203 }, { hash := PyData.keyHash P (Str.ofString "_law_safes"), key := Value.str (Str.ofString "_law_safes") 456, val := Value.ref 210 }, { hash := PyData.keyHash P (Str.ofString "_law_letters"), key := Value.str (Str.ofString "_law_letters") 462, val := Value.ref 217 }, { hash := PyData.keyHash P (Str.ofString "_law_cr"), key := Value.str (Str.ofString "_law_cr") 464, val := Value.bytes #[13] 463 }, { hash := PyData.keyHash P (Str.ofString "_law_lf"), key := Value.str (Str.ofString "_law_lf") 466, val := Value.bytes #[10] 465 }, { hash := PyData.keyHash P (Str.ofString "_law_attributes"), key := Value.str (Str.ofString "_law_attributes") 476, val := Value.ref 224 }, { hash := PyData.keyHash P (Str.ofString "_law_rule"), key := Value.str (Str.ofString "_law_rule") 482, val := Value.ref 229 }, { hash := PyData.keyHash P (Str.ofString "_law_named"), key := Value.str (Str.ofString "_law_named") 489, val := Value.ref 236 }, { hash := PyData.keyHash P (Str.ofString "_law_counts"), key := Value.str (Str.ofString "_law_counts") 500, val := Value.ref 243 }, { hash := PyData.keyHash P (Str.ofString "_law_binary"), key := Value.str (Str.ofString "_law_binary") 509, val := Value.ref 250 }, { hash := PyData.keyHash P (Str.ofString "_law_less"), key := Value.str (Str.ofString "_law_less") 515, val := Value.ref 255 }, { hash := PyData.keyHash P (Str.ofString "_law_more"), key := Value.str (Str.ofString "_law_more") 524, val := Value.ref 262 }, { hash := PyData.keyHash P (Str.ofString "_law_cleaned"), key := Value.str (Str.ofString "_law_cleaned") 532, val := Value.ref 269 }, { hash := PyData.keyHash P (Str.ofString "_law_edited"), key := Value.str (Str.ofString "_law_edited") 541, val := Value.ref 276 }, { hash := PyData.keyHash P (Str.ofString "law"), key := Value.str (Str.ofString "law") 547, val := Value.ref 281 }] 47 } : Obj)) ::
    (nat_lit 15, ({ cls := Value.type "tuple", data := Data.seq #[] } : Obj)) ::
    (nat_lit 17, ({ cls := Value.type "tuple", data := Data.seq #[Value.str (Str.ofString "k") 190] } : Obj)) ::
    (nat_lit 18, ({ cls := Value.type "tuple", data := Data.seq #[] } : Obj)) ::
    (nat_lit 20, ({ cls := Value.type "code", data := Data.fields #[Value.str (Str.ofString "_wall") 187, Value.str (Str.ofString "_wall") 188, Value.str (Str.ofString "/claim/cut.py") 189, Value.int 1 0, Value.int 1 0, Value.int 0 0, Value.int 0 0, Value.int 3 0, Value.ref 15, Value.bool true, Value.int 181 0, Value.ref 16, Value.none, Value.ref 17, Value.ref 18, Value.ref 19, Value.int 191 0, Value.int 1 0, Value.str (Str.ofString "/claim/cut.py") 192] } : Obj)) ::
    (nat_lit 21, ({ cls := Value.type "function", data := Data.func { name := Str.ofString "_wall", qualname := Str.ofString "_wall", params := p21, body := FuncBody.stmts b21, scope := s21, globals := 3, closure := [], defaults := Value.none, kwdefaults := Value.none, pyModule := Value.str (Str.ofString "__main__") 164, code := Value.ref 20 } } : Obj)) ::
    (nat_lit 22, ({ cls := Value.type "tuple", data := Data.seq #[] } : Obj)) ::
    (nat_lit 24, ({ cls := Value.type "tuple", data := Data.seq #[Value.str (Str.ofString "content") 201] } : Obj)) ::
    (nat_lit 25, ({ cls := Value.type "tuple", data := Data.seq #[] } : Obj)) ::
    (nat_lit 27, ({ cls := Value.type "code", data := Data.fields #[Value.str (Str.ofString "is_binary") 198, Value.str (Str.ofString "is_binary") 199, Value.str (Str.ofString "/claim/cut.py") 200, Value.int 6 0, Value.int 1 0, Value.int 0 0, Value.int 0 0, Value.int 3 0, Value.ref 22, Value.bool true, Value.int 181 0, Value.ref 23, Value.none, Value.ref 24, Value.ref 25, Value.ref 26, Value.int 202 0, Value.int 6 0, Value.str (Str.ofString "/claim/cut.py") 203] } : Obj)) ::
    (nat_lit 28, ({ cls := Value.type "function", data := Data.func { name := Str.ofString "is_binary", qualname := Str.ofString "is_binary", params := p28, body := FuncBody.stmts b28, scope := s28, globals := 3, closure := [], defaults := Value.none, kwdefaults := Value.none, pyModule := Value.str (Str.ofString "dulwich.line_ending") 194, code := Value.ref 27 } } : Obj)) ::
    (nat_lit 36, ({ cls := Value.type "tuple", data := Data.seq #[] } : Obj)) ::
    (nat_lit 37, ({ cls := Value.type "dict", data := Data.dict #[{ hash := PyData.keyHash P (Str.ofString "__module__"), key := Value.str (Str.ofString "__module__") 216, val := Value.str (Str.ofString "dulwich.line_ending") 194 }, { hash := PyData.keyHash P (Str.ofString "__firstlineno__"), key := Value.str (Str.ofString "__firstlineno__") 220, val := Value.int 10 219 }, { hash := PyData.keyHash P (Str.ofString "UNDEFINED"), key := Value.str (Str.ofString "UNDEFINED") 222, val := Value.str (Str.ofString "undefined") 221 }, { hash := PyData.keyHash P (Str.ofString "BINARY"), key := Value.str (Str.ofString "BINARY") 224, val := Value.str (Str.ofString "binary") 223 }, { hash := PyData.keyHash P (Str.ofString "TEXT"), key := Value.str (Str.ofString "TEXT") 226, val := Value.str (Str.ofString "text") 225 }, { hash := PyData.keyHash P (Str.ofString "TEXT_INPUT"), key := Value.str (Str.ofString "TEXT_INPUT") 228, val := Value.str (Str.ofString "text-input") 227 }, { hash := PyData.keyHash P (Str.ofString "TEXT_CRLF"), key := Value.str (Str.ofString "TEXT_CRLF") 230, val := Value.str (Str.ofString "text-crlf") 229 }, { hash := PyData.keyHash P (Str.ofString "AUTO"), key := Value.str (Str.ofString "AUTO") 232, val := Value.str (Str.ofString "auto") 231 }, { hash := PyData.keyHash P (Str.ofString "AUTO_INPUT"), key := Value.str (Str.ofString "AUTO_INPUT") 234, val := Value.str (Str.ofString "auto-input") 233 }, { hash := PyData.keyHash P (Str.ofString "AUTO_CRLF"), key := Value.str (Str.ofString "AUTO_CRLF") 236, val := Value.str (Str.ofString "auto-crlf") 235 }, { hash := PyData.keyHash P (Str.ofString "__static_attributes__"), key := Value.str (Str.ofString "__static_attributes__") 237, val := Value.ref 36 }, { hash := PyData.keyHash P (Str.ofString "__dict__"), key := Value.str (Str.ofString "__dict__") 239, val := Value.ref 39 }, { hash := PyData.keyHash P (Str.ofString "__weakref__"), key := Value.str (Str.ofString "__weakref__") 241, val := Value.ref 40 }, { hash := PyData.keyHash P (Str.ofString "__doc__"), key := Value.str (Str.ofString "__doc__") 242, val := Value.none }] 4 } : Obj)) ::
    (nat_lit 38, ({ cls := Value.type "type", data := Data.cls { name := Str.ofString "CRLFAction", bases := [Value.type "object"], mro := [Value.ref 38, Value.type "object"], ns := 37, qualname := Str.ofString "CRLFAction" }, slots := #[none, none, some (Value.str (Str.ofString "CRLFAction") 209), some (Value.str (Str.ofString "CRLFAction") 217), some (Value.builtin "object.__new__"), some (Value.bool true)] } : Obj)) ::
    (nat_lit 39, ({ cls := Value.type "getset_descriptor", data := Data.fields #[Value.str (Str.ofString "__dict__") 238, Value.ref 38, Value.builtin "function.__dict__", Value.builtin "function.__dict__#set"] } : Obj)) ::
    (nat_lit 40, ({ cls := Value.type "getset_descriptor", data := Data.fields #[Value.str (Str.ofString "__weakref__") 240, Value.ref 38, Value.builtin "ExceptionGroup.__weakref__", Value.none] } : Obj)) ::
    (nat_lit 43, ({ cls := Value.type "tuple", data := Data.seq #[Value.str (Str.ofString "auto") 245, Value.str (Str.ofString "auto-input") 246, Value.str (Str.ofString "auto-crlf") 247] } : Obj)) ::
    (nat_lit 44, ({ cls := Value.type "tuple", data := Data.seq #[] } : Obj)) ::
    (nat_lit 46, ({ cls := Value.type "tuple", data := Data.seq #[Value.str (Str.ofString "value") 252] } : Obj)) ::
    (nat_lit 47, ({ cls := Value.type "tuple", data := Data.seq #[] } : Obj)) ::
    (nat_lit 49, ({ cls := Value.type "code", data := Data.fields #[Value.str (Str.ofString "_crlf_action_from_attr") 249, Value.str (Str.ofString "_crlf_action_from_attr") 250, Value.str (Str.ofString "/claim/cut.py") 251, Value.int 20 0, Value.int 1 0, Value.int 0 0, Value.int 0 0, Value.int 3 0, Value.ref 44, Value.bool true, Value.int 181 0, Value.ref 45, Value.none, Value.ref 46, Value.ref 47, Value.ref 48, Value.int 253 0, Value.int 20 0, Value.str (Str.ofString "/claim/cut.py") 254] } : Obj)) ::
    (nat_lit 50, ({ cls := Value.type "function", data := Data.func { name := Str.ofString "_crlf_action_from_attr", qualname := Str.ofString "_crlf_action_from_attr", params := p50, body := FuncBody.stmts b50, scope := s50, globals := 3, closure := [], defaults := Value.none, kwdefaults := Value.none, pyModule := Value.str (Str.ofString "dulwich.line_ending") 194, code := Value.ref 49 } } : Obj)) ::
    (nat_lit 51, ({ cls := Value.type "tuple", data := Data.seq #[] } : Obj)) ::
    (nat_lit 53, ({ cls := Value.type "tuple", data := Data.seq #[Value.str (Str.ofString "core_eol") 259, Value.str (Str.ofString "autocrlf") 260] } : Obj)) ::
    (nat_lit 54, ({ cls := Value.type "tuple", data := Data.seq #[] } : Obj)) ::
    (nat_lit 56, ({ cls := Value.type "code", data := Data.fields #[Value.str (Str.ofString "_text_eol_is_crlf") 256, Value.str (Str.ofString "_text_eol_is_crlf") 257, Value.str (Str.ofString "/claim/cut.py") 258, Value.int 30 0, Value.int 2 0, Value.int 0 0, Value.int 0 0, Value.int 3 0, Value.ref 51, Value.bool true, Value.int 181 0, Value.ref 52, Value.none, Value.ref 53, Value.ref 54, Value.ref 55, Value.int 261 0, Value.int 30 0, Value.str (Str.ofString "/claim/cut.py") 262] } : Obj)) ::
    (nat_lit 57, ({ cls := Value.type "function", data := Data.func { name := Str.ofString "_text_eol_is_crlf", qualname := Str.ofString "_text_eol_is_crlf", params := p57, body := FuncBody.stmts b57, scope := s57, globals := 3, closure := [], defaults := Value.none, kwdefaults := Value.none, pyModule := Value.str (Str.ofString "dulwich.line_ending") 194, code := Value.ref 56 } } : Obj)) ::
    (nat_lit 58, ({ cls := Value.type "tuple", data := Data.seq #[Value.str (Str.ofString "native") 264, Value.bytes #[102, 97, 108, 115, 101] 265] } : Obj)) ::
    (nat_lit 59, ({ cls := Value.type "tuple", data := Data.seq #[] } : Obj)) ::
    (nat_lit 61, ({ cls := Value.type "tuple", data := Data.seq #[Value.str (Str.ofString "attributes") 269, Value.str (Str.ofString "core_eol") 270, Value.str (Str.ofString "autocrlf") 271, Value.str (Str.ofString "action") 272, Value.str (Str.ofString "eol_attr") 273, Value.str (Str.ofString "crlf") 274] } : Obj)) ::
    (nat_lit 62, ({ cls := Value.type "tuple", data := Data.seq #[] } : Obj)) ::
    (nat_lit 64, ({ cls := Value.type "code", data := Data.fields #[Value.str (Str.ofString "resolve_crlf_action") 266, Value.str (Str.ofString "resolve_crlf_action") 267, Value.str (Str.ofString "/claim/cut.py") 268, Value.int 40 0, Value.int 3 0, Value.int 0 0, Value.int 0 0, Value.int 3 0, Value.ref 59, Value.bool true, Value.int 181 0, Value.ref 60, Value.none, Value.ref 61, Value.ref 62, Value.ref 63, Value.int 275 0, Value.int 40 0, Value.str (Str.ofString "/claim/cut.py") 276] } : Obj)) ::
    (nat_lit 65, ({ cls := Value.type "function", data := Data.func { name := Str.ofString "resolve_crlf_action", qualname := Str.ofString "resolve_crlf_action", params := p65, body := FuncBody.stmts b65, scope := s65, globals := 3, closure := [], defaults := Value.ref 58, kwdefaults := Value.none, pyModule := Value.str (Str.ofString "dulwich.line_ending") 194, code := Value.ref 64 } } : Obj)) ::
    (nat_lit 66, ({ cls := Value.type "tuple", data := Data.seq #[Value.bytes #[102, 97, 108, 115, 101] 278, Value.none] } : Obj)) ::
    (nat_lit 67, ({ cls := Value.type "tuple", data := Data.seq #[] } : Obj)) ::
    (nat_lit 69, ({ cls := Value.type "tuple", data := Data.seq #[Value.str (Str.ofString "action") 282, Value.str (Str.ofString "safecrlf") 283, Value.str (Str.ofString "index_has_crlf") 284, Value.str (Str.ofString "smudge") 285] } : Obj)) ::
    (nat_lit 70, ({ cls := Value.type "tuple", data := Data.seq #[] } : Obj)) ::
    (nat_lit 72, ({ cls := Value.type "code", data := Data.fields #[Value.str (Str.ofString "line_ending_filter_for_action") 279, Value.str (Str.ofString "line_ending_filter_for_action") 280, Value.str (Str.ofString "/claim/cut.py") 281, Value.int 68 0, Value.int 3 0, Value.int 0 0, Value.int 0 0, Value.int 3 0, Value.ref 67, Value.bool true, Value.int 181 0, Value.ref 68, Value.none, Value.ref 69, Value.ref 70, Value.ref 71, Value.int 286 0, Value.int 68 0, Value.str (Str.ofString "/claim/cut.py") 287] } : Obj)) ::
    (nat_lit 73, ({ cls := Value.type "function", data := Data.func { name := Str.ofString "line_ending_filter_for_action", qualname := Str.ofString "line_ending_filter_for_action", params := p73, body := FuncBody.stmts b73, scope := s73, globals := 3, closure := [], defaults := Value.ref 66, kwdefaults := Value.none, pyModule := Value.str (Str.ofString "dulwich.line_ending") 194, code := Value.ref 72 } } : Obj)) ::
    (nat_lit 81, ({ cls := Value.type "tuple", data := Data.seq #[Value.none, Value.none, Value.bool true, Value.bytes #[102, 97, 108, 115, 101] 301, Value.bool false, Value.none] } : Obj)) ::
    (nat_lit 82, ({ cls := Value.type "tuple", data := Data.seq #[] } : Obj)) ::
    (nat_lit 84, ({ cls := Value.type "tuple", data := Data.seq #[Value.str (Str.ofString "self") 305, Value.str (Str.ofString "clean_conversion") 306, Value.str (Str.ofString "smudge_conversion") 307, Value.str (Str.ofString "binary_detection") 308, Value.str (Str.ofString "safecrlf") 309, Value.str (Str.ofString "require_lf_only") 310, Value.str (Str.ofString "index_has_crlf") 311] } : Obj)) ::
    (nat_lit 85, ({ cls := Value.type "tuple", data := Data.seq #[] } : Obj)) ::
    (nat_lit 87, ({ cls := Value.type "code", data := Data.fields #[Value.str (Str.ofString "__init__") 302, Value.str (Str.ofString "LineEndingFilter.__init__") 303, Value.str (Str.ofString "/claim/cut.py") 304, Value.int 75 0, Value.int 7 0, Value.int 0 0, Value.int 0 0, Value.int 3 0, Value.ref 82, Value.bool true, Value.int 181 0, Value.ref 83, Value.none, Value.ref 84, Value.ref 85, Value.ref 86, Value.int 312 0, Value.int 75 0, Value.str (Str.ofString "/claim/cut.py") 313] } : Obj)) ::
    (nat_lit 88, ({ cls := Value.type "function", data := Data.func { name := Str.ofString "__init__", qualname := Str.ofString "LineEndingFilter.__init__", params := p88, body := FuncBody.stmts b88, scope := s88, globals := 3, closure := [], defaults := Value.ref 81, kwdefaults := Value.none, pyModule := Value.str (Str.ofString "dulwich.line_ending") 194, code := Value.ref 87 } } : Obj)) ::
    (nat_lit 89, ({ cls := Value.type "tuple", data := Data.seq #[Value.bytes #[] 315] } : Obj)) ::
    (nat_lit 90, ({ cls := Value.type "tuple", data := Data.seq #[] } : Obj)) ::
    (nat_lit 92, ({ cls := Value.type "tuple", data := Data.seq #[Value.str (Str.ofString "self") 319, Value.str (Str.ofString "data") 320, Value.str (Str.ofString "path") 321, Value.str (Str.ofString "converted") 322] } : Obj)) ::
    (nat_lit 93, ({ cls := Value.type "tuple", data := Data.seq #[] } : Obj)) ::
    (nat_lit 95, ({ cls := Value.type "code", data := Data.fields #[Value.str (Str.ofString "clean") 316, Value.str (Str.ofString "LineEndingFilter.clean") 317, Value.str (Str.ofString "/claim/cut.py") 318, Value.int 83 0, Value.int 3 0, Value.int 0 0, Value.int 0 0, Value.int 3 0, Value.ref 90, Value.bool true, Value.int 181 0, Value.ref 91, Value.none, Value.ref 92, Value.ref 93, Value.ref 94, Value.int 323 0, Value.int 83 0, Value.str (Str.ofString "/claim/cut.py") 324] } : Obj)) ::
    (nat_lit 96, ({ cls := Value.type "function", data := Data.func { name := Str.ofString "clean", qualname := Str.ofString "LineEndingFilter.clean", params := p96, body := FuncBody.stmts b96, scope := s96, globals := 3, closure := [], defaults := Value.ref 89, kwdefaults := Value.none, pyModule := Value.str (Str.ofString "dulwich.line_ending") 194, code := Value.ref 95 } } : Obj)) ::
    (nat_lit 97, ({ cls := Value.type "tuple", data := Data.seq #[Value.bytes #[] 326] } : Obj)) ::
    (nat_lit 98, ({ cls := Value.type "tuple", data := Data.seq #[] } : Obj)) ::
    (nat_lit 100, ({ cls := Value.type "tuple", data := Data.seq #[Value.str (Str.ofString "self") 330, Value.str (Str.ofString "data") 331, Value.str (Str.ofString "path") 332, Value.str (Str.ofString "converted") 333] } : Obj)) ::
    (nat_lit 101, ({ cls := Value.type "tuple", data := Data.seq #[] } : Obj)) ::
    (nat_lit 103, ({ cls := Value.type "code", data := Data.fields #[Value.str (Str.ofString "smudge") 327, Value.str (Str.ofString "LineEndingFilter.smudge") 328, Value.str (Str.ofString "/claim/cut.py") 329, Value.int 95 0, Value.int 3 0, Value.int 0 0, Value.int 0 0, Value.int 3 0, Value.ref 98, Value.bool true, Value.int 181 0, Value.ref 99, Value.none, Value.ref 100, Value.ref 101, Value.ref 102, Value.int 334 0, Value.int 95 0, Value.str (Str.ofString "/claim/cut.py") 335] } : Obj)) ::
    (nat_lit 104, ({ cls := Value.type "function", data := Data.func { name := Str.ofString "smudge", qualname := Str.ofString "LineEndingFilter.smudge", params := p104, body := FuncBody.stmts b104, scope := s104, globals := 3, closure := [], defaults := Value.ref 97, kwdefaults := Value.none, pyModule := Value.str (Str.ofString "dulwich.line_ending") 194, code := Value.ref 103 } } : Obj)) ::
    (nat_lit 105, ({ cls := Value.type "tuple", data := Data.seq #[] } : Obj)) ::
    (nat_lit 107, ({ cls := Value.type "tuple", data := Data.seq #[Value.str (Str.ofString "self") 340] } : Obj)) ::
    (nat_lit 108, ({ cls := Value.type "tuple", data := Data.seq #[] } : Obj)) ::
    (nat_lit 110, ({ cls := Value.type "code", data := Data.fields #[Value.str (Str.ofString "cleanup") 337, Value.str (Str.ofString "LineEndingFilter.cleanup") 338, Value.str (Str.ofString "/claim/cut.py") 339, Value.int 107 0, Value.int 1 0, Value.int 0 0, Value.int 0 0, Value.int 3 0, Value.ref 105, Value.bool true, Value.int 181 0, Value.ref 106, Value.none, Value.ref 107, Value.ref 108, Value.ref 109, Value.int 341 0, Value.int 107 0, Value.str (Str.ofString "/claim/cut.py") 342] } : Obj)) ::
    (nat_lit 111, ({ cls := Value.type "function", data := Data.func { name := Str.ofString "cleanup", qualname := Str.ofString "LineEndingFilter.cleanup", params := p111, body := FuncBody.stmts b111, scope := s111, globals := 3, closure := [], defaults := Value.none, kwdefaults := Value.none, pyModule := Value.str (Str.ofString "dulwich.line_ending") 194, code := Value.ref 110 } } : Obj)) ::
    (nat_lit 112, ({ cls := Value.type "tuple", data := Data.seq #[Value.str (Str.ofString "binary_detection") 344, Value.str (Str.ofString "clean_conversion") 345, Value.str (Str.ofString "index_has_crlf") 346, Value.str (Str.ofString "require_lf_only") 347, Value.str (Str.ofString "safecrlf") 348, Value.str (Str.ofString "smudge_conversion") 349] } : Obj)) ::
    (nat_lit 113, ({ cls := Value.type "dict", data := Data.dict #[{ hash := PyData.keyHash P (Str.ofString "__module__"), key := Value.str (Str.ofString "__module__") 296, val := Value.str (Str.ofString "dulwich.line_ending") 194 }, { hash := PyData.keyHash P (Str.ofString "__firstlineno__"), key := Value.str (Str.ofString "__firstlineno__") 300, val := Value.int 73 299 }, { hash := PyData.keyHash P (Str.ofString "__init__"), key := Value.str (Str.ofString "__init__") 314, val := Value.ref 88 }, { hash := PyData.keyHash P (Str.ofString "clean"), key := Value.str (Str.ofString "clean") 325, val := Value.ref 96 }, { hash := PyData.keyHash P (Str.ofString "smudge"), key := Value.str (Str.ofString "smudge") 336, val := Value.ref 104 }, { hash := PyData.keyHash P (Str.ofString "cleanup"), key := Value.str (Str.ofString "cleanup") 343, val := Value.ref 111 }, { hash := PyData.keyHash P (Str.ofString "__static_attributes__"), key := Value.str (Str.ofString "__static_attributes__") 350, val := Value.ref 112 }, { hash := PyData.keyHash P (Str.ofString "__dict__"), key := Value.str (Str.ofString "__dict__") 352, val := Value.ref 115 }, { hash := PyData.keyHash P (Str.ofString "__weakref__"), key := Value.str (Str.ofString "__weakref__") 354, val := Value.ref 116 }, { hash := PyData.keyHash P (Str.ofString "__doc__"), key := Value.str (Str.ofString "__doc__") 355, val := Value.none }] 4 } : Obj)) ::
    (nat_lit 114, ({ cls := Value.type "type", data := Data.cls { name := Str.ofString "LineEndingFilter", bases := [Value.type "object"], mro := [Value.ref 114, Value.type "object"], ns := 113, qualname := Str.ofString "LineEndingFilter" }, slots := #[none, none, some (Value.str (Str.ofString "LineEndingFilter") 289), some (Value.str (Str.ofString "LineEndingFilter") 297), some (Value.builtin "object.__new__"), some (Value.bool true)] } : Obj)) ::
    (nat_lit 115, ({ cls := Value.type "getset_descriptor", data := Data.fields #[Value.str (Str.ofString "__dict__") 351, Value.ref 114, Value.builtin "function.__dict__", Value.builtin "function.__dict__#set"] } : Obj)) ::
    (nat_lit 116, ({ cls := Value.type "getset_descriptor", data := Data.fields #[Value.str (Str.ofString "__weakref__") 353, Value.ref 114, Value.builtin "ExceptionGroup.__weakref__", Value.none] } : Obj)) ::
    (nat_lit 119, ({ cls := Value.type "tuple", data := Data.seq #[] } : Obj)) ::
    (nat_lit 121, ({ cls := Value.type "tuple", data := Data.seq #[Value.str (Str.ofString "text_hunk") 361] } : Obj)) ::
    (nat_lit 122, ({ cls := Value.type "tuple", data := Data.seq #[] } : Obj)) ::
    (nat_lit 124, ({ cls := Value.type "code", data := Data.fields #[Value.str (Str.ofString "convert_crlf_to_lf") 358, Value.str (Str.ofString "convert_crlf_to_lf") 359, Value.str (Str.ofString "/claim/cut.py") 360, Value.int 109 0, Value.int 1 0, Value.int 0 0, Value.int 0 0, Value.int 3 0, Value.ref 119, Value.bool true, Value.int 181 0, Value.ref 120, Value.none, Value.ref 121, Value.ref 122, Value.ref 123, Value.int 362 0, Value.int 109 0, Value.str (Str.ofString "/claim/cut.py") 363] } : Obj)) ::
    (nat_lit 125, ({ cls := Value.type "function", data := Data.func { name := Str.ofString "convert_crlf_to_lf", qualname := Str.ofString "convert_crlf_to_lf", params := p125, body := FuncBody.stmts b125, scope := s125, globals := 3, closure := [], defaults := Value.none, kwdefaults := Value.none, pyModule := Value.str (Str.ofString "dulwich.line_ending") 194, code := Value.ref 124 } } : Obj)) ::
    (nat_lit 126, ({ cls := Value.type "tuple", data := Data.seq #[] } : Obj)) ::
    (nat_lit 128, ({ cls := Value.type "tuple", data := Data.seq #[Value.str (Str.ofString "text_hunk") 368, Value.str (Str.ofString "parts") 369, Value.str (Str.ofString "cleaned_parts") 370, Value.str (Str.ofString "i") 371, Value.str (Str.ofString "part") 372] } : Obj)) ::
    (nat_lit 129, ({ cls := Value.type "tuple", data := Data.seq #[] } : Obj)) ::
    (nat_lit 131, ({ cls := Value.type "code", data := Data.fields #[Value.str (Str.ofString "convert_lf_to_crlf") 365, Value.str (Str.ofString "convert_lf_to_crlf") 366, Value.str (Str.ofString "/claim/cut.py") 367, Value.int 111 0, Value.int 1 0, Value.int 0 0, Value.int 0 0, Value.int 3 0, Value.ref 126, Value.bool true, Value.int 181 0, Value.ref 127, Value.none, Value.ref 128, Value.ref 129, Value.ref 130, Value.int 373 0, Value.int 111 0, Value.str (Str.ofString "/claim/cut.py") 374] } : Obj)) ::
    (nat_lit 132, ({ cls := Value.type "function", data := Data.func { name := Str.ofString "convert_lf_to_crlf", qualname := Str.ofString "convert_lf_to_crlf", params := p132, body := FuncBody.stmts b132, scope := s132, globals := 3, closure := [], defaults := Value.none, kwdefaults := Value.none, pyModule := Value.str (Str.ofString "dulwich.line_ending") 194, code := Value.ref 131 } } : Obj)) ::
    (nat_lit 133, ({ cls := Value.type "tuple", data := Data.seq #[Value.bytes #[] 376] } : Obj)) ::
    (nat_lit 134, ({ cls := Value.type "tuple", data := Data.seq #[] } : Obj)) ::
    (nat_lit 136, ({ cls := Value.type "tuple", data := Data.seq #[Value.str (Str.ofString "original") 380, Value.str (Str.ofString "converted") 381, Value.str (Str.ofString "safecrlf") 382, Value.str (Str.ofString "path") 383, Value.str (Str.ofString "recovered") 384, Value.str (Str.ofString "msg") 385] } : Obj)) ::
    (nat_lit 137, ({ cls := Value.type "tuple", data := Data.seq #[] } : Obj)) ::
    (nat_lit 139, ({ cls := Value.type "code", data := Data.fields #[Value.str (Str.ofString "check_safecrlf") 377, Value.str (Str.ofString "check_safecrlf") 378, Value.str (Str.ofString "/claim/cut.py") 379, Value.int 120 0, Value.int 4 0, Value.int 0 0, Value.int 0 0, Value.int 3 0, Value.ref 134, Value.bool true, Value.int 181 0, Value.ref 135, Value.none, Value.ref 136, Value.ref 137, Value.ref 138, Value.int 386 0, Value.int 120 0, Value.str (Str.ofString "/claim/cut.py") 387] } : Obj)) ::
    (nat_lit 140, ({ cls := Value.type "function", data := Data.func { name := Str.ofString "check_safecrlf", qualname := Str.ofString "check_safecrlf", params := p140, body := FuncBody.stmts b140, scope := s140, globals := 3, closure := [], defaults := Value.ref 133, kwdefaults := Value.none, pyModule := Value.str (Str.ofString "dulwich.line_ending") 194, code := Value.ref 139 } } : Obj)) ::
    (nat_lit 141, ({ cls := Value.type "tuple", data := Data.seq #[] } : Obj)) ::
    (nat_lit 143, ({ cls := Value.type "tuple", data := Data.seq #[Value.str (Str.ofString "core_eol") 392, Value.str (Str.ofString "core_autocrlf") 393] } : Obj)) ::
    (nat_lit 144, ({ cls := Value.type "tuple", data := Data.seq #[] } : Obj)) ::
    (nat_lit 146, ({ cls := Value.type "code", data := Data.fields #[Value.str (Str.ofString "get_smudge_filter") 389, Value.str (Str.ofString "get_smudge_filter") 390, Value.str (Str.ofString "/claim/cut.py") 391, Value.int 136 0, Value.int 2 0, Value.int 0 0, Value.int 0 0, Value.int 3 0, Value.ref 141, Value.bool true, Value.int 181 0, Value.ref 142, Value.none, Value.ref 143, Value.ref 144, Value.ref 145, Value.int 394 0, Value.int 136 0, Value.str (Str.ofString "/claim/cut.py") 395] } : Obj)) ::
    (nat_lit 147, ({ cls := Value.type "function", data := Data.func { name := Str.ofString "get_smudge_filter", qualname := Str.ofString "get_smudge_filter", params := p147, body := FuncBody.stmts b147, scope := s147, globals := 3, closure := [], defaults := Value.none, kwdefaults := Value.none, pyModule := Value.str (Str.ofString "dulwich.line_ending") 194, code := Value.ref 146 } } : Obj)) ::
    (nat_lit 148, ({ cls := Value.type "tuple", data := Data.seq #[] } : Obj)) ::
    (nat_lit 150, ({ cls := Value.type "tuple", data := Data.seq #[Value.str (Str.ofString "core_eol") 400, Value.str (Str.ofString "core_autocrlf") 401] } : Obj)) ::
    (nat_lit 151, ({ cls := Value.type "tuple", data := Data.seq #[] } : Obj)) ::
    (nat_lit 153, ({ cls := Value.type "code", data := Data.fields #[Value.str (Str.ofString "get_clean_filter") 397, Value.str (Str.ofString "get_clean_filter") 398, Value.str (Str.ofString "/claim/cut.py") 399, Value.int 138 0, Value.int 2 0, Value.int 0 0, Value.int 0 0, Value.int 3 0, Value.ref 148, Value.bool true, Value.int 181 0, Value.ref 149, Value.none, Value.ref 150, Value.ref 151, Value.ref 152, Value.int 402 0, Value.int 138 0, Value.str (Str.ofString "/claim/cut.py") 403] } : Obj)) ::
    (nat_lit 154, ({ cls := Value.type "function", data := Data.func { name := Str.ofString "get_clean_filter", qualname := Str.ofString "get_clean_filter", params := p154, body := FuncBody.stmts b154, scope := s154, globals := 3, closure := [], defaults := Value.none, kwdefaults := Value.none, pyModule := Value.str (Str.ofString "dulwich.line_ending") 194, code := Value.ref 153 } } : Obj)) ::
    (nat_lit 155, ({ cls := Value.type "tuple", data := Data.seq #[] } : Obj)) ::
    (nat_lit 157, ({ cls := Value.type "tuple", data := Data.seq #[Value.str (Str.ofString "core_autocrlf") 408] } : Obj)) ::
    (nat_lit 158, ({ cls := Value.type "tuple", data := Data.seq #[] } : Obj)) ::
    (nat_lit 160, ({ cls := Value.type "code", data := Data.fields #[Value.str (Str.ofString "get_smudge_filter_autocrlf") 405, Value.str (Str.ofString "get_smudge_filter_autocrlf") 406, Value.str (Str.ofString "/claim/cut.py") 407, Value.int 140 0, Value.int 1 0, Value.int 0 0, Value.int 0 0, Value.int 3 0, Value.ref 155, Value.bool true, Value.int 181 0, Value.ref 156, Value.none, Value.ref 157, Value.ref 158, Value.ref 159, Value.int 409 0, Value.int 140 0, Value.str (Str.ofString "/claim/cut.py") 410] } : Obj)) ::
    (nat_lit 161, ({ cls := Value.type "function", data := Data.func { name := Str.ofString "get_smudge_filter_autocrlf", qualname := Str.ofString "get_smudge_filter_autocrlf", params := p161, body := FuncBody.stmts b161, scope := s161, globals := 3, closure := [], defaults := Value.none, kwdefaults := Value.none, pyModule := Value.str (Str.ofString "dulwich.line_ending") 194, code := Value.ref 160 } } : Obj)) ::
    (nat_lit 162, ({ cls := Value.type "tuple", data := Data.seq #[] } : Obj)) ::
    (nat_lit 164, ({ cls := Value.type "tuple", data := Data.seq #[Value.str (Str.ofString "core_autocrlf") 415] } : Obj)) ::
    (nat_lit 165, ({ cls := Value.type "tuple", data := Data.seq #[] } : Obj)) ::
    (nat_lit 167, ({ cls := Value.type "code", data := Data.fields #[Value.str (Str.ofString "get_clean_filter_autocrlf") 412, Value.str (Str.ofString "get_clean_filter_autocrlf") 413, Value.str (Str.ofString "/claim/cut.py") 414, Value.int 144 0, Value.int 1 0, Value.int 0 0, Value.int 0 0, Value.int 3 0, Value.ref 162, Value.bool true, Value.int 181 0, Value.ref 163, Value.none, Value.ref 164, Value.ref 165, Value.ref 166, Value.int 416 0, Value.int 144 0, Value.str (Str.ofString "/claim/cut.py") 417] } : Obj)) ::
    (nat_lit 168, ({ cls := Value.type "function", data := Data.func { name := Str.ofString "get_clean_filter_autocrlf", qualname := Str.ofString "get_clean_filter_autocrlf", params := p168, body := FuncBody.stmts b168, scope := s168, globals := 3, closure := [], defaults := Value.none, kwdefaults := Value.none, pyModule := Value.str (Str.ofString "dulwich.line_ending") 194, code := Value.ref 167 } } : Obj)) ::
    (nat_lit 169, ({ cls := Value.type "tuple", data := Data.seq #[] } : Obj)) ::
    (nat_lit 171, ({ cls := Value.type "tuple", data := Data.seq #[] } : Obj)) ::
    (nat_lit 172, ({ cls := Value.type "tuple", data := Data.seq #[] } : Obj)) ::
    (nat_lit 174, ({ cls := Value.type "code", data := Data.fields #[Value.str (Str.ofString "_law_words") 421, Value.str (Str.ofString "_law_words") 422, Value.str (Str.ofString "/claim/cut.py") 423, Value.int 149 0, Value.int 0 0, Value.int 0 0, Value.int 0 0, Value.int 3 0, Value.ref 169, Value.bool true, Value.int 181 0, Value.ref 170, Value.none, Value.ref 171, Value.ref 172, Value.ref 173, Value.int 424 0, Value.int 149 0, Value.str (Str.ofString "/claim/cut.py") 425] } : Obj)) ::
    (nat_lit 175, ({ cls := Value.type "function", data := Data.func { name := Str.ofString "_law_words", qualname := Str.ofString "_law_words", params := p175, body := FuncBody.stmts b175, scope := s175, globals := 3, closure := [], defaults := Value.none, kwdefaults := Value.none, pyModule := Value.str (Str.ofString "law_ji0034_01") 419, code := Value.ref 174 } } : Obj)) ::
    (nat_lit 176, ({ cls := Value.type "tuple", data := Data.seq #[] } : Obj)) ::
    (nat_lit 178, ({ cls := Value.type "tuple", data := Data.seq #[] } : Obj)) ::
    (nat_lit 179, ({ cls := Value.type "tuple", data := Data.seq #[] } : Obj)) ::
    (nat_lit 181, ({ cls := Value.type "code", data := Data.fields #[Value.str (Str.ofString "_law_values") 427, Value.str (Str.ofString "_law_values") 428, Value.str (Str.ofString "/claim/cut.py") 429, Value.int 151 0, Value.int 0 0, Value.int 0 0, Value.int 0 0, Value.int 3 0, Value.ref 176, Value.bool true, Value.int 181 0, Value.ref 177, Value.none, Value.ref 178, Value.ref 179, Value.ref 180, Value.int 430 0, Value.int 151 0, Value.str (Str.ofString "/claim/cut.py") 431] } : Obj)) ::
    (nat_lit 182, ({ cls := Value.type "function", data := Data.func { name := Str.ofString "_law_values", qualname := Str.ofString "_law_values", params := p182, body := FuncBody.stmts b182, scope := s182, globals := 3, closure := [], defaults := Value.none, kwdefaults := Value.none, pyModule := Value.str (Str.ofString "law_ji0034_01") 419, code := Value.ref 181 } } : Obj)) ::
    (nat_lit 183, ({ cls := Value.type "tuple", data := Data.seq #[] } : Obj)) ::
    (nat_lit 185, ({ cls := Value.type "tuple", data := Data.seq #[] } : Obj)) ::
    (nat_lit 186, ({ cls := Value.type "tuple", data := Data.seq #[] } : Obj)) ::
    (nat_lit 188, ({ cls := Value.type "code", data := Data.fields #[Value.str (Str.ofString "_law_ends") 433, Value.str (Str.ofString "_law_ends") 434, Value.str (Str.ofString "/claim/cut.py") 435, Value.int 153 0, Value.int 0 0, Value.int 0 0, Value.int 0 0, Value.int 3 0, Value.ref 183, Value.bool true, Value.int 181 0, Value.ref 184, Value.none, Value.ref 185, Value.ref 186, Value.ref 187, Value.int 436 0, Value.int 153 0, Value.str (Str.ofString "/claim/cut.py") 437] } : Obj)) ::
    (nat_lit 189, ({ cls := Value.type "function", data := Data.func { name := Str.ofString "_law_ends", qualname := Str.ofString "_law_ends", params := p189, body := FuncBody.stmts b189, scope := s189, globals := 3, closure := [], defaults := Value.none, kwdefaults := Value.none, pyModule := Value.str (Str.ofString "law_ji0034_01") 419, code := Value.ref 188 } } : Obj)) ::
    (nat_lit 190, ({ cls := Value.type "tuple", data := Data.seq #[] } : Obj)) ::
    (nat_lit 192, ({ cls := Value.type "tuple", data := Data.seq #[] } : Obj)) ::
    (nat_lit 193, ({ cls := Value.type "tuple", data := Data.seq #[] } : Obj)) ::
    (nat_lit 195, ({ cls := Value.type "code", data := Data.fields #[Value.str (Str.ofString "_law_autos") 439, Value.str (Str.ofString "_law_autos") 440, Value.str (Str.ofString "/claim/cut.py") 441, Value.int 155 0, Value.int 0 0, Value.int 0 0, Value.int 0 0, Value.int 3 0, Value.ref 190, Value.bool true, Value.int 181 0, Value.ref 191, Value.none, Value.ref 192, Value.ref 193, Value.ref 194, Value.int 442 0, Value.int 155 0, Value.str (Str.ofString "/claim/cut.py") 443] } : Obj)) ::
    (nat_lit 196, ({ cls := Value.type "function", data := Data.func { name := Str.ofString "_law_autos", qualname := Str.ofString "_law_autos", params := p196, body := FuncBody.stmts b196, scope := s196, globals := 3, closure := [], defaults := Value.none, kwdefaults := Value.none, pyModule := Value.str (Str.ofString "law_ji0034_01") 419, code := Value.ref 195 } } : Obj)) ::
    (nat_lit 197, ({ cls := Value.type "tuple", data := Data.seq #[] } : Obj)) ::
    (nat_lit 199, ({ cls := Value.type "tuple", data := Data.seq #[] } : Obj)) ::
    (nat_lit 200, ({ cls := Value.type "tuple", data := Data.seq #[] } : Obj)) ::
    (nat_lit 202, ({ cls := Value.type "code", data := Data.fields #[Value.str (Str.ofString "_law_cores") 445, Value.str (Str.ofString "_law_cores") 446, Value.str (Str.ofString "/claim/cut.py") 447, Value.int 157 0, Value.int 0 0, Value.int 0 0, Value.int 0 0, Value.int 3 0, Value.ref 197, Value.bool true, Value.int 181 0, Value.ref 198, Value.none, Value.ref 199, Value.ref 200, Value.ref 201, Value.int 448 0, Value.int 157 0, Value.str (Str.ofString "/claim/cut.py") 449] } : Obj)) ::
    (nat_lit 203, ({ cls := Value.type "function", data := Data.func { name := Str.ofString "_law_cores", qualname := Str.ofString "_law_cores", params := p203, body := FuncBody.stmts b203, scope := s203, globals := 3, closure := [], defaults := Value.none, kwdefaults := Value.none, pyModule := Value.str (Str.ofString "law_ji0034_01") 419, code := Value.ref 202 } } : Obj)) ::
    (nat_lit 204, ({ cls := Value.type "tuple", data := Data.seq #[] } : Obj)) ::
    (nat_lit 206, ({ cls := Value.type "tuple", data := Data.seq #[] } : Obj)) ::
    (nat_lit 207, ({ cls := Value.type "tuple", data := Data.seq #[] } : Obj)) ::
    (nat_lit 209, ({ cls := Value.type "code", data := Data.fields #[Value.str (Str.ofString "_law_safes") 451, Value.str (Str.ofString "_law_safes") 452, Value.str (Str.ofString "/claim/cut.py") 453, Value.int 159 0, Value.int 0 0, Value.int 0 0, Value.int 0 0, Value.int 3 0, Value.ref 204, Value.bool true, Value.int 181 0, Value.ref 205, Value.none, Value.ref 206, Value.ref 207, Value.ref 208, Value.int 454 0, Value.int 159 0, Value.str (Str.ofString "/claim/cut.py") 455] } : Obj)) ::
    (nat_lit 210, ({ cls := Value.type "function", data := Data.func { name := Str.ofString "_law_safes", qualname := Str.ofString "_law_safes", params := p210, body := FuncBody.stmts b210, scope := s210, globals := 3, closure := [], defaults := Value.none, kwdefaults := Value.none, pyModule := Value.str (Str.ofString "law_ji0034_01") 419, code := Value.ref 209 } } : Obj)) ::
    (nat_lit 211, ({ cls := Value.type "tuple", data := Data.seq #[] } : Obj)) ::
    (nat_lit 213, ({ cls := Value.type "tuple", data := Data.seq #[] } : Obj)) ::
    (nat_lit 214, ({ cls := Value.type "tuple", data := Data.seq #[] } : Obj)) ::
    (nat_lit 216, ({ cls := Value.type "code", data := Data.fields #[Value.str (Str.ofString "_law_letters") 457, Value.str (Str.ofString "_law_letters") 458, Value.str (Str.ofString "/claim/cut.py") 459, Value.int 161 0, Value.int 0 0, Value.int 0 0, Value.int 0 0, Value.int 3 0, Value.ref 211, Value.bool true, Value.int 181 0, Value.ref 212, Value.none, Value.ref 213, Value.ref 214, Value.ref 215, Value.int 460 0, Value.int 161 0, Value.str (Str.ofString "/claim/cut.py") 461] } : Obj)) ::
    (nat_lit 217, ({ cls := Value.type "function", data := Data.func { name := Str.ofString "_law_letters", qualname := Str.ofString "_law_letters", params := p217, body := FuncBody.stmts b217, scope := s217, globals := 3, closure := [], defaults := Value.none, kwdefaults := Value.none, pyModule := Value.str (Str.ofString "law_ji0034_01") 419, code := Value.ref 216 } } : Obj)) ::
    (nat_lit 218, ({ cls := Value.type "tuple", data := Data.seq #[] } : Obj)) ::
    (nat_lit 220, ({ cls := Value.type "tuple", data := Data.seq #[Value.str (Str.ofString "text") 470, Value.str (Str.ofString "crlf") 471, Value.str (Str.ofString "eol") 472, Value.str (Str.ofString "told") 473] } : Obj)) ::
    (nat_lit 221, ({ cls := Value.type "tuple", data := Data.seq #[] } : Obj)) ::
    (nat_lit 223, ({ cls := Value.type "code", data := Data.fields #[Value.str (Str.ofString "_law_attributes") 467, Value.str (Str.ofString "_law_attributes") 468, Value.str (Str.ofString "/claim/cut.py") 469, Value.int 165 0, Value.int 3 0, Value.int 0 0, Value.int 0 0, Value.int 3 0, Value.ref 218, Value.bool true, Value.int 181 0, Value.ref 219, Value.none, Value.ref 220, Value.ref 221, Value.ref 222, Value.int 474 0, Value.int 165 0, Value.str (Str.ofString "/claim/cut.py") 475] } : Obj)) ::
    (nat_lit 224, ({ cls := Value.type "function", data := Data.func { name := Str.ofString "_law_attributes", qualname := Str.ofString "_law_attributes", params := p224, body := FuncBody.stmts b224, scope := s224, globals := 3, closure := [], defaults := Value.none, kwdefaults := Value.none, pyModule := Value.str (Str.ofString "law_ji0034_01") 419, code := Value.ref 223 } } : Obj)) ::
    (nat_lit 225, ({ cls := Value.type "tuple", data := Data.seq #[] } : Obj)) ::
    (nat_lit 228, ({ cls := Value.type "code", data := Data.fields #[Value.str (Str.ofString "_law_rule") 477, Value.str (Str.ofString "_law_rule") 478, Value.str (Str.ofString "/claim/cut.py") 479, Value.int 174 0, Value.int 5 0, Value.int 0 0, Value.int 0 0, Value.int 3 0, Value.ref 225, Value.bool true, Value.int 181 0, Value.ref 226, Value.none, Value.none, Value.none, Value.ref 227, Value.int 480 0, Value.int 174 0, Value.str (Str.ofString "/claim/cut.py") 481] } : Obj)) ::
    (nat_lit 229, ({ cls := Value.type "function", data := Data.func { name := Str.ofString "_law_rule", qualname := Str.ofString "_law_rule", params := p229, body := FuncBody.stmts b229, scope := s229, globals := 3, closure := [], defaults := Value.none, kwdefaults := Value.none, pyModule := Value.str (Str.ofString "law_ji0034_01") 419, code := Value.ref 228 } } : Obj)) ::
    (nat_lit 230, ({ cls := Value.type "tuple", data := Data.seq #[] } : Obj)) ::
    (nat_lit 232, ({ cls := Value.type "tuple", data := Data.seq #[Value.str (Str.ofString "rule") 486] } : Obj)) ::
    (nat_lit 233, ({ cls := Value.type "tuple", data := Data.seq #[] } : Obj)) ::
    (nat_lit 235, ({ cls := Value.type "code", data := Data.fields #[Value.str (Str.ofString "_law_named") 483, Value.str (Str.ofString "_law_named") 484, Value.str (Str.ofString "/claim/cut.py") 485, Value.int 186 0, Value.int 1 0, Value.int 0 0, Value.int 0 0, Value.int 3 0, Value.ref 230, Value.bool true, Value.int 181 0, Value.ref 231, Value.none, Value.ref 232, Value.ref 233, Value.ref 234, Value.int 487 0, Value.int 186 0, Value.str (Str.ofString "/claim/cut.py") 488] } : Obj)) ::
    (nat_lit 236, ({ cls := Value.type "function", data := Data.func { name := Str.ofString "_law_named", qualname := Str.ofString "_law_named", params := p236, body := FuncBody.stmts b236, scope := s236, globals := 3, closure := [], defaults := Value.none, kwdefaults := Value.none, pyModule := Value.str (Str.ofString "law_ji0034_01") 419, code := Value.ref 235 } } : Obj)) ::
    (nat_lit 237, ({ cls := Value.type "tuple", data := Data.seq #[] } : Obj)) ::
    (nat_lit 239, ({ cls := Value.type "tuple", data := Data.seq #[Value.str (Str.ofString "parts") 493, Value.str (Str.ofString "lone") 494, Value.str (Str.ofString "pairs") 495, Value.str (Str.ofString "triples") 496, Value.str (Str.ofString "k") 497] } : Obj)) ::
    (nat_lit 240, ({ cls := Value.type "tuple", data := Data.seq #[] } : Obj)) ::
    (nat_lit 242, ({ cls := Value.type "code", data := Data.fields #[Value.str (Str.ofString "_law_counts") 490, Value.str (Str.ofString "_law_counts") 491, Value.str (Str.ofString "/claim/cut.py") 492, Value.int 192 0, Value.int 1 0, Value.int 0 0, Value.int 0 0, Value.int 3 0, Value.ref 237, Value.bool true, Value.int 181 0, Value.ref 238, Value.none, Value.ref 239, Value.ref 240, Value.ref 241, Value.int 498 0, Value.int 192 0, Value.str (Str.ofString "/claim/cut.py") 499] } : Obj)) ::
    (nat_lit 243, ({ cls := Value.type "function", data := Data.func { name := Str.ofString "_law_counts", qualname := Str.ofString "_law_counts", params := p243, body := FuncBody.stmts b243, scope := s243, globals := 3, closure := [], defaults := Value.none, kwdefaults := Value.none, pyModule := Value.str (Str.ofString "law_ji0034_01") 419, code := Value.ref 242 } } : Obj)) ::
    (nat_lit 244, ({ cls := Value.type "tuple", data := Data.seq #[] } : Obj)) ::
    (nat_lit 246, ({ cls := Value.type "tuple", data := Data.seq #[Value.str (Str.ofString "parts") 504, Value.str (Str.ofString "at") 505, Value.str (Str.ofString "part") 506] } : Obj)) ::
    (nat_lit 247, ({ cls := Value.type "tuple", data := Data.seq #[] } : Obj)) ::
    (nat_lit 249, ({ cls := Value.type "code", data := Data.fields #[Value.str (Str.ofString "_law_binary") 501, Value.str (Str.ofString "_law_binary") 502, Value.str (Str.ofString "/claim/cut.py") 503, Value.int 205 0, Value.int 1 0, Value.int 0 0, Value.int 0 0, Value.int 3 0, Value.ref 244, Value.bool true, Value.int 181 0, Value.ref 245, Value.none, Value.ref 246, Value.ref 247, Value.ref 248, Value.int 507 0, Value.int 205 0, Value.str (Str.ofString "/claim/cut.py") 508] } : Obj)) ::
    (nat_lit 250, ({ cls := Value.type "function", data := Data.func { name := Str.ofString "_law_binary", qualname := Str.ofString "_law_binary", params := p250, body := FuncBody.stmts b250, scope := s250, globals := 3, closure := [], defaults := Value.none, kwdefaults := Value.none, pyModule := Value.str (Str.ofString "law_ji0034_01") 419, code := Value.ref 249 } } : Obj)) ::
    (nat_lit 251, ({ cls := Value.type "tuple", data := Data.seq #[] } : Obj)) ::
    (nat_lit 254, ({ cls := Value.type "code", data := Data.fields #[Value.str (Str.ofString "_law_less") 510, Value.str (Str.ofString "_law_less") 511, Value.str (Str.ofString "/claim/cut.py") 512, Value.int 212 0, Value.int 1 0, Value.int 0 0, Value.int 0 0, Value.int 3 0, Value.ref 251, Value.bool true, Value.int 181 0, Value.ref 252, Value.none, Value.none, Value.none, Value.ref 253, Value.int 513 0, Value.int 212 0, Value.str (Str.ofString "/claim/cut.py") 514] } : Obj)) ::
    (nat_lit 255, ({ cls := Value.type "function", data := Data.func { name := Str.ofString "_law_less", qualname := Str.ofString "_law_less", params := p255, body := FuncBody.stmts b255, scope := s255, globals := 3, closure := [], defaults := Value.none, kwdefaults := Value.none, pyModule := Value.str (Str.ofString "law_ji0034_01") 419, code := Value.ref 254 } } : Obj)) ::
    (nat_lit 256, ({ cls := Value.type "tuple", data := Data.seq #[] } : Obj)) ::
    (nat_lit 258, ({ cls := Value.type "tuple", data := Data.seq #[Value.str (Str.ofString "parts") 519, Value.str (Str.ofString "out") 520, Value.str (Str.ofString "part") 521] } : Obj)) ::
    (nat_lit 259, ({ cls := Value.type "tuple", data := Data.seq #[] } : Obj)) ::
    (nat_lit 261, ({ cls := Value.type "code", data := Data.fields #[Value.str (Str.ofString "_law_more") 516, Value.str (Str.ofString "_law_more") 517, Value.str (Str.ofString "/claim/cut.py") 518, Value.int 214 0, Value.int 1 0, Value.int 0 0, Value.int 0 0, Value.int 3 0, Value.ref 256, Value.bool true, Value.int 181 0, Value.ref 257, Value.none, Value.ref 258, Value.ref 259, Value.ref 260, Value.int 522 0, Value.int 214 0, Value.str (Str.ofString "/claim/cut.py") 523] } : Obj)) ::
    (nat_lit 262, ({ cls := Value.type "function", data := Data.func { name := Str.ofString "_law_more", qualname := Str.ofString "_law_more", params := p262, body := FuncBody.stmts b262, scope := s262, globals := 3, closure := [], defaults := Value.none, kwdefaults := Value.none, pyModule := Value.str (Str.ofString "law_ji0034_01") 419, code := Value.ref 261 } } : Obj)) ::
    (nat_lit 263, ({ cls := Value.type "tuple", data := Data.seq #[] } : Obj)) ::
    (nat_lit 265, ({ cls := Value.type "tuple", data := Data.seq #[Value.str (Str.ofString "driver") 528, Value.str (Str.ofString "data") 529] } : Obj)) ::
    (nat_lit 266, ({ cls := Value.type "tuple", data := Data.seq #[] } : Obj)) ::
    (nat_lit 268, ({ cls := Value.type "code", data := Data.fields #[Value.str (Str.ofString "_law_cleaned") 525, Value.str (Str.ofString "_law_cleaned") 526, Value.str (Str.ofString "/claim/cut.py") 527, Value.int 221 0, Value.int 2 0, Value.int 0 0, Value.int 0 0, Value.int 3 0, Value.ref 263, Value.bool true, Value.int 181 0, Value.ref 264, Value.none, Value.ref 265, Value.ref 266, Value.ref 267, Value.int 530 0, Value.int 221 0, Value.str (Str.ofString "/claim/cut.py") 531] } : Obj)) ::
    (nat_lit 269, ({ cls := Value.type "function", data := Data.func { name := Str.ofString "_law_cleaned", qualname := Str.ofString "_law_cleaned", params := p269, body := FuncBody.stmts b269, scope := s269, globals := 3, closure := [], defaults := Value.none, kwdefaults := Value.none, pyModule := Value.str (Str.ofString "law_ji0034_01") 419, code := Value.ref 268 } } : Obj)) ::
    (nat_lit 270, ({ cls := Value.type "tuple", data := Data.seq #[] } : Obj)) ::
    (nat_lit 272, ({ cls := Value.type "tuple", data := Data.seq #[Value.str (Str.ofString "work") 536, Value.str (Str.ofString "kind") 537, Value.str (Str.ofString "rest") 538] } : Obj)) ::
    (nat_lit 273, ({ cls := Value.type "tuple", data := Data.seq #[] } : Obj)) ::
    (nat_lit 275, ({ cls := Value.type "code", data := Data.fields #[Value.str (Str.ofString "_law_edited") 533, Value.str (Str.ofString "_law_edited") 534, Value.str (Str.ofString "/claim/cut.py") 535, Value.int 226 0, Value.int 3 0, Value.int 0 0, Value.int 0 0, Value.int 3 0, Value.ref 270, Value.bool true, Value.int 181 0, Value.ref 271, Value.none, Value.ref 272, Value.ref 273, Value.ref 274, Value.int 539 0, Value.int 226 0, Value.str (Str.ofString "/claim/cut.py") 540] } : Obj)) ::
    (nat_lit 276, ({ cls := Value.type "function", data := Data.func { name := Str.ofString "_law_edited", qualname := Str.ofString "_law_edited", params := p276, body := FuncBody.stmts b276, scope := s276, globals := 3, closure := [], defaults := Value.none, kwdefaults := Value.none, pyModule := Value.str (Str.ofString "law_ji0034_01") 419, code := Value.ref 275 } } : Obj)) ::
    (nat_lit 277, ({ cls := Value.type "tuple", data := Data.seq #[] } : Obj)) ::
    (nat_lit 280, ({ cls := Value.type "code", data := Data.fields #[Value.str (Str.ofString "law") 542, Value.str (Str.ofString "law") 543, Value.str (Str.ofString "/claim/cut.py") 544, Value.int 238 0, Value.int 1 0, Value.int 0 0, Value.int 0 0, Value.int 3 0, Value.ref 277, Value.bool true, Value.int 181 0, Value.ref 278, Value.none, Value.none, Value.none, Value.ref 279, Value.int 545 0, Value.int 238 0, Value.str (Str.ofString "/claim/cut.py") 546] } : Obj)) ::
    (nat_lit 281, ({ cls := Value.type "function", data := Data.func { name := Str.ofString "law", qualname := Str.ofString "law", params := p281, body := FuncBody.stmts b281, scope := s281, globals := 3, closure := [], defaults := Value.none, kwdefaults := Value.none, pyModule := Value.str (Str.ofString "law_ji0034_01") 419, code := Value.ref 280 } } : Obj)) :: [] : Params → Frag)) _ _ _ _ _ rfl _ _ _ _ _ rfl _ _ _ _ _ rfl _ _ _ _ _ rfl _ _ _ _ _ rfl _ _ _ _ _ rfl _ _ _ _ _ rfl _ _ _ _ _ rfl _ _ _ _ _ rfl _ _ _ _ _ rfl _ _ _ _ _ rfl _ _ _ _ _ rfl _ _ _ _ _ rfl _ _ _ _ _ rfl _ _ _ _ _ rfl _ _ _ _ _ rfl _ _ _ _ _ rfl _ _ _ _ _ rfl _ _ _ _ _ rfl _ _ _ _ _ rfl _ _ _ _ _ rfl _ _ _ _ _ rfl _ _ _ _ _ rfl _ _ _ _ _ rfl _ _ _ _ _ rfl _ _ _ _ _ rfl _ _ _ _ _ rfl _ _ _ _ _ rfl _ _ _ _ _ rfl _ _ _ _ _ rfl _ _ _ _ _ rfl _ _ _ _ _ rfl _ _ _ _ _ rfl _ _ _ _ _ rfl
end Mine
end
section
open PySem PySem.W PySem.Calls PySem.Spec PyProof.Rows
namespace Mine
set_option maxRecDepth 100000
abbrev R0 : RowW := PySem.Challenge.rw_ji0034_01.row.toRowW
abbrev LO : List Str := [Str.ofString "CRLFAction", Str.ofString "resolve_crlf_action", Str.ofString "line_ending_filter_for_action", Str.ofString "LineEndingFilter", Str.ofString "check_safecrlf"]
noncomputable def asK : List Addr := 2 :: 3 :: 15 :: 17 :: 18 :: 20 :: 21 :: 22 :: 24 :: 25 :: 27 :: 28 :: 36 :: 37 :: 38 :: 39 :: 40 :: 43 :: 44 :: 46 :: 47 :: 49 :: 50 :: 51 :: 53 :: 54 :: 56 :: 57 :: 58 :: 59 :: 61 :: 62 :: 64 :: 65 :: 66 :: 67 :: 69 :: 70 :: 72 :: 73 :: 81 :: 82 :: 84 :: 85 :: 87 :: 88 :: 89 :: 90 :: 92 :: 93 :: 95 :: 96 :: 97 :: 98 :: 100 :: 101 :: 103 :: 104 :: 105 :: 107 :: 108 :: 110 :: 111 :: 112 :: 113 :: 114 :: 115 :: 116 :: 119 :: 121 :: 122 :: 124 :: 125 :: 126 :: 128 :: 129 :: 131 :: 132 :: 133 :: 134 :: 136 :: 137 :: 139 :: 140 :: 141 :: 143 :: 144 :: 146 :: 147 :: 148 :: 150 :: 151 :: 153 :: 154 :: 155 :: 157 :: 158 :: 160 :: 161 :: 162 :: 164 :: 165 :: 167 :: 168 :: 169 :: 171 :: 172 :: 174 :: 175 :: 176 :: 178 :: 179 :: 181 :: 182 :: 183 :: 185 :: 186 :: 188 :: 189 :: 190 :: 192 :: 193 :: 195 :: 196 :: 197 :: 199 :: 200 :: 202 :: 203 :: 204 :: 206 :: 207 :: 209 :: 210 :: 211 :: 213 :: 214 :: 216 :: 217 :: 218 :: 220 :: 221 :: 223 :: 224 :: 225 :: 228 :: 229 :: 230 :: 232 :: 233 :: 235 :: 236 :: 237 :: 239 :: 240 :: 242 :: 243 :: 244 :: 246 :: 247 :: 249 :: 250 :: 251 :: 254 :: 255 :: 256 :: 258 :: 259 :: 261 :: 262 :: 263 :: 265 :: 266 :: 268 :: 269 :: 270 :: 272 :: 273 :: 275 :: 276 :: 277 :: 280 :: 281 :: []
theorem asK_is : ∀ P, asK = (K P).map (·.1) := fun _ => by kernel_rfl
noncomputable abbrev HK : Hook := kHook K asK asK_is
namespace Hd
noncomputable def kO (i : Nat) (P : Params) : Obj := (List.getD (K P) i (0, boot_o_0 P)).2
noncomputable def rawO (d : DefRec) (q : Str) : Obj := { cls := Value.none, data := Data.func { name := d.name, qualname := q, params := d.params, body := FuncBody.stmts d.body, scope := d.scope, globals := 0, closure := [], defaults := Value.none, kwdefaults := Value.none } }
noncomputable def q43 : Obj := { cls := Value.type "tuple", data := Data.seq #[] }
noncomputable def q45 : Obj := { cls := Value.type "code", data := Data.fields #[Value.str (Str.ofString "<module>") 182, Value.str (Str.ofString "<module>") 183, Value.str (Str.ofString "/claim/cut.py") 184, Value.int 1 0, Value.int 0 0, Value.int 0 0, Value.int 0 0, Value.int 0 0, Value.ref 11, Value.bool Bool.false, Value.int 181 0, Value.ref 12, Value.none, Value.none, Value.none, Value.none, Value.int 185 0, Value.int 1 0, Value.str (Str.ofString "/claim/cut.py") 186] }
noncomputable def q44 : Obj := { cls := Value.none, data := Data.fields #[] }
noncomputable def q46 : Obj := { cls := Value.type "frame", slots := #[Option.some (Value.ref 13), Option.some (Value.ref 3), Option.some (Value.ref 3), Option.none, Option.some (Value.str (Str.ofString "__main__") 164), Option.none, Option.some (Value.ref 0)] }
noncomputable def q49 : Params → Obj := fun P => { cls := Value.type "dict", data := Data.dict #[{ hash := PyData.keyHash P (Str.ofString "__name__"), key := Value.str (Str.ofString "__name__") 165, val := Value.str (Str.ofString "dulwich.line_ending") 194 }, { hash := PyData.keyHash P (Str.ofString "__doc__"), key := Value.str (Str.ofString "__doc__") 166, val := Value.none }, { hash := PyData.keyHash P (Str.ofString "__package__"), key := Value.str (Str.ofString "__package__") 167, val := Value.none }, { hash := PyData.keyHash P (Str.ofString "__loader__"), key := Value.str (Str.ofString "__loader__") 168, val := Value.builtin "__main__.__loader__#opaque" }, { hash := PyData.keyHash P (Str.ofString "__spec__"), key := Value.str (Str.ofString "__spec__") 169, val := Value.none }, { hash := PyData.keyHash P (Str.ofString "__annotations__"), key := Value.str (Str.ofString "__annotations__") 170, val := Value.ref 6 }, { hash := PyData.keyHash P (Str.ofString "__builtins__"), key := Value.str (Str.ofString "__builtins__") 171, val := Value.ref 4 }, { hash := PyData.keyHash P (Str.ofString "__file__"), key := Value.str (Str.ofString "__file__") 173, val := Value.str (Str.ofString "/claim/cut.py") 172 }, { hash := PyData.keyHash P (Str.ofString "__cached__"), key := Value.str (Str.ofString "__cached__") 174, val := Value.none }, { hash := PyData.keyHash P (Str.ofString "_wall"), key := Value.str (Str.ofString "_wall") 193, val := Value.ref 21 }, { hash := PyData.keyHash P (Str.ofString "FIRST_FEW_BYTES"), key := Value.str (Str.ofString "FIRST_FEW_BYTES") 197, val := Value.int 8000 196 }, { hash := PyData.keyHash P (Str.ofString "is_binary"), key := Value.str (Str.ofString "is_binary") 204, val := Value.ref 28 }, { hash := PyData.keyHash P (Str.ofString "CRLF"), key := Value.str (Str.ofString "CRLF") 206, val := Value.bytes #[13, 10] 205 }, { hash := PyData.keyHash P (Str.ofString "LF"), key := Value.str (Str.ofString "LF") 208, val := Value.bytes #[10] 207 }, { hash := PyData.keyHash P (Str.ofString "CRLFAction"), key := Value.str (Str.ofString "CRLFAction") 244, val := Value.ref 38 }, { hash := PyData.keyHash P (Str.ofString "_AUTO_ACTIONS"), key := Value.str (Str.ofString "_AUTO_ACTIONS") 248, val := Value.ref 43 }] 16 }
noncomputable def q67 : Params → Obj := fun P => { cls := Value.type "dict", data := Data.dict #[{ hash := PyData.keyHash P (Str.ofString "__module__"), key := Value.str (Str.ofString "__module__") 216, val := Value.str (Str.ofString "dulwich.line_ending") 194 }, { hash := PyData.keyHash P (Str.ofString "__qualname__"), key := Value.str (Str.ofString "__qualname__") 218, val := Value.str (Str.ofString "CRLFAction") 217 }, { hash := PyData.keyHash P (Str.ofString "__firstlineno__"), key := Value.str (Str.ofString "__firstlineno__") 220, val := Value.int 10 219 }, { hash := PyData.keyHash P (Str.ofString "UNDEFINED"), key := Value.str (Str.ofString "UNDEFINED") 222, val := Value.str (Str.ofString "undefined") 221 }, { hash := PyData.keyHash P (Str.ofString "BINARY"), key := Value.str (Str.ofString "BINARY") 224, val := Value.str (Str.ofString "binary") 223 }, { hash := PyData.keyHash P (Str.ofString "TEXT"), key := Value.str (Str.ofString "TEXT") 226, val := Value.str (Str.ofString "text") 225 }, { hash := PyData.keyHash P (Str.ofString "TEXT_INPUT"), key := Value.str (Str.ofString "TEXT_INPUT") 228, val := Value.str (Str.ofString "text-input") 227 }, { hash := PyData.keyHash P (Str.ofString "TEXT_CRLF"), key := Value.str (Str.ofString "TEXT_CRLF") 230, val := Value.str (Str.ofString "text-crlf") 229 }, { hash := PyData.keyHash P (Str.ofString "AUTO"), key := Value.str (Str.ofString "AUTO") 232, val := Value.str (Str.ofString "auto") 231 }, { hash := PyData.keyHash P (Str.ofString "AUTO_INPUT"), key := Value.str (Str.ofString "AUTO_INPUT") 234, val := Value.str (Str.ofString "auto-input") 233 }, { hash := PyData.keyHash P (Str.ofString "AUTO_CRLF"), key := Value.str (Str.ofString "AUTO_CRLF") 236, val := Value.str (Str.ofString "auto-crlf") 235 }, { hash := PyData.keyHash P (Str.ofString "__static_attributes__"), key := Value.str (Str.ofString "__static_attributes__") 237, val := Value.ref 36 }] 12 }
noncomputable def q71 : Obj := { cls := Value.type "frame", slots := #[Option.some (Value.ref 34), Option.some (Value.ref 3), Option.some (Value.ref 31), Option.none, Option.some (Value.str (Str.ofString "dulwich.line_ending") 194), Option.none, Option.some (Value.ref 0)] }
noncomputable def q77 : Obj := { cls := Value.type "super", data := Data.fields #[Value.ref 38, Value.ref 38, Value.ref 38] }
noncomputable def q50 : Obj := { cls := Value.none, data := Data.fields #[Value.int 1 0, Value.int 0 0, Value.ref 20, Value.int 6 0, Value.int 0 0, Value.ref 27, Value.int 10 0, Value.int 0 0, Value.ref 34] }
noncomputable def q70 : Obj := { cls := Value.type "code", data := Data.fields #[Value.str (Str.ofString "CRLFAction") 211, Value.str (Str.ofString "CRLFAction") 212, Value.str (Str.ofString "/claim/cut.py") 213, Value.int 10 0, Value.int 0 0, Value.int 0 0, Value.int 0 0, Value.int 0 0, Value.ref 32, Value.bool Bool.false, Value.int 181 0, Value.ref 33, Value.none, Value.none, Value.none, Value.none, Value.int 214 0, Value.int 10 0, Value.str (Str.ofString "/claim/cut.py") 215] }
noncomputable def q78 : Obj := { cls := Value.type "builtin_function_or_method", data := Data.fields #[Value.builtin "object.__init_subclass__", Value.ref 38] }
noncomputable def q66 : Obj := { cls := Value.type "builtin_function_or_method", data := Data.fields #[Value.builtin "type.__prepare__", Value.type "type"] }
noncomputable def q80 : Params → Obj := fun P => { cls := Value.type "dict", data := Data.dict #[{ hash := PyData.keyHash P (Str.ofString "__name__"), key := Value.str (Str.ofString "__name__") 165, val := Value.str (Str.ofString "dulwich.line_ending") 194 }, { hash := PyData.keyHash P (Str.ofString "__doc__"), key := Value.str (Str.ofString "__doc__") 166, val := Value.none }, { hash := PyData.keyHash P (Str.ofString "__package__"), key := Value.str (Str.ofString "__package__") 167, val := Value.none }, { hash := PyData.keyHash P (Str.ofString "__loader__"), key := Value.str (Str.ofString "__loader__") 168, val := Value.builtin "__main__.__loader__#opaque" }, { hash := PyData.keyHash P (Str.ofString "__spec__"), key := Value.str (Str.ofString "__spec__") 169, val := Value.none }, { hash := PyData.keyHash P (Str.ofString "__annotations__"), key := Value.str (Str.ofString "__annotations__") 170, val := Value.ref 6 }, { hash := PyData.keyHash P (Str.ofString "__builtins__"), key := Value.str (Str.ofString "__builtins__") 171, val := Value.ref 4 }, { hash := PyData.keyHash P (Str.ofString "__file__"), key := Value.str (Str.ofString "__file__") 173, val := Value.str (Str.ofString "/claim/cut.py") 172 }, { hash := PyData.keyHash P (Str.ofString "__cached__"), key := Value.str (Str.ofString "__cached__") 174, val := Value.none }, { hash := PyData.keyHash P (Str.ofString "_wall"), key := Value.str (Str.ofString "_wall") 193, val := Value.ref 21 }, { hash := PyData.keyHash P (Str.ofString "FIRST_FEW_BYTES"), key := Value.str (Str.ofString "FIRST_FEW_BYTES") 197, val := Value.int 8000 196 }, { hash := PyData.keyHash P (Str.ofString "is_binary"), key := Value.str (Str.ofString "is_binary") 204, val := Value.ref 28 }, { hash := PyData.keyHash P (Str.ofString "CRLF"), key := Value.str (Str.ofString "CRLF") 206, val := Value.bytes #[13, 10] 205 }, { hash := PyData.keyHash P (Str.ofString "LF"), key := Value.str (Str.ofString "LF") 208, val := Value.bytes #[10] 207 }, { hash := PyData.keyHash P (Str.ofString "CRLFAction"), key := Value.str (Str.ofString "CRLFAction") 244, val := Value.ref 38 }, { hash := PyData.keyHash P (Str.ofString "_AUTO_ACTIONS"), key := Value.str (Str.ofString "_AUTO_ACTIONS") 248, val := Value.ref 43 }, { hash := PyData.keyHash P (Str.ofString "_crlf_action_from_attr"), key := Value.str (Str.ofString "_crlf_action_from_attr") 255, val := Value.ref 50 }, { hash := PyData.keyHash P (Str.ofString "_text_eol_is_crlf"), key := Value.str (Str.ofString "_text_eol_is_crlf") 263, val := Value.ref 57 }, { hash := PyData.keyHash P (Str.ofString "resolve_crlf_action"), key := Value.str (Str.ofString "resolve_crlf_action") 277, val := Value.ref 65 }, { hash := PyData.keyHash P (Str.ofString "line_ending_filter_for_action"), key := Value.str (Str.ofString "line_ending_filter_for_action") 288, val := Value.ref 73 }] 20 }
noncomputable def q81 : Obj := { cls := Value.none, data := Data.fields #[Value.int 1 0, Value.int 0 0, Value.ref 20, Value.int 6 0, Value.int 0 0, Value.ref 27, Value.int 10 0, Value.int 0 0, Value.ref 34, Value.int 20 0, Value.int 0 0, Value.ref 49, Value.int 30 0, Value.int 0 0, Value.ref 56, Value.int 40 0, Value.int 0 0, Value.ref 64, Value.int 68 0, Value.int 0 0, Value.ref 72] }
noncomputable def q112 : Params → Obj := fun P => { cls := Value.type "dict", data := Data.dict #[{ hash := PyData.keyHash P (Str.ofString "__name__"), key := Value.str (Str.ofString "__name__") 165, val := Value.str (Str.ofString "dulwich.line_ending") 194 }, { hash := PyData.keyHash P (Str.ofString "__doc__"), key := Value.str (Str.ofString "__doc__") 166, val := Value.none }, { hash := PyData.keyHash P (Str.ofString "__package__"), key := Value.str (Str.ofString "__package__") 167, val := Value.none }, { hash := PyData.keyHash P (Str.ofString "__loader__"), key := Value.str (Str.ofString "__loader__") 168, val := Value.builtin "__main__.__loader__#opaque" }, { hash := PyData.keyHash P (Str.ofString "__spec__"), key := Value.str (Str.ofString "__spec__") 169, val := Value.none }, { hash := PyData.keyHash P (Str.ofString "__annotations__"), key := Value.str (Str.ofString "__annotations__") 170, val := Value.ref 6 }, { hash := PyData.keyHash P (Str.ofString "__builtins__"), key := Value.str (Str.ofString "__builtins__") 171, val := Value.ref 4 }, { hash := PyData.keyHash P (Str.ofString "__file__"), key := Value.str (Str.ofString "__file__") 173, val := Value.str (Str.ofString "/claim/cut.py") 172 }, { hash := PyData.keyHash P (Str.ofString "__cached__"), key := Value.str (Str.ofString "__cached__") 174, val := Value.none }, { hash := PyData.keyHash P (Str.ofString "_wall"), key := Value.str (Str.ofString "_wall") 193, val := Value.ref 21 }, { hash := PyData.keyHash P (Str.ofString "FIRST_FEW_BYTES"), key := Value.str (Str.ofString "FIRST_FEW_BYTES") 197, val := Value.int 8000 196 }, { hash := PyData.keyHash P (Str.ofString "is_binary"), key := Value.str (Str.ofString "is_binary") 204, val := Value.ref 28 }, { hash := PyData.keyHash P (Str.ofString "CRLF"), key := Value.str (Str.ofString "CRLF") 206, val := Value.bytes #[13, 10] 205 }, { hash := PyData.keyHash P (Str.ofString "LF"), key := Value.str (Str.ofString "LF") 208, val := Value.bytes #[10] 207 }, { hash := PyData.keyHash P (Str.ofString "CRLFAction"), key := Value.str (Str.ofString "CRLFAction") 244, val := Value.ref 38 }, { hash := PyData.keyHash P (Str.ofString "_AUTO_ACTIONS"), key := Value.str (Str.ofString "_AUTO_ACTIONS") 248, val := Value.ref 43 }, { hash := PyData.keyHash P (Str.ofString "_crlf_action_from_attr"), key := Value.str (Str.ofString "_crlf_action_from_attr") 255, val := Value.ref 50 }, { hash := PyData.keyHash P (Str.ofString "_text_eol_is_crlf"), key := Value.str (Str.ofString "_text_eol_is_crlf") 263, val := Value.ref 57 }, { hash := PyData.keyHash P (Str.ofString "resolve_crlf_action"), key := Value.str (Str.ofString "resolve_crlf_action") 277, val := Value.ref 65 }, { hash := PyData.keyHash P (Str.ofString "line_ending_filter_for_action"), key := Value.str (Str.ofString "line_ending_filter_for_action") 288, val := Value.ref 73 }, { hash := PyData.keyHash P (Str.ofString "LineEndingFilter"), key := Value.str (Str.ofString "LineEndingFilter") 357, val := Value.ref 114 }, { hash := PyData.keyHash P (Str.ofString "convert_crlf_to_lf"), key := Value.str (Str.ofString "convert_crlf_to_lf") 364, val := Value.ref 125 }, { hash := PyData.keyHash P (Str.ofString "convert_lf_to_crlf"), key := Value.str (Str.ofString "convert_lf_to_crlf") 375, val := Value.ref 132 }] 23 }
noncomputable def q119 : Obj := { cls := Value.type "code", data := Data.fields #[Value.str (Str.ofString "LineEndingFilter") 291, Value.str (Str.ofString "LineEndingFilter") 292, Value.str (Str.ofString "/claim/cut.py") 293, Value.int 73 0, Value.int 0 0, Value.int 0 0, Value.int 0 0, Value.int 0 0, Value.ref 77, Value.bool Bool.false, Value.int 181 0, Value.ref 78, Value.none, Value.none, Value.none, Value.none, Value.int 294 0, Value.int 73 0, Value.str (Str.ofString "/claim/cut.py") 295] }
noncomputable def q157 : Obj := { cls := Value.type "super", data := Data.fields #[Value.ref 114, Value.ref 114, Value.ref 114] }
noncomputable def q120 : Obj := { cls := Value.type "frame", slots := #[Option.some (Value.ref 79), Option.some (Value.ref 3), Option.some (Value.ref 76), Option.none, Option.some (Value.str (Str.ofString "dulwich.line_ending") 194), Option.none, Option.some (Value.ref 0)] }
noncomputable def q113 : Obj := { cls := Value.none, data := Data.fields #[Value.int 1 0, Value.int 0 0, Value.ref 20, Value.int 6 0, Value.int 0 0, Value.ref 27, Value.int 10 0, Value.int 0 0, Value.ref 34, Value.int 20 0, Value.int 0 0, Value.ref 49, Value.int 30 0, Value.int 0 0, Value.ref 56, Value.int 40 0, Value.int 0 0, Value.ref 64, Value.int 68 0, Value.int 0 0, Value.ref 72, Value.int 73 0, Value.int 0 0, Value.ref 79, Value.int 109 0, Value.int 0 0, Value.ref 124, Value.int 111 0, Value.int 0 0, Value.ref 131] }
noncomputable def q116 : Params → Obj := fun P => { cls := Value.type "dict", data := Data.dict #[{ hash := PyData.keyHash P (Str.ofString "__module__"), key := Value.str (Str.ofString "__module__") 296, val := Value.str (Str.ofString "dulwich.line_ending") 194 }, { hash := PyData.keyHash P (Str.ofString "__qualname__"), key := Value.str (Str.ofString "__qualname__") 298, val := Value.str (Str.ofString "LineEndingFilter") 297 }, { hash := PyData.keyHash P (Str.ofString "__firstlineno__"), key := Value.str (Str.ofString "__firstlineno__") 300, val := Value.int 73 299 }, { hash := PyData.keyHash P (Str.ofString "__init__"), key := Value.str (Str.ofString "__init__") 314, val := Value.ref 88 }, { hash := PyData.keyHash P (Str.ofString "clean"), key := Value.str (Str.ofString "clean") 325, val := Value.ref 96 }, { hash := PyData.keyHash P (Str.ofString "smudge"), key := Value.str (Str.ofString "smudge") 336, val := Value.ref 104 }, { hash := PyData.keyHash P (Str.ofString "cleanup"), key := Value.str (Str.ofString "cleanup") 343, val := Value.ref 111 }, { hash := PyData.keyHash P (Str.ofString "__static_attributes__"), key := Value.str (Str.ofString "__static_attributes__") 350, val := Value.ref 112 }] 8 }
noncomputable def q158 : Obj := { cls := Value.type "builtin_function_or_method", data := Data.fields #[Value.builtin "object.__init_subclass__", Value.ref 114] }
noncomputable def q118 : Obj := { cls := Value.none, data := Data.fields #[Value.int 75 0, Value.int 4 0, Value.ref 87, Value.int 83 0, Value.int 4 0, Value.ref 95, Value.int 95 0, Value.int 4 0, Value.ref 103, Value.int 107 0, Value.int 4 0, Value.ref 110] }
noncomputable def q173 : Params → Obj := fun P => { cls := Value.type "dict", data := Data.dict #[{ hash := PyData.keyHash P (Str.ofString "__name__"), key := Value.str (Str.ofString "__name__") 165, val := Value.str (Str.ofString "law_ji0034_01") 419 }, { hash := PyData.keyHash P (Str.ofString "__doc__"), key := Value.str (Str.ofString "__doc__") 166, val := Value.none }, { hash := PyData.keyHash P (Str.ofString "__package__"), key := Value.str (Str.ofString "__package__") 167, val := Value.none }, { hash := PyData.keyHash P (Str.ofString "__loader__"), key := Value.str (Str.ofString "__loader__") 168, val := Value.builtin "__main__.__loader__#opaque" }, { hash := PyData.keyHash P (Str.ofString "__spec__"), key := Value.str (Str.ofString "__spec__") 169, val := Value.none }, { hash := PyData.keyHash P (Str.ofString "__annotations__"), key := Value.str (Str.ofString "__annotations__") 170, val := Value.ref 6 }, { hash := PyData.keyHash P (Str.ofString "__builtins__"), key := Value.str (Str.ofString "__builtins__") 171, val := Value.ref 4 }, { hash := PyData.keyHash P (Str.ofString "__file__"), key := Value.str (Str.ofString "__file__") 173, val := Value.str (Str.ofString "/claim/cut.py") 172 }, { hash := PyData.keyHash P (Str.ofString "__cached__"), key := Value.str (Str.ofString "__cached__") 174, val := Value.none }, { hash := PyData.keyHash P (Str.ofString "_wall"), key := Value.str (Str.ofString "_wall") 193, val := Value.ref 21 }, { hash := PyData.keyHash P (Str.ofString "FIRST_FEW_BYTES"), key := Value.str (Str.ofString "FIRST_FEW_BYTES") 197, val := Value.int 8000 196 }, { hash := PyData.keyHash P (Str.ofString "is_binary"), key := Value.str (Str.ofString "is_binary") 204, val := Value.ref 28 }, { hash := PyData.keyHash P (Str.ofString "CRLF"), key := Value.str (Str.ofString "CRLF") 206, val := Value.bytes #[13, 10] 205 }, { hash := PyData.keyHash P (Str.ofString "LF"), key := Value.str (Str.ofString "LF") 208, val := Value.bytes #[10] 207 }, { hash := PyData.keyHash P (Str.ofString "CRLFAction"), key := Value.str (Str.ofString "CRLFAction") 244, val := Value.ref 38 }, { hash := PyData.keyHash P (Str.ofString "_AUTO_ACTIONS"), key := Value.str (Str.ofString "_AUTO_ACTIONS") 248, val := Value.ref 43 }, { hash := PyData.keyHash P (Str.ofString "_crlf_action_from_attr"), key := Value.str (Str.ofString "_crlf_action_from_attr") 255, val := Value.ref 50 }, { hash := PyData.keyHash P (Str.ofString "_text_eol_is_crlf"), key := Value.str (Str.ofString "_text_eol_is_crlf") 263, val := Value.ref 57 }, { hash := PyData.keyHash P (Str.ofString "resolve_crlf_action"), key := Value.str (Str.ofString "resolve_crlf_action") 277, val := Value.ref 65 }, { hash := PyData.keyHash P (Str.ofString "line_ending_filter_for_action"), key := Value.str (Str.ofString "line_ending_filter_for_action") 288, val := Value.ref 73 }, { hash := PyData.keyHash P (Str.ofString "LineEndingFilter"), key := Value.str (Str.ofString "LineEndingFilter") 357, val := Value.ref 114 }, { hash := PyData.keyHash P (Str.ofString "convert_crlf_to_lf"), key := Value.str (Str.ofString "convert_crlf_to_lf") 364, val := Value.ref 125 }, { hash := PyData.keyHash P (Str.ofString "convert_lf_to_crlf"), key := Value.str (Str.ofString "convert_lf_to_crlf") 375, val := Value.ref 132 }, { hash := PyData.keyHash P (Str.ofString "check_safecrlf"), key := Value.str (Str.ofString "check_safecrlf") 388, val := Value.ref 140 }, { hash := PyData.keyHash P (Str.ofString "get_smudge_filter"), key := Value.str (Str.ofString "get_smudge_filter") 396, val := Value.ref 147 }, { hash := PyData.keyHash P (Str.ofString "get_clean_filter"), key := Value.str (Str.ofString "get_clean_filter") 404, val := Value.ref 154 }, { hash := PyData.keyHash P (Str.ofString "get_smudge_filter_autocrlf"), key := Value.str (Str.ofString "get_smudge_filter_autocrlf") 411, val := Value.ref 161 }, { hash := PyData.keyHash P (Str.ofString "get_clean_filter_autocrlf"), key := Value.str (Str.ofString "get_clean_filter_autocrlf") 418, val := Value.ref 168 }, { hash := PyData.keyHash P (Str.ofString "_law_words"), key := Value.str (Str.ofString "_law_words") 426, val := Value.ref 175 }, { hash := PyData.keyHash P (Str.ofString "_law_values"), key := Value.str (Str.ofString "_law_values") 432, val := Value.ref 182 }, { hash := PyData.keyHash P (Str.ofString "_law_ends"), key := Value.str (Str.ofString "_law_ends") 438, val := Value.ref 189 }, { hash := PyData.keyHash P (Str.ofString "_law_autos"), key := Value.str (Str.ofString "_law_autos") 444, val := Value.ref 196 }, { hash := PyData.keyHash P (Str.ofString "_law_cores"), key := Value.str (Str.ofString "_law_cores") 450, val := Value.ref 203 }, { hash := PyData.keyHash P (Str.ofString "_law_safes"), key := Value.str (Str.ofString "_law_safes") 456, val := Value.ref 210 }, { hash := PyData.keyHash P (Str.ofString "_law_letters"), key := Value.str (Str.ofString "_law_letters") 462, val := Value.ref 217 }, { hash := PyData.keyHash P (Str.ofString "_law_cr"), key := Value.str (Str.ofString "_law_cr") 464, val := Value.bytes #[13] 463 }, { hash := PyData.keyHash P (Str.ofString "_law_lf"), key := Value.str (Str.ofString "_law_lf") 466, val := Value.bytes #[10] 465 }] 37 }
noncomputable def q174 : Obj := { cls := Value.none, data := Data.fields #[Value.int 1 0, Value.int 0 0, Value.ref 20, Value.int 6 0, Value.int 0 0, Value.ref 27, Value.int 10 0, Value.int 0 0, Value.ref 34, Value.int 20 0, Value.int 0 0, Value.ref 49, Value.int 30 0, Value.int 0 0, Value.ref 56, Value.int 40 0, Value.int 0 0, Value.ref 64, Value.int 68 0, Value.int 0 0, Value.ref 72, Value.int 73 0, Value.int 0 0, Value.ref 79, Value.int 109 0, Value.int 0 0, Value.ref 124, Value.int 111 0, Value.int 0 0, Value.ref 131, Value.int 120 0, Value.int 0 0, Value.ref 139, Value.int 136 0, Value.int 0 0, Value.ref 146, Value.int 138 0, Value.int 0 0, Value.ref 153, Value.int 140 0, Value.int 0 0, Value.ref 160, Value.int 144 0, Value.int 0 0, Value.ref 167, Value.int 149 0, Value.int 0 0, Value.ref 174, Value.int 151 0, Value.int 0 0, Value.ref 181, Value.int 153 0, Value.int 0 0, Value.ref 188, Value.int 155 0, Value.int 0 0, Value.ref 195, Value.int 157 0, Value.int 0 0, Value.ref 202, Value.int 159 0, Value.int 0 0, Value.ref 209, Value.int 161 0, Value.int 0 0, Value.ref 216] }
noncomputable def q261 : Obj := { cls := Value.none, data := Data.fields #[Value.int 1 0, Value.int 0 0, Value.ref 20, Value.int 6 0, Value.int 0 0, Value.ref 27, Value.int 10 0, Value.int 0 0, Value.ref 34, Value.int 20 0, Value.int 0 0, Value.ref 49, Value.int 30 0, Value.int 0 0, Value.ref 56, Value.int 40 0, Value.int 0 0, Value.ref 64, Value.int 68 0, Value.int 0 0, Value.ref 72, Value.int 73 0, Value.int 0 0, Value.ref 79, Value.int 109 0, Value.int 0 0, Value.ref 124, Value.int 111 0, Value.int 0 0, Value.ref 131, Value.int 120 0, Value.int 0 0, Value.ref 139, Value.int 136 0, Value.int 0 0, Value.ref 146, Value.int 138 0, Value.int 0 0, Value.ref 153, Value.int 140 0, Value.int 0 0, Value.ref 160, Value.int 144 0, Value.int 0 0, Value.ref 167, Value.int 149 0, Value.int 0 0, Value.ref 174, Value.int 151 0, Value.int 0 0, Value.ref 181, Value.int 153 0, Value.int 0 0, Value.ref 188, Value.int 155 0, Value.int 0 0, Value.ref 195, Value.int 157 0, Value.int 0 0, Value.ref 202, Value.int 159 0, Value.int 0 0, Value.ref 209, Value.int 161 0, Value.int 0 0, Value.ref 216, Value.int 165 0, Value.int 0 0, Value.ref 223, Value.int 174 0, Value.int 0 0, Value.ref 228, Value.int 186 0, Value.int 0 0, Value.ref 235, Value.int 192 0, Value.int 0 0, Value.ref 242, Value.int 205 0, Value.int 0 0, Value.ref 249, Value.int 212 0, Value.int 0 0, Value.ref 254, Value.int 214 0, Value.int 0 0, Value.ref 261, Value.int 221 0, Value.int 0 0, Value.ref 268, Value.int 226 0, Value.int 0 0, Value.ref 275, Value.int 238 0, Value.int 0 0, Value.ref 280] }
noncomputable def tr47 : Params → BT := fun P => BT.node (boot_o_0 P) (BT.node (boot_o_1 P) (BT.node (boot_o_3 P) (BT.node (boot_o_7 P) BT.nil BT.nil) (BT.node (q43) BT.nil BT.nil)) (BT.node (boot_o_5 P) (BT.node (boot_o_9 P) BT.nil BT.nil) (BT.node (q45) BT.nil BT.nil))) (BT.node (boot_o_2 P) (BT.node (boot_o_4 P) (BT.node (boot_o_8 P) BT.nil BT.nil) (BT.node (q44) BT.nil BT.nil)) (BT.node (boot_o_6 P) (BT.node (boot_o_10 P) BT.nil BT.nil) (BT.node (q46) BT.nil BT.nil)))
noncomputable def tr79 : Params → BT := fun P => BT.node (boot_o_0 P) (BT.node (boot_o_1 P) (BT.node (q49 P) (BT.node (boot_o_7 P) (BT.node (kO 2 P) (BT.node (q67 P) BT.nil BT.nil) BT.nil) (BT.node (q44) (BT.node (kO 15 P) BT.nil BT.nil) BT.nil)) (BT.node (q43) (BT.node (rawO (recS (dSt 0)) (Str.ofString "_wall")) (BT.node (q71) BT.nil BT.nil) BT.nil) (BT.node (kO 10 P) (BT.node (kO 17 P) BT.nil BT.nil) BT.nil))) (BT.node (boot_o_5 P) (BT.node (boot_o_9 P) (BT.node (kO 3 P) (BT.node (q44) BT.nil BT.nil) BT.nil) (BT.node (kO 9 P) (BT.node (q77) BT.nil BT.nil) BT.nil)) (BT.node (q45) (BT.node (kO 6 P) (BT.node (kO 13 P) BT.nil BT.nil) BT.nil) (BT.node (q43) BT.nil BT.nil)))) (BT.node (boot_o_2 P) (BT.node (boot_o_4 P) (BT.node (boot_o_8 P) (BT.node (q44) (BT.node (q43) BT.nil BT.nil) BT.nil) (BT.node (kO 8 P) (BT.node (kO 16 P) BT.nil BT.nil) BT.nil)) (BT.node (q50) (BT.node (kO 5 P) (BT.node (kO 12 P) BT.nil BT.nil) BT.nil) (BT.node (kO 11 P) BT.nil BT.nil))) (BT.node (boot_o_6 P) (BT.node (boot_o_10 P) (BT.node (kO 4 P) (BT.node (q70) BT.nil BT.nil) BT.nil) (BT.node (rawO (recS (dSt 3)) (Str.ofString "is_binary")) (BT.node (q78) BT.nil BT.nil) BT.nil)) (BT.node (q46) (BT.node (kO 7 P) (BT.node (kO 14 P) BT.nil BT.nil) BT.nil) (BT.node (q66) BT.nil BT.nil))))
noncomputable def tr111 : Params → BT := fun P => BT.node (boot_o_0 P) (BT.node (boot_o_1 P) (BT.node (q80 P) (BT.node (boot_o_7 P) (BT.node (kO 2 P) (BT.node (q67 P) (BT.node (rawO (recS (dSt 10)) (Str.ofString "resolve_crlf_action")) BT.nil BT.nil) BT.nil) (BT.node (kO 20 P) BT.nil BT.nil)) (BT.node (q44) (BT.node (kO 15 P) (BT.node (rawO (recS (dSt 11)) (Str.ofString "line_ending_filter_for_action")) BT.nil BT.nil) BT.nil) (BT.node (rawO (recS (dSt 9)) (Str.ofString "_text_eol_is_crlf")) BT.nil BT.nil))) (BT.node (q43) (BT.node (rawO (recS (dSt 0)) (Str.ofString "_wall")) (BT.node (q71) (BT.node (kO 35 P) BT.nil BT.nil) BT.nil) (BT.node (kO 23 P) BT.nil BT.nil)) (BT.node (kO 10 P) (BT.node (kO 17 P) BT.nil BT.nil) (BT.node (kO 29 P) BT.nil BT.nil)))) (BT.node (boot_o_5 P) (BT.node (boot_o_9 P) (BT.node (kO 3 P) (BT.node (q44) (BT.node (kO 33 P) BT.nil BT.nil) BT.nil) (BT.node (kO 21 P) BT.nil BT.nil)) (BT.node (kO 9 P) (BT.node (q77) (BT.node (kO 39 P) BT.nil BT.nil) BT.nil) (BT.node (kO 27 P) BT.nil BT.nil))) (BT.node (q45) (BT.node (kO 6 P) (BT.node (kO 13 P) (BT.node (kO 36 P) BT.nil BT.nil) BT.nil) (BT.node (kO 24 P) BT.nil BT.nil)) (BT.node (q43) (BT.node (q44) BT.nil BT.nil) (BT.node (kO 30 P) BT.nil BT.nil))))) (BT.node (boot_o_2 P) (BT.node (boot_o_4 P) (BT.node (boot_o_8 P) (BT.node (q44) (BT.node (q43) (BT.node (kO 32 P) BT.nil BT.nil) BT.nil) (BT.node (rawO (recS (dSt 8)) (Str.ofString "_crlf_action_from_attr")) BT.nil BT.nil)) (BT.node (kO 8 P) (BT.node (kO 16 P) (BT.node (kO 38 P) BT.nil BT.nil) BT.nil) (BT.node (kO 26 P) BT.nil BT.nil))) (BT.node (q81) (BT.node (kO 5 P) (BT.node (kO 12 P) (BT.node (q44) BT.nil BT.nil) BT.nil) (BT.node (q44) BT.nil BT.nil)) (BT.node (kO 11 P) (BT.node (kO 18 P) BT.nil BT.nil) (BT.node (q44) BT.nil BT.nil)))) (BT.node (boot_o_6 P) (BT.node (boot_o_10 P) (BT.node (kO 4 P) (BT.node (q70) (BT.node (kO 34 P) BT.nil BT.nil) BT.nil) (BT.node (kO 22 P) BT.nil BT.nil)) (BT.node (rawO (recS (dSt 3)) (Str.ofString "is_binary")) (BT.node (q78) BT.nil BT.nil) (BT.node (kO 28 P) BT.nil BT.nil))) (BT.node (q46) (BT.node (kO 7 P) (BT.node (kO 14 P) (BT.node (kO 37 P) BT.nil BT.nil) BT.nil) (BT.node (kO 25 P) BT.nil BT.nil)) (BT.node (q66) (BT.node (kO 19 P) BT.nil BT.nil) (BT.node (kO 31 P) BT.nil BT.nil)))))
noncomputable def tr172 : Params → BT := fun P => BT.node (boot_o_0 P) (BT.node (boot_o_1 P) (BT.node (q112 P) (BT.node (boot_o_7 P) (BT.node (kO 2 P) (BT.node (q67 P) (BT.node (rawO (recS (dSt 10)) (Str.ofString "resolve_crlf_action")) (BT.node (q44) BT.nil BT.nil) BT.nil) (BT.node (kO 50 P) BT.nil BT.nil)) (BT.node (kO 20 P) (BT.node (q119) BT.nil BT.nil) (BT.node (kO 62 P) BT.nil BT.nil))) (BT.node (q44) (BT.node (kO 15 P) (BT.node (rawO (recS (dSt 11)) (Str.ofString "line_ending_filter_for_action")) BT.nil BT.nil) (BT.node (kO 56 P) BT.nil BT.nil)) (BT.node (rawO (recS (dSt 9)) (Str.ofString "_text_eol_is_crlf")) (BT.node (kO 44 P) BT.nil BT.nil) (BT.node (kO 68 P) BT.nil BT.nil)))) (BT.node (q43) (BT.node (rawO (recS (dSt 0)) (Str.ofString "_wall")) (BT.node (q71) (BT.node (kO 35 P) (BT.node (kO 76 P) BT.nil BT.nil) BT.nil) (BT.node (q44) BT.nil BT.nil)) (BT.node (kO 23 P) (BT.node (q44) BT.nil BT.nil) (BT.node (kO 66 P) BT.nil BT.nil))) (BT.node (kO 10 P) (BT.node (kO 17 P) (BT.node (q66) BT.nil BT.nil) (BT.node (kO 59 P) BT.nil BT.nil)) (BT.node (kO 29 P) (BT.node (q44) BT.nil BT.nil) (BT.node (rawO (recS (dSt 13)) (Str.ofString "convert_crlf_to_lf")) BT.nil BT.nil))))) (BT.node (boot_o_5 P) (BT.node (boot_o_9 P) (BT.node (kO 3 P) (BT.node (q44) (BT.node (kO 33 P) (BT.node (kO 75 P) BT.nil BT.nil) BT.nil) (BT.node (kO 52 P) BT.nil BT.nil)) (BT.node (kO 21 P) (BT.node (kO 40 P) BT.nil BT.nil) (BT.node (kO 64 P) BT.nil BT.nil))) (BT.node (kO 9 P) (BT.node (q77) (BT.node (kO 39 P) BT.nil BT.nil) (BT.node (kO 58 P) BT.nil BT.nil)) (BT.node (kO 27 P) (BT.node (kO 46 P) BT.nil BT.nil) (BT.node (kO 69 P) BT.nil BT.nil)))) (BT.node (q45) (BT.node (kO 6 P) (BT.node (kO 13 P) (BT.node (kO 36 P) BT.nil BT.nil) (BT.node (kO 55 P) BT.nil BT.nil)) (BT.node (kO 24 P) (BT.node (kO 43 P) BT.nil BT.nil) (BT.node (q157) BT.nil BT.nil))) (BT.node (q43) (BT.node (q44) (BT.node (q43) BT.nil BT.nil) (BT.node (rawO (recS (mSt 12 3)) (Str.ofString "LineEndingFilter.cleanup")) BT.nil BT.nil)) (BT.node (kO 30 P) (BT.node (kO 49 P) BT.nil BT.nil) (BT.node (kO 72 P) BT.nil BT.nil)))))) (BT.node (boot_o_2 P) (BT.node (boot_o_4 P) (BT.node (boot_o_8 P) (BT.node (q44) (BT.node (q43) (BT.node (kO 32 P) (BT.node (kO 74 P) BT.nil BT.nil) BT.nil) (BT.node (kO 51 P) BT.nil BT.nil)) (BT.node (rawO (recS (dSt 8)) (Str.ofString "_crlf_action_from_attr")) (BT.node (q120) BT.nil BT.nil) (BT.node (kO 63 P) BT.nil BT.nil))) (BT.node (kO 8 P) (BT.node (kO 16 P) (BT.node (kO 38 P) BT.nil BT.nil) (BT.node (kO 57 P) BT.nil BT.nil)) (BT.node (kO 26 P) (BT.node (kO 45 P) BT.nil BT.nil) (BT.node (q44) BT.nil BT.nil)))) (BT.node (q113) (BT.node (kO 5 P) (BT.node (kO 12 P) (BT.node (q44) (BT.node (kO 77 P) BT.nil BT.nil) BT.nil) (BT.node (kO 54 P) BT.nil BT.nil)) (BT.node (q44) (BT.node (kO 42 P) BT.nil BT.nil) (BT.node (kO 67 P) BT.nil BT.nil))) (BT.node (kO 11 P) (BT.node (kO 18 P) (BT.node (q116 P) BT.nil BT.nil) (BT.node (kO 60 P) BT.nil BT.nil)) (BT.node (q44) (BT.node (kO 48 P) BT.nil BT.nil) (BT.node (kO 71 P) BT.nil BT.nil))))) (BT.node (boot_o_6 P) (BT.node (boot_o_10 P) (BT.node (kO 4 P) (BT.node (q70) (BT.node (kO 34 P) (BT.node (rawO (recS (dSt 14)) (Str.ofString "convert_lf_to_crlf")) BT.nil BT.nil) BT.nil) (BT.node (kO 53 P) BT.nil BT.nil)) (BT.node (kO 22 P) (BT.node (kO 41 P) BT.nil BT.nil) (BT.node (kO 65 P) BT.nil BT.nil))) (BT.node (rawO (recS (dSt 3)) (Str.ofString "is_binary")) (BT.node (q78) (BT.node (q43) BT.nil BT.nil) (BT.node (q44) BT.nil BT.nil)) (BT.node (kO 28 P) (BT.node (kO 47 P) BT.nil BT.nil) (BT.node (kO 70 P) BT.nil BT.nil)))) (BT.node (q46) (BT.node (kO 7 P) (BT.node (kO 14 P) (BT.node (kO 37 P) BT.nil BT.nil) (BT.node (rawO (recS (mSt 12 2)) (Str.ofString "LineEndingFilter.smudge")) BT.nil BT.nil)) (BT.node (kO 25 P) (BT.node (rawO (recS (mSt 12 0)) (Str.ofString "LineEndingFilter.__init__")) BT.nil BT.nil) (BT.node (q158) BT.nil BT.nil))) (BT.node (q66) (BT.node (kO 19 P) (BT.node (q118) BT.nil BT.nil) (BT.node (kO 61 P) BT.nil BT.nil)) (BT.node (kO 31 P) (BT.node (rawO (recS (mSt 12 1)) (Str.ofString "LineEndingFilter.clean")) BT.nil BT.nil) (BT.node (kO 73 P) BT.nil BT.nil))))))
noncomputable def tr259 : Params → BT := fun P => BT.node (boot_o_0 P) (BT.node (boot_o_1 P) (BT.node (q173 P) (BT.node (boot_o_7 P) (BT.node (kO 2 P) (BT.node (q67 P) (BT.node (rawO (recS (dSt 10)) (Str.ofString "resolve_crlf_action")) (BT.node (q44) BT.nil BT.nil) (BT.node (q44) BT.nil BT.nil)) (BT.node (kO 50 P) (BT.node (rawO (recS (dSt 18)) (Str.ofString "get_smudge_filter_autocrlf")) BT.nil BT.nil) BT.nil)) (BT.node (kO 20 P) (BT.node (q119) (BT.node (kO 85 P) BT.nil BT.nil) (BT.node (kO 131 P) BT.nil BT.nil)) (BT.node (kO 62 P) (BT.node (kO 108 P) BT.nil BT.nil) BT.nil))) (BT.node (q44) (BT.node (kO 15 P) (BT.node (rawO (recS (dSt 11)) (Str.ofString "line_ending_filter_for_action")) (BT.node (q44) BT.nil BT.nil) (BT.node (kO 125 P) BT.nil BT.nil)) (BT.node (kO 56 P) (BT.node (kO 102 P) BT.nil BT.nil) BT.nil)) (BT.node (rawO (recS (dSt 9)) (Str.ofString "_text_eol_is_crlf")) (BT.node (kO 44 P) (BT.node (kO 91 P) BT.nil BT.nil) (BT.node (rawO (recS (dSt 27)) (Str.ofString "_law_letters")) BT.nil BT.nil)) (BT.node (kO 68 P) (BT.node (kO 114 P) BT.nil BT.nil) BT.nil)))) (BT.node (q43) (BT.node (rawO (recS (dSt 0)) (Str.ofString "_wall")) (BT.node (q71) (BT.node (kO 35 P) (BT.node (kO 76 P) BT.nil BT.nil) (BT.node (kO 122 P) BT.nil BT.nil)) (BT.node (q44) (BT.node (q44) BT.nil BT.nil) BT.nil)) (BT.node (kO 23 P) (BT.node (q44) (BT.node (kO 88 P) BT.nil BT.nil) (BT.node (kO 134 P) BT.nil BT.nil)) (BT.node (kO 66 P) (BT.node (kO 111 P) BT.nil BT.nil) BT.nil))) (BT.node (kO 10 P) (BT.node (kO 17 P) (BT.node (q66) (BT.node (kO 82 P) BT.nil BT.nil) (BT.node (kO 128 P) BT.nil BT.nil)) (BT.node (kO 59 P) (BT.node (kO 105 P) BT.nil BT.nil) BT.nil)) (BT.node (kO 29 P) (BT.node (q44) (BT.node (kO 94 P) BT.nil BT.nil) BT.nil) (BT.node (rawO (recS (dSt 13)) (Str.ofString "convert_crlf_to_lf")) (BT.node (rawO (recS (dSt 23)) (Str.ofString "_law_ends")) BT.nil BT.nil) BT.nil))))) (BT.node (boot_o_5 P) (BT.node (boot_o_9 P) (BT.node (kO 3 P) (BT.node (q44) (BT.node (kO 33 P) (BT.node (kO 75 P) BT.nil BT.nil) (BT.node (kO 121 P) BT.nil BT.nil)) (BT.node (kO 52 P) (BT.node (kO 98 P) BT.nil BT.nil) BT.nil)) (BT.node (kO 21 P) (BT.node (kO 40 P) (BT.node (rawO (recS (dSt 16)) (Str.ofString "get_smudge_filter")) BT.nil BT.nil) (BT.node (kO 132 P) BT.nil BT.nil)) (BT.node (kO 64 P) (BT.node (q44) BT.nil BT.nil) BT.nil))) (BT.node (kO 9 P) (BT.node (q77) (BT.node (kO 39 P) (BT.node (kO 81 P) BT.nil BT.nil) (BT.node (rawO (recS (dSt 25)) (Str.ofString "_law_cores")) BT.nil BT.nil)) (BT.node (kO 58 P) (BT.node (kO 104 P) BT.nil BT.nil) BT.nil)) (BT.node (kO 27 P) (BT.node (kO 46 P) (BT.node (kO 92 P) BT.nil BT.nil) (BT.node (kO 138 P) BT.nil BT.nil)) (BT.node (kO 69 P) (BT.node (kO 115 P) BT.nil BT.nil) BT.nil)))) (BT.node (q45) (BT.node (kO 6 P) (BT.node (kO 13 P) (BT.node (kO 36 P) (BT.node (kO 78 P) BT.nil BT.nil) (BT.node (kO 124 P) BT.nil BT.nil)) (BT.node (kO 55 P) (BT.node (kO 101 P) BT.nil BT.nil) BT.nil)) (BT.node (kO 24 P) (BT.node (kO 43 P) (BT.node (q44) BT.nil BT.nil) (BT.node (kO 135 P) BT.nil BT.nil)) (BT.node (q157) (BT.node (kO 112 P) BT.nil BT.nil) BT.nil))) (BT.node (q43) (BT.node (q44) (BT.node (q43) (BT.node (kO 84 P) BT.nil BT.nil) (BT.node (q44) BT.nil BT.nil)) (BT.node (rawO (recS (mSt 12 3)) (Str.ofString "LineEndingFilter.cleanup")) (BT.node (rawO (recS (dSt 21)) (Str.ofString "_law_words")) BT.nil BT.nil) BT.nil)) (BT.node (kO 30 P) (BT.node (kO 49 P) (BT.node (kO 95 P) BT.nil BT.nil) BT.nil) (BT.node (kO 72 P) (BT.node (kO 118 P) BT.nil BT.nil) BT.nil)))))) (BT.node (boot_o_2 P) (BT.node (boot_o_4 P) (BT.node (boot_o_8 P) (BT.node (q44) (BT.node (q43) (BT.node (kO 32 P) (BT.node (kO 74 P) BT.nil BT.nil) (BT.node (kO 120 P) BT.nil BT.nil)) (BT.node (kO 51 P) (BT.node (kO 97 P) BT.nil BT.nil) BT.nil)) (BT.node (rawO (recS (dSt 8)) (Str.ofString "_crlf_action_from_attr")) (BT.node (q120) (BT.node (kO 86 P) BT.nil BT.nil) (BT.node (rawO (recS (dSt 26)) (Str.ofString "_law_safes")) BT.nil BT.nil)) (BT.node (kO 63 P) (BT.node (kO 109 P) BT.nil BT.nil) BT.nil))) (BT.node (kO 8 P) (BT.node (kO 16 P) (BT.node (kO 38 P) (BT.node (kO 80 P) BT.nil BT.nil) (BT.node (kO 126 P) BT.nil BT.nil)) (BT.node (kO 57 P) (BT.node (kO 103 P) BT.nil BT.nil) BT.nil)) (BT.node (kO 26 P) (BT.node (kO 45 P) (BT.node (rawO (recS (dSt 17)) (Str.ofString "get_clean_filter")) BT.nil BT.nil) (BT.node (kO 137 P) BT.nil BT.nil)) (BT.node (q44) (BT.node (q44) BT.nil BT.nil) BT.nil)))) (BT.node (q174) (BT.node (kO 5 P) (BT.node (kO 12 P) (BT.node (q44) (BT.node (kO 77 P) BT.nil BT.nil) (BT.node (kO 123 P) BT.nil BT.nil)) (BT.node (kO 54 P) (BT.node (kO 100 P) BT.nil BT.nil) BT.nil)) (BT.node (q44) (BT.node (kO 42 P) (BT.node (kO 89 P) BT.nil BT.nil) (BT.node (q44) BT.nil BT.nil)) (BT.node (kO 67 P) (BT.node (rawO (recS (dSt 22)) (Str.ofString "_law_values")) BT.nil BT.nil) BT.nil))) (BT.node (kO 11 P) (BT.node (kO 18 P) (BT.node (q116 P) (BT.node (kO 83 P) BT.nil BT.nil) (BT.node (kO 129 P) BT.nil BT.nil)) (BT.node (kO 60 P) (BT.node (kO 106 P) BT.nil BT.nil) BT.nil)) (BT.node (q44) (BT.node (kO 48 P) (BT.node (q44) BT.nil BT.nil) BT.nil) (BT.node (kO 71 P) (BT.node (kO 117 P) BT.nil BT.nil) BT.nil))))) (BT.node (boot_o_6 P) (BT.node (boot_o_10 P) (BT.node (kO 4 P) (BT.node (q70) (BT.node (kO 34 P) (BT.node (rawO (recS (dSt 14)) (Str.ofString "convert_lf_to_crlf")) BT.nil BT.nil) (BT.node (rawO (recS (dSt 24)) (Str.ofString "_law_autos")) BT.nil BT.nil)) (BT.node (kO 53 P) (BT.node (kO 99 P) BT.nil BT.nil) BT.nil)) (BT.node (kO 22 P) (BT.node (kO 41 P) (BT.node (kO 87 P) BT.nil BT.nil) (BT.node (kO 133 P) BT.nil BT.nil)) (BT.node (kO 65 P) (BT.node (kO 110 P) BT.nil BT.nil) BT.nil))) (BT.node (rawO (recS (dSt 3)) (Str.ofString "is_binary")) (BT.node (q78) (BT.node (q43) (BT.node (rawO (recS (dSt 15)) (Str.ofString "check_safecrlf")) BT.nil BT.nil) (BT.node (kO 127 P) BT.nil BT.nil)) (BT.node (q44) (BT.node (q44) BT.nil BT.nil) BT.nil)) (BT.node (kO 28 P) (BT.node (kO 47 P) (BT.node (kO 93 P) BT.nil BT.nil) BT.nil) (BT.node (kO 70 P) (BT.node (kO 116 P) BT.nil BT.nil) BT.nil)))) (BT.node (q46) (BT.node (kO 7 P) (BT.node (kO 14 P) (BT.node (kO 37 P) (BT.node (kO 79 P) BT.nil BT.nil) (BT.node (q44) BT.nil BT.nil)) (BT.node (rawO (recS (mSt 12 2)) (Str.ofString "LineEndingFilter.smudge")) (BT.node (rawO (recS (dSt 19)) (Str.ofString "get_clean_filter_autocrlf")) BT.nil BT.nil) BT.nil)) (BT.node (kO 25 P) (BT.node (rawO (recS (mSt 12 0)) (Str.ofString "LineEndingFilter.__init__")) (BT.node (kO 90 P) BT.nil BT.nil) (BT.node (kO 136 P) BT.nil BT.nil)) (BT.node (q158) (BT.node (kO 113 P) BT.nil BT.nil) BT.nil))) (BT.node (q66) (BT.node (kO 19 P) (BT.node (q118) (BT.node (q44) BT.nil BT.nil) (BT.node (kO 130 P) BT.nil BT.nil)) (BT.node (kO 61 P) (BT.node (kO 107 P) BT.nil BT.nil) BT.nil)) (BT.node (kO 31 P) (BT.node (rawO (recS (mSt 12 1)) (Str.ofString "LineEndingFilter.clean")) (BT.node (kO 96 P) BT.nil BT.nil) BT.nil) (BT.node (kO 73 P) (BT.node (kO 119 P) BT.nil BT.nil) BT.nil))))))
noncomputable def tr325 : Params → BT := fun P => BT.node (boot_o_0 P) (BT.node (boot_o_1 P) (BT.node (kO 1 P) (BT.node (boot_o_7 P) (BT.node (kO 2 P) (BT.node (q67 P) (BT.node (rawO (recS (dSt 10)) (Str.ofString "resolve_crlf_action")) (BT.node (q44) (BT.node (kO 164 P) BT.nil BT.nil) BT.nil) (BT.node (q44) BT.nil BT.nil)) (BT.node (kO 50 P) (BT.node (rawO (recS (dSt 18)) (Str.ofString "get_smudge_filter_autocrlf")) BT.nil BT.nil) (BT.node (kO 142 P) BT.nil BT.nil))) (BT.node (kO 20 P) (BT.node (q119) (BT.node (kO 85 P) (BT.node (q44) BT.nil BT.nil) BT.nil) (BT.node (kO 131 P) BT.nil BT.nil)) (BT.node (kO 62 P) (BT.node (kO 108 P) BT.nil BT.nil) (BT.node (kO 153 P) BT.nil BT.nil)))) (BT.node (q44) (BT.node (kO 15 P) (BT.node (rawO (recS (dSt 11)) (Str.ofString "line_ending_filter_for_action")) (BT.node (q44) (BT.node (kO 170 P) BT.nil BT.nil) BT.nil) (BT.node (kO 125 P) BT.nil BT.nil)) (BT.node (kO 56 P) (BT.node (kO 102 P) BT.nil BT.nil) (BT.node (q44) BT.nil BT.nil))) (BT.node (rawO (recS (dSt 9)) (Str.ofString "_text_eol_is_crlf")) (BT.node (kO 44 P) (BT.node (kO 91 P) (BT.node (rawO (recS (dSt 39)) (Str.ofString "law")) BT.nil BT.nil) BT.nil) (BT.node (rawO (recS (dSt 27)) (Str.ofString "_law_letters")) BT.nil BT.nil)) (BT.node (kO 68 P) (BT.node (kO 114 P) BT.nil BT.nil) (BT.node (kO 159 P) BT.nil BT.nil))))) (BT.node (q43) (BT.node (rawO (recS (dSt 0)) (Str.ofString "_wall")) (BT.node (q71) (BT.node (kO 35 P) (BT.node (kO 76 P) (BT.node (kO 167 P) BT.nil BT.nil) BT.nil) (BT.node (kO 122 P) BT.nil BT.nil)) (BT.node (q44) (BT.node (q44) BT.nil BT.nil) (BT.node (rawO (recS (dSt 31)) (Str.ofString "_law_rule")) BT.nil BT.nil))) (BT.node (kO 23 P) (BT.node (q44) (BT.node (kO 88 P) (BT.node (kO 178 P) BT.nil BT.nil) BT.nil) (BT.node (kO 134 P) BT.nil BT.nil)) (BT.node (kO 66 P) (BT.node (kO 111 P) BT.nil BT.nil) (BT.node (kO 156 P) BT.nil BT.nil)))) (BT.node (kO 10 P) (BT.node (kO 17 P) (BT.node (q66) (BT.node (kO 82 P) (BT.node (rawO (recS (dSt 37)) (Str.ofString "_law_cleaned")) BT.nil BT.nil) BT.nil) (BT.node (kO 128 P) BT.nil BT.nil)) (BT.node (kO 59 P) (BT.node (kO 105 P) BT.nil BT.nil) (BT.node (kO 150 P) BT.nil BT.nil))) (BT.node (kO 29 P) (BT.node (q44) (BT.node (kO 94 P) BT.nil BT.nil) (BT.node (q44) BT.nil BT.nil)) (BT.node (rawO (recS (dSt 13)) (Str.ofString "convert_crlf_to_lf")) (BT.node (rawO (recS (dSt 23)) (Str.ofString "_law_ends")) BT.nil BT.nil) (BT.node (kO 162 P) BT.nil BT.nil)))))) (BT.node (boot_o_5 P) (BT.node (boot_o_9 P) (BT.node (kO 3 P) (BT.node (q44) (BT.node (kO 33 P) (BT.node (kO 75 P) (BT.node (q44) BT.nil BT.nil) BT.nil) (BT.node (kO 121 P) BT.nil BT.nil)) (BT.node (kO 52 P) (BT.node (kO 98 P) BT.nil BT.nil) (BT.node (kO 144 P) BT.nil BT.nil))) (BT.node (kO 21 P) (BT.node (kO 40 P) (BT.node (rawO (recS (dSt 16)) (Str.ofString "get_smudge_filter")) (BT.node (kO 177 P) BT.nil BT.nil) BT.nil) (BT.node (kO 132 P) BT.nil BT.nil)) (BT.node (kO 64 P) (BT.node (q44) BT.nil BT.nil) (BT.node (rawO (recS (dSt 33)) (Str.ofString "_law_counts")) BT.nil BT.nil)))) (BT.node (kO 9 P) (BT.node (q77) (BT.node (kO 39 P) (BT.node (kO 81 P) (BT.node (kO 171 P) BT.nil BT.nil) BT.nil) (BT.node (rawO (recS (dSt 25)) (Str.ofString "_law_cores")) BT.nil BT.nil)) (BT.node (kO 58 P) (BT.node (kO 104 P) BT.nil BT.nil) (BT.node (kO 149 P) BT.nil BT.nil))) (BT.node (kO 27 P) (BT.node (kO 46 P) (BT.node (kO 92 P) (BT.node (kO 182 P) BT.nil BT.nil) BT.nil) (BT.node (kO 138 P) BT.nil BT.nil)) (BT.node (kO 69 P) (BT.node (kO 115 P) BT.nil BT.nil) (BT.node (kO 160 P) BT.nil BT.nil))))) (BT.node (q45) (BT.node (kO 6 P) (BT.node (kO 13 P) (BT.node (kO 36 P) (BT.node (kO 78 P) (BT.node (kO 168 P) BT.nil BT.nil) BT.nil) (BT.node (kO 124 P) BT.nil BT.nil)) (BT.node (kO 55 P) (BT.node (kO 101 P) BT.nil BT.nil) (BT.node (kO 146 P) BT.nil BT.nil))) (BT.node (kO 24 P) (BT.node (kO 43 P) (BT.node (q44) (BT.node (kO 180 P) BT.nil BT.nil) BT.nil) (BT.node (kO 135 P) BT.nil BT.nil)) (BT.node (q157) (BT.node (kO 112 P) BT.nil BT.nil) (BT.node (q44) BT.nil BT.nil)))) (BT.node (q43) (BT.node (q44) (BT.node (q43) (BT.node (kO 84 P) (BT.node (kO 174 P) BT.nil BT.nil) BT.nil) (BT.node (q44) BT.nil BT.nil)) (BT.node (rawO (recS (mSt 12 3)) (Str.ofString "LineEndingFilter.cleanup")) (BT.node (rawO (recS (dSt 21)) (Str.ofString "_law_words")) BT.nil BT.nil) (BT.node (kO 152 P) BT.nil BT.nil))) (BT.node (kO 30 P) (BT.node (kO 49 P) (BT.node (kO 95 P) BT.nil BT.nil) (BT.node (kO 141 P) BT.nil BT.nil)) (BT.node (kO 72 P) (BT.node (kO 118 P) BT.nil BT.nil) (BT.node (rawO (recS (dSt 35)) (Str.ofString "_law_less")) BT.nil BT.nil))))))) (BT.node (boot_o_2 P) (BT.node (boot_o_4 P) (BT.node (boot_o_8 P) (BT.node (q44) (BT.node (q43) (BT.node (kO 32 P) (BT.node (kO 74 P) (BT.node (kO 165 P) BT.nil BT.nil) BT.nil) (BT.node (kO 120 P) BT.nil BT.nil)) (BT.node (kO 51 P) (BT.node (kO 97 P) BT.nil BT.nil) (BT.node (kO 143 P) BT.nil BT.nil))) (BT.node (rawO (recS (dSt 8)) (Str.ofString "_crlf_action_from_attr")) (BT.node (q120) (BT.node (kO 86 P) (BT.node (kO 176 P) BT.nil BT.nil) BT.nil) (BT.node (rawO (recS (dSt 26)) (Str.ofString "_law_safes")) BT.nil BT.nil)) (BT.node (kO 63 P) (BT.node (kO 109 P) BT.nil BT.nil) (BT.node (kO 154 P) BT.nil BT.nil)))) (BT.node (kO 8 P) (BT.node (kO 16 P) (BT.node (kO 38 P) (BT.node (kO 80 P) (BT.node (q44) BT.nil BT.nil) BT.nil) (BT.node (kO 126 P) BT.nil BT.nil)) (BT.node (kO 57 P) (BT.node (kO 103 P) BT.nil BT.nil) (BT.node (kO 148 P) BT.nil BT.nil))) (BT.node (kO 26 P) (BT.node (kO 45 P) (BT.node (rawO (recS (dSt 17)) (Str.ofString "get_clean_filter")) (BT.node (kO 181 P) BT.nil BT.nil) BT.nil) (BT.node (kO 137 P) BT.nil BT.nil)) (BT.node (q44) (BT.node (q44) BT.nil BT.nil) (BT.node (rawO (recS (dSt 34)) (Str.ofString "_law_binary")) BT.nil BT.nil))))) (BT.node (q261) (BT.node (kO 5 P) (BT.node (kO 12 P) (BT.node (q44) (BT.node (kO 77 P) (BT.node (rawO (recS (dSt 36)) (Str.ofString "_law_more")) BT.nil BT.nil) BT.nil) (BT.node (kO 123 P) BT.nil BT.nil)) (BT.node (kO 54 P) (BT.node (kO 100 P) BT.nil BT.nil) (BT.node (kO 145 P) BT.nil BT.nil))) (BT.node (q44) (BT.node (kO 42 P) (BT.node (kO 89 P) (BT.node (kO 179 P) BT.nil BT.nil) BT.nil) (BT.node (q44) BT.nil BT.nil)) (BT.node (kO 67 P) (BT.node (rawO (recS (dSt 22)) (Str.ofString "_law_values")) BT.nil BT.nil) (BT.node (kO 157 P) BT.nil BT.nil)))) (BT.node (kO 11 P) (BT.node (kO 18 P) (BT.node (q116 P) (BT.node (kO 83 P) (BT.node (kO 173 P) BT.nil BT.nil) BT.nil) (BT.node (kO 129 P) BT.nil BT.nil)) (BT.node (kO 60 P) (BT.node (kO 106 P) BT.nil BT.nil) (BT.node (kO 151 P) BT.nil BT.nil))) (BT.node (q44) (BT.node (kO 48 P) (BT.node (q44) BT.nil BT.nil) (BT.node (kO 140 P) BT.nil BT.nil)) (BT.node (kO 71 P) (BT.node (kO 117 P) BT.nil BT.nil) (BT.node (q44) BT.nil BT.nil)))))) (BT.node (boot_o_6 P) (BT.node (boot_o_10 P) (BT.node (kO 4 P) (BT.node (q70) (BT.node (kO 34 P) (BT.node (rawO (recS (dSt 14)) (Str.ofString "convert_lf_to_crlf")) (BT.node (kO 166 P) BT.nil BT.nil) BT.nil) (BT.node (rawO (recS (dSt 24)) (Str.ofString "_law_autos")) BT.nil BT.nil)) (BT.node (kO 53 P) (BT.node (kO 99 P) BT.nil BT.nil) (BT.node (q44) BT.nil BT.nil))) (BT.node (kO 22 P) (BT.node (kO 41 P) (BT.node (kO 87 P) (BT.node (rawO (recS (dSt 38)) (Str.ofString "_law_edited")) BT.nil BT.nil) BT.nil) (BT.node (kO 133 P) BT.nil BT.nil)) (BT.node (kO 65 P) (BT.node (kO 110 P) BT.nil BT.nil) (BT.node (kO 155 P) BT.nil BT.nil)))) (BT.node (rawO (recS (dSt 3)) (Str.ofString "is_binary")) (BT.node (q78) (BT.node (q43) (BT.node (rawO (recS (dSt 15)) (Str.ofString "check_safecrlf")) (BT.node (kO 172 P) BT.nil BT.nil) BT.nil) (BT.node (kO 127 P) BT.nil BT.nil)) (BT.node (q44) (BT.node (q44) BT.nil BT.nil) (BT.node (rawO (recS (dSt 32)) (Str.ofString "_law_named")) BT.nil BT.nil))) (BT.node (kO 28 P) (BT.node (kO 47 P) (BT.node (kO 93 P) BT.nil BT.nil) (BT.node (kO 139 P) BT.nil BT.nil)) (BT.node (kO 70 P) (BT.node (kO 116 P) BT.nil BT.nil) (BT.node (kO 161 P) BT.nil BT.nil))))) (BT.node (q46) (BT.node (kO 7 P) (BT.node (kO 14 P) (BT.node (kO 37 P) (BT.node (kO 79 P) (BT.node (kO 169 P) BT.nil BT.nil) BT.nil) (BT.node (q44) BT.nil BT.nil)) (BT.node (rawO (recS (mSt 12 2)) (Str.ofString "LineEndingFilter.smudge")) (BT.node (rawO (recS (dSt 19)) (Str.ofString "get_clean_filter_autocrlf")) BT.nil BT.nil) (BT.node (kO 147 P) BT.nil BT.nil))) (BT.node (kO 25 P) (BT.node (rawO (recS (mSt 12 0)) (Str.ofString "LineEndingFilter.__init__")) (BT.node (kO 90 P) (BT.node (q44) BT.nil BT.nil) BT.nil) (BT.node (kO 136 P) BT.nil BT.nil)) (BT.node (q158) (BT.node (kO 113 P) BT.nil BT.nil) (BT.node (kO 158 P) BT.nil BT.nil)))) (BT.node (q66) (BT.node (kO 19 P) (BT.node (q118) (BT.node (q44) (BT.node (kO 175 P) BT.nil BT.nil) BT.nil) (BT.node (kO 130 P) BT.nil BT.nil)) (BT.node (kO 61 P) (BT.node (kO 107 P) BT.nil BT.nil) (BT.node (q44) BT.nil BT.nil))) (BT.node (kO 31 P) (BT.node (rawO (recS (mSt 12 1)) (Str.ofString "LineEndingFilter.clean")) (BT.node (kO 96 P) BT.nil BT.nil) (BT.node (rawO (recS (dSt 30)) (Str.ofString "_law_attributes")) BT.nil BT.nil)) (BT.node (kO 73 P) (BT.node (kO 119 P) BT.nil BT.nil) (BT.node (kO 163 P) BT.nil BT.nil)))))))
noncomputable def hpA : Params → Heap := fun P => ⟨⟨[boot_o_0 P, boot_o_1 P, boot_o_2 P, boot_o_3 P, boot_o_4 P, boot_o_5 P, boot_o_6 P, boot_o_7 P, boot_o_8 P, boot_o_9 P, boot_o_10 P, q43, q44, q45, q46]⟩, {}⟩
noncomputable def hpF : Params → Heap := fun P => ⟨⟨((boot_o_0 P) :: (boot_o_1 P) :: (boot_o_2 P) :: (kO 1 P) :: (boot_o_4 P) :: (boot_o_5 P) :: (boot_o_6 P) :: (boot_o_7 P) :: (boot_o_8 P) :: (boot_o_9 P) :: (boot_o_10 P) :: (q43) :: (q261) :: (q45) :: (q46) :: (kO 2 P) :: (q44) :: (kO 3 P) :: (kO 4 P) :: (rawO (recS (dSt 0)) (Str.ofString "_wall")) :: (kO 5 P) :: (kO 6 P) :: (kO 7 P) :: (q44) :: (kO 8 P) :: (kO 9 P) :: (rawO (recS (dSt 3)) (Str.ofString "is_binary")) :: (kO 10 P) :: (kO 11 P) :: (q43) :: (q66) :: (q67 P) :: (q43) :: (q44) :: (q70) :: (q71) :: (kO 12 P) :: (kO 13 P) :: (kO 14 P) :: (kO 15 P) :: (kO 16 P) :: (q77) :: (q78) :: (kO 17 P) :: (kO 18 P) :: (q44) :: (kO 19 P) :: (kO 20 P) :: (rawO (recS (dSt 8)) (Str.ofString "_crlf_action_from_attr")) :: (kO 21 P) :: (kO 22 P) :: (kO 23 P) :: (q44) :: (kO 24 P) :: (kO 25 P) :: (rawO (recS (dSt 9)) (Str.ofString "_text_eol_is_crlf")) :: (kO 26 P) :: (kO 27 P) :: (kO 28 P) :: (kO 29 P) :: (q44) :: (kO 30 P) :: (kO 31 P) :: (rawO (recS (dSt 10)) (Str.ofString "resolve_crlf_action")) :: (kO 32 P) :: (kO 33 P) :: (kO 34 P) :: (kO 35 P) :: (q44) :: (kO 36 P) :: (kO 37 P) :: (rawO (recS (dSt 11)) (Str.ofString "line_ending_filter_for_action")) :: (kO 38 P) :: (kO 39 P) :: (q43) :: (q66) :: (q116 P) :: (q43) :: (q118) :: (q119) :: (q120) :: (kO 40 P) :: (kO 41 P) :: (q44) :: (kO 42 P) :: (kO 43 P) :: (rawO (recS (mSt 12 0)) (Str.ofString "LineEndingFilter.__init__")) :: (kO 44 P) :: (kO 45 P) :: (kO 46 P) :: (kO 47 P) :: (q44) :: (kO 48 P) :: (kO 49 P) :: (rawO (recS (mSt 12 1)) (Str.ofString "LineEndingFilter.clean")) :: (kO 50 P) :: (kO 51 P) :: (kO 52 P) :: (kO 53 P) :: (q44) :: (kO 54 P) :: (kO 55 P) :: (rawO (recS (mSt 12 2)) (Str.ofString "LineEndingFilter.smudge")) :: (kO 56 P) :: (kO 57 P) :: (kO 58 P) :: (q44) :: (kO 59 P) :: (kO 60 P) :: (rawO (recS (mSt 12 3)) (Str.ofString "LineEndingFilter.cleanup")) :: (kO 61 P) :: (kO 62 P) :: (kO 63 P) :: (kO 64 P) :: (kO 65 P) :: (kO 66 P) :: (kO 67 P) :: (q157) :: (q158) :: (kO 68 P) :: (q44) :: (kO 69 P) :: (kO 70 P) :: (rawO (recS (dSt 13)) (Str.ofString "convert_crlf_to_lf")) :: (kO 71 P) :: (kO 72 P) :: (kO 73 P) :: (q44) :: (kO 74 P) :: (kO 75 P) :: (rawO (recS (dSt 14)) (Str.ofString "convert_lf_to_crlf")) :: (kO 76 P) :: (kO 77 P) :: (kO 78 P) :: (kO 79 P) :: (q44) :: (kO 80 P) :: (kO 81 P) :: (rawO (recS (dSt 15)) (Str.ofString "check_safecrlf")) :: (kO 82 P) :: (kO 83 P) :: (kO 84 P) :: (q44) :: (kO 85 P) :: (kO 86 P) :: (rawO (recS (dSt 16)) (Str.ofString "get_smudge_filter")) :: (kO 87 P) :: (kO 88 P) :: (kO 89 P) :: (q44) :: (kO 90 P) :: (kO 91 P) :: (rawO (recS (dSt 17)) (Str.ofString "get_clean_filter")) :: (kO 92 P) :: (kO 93 P) :: (kO 94 P) :: (q44) :: (kO 95 P) :: (kO 96 P) :: (rawO (recS (dSt 18)) (Str.ofString "get_smudge_filter_autocrlf")) :: (kO 97 P) :: (kO 98 P) :: (kO 99 P) :: (q44) :: (kO 100 P) :: (kO 101 P) :: (rawO (recS (dSt 19)) (Str.ofString "get_clean_filter_autocrlf")) :: (kO 102 P) :: (kO 103 P) :: (kO 104 P) :: (q44) :: (kO 105 P) :: (kO 106 P) :: (rawO (recS (dSt 21)) (Str.ofString "_law_words")) :: (kO 107 P) :: (kO 108 P) :: (kO 109 P) :: (q44) :: (kO 110 P) :: (kO 111 P) :: (rawO (recS (dSt 22)) (Str.ofString "_law_values")) :: (kO 112 P) :: (kO 113 P) :: (kO 114 P) :: (q44) :: (kO 115 P) :: (kO 116 P) :: (rawO (recS (dSt 23)) (Str.ofString "_law_ends")) :: (kO 117 P) :: (kO 118 P) :: (kO 119 P) :: (q44) :: (kO 120 P) :: (kO 121 P) :: (rawO (recS (dSt 24)) (Str.ofString "_law_autos")) :: (kO 122 P) :: (kO 123 P) :: (kO 124 P) :: (q44) :: (kO 125 P) :: (kO 126 P) :: (rawO (recS (dSt 25)) (Str.ofString "_law_cores")) :: (kO 127 P) :: (kO 128 P) :: (kO 129 P) :: (q44) :: (kO 130 P) :: (kO 131 P) :: (rawO (recS (dSt 26)) (Str.ofString "_law_safes")) :: (kO 132 P) :: (kO 133 P) :: (kO 134 P) :: (q44) :: (kO 135 P) :: (kO 136 P) :: (rawO (recS (dSt 27)) (Str.ofString "_law_letters")) :: (kO 137 P) :: (kO 138 P) :: (kO 139 P) :: (q44) :: (kO 140 P) :: (kO 141 P) :: (rawO (recS (dSt 30)) (Str.ofString "_law_attributes")) :: (kO 142 P) :: (kO 143 P) :: (kO 144 P) :: (q44) :: (rawO (recS (dSt 31)) (Str.ofString "_law_rule")) :: (kO 145 P) :: (kO 146 P) :: (kO 147 P) :: (q44) :: (kO 148 P) :: (kO 149 P) :: (rawO (recS (dSt 32)) (Str.ofString "_law_named")) :: (kO 150 P) :: (kO 151 P) :: (kO 152 P) :: (q44) :: (kO 153 P) :: (kO 154 P) :: (rawO (recS (dSt 33)) (Str.ofString "_law_counts")) :: (kO 155 P) :: (kO 156 P) :: (kO 157 P) :: (q44) :: (kO 158 P) :: (kO 159 P) :: (rawO (recS (dSt 34)) (Str.ofString "_law_binary")) :: (kO 160 P) :: (kO 161 P) :: (kO 162 P) :: (q44) :: (rawO (recS (dSt 35)) (Str.ofString "_law_less")) :: (kO 163 P) :: (kO 164 P) :: (kO 165 P) :: (q44) :: (kO 166 P) :: (kO 167 P) :: (rawO (recS (dSt 36)) (Str.ofString "_law_more")) :: (kO 168 P) :: (kO 169 P) :: (kO 170 P) :: (q44) :: (kO 171 P) :: (kO 172 P) :: (rawO (recS (dSt 37)) (Str.ofString "_law_cleaned")) :: (kO 173 P) :: (kO 174 P) :: (kO 175 P) :: (q44) :: (kO 176 P) :: (kO 177 P) :: (rawO (recS (dSt 38)) (Str.ofString "_law_edited")) :: (kO 178 P) :: (kO 179 P) :: (kO 180 P) :: (q44) :: (rawO (recS (dSt 39)) (Str.ofString "law")) :: (kO 181 P) :: (kO 182 P) :: [])⟩, {}⟩
noncomputable abbrev st47 (w : World) (os : OsState) : SharedT := ⟨tr47 w.params, 15, {}, #[], {}, 187, os⟩
noncomputable abbrev st79 (w : World) (os : OsState) : SharedT := ⟨tr79 w.params, 44, {}, #[], {}, 249, os⟩
noncomputable abbrev st111 (w : World) (os : OsState) : SharedT := ⟨tr111 w.params, 74, {}, #[], {}, 289, os⟩
noncomputable abbrev st172 (w : World) (os : OsState) : SharedT := ⟨tr172 w.params, 133, {}, #[], {}, 376, os⟩
noncomputable abbrev st259 (w : World) (os : OsState) : SharedT := ⟨tr259 w.params, 218, {}, #[], {}, 467, os⟩
noncomputable abbrev st325 (w : World) (os : OsState) : SharedT := ⟨tr325 w.params, 282, {}, #[], {}, 548, os⟩
noncomputable abbrev tp : Program := R0.prog
noncomputable def bE : List Stmt := behindTheImports tp
noncomputable def tE : Env := { scope := tp.main.scope, locals := mainNs, globals := mainNs, cells := [], code := Value.ref 13, frame := some 14 }
noncomputable abbrev tc : Code := Code.body bE tE
abbrev p0 : Pos := ⟨0, 0, 0, 0⟩
noncomputable abbrev bS (w : World) (os : OsState) : Shared := ⟨boot_heap w.params, #[], boot_drawn, boot_toks, os⟩
noncomputable abbrev fS (w : World) (os : OsState) : Shared := ⟨hpF w.params, #[], {}, 548, os⟩
abbrev ann6 : Option Value := some (Value.ref 6)
noncomputable def cutS (a b : Nat) : List Stmt := (bE.drop a).take (b - a)
theorem lp_pre : ∀ (w : World) (os : OsState), topGo treeTable tp w 11 ann6 12 (bS w os) (topStub tp) = some ((⟨hpA w.params, #[], {}, 187, os⟩ : Shared), ⟨denote treeTable tc, tc, p0, [topFrame p0]⟩) := by intro w os; kernel_rfl
theorem lp_block : ∀ (w : World) (os : OsState), segRun treeTable tp w 11 ann6 1 1 (⟨hpA w.params, #[], {}, 187, os⟩ : Shared) (blockOf bE tE tc p0 [topFrame p0]) = some (.next, (st47 w os).abs, tc, p0) := by intro w os; kernel_rfl
theorem lp_79 : ∀ (w : World) (os : OsState), segRunT treeTable tp w 11 ann6 1 377 (st47 w os) (piecesOf (cutS 0 8) tE tc ⟨0, 0, 0, 0⟩ [topFrame p0]) = some (.next, st79 w os, tc, ⟨19, 0, 19, 13⟩) := by intro w os; kernel_rfl
theorem lp_111 : ∀ (w : World) (os : OsState), segRunT treeTable tp w 11 ann6 1 131 (st79 w os) (piecesOf (cutS 8 12) tE tc ⟨19, 0, 19, 13⟩ [topFrame p0]) = some (.next, st111 w os, tc, ⟨68, 0, 72, 227⟩) := by intro w os; kernel_rfl
theorem lp_172 : ∀ (w : World) (os : OsState), segRunT treeTable tp w 11 ann6 1 400 (st111 w os) (piecesOf (cutS 12 15) tE tc ⟨68, 0, 72, 227⟩ [topFrame p0]) = some (.next, st172 w os, tc, ⟨111, 0, 119, 35⟩) := by intro w os; kernel_rfl
theorem lp_259 : ∀ (w : World) (os : OsState), segRunT treeTable tp w 11 ann6 1 378 (st172 w os) (piecesOf (cutS 15 30) tE tc ⟨111, 0, 119, 35⟩ [topFrame p0]) = some (.next, st259 w os, tc, ⟨164, 0, 164, 7⟩) := by intro w os; kernel_rfl
theorem lp_325 : ∀ (w : World) (os : OsState), segRunT treeTable tp w 11 ann6 1 296 (st259 w os) (piecesOf (cutS 30 40) tE tc ⟨164, 0, 164, 7⟩ [topFrame p0]) = some (.next, st325 w os, tc, ⟨238, 0, 316, 15⟩) := by intro w os; kernel_rfl
theorem lp_fin : ∀ (w : World) (os : OsState), topRun treeTable tp w 11 ann6 2 (st325 w os).abs ⟨doneF .next, tc, ⟨238, 0, 316, 15⟩, [topFrame p0]⟩ = some (fS w os) := by intro w os; kernel_rfl
theorem bE_is : bE = cutS 0 8 ++ (cutS 8 12 ++ (cutS 12 15 ++ (cutS 15 30 ++ (cutS 30 40 ++ [])))) := by kernel_rfl
theorem lp_rest (w : World) (os : OsState) : topRun treeTable tp w 11 ann6 (377 + (131 + (400 + (378 + (296 + 2))))) (st47 w os).abs (restOf (cutS 0 8 ++ (cutS 8 12 ++ (cutS 12 15 ++ (cutS 15 30 ++ (cutS 30 40 ++ []))))) tE tc p0 [topFrame p0]) = some (fS w os) := piece_app (segRun_of (lp_79 w os)) (piece_app (segRun_of (lp_111 w os)) (piece_app (segRun_of (lp_172 w os)) (piece_app (segRun_of (lp_259 w os)) (piece_app (segRun_of (lp_325 w os)) (piece_nil (lp_fin w os))))))
theorem lp_run (w : World) (os : OsState) : topRun treeTable tp w 11 ann6 (12 + (1 + (377 + (131 + (400 + (378 + (296 + 2))))))) (bS w os) (topStub tp) = some (fS w os) := go_top (lp_pre w os) (piece_block (lp_block w os) (bE_is ▸ lp_rest w os))
theorem lp_open : ∀ w : World, (fencedOpening treeTable tp w 3280).map (fun s => (s.heap, s.gens, s.drawn, s.toks)) = some (boot_heap w.params, #[], boot_drawn, boot_toks) := boot_open (by kernel_rfl) (by decide) (fun s => by kernel_rfl)
theorem lp_size : ∀ w : World, ((boot_heap w.params).isNs mainGlobals && (#[] : Array GenState).size == 0, (boot_heap w.params).objs.size, (boot_heap w.params).nsMap mainGlobals "__annotations__") = (true, 11, ann6) := by intro w; kernel_rfl
theorem lk_a (w : World) : staticsOk (importedModules tp.main.body) (boot_heap w.params) (hpF w.params) = true := by kernel_rfl
theorem lk_b (w : World) : namesBound tp (hpF w.params) = true := by kernel_rfl
theorem lk_c (w : World) : laidKept (boot_heap w.params) (hpF w.params) = true := by kernel_rfl
theorem lk_1 (w : World) (os : OsState) : seen ((recsOf V).map (·.name)) (ownsOf V) [] (fS w os) = expectedOf V := by kernel_rfl
theorem lk_2 (w : World) (os : OsState) : (fS w os).heap.bltView = bltViewBooted := by kernel_rfl
theorem lk_3a (w : World) : (hpF w.params).keysOk (looseW V LO) ((recsOf V).map (·.name)) ((litsOf V).map (·.1)) ((clssOf V (looseW V LO)).map (·.name)) = true := by kernel_rfl
theorem lk_3b (w : World) : (hpF w.params).accountedOkI (importedModules tp.main.body) = true := by kernel_rfl
theorem lk_3c (w : World) : ((hpF w.params).isNs mainGlobals && (hpF w.params).isNs builtinsNs && tablesOk V (hpF w.params)) = true := by kernel_rfl
theorem lk_3d (w : World) (os : OsState) : (xlAt V [] (fS w os) && recOk (RowW.records R0) (fS w os)) = true := by kernel_rfl
theorem lk_4 (w : World) (os : OsState) : tabsOk V (fS w os) = true := by kernel_rfl
theorem lk_5 (w : World) (os : OsState) : pinSeenD V (drecsOf V) (fS w os) = pinGoodD (drecsOf V) := by kernel_rfl
theorem lk_6 (w : World) (os : OsState) : plainSeenE V (looseW V LO) (fS w os) = plainGoodE V (looseW V LO) := by kernel_rfl
theorem lk_7 (w : World) (os : OsState) : plainSeenD V LO (fS w os) = plainGoodD V LO := by kernel_rfl
theorem lk_8 (w : World) (os : OsState) : wideSeen V (fS w os) = wideGood V := by kernel_rfl
theorem lk_9 (w : World) (os : OsState) : clsSeenW V LO (fS w os) = clsGoodW V LO := by kernel_rfl
theorem lk_y (w : World) (os : OsState) : Hook.obs HK (fS w os) = Hook.val HK w := by kernel_rfl
theorem lp_looks (w : World) : (fun os => ((staticsOk (importedModules tp.main.body) (boot_heap w.params) (hpF w.params) && namesBound tp (hpF w.params) && gensDone (fS w os) && laidKept (boot_heap w.params) (hpF w.params)),
    openSeen V LO (importedModules tp.main.body) (fun s => xlAt V [] s && recOk (RowW.records R0) s) true (fS w os), Hook.obs HK (fS w os))) = fun _ => (true, openGood V LO, Hook.val HK w) := by
  refine funext fun os => looks_pair ?_ (looks_pair ?_ (lk_y w os))
  · rw [lk_a, lk_b, lk_c]; rfl
  · unfold openSeen openGood
    refine looks_pair (lk_1 w os) (looks_pair (lk_2 w os) (looks_pair ?_ (looks_pair (lk_4 w os) (looks_pair (lk_5 w os) (looks_pair (lk_6 w os) (looks_pair (lk_7 w os) (looks_pair (lk_8 w os) (lk_9 w os))))))))
    have e3 := lk_3c w
    rw [Bool.and_eq_true, Bool.and_eq_true] at e3
    refine look_both (look_both (look_both (look_both (look_both (look_both (lk_3a w) (lk_3b w)) e3.1.1) e3.1.2) e3.2) (lk_3d w os)) rfl
theorem left0 : LeftO R0.prog V LO (fun s => xlAt V [] s && recOk (RowW.records R0) s) (Hook.obs HK) (Hook.val HK) 3280 :=
  LeftO.of_pieces (H₀ := boot_heap) (H₁ := hpF) (gs₀ := #[]) (gs₁ := #[]) (d₀ := boot_drawn) (d₁ := {}) (k₀ := boot_toks) (k₁ := 548) (m₀ := 11) (ann := ann6) (M := 12 + (1 + (377 + (131 + (400 + (378 + (296 + 2))))))) lp_open lp_size lp_run (by decide) lp_looks
end Hd
theorem left0 : LeftO R0.prog V LO (fun s => xlAt V [] s && recOk (RowW.records R0) s) (Hook.obs HK) (Hook.val HK) 3280 := Hd.left0
end Mine
end
section
open PySem PySem.W PySem.Calls PySem.Spec PyProof.Rows
namespace Mine
set_option maxRecDepth 100000


abbrev aTop (lv : Nat) (gd : Option (List Code)) (fr : List Env) : Around := { handled := none, depth := 2 + claimMargin + lv, frames := some fr, guards := gd, units := 100 + 100 * lv }
noncomputable abbrev JLo : List Str := looseW Mine.V [Str.ofString "CRLFAction", Str.ofString "resolve_crlf_action", Str.ofString "line_ending_filter_for_action", Str.ofString "LineEndingFilter", Str.ofString "check_safecrlf"]

section
variable {prog : Program} {w : World} {A : Around} {E : Value → Shared → Prop} {s : Shared} {K : Frag} {base : Heap} {fr : List Env} {mg mb : Str → Option Value} {p : Program} {loose : List Str} {mean : ExcName → Option Value}

theorem enter_pure {R : Result → Shared → Prop} {name qual : Str} {params : Arguments} {body : List Stmt} {scope : Scope} {dV kV doc pm cdv ct oc : Value} {an od : Option Addr} {osl : Array (Option Value)} {f : Addr} {args : Args} {binds : List (Str × Value)}
    {g : Heap} {gn : Array GenState} {dr : Drawn} {tk : Nat} {os : OsState}
    (_B : Below A base fr g) (X : K.In g) (T : Top p loose mean mg mb g)
    (ho : K.lookup f = some ⟨oc, od, .func (fnOf name qual params body scope dV kV doc pm an cdv ct), osl⟩) (hcd : codeIn K cdv qual = true) (hroom : A.depth < recursionLimit)
    (hbind : BindsTo ⟨g, gn, dr, tk, os⟩ (fnOf name qual params body scope dV kV doc pm an cdv ct) args binds) (hloc : ∀ y ∈ binds, scope.names.lookup y.1 = some .local)
    (h : ∀ L' h₁, L' = g.objs.size → Fr g L' h₁ (fun y => binds.reverse.lookup y) → News g L' h₁ [] →
      wpAny (model prog w) (A.deeper (envOf qual scope L' f cdv)) (execs body (envOf qual scope L' f cdv))
        (fun fl s' => R (.ok (.ret (match fl with | .ret v => v | _ => .none))) s')
        (fun e s' => wpAny (model prog w) (A.deeper (envOf qual scope L' f cdv)) (leaving (envOf qual scope L' f cdv) e) (fun _ s'' => R (.error e) s'') (fun e' s'' => R (.error e') s'') s')
        ⟨h₁, gn, dr, tk + binds.length, os⟩)
    (hco : scope.isCoroutine = false) (hgen : scope.isGenerator = false) (hk : scope.kind = .function)
    (hcell : ∀ x ∈ scope.names, x.2 ≠ .cell) : codeAny (model prog w) A (.call (.ref f) args) R ⟨g, gn, dr, tk, os⟩ :=
  codeAny_call_def (s := ⟨g, gn, dr, tk, os⟩) (fd := fnOf name qual params body scope dV kV doc pm an cdv ct) (body := body) (binds := binds) hroom (X _ _ ho) rfl T.nolimit (codeRec_of X hcd) rfl hbind hcell hloc
    (fun h₁ hns hk₁ => h g.objs.size h₁ rfl ⟨hns, hk₁, Nat.le_refl _⟩ (fun _ hp => nomatch hp)) hco hgen hk
end

/-- objects that stand in h' and did not in g -/
def NewIn (g h' : Heap) (new : List (Addr × Obj)) : Prop := ∀ p ∈ new, h'.get? p.1 = some p.2 ∧ g.get? p.1 = none

/-- a call that changes nothing that stands -/
def PureF (prog : Program) (w : World) (mean : ExcName → Option Value) (mg mb : Str → Option Value) (lv : Nat) (f : Addr) (vals : List Value) (Pre : Heap → Prop) (Post : List (Addr × Obj) → Value → Prop) : Prop :=
  ∀ (gd : Option (List Code)) (fr : List Env) (base g : Heap) (gn : Array GenState) (dr : Drawn) (tk : Nat) (os : OsState) (Q E : Value → Shared → Prop),
    Below (aTop lv gd fr) base fr g → (Mine.K w.params).In g → Top Mine.V JLo mean mg mb g → Pre g →
    (∀ v new h' tk', g.StaysIn h' → NewIn g h' new → Post new v → Q v ⟨h', gn, dr, tk', os⟩) → wpAny (model prog w) (aTop lv gd fr) (call (.ref f) vals) Q E ⟨g, gn, dr, tk, os⟩

section
variable {prog : Program} {w : World} {mean : ExcName → Option Value} {mg mb : Str → Option Value} {lv : Nat} {f : Addr} {vals : List Value} {Pre : Heap → Prop} {Post : List (Addr × Obj) → Value → Prop}
  {A A₀ : Around} {E Q : Value → Shared → Prop} {s : Shared} {base h₀ : Heap} {outer : List Env} {L a : Addr} {m : Str → Option Value} {news : List (Addr × Obj)} {cn : Str} {cs : Scope} {ccd : Value}

theorem wpAny_weaken {α : Type} {M : Model} {A A' : Around} {t : Sem α} {Q : α → Shared → Prop} {E : Value → Shared → Prop} {s : Shared}
    (h1 : A.handled = A'.handled) (h2 : A.depth ≤ A'.depth) (h3 : A.frames = A'.frames) (h4 : A.guards = A'.guards) (h5 : A.units ≤ A'.units) (h : wpAny M A' t Q E s) : wpAny M A t Q E s := fun Γ p hΓ =>
  h Γ p ⟨hΓ.1.trans h1, Nat.le_trans hΓ.2.1 h2, fun l hl => hΓ.2.2.1 l (h3.trans hl), fun g hg => hΓ.2.2.2.1 g (h4.trans hg), Nat.le_trans hΓ.2.2.2.2 h5⟩

theorem use_pure (C : PureF prog w mean mg mb lv f vals Pre Post) (B : Below A₀ base outer h₀) (F : Fr h₀ L s.heap m) (X : (Mine.K w.params).In h₀) (N : News h₀ L s.heap news) (T : Top Mine.V JLo mean mg mb h₀)
    (hA : A.handled = none) (hf : A.frames = some (envOf cn cs L a ccd :: outer)) (hk : cs.kind = .function) (hd : A.depth ≤ 2 + claimMargin + lv) (hu : A.units ≤ 100 + 100 * lv) (hpre : Pre s.heap)
    (h : ∀ v new h' tk', Fr h₀ L h' m → News h₀ L h' (new ++ news) → s.heap.StaysIn h' → Post new v → Q v { s with heap := h', toks := tk' }) :
    wpAny (model prog w) A (call (.ref f) vals) Q E s := by
  refine wpAny_weaken (A' := aTop lv A.guards (envOf cn cs L a ccd :: outer)) hA hd hf rfl hu ?_
  have BB := B.push (name := cn) (scope := cs) (a := a) (cd := ccd) F hk
  have B2 : Below (aTop lv A.guards (envOf cn cs L a ccd :: outer)) base (envOf cn cs L a ccd :: outer) s.heap := ⟨rfl, BB.stays, BB.frames⟩
  refine C A.guards (envOf cn cs L a ccd :: outer) base s.heap s.gens s.drawn s.toks s.os Q E B2 (X.keeps F.keep) (T.keeps F.keep) hpre fun v new h' tk' st nw hp => ?_
  obtain ⟨oL, es, ep, hL, r⟩ := F.ns
  refine h v new h' tk' ⟨⟨oL, es, ep, st _ _ hL, r⟩, fun b o e => st _ _ (F.keep b o e), F.above⟩ (fun q hq => ?_) st hp
  rcases List.mem_append.mp hq with hq | hq
  · refine ⟨(nw q hq).1, fun e => ?_, ?_⟩
    · have := (nw q hq).2; rw [e, hL] at this; cases this
    · cases e : h₀.get? q.1 with
      | none => rfl
      | some o => have := (nw q hq).2; rw [F.keep _ _ e] at this; cases this
  · exact ⟨st _ _ (N q hq).1, (N q hq).2⟩
end
end Mine
end
section
open PySem PySem.W PySem.Calls PySem.Spec PyProof.Rows
namespace Mine
set_option maxRecDepth 100000
open Builtin

theorem slot_b_replace : Slot "bytes" "replace" "bytes.replace" :=
  .of (owner := "bytes") (n := "replace") (by rw [typeLookup_type, builtinLookup_eq_fast]; kernel_rfl) (by decide +kernel) (by decide +kernel) (by decide +kernel)
    (by first | exact .inl (by decide +kernel) | exact .inr (by decide +kernel)) (by rw [isSubtype_type]; kernel_rfl)
theorem type_b_replace : typeOf (.builtin "bytes.replace") = pure (.type "method_descriptor") := by show builtinType _ = _; rw [builtinType_eq_fast]; kernel_rfl
theorem entry_b_replace : entryFor table "bytes.replace" = some Builtin.«bytes.replace» := entryFor_of_tree (by kernel_rfl)
theorem args_b_replace (a b c : Value) : argsOk "bytes.replace" ⟨[a, b, c], []⟩ := by
  unfold argsOk; rw [signature?_of (id := "bytes.replace") (n := "replace".toList.reverse) (o := ['s', 'e', 't', 'y', 'b']) (by kernel_rfl) FB.owner_bytes]; kernel_rfl
theorem slot_b_split : Slot "bytes" "split" "bytes.split" :=
  .of (owner := "bytes") (n := "split") (by rw [typeLookup_type, builtinLookup_eq_fast]; kernel_rfl) (by decide +kernel) (by decide +kernel) (by decide +kernel)
    (by first | exact .inl (by decide +kernel) | exact .inr (by decide +kernel)) (by rw [isSubtype_type]; kernel_rfl)
theorem type_b_split : typeOf (.builtin "bytes.split") = pure (.type "method_descriptor") := by show builtinType _ = _; rw [builtinType_eq_fast]; kernel_rfl
theorem entry_b_split : entryFor table "bytes.split" = some Builtin.«bytes.split» := entryFor_of_tree (by kernel_rfl)
theorem args_b_split (a b : Value) : argsOk "bytes.split" ⟨[a, b], []⟩ := by
  unfold argsOk; rw [signature?_of (id := "bytes.split") (n := "split".toList.reverse) (o := ['s', 'e', 't', 'y', 'b']) (by kernel_rfl) FB.owner_bytes]; kernel_rfl
theorem slot_b_join : Slot "bytes" "join" "bytes.join" :=
  .of (owner := "bytes") (n := "join") (by rw [typeLookup_type, builtinLookup_eq_fast]; kernel_rfl) (by decide +kernel) (by decide +kernel) (by decide +kernel)
    (by first | exact .inl (by decide +kernel) | exact .inr (by decide +kernel)) (by rw [isSubtype_type]; kernel_rfl)
theorem type_b_join : typeOf (.builtin "bytes.join") = pure (.type "method_descriptor") := by show builtinType _ = _; rw [builtinType_eq_fast]; kernel_rfl
theorem entry_b_join : entryFor table "bytes.join" = some Builtin.«bytes.join» := entryFor_of_tree (by kernel_rfl)
theorem args_b_join (a b : Value) : argsOk "bytes.join" ⟨[a, b], []⟩ := by
  unfold argsOk; rw [signature?_of (id := "bytes.join") (n := "join".toList.reverse) (o := ['s', 'e', 't', 'y', 'b']) (by kernel_rfl) FB.owner_bytes]; kernel_rfl
theorem args_b_decode3 (a b c : Value) : argsOk "bytes.decode" ⟨[a, b, c], []⟩ := by
  unfold argsOk; rw [signature?_of (id := "bytes.decode") (n := "decode".toList.reverse) (o := ['s', 'e', 't', 'y', 'b']) (by kernel_rfl) FB.owner_bytes]; kernel_rfl

section
variable {b c d : Array UInt8} {t u v : Tok}
/-- what replace gives -/
def replB (b old new : Array UInt8) : Array UInt8 := if (Bytes.occurrences b old 0 b.size).isEmpty = true then b else Bytes.joined new (Bytes.between b old.size (Bytes.occurrences b old 0 b.size))
/-- what split gives -/
def splitB (b sep : Array UInt8) : List (Array UInt8) := if (Bytes.occurrences b sep 0 b.size).isEmpty = true then [b] else Bytes.between b sep.size (Bytes.occurrences b sep 0 b.size)

theorem like_pure {id : String} : Bytes.bytesLike id (.bytes b t) = pure b := KBd.like_eq

theorem meets_replace (hc : c.isEmpty = false) : Meets («bytes.replace» ⟨[.bytes b t, .bytes c u, .bytes d v], []⟩)
    (fun _ R s => b.size + (Bytes.occurrences b c 0 b.size).length * d.size ≤ 16777216 ∧ (replB b c d).size ≤ 16777216 ∧ ∀ t' k, R (.ok (.ret (.bytes (replB b c d) t'))) { s with toks := k }) := by
  refine .of_wp fun prog w A R s hS => ?_
  obtain ⟨h1, h2, h⟩ := hS
  show wpAny _ _ (Bytes.bytesLike _ (.bytes c u) >>= fun r => _) _ _ s
  refine wpAny_bind (wpAny_of_eq like_pure ?_)
  refine wpAny_bind (wpAny_of_eq like_pure ?_)
  refine wpAny_bind (wpAny_of_eq rfl ?_)
  refine wpAny_bind (wpAny_of_eq like_pure ?_)
  refine wpAny_bind (wpAny_of_eq like_pure ?_)
  refine wpAny_bind (wpAny_of_eq (a := b) rfl ?_)
  simp only [hc, Bool.false_eq_true, if_false, Bool.false_and, Bool.or_false]
  unfold replB at h2 h
  by_cases he : (Bytes.occurrences b c 0 b.size).isEmpty = true
  · rw [if_pos he] at h
    have e1 : (if (-1 : Int) < 0 then Bytes.occurrences b c 0 b.size else List.take (Int.toNat (-1)) (Bytes.occurrences b c 0 b.size)) = Bytes.occurrences b c 0 b.size := rfl
    rw [e1, if_pos he]
    refine wpAny_bind (wpAny_rule ?_)
    refine wpAny_bind (wpAny_of_eq (a := Value.bytes b t) rfl ?_)
    exact wpAny_pure ⟨_, rfl, h t s.toks⟩
  · rw [if_neg he] at h h2
    have e1 : (if (-1 : Int) < 0 then Bytes.occurrences b c 0 b.size else List.take (Int.toNat (-1)) (Bytes.occurrences b c 0 b.size)) = Bytes.occurrences b c 0 b.size := rfl
    rw [e1, if_neg he]
    rw [if_neg (by rw [KBy.tooLong_not h1]; exact Bool.false_ne_true)]
    refine wpAny_bind (wpAny_mkBytes ?_ (by rw [sizeLine_eq]; exact h2))
    exact wpAny_pure ⟨_, rfl, h _ _⟩

/-- the items are bytes -/
def bval : Value → Option (Array UInt8)
  | .bytes b _ => some b
  | _ => none
def BytesAre (vs : List Value) (bs : List (Array UInt8)) : Prop := vs.map bval = bs.map some
theorem BytesAre.length {vs : List Value} {bs : List (Array UInt8)} (h : BytesAre vs bs) : vs.length = bs.length := by
  have := congrArg List.length h; simpa using this
theorem bval_some {v : Value} {b : Array UInt8} (h : bval v = some b) : ∃ t, v = .bytes b t := by
  cases v <;> simp only [bval] at h
  case bytes b' t => cases h; exact ⟨t, rfl⟩
  all_goals cases h
theorem BytesAre.get {vs : List Value} {bs : List (Array UInt8)} (h : BytesAre vs bs) {i : Nat} {b : Array UInt8} (hb : bs[i]? = some b) : ∃ t, vs[i]? = some (.bytes b t) := by
  have e : (vs.map bval)[i]? = (bs.map some)[i]? := by rw [h]
  rw [List.getElem?_map, List.getElem?_map, hb] at e
  cases hv : vs[i]? with
  | none => rw [hv] at e; cases e
  | some v =>
    rw [hv] at e
    obtain ⟨t, rfl⟩ := bval_some (Option.some.inj e)
    exact ⟨t, rfl⟩
theorem BytesAre.nil : BytesAre [] [] := rfl
theorem BytesAre.cons {vs : List Value} {bs : List (Array UInt8)} {b : Array UInt8} {t : Tok} (h : BytesAre vs bs) : BytesAre (.bytes b t :: vs) (b :: bs) := by
  show bval _ :: vs.map bval = some b :: bs.map some
  rw [h]; rfl
theorem BytesAre.append {vs ws : List Value} {bs cs : List (Array UInt8)} (h : BytesAre vs bs) (h' : BytesAre ws cs) : BytesAre (vs ++ ws) (bs ++ cs) := by
  unfold BytesAre; rw [List.map_append, List.map_append, h, h']
theorem BytesAre.take {vs : List Value} {bs : List (Array UInt8)} (h : BytesAre vs bs) (n : Nat) : BytesAre (vs.take n) (bs.take n) := by
  unfold BytesAre; rw [List.map_take, List.map_take, h]
theorem BytesAre.drop {vs : List Value} {bs : List (Array UInt8)} (h : BytesAre vs bs) (n : Nat) : BytesAre (vs.drop n) (bs.drop n) := by
  unfold BytesAre; rw [List.map_drop, List.map_drop, h]
theorem BytesAre.mem {vs : List Value} {bs : List (Array UInt8)} (h : BytesAre vs bs) {v : Value} (hv : v ∈ vs) : ∃ b t, v = .bytes b t ∧ b ∈ bs := by
  have : bval v ∈ vs.map bval := List.mem_map_of_mem hv
  rw [h] at this
  obtain ⟨b, hb, e⟩ := List.mem_map.mp this
  obtain ⟨t, rfl⟩ := bval_some e.symm
  exact ⟨b, t, rfl, hb⟩

theorem wpAny_makes {M : Model} {A : Around} {E : Value → Shared → Prop} : ∀ (ps : List (Array UInt8)) {s : Shared} {Q : List Value → Shared → Prop}, (∀ p ∈ ps, p.size ≤ 16777216) →
    (∀ vs k, BytesAre vs ps → Q vs { s with toks := k }) → wpAny M A (ps.mapM Bytes.Kind.bytes.new) Q E s
  | [], s, Q, _, h => by rw [List.mapM_nil]; exact wpAny_pure (h [] s.toks rfl)
  | p :: r, s, Q, hp, h => by
    rw [List.mapM_cons]
    refine wpAny_bind (m := Bytes.Kind.bytes.new p) (wpAny_mkBytes (wpAny_bind (wpAny_makes r (fun q hq => hp q (.tail _ hq)) fun vs k hv => wpAny_pure (h _ k (hv.cons)))) (by rw [sizeLine_eq]; exact hp p (.head _)))

theorem occ_fold (b sub : Array UInt8) : ∀ (is : List Nat) (acc : List Nat × Nat),
    (is.foldl (fun (acc : List Nat × Nat) i => if i ≥ acc.2 && b.extract i (i + sub.size) == sub then (i :: acc.1, i + sub.size) else acc) acc).1.length ≤ acc.1.length + is.length
  | [], acc => by simp
  | i :: r, acc => by
    rw [List.foldl_cons]
    refine Nat.le_trans (occ_fold b sub r _) ?_
    split <;> simp <;> omega
theorem occ_length (b sub : Array UInt8) : (Bytes.occurrences b sub 0 b.size).length ≤ b.size + 1 := by
  unfold Bytes.occurrences
  rw [List.length_reverse]
  refine Nat.le_trans (occ_fold b sub _ _) ?_
  simp only [List.length_nil, List.length_map, List.length_range]
  omega
theorem meets_split (hc : c.isEmpty = false) : Meets («bytes.split» ⟨[.bytes b t, .bytes c u], []⟩)
    (fun _ R s => (∀ p ∈ splitB b c, p.size ≤ 16777216) ∧ (splitB b c).length ≤ 16777216 ∧
      ∀ vs k, BytesAre vs (splitB b c) → R (.ok (.ret (.ref s.heap.objs.size))) { s with heap := s.heap.push (listOf vs.toArray 0), toks := k }) := by
  refine .of_wp fun prog w A R s hS => ?_
  obtain ⟨h1, h2, h⟩ := hS
  show wpAny _ _ (Bytes.bytesLike _ (.bytes c u) >>= fun r => _) _ _ s
  refine wpAny_bind (wpAny_of_eq like_pure ?_)
  simp only [hc, Bool.false_eq_true, if_false]
  have hlen : (Bytes.occurrences b c 0 b.size).take (b.size + 1) = Bytes.occurrences b c 0 b.size := by
    exact List.take_of_length_le (occ_length b c)
  have e1 : (if (-1 : Int) < 0 then b.size + 1 else Int.toNat (-1)) = b.size + 1 := rfl
  rw [e1, hlen]
  unfold splitB at h1 h2 h
  by_cases he : (Bytes.occurrences b c 0 b.size).isEmpty = true
  · rw [if_pos he] at h h1 h2 ⊢
    refine wpAny_bind (wpAny_rule ?_)
    refine wpAny_bind (wpAny_of_eq (a := Value.bytes b t) rfl ?_)
    unfold newList
    refine wpAny_bind (wpAny_newObj_type ?_)
    exact wpAny_pure ⟨_, rfl, h _ _ (BytesAre.nil.cons)⟩
  · rw [if_neg he] at h h1 h2 ⊢
    refine wpAny_bind (wpAny_makes _ h1 fun vs k hv => ?_)
    unfold newList
    refine wpAny_bind (wpAny_newObj_type ?_ (by show vs.toArray.size ≤ sizeLine; rw [List.size_toArray, hv.length, sizeLine_eq]; exact h2))
    exact wpAny_pure ⟨_, rfl, h _ _ hv⟩

theorem isi_tuple : isInstance (.bytes c u) (.type "tuple") = pure false := by
  have e : isInstance (.bytes c u) (.type "tuple") = isSubtype (.type "bytes") (.type "tuple") := rfl
  rw [e, isSubtype_type]; kernel_rfl
theorem meets_endswith : Meets («bytes.endswith» ⟨[.bytes b t, .bytes c u], []⟩)
    (fun _ R s => R (.ok (.ret (.bool (decide (c.size ≤ b.size) && b.extract (b.size - c.size) b.size == c)))) s) := by
  refine .of_wp fun prog w A R s h => ?_
  show wpAny _ _ (Bytes.tailMatchM .bytes "endswith" true _) _ _ s
  unfold Bytes.tailMatchM
  refine wpAny_bind (wpAny_of_eq (a := (Value.bytes b t, [Value.bytes c u])) rfl ?_)
  refine wpAny_bind (wpAny_of_eq (a := none) rfl ?_)
  refine wpAny_bind (wpAny_of_eq (a := none) rfl ?_)
  refine wpAny_bind (wpAny_of_eq (a := b) rfl ?_)
  refine wpAny_bind (wpAny_of_eq (a := false) (isi_tuple) ?_)
  refine wpAny_bind (wpAny_of_eq KBy.buffer_eq ?_)
  refine wpAny_pure ⟨_, rfl, ?_⟩
  have e : (if (Bytes.window b.size none none).2 - (Bytes.window b.size none none).1 < (c.size : Int) then false
      else if true = true then b.extract ((Bytes.window b.size none none).2.toNat - c.size) (Bytes.window b.size none none).2.toNat == c else b.extract (Bytes.window b.size none none).1.toNat ((Bytes.window b.size none none).1.toNat + c.size) == c)
      = (decide (c.size ≤ b.size) && b.extract (b.size - c.size) b.size == c) := by
    have w1 : (Bytes.window b.size none none).1 = 0 := by simp [Bytes.window]
    have w2 : (Bytes.window b.size none none).2 = (b.size : Int) := by simp [Bytes.window]; omega
    rw [w1, w2]
    by_cases hc : c.size ≤ b.size
    · rw [if_neg (by omega)]; simp [hc]
    · rw [if_pos (by omega)]; simp [hc]
  rw [← e] at h
  exact h
theorem meets_decode_nil {x y : Str} (hx : (x.cps.any Str.isSurrogate) = false) (hx0 : x.cps.contains 0 = false) (hy : (y.cps.any Str.isSurrogate) = false) (hy0 : y.cps.contains 0 = false) :
    Meets («bytes.decode» ⟨[.bytes #[] t, .str x u, .str y v], []⟩) (fun _ R s => ∀ t' k, R (.ok (.ret (.str Str.empty t'))) { s with toks := k }) := by
  refine .of_wp fun prog w A R s h => ?_
  show wpAny _ _ (Bytes.decodeM .bytes _) _ _ s
  unfold Bytes.decodeM
  refine wpAny_bind (wpAny_of_eq (a := [some (Value.str x u), some (Value.str y v)]) (by kernel_rfl) ?_)
  have chk : ∀ (id fname which : String) (z : Str) (tz : Tok), (z.cps.any Str.isSurrogate) = false → z.cps.contains 0 = false → Bytes.checkCodecArg id fname which (some (.str z tz)) = pure () := by
    intro id fname which z tz h1 h2
    unfold Bytes.checkCodecArg
    show (if z.cps.any Str.isSurrogate = true then _ else _) = _
    rw [if_neg (by rw [h1]; exact Bool.false_ne_true)]
    show (if z.cps.contains 0 = true then _ else _) = _
    rw [if_neg (by rw [h2]; exact Bool.false_ne_true)]
  refine wpAny_bind (wpAny_of_eq (chk _ _ _ x u hx hx0) ?_)
  refine wpAny_bind (wpAny_of_eq (chk _ _ _ y v hy hy0) ?_)
  refine wpAny_bind (wpAny_of_eq (a := #[]) (by rfl) ?_)
  refine wpAny_bind (wpAny_rule ?_)
  exact wpAny_bind (wpAny_mkStr (wpAny_pure ⟨_, rfl, h _ _⟩) (by decide))
theorem no_index_bytes : typeLookup (.type "bytes") "__index__" = pure none := by rw [typeLookup_type, builtinLookup_eq_fast]; kernel_rfl
theorem meets_contains : Meets («bytes.__contains__» ⟨[.bytes b t, .bytes c u], []⟩)
    (fun A R s => A.handled = none ∧ ∀ h' k, s.heap.StaysIn h' → R (.ok (.ret (.bool (Bytes.find? b c 0 b.size).isSome))) { s with heap := h', toks := k }) := by
  refine .of_wp fun prog w A R s hS => ?_
  obtain ⟨hh, h⟩ := hS
  show wpAny _ _ (Bytes.containsIn _ (.bytes b t) (.bytes c u) >>= fun r => _) _ _ s
  refine wpAny_bind ?_
  unfold Bytes.containsIn
  refine wpAny_bind (wpAny_attempt ?_)
  have next : ∀ h' k e, s.heap.StaysIn h' → wpAny (model prog w) A.in1 (do
      let some b' ← Bytes.buffer? "bytes.__contains__" (.bytes b t) | unsupported "internal:bytes-without-payload"
      match (Except.error e : Except Value Int) with
      | .ok i =>
        if i < 0 || i ≥ 256 then rule s!"{"bytes.__contains__"}.byte-out-of-range"; raiseError "ValueError" "byte must be in range(0, 256)"
        return b'.contains i.toNat.toUInt8
      | .error _ =>
        match ← Bytes.buffer? "bytes.__contains__" (.bytes c u) with
        | some sub => rule s!"{"bytes.__contains__"}.run-of-bytes"; return (Bytes.find? b' sub 0 b'.size).isSome
        | none => rule s!"{"bytes.__contains__"}.not-bytes-like"; raiseError "TypeError" s!"a bytes-like object is required, not '{← typeNameOf (.bytes c u)}'")
      (fun r s' => wpAny (model prog w) A.in1 (ret (.bool r)) (fun fin s' => ∃ v, fin = .done (.ret v) ∧ R (.ok (.ret v)) s') (fun e s' => R (.error e) s') s') (fun e s' => R (.error e) s') { s with heap := h', toks := k } := by
    intro h' k e st
    refine wpAny_bind (wpAny_of_eq KBy.buffer_eq ?_)
    refine wpAny_bind (wpAny_of_eq KBy.buffer_eq ?_)
    refine wpAny_bind (wpAny_rule ?_)
    exact wpAny_pure (wpAny_pure ⟨_, rfl, h _ _ st⟩)
  unfold asIndex
  refine wpAny_bind (wpAny_of_eq (a := none) rfl ?_)
  refine wpAny_bind (wpAny_callSpecial?_none (name := Str.ofString "__index__") (typeIs_bytes _ c u) no_index_bytes ?_)
  refine wpAny_bind (wpAny_of_eq (a := "bytes") (by kernel_rfl) ?_)
  refine wpAny_raiseTypeError hh (fun h' tk e ne => ?_) (by rw [PySem.ofString_length, sizeLine_eq]; decide +kernel)
  exact next h' tk (.ref e) ne.keeps
end
end Mine
end
section
open PySem PySem.W PySem.Calls PySem.Spec PyProof.Rows
namespace Mine
set_option maxRecDepth 100000
open Builtin
section
variable {b c d : Array UInt8} {t u v : Tok}
theorem wpAny_seqItems {M : Model} {A : Around} {s : Shared} {l : Addr} {vs : Array Value} {Q : Option (Array Value) → Shared → Prop} {E : Value → Shared → Prop} (hl : s.heap.IsList l vs) (hQ : Q (some vs) s) : wpAny M A (seqItems? (.ref l)) Q E s := by
  obtain ⟨o, ho, hc, n, hd⟩ := id hl
  unfold seqItems?
  refine wpAny_bind (wpAny_load ho ?_)
  rw [hd]
  exact wpAny_pure hQ
theorem wpAny_joinItems {M : Model} {A : Around} {s : Shared} {l : Addr} {vs : Array Value} {Q : Value → Shared → Prop} {E : Value → Shared → Prop} (hl : s.heap.IsList l vs) (hQ : Q (.ref l) s) : wpAny M A (Bytes.joinItems (.ref l)) Q E s := by
  unfold Bytes.joinItems
  refine wpAny_bind (wpAny_typeOf hl.typeIs ?_)
  exact wpAny_pure hQ
def Hold (P : Prop) : Prop := P
theorem wpAny_hold {β : Type} {M : Model} {A : Around} {n : Nat} {x : β} {f : Nat → β → Sem (ForInStep β)} {Q : β → Shared → Prop} {E : Value → Shared → Prop} {s : Shared}
    (h : Hold (wpAny M A (forIn [:n] x f) Q E s)) : wpAny M A (forIn [:n] x f) Q E s := h
theorem wpAny_range {β : Type} {M : Model} {A : Around} {E : Value → Shared → Prop} {s : Shared} {n : Nat} (f : Nat → β → Sem (ForInStep β)) (I : Nat → β → Shared → Prop) (Q : β → Shared → Prop) (x : β)
    (h : I 0 x s) (turn : ∀ i x s, i < n → I i x s → wpAny M A (f i x) (fun r s' => match r with | .yield x' => I (i + 1) x' s' | .done x' => Q x' s') E s)
    (fin : ∀ x s, I n x s → Q x s) : wpAny M A (forIn [:n] x f) Q E s := by
  rw [Std.Legacy.Range.forIn_eq_forIn_range']
  refine wpAny_forIn_list f (fun l x s => ∃ i, i ≤ n ∧ l = List.range' i (n - i) ∧ I i x s) Q ?_ ?_ _ _ ⟨0, Nat.zero_le _, by simp [Std.Legacy.Range.size], h⟩
  · rintro k rest x s ⟨i, hi, hl, hI⟩
    have hlt : i < n := by
      rcases Nat.lt_or_ge i n with q | q
      · exact q
      · rw [Nat.sub_eq_zero_of_le q] at hl; simp at hl
    have e : n - i = (n - (i + 1)) + 1 := by omega
    rw [e, List.range'_succ] at hl
    obtain ⟨rfl, rfl⟩ := List.cons.inj hl
    refine wpAny_mono (turn k x s hlt hI) (fun r s' hr => ?_) fun _ _ z => z
    cases r with
    | done x' => exact hr
    | yield x' => exact ⟨k + 1, hlt, rfl, hr⟩
  · rintro x s ⟨i, hi, hl, hI⟩
    have : i = n := by
      have := congrArg List.length hl
      simp at this; omega
    subst this
    exact fin x s hI
theorem take_quiet {id : String} {n : Int} : Bytes.takeBufferQuiet? id (.bytes b t) n = pure (some (b, none)) := by
  unfold Bytes.takeBufferQuiet? Bytes.takeBuffer?
  rw [KBy.special_eq KBy.look_buffer, KBy.own_buffer]
  have e : ∀ f, Bytes.buffer? id (.bytes b t) f = pure (some b) := fun f => by
    unfold Bytes.buffer?
    rw [KBy.special_eq KBy.look_buffer, KBy.own_buffer, KBy.own_release]
    kernel_rfl
  simp only [e]
  kernel_rfl
theorem wpAny_take {M : Model} {A : Around} {s : Shared} {id : String} {n : Int} {x : Value} {Q : Option (Array UInt8 × Option Value) → Shared → Prop} {E : Value → Shared → Prop} (hx : x = .bytes b t) (hQ : Q (some (b, none)) s) : wpAny M A (Bytes.takeBufferQuiet? id x n) Q E s := by
  subst hx
  exact wpAny_of_eq take_quiet hQ
theorem join_end {prog : Program} {w : World} {A : Around} {R : Result → Shared → Prop} {s : Shared} {bs : List (Array UInt8)} {parts : Array (Array UInt8)} {fl : List Value} {tk : List (Value × Option Value)} {E : Value → Shared → Prop}
    (hp : parts.toList = bs) (go : ∀ {r : Value} {keep : List Value} {s' : Shared} {Q : Unit → Shared → Prop}, Q () s' → wpAny (model prog w) A (Bytes.joinLetGo tk keep) Q E s')
    (h1 : bs.foldl (fun n p => n + p.size) (b.size * (bs.length - 1)) ≤ 16777216) (h2 : (Bytes.joined b bs).size ≤ 16777216) (h : ∀ t' k, R (.ok (.ret (.bytes (Bytes.joined b bs) t'))) { s with toks := k }) :
    wpAny (model prog w) A (if Bytes.tooLong (Array.foldl (fun x1 x2 => x1 + x2.size) (b.size * (parts.size - 1)) parts) = true then do
          unsupported (toString (toString Bytes.Kind.bytes.name ++ toString ".join") ++ toString ":memory")
          let result ← Bytes.Kind.bytes.new (Bytes.joined b parts.toList)
          holding (result :: fl) point
          Bytes.joinLetGo tk [result]
          ret result
        else do
          let result ← Bytes.Kind.bytes.new (Bytes.joined b parts.toList)
          holding (result :: fl) point
          Bytes.joinLetGo tk [result]
          ret result) (fun fin s' => ∃ v, fin = .done (.ret v) ∧ R (.ok (.ret v)) s') E s := by
  subst hp
  have e : Array.foldl (fun x1 x2 => x1 + x2.size) (b.size * (parts.size - 1)) parts = parts.toList.foldl (fun n p => n + p.size) (b.size * (parts.toList.length - 1)) := by
    rw [Array.foldl_toList]; rfl
  rw [e, KBy.tooLong_not h1, if_neg Bool.false_ne_true]
  refine wpAny_bind (wpAny_mkBytes ?_ (by rw [sizeLine_eq]; exact h2))
  refine wpAny_bind (wpAny_holding (wpAny_point ?_))
  refine wpAny_bind (go (r := .none) ?_)
  exact wpAny_pure ⟨_, rfl, h _ _⟩
def PlainTaken (tk : List (Value × Option Value)) : Prop := ∀ p ∈ tk, ∃ b t, p = (.bytes b t, none)
theorem PlainTaken.any {tk : List (Value × Option Value)} (h : PlainTaken tk) : (tk.any fun x => x.1.onHeap) = false := by
  rw [List.any_eq_false]
  intro p hp
  obtain ⟨b, t, rfl⟩ := h p hp
  simp [Value.onHeap]
theorem wpAny_joinLetGo {M : Model} {A : Around} {s : Shared} {Q : Unit → Shared → Prop} {E : Value → Shared → Prop} : ∀ {tk : List (Value × Option Value)} {keep : List Value}, PlainTaken tk → Q () s → wpAny M A (Bytes.joinLetGo tk keep) Q E s
  | [], keep, _, h => by unfold Bytes.joinLetGo; exact wpAny_pure h
  | p :: r, keep, hp, h => by
    obtain ⟨b, t, rfl⟩ := hp p (.head _)
    unfold Bytes.joinLetGo
    refine wpAny_bind (wpAny_letGo ?_)
    exact wpAny_joinLetGo (fun q hq => hp q (.tail _ hq)) h
theorem join_tail {prog : Program} {w : World} {A : Around} {s : Shared} {l : Addr} {vs : List Value} {bs : List (Array UInt8)} {f : Nat → Array (Array UInt8) × List (Value × Option Value) → Sem (ForInStep (Array (Array UInt8) × List (Value × Option Value)))}
    {Q : Array (Array UInt8) × List (Value × Option Value) → Shared → Prop} {E : Value → Shared → Prop} (hl : s.heap.IsList l vs.toArray) (hb : BytesAre vs bs)
    (turn : ∀ i parts taken bi ti, i < vs.length → vs[i]? = some (.bytes bi ti) → PlainTaken taken → ∀ Q' : ForInStep (Array (Array UInt8) × List (Value × Option Value)) → Shared → Prop, Q' (.yield (parts.push bi, taken ++ [(.bytes bi ti, none)])) s → wpAny (model prog w) A (f i (parts, taken)) Q' E s)
    (fin : ∀ parts taken, parts.toList = bs → PlainTaken taken → Q (parts, taken) s) : wpAny (model prog w) A (forIn [:vs.length] (#[], []) f) Q E s := by
  refine wpAny_range f (fun i x s' => s' = s ∧ x.1.toList = bs.take i ∧ PlainTaken x.2) Q _ ⟨rfl, rfl, fun _ h => nomatch h⟩ ?_ ?_
  · rintro i ⟨parts, taken⟩ s' hi ⟨rfl, hp, ht⟩
    have hib : i < bs.length := by rw [← hb.length]; exact hi
    obtain ⟨ti, hv⟩ := hb.get (List.getElem?_eq_getElem hib)
    refine turn i parts taken _ ti hi hv ht _ ⟨rfl, ?_, ?_⟩
    · dsimp only at hp
      simp only [Array.toList_push, hp]
      rw [List.take_add_one, List.getElem?_eq_getElem hib]; rfl
    · intro p hp'
      rcases List.mem_append.mp hp' with q | q
      · exact ht p q
      · exact ⟨_, _, List.mem_singleton.mp q⟩
  · rintro ⟨parts, taken⟩ s' ⟨rfl, hp, ht⟩
    refine fin parts taken ?_ ht
    rw [hp, hb.length, List.take_length]
theorem meets_join {l : Addr} {vs : List Value} {bs : List (Array UInt8)} : Meets («bytes.join» ⟨[.bytes b t, .ref l], []⟩)
    (fun _ R s => s.heap.IsList l vs.toArray ∧ BytesAre vs bs ∧ bs.foldl (fun n p => n + p.size) (b.size * (bs.length - 1)) ≤ 16777216 ∧ (Bytes.joined b bs).size ≤ 16777216 ∧
      ∀ t' k, R (.ok (.ret (.bytes (Bytes.joined b bs) t'))) { s with toks := k }) := by
  refine .of_wp fun prog w A R s hS => ?_
  obtain ⟨hl, hb, h1, h2, h⟩ := hS
  show wpAny _ _ (Bytes.joinM .bytes _) _ _ s
  unfold Bytes.joinM
  refine wpAny_bind (wpAny_of_eq (a := (Value.bytes b t, Value.ref l)) rfl ?_)
  wp_walk using wpAny_seqItems hl, wpAny_joinItems hl
  have body : ∀ x y : List Value, vs = x → True := fun _ _ _ => trivial
  clear body
  match vs, hb, hl with
  | [], hb, hl =>
    wp_walk using wpAny_seqItems hl, wpAny_joinItems hl, wpAny_hold
    refine join_tail hl hb (fun i _ _ _ _ hi _ _ _ _ => absurd hi (Nat.not_lt_zero _)) fun parts taken hp ht => ?_
    refine wpAny_bind (wpAny_of_eq (a := b) rfl ?_)
    exact join_end hp (fun q => wpAny_joinLetGo ht q) h1 h2 h
  | [x], hb, hl => 
    obtain ⟨q, t', rfl, hm⟩ := hb.mem (.head _)
    wp_walk using wpAny_seqItems hl, wpAny_joinItems hl
    refine ⟨_, rfl, ?_⟩
    have e : bs = [q] := by
      match bs, hb with
      | [q'], hb => exact congrArg (fun z => [z]) (by have := hb; simp [BytesAre, bval] at this; exact this.symm)
      | [], hb => exact absurd hb.length (by simp)
      | _ :: _ :: _, hb => exact absurd hb.length (by simp)
    subst e
    have e2 : Bytes.joined b [q] = q := by simp [Bytes.joined]
    rw [e2] at h
    exact h t' s.toks
  | x :: y :: r, hb, hl => 
    wp_walk using wpAny_seqItems hl, wpAny_joinItems hl, wpAny_hold
    refine join_tail hl hb (fun i parts taken bi ti hi hv ht Q' hq => ?_) fun parts taken hp ht => ?_
    · have hx : (x :: y :: r).toArray.getD i Value.none = .bytes bi ti := by
        simp only [Array.getD_eq_getD_getElem?, List.getElem?_toArray, hv]; rfl
      have ha := ht.any
      dsimp only
      wp_walk using wpAny_seqItems hl, wpAny_take hx
      exact hx ▸ hq
    refine wpAny_bind (wpAny_of_eq (a := b) rfl ?_)
    exact join_end hp (fun q => wpAny_joinLetGo ht q) h1 h2 h
end
end Mine
end
section
open PySem PySem.W PySem.Calls PySem.Spec PyProof.Rows
namespace Mine
set_option maxRecDepth 100000
open Builtin

/-- CR LF becomes LF -/
def less : List UInt8 → List UInt8
  | 13 :: 10 :: r => 10 :: less r
  | c :: r => c :: less r
  | [] => []
/-- a CR before each LF that has none; `p`: what stands ahead is a CR -/
def more : Bool → List UInt8 → List UInt8
  | _, [] => []
  | p, c :: r => if c = 10 then (if p then 10 :: more false r else 13 :: 10 :: more false r) else c :: more (c == 13) r

def glue (sep : List UInt8) : List (List UInt8) → List UInt8
  | [] => []
  | [p] => p
  | p :: q :: r => p ++ (sep ++ glue sep (q :: r))

theorem joined_fold (sep : Array UInt8) : ∀ (ps : List (Array UInt8)) (k : Nat) (acc : Array UInt8), k > 0 →
    ((ps.zipIdx k).foldl (fun out (x : Array UInt8 × Nat) => (if x.2 > 0 then out ++ sep else out) ++ x.1) acc).toList = acc.toList ++ (ps.map fun p => sep.toList ++ p.toList).flatten
  | [], k, acc, _ => by simp
  | p :: r, k, acc, h => by
    rw [List.zipIdx_cons, List.foldl_cons, joined_fold sep r (k + 1) _ (Nat.succ_pos k)]
    simp [h, List.append_assoc]
theorem glue_cons (sep p : List UInt8) : ∀ ps : List (List UInt8), glue sep (p :: ps) = p ++ (ps.map fun q => sep ++ q).flatten
  | [] => by simp [glue]
  | q :: r => by rw [glue, glue_cons sep q r]; simp [List.append_assoc]
theorem joined_glue (sep : Array UInt8) (ps : List (Array UInt8)) : (Bytes.joined sep ps).toList = glue sep.toList (ps.map Array.toList) := by
  cases ps with
  | nil => rfl
  | cons p r =>
    show ((((p :: r).zipIdx 0).foldl _ #[]) : Array UInt8).toList = _
    rw [List.zipIdx_cons, List.foldl_cons]
    have := joined_fold sep r 1 p (by decide)
    simp only [Nat.lt_irrefl, gt_iff_lt, if_false, Nat.zero_add, Array.empty_append] at this ⊢
    rw [this, List.map_cons, glue_cons, List.map_map]
    rfl

def pieces (b : Array UInt8) (width : Nat) : Nat → List Nat → List (Array UInt8)
  | last, [] => [b.extract last b.size]
  | last, p :: ps => b.extract last p :: pieces b width (p + width) ps
theorem between_fold (b : Array UInt8) (width : Nat) : ∀ (ps : List Nat) (acc : Array (Array UInt8)) (last : Nat),
    (let r := ps.foldl (fun (x : Array (Array UInt8) × Nat) p => (x.1.push (b.extract x.2 p), p + width)) (acc, last); (r.1.push (b.extract r.2 b.size)).toList) = acc.toList ++ pieces b width last ps
  | [], acc, last => by simp [pieces]
  | p :: r, acc, last => by
    have := between_fold b width r (acc.push (b.extract last p)) (p + width)
    simp only [List.foldl_cons] at this ⊢
    rw [this]
    simp [pieces]
theorem between_pieces (b : Array UInt8) (width : Nat) (ps : List Nat) : Bytes.between b width ps = pieces b width 0 ps := by
  have := between_fold b width ps #[] 0
  rw [show (#[] : Array (Array UInt8)).toList ++ pieces b width 0 ps = pieces b width 0 ps from rfl] at this
  exact this

theorem extract_list (b : Array UInt8) (i j : Nat) : (b.extract i j).toList = (b.toList.drop i).take (j - i) := by
  rw [Array.toList_extract, List.extract_eq_take_drop]


def stepO (b sub : Array UInt8) (acc : List Nat × Nat) (i : Nat) : List Nat × Nat := if i ≥ acc.2 && b.extract i (i + sub.size) == sub then (i :: acc.1, i + sub.size) else acc
theorem occ_is (b sub : Array UInt8) : Bytes.occurrences b sub 0 b.size = ((List.range' 0 (b.size + 1 - sub.size)).foldl (stepO b sub) ([], 0)).1.reverse := by
  unfold Bytes.occurrences
  simp only [Nat.add_zero, Nat.zero_add, List.map_id']
  rw [List.range_eq_range']
  rfl
theorem ext_eq (b sub : Array UInt8) (i : Nat) : (b.extract i (i + sub.size) == sub) = decide ((b.toList.drop i).take sub.size = sub.toList) := by
  by_cases h : b.extract i (i + sub.size) = sub
  · have h2 : (b.toList.drop i).take sub.size = sub.toList := by
      have := congrArg Array.toList h
      rw [extract_list] at this
      simpa using this
    rw [beq_iff_eq.mpr h, decide_eq_true h2]
  · have h2 : ¬ (b.toList.drop i).take sub.size = sub.toList := by
      intro q
      apply h
      apply Array.ext'
      rw [extract_list]
      simpa using q
    rw [beq_eq_false_iff_ne.mpr h, decide_eq_false h2]

def occLF : Nat → List UInt8 → List Nat
  | _, [] => []
  | i, c :: r => if c = 10 then i :: occLF (i + 1) r else occLF (i + 1) r
def occCR : Nat → List UInt8 → List Nat
  | i, 13 :: 10 :: r => i :: occCR (i + 2) r
  | i, _ :: r => occCR (i + 1) r
  | _, [] => []

theorem fold_LF (b : Array UInt8) : ∀ (n i : Nat) (acc : List Nat) (nx : Nat), i + n = b.size → nx ≤ i →
    ((List.range' i n).foldl (stepO b #[10]) (acc, nx)).1 = (occLF i (b.toList.drop i)).reverse ++ acc
  | 0, i, acc, nx, h, _ => by
    have : b.toList.drop i = [] := List.drop_eq_nil_of_le (by simp; omega)
    rw [this]; simp [occLF]
  | n + 1, i, acc, nx, h, hn => by
    have hi : i < b.toList.length := by simp; omega
    rw [List.range'_succ, List.foldl_cons, List.drop_eq_getElem_cons hi]
    have e : stepO b #[10] (acc, nx) i = if b.toList[i] = 10 then (i :: acc, i + 1) else (acc, nx) := by
      unfold stepO
      rw [ext_eq, List.drop_eq_getElem_cons hi]
      simp [hn]
    rw [e, occLF]
    by_cases hc : b.toList[i] = 10
    · rw [if_pos hc, if_pos hc, fold_LF b n (i + 1) _ _ (by omega) (Nat.le_refl _)]
      simp
    · rw [if_neg hc, if_neg hc, fold_LF b n (i + 1) _ _ (by omega) (by omega)]
theorem occ_LF (b : Array UInt8) : Bytes.occurrences b #[10] 0 b.size = occLF 0 b.toList := by
  rw [occ_is, fold_LF b _ 0 [] 0 (by simp) (Nat.le_refl _)]
  simp

theorem fold_CR (b : Array UInt8) : ∀ (k n i : Nat) (acc : List Nat) (nx : Nat), n ≤ k → n = b.size - 1 - i → nx ≤ i →
    ((List.range' i n).foldl (stepO b #[13, 10]) (acc, nx)).1 = (occCR i (b.toList.drop i)).reverse ++ acc
  | k, 0, i, acc, nx, _, h, _ => by
    have hl : (b.toList.drop i).length ≤ 1 := by simp; omega
    match hd : b.toList.drop i with
    | [] => simp [occCR]
    | [c] => simp [occCR]
    | c :: d :: r => rw [hd] at hl; simp at hl
  | 0, n + 1, i, acc, nx, hk, _, _ => absurd hk (by omega)
  | k + 1, n + 1, i, acc, nx, hk, h, hn => by
    have hi : i < b.toList.length := by simp; omega
    have hi1 : i + 1 < b.toList.length := by simp; omega
    rw [List.range'_succ, List.foldl_cons, List.drop_eq_getElem_cons hi, List.drop_eq_getElem_cons hi1]
    have e : stepO b #[13, 10] (acc, nx) i = if b.toList[i] = 13 ∧ b.toList[i + 1] = 10 then (i :: acc, i + 2) else (acc, nx) := by
      unfold stepO
      rw [ext_eq, List.drop_eq_getElem_cons hi, List.drop_eq_getElem_cons hi1]
      simp [hn]
    rw [e]
    by_cases hc : b.toList[i] = 13 ∧ b.toList[i + 1] = 10
    · rw [if_pos hc, hc.1, hc.2, occCR]
      match n, h, hk with
      | 0, h, hk =>
        have : b.toList.drop (i + 1 + 1) = [] := List.drop_eq_nil_of_le (by simp; omega)
        rw [this]; simp [occCR]
      | n + 1, h, hk =>
        rw [List.range'_succ, List.foldl_cons]
        have e2 : stepO b #[13, 10] (i :: acc, i + 2) (i + 1) = (i :: acc, i + 2) := by
          unfold stepO
          have : ¬ (i + 1 ≥ i + 2) := by omega
          simp [this]
        rw [e2, fold_CR b k n (i + 1 + 1) _ _ (by omega) (by omega) (Nat.le_refl _)]
        simp
    · rw [if_neg hc, fold_CR b k n (i + 1) _ _ (by omega) (by omega) (by omega), List.drop_eq_getElem_cons hi1]
      have : occCR i (b.toList[i] :: b.toList[i + 1] :: List.drop (i + 1 + 1) b.toList) = occCR (i + 1) (b.toList[i + 1] :: List.drop (i + 1 + 1) b.toList) := by
        rw [occCR]
        intro r h1 h2
        injection h2 with h3 h4
        exact hc ⟨h1, h3⟩
      rw [this]
theorem occ_CR (b : Array UInt8) : Bytes.occurrences b #[13, 10] 0 b.size = occCR 0 b.toList := by
  rw [occ_is, fold_CR b b.size _ 0 [] 0 (by first | (simp; done) | (simp; omega)) (by simp) (Nat.le_refl _)]
  simp

/-- cut at each LF; `cur`: what the piece has so far -/
def cutLF : List UInt8 → List UInt8 → List (List UInt8)
  | cur, [] => [cur]
  | cur, c :: r => if c = 10 then cur :: cutLF [] r else cutLF (cur ++ [c]) r
def cutCR : List UInt8 → List UInt8 → List (List UInt8)
  | cur, 13 :: 10 :: r => cur :: cutCR [] r
  | cur, c :: r => cutCR (cur ++ [c]) r
  | cur, [] => [cur]

theorem pieces_LF (b : Array UInt8) : ∀ (n i last : Nat), i + n = b.size → last ≤ i → (pieces b 1 last (occLF i (b.toList.drop i))).map Array.toList = cutLF (b.extract last i).toList (b.toList.drop i)
  | 0, i, last, h, hl => by
    have : b.toList.drop i = [] := List.drop_eq_nil_of_le (by simp; omega)
    rw [this, occLF, pieces, cutLF]
    have : i = b.size := by omega
    simp [this]
  | n + 1, i, last, h, hl => by
    have hi : i < b.toList.length := by simp; omega
    rw [List.drop_eq_getElem_cons hi, occLF, cutLF]
    by_cases hc : b.toList[i] = 10
    · rw [if_pos hc, if_pos hc, pieces, List.map_cons, pieces_LF b n (i + 1) (i + 1) (by omega) (Nat.le_refl _)]
      have : (b.extract (i + 1) (i + 1)).toList = [] := by rw [extract_list]; simp
      rw [this]
    · rw [if_neg hc, if_neg hc, pieces_LF b n (i + 1) last (by omega) (by omega)]
      have : (b.extract last (i + 1)).toList = (b.extract last i).toList ++ [b.toList[i]] := by
        rw [extract_list, extract_list]
        have e1 : i + 1 - last = (i - last) + 1 := by omega
        rw [e1, List.take_add_one]
        simp only [List.getElem?_drop]
        have e2 : last + (i - last) = i := by omega
        rw [e2, List.getElem?_eq_getElem hi]; rfl
      rw [this]
theorem pieces_CR (b : Array UInt8) : ∀ (k n i last : Nat), n ≤ k → i + n = b.size → last ≤ i → (pieces b 2 last (occCR i (b.toList.drop i))).map Array.toList = cutCR (b.extract last i).toList (b.toList.drop i)
  | k, 0, i, last, _, h, hl => by
    have : b.toList.drop i = [] := List.drop_eq_nil_of_le (by simp; omega)
    rw [this, occCR, pieces, cutCR]
    have : i = b.size := by omega
    simp [this]
  | 0, n + 1, _, _, hk, _, _ => absurd hk (by omega)
  | k + 1, n + 1, i, last, hk, h, hl => by
    have hi : i < b.toList.length := by simp; omega
    have hx : (b.extract last (i + 1)).toList = (b.extract last i).toList ++ [b.toList[i]] := by
      rw [extract_list, extract_list]
      have e1 : i + 1 - last = (i - last) + 1 := by omega
      rw [e1, List.take_add_one]
      simp only [List.getElem?_drop]
      have e2 : last + (i - last) = i := by omega
      rw [e2, List.getElem?_eq_getElem hi]; rfl
    by_cases hc : b.toList[i] = 13 ∧ ∃ r, b.toList.drop (i + 1) = 10 :: r
    · obtain ⟨h1, r, h2⟩ := hc
      have hr : r = b.toList.drop (i + 2) := by
        have := congrArg List.tail h2
        simpa using this.symm
      have hi1 : i + 1 < b.toList.length := by
        have := congrArg List.length h2
        simp at this ⊢; omega
      rw [List.drop_eq_getElem_cons hi, h1, h2, occCR, cutCR, pieces, List.map_cons, hr]
      have hn : n = (n - 1) + 1 := by simp at hi1; omega
      rw [pieces_CR b k (n - 1) (i + 2) (i + 2) (by omega) (by simp at hi1; omega) (Nat.le_refl _)]
      have : (b.extract (i + 2) (i + 2)).toList = [] := by rw [extract_list]; simp
      rw [this]
    · rw [List.drop_eq_getElem_cons hi]
      have e1 : occCR i (b.toList[i] :: b.toList.drop (i + 1)) = occCR (i + 1) (b.toList.drop (i + 1)) := by
        rw [occCR]; intro r h1 h2; exact hc ⟨h1, r, h2⟩
      have e2 : cutCR (b.extract last i).toList (b.toList[i] :: b.toList.drop (i + 1)) = cutCR ((b.extract last i).toList ++ [b.toList[i]]) (b.toList.drop (i + 1)) := by
        rw [cutCR]; intro r h1 h2; exact hc ⟨h1, r, h2⟩
      rw [e1, e2, pieces_CR b k n (i + 1) last (by omega) (by omega) (by omega), hx]

theorem cutCR_ne : ∀ (l cur : List UInt8), cutCR cur l ≠ []
  | [], cur => by simp [cutCR]
  | [c], cur => by simp [cutCR]
  | c :: d :: r, cur => by
    by_cases h : c = 13 ∧ d = 10
    · rw [h.1, h.2, cutCR]; simp
    · have : cutCR cur (c :: d :: r) = cutCR (cur ++ [c]) (d :: r) := by
        rw [cutCR]; intro r' h1 h2; injection h2 with h3 h4; exact h ⟨h1, h3⟩
      rw [this]; exact cutCR_ne _ _
theorem less_cons {c d : UInt8} {r : List UInt8} (h : ¬ (c = 13 ∧ d = 10)) : less (c :: d :: r) = c :: less (d :: r) := by
  rw [less]; intro r' h1 h2; injection h2 with h3 h4; exact h ⟨h1, h3⟩
theorem glue_ne (sep p : List UInt8) {ps : List (List UInt8)} (h : ps ≠ []) : glue sep (p :: ps) = p ++ (sep ++ glue sep ps) := by
  cases ps with
  | nil => exact absurd rfl h
  | cons q r => rfl
theorem glue_cutCR : ∀ (l cur : List UInt8), glue [10] (cutCR cur l) = cur ++ less l
  | [], cur => by simp [cutCR, glue, less]
  | [c], cur => by simp [cutCR, glue, less]
  | c :: d :: r, cur => by
    by_cases h : c = 13 ∧ d = 10
    · rw [h.1, h.2, cutCR, glue_ne _ _ (cutCR_ne _ _), glue_cutCR r [], less]
      simp
    · have : cutCR cur (c :: d :: r) = cutCR (cur ++ [c]) (d :: r) := by
        rw [cutCR]; intro r' h1 h2; injection h2 with h3 h4; exact h ⟨h1, h3⟩
      rw [this, glue_cutCR (d :: r), less_cons h]
      simp
theorem occCR_nil : ∀ (l : List UInt8) (i : Nat), occCR i l = [] → less l = l
  | [], _, _ => by simp [less]
  | [c], _, _ => by simp [less]
  | c :: d :: r, i, h => by
    by_cases hc : c = 13 ∧ d = 10
    · rw [hc.1, hc.2, occCR] at h; simp at h
    · have : occCR i (c :: d :: r) = occCR (i + 1) (d :: r) := by
        rw [occCR]; intro r' h1 h2; injection h2 with h3 h4; exact hc ⟨h1, h3⟩
      rw [this] at h
      rw [less_cons hc, occCR_nil (d :: r) _ h]

/-- what replace(CRLF, LF) gives -/
theorem replace_less (b : Array UInt8) : replB b #[13, 10] #[10] = (less b.toList).toArray := by
  apply Array.ext'
  unfold replB
  rw [occ_CR]
  split
  · rename_i h
    rw [List.isEmpty_iff] at h
    simp [occCR_nil _ _ h]
  · rw [between_pieces, joined_glue]
    have := pieces_CR b b.size b.size 0 0 (Nat.le_refl _) (by simp) (Nat.le_refl _)
    simp only [List.drop_zero] at this
    show glue [10] ((pieces b 2 0 (occCR 0 b.toList)).map Array.toList) = _
    rw [this, glue_cutCR]
    simp
theorem less_length : ∀ l : List UInt8, (less l).length ≤ l.length
  | [] => by simp [less]
  | [c] => by simp [less]
  | c :: d :: r => by
    by_cases hc : c = 13 ∧ d = 10
    · rw [hc.1, hc.2, less]; have := less_length r; simp; omega
    · rw [less_cons hc]; have := less_length (d :: r); simp at this ⊢; omega

/-- a piece without its CR at the end -/
def strip (p : List UInt8) : List UInt8 := if p.getLast? = some 13 then p.dropLast else p
/-- all pieces but the last, stripped -/
def stripAll : List (List UInt8) → List (List UInt8)
  | [] => []
  | [p] => [p]
  | p :: q :: r => strip p :: stripAll (q :: r)
theorem cutLF_ne : ∀ (l cur : List UInt8), cutLF cur l ≠ []
  | [], cur => by simp [cutLF]
  | c :: r, cur => by
    rw [cutLF]; split
    · simp
    · exact cutLF_ne _ _
theorem stripAll_ne {ps : List (List UInt8)} (h : ps ≠ []) : stripAll ps ≠ [] := by
  match ps with
  | [] => exact absurd rfl h
  | [p] => simp [stripAll]
  | p :: q :: r => simp [stripAll]
theorem stripAll_cons (p : List UInt8) {ps : List (List UInt8)} (h : ps ≠ []) : stripAll (p :: ps) = strip p :: stripAll ps := by
  cases ps with
  | nil => exact absurd rfl h
  | cons q r => rfl
theorem strip_glue (p r : List UInt8) : strip p ++ (13 :: 10 :: r) = p ++ (if p.getLast? = some 13 then 10 :: r else 13 :: 10 :: r) := by
  unfold strip
  by_cases h : p.getLast? = some 13
  · rw [if_pos h, if_pos h]
    obtain ⟨q, rfl⟩ : ∃ q, p = q ++ [13] := by
      rw [List.getLast?_eq_some_iff] at h; exact h
    simp
  · rw [if_neg h, if_neg h]
theorem glue_cutLF : ∀ (l cur : List UInt8), glue [13, 10] (stripAll (cutLF cur l)) = cur ++ more (cur.getLast? == some 13) l
  | [], cur => by simp [cutLF, stripAll, glue, more]
  | c :: r, cur => by
    rw [cutLF, more]
    by_cases hc : c = 10
    · rw [if_pos hc, if_pos hc, stripAll_cons _ (cutLF_ne _ _), glue_ne _ _ (stripAll_ne (cutLF_ne _ _)), glue_cutLF r []]
      show strip cur ++ (13 :: 10 :: more false r) = _
      rw [strip_glue]
      by_cases h : cur.getLast? = some 13
      · simp [h]
      · have : (cur.getLast? == some 13) = false := beq_eq_false_iff_ne.mpr h
        rw [if_neg h, this]; rfl
    · rw [if_neg hc, if_neg hc, glue_cutLF r]
      simp
theorem occLF_nil : ∀ (l cur : List UInt8) (i : Nat), occLF i l = [] → cutLF cur l = [cur ++ l]
  | [], cur, _, _ => by simp [cutLF]
  | c :: r, cur, i, h => by
    rw [occLF] at h
    by_cases hc : c = 10
    · rw [if_pos hc] at h; simp at h
    · rw [if_neg hc] at h
      rw [cutLF, if_neg hc, occLF_nil r _ _ h]; simp
/-- what split(LF) gives -/
theorem split_cut (b : Array UInt8) : (splitB b #[10]).map Array.toList = cutLF [] b.toList := by
  unfold splitB
  rw [occ_LF]
  split
  · rename_i h
    rw [List.isEmpty_iff] at h
    rw [occLF_nil _ [] _ h]; simp
  · rw [between_pieces]
    have := pieces_LF b b.size 0 0 (by simp) (Nat.le_refl _)
    simp only [List.drop_zero] at this
    show (pieces b 1 0 (occLF 0 b.toList)).map Array.toList = _
    rw [this]
    simp
theorem more_length : ∀ (l : List UInt8) (p : Bool), (more p l).length ≤ 2 * l.length
  | [], p => by simp [more]
  | c :: r, p => by
    rw [more]
    split
    · split
      · have := more_length r false; simp; omega
      · have := more_length r false; simp; omega
    · have := more_length r (c == 13); simp; omega
theorem cutLF_length : ∀ (l cur : List UInt8), (cutLF cur l).length ≤ l.length + 1
  | [], cur => by simp [cutLF]
  | c :: r, cur => by
    rw [cutLF]; split
    · have := cutLF_length r []; simp; omega
    · have := cutLF_length r (cur ++ [c]); simp; omega
theorem cutLF_sizes : ∀ (l cur p : List UInt8), p ∈ cutLF cur l → p.length ≤ cur.length + l.length
  | [], cur, p, h => by simp [cutLF] at h; subst h; simp
  | c :: r, cur, p, h => by
    rw [cutLF] at h
    split at h
    · rcases List.mem_cons.mp h with rfl | h
      · simp
      · have := cutLF_sizes r [] p h; simp at this ⊢; omega
    · have := cutLF_sizes r _ p h; simp at this ⊢; omega
end Mine
end
section
open PySem PySem.W PySem.Calls PySem.Spec PyProof.Rows
namespace Mine
set_option maxRecDepth 100000
open Builtin
section
variable {prog : Program} {w : World} {A : Around} {E : Value → Shared → Prop} {s : Shared} {h₀ : Heap} {L l l2 : Addr} {m : PySem.Str → Option Value} {news : List (Addr × Obj)} {vs ws : List Value} {bs cs : List (Array UInt8)} {b c : Array UInt8} {t u : Tok} {Q : Value → Shared → Prop}

theorem len_B (hl : s.heap.IsList l vs.toArray) (hb : BytesAre vs bs) (hn : bs.length ≤ 16777216) (h : ∀ t k, Q (.int bs.length t) { s with toks := k }) : wpAny (model prog w) A (call (.builtin "len") [.ref l]) Q E s := by
  refine len_list hl ?_ ?_
  · simp [hb.length]; omega
  · have := h (s.toks + 1) (s.toks + 1 + 1)
    simpa [hb.length] using this
theorem item_B {value slice : PySem.Expr} {k : Int} (hl : s.heap.IsList l vs.toArray) (hb : BytesAre vs bs) (h0 : 0 ≤ k) (h1 : k < bs.length) (hn : bs.length ≤ 16777216) (h : ∀ t, Q (.bytes (bs.getD k.toNat #[]) t) s)
    (hs : subscripted slice false (.ref l) (.int k u) = operate [.ref l, .int k u] (getItem (.ref l) (.int k u)) := by with_unfolding_all rfl) (hg : ∀ r, letTemporaryGo value (.ref l) r = pure () := by intro _; with_unfolding_all rfl) :
    wpAny (model prog w) A (subscriptTail value slice (.ref l) (.int k u)) Q E s := by
  have hk : k.toNat < bs.length := by omega
  obtain ⟨t, ht⟩ := hb.get (List.getElem?_eq_getElem hk)
  refine item_listL hl h0 (by omega) ht ?_ hs hg
  have := h t
  rwa [List.getD_eq_getElem?_getD, List.getElem?_eq_getElem hk] at this
theorem add_B (F : Fr h₀ L s.heap m) (N : News h₀ L s.heap news) (hl : s.heap.IsList l vs.toArray) (hl2 : s.heap.IsList l2 ws.toArray) (hv : BytesAre vs bs) (hw : BytesAre ws cs) (hn : bs.length + cs.length ≤ 16777216)
    (h : ∀ a h', (∀ p ∈ news, p.1 < a) → Fr h₀ L h' m → News h₀ L h' ((a, W.listOf (vs ++ ws).toArray 0) :: news) → BytesAre (vs ++ ws) (bs ++ cs) → Q (.ref a) { s with heap := h' }) :
    wpAny (model prog w) A (binaryOp .Add (.ref l) (.ref l2)) Q E s := by
  refine add_arrays F N hl hl2 (fun h' F' N' => ?_) (by simp [hv.length, hw.length, sizeLine_eq]; exact hn)
  exact h _ h' (fun p hp => Heap.lt_size (N p hp).1) F' (by simpa using N') (hv.append hw)

theorem eq_B : MeetsSeq.EqGives (.bytes b t) (.bytes c u) (b.toList == c.toList) := by
  intro prog w A E s Q h
  unfold eqBool
  refine wpAny_holding ?_
  refine wpAny_ite_split (fun hab => ?_) (fun hab => ?_)
  · have e : b = c := by have := eq_of_beq hab; injection this
    subst e
    exact wpAny_bind (wpAny_rule (wpAny_pure (by simpa using h)))
  · exact wpAny_bind (richCompare_gives (typeIs_bytes s b t) (typeIs_bytes s c u) FB.slot_bytes_eq FB.entry_bytes_eq (FB.args_bytes_eq_2 _ _) (gives_bytes_eq b c t u) (by simp [Made.takes]) (wpAny_truthy_bool h))

/-- the items that are this one -/
def isB (c : Array UInt8) : Value → Bool
  | .bytes b _ => b.toList == c.toList
  | _ => false
theorem any_isB (hb : BytesAre vs bs) : vs.toArray.any (isB c) = bs.any (· == c) := by
  rw [List.any_toArray]
  have e : vs.any (isB c) = (vs.map bval).any (fun o => o == some c) := by
    rw [List.any_map]
    congr 1
    funext v
    cases v <;> simp [isB, bval]
  rw [e, hb, List.any_map]
  congr 1
theorem in_B (hl : s.heap.IsList l vs.toArray) (hb : BytesAre vs bs) (h : Q (.bool (bs.any (· == c))) s) : wpAny (model prog w) A (compareOp .In (.bytes c u) (.ref l)) Q E s := by
  refine SeqInW.in_listW (isB c) (fun y hy => ?_) hl (by rw [any_isB hb]; exact h)
  obtain ⟨b, t, rfl, _⟩ := hb.mem (List.mem_toArray.mp hy)
  exact eq_B
theorem notIn_B (hl : s.heap.IsList l vs.toArray) (hb : BytesAre vs bs) (h : Q (.bool (!bs.any (· == c))) s) : wpAny (model prog w) A (compareOp .NotIn (.bytes c u) (.ref l)) Q E s := by
  refine SeqInW.notIn_listW (isB c) (fun y hy => ?_) hl (by rw [any_isB hb]; exact h)
  obtain ⟨b, t, rfl, _⟩ := hb.mem (List.mem_toArray.mp hy)
  exact eq_B


theorem ne_BL (hl : s.heap.IsList l vs.toArray) (hb : BytesAre vs bs) (hl2 : s.heap.IsList l2 ws.toArray) (hc : BytesAre ws cs) (hu : A.units < cLine) (h : Q (.bool (decide (bs ≠ cs))) s) :
    wpAny (model prog w) A (compareOp .NotEq (.ref l) (.ref l2)) Q E s := by
  refine cmp_ofNotEq ?_
  by_cases hn : bs.length = cs.length
  · have hsz : vs.toArray.size = ws.toArray.size := by simp [hb.length, hc.length, hn]
    refine SeqAt.RcNeAt.lists (e := fun j => (bs.getD j #[]).toList == (cs.getD j #[]).toList) hl hl2 hsz hu (fun j h1 h2 => ?_) prog w E Q ?_
    · have k1 : j < bs.length := by have := hb.length; simp at h1; omega
      have k2 : j < cs.length := by omega
      obtain ⟨t1, e1⟩ := hb.get (List.getElem?_eq_getElem k1)
      obtain ⟨t2, e2⟩ := hc.get (List.getElem?_eq_getElem k2)
      have g1 : vs.toArray[j] = .bytes bs[j] t1 := by
        have : vs[j]'(by simpa using h1) = .bytes bs[j] t1 := by rw [List.getElem_eq_iff]; exact e1
        simpa using this
      have g2 : ws.toArray[j] = .bytes cs[j] t2 := by
        have : ws[j]'(by simpa using h2) = .bytes cs[j] t2 := by rw [List.getElem_eq_iff]; exact e2
        simpa using this
      rw [g1, g2, List.getD_eq_getElem?_getD, List.getElem?_eq_getElem k1, List.getD_eq_getElem?_getD, List.getElem?_eq_getElem k2]
      exact eq_B.at _ _
    · have e : (!(List.range vs.toArray.size).all fun j => (bs.getD j #[]).toList == (cs.getD j #[]).toList) = decide (bs ≠ cs) := by
        by_cases q : bs = cs
        · subst q; simp
        · have : ¬ ((List.range vs.toArray.size).all fun j => (bs.getD j #[]).toList == (cs.getD j #[]).toList) = true := by
            intro hall
            apply q
            apply List.ext_getElem hn
            intro j k1 k2
            have := List.all_eq_true.mp hall j (by simp [hb.length]; exact k1)
            rw [List.getD_eq_getElem?_getD, List.getElem?_eq_getElem k1, List.getD_eq_getElem?_getD, List.getElem?_eq_getElem k2] at this
            exact Array.ext' (beq_iff_eq.mp this)
          rw [Bool.not_eq_true] at this
          rw [this]; simp [q]
      rw [e]; exact h
  · have hsz : (vs.toArray.size != ws.toArray.size) = true := by simp [hb.length, hc.length, hn]
    refine SeqAt.RcNeAt.lists_lengths hl hl2 hsz hu prog w E Q ?_
    have : bs ≠ cs := fun q => hn (by rw [q])
    simpa [this] using h
end
section
variable {prog : Program} {w : World} {A : Around} {E : Value → Shared → Prop} {s : Shared} {h₀ : Heap} {L l : Addr} {m : PySem.Str → Option Value} {news : List (Addr × Obj)} {vs : List Value} {bs : List (Array UInt8)} {b : Array UInt8} {t u : Tok} {Q : Value → Shared → Prop} {value slice : PySem.Expr} {pl pu : Value} {lo hi : Option Int}
theorem slice_any (hF : Fr h₀ L s.heap m) (hN : News h₀ L s.heap news) (hl : IsPart pl lo) (hu : IsPart pu hi) (hz : b.size ≤ 16777216)
    (h : ∀ h' t' k, Fr h₀ L h' m → News h₀ L h' news → Q (.bytes (KBy.picked b lo hi) t') { s with heap := h', toks := k })
    (hs : subscripted slice false (.bytes b t) (.ref s.heap.objs.size) = operate [.ref s.heap.objs.size, .bytes b t] (getItem (.bytes b t) (.ref s.heap.objs.size)) := by with_unfolding_all rfl)
    (ht : ∀ r, letTemporaryGo value (.bytes b t) r = pure () := by intro _; with_unfolding_all rfl) :
    wpAny (model prog w) A (subscriptTail value slice (.bytes b t) (.ref s.heap.objs.size)) Q E { s with heap := s.heap.push { cls := .type "slice", data := .fields #[pl, pu, .none] } } :=
  tail_of_ItemOn ⟨"bytes", _, FB.slot_bytes_getitem.lookup, typeIs_bytes _ _ _, getItem_meets (typeIs_bytes _ _ _) (by decide) FB.slot_bytes_getitem FB.entry_bytes_getitem (FB.args_bytes_getitem_2 _ _) (KBc.meets_slice2 b t _ hl hu)
    ⟨Heap.IsSliceOf.new _ _ _ _, Nat.le_trans (KBc.size_picked_le b lo hi) (by rw [sizeLine_eq]; exact hz), fun t' k => h _ _ _ (hF.push _) (News.pushKeep hN _)⟩⟩ hs ht
/-- what a cut of a list takes -/
def cutL (bs : List (Array UInt8)) (lo hi : Option Int) : List (Array UInt8) := (bs.drop (lo.elim 0 (clipAt bs.length))).take (hi.elim bs.length (clipAt bs.length) - lo.elim 0 (clipAt bs.length))
theorem slicePick_list (vs : List Value) (lo hi : Option Int) : slicePick vs.toArray lo hi none = ((vs.drop (lo.elim 0 (clipAt vs.length))).take (hi.elim vs.length (clipAt vs.length) - lo.elim 0 (clipAt vs.length))).toArray := by
  rw [slicePick_plain]
  simp
theorem BytesAre.cut (hb : BytesAre vs bs) (lo hi : Option Int) : BytesAre ((vs.drop (lo.elim 0 (clipAt vs.length))).take (hi.elim vs.length (clipAt vs.length) - lo.elim 0 (clipAt vs.length))) (cutL bs lo hi) := by
  unfold cutL
  rw [hb.length]
  exact (hb.drop _).take _
theorem slice_B (F : Fr h₀ L s.heap m) (N : News h₀ L s.heap news) (hl : s.heap.IsList l vs.toArray) (hb : BytesAre vs bs) (p1 : IsPart pl lo) (p2 : IsPart pu hi) (hn : bs.length ≤ 16777216)
    (h : ∀ a h' us, (∀ p ∈ news, p.1 < a) → Fr h₀ L h' m → News h₀ L h' ((a, W.listOf us.toArray 0) :: news) → BytesAre us (cutL bs lo hi) → Q (.ref a) { s with heap := h' })
    (hs : subscripted slice false (.ref l) (.ref s.heap.objs.size) = operate [.ref s.heap.objs.size, .ref l] (getItem (.ref l) (.ref s.heap.objs.size)) := by with_unfolding_all rfl)
    (ht : ∀ r, letTemporaryGo value (.ref l) r = pure () := by intro _; with_unfolding_all rfl) :
    wpAny (model prog w) A (subscriptTail value slice (.ref l) (.ref s.heap.objs.size)) Q E { s with heap := s.heap.push { cls := .type "slice", data := .fields #[pl, pu, .none] } } := by
  refine slice_list F N hl p1 p2 (fun h' F' N' => ?_) hs ht (by simp [hb.length, sizeLine_eq]; exact hn)
  rw [slicePick_list] at N'
  exact h _ h' _ (fun p hp => Nat.lt_succ_of_lt (Heap.lt_size (N p hp).1)) F' N' (hb.cut _ _)
end
end Mine
end
section
open PySem PySem.W PySem.Calls PySem.Spec PyProof.Rows
namespace Mine
set_option maxRecDepth 100000
open Builtin

theorem find_some (b sub : Array UInt8) : (Bytes.find? b sub 0 b.size).isSome = true ↔ ∃ i, i < b.size + 1 - sub.size ∧ (b.toList.drop i).take sub.size = sub.toList := by
  unfold Bytes.find?
  rw [List.find?_isSome]
  simp only [Nat.zero_add, Nat.add_zero, List.map_id', List.mem_range]
  constructor
  · rintro ⟨i, hi, h⟩; rw [ext_eq] at h; exact ⟨i, hi, of_decide_eq_true h⟩
  · rintro ⟨i, hi, h⟩; exact ⟨i, hi, by rw [ext_eq]; exact decide_eq_true h⟩
theorem find_one (b : Array UInt8) (x : UInt8) : (Bytes.find? b #[x] 0 b.size).isSome = b.toList.contains x := by
  rw [Bool.eq_iff_iff, find_some, List.contains_iff_mem]
  constructor
  · rintro ⟨i, hi, h⟩
    have : x ∈ (b.toList.drop i).take 1 := by
      have h' : (b.toList.drop i).take 1 = [x] := h
      rw [h']; exact List.mem_singleton_self x
    exact List.mem_of_mem_drop (List.mem_of_mem_take this)
  · intro h
    obtain ⟨i, hi, e⟩ := List.getElem_of_mem h
    refine ⟨i, by simp at hi ⊢; omega, ?_⟩
    rw [List.drop_eq_getElem_cons hi]
    simp only [e]
    rfl
def hasCR : List UInt8 → Bool
  | 13 :: 10 :: _ => true
  | _ :: r => hasCR r
  | [] => false
theorem hasCR_cons {c d : UInt8} {r : List UInt8} (h : ¬ (c = 13 ∧ d = 10)) : hasCR (c :: d :: r) = hasCR (d :: r) := by
  rw [hasCR]; intro r' h1 h2; injection h2 with h3 h4; exact h ⟨h1, h3⟩
theorem hasCR_iff : ∀ l : List UInt8, hasCR l = true ↔ ∃ i, (l.drop i).take 2 = [13, 10]
  | [] => by simp [hasCR]
  | [c] => by
    simp [hasCR]
    intro i
    cases i <;> simp
  | c :: d :: r => by
    by_cases h : c = 13 ∧ d = 10
    · rw [h.1, h.2, hasCR]
      exact ⟨fun _ => ⟨0, rfl⟩, fun _ => rfl⟩
    · rw [hasCR_cons h, hasCR_iff (d :: r)]
      constructor
      · rintro ⟨i, hi⟩; exact ⟨i + 1, by simpa using hi⟩
      · rintro ⟨i, hi⟩
        cases i with
        | zero => simp at hi; exact absurd hi h
        | succ i => exact ⟨i, by simpa using hi⟩
theorem find_CR (b : Array UInt8) : (Bytes.find? b #[13, 10] 0 b.size).isSome = hasCR b.toList := by
  rw [Bool.eq_iff_iff, find_some, hasCR_iff]
  constructor
  · rintro ⟨i, _, h⟩; exact ⟨i, h⟩
  · rintro ⟨i, h⟩
    refine ⟨i, ?_, h⟩
    have := congrArg List.length h
    simp at this ⊢
    omega
theorem picked_upto (b : Array UInt8) (n : Nat) : (KBy.picked b none (some (n : Int))).toList = b.toList.take n := by
  rw [KBc.picked_eq]
  simp [clipAt_nat]
theorem picked_butlast (b : Array UInt8) : (KBy.picked b none (some (-1))).toList = b.toList.dropLast := by
  rw [KBc.picked_eq]
  have : clipAt b.size (-1) = b.size - 1 := clipAt_neg b.size 1 (by omega)
  simp [this, List.dropLast_eq_take]

section
variable {prog : Program} {w : World} {M : Model} {A : Around} {E : Value → Shared → Prop} {s : Shared} {h₀ : Heap} {L l l2 : Addr} {m : PySem.Str → Option Value} {news : List (Addr × Obj)} {vs ws : List Value} {bs cs : List (Array UInt8)} {b c : Array UInt8} {t u v : Tok} {Q : Value → Shared → Prop} {pl : Sem Bool}
theorem gm_replace {Q : Value × List Value → Shared → Prop} (h : Q (.builtin "bytes.replace", [.bytes b t]) s) : wpAny M A (getMethod (.bytes b t) "replace" pl) Q E s := by with_reducible exact KBd.method_of (.bytes b t) (typeIs_bytes _ _ _) slot_b_replace type_b_replace KBd.noRef h
theorem gm_split {Q : Value × List Value → Shared → Prop} (h : Q (.builtin "bytes.split", [.bytes b t]) s) : wpAny M A (getMethod (.bytes b t) "split" pl) Q E s := by with_reducible exact KBd.method_of (.bytes b t) (typeIs_bytes _ _ _) slot_b_split type_b_split KBd.noRef h
theorem gm_join {Q : Value × List Value → Shared → Prop} (h : Q (.builtin "bytes.join", [.bytes b t]) s) : wpAny M A (getMethod (.bytes b t) "join" pl) Q E s := by with_reducible exact KBd.method_of (.bytes b t) (typeIs_bytes _ _ _) slot_b_join type_b_join KBd.noRef h
theorem gm_endswith {Q : Value × List Value → Shared → Prop} (h : Q (.builtin "bytes.endswith", [.bytes b t]) s) : wpAny M A (getMethod (.bytes b t) "endswith" pl) Q E s := by with_reducible exact KBd.method_of (.bytes b t) (typeIs_bytes _ _ _) FB.slot_bytes_endswith FB.type_bytes_endswith KBd.noRef h

theorem call_replace (hn : b.size ≤ 8000000) (h : ∀ t k, Q (.bytes (less b.toList).toArray t) { s with toks := k }) : wpAny (model prog w) A (call (.builtin "bytes.replace") [.bytes b t, .bytes #[13, 10] u, .bytes #[10] v]) Q E s := by
  refine call_meets slot_b_replace (typeIs_bytes _ _ _) entry_b_replace (args_b_replace _ _ _) (meets_replace (by decide)) ⟨?_, ?_, fun t' k => ?_⟩
  · have := occ_length b #[13, 10]
    show b.size + (Bytes.occurrences b #[13, 10] 0 b.size).length * 1 ≤ _
    omega
  · rw [replace_less]; have := less_length b.toList; simp at this ⊢; omega
  · rw [replace_less]; exact h t' k
theorem call_split (F : Fr h₀ L s.heap m) (N : News h₀ L s.heap news) (hn : b.size ≤ 8000000)
    (h : ∀ h' vs k, Fr h₀ L h' m → News h₀ L h' ((s.heap.objs.size, W.listOf vs.toArray 0) :: news) → BytesAre vs (splitB b #[10]) → Q (.ref s.heap.objs.size) { s with heap := h', toks := k }) :
    wpAny (model prog w) A (call (.builtin "bytes.split") [.bytes b t, .bytes #[10] u]) Q E s := by
  refine call_meets slot_b_split (typeIs_bytes _ _ _) entry_b_split (args_b_split _ _) (meets_split (by decide)) ⟨fun p hp => ?_, ?_, fun vs k hv => ?_⟩
  · have h1 : p.toList ∈ (splitB b #[10]).map Array.toList := List.mem_map_of_mem hp
    rw [split_cut] at h1
    have := cutLF_sizes _ _ _ h1
    simp at this; omega
  · have h1 := congrArg List.length (split_cut b)
    have := cutLF_length b.toList []
    simp at h1 this; omega
  · exact h _ vs k (F.push _) (N.push F _) hv
theorem call_join (hl : s.heap.IsList l vs.toArray) (hb : BytesAre vs bs) (h1 : bs.foldl (fun n p => n + p.size) (b.size * (bs.length - 1)) ≤ 16777216) (h2 : (Bytes.joined b bs).size ≤ 16777216)
    (h : ∀ t k, Q (.bytes (Bytes.joined b bs) t) { s with toks := k }) : wpAny (model prog w) A (call (.builtin "bytes.join") [.bytes b t, .ref l]) Q E s :=
  call_meets slot_b_join (typeIs_bytes _ _ _) entry_b_join (args_b_join _ _) meets_join ⟨hl, hb, h1, h2, h⟩
theorem call_endswith (h : Q (.bool (b.toList.getLast? == some 13)) s) : wpAny (model prog w) A (call (.builtin "bytes.endswith") [.bytes b t, .bytes #[13] u]) Q E s := by
  refine call_meets FB.slot_bytes_endswith (typeIs_bytes _ _ _) FB.entry_bytes_endswith (FB.args_bytes_endswith_2 _ _) meets_endswith ?_
  have e : (decide ((#[13] : Array UInt8).size ≤ b.size) && b.extract (b.size - (#[13] : Array UInt8).size) b.size == #[13]) = (b.toList.getLast? == some 13) := by
    by_cases h0 : b.size = 0
    · have : b = #[] := Array.eq_empty_of_size_eq_zero h0
      subst this; decide
    · have h1 : b.size - 1 + 1 = b.size := by omega
      have := ext_eq b #[13] (b.size - 1)
      show (decide (1 ≤ b.size) && b.extract (b.size - 1) b.size == #[13]) = _
      simp only [List.size_toArray, List.length_cons, List.length_nil, Nat.zero_add, h1] at this
      rw [this, decide_eq_true (show 1 ≤ b.size by omega), Bool.true_and]
      have hi : b.size - 1 < b.toList.length := by simp; omega
      rw [List.drop_eq_getElem_cons hi, List.getLast?_eq_getElem?]
      have e2 : b.toList.length - 1 = b.size - 1 := by simp
      rw [e2, List.getElem?_eq_getElem hi, Bool.eq_iff_iff]
      simp
  rw [← e] at h
  exact h
theorem call_decode0 {x y : PySem.Str} {tx ty : Tok} (hx : (x.cps.any Str.isSurrogate) = false) (hx0 : x.cps.contains 0 = false) (hy : (y.cps.any Str.isSurrogate) = false) (hy0 : y.cps.contains 0 = false) (h : ∀ t k, Q (.str Str.empty t) { s with toks := k }) :
    wpAny (model prog w) A (call (.builtin "bytes.decode") [.bytes #[] t, .str x tx, .str y ty]) Q E s :=
  call_meets FB.slot_bytes_decode (typeIs_bytes _ _ _) FB.entry_bytes_decode (args_b_decode3 _ _ _) (meets_decode_nil hx hx0 hy hy0) h
theorem in_bytes (F : Fr h₀ L s.heap m) (N : News h₀ L s.heap news) (hh : A.handled = none) (h : ∀ h' k, Fr h₀ L h' m → News h₀ L h' news → Q (.bool (Bytes.find? b c 0 b.size).isSome) { s with heap := h', toks := k }) :
    wpAny (model prog w) A (compareOp .In (.bytes c u) (.bytes b t)) Q E s := by
  refine SeqRoads2.in_meets (typeIs_bytes _ _ _) FB.slot_bytes_contains FB.entry_bytes_contains (FB.args_bytes_contains_2 _ _) meets_contains ⟨hh, fun h' k st => ⟨_, rfl, h h' k ?_ ?_⟩⟩
  · obtain ⟨oL, es, ep, hL, r⟩ := F.ns
    exact ⟨⟨oL, es, ep, st _ _ hL, r⟩, fun b o e => st _ _ (F.keep b o e), F.above⟩
  · exact fun p hp => ⟨st _ _ (N p hp).1, (N p hp).2⟩
theorem notIn_bytes (F : Fr h₀ L s.heap m) (N : News h₀ L s.heap news) (hh : A.handled = none) (h : ∀ h' k, Fr h₀ L h' m → News h₀ L h' news → Q (.bool (!(Bytes.find? b c 0 b.size).isSome)) { s with heap := h', toks := k }) :
    wpAny (model prog w) A (compareOp .NotIn (.bytes c u) (.bytes b t)) Q E s := by
  refine SeqRoads2.notIn_meets (typeIs_bytes _ _ _) FB.slot_bytes_contains FB.entry_bytes_contains (FB.args_bytes_contains_2 _ _) meets_contains ⟨hh, fun h' k st => ⟨_, rfl, h h' k ?_ ?_⟩⟩
  · obtain ⟨oL, es, ep, hL, r⟩ := F.ns
    exact ⟨⟨oL, es, ep, st _ _ hL, r⟩, fun b o e => st _ _ (F.keep b o e), F.above⟩
  · exact fun p hp => ⟨st _ _ (N p hp).1, (N p hp).2⟩
end
end Mine
end
section
open PySem PySem.W PySem.Calls PySem.Spec PyProof.Rows
namespace Mine
set_option maxRecDepth 100000
section
variable {prog : Program} {w : World} {A : Around} {E : Value → Shared → Prop} {s : Shared} {env : Env} {h₀ : Heap} {x : Str} {body : List Stmt} {Q : Flow → Shared → Prop}

theorem iter_vals {l : Addr} {vs : List Value} {m₀ : Str → Option Value} {news : List (Addr × Obj)} (J : Nat → (Str → Option Value) → List (Addr × Obj) → Prop)
    (hh : A.handled = none) (hl : h₀.IsList l vs.toArray) (F : Fr h₀ env.locals s.heap m₀) (N : News h₀ env.locals s.heap news) (hj : J 0 m₀ news)
    (turn : ∀ i v m₁ news₁ h tk own, vs[i]? = some v → news₁.map (·.1) = news.map (·.1) → OwnOff own (news.map (·.1)) → J i m₁ news₁ → Fr h₀ env.locals h (fun y => if y = x then some v else m₁ y) → News h₀ env.locals h (news₁ ++ own) →
      wpAny (model prog w) A (execs body env) (InvPostN h₀ env.locals (J (i + 1)) own (news.map (·.1)) { s with heap := h, toks := tk } Q) E { s with heap := h, toks := tk })
    (done : ∀ m₁ news₁ h tk, J vs.length m₁ news₁ → Fr h₀ env.locals h m₁ → News h₀ env.locals h news₁ → Q .next { s with heap := h, toks := tk }) :
    wpAny (model prog w) A (pyIter (.ref l)) (fun it s₂ => LoopAtV prog w A h₀ env x body Q E it s₂) E s := by
  have hls := F.lst hl
  have hlt : l < h₀.objs.size := by obtain ⟨o, ho, _⟩ := hl; exact Heap.lt_size ho
  have hlL : l < env.locals := Nat.lt_of_lt_of_le hlt F.above
  have hLs : env.locals < s.heap.objs.size := F.ns.lt
  have hne : l ≠ s.heap.objs.size := Nat.ne_of_lt (Nat.lt_trans hlL hLs)
  refine wpAny_pyIter_list hls ?_
  refine loop_invN (s := { s with heap := s.heap.push _ }) J (Walks.list hh s.heap.objs.size l hne vs.toArray) ?_ ?_ ?_ ?_ ⟨⟨_, Heap.get?_push_size _ rfl, rfl, rfl⟩, hls.push _⟩ (F.push _) (fun p hp => ⟨Heap.get?_push_of_some _ (N p hp).1, (N p hp).2⟩) hj ?_ ?_
  · intro hm
    simp only [List.mem_cons, List.not_mem_nil, or_false] at hm
    rcases hm with e | e
    · exact absurd hLs (e ▸ Nat.lt_irrefl _)
    · exact absurd hlL (e ▸ Nat.lt_irrefl _)
  · intro b hb
    rw [List.mem_singleton.mp hb]
    exact next_is_new F
  · intro p hp hI
    have := Heap.lt_size (N p hp).1
    rw [List.mem_singleton.mp hI] at this
    exact absurd this (Nat.lt_irrefl _)
  · intro p hp hI
    have h1 := Heap.lt_size (N p hp).1
    simp only [List.mem_cons, List.not_mem_nil, or_false] at hI
    rcases hI with e | e
    · rw [e] at h1; exact absurd h1 (Nat.lt_irrefl _)
    · have h2 := (N p hp).2.2
      obtain ⟨o, ho, _⟩ := hl
      rw [e, ho] at h2; cases h2
  · intro i v m₁ news₁ h tk own hi hP
    exact turn i v m₁ news₁ h tk own (by simpa using hP)
  · intro m₁ news₁ h tk hJ
    exact done m₁ news₁ h tk (by simpa using hJ)

theorem iter_range {r : Addr} {b₀ : Int} {t₀ u₀ v₀ : Tok} {n : Nat} {m₀ : Str → Option Value} {news : List (Addr × Obj)} (J : Nat → (Str → Option Value) → List (Addr × Obj) → Prop)
    (hh : A.handled = none) (hr : IsRange s.heap r 0 b₀ 1 t₀ u₀ v₀) (hb : b₀ = (n : Int)) (hn : n ≤ 16777216) (F : Fr h₀ env.locals s.heap m₀) (N : News h₀ env.locals s.heap news) (hj : J 0 m₀ news)
    (turn : ∀ i t m₁ news₁ h tk own, i < n → news₁.map (·.1) = news.map (·.1) → OwnOff own (news.map (·.1)) → J i m₁ news₁ → Fr h₀ env.locals h (fun y => if y = x then some (.int (i : Int) t) else m₁ y) → News h₀ env.locals h (news₁ ++ own) →
      wpAny (model prog w) A (execs body env) (InvPostN h₀ env.locals (J (i + 1)) own (news.map (·.1)) { s with heap := h, toks := tk } Q) E { s with heap := h, toks := tk })
    (done : ∀ m₁ news₁ h tk, J n m₁ news₁ → Fr h₀ env.locals h m₁ → News h₀ env.locals h news₁ → Q .next { s with heap := h, toks := tk }) :
    wpAny (model prog w) A (pyIter (.ref r)) (fun it s₂ => LoopAtV prog w A h₀ env x body Q E it s₂) E s := by
  subst hb
  have hsz : Builtin.Range.rangeSize 0 (n : Int) 1 = (n : Int) := by unfold Builtin.Range.rangeSize; simp; omega
  have hsm : Builtin.Range.small 0 (n : Int) 1 = true := by
    unfold Builtin.Range.small
    rw [hsz]
    simp [Builtin.Range.rangeFitsLong]
    omega
  refine wpAny_pyIter_range hr hsm ?_
  have W : Walks prog w A s.heap.objs.size [s.heap.objs.size] [s.heap.objs.size] n (fun i v => ∃ t, v = .int (0 + (i : Int) * 1) t)
      (fun i h => IsRangeIter h s.heap.objs.size (0 + (i : Nat) * 1) ((n : Int) - (i : Nat)) 1) := Walks.range hh _ 0 1 n
  refine loop_invN (s := { s with heap := s.heap.push _ }) J W ?_ ?_ ?_ ?_ (by show IsRangeIter _ _ _ _ _; rw [hsz]; simpa using Heap.get?_push_size _ rfl) (F.push _) (fun p hp => ⟨Heap.get?_push_of_some _ (N p hp).1, (N p hp).2⟩) hj ?_ done
  · intro hm
    exact absurd F.ns.lt ((List.mem_singleton.mp hm) ▸ Nat.lt_irrefl _)
  · intro b hb
    rw [List.mem_singleton.mp hb]
    exact next_is_new F
  · intro p hp hI
    exact absurd (Heap.lt_size (N p hp).1) ((List.mem_singleton.mp hI) ▸ Nat.lt_irrefl _)
  · intro p hp hI
    exact absurd (Heap.lt_size (N p hp).1) ((List.mem_singleton.mp hI) ▸ Nat.lt_irrefl _)
  · rintro i v m₁ news₁ h tk own hi ⟨t, rfl⟩ a b c F₁ N₁
    have e1 : (0 : Int) + (i : Int) * 1 = (i : Int) := by omega
    rw [e1] at F₁
    exact turn i t m₁ news₁ h tk own hi a b c F₁ N₁
end
end Mine
end
section
open PySem PySem.W PySem.Calls PySem.Spec PyProof.Rows
namespace Mine
set_option maxRecDepth 100000
section
variable {prog : Program} {w : World} {A : Around} {s : Shared} {env : Env} {h₀ : Heap}

def EnumPost (h₀ : Heap) (L : Addr) (kept : List (Addr × Obj)) (J : (Str → Option Value) → List (Addr × Obj) → Prop) (s₁ : Shared) (Q : Flow → Shared → Prop) (f : Flow) (s₂ : Shared) : Prop :=
  match f with
  | .ret v => Q (.ret v) s₂
  | .brk => Q .next s₂
  | _ => ∃ h' tk' m' nx', s₂ = { s₁ with heap := h', toks := tk' } ∧ Fr h₀ L h' m' ∧ News h₀ L h' (nx' ++ kept) ∧ (∀ p ∈ nx', ∀ q ∈ kept, p.1 ≠ q.1) ∧ J m' nx'
theorem enumPost_end {h₀ : Heap} {L : Addr} {kept news : List (Addr × Obj)} {J : (Str → Option Value) → List (Addr × Obj) → Prop} {s₁ : Shared} {Q : Flow → Shared → Prop} {h' : Heap} {tk' : Nat} {m' : Str → Option Value} (nx' : List (Addr × Obj))
    (F : Fr h₀ L h' m') (N : News h₀ L h' news) (h1 : ∀ p ∈ nx', p ∈ news) (h2 : ∀ p ∈ kept, p ∈ news) (h3 : ∀ p ∈ nx', ∀ q ∈ kept, p.1 ≠ q.1) (hj : J m' nx') : EnumPost h₀ L kept J s₁ Q .next { s₁ with heap := h', toks := tk' } :=
  ⟨h', tk', m', nx', rfl, F, fun p hp => N p ((List.mem_append.mp hp).elim (h1 p) (h2 p)), h3, hj⟩

theorem enum_loop {R : Result → Shared → Prop} {xi xc : Str} {pk pv pt : Pos} {x1 : Nat} {body : List Stmt} {e it l : Addr} {ol : Obj} {items : Array Value} {nn : Nat} {m : Str → Option Value} {nx : List (Addr × Obj)} {old : Value}
    (hh : A.handled = none) (hei : e ≠ it) (hle : l ≠ e) (hli : l ≠ it) (hol : ol = W.listOf items nn)
    (hxi : env.kindOf xi = some .local) (hxc : env.kindOf xc = some .local)
    (hp : (env.scope.kind == .class || (env.scope.kind == .module && env.locals != env.globals)) = false)
    (hL : env.locals ∉ [e, it, l]) (hn : ∀ b ∈ [e, it, l], h₀.get? b = none)
    (he : IsEnum s.heap e it 0 old) (hit : s.heap.IsListIter it l 0) (hl : s.heap.get? l = some ol)
    (F : Fr h₀ env.locals s.heap m) (N : News h₀ env.locals s.heap nx) (hap : ∀ p ∈ nx, p.1 ∉ [e, it, l])
    (J : Nat → (Str → Option Value) → List (Addr × Obj) → Prop) (h0 : J 0 m nx)
    (step : ∀ i v t m₁ nx₁ h tk oe oi, items[i]? = some v → J i m₁ nx₁ → (∀ p ∈ nx₁, p.1 ∉ [e, it, l]) →
      Fr h₀ env.locals h (fun y => if y = xc then some v else if y = xi then some (.int (i : Int) t) else m₁ y) → News h₀ env.locals h (nx₁ ++ [(e, oe), (it, oi), (l, ol)]) →
      wpAny (model prog w) A (execs body env) (EnumPost h₀ env.locals [(e, oe), (it, oi), (l, ol)] (J (i + 1)) { s with heap := h, toks := tk } (fun f s' => R (.ok f) s')) (notedBy (model prog w) A env fun e s' => R (.error e) s') { s with heap := h, toks := tk })
    (hR : ∀ h' tk m' nx', Fr h₀ env.locals h' m' → News h₀ env.locals h' nx' → J items.size m' nx' → R (.ok .next) { s with heap := h', toks := tk }) :
    codeAny (model prog w) A (.forLoop (.Tuple [.Name xi pk, .Name xc pv] x1 pt) (.ref e) body [] env) R s := by
  have W := WalksT.enumerate (prog := prog) (w := w) hh e it l hei hle hli items
  have wr : ∀ b, b ∈ [e, it] → b ∈ [e, it, l] := fun b hb => W.sub b hb
  have old' : ∀ b o, h₀.get? b = some o → b ∉ [e, it] := fun b o q hb => by rw [hn b (wr b hb)] at q; cases q
  have lst : ∀ {h : Heap}, h.get? l = some ol → h.IsList l items := fun q => ⟨_, q, by rw [hol], nn, by rw [hol]⟩
  refine codeAny_forLoop_any
    (fun k s' => ∃ h' tk m' nx', ∃ i : Nat, s' = { s with heap := h', toks := tk } ∧ ((∃ old, IsEnum h' e it i old) ∧ h'.IsListIter it l i ∧ h'.get? l = some ol) ∧ Fr h₀ env.locals h' m' ∧ News h₀ env.locals h' nx' ∧ (∀ p ∈ nx', p.1 ∉ [e, it, l]) ∧ J i m' nx' ∧ i ≤ items.size ∧ k = items.size + 1 - i) ?_ (items.size + 1)
    ⟨s.heap, s.toks, m, nx, 0, rfl, ⟨⟨old, he⟩, hit, hl⟩, F, N, hap, h0, Nat.zero_le _, rfl⟩
  rintro k s' ⟨H, tk, m', nx', i, rfl, ⟨hen, hit', hl'⟩, F', N', hap', hJ, hi, rfl⟩
  have next : ∀ h₁ : Heap, (∀ b o, b ∉ [e, it] → H.get? b = some o → h₁.get? b = some o) → Fr h₀ env.locals h₁ m' ∧ News h₀ env.locals h₁ nx' ∧ h₁.get? l = some ol := fun h₁ hk₁ =>
    ⟨⟨F'.ns.at' fun o q => hk₁ _ o (fun hb => hL (wr _ hb)) q, fun b o q => hk₁ b o (old' b o q) (F'.keep b o q), F'.above⟩,
     fun p hp => ⟨hk₁ _ _ (fun hb => hap' p hp (wr _ hb)) (N' p hp).1, (N' p hp).2⟩, hk₁ _ _ (by simp [hle, hli]) hl'⟩
  by_cases hlt : i < items.size
  · refine W.item i _ _ _ hlt ⟨hen, hit', lst hl'⟩ fun T vals h₁ tk₁ hPt _ hT hMid hk₁ => ?_
    obtain ⟨t, v, hv, rfl⟩ := hPt
    refine W.go _ x1 pt i T _ _ _ hMid fun h₂ hst₂ hk₂ => ?_
    have ht₂ : h₂.IsTuple T #[.int i t, v] := hT.at fun o q => hk₂ T o (W.apart i T h₁ hMid) q
    refine wpAny_assign_Tuple hh ht₂ rfl rfl fun h₃ hx₃ => ?_
    replace hx₃ : Heap.ExtBut h₂.objs.size h₂ h₃ := hx₃
    have up₃ : ∀ b o, h₂.get? b = some o → h₃.get? b = some o := fun b o x => hx₃ b o (Nat.ne_of_lt (Heap.lt_size x)) x
    obtain ⟨F₃, N₃, hl₃⟩ := next h₃ fun b o hb x => up₃ b o (hk₂ b o hb (hk₁ b o hb x))
    show wpAny _ A (do holding [v] (assign (.Name xi pk) env (.int i t)); holding [] (assign (.Name xc pv) env v); pure ()) _ _ _
    refine wpAny_bind (wpAny_holding (wpAny_assign_Name (wpAny_storeName_local hxi F₃.ns (fun h₄ hn₄ hs₄ => ?_) hp)))
    replace hs₄ : Heap.SameBut env.locals h₃ h₄ := hs₄
    have F₄ := F₃.set hn₄ hs₄
    refine wpAny_bind (wpAny_holding (wpAny_assign_Name (wpAny_storeName_local hxc F₄.ns (fun h₅ hn₅ hs₅ => wpAny_pure ?_) hp)))
    replace hs₅ : Heap.SameBut env.locals h₄ h₅ := hs₅
    have F₅ := F₄.set hn₅ hs₅
    have N₅ : News h₀ env.locals h₅ nx' := (N₃.set hs₄).set hs₅
    have up₅ : ∀ b o, b ∈ [e, it, l] → h₂.get? b = some o → h₅.get? b = some o := fun b o hb q => hs₅.extBut b o (fun z => hL (z ▸ hb)) (hs₄.extBut b o (fun z => hL (z ▸ hb)) (up₃ b o q))
    obtain ⟨⟨oldv, he₂⟩, hit₂, _⟩ := hst₂
    obtain ⟨oi, hoi, hit₂'⟩ := id hit₂
    have he₅ := up₅ e _ (by simp) he₂
    have hi₅ := up₅ it _ (by simp) hoi
    have hl₅ : h₅.get? l = some ol := hs₅.extBut l _ (fun z => hL (z ▸ by simp)) (hs₄.extBut l _ (fun z => hL (z ▸ by simp)) hl₃)
    have neL : ∀ b ∈ [e, it, l], b ≠ env.locals := fun b hb q => hL (q ▸ hb)
    obtain ⟨oe, hoe⟩ : ∃ o, h₅.get? e = some o := ⟨_, he₅⟩
    refine wpAny_mono (step i v t m' nx' h₅ _ oe oi hv hJ hap' F₅ (fun p hp => ?_)) (fun f s₃ h₆ => ?_) fun _ _ z => z
    · rcases List.mem_append.mp hp with hp | hp
      · exact N₅ p hp
      · simp only [List.mem_cons, List.not_mem_nil, or_false] at hp
        rcases hp with rfl | rfl | rfl
        · exact ⟨hoe, neL _ (by simp), hn _ (by simp)⟩
        · exact ⟨hi₅, neL _ (by simp), hn _ (by simp)⟩
        · exact ⟨hl₅, neL _ (by simp), hn _ (by simp)⟩
    have go : (∃ h' tk' m'' nx'', s₃ = { s with heap := h', toks := tk' } ∧ Fr h₀ env.locals h' m'' ∧ News h₀ env.locals h' (nx'' ++ [(e, oe), (it, oi), (l, ol)]) ∧ (∀ p ∈ nx'', ∀ q ∈ [(e, oe), (it, oi), (l, ol)], p.1 ≠ q.1) ∧ J (i + 1) m'' nx'') →
        ∃ m, m < items.size + 1 - i ∧ ∃ h' tk m' nx', ∃ i : Nat, s₃ = { s with heap := h', toks := tk } ∧ ((∃ old, IsEnum h' e it i old) ∧ h'.IsListIter it l i ∧ h'.get? l = some ol) ∧ Fr h₀ env.locals h' m' ∧ News h₀ env.locals h' nx' ∧ (∀ p ∈ nx', p.1 ∉ [e, it, l]) ∧ J i m' nx' ∧ i ≤ items.size ∧ m = items.size + 1 - i := by
      rintro ⟨g₆, tk₆, m₆, nx₆, rfl, F₆, N₆, ap₆, J₆⟩
      refine ⟨items.size + 1 - (i + 1), by omega, g₆, tk₆, m₆, nx₆, i + 1, rfl, ⟨⟨oldv, ?_⟩, ⟨oi, (N₆ (it, oi) (List.mem_append_right _ (by simp))).1, hit₂'⟩, (N₆ (l, ol) (List.mem_append_right _ (by simp))).1⟩, F₆, fun p hp => N₆ p (List.mem_append_left _ hp), ?_, J₆, hlt, rfl⟩
      · exact ((N₆ (e, oe) (List.mem_append_right _ (List.mem_cons_self ..))).1.trans hoe.symm).trans he₅
      · intro p hp hb
        have := ap₆ p hp
        simp only [List.mem_cons, List.not_mem_nil, or_false, forall_eq_or_imp, forall_eq] at this hb
        rcases hb with q | q | q
        · exact this.1 q
        · exact this.2.1 q
        · exact this.2.2 q
    cases f with
    | ret v => exact h₆
    | brk => exact h₆
    | cont => obtain ⟨h₇, tk₇, m₇, nx₇, e7, a, b, c, d⟩ := h₆; exact go ⟨h₇, tk₇, m₇, nx₇, e7, a, b, c, d⟩
    | next => obtain ⟨h₇, tk₇, m₇, nx₇, e7, a, b, c, d⟩ := h₆; exact go ⟨h₇, tk₇, m₇, nx₇, e7, a, b, c, d⟩
  · have hin : i = items.size := by omega
    subst hin
    refine W.done _ _ _ ⟨hen, hit', lst hl'⟩ fun h₁ tk₁ hk₁ => wpAny_execs_nil ?_
    obtain ⟨F₁, N₁, _⟩ := next h₁ hk₁
    exact hR h₁ tk₁ m' nx' F₁ N₁ hJ

/-- the loop behind its iterator -/
def LoopCode (prog : Program) (w : World) (A : Around) (env : Env) (target : Expr) (body : List Stmt) (Q : Flow → Shared → Prop) (E : Value → Shared → Prop) (it : Value) (s₂ : Shared) : Prop :=
  codeAny (model prog w) A (.forLoop target it body [] env) (fun r s' => match r with | .ok f => Q f s' | .error e => cameBackBy (model prog w) A env E e s') s₂
theorem For_code {E : Value → Shared → Prop} {Q : Flow → Shared → Prop} {target iter : Expr} {pos : Pos} {body : List Stmt}
    (h : wpAny (model prog w) A (eval iter env) (fun xv s₁ => wpAny (model prog w) A (pyIter xv) (fun it s₂ => LoopCode prog w A env target body Q E it s₂) E s₁) E s)
    (hs : ∀ x, foldedSetIterable iter env x = pure x := by intro _; rfl) : wpAny (model prog w) A (exec (.For target iter body [] pos) env) Q E s :=
  wpAny_For (wpAny_mono h (fun _ _ h₁ => wpAny_mono h₁ (fun _ _ h₂ => h₂) fun _ _ e => e) fun _ _ e => e) hs

theorem enum_call {E : Value → Shared → Prop} {Q : Flow → Shared → Prop} {xi xc : Str} {pk pv pt : Pos} {x1 : Nat} {body : List Stmt} {l : Addr} {items : Array Value} {nn : Nat} {m : Str → Option Value} {news : List (Addr × Obj)}
    (nx : List (Addr × Obj)) (J : Nat → (Str → Option Value) → List (Addr × Obj) → Prop)
    (hh : A.handled = none) (F : Fr h₀ env.locals s.heap m) (N : News h₀ env.locals s.heap news) (hol : (l, W.listOf items nn) ∈ news) (hnx : ∀ p ∈ nx, p ∈ news) (hnl : ∀ p ∈ nx, p.1 ≠ l)
    (hxi : env.kindOf xi = some .local) (hxc : env.kindOf xc = some .local)
    (hp : (env.scope.kind == .class || (env.scope.kind == .module && env.locals != env.globals)) = false) (h0 : J 0 m nx)
    (step : ∀ i v t m₁ nx₁ h tk e it oe oi, items[i]? = some v → J i m₁ nx₁ → (∀ p ∈ nx₁, p.1 ∉ [e, it, l]) → e ≠ it → l ≠ e → l ≠ it →
      Fr h₀ env.locals h (fun y => if y = xc then some v else if y = xi then some (.int (i : Int) t) else m₁ y) → News h₀ env.locals h (nx₁ ++ [(e, oe), (it, oi), (l, W.listOf items nn)]) →
      wpAny (model prog w) A (execs body env) (EnumPost h₀ env.locals [(e, oe), (it, oi), (l, W.listOf items nn)] (J (i + 1)) { s with heap := h, toks := tk } Q) E { s with heap := h, toks := tk })
    (hR : ∀ h' tk m' nx', Fr h₀ env.locals h' m' → News h₀ env.locals h' nx' → J items.size m' nx' → Q .next { s with heap := h', toks := tk })
    (hE : PassesOwn (model prog w) A env E := by passes_own) :
    wpAny (model prog w) A (call (.type "enumerate") [.ref l]) (fun xv s₁ => wpAny (model prog w) A (pyIter xv) (fun it s₂ => LoopCode prog w A env (.Tuple [.Name xi pk, .Name xc pv] x1 pt) body Q E it s₂) E s₁) E s := by
  have hl := (N _ hol).1
  have hlt : l < s.heap.objs.size := Heap.lt_size hl
  have hLt : env.locals < s.heap.objs.size := F.ns.lt
  have fresh : ∀ k, h₀.get? (s.heap.objs.size + k) = none := fun k => by
    cases q : h₀.get? (s.heap.objs.size + k) with
    | none => rfl
    | some o => exact absurd (Heap.lt_size (F.keep _ _ q)) (Nat.not_lt.mpr (Nat.le_add_right _ _))
  refine call_enumerate_list ⟨_, hl, rfl, nn, rfl⟩ fun h' he hit hsz hk => ?_
  refine wpAny_pyIter_enum he ?_
  unfold LoopCode
  refine enum_loop (s := { s with heap := h' }) (ol := W.listOf items nn) (nn := nn) hh (Nat.succ_ne_self _) (Nat.ne_of_lt (Nat.lt_succ_of_lt hlt)) (Nat.ne_of_lt hlt) rfl hxi hxc hp ?_ ?_ he hit (hk _ _ hl)
    ⟨F.ns.at' fun o q => hk _ _ q, fun b o q => hk _ _ (F.keep _ _ q), F.above⟩ (fun p q => ⟨hk _ _ (N p (hnx p q)).1, (N p (hnx p q)).2⟩) ?_ J h0
    (fun i v t m₁ nx₁ h tk oe oi a b c d e => wpAny_mono (wpAny_passesOwn hE (step i v t m₁ nx₁ h tk _ _ oe oi a b c (Nat.succ_ne_self _) (Nat.ne_of_lt (Nat.lt_succ_of_lt hlt)) (Nat.ne_of_lt hlt) d e)) (fun _ _ z => z) fun _ _ z => z) (fun h' tk m' nx' a b c => hR h' tk m' nx' a b c)
  · intro hm
    simp only [List.mem_cons, List.not_mem_nil, or_false] at hm
    rcases hm with q | q | q
    · exact absurd hLt (by rw [q]; exact Nat.not_lt.mpr (Nat.le_succ _))
    · exact absurd hLt (by rw [q]; exact Nat.lt_irrefl _)
    · exact (N _ hol).2.1 q.symm
  · intro b hb
    simp only [List.mem_cons, List.not_mem_nil, or_false] at hb
    rcases hb with rfl | rfl | rfl
    · exact fresh 1
    · exact fresh 0
    · exact (N _ hol).2.2
  · intro p hp hb
    have := Heap.lt_size (N p (hnx p hp)).1
    simp only [List.mem_cons, List.not_mem_nil, or_false] at hb
    rcases hb with q | q | q
    · exact absurd this (by rw [q]; exact Nat.not_lt.mpr (Nat.le_succ _))
    · exact absurd this (by rw [q]; exact Nat.lt_irrefl _)
    · exact hnl p hp q
end
end Mine
end
section
open PySem PySem.W PySem.Calls PySem.Spec PyProof.Rows
namespace Mine
set_option maxRecDepth 100000
section
variable {prog : Program} {w : World} {A : Around} {E : Value → Shared → Prop} {s : Shared} {b c : Array UInt8} {t u : Tok} {Q : Value → Shared → Prop}
theorem beq_dec : (b.toList == c.toList) = decide (b = c) := by
  rw [Bool.eq_iff_iff]
  simp
theorem eq_bytesD (h : Q (.bool (decide (b = c))) s) : wpAny (model prog w) A (compareOp .Eq (.bytes b t) (.bytes c u)) Q E s := eq_bytes (by rw [beq_dec]; exact h)
theorem ne_bytesD (h : Q (.bool (decide (b ≠ c))) s) : wpAny (model prog w) A (compareOp .NotEq (.bytes b t) (.bytes c u)) Q E s := ne_bytes (by
  have : (b.toList != c.toList) = decide (b ≠ c) := by rw [bne, beq_dec]; simp
  rw [this]; exact h)
end
theorem know1 {h₀ h : Heap} {L : Addr} {m : Str → Option Value} (x : Str) {v : Value} (F : Fr h₀ L h m) (hx : m x = some v) : Fr h₀ L h (fun y => if y = x then some v else m y) := by
  have e : (fun y => if y = x then some v else m y) = m := by
    funext y
    by_cases q : y = x
    · rw [if_pos q, q, hx]
    · rw [if_neg q]
  rw [e]; exact F
theorem len_J {prog : Program} {w : World} {A : Around} {E : Value → Shared → Prop} {s : Shared} {b : Array UInt8} {t : Tok} {Q : Value → Shared → Prop} (hn : b.size ≤ 16777216) (h : ∀ t k, Q (.int b.size t) { s with toks := k }) : wpAny (model prog w) A (call (.builtin "len") [.bytes b t]) Q E s :=
  len_bytes (by omega) (h _ _)
theorem sum_mem {bs : List (Array UInt8)} {b : Array UInt8} (h : b ∈ bs) : b.size ≤ (bs.map Array.size).sum := by
  induction bs with
  | nil => cases h
  | cons c r ih =>
    rw [List.map_cons, List.sum_cons]
    rcases List.mem_cons.mp h with rfl | h
    · omega
    · have := ih h; omega
theorem sum_take {bs : List (Array UInt8)} (n : Nat) : ((bs.take n).map Array.size).sum ≤ (bs.map Array.size).sum := by
  induction bs generalizing n with
  | nil => simp
  | cons c r ih =>
    cases n with
    | zero => simp
    | succ n => rw [List.take_succ_cons, List.map_cons, List.sum_cons, List.map_cons, List.sum_cons]; have := ih n; omega
theorem invEnd_one {h₀ h' : Heap} {L d : Addr} {o : Obj} {J : (Str → Option Value) → List (Addr × Obj) → Prop} {m' : Str → Option Value} {own news' : List (Addr × Obj)} {s₁ : Shared} {tk : Nat} (F : Fr h₀ L h' m') (N : News h₀ L h' news')
    (hm : (d, o) ∈ news') (ho : ∀ p ∈ own, p ∈ news') (hj : J m' [(d, o)]) : InvEndN h₀ L J own [d] s₁ { s₁ with heap := h', toks := tk } :=
  InvEndN.intro F N hj rfl (fun p hp => by rw [List.mem_singleton.mp hp]; exact hm) ho
end Mine
end
section
open PySem PySem.W PySem.Calls PySem.Spec PyProof.Rows
namespace Mine
set_option maxRecDepth 100000
section
variable {prog : Program} {w : World} {A : Around} {K : Frag} {base : Heap} {fr : List Env} {mg mb : Str → Option Value} {p : Program} {loose : List Str} {mean : ExcName → Option Value}
theorem enter_cells {R : Result → Shared → Prop} {name qual : Str} {params : Arguments} {body : List Stmt} {scope : Scope} {dV kV doc pm cdv ct oc : Value} {an od : Option Addr} {osl : Array (Option Value)} {f : Addr} {args : Args} {binds : List (Str × Value)}
    {g : Heap} {gn : Array GenState} {dr : Drawn} {tk : Nat} {os : OsState}
    (_B : Below A base fr g) (X : K.In g) (T : Top p loose mean mg mb g)
    (ho : K.lookup f = some ⟨oc, od, .func (fnOf name qual params body scope dV kV doc pm an cdv ct), osl⟩) (hcd : codeIn K cdv qual = true) (hroom : A.depth < recursionLimit)
    (hbind : BindsTo ⟨g, gn, dr, tk, os⟩ (fnOf name qual params body scope dV kV doc pm an cdv ct) args binds)
    (hkind : (binds.all fun y => scope.names.lookup y.1 == some .local || scope.names.lookup y.1 == some .cell) = true)
    (hnd : ((cellsFrom 0 scope.names []).map (·.1)).Nodup)
    (h : ∀ L' h₁ tk' cells, L' = g.objs.size → Fr g L' h₁ (bindL (envOfC qual scope L' f cdv).kindOf binds fun _ => none) → News g L' h₁ cells →
      CellsAre (bindC (envOfC qual scope L' f cdv).kindOf binds fun _ => none) (cellsFrom (L' + 1) scope.names []) cells →
      wpAny (model prog w) (A.deeper (envOfC qual scope L' f cdv)) (execs body (envOfC qual scope L' f cdv))
        (fun fl s' => R (.ok (.ret (match fl with | .ret v => v | _ => .none))) s')
        (fun e s' => wpAny (model prog w) (A.deeper (envOfC qual scope L' f cdv)) (leaving (envOfC qual scope L' f cdv) e) (fun _ s'' => R (.error e) s'') (fun e' s'' => R (.error e') s'') s')
        ⟨h₁, gn, dr, tk', os⟩)
    (hco : scope.isCoroutine = false) (hgen : scope.isGenerator = false) (hk : scope.kind = .function) : codeAny (model prog w) A (.call (.ref f) args) R ⟨g, gn, dr, tk, os⟩ := by
  refine codeAny_call_function (s := ⟨g, gn, dr, tk, os⟩) hroom (X _ _ ho) rfl hco hgen rfl (codeRec_of X hcd) (hbind _ _ _ _ ?_)
  refine wpAny_newFunctionEnv_cells hk (kindsX hkind _) fun env' he s' x => ?_
  subst he
  refine ⟨T.nolimit.keeps x.toInCall.keep, codeAny_func ?_⟩
  obtain ⟨h₁, tk', rfl, _⟩ := x.done
  have hk₁ := x.toInCall.keep
  obtain ⟨cells, NC, Y⟩ := Cl.news (h₀ := g) (Nat.le_refl _) fun n c hm => ⟨x.cell n c (lookup_of_mem_nodup (cellsFrom_names scope.names 0 (g.objs.size + 1) [] [] rfl ▸ hnd) hm), x.above n c hm⟩
  exact h g.objs.size h₁ tk' cells rfl ⟨x.toInCall.ns, hk₁, Nat.le_refl _⟩ NC Y
end
end Mine
end
section
open PySem PySem.W PySem.Calls PySem.Spec PyProof.Rows
namespace Mine
set_option maxRecDepth 100000
section
variable {prog : Program} {w : World} {A : Around} {h₀ : Heap} {L : Addr} {m : Str → Option Value} {env : Env} {ct elt : Expr} {x : Str} {scope : Scope} {cl : List (Str × Addr)} {s : Shared} {S : List (Addr × Obj) → Prop} {P : Nat → Value → Prop} {Fin : List Value → List (Addr × Obj) → Prop} {news : List (Addr × Obj)}
def CompYes (J : Nat → List Value → Prop) (news : List (Addr × Obj)) (i : Nat) (ys : List Value) (y : Value) (news' : List (Addr × Obj)) : Prop := news' = news ∧ J (i + 1) (ys ++ [y])
def CompNo (J : Nat → List Value → Prop) (news : List (Addr × Obj)) (i : Nat) (ys : List Value) (news' : List (Addr × Obj)) : Prop := news' = news ∧ J (i + 1) ys
theorem comp_vals {n : Nat} (J : Nat → List Value → Prop)
    (turn : ∀ i v I oI C oC D m₂ ys h tk (E' : Value → Shared → Prop), i < n → P i v → J i ys → LCg.NsObj oC m₂ → m₂ x = some v → Fr h₀ L h m → News h₀ L h ((I, oI) :: (C, oC) :: (D, LCg.lst ys) :: news) → LCg.Off3 I C D news → ((@Ne Nat I C) ∧ (@Ne Nat I D) ∧ (@Ne Nat C D)) →
      wpAny (model prog w) A (isTrue ct (compEnvC scope cl C env) (eval ct (compEnvC scope cl C env))) (fun b s' => if b = true then wpAny (model prog w) A (eval elt (compEnvC scope cl C env)) (LCg.CompEnd h₀ L m { s with heap := h, toks := tk } I oI C oC D (LCg.lst ys) S (CompYes J news i ys)) E' s'
        else LCg.CompEnd h₀ L m { s with heap := h, toks := tk } I oI C oC D (LCg.lst ys) S (fun _ => CompNo J news i ys) Value.none s') E' { s with heap := h, toks := tk })
    (h0 : J 0 []) (fin : ∀ ys, J n ys → Fin ys news) : LCt.CompRestT prog w A h₀ L m env ct elt x scope cl s S P Fin n 0 [] news := by
  have key : ∀ (j i : Nat) (ys : List Value), i + j = n → J i ys → LCt.CompRestT prog w A h₀ L m env ct elt x scope cl s S P Fin j i ys news := by
    intro j
    induction j with
    | zero =>
      intro i ys hi hy
      have e : i = n := by omega
      subst e
      exact LCt.CompRestT.zero (fin ys hy)
    | succ j ih =>
      intro i ys hi hy
      refine LCt.CompRestT.succ ?_
      intro v I oI C oC D m₂ h tk E' hv hC hx F N off ne
      refine wpAny_mono (turn i v I oI C oC D m₂ ys h tk E' (by omega) hv hy hC hx F N off ne) (fun b s₂ hq => ?_) fun _ _ e => e
      cases b with
      | true =>
        simp only [if_true] at hq ⊢
        refine wpAny_mono hq (fun y s₃ hr => ?_) fun _ _ e => e
        obtain ⟨h', tk', nw, e, F', N', off', hS, hn, hj⟩ := hr
        subst hn
        exact ⟨h', tk', nw, e, F', N', off', hS, ih (i + 1) _ (by omega) hj⟩
      | false =>
        simp only [Bool.false_eq_true, if_false] at hq ⊢
        obtain ⟨h', tk', nw, e, F', N', off', hS, hn, hj⟩ := hq
        subst hn
        exact ⟨h', tk', nw, e, F', N', off', hS, ih (i + 1) _ (by omega) hj⟩
  exact key n 0 [] (by omega) h0
end
end Mine
end
section
open PySem PySem.W PySem.Calls PySem.Spec PyProof.Rows
namespace Mine
set_option maxRecDepth 100000
section
variable {prog : Program} {w : World} {A : Around} {E : Value → Shared → Prop} {s : Shared} {h₀ : Heap} {L l : Addr} {news : List (Addr × Obj)} {Q : Value → Shared → Prop} {vs : List Value} {c : Array UInt8} {u : Tok} {n : Nat} {x : Str}
theorem in_TB {bs : List (Array UInt8)} (N : News h₀ L s.heap news) (hm : (l, ({ cls := .type "tuple", data := .seq vs.toArray n } : Obj)) ∈ news) (hb : BytesAre vs bs) (h : Q (.bool (decide (c ∈ bs))) s) : wpAny (model prog w) A (compareOp .In (.bytes c u) (.ref l)) Q E s := by
  refine SeqRoads2.in_tuple (isB c) (fun y hy => ?_) (N _ hm).1 (by
    rw [any_isB hb]
    have e : bs.any (· == c) = decide (c ∈ bs) := by
      rw [Bool.eq_iff_iff, List.any_eq_true, decide_eq_true_eq]
      exact ⟨fun ⟨z, hz, e⟩ => by rw [← eq_of_beq e]; exact hz, fun hz => ⟨c, hz, beq_self_eq_true c⟩⟩
    rw [e]; exact h)
  obtain ⟨b, t, rfl, _⟩ := hb.mem (List.mem_toArray.mp hy)
  exact eq_B
theorem in_TS {bs : List Str} (N : News h₀ L s.heap news) (hm : (l, ({ cls := .type "tuple", data := .seq vs.toArray n } : Obj)) ∈ news) (hb : StrsAre vs bs) (h : Q (.bool (decide (x ∈ bs))) s) : wpAny (model prog w) A (compareOp .In (.str x u) (.ref l)) Q E s := by
  refine in_tuple_strs (items := vs.toArray) (ys := bs) ?_ hb ?_
  · exact ⟨_, (N _ hm).1, rfl, _, rfl⟩
  · have e : bs.any (· == x) = decide (x ∈ bs) := by
      rw [Bool.eq_iff_iff, List.any_eq_true, decide_eq_true_eq]
      exact ⟨fun ⟨z, hz, e⟩ => by rw [← eq_of_beq e]; exact hz, fun hz => ⟨x, hz, beq_self_eq_true x⟩⟩
    rw [e]; exact h
theorem in_TX {bs : List Str} {K : Frag} {h₀ : Heap} {L : Addr} {m : Str → Option Value} {o : Obj} (X : K.In h₀) (F : Fr h₀ L s.heap m) (ho : K.lookup l = some o) (hc : o.cls = .type "tuple") (hd : o.data = .seq vs.toArray n) (hb : StrsAre vs bs) (h : Q (.bool (decide (x ∈ bs))) s) : wpAny (model prog w) A (compareOp .In (.str x u) (.ref l)) Q E s := by
  refine in_tuple_strs (items := vs.toArray) (ys := bs) ?_ hb ?_
  · exact ⟨_, F.keep _ _ (X _ _ ho), hc, _, hd⟩
  · have e : bs.any (· == x) = decide (x ∈ bs) := by
      rw [Bool.eq_iff_iff, List.any_eq_true, decide_eq_true_eq]
      exact ⟨fun ⟨z, hz, e⟩ => by rw [← eq_of_beq e]; exact hz, fun hz => ⟨x, hz, beq_self_eq_true x⟩⟩
    rw [e]; exact h
end
end Mine
end
section
open PySem PySem.W PySem.Calls PySem.Spec PyProof.Rows
namespace Mine
set_option maxRecDepth 100000

/-- h is g and the objects of led -/
structure Split (g : Heap) (led : List (Addr × Obj)) (h : Heap) : Prop where
  stays : g.StaysIn h
  there : ∀ p ∈ led, h.get? p.1 = some p.2 ∧ g.get? p.1 = none
  cover : ∀ b o, h.get? b = some o → g.get? b = some o ∨ (b, o) ∈ led
  size : g.objs.size ≤ h.objs.size

theorem Split.refl (g : Heap) : Split g [] g := ⟨fun _ _ e => e, (fun _ hp => nomatch hp), fun _ _ e => .inl e, Nat.le_refl _⟩
theorem Split.back {g h h' : Heap} {led : List (Addr × Obj)} (S : Split g led h) (k : g.StaysIn h') (kl : ∀ p ∈ led, h'.get? p.1 = some p.2) : h.StaysIn h' := fun b o e => by
  rcases S.cover b o e with q | q
  · exact k b o q
  · exact kl _ q

section
variable {prog : Program} {w : World} {A : Around} {E : Value → Shared → Prop} {s : Shared} {K : Frag} {base : Heap} {fr : List Env} {mg mb : Str → Option Value} {p : Program} {loose : List Str} {mean : ExcName → Option Value}

theorem enter_L {R : Result → Shared → Prop} {name qual : Str} {params : Arguments} {body : List Stmt} {scope : Scope} {dV kV doc pm cdv ct oc : Value} {an od : Option Addr} {osl : Array (Option Value)} {f : Addr} {args : Args} {binds : List (Str × Value)}
    {g h : Heap} {led : List (Addr × Obj)} {gn : Array GenState} {dr : Drawn} {tk : Nat} {os : OsState}
    (_B : Below A base fr g) (X : K.In g) (T : Top p loose mean mg mb g) (S : Split g led h)
    (ho : K.lookup f = some ⟨oc, od, .func (fnOf name qual params body scope dV kV doc pm an cdv ct), osl⟩) (hcd : codeIn K cdv qual = true) (hroom : A.depth < recursionLimit)
    (hbind : BindsTo ⟨h, gn, dr, tk, os⟩ (fnOf name qual params body scope dV kV doc pm an cdv ct) args binds) (hloc : ∀ y ∈ binds, scope.names.lookup y.1 = some .local)
    (hq : ∀ L' h₁, L' = h.objs.size → Fr g L' h₁ (fun y => binds.reverse.lookup y) → News g L' h₁ led →
      wpAny (model prog w) (A.deeper (envOf qual scope L' f cdv)) (execs body (envOf qual scope L' f cdv))
        (fun fl s' => R (.ok (.ret (match fl with | .ret v => v | _ => .none))) s')
        (fun e s' => wpAny (model prog w) (A.deeper (envOf qual scope L' f cdv)) (leaving (envOf qual scope L' f cdv) e) (fun _ s'' => R (.error e) s'') (fun e' s'' => R (.error e') s'') s')
        ⟨h₁, gn, dr, tk + binds.length, os⟩)
    (hco : scope.isCoroutine = false) (hgen : scope.isGenerator = false) (hk : scope.kind = .function)
    (hcell : ∀ x ∈ scope.names, x.2 ≠ .cell) : codeAny (model prog w) A (.call (.ref f) args) R ⟨h, gn, dr, tk, os⟩ :=
  codeAny_call_def (s := ⟨h, gn, dr, tk, os⟩) (fd := fnOf name qual params body scope dV kV doc pm an cdv ct) (body := body) (binds := binds) hroom (S.stays _ _ (X _ _ ho)) rfl (T.nolimit.keeps S.stays) (codeRec_of (X.keeps S.stays) hcd) rfl hbind hcell hloc
    (fun h₁ hns hk₁ => hq h.objs.size h₁ rfl ⟨hns, fun b o e => hk₁ b o (S.stays b o e), S.size⟩ (fun q hp => ⟨hk₁ _ _ (S.there q hp).1, Nat.ne_of_lt (Heap.lt_size (S.there q hp).1), (S.there q hp).2⟩)) hco hgen hk
end

/-- a call that changes nothing that stands; some objects (led) are known -/
def PureL (prog : Program) (w : World) (mean : ExcName → Option Value) (mg mb : Str → Option Value) (lv : Nat) (f : Addr) (vals : List Value) (led : List (Addr × Obj)) (Pre : Prop) (Post : List (Addr × Obj) → Value → Prop) : Prop :=
  ∀ (gd : Option (List Code)) (fr : List Env) (base g h : Heap) (gn : Array GenState) (dr : Drawn) (tk : Nat) (os : OsState) (Q E : Value → Shared → Prop),
    Below (aTop lv gd fr) base fr g → (Mine.K w.params).In g → Top Mine.V JLo mean mg mb g → Split g led h → Pre →
    (∀ v new h' tk', h.StaysIn h' → NewIn h h' new → Post new v → Q v ⟨h', gn, dr, tk', os⟩) → wpAny (model prog w) (aTop lv gd fr) (call (.ref f) vals) Q E ⟨h, gn, dr, tk, os⟩

/-- a call that ends in a ValueError -/
def RaisesL (prog : Program) (w : World) (mean : ExcName → Option Value) (mg mb : Str → Option Value) (lv : Nat) (f : Addr) (vals : List Value) (led : List (Addr × Obj)) (Pre : Prop) : Prop :=
  ∀ (gd : Option (List Code)) (fr : List Env) (base g h : Heap) (gn : Array GenState) (dr : Drawn) (tk : Nat) (os : OsState) (Q E : Value → Shared → Prop),
    Below (aTop lv gd fr) base fr g → (Mine.K w.params).In g → Top Mine.V JLo mean mg mb g → Split g led h → Pre →
    (∀ e h' tk', RaisedSN base h fr e (.type "ValueError") [] h' → h.UpToSlots h' → E (.ref e) ⟨h', gn, dr, tk', os⟩) → wpAny (model prog w) (aTop lv gd fr) (call (.ref f) vals) Q E ⟨h, gn, dr, tk, os⟩

theorem Below.noframe {A : Around} {base g : Heap} {fr : List Env} (B : Below A base fr g) {b : Addr} (e : g.get? b = none) : b ∉ fr.filterMap (·.frame) := fun hm => by
  obtain ⟨_, o, ho, _⟩ := B.frames.mem hm
  rw [e] at ho; cases ho

section
variable {prog : Program} {w : World} {mean : ExcName → Option Value} {mg mb : Str → Option Value} {lv : Nat} {f : Addr} {vals : List Value} {Pre : Prop} {Post : List (Addr × Obj) → Value → Prop} {led : List (Addr × Obj)}
  {A A₀ : Around} {E Q : Value → Shared → Prop} {s : Shared} {base h₀ : Heap} {outer : List Env} {L a : Addr} {m : Str → Option Value} {news : List (Addr × Obj)} {cn : Str} {cs : Scope} {ccd : Value}

theorem split_hide (B : Below A₀ base outer h₀) (F : Fr h₀ L s.heap m) (N : News h₀ L s.heap news) (hsub : ∀ p ∈ led, p ∈ news) (hk : cs.kind = .function) :
    h₀.StaysIn (hideAll s.heap (led.map (·.1))) ∧ Split (hideAll s.heap (led.map (·.1))) led s.heap ∧
    ∀ A', A'.frames = some (envOf cn cs L a ccd :: outer) → Below A' base (envOf cn cs L a ccd :: outer) (hideAll s.heap (led.map (·.1))) := by
  have nm : ∀ b o, h₀.get? b = some o → b ∉ led.map (·.1) := fun b o e q => by
    obtain ⟨p, hp, rfl⟩ := List.mem_map.mp q
    rw [(N p (hsub p hp)).2.2] at e; cases e
  have st : h₀.StaysIn (hideAll s.heap (led.map (·.1))) := fun b o e => hideAll_get _ (F.keep b o e) (nm b o e)
  have nL : L ∉ led.map (·.1) := fun q => by
    obtain ⟨p, hp, e⟩ := List.mem_map.mp q
    exact (N p (hsub p hp)).2.1 e
  have B₁ := B.push (name := cn) (scope := cs) (a := a) (cd := ccd) F hk
  refine ⟨st, ⟨fun b o e => of_hideAll _ e, fun p hp => ⟨(N p (hsub p hp)).1, hideAll_none _ (List.mem_map_of_mem hp)⟩, fun b o e => ?_, Nat.le_of_eq (hideAll_size _ _)⟩,
    fun A' hA => ⟨hA, fun b o e => st b o (B.stays b o e), funFrames_hideAll B₁.frames fun env he b hb hf => ?_⟩⟩
  · by_cases hm : b ∈ led.map (·.1)
    · obtain ⟨p, hp, rfl⟩ := List.mem_map.mp hm
      have := (N p (hsub p hp)).1
      rw [e] at this; cases this
      exact .inr hp
    · exact .inl (hideAll_get _ e hm)
  · cases he with
    | head => exact nL ((Option.some.inj hf : L = b) ▸ hb)
    | tail _ he =>
      have hm : b ∈ outer.filterMap (·.frame) := List.mem_filterMap.mpr ⟨env, he, hf⟩
      obtain ⟨_, o, ho, _⟩ := B.frames.mem hm
      exact nm b o ho hb

theorem use_L (C : PureL prog w mean mg mb lv f vals led Pre Post) (B : Below A₀ base outer h₀) (F : Fr h₀ L s.heap m) (X : (Mine.K w.params).In h₀) (N : News h₀ L s.heap news) (T : Top Mine.V JLo mean mg mb h₀)
    (hA : A.handled = none) (hf : A.frames = some (envOf cn cs L a ccd :: outer)) (hk : cs.kind = .function) (hd : A.depth ≤ 2 + claimMargin + lv) (hu : A.units ≤ 100 + 100 * lv) (hsub : ∀ p ∈ led, p ∈ news) (hpre : Pre)
    (h : ∀ v new h' tk', Fr h₀ L h' m → News h₀ L h' (new ++ news) → s.heap.StaysIn h' → Post new v → Q v { s with heap := h', toks := tk' }) :
    wpAny (model prog w) A (call (.ref f) vals) Q E s := by
  refine wpAny_weaken (A' := aTop lv A.guards (envOf cn cs L a ccd :: outer)) hA hd hf rfl hu ?_
  obtain ⟨st, S, BB⟩ := split_hide (cn := cn) (cs := cs) (a := a) (ccd := ccd) B F N hsub hk
  refine C A.guards (envOf cn cs L a ccd :: outer) base _ s.heap s.gens s.drawn s.toks s.os Q E (BB _ rfl) (X.keeps st) (T.keeps st) S hpre fun v new h' tk' sh nw hp => ?_
  obtain ⟨oL, es, ep, hL, r⟩ := F.ns
  refine h v new h' tk' ⟨⟨oL, es, ep, sh _ _ hL, r⟩, fun b o e => sh _ _ (F.keep b o e), F.above⟩ (fun q hq => ?_) sh hp
  rcases List.mem_append.mp hq with hq | hq
  · refine ⟨(nw q hq).1, fun e => ?_, ?_⟩
    · have := (nw q hq).2; rw [e, hL] at this; cases this
    · cases e : h₀.get? q.1 with
      | none => rfl
      | some o => have := (nw q hq).2; rw [F.keep _ _ e] at this; cases this
  · exact ⟨sh _ _ (N q hq).1, (N q hq).2⟩

theorem use_R (C : RaisesL prog w mean mg mb lv f vals led Pre) (B : Below A₀ base outer h₀) (F : Fr h₀ L s.heap m) (X : (Mine.K w.params).In h₀) (N : News h₀ L s.heap news) (T : Top Mine.V JLo mean mg mb h₀)
    (hA : A.handled = none) (hf : A.frames = some (envOf cn cs L a ccd :: outer)) (hk : cs.kind = .function) (hd : A.depth ≤ 2 + claimMargin + lv) (hu : A.units ≤ 100 + 100 * lv) (hsub : ∀ p ∈ led, p ∈ news) (hpre : Pre)
    (h : ∀ e h' tk', RaisedSN base s.heap (envOf cn cs L a ccd :: outer) e (.type "ValueError") [] h' → s.heap.UpToSlots h' → E (.ref e) { s with heap := h', toks := tk' }) :
    wpAny (model prog w) A (call (.ref f) vals) Q E s := by
  refine wpAny_weaken (A' := aTop lv A.guards (envOf cn cs L a ccd :: outer)) hA hd hf rfl hu ?_
  obtain ⟨st, S, BB⟩ := split_hide (cn := cn) (cs := cs) (a := a) (ccd := ccd) B F N hsub hk
  exact C A.guards (envOf cn cs L a ccd :: outer) base _ s.heap s.gens s.drawn s.toks s.os Q E (BB _ rfl) (X.keeps st) (T.keeps st) S hpre h
end

section
variable {M : Model} {A : Around} {E : Value → Shared → Prop} {s' : Shared} {base G h : Heap} {fr : List Env} {L a e : Addr} {name : Str} {scope : Scope} {cd : Value} {Q : Unit → Shared → Prop} {cls : Value}
/-- a raise passes through a frame -/
theorem leave_R (hfr : A.frames = some fr) (st : h.StaysIn G) (hL : h.get? L = none) (R : RaisedSN base G (envOf name scope L a cd :: fr) e cls [] s'.heap) (hsm : G.UpToSlots s'.heap)
    (hQ : ∀ h', RaisedSN base h fr e cls [] h' → h.UpToSlots h' → Q () { s' with heap := h' }) :
    wpAny M (A.deeper (envOf name scope L a cd)) (leaving (envOf name scope L a cd) (.ref e)) Q E s' := by
  obtain ⟨B, a0, hB, hBG, hl, hfl⟩ := R
  refine wpAny_leaves_onW (Around.frames_deeper hfr) rfl hfl fun h' x1 x2 => ?_
  refine hQ h' ⟨B, a0, hB, fun b o q nm => hBG b o (st b o q) (fun hm => ?_), (fun _ hq => nomatch hq), x1⟩ ((Heap.UpToSlots.of_keeps st).trans (hsm.trans x2))
  rcases kts_mem hm with z | z
  · rw [z, hL] at q; cases q
  · exact nm z
/-- the frame in which a ValueError is made -/
theorem leave_new {g : Heap} {m : Str → Option Value} {h₁ : Heap} {news : List (Addr × Obj)} {X : String} (K : Below A base fr g) (hx : Heap.NewExc h₁ s'.heap e X) (F : Fr g L h₁ m) (N : News g L h₁ news) {led : List (Addr × Obj)} (S : Split g led h) (hsub : ∀ p ∈ led, p ∈ news) (hL : h.get? L = none)
    (hQ : ∀ h', RaisedSN base h fr e (.type X) [] h' → h.UpToSlots h' → Q () { s' with heap := h' }) (hk : scope.kind = .function := by rfl) :
    wpAny M (A.deeper (envOf name scope L a cd)) (leaving (envOf name scope L a cd) (.ref e)) Q E s' := by
  refine leave_newS K hx F (news := led) (fun q hq => N q (hsub q hq)) (fun h' R _ U => ?_) hk
  obtain ⟨B, a0, hB, hBG, hl, hfl⟩ := R
  refine hQ h' ⟨B, a0, hB, fun b o q nm => ?_, (fun _ hq => nomatch hq), hfl⟩ ?_
  · rcases S.cover b o q with z | z
    · exact hBG b o z nm
    · exact (hl _ z).1
  · intro b o q hd
    rcases S.cover b o q with z | z
    · exact U b o z hd
    · exact ⟨o.slots, hfl.1 _ _ (hl _ z).1⟩
end
theorem get_size (h : Heap) : h.get? h.objs.size = none := by
  cases e : h.get? h.objs.size with
  | none => rfl
  | some o => exact absurd (Heap.lt_size e) (Nat.lt_irrefl _)
theorem new_one {g h : Heap} {L : Addr} {a : Addr × Obj} {r : List (Addr × Obj)} (N : News g L h (a :: r)) : NewIn g h [a] := fun p hp => by
  rw [List.mem_singleton.mp hp]
  exact ⟨(N a (.head _)).1, (N a (.head _)).2.2⟩
theorem new_two {g h : Heap} {L : Addr} {a b : Addr × Obj} {r : List (Addr × Obj)} (N : News g L h (a :: b :: r)) : NewIn g h [a, b] := fun p hp => by
  rcases List.mem_cons.mp hp with rfl | hp
  · exact ⟨(N _ (.head _)).1, (N _ (.head _)).2.2⟩
  · rw [List.mem_singleton.mp hp]
    exact ⟨(N b (.tail _ (.head _))).1, (N b (.tail _ (.head _))).2.2⟩
theorem back_of {g h h' : Heap} {L : Addr} {m : Str → Option Value} {led : List (Addr × Obj)} (S : Split g led h) (F : Fr g L h' m) (N : News g L h' led) : h.StaysIn h' := S.back F.keep fun p hp => (N p hp).1
theorem bytes_eq {a b : Array UInt8} {t : Tok} (h : a = b) : Value.bytes a t = .bytes b t := by rw [h]
theorem imp_of {P R : Prop} (h : P → R) (p : P) : R := h p
theorem pass_on {M : Model} {A : Around} {E : Value → Shared → Prop} {s' : Shared} {base G h g : Heap} {fr : List Env} {L a e : Addr} {name : Str} {scope : Scope} {cd : Value} {Q : Unit → Shared → Prop} {cls : Value} {led : List (Addr × Obj)} {m : Str → Option Value}
    (S : Split g led h) (hfr : A.frames = some fr) (R : RaisedSN base G (envOf name scope L a cd :: fr) e cls [] s'.heap) (hsm : G.UpToSlots s'.heap) (F : Fr g L G m) (N : News g L G led) (hL : h.get? L = none)
    (hQ : ∀ h', RaisedSN base h fr e cls [] h' → h.UpToSlots h' → Q () { s' with heap := h' }) :
    wpAny M (A.deeper (envOf name scope L a cd)) (leaving (envOf name scope L a cd) (.ref e)) Q E s' := leave_R hfr (back_of S F N) hL R hsm hQ
end Mine
end
section
open PySem PySem.W PySem.Calls PySem.Spec PyProof.Rows
namespace Mine
set_option maxRecDepth 100000

/-- a call that may change the slots of the frames below it, and nothing else that stands -/
def PureS (prog : Program) (w : World) (mean : ExcName → Option Value) (mg mb : Str → Option Value) (lv : Nat) (f : Addr) (vals : List Value) (led : List (Addr × Obj)) (Pre : Prop) (Post : List (Addr × Obj) → Value → Prop) : Prop :=
  ∀ (gd : Option (List Code)) (fr : List Env) (base g h : Heap) (gn : Array GenState) (dr : Drawn) (tk : Nat) (os : OsState) (Q E : Value → Shared → Prop),
    Below (aTop lv gd fr) base fr g → (Mine.K w.params).In g → Top Mine.V JLo mean mg mb g → Split g led h →
    (Mine.K w.params).In base → Top Mine.V JLo mean mg mb base → KtsDicts (fr.filterMap (·.frame)) g → Pre →
    (∀ v new h' tk', (∀ b o, h.get? b = some o → b ∉ fr.filterMap (·.frame) → h'.get? b = some o) → h.UpToSlots h' → NewIn h h' new → Post new v → Q v ⟨h', gn, dr, tk', os⟩) →
    wpAny (model prog w) (aTop lv gd fr) (call (.ref f) vals) Q E ⟨h, gn, dr, tk, os⟩

section
variable {prog : Program} {w : World} {mean : ExcName → Option Value} {mg mb : Str → Option Value} {lv : Nat} {f : Addr} {vals : List Value} {Pre : Prop} {Post : List (Addr × Obj) → Value → Prop} {led : List (Addr × Obj)}
  {A A₀ : Around} {E Q : Value → Shared → Prop} {s : Shared} {h₀ : Heap} {L a : Addr} {m : Str → Option Value} {news : List (Addr × Obj)} {cn : Str} {cs : Scope} {ccd : Value}

/-- the use of such a call in the outermost frame -/
theorem use_S (C : PureS prog w mean mg mb lv f vals led Pre Post) (B : Below A₀ h₀ [] h₀) (F : Fr h₀ L s.heap m) (X : (Mine.K w.params).In h₀) (N : News h₀ L s.heap news) (T : Top Mine.V JLo mean mg mb h₀)
    (hA : A.handled = none) (hf : A.frames = some [envOf cn cs L a ccd]) (hk : cs.kind = .function) (hd : A.depth ≤ 2 + claimMargin + lv) (hu : A.units ≤ 100 + 100 * lv) (hsub : ∀ p ∈ led, p ∈ news) (hpre : Pre)
    (h : ∀ v new h' tk', Fr h₀ L h' m → News h₀ L h' (new ++ news) → Post new v → Q v { s with heap := h', toks := tk' }) :
    wpAny (model prog w) A (call (.ref f) vals) Q E s := by
  refine wpAny_weaken (A' := aTop lv A.guards [envOf cn cs L a ccd]) hA hd hf rfl hu ?_
  obtain ⟨st, S, BB⟩ := split_hide (cn := cn) (cs := cs) (a := a) (ccd := ccd) B F N hsub hk
  have hfr : ([envOf cn cs L a ccd] : List Env).filterMap (·.frame) = [L] := rfl
  obtain ⟨oL, es, ep, hL, r⟩ := id F.ns
  have hL₀ : h₀.get? L = none := by
    cases e : h₀.get? L with
    | none => rfl
    | some o => exact absurd (Nat.lt_of_lt_of_le (Heap.lt_size e) F.above) (Nat.lt_irrefl _)
  refine C A.guards [envOf cn cs L a ccd] h₀ _ s.heap s.gens s.drawn s.toks s.os Q E (BB _ rfl) (X.keeps st) (T.keeps st) S X T ?_ hpre fun v new h' tk' sh U nw hp => ?_
  · intro b hb
    rw [hfr] at hb
    rw [List.mem_singleton.mp hb]
    refine ⟨oL, es, ep, hideAll_get _ hL fun q => ?_, r.1⟩
    obtain ⟨p, hp, e⟩ := List.mem_map.mp q
    exact (N p (hsub p hp)).2.1 e
  · rw [hfr] at sh
    have nL : ∀ b, b ≠ L → b ∉ [L] := fun b hb hm => hb (List.mem_singleton.mp hm)
    refine h v new h' tk' ⟨U.ns F.ns, fun b o e => sh b o (F.keep b o e) (nL b fun q => by rw [q, hL₀] at e; cases e), F.above⟩ (fun q hq => ?_) hp
    rcases List.mem_append.mp hq with hq | hq
    · refine ⟨(nw q hq).1, fun e => ?_, ?_⟩
      · have := (nw q hq).2; rw [e, hL] at this; cases this
      · cases e : h₀.get? q.1 with
        | none => rfl
        | some o => have := (nw q hq).2; rw [F.keep _ _ e] at this; cases this
    · exact ⟨sh _ _ (N q hq).1 (nL _ (N q hq).2.1), (N q hq).2⟩
end

section
variable {prog : Program} {w : World} {A₀ : Around} {E : Value → Shared → Prop} {s' : Shared} {base g h G : Heap} {outer : List Env} {L a e : Addr} {m : Str → Option Value} {name : Str} {scope : Scope} {cd : Value}
  {b₀ : Stmt} {suite : List Stmt} {pos np : Pos} {rest : List ExceptHandler} {Q : Flow → Shared → Prop} {led : List (Addr × Obj)} {KF : Frag}
  {p : Program} {loose : List Str} {mean : ExcName → Option Value} {mg mb : Str → Option Value} {x : Str} {X T' : String}
/-- a ValueError is caught in a frame that knows some objects -/
theorem caught_L (R : RaisedSN base G (envOf name scope L a cd :: outer) e (.type X) [] s'.heap) (F : Fr g L G m) (N : News g L G led) (K : Below A₀ base outer g) (hsm : G.UpToSlots s'.heap) (XB : KF.In base) (TB : Top p loose mean mg mb base) (S : Split g led h)
    (D : KtsDicts (outer.filterMap (·.frame)) g) 
    (ex : nsIn KF mainGlobals x = some none) (hv : bootBuiltins x = some (.type T')) (hn' : x ≠ "__name__")
    (hexc : isSubtype (.type T') (.type "BaseException") = pure true) (hnt : isSubtype (.type ((Manifest.find? T').elim "type" fun y => y.metatype)) (.type "tuple") = pure false) (hsub : isSubtype (.type X) (.type T') = pure true)
    (k : ∀ h' g', Fr g' L h' m → Below A₀ base outer g' → KF.In g' → Top p loose mean mg mb g' →
      (∀ h'', g'.StaysIn h'' → (∀ q ∈ led, h''.get? q.1 = some q.2) → (∀ b o, h.get? b = some o → b ∉ outer.filterMap (·.frame) → h''.get? b = some o) ∧ h.UpToSlots h'') → News g' L h' led →
      wpAny (model prog w) ((A₀.deeper (envOf name scope L a cd)).mark (some (.ref e))) (execs (b₀ :: suite) (envOf name scope L a cd)) Q E { s' with heap := h' })
    (hk : scope.kind = .function := by rfl) (hx : (envOf name scope L a cd).kindOf x = some .globalImplicit := by rfl) (hd : (x == ("__debug__" : Str)) = false := by decide)
    (hE : PassesOwnAt (model prog w) ((A₀.deeper (envOf name scope L a cd)).mark (some (.ref e))) (A₀.deeper (envOf name scope L a cd)) (envOf name scope L a cd) E := by passes_own) :
    wpAny (model prog w) (A₀.deeper (envOf name scope L a cd)) (noteFrame (.ref e) (envOf name scope L a cd))
      (fun _ s₂ => wpAny (model prog w) (A₀.deeper (envOf name scope L a cd)) (setFlight (.ref e) none) (fun _ s₃ =>
        wpAny (model prog w) (A₀.deeper (envOf name scope L a cd)) (handleBy (.ref e) (envOf name scope L a cd) (.ExceptHandler (some (.Name x np)) none (b₀ :: suite) pos :: rest)) Q E s₃) E s₂) E s' := by
  have nm : ∀ b o, g.get? b = some o → b ∉ led.map (·.1) := fun b o e q => by
    obtain ⟨p, hp, rfl⟩ := List.mem_map.mp q
    rw [(N p hp).2.2] at e; cases e
  have st : g.StaysIn (hideAll G (led.map (·.1))) := fun b o e => hideAll_get _ (F.keep b o e) (nm b o e)
  obtain ⟨oL, es, ep, hL, r⟩ := id F.ns
  have nL : L ∉ led.map (·.1) := fun q => by
    obtain ⟨p, hp, e⟩ := List.mem_map.mp q
    exact (N p hp).2.1 e
  have F' : Fr g L (hideAll G (led.map (·.1))) m := ⟨⟨oL, es, ep, hideAll_get _ hL nL, r⟩, st, F.above⟩
  have hledfr : ∀ q ∈ led, q.1 ∉ (envOf name scope L a cd :: outer).filterMap (·.frame) := fun q hq hm => by
    rcases kts_mem hm with z | z
    · exact (N q hq).2.1 z
    · exact Mine.Below.noframe K (N q hq).2.2 z
  have U' : (hideAll G (led.map (·.1))).UpToSlots s'.heap := fun b o e hd => hsm b o (of_hideAll _ e) hd
  obtain ⟨B, a0, hB, hBG, _, hfl⟩ := R
  have R' : RaisedSN base (hideAll G (led.map (·.1))) (envOf name scope L a cd :: outer) e (.type X) led s'.heap :=
    ⟨B, a0, hB, fun b o e nm => hBG b o (of_hideAll _ e) nm, fun q hq => ⟨hBG _ _ (N q hq).1 (hledfr q hq), hideAll_none _ (List.mem_map_of_mem hq), fresh_of_stays K.stays (N q hq).2.2⟩, hfl⟩
  refine caught_SN0 R' F' K U' XB TB D KtsTurn.refl ex hv hn' hexc hnt hsub (fun h' g' T₁ F₁ N₁ K₁ X₁ P₁ _ => k h' g' F₁ K₁ X₁ P₁ (fun h'' st'' hl'' => ⟨fun b o e nf => ?_, fun b o e hd => ?_⟩) N₁) hk hx hd hE
  · rcases S.cover b o e with z | z
    · exact st'' _ _ (T₁.other b o z nf)
    · exact hl'' _ z
  · rcases S.cover b o e with z | z
    · obtain ⟨sl, hs⟩ := T₁.up z
      exact ⟨sl, st'' _ _ hs⟩
    · exact ⟨o.slots, hl'' _ z⟩
end
end Mine
end
section
open PySem PySem.W PySem.Calls PySem.Spec PyProof.Rows
namespace Mine
set_option maxRecDepth 100000
open PySem.EqNone Builtin
theorem slotR_bytes_eq : Slot "bytes" (cmpInfo .Eq).2.2 "bytes.__eq__" :=
  .of (owner := "bytes") (n := "__eq__") (by rw [typeLookup_type, builtinLookup_eq_fast]; kernel_rfl) (by decide +kernel) (by decide +kernel) (by decide +kernel)
    (by first | exact .inl (by decide +kernel) | exact .inr (by decide +kernel)) (by rw [isSubtype_type]; kernel_rfl)
theorem slotR_bytes_ne : Slot "bytes" (cmpInfo .NotEq).2.2 "bytes.__ne__" :=
  .of (owner := "bytes") (n := "__ne__") (by rw [typeLookup_type, builtinLookup_eq_fast]; kernel_rfl) (by decide +kernel) (by decide +kernel) (by decide +kernel)
    (by first | exact .inl (by decide +kernel) | exact .inr (by decide +kernel)) (by rw [isSubtype_type]; kernel_rfl)
theorem sub_bytes_none : isSubtype (.type "bytes") (.type "NoneType") = pure false := by rw [isSubtype_type]; kernel_rfl
theorem sub_none_bytes : isSubtype (.type "NoneType") (.type "bytes") = pure false := by rw [isSubtype_type]; kernel_rfl
theorem none_eq_b (a : Array UInt8) (t : Tok) : Gives (Builtin.«NoneType.__eq__» ⟨[.none, .bytes a t], []⟩) (.val (Value.notImplemented)) :=
  .of_wp fun M A E s Q h => by obtain ⟨hp, g, d, tk, os⟩ := s; wp_walk; exact ⟨_, rfl, h⟩
theorem none_ne_b (a : Array UInt8) (t : Tok) : Gives (Builtin.«NoneType.__ne__» ⟨[.none, .bytes a t], []⟩) (.val (Value.notImplemented)) :=
  .of_wp fun M A E s Q h => by obtain ⟨hp, g, d, tk, os⟩ := s; wp_walk; exact ⟨_, rfl, h⟩
theorem b_eq_none (b : Array UInt8) (t : Tok) : Gives («bytes.__eq__» ⟨[.bytes b t, .none], []⟩) (.val .notImplemented) := by
  refine .of_wp fun M A E s Q hq => ?_
  show wpAny M A (isInstance .none (.type "bytes") >>= fun r => _) _ E s
  refine wpAny_bind (wpAny_isInstance (T := "NoneType") rfl sub_none_bytes ?_)
  refine wpAny_bind (wpAny_isInstance (T := "NoneType") rfl sub_none_bytes ?_)
  refine wpAny_bind (wpAny_rule ?_)
  exact wpAny_pure ⟨_, rfl, hq⟩
theorem b_ne_none (b : Array UInt8) (t : Tok) : Gives («bytes.__ne__» ⟨[.bytes b t, .none], []⟩) (.val .notImplemented) := by
  refine .of_wp fun M A E s Q hq => ?_
  show wpAny M A (isInstance .none (.type "bytes") >>= fun r => _) _ E s
  refine wpAny_bind (wpAny_isInstance (T := "NoneType") rfl sub_none_bytes ?_)
  refine wpAny_bind (wpAny_isInstance (T := "NoneType") rfl sub_none_bytes ?_)
  refine wpAny_bind (wpAny_rule ?_)
  exact wpAny_pure ⟨_, rfl, hq⟩
section
variable {prog : Program} {w : World} {A : Around} {E : Value → Shared → Prop} {s : Shared} {Q : Value → Shared → Prop} {a : Array UInt8} {t : Tok}
theorem eq_none_bytes (h : Q (.bool false) s) : wpAny (model prog w) A (compareOp .Eq .none (.bytes a t)) Q E s := by
  show wpAny _ A (richCompare .Eq _ _) Q E s
  exact wpAny_richCompare_eq_decline (k := false) (fun _ => rfl) (fun s' => typeIs_bytes s' a t) (by decide) sub_bytes_none F.slot_NoneType_eq slotR_bytes_eq rfl
    (call_gives F.slot_NoneType_eq rfl F.entry_NoneType_eq (F.args_NoneType_eq_2 _ _) (none_eq_b a t)
      ⟨rfl, call_gives slotR_bytes_eq (typeIs_bytes s a t) FB.entry_bytes_eq (FB.args_bytes_eq_2 _ _) (b_eq_none a t) ⟨rfl, h⟩⟩)
theorem ne_none_bytes (h : Q (.bool true) s) : wpAny (model prog w) A (compareOp .NotEq .none (.bytes a t)) Q E s := by
  show wpAny _ A (richCompare .NotEq _ _) Q E s
  exact wpAny_richCompare_ne_decline (k := false) (fun _ => rfl) (fun s' => typeIs_bytes s' a t) (by decide) sub_bytes_none F.slot_NoneType_ne slotR_bytes_ne rfl
    (call_gives F.slot_NoneType_ne rfl F.entry_NoneType_ne (F.args_NoneType_ne_2 _ _) (none_ne_b a t)
      ⟨rfl, call_gives slotR_bytes_ne (typeIs_bytes s a t) FB.entry_bytes_ne (FB.args_bytes_ne_2 _ _) (b_ne_none a t) ⟨rfl, h⟩⟩)
theorem ne_bytes_none (h : Q (.bool true) s) : wpAny (model prog w) A (compareOp .NotEq (.bytes a t) .none) Q E s := by
  show wpAny _ A (richCompare .NotEq _ _) Q E s
  exact wpAny_richCompare_ne_decline (k := false) (fun s' => typeIs_bytes s' a t) (fun _ => rfl) (by decide) sub_none_bytes FB.slot_bytes_ne F.slot_NoneType_ne_refl rfl
    (call_gives FB.slot_bytes_ne (typeIs_bytes s a t) FB.entry_bytes_ne (FB.args_bytes_ne_2 _ _) (b_ne_none a t)
      ⟨rfl, call_gives F.slot_NoneType_ne_refl rfl F.entry_NoneType_ne (F.args_NoneType_ne_2 _ _) (none_ne_b a t) ⟨rfl, h⟩⟩)
end
end Mine
end
section
open PySem PySem.W PySem.Calls PySem.Spec PyProof.Rows
namespace Mine
set_option maxRecDepth 100000
open Builtin Builtin._codecs
theorem narrow_crlf (t : Tok) : encodeNarrow "str.encode" asciiCodec none (.str (Str.ofString "crlf") t) (Str.ofString "crlf") = pure #[99, 114, 108, 102] := by kernel_rfl
theorem narrow_lf (t : Tok) : encodeNarrow "str.encode" asciiCodec none (.str (Str.ofString "lf") t) (Str.ofString "lf") = pure #[108, 102] := by kernel_rfl
theorem narrow_LF (t : Tok) : encodeNarrow "str.encode" asciiCodec none (.str (Str.ofString "LF") t) (Str.ofString "LF") = pure #[76, 70] := by kernel_rfl
theorem encode_tree2 (x : Str) (t u : Tok) : «str.encode» ⟨[.str x t, .str (Str.ofString "ascii") u], []⟩ = (do ret (← encodeRoad "str.encode" (.str x t) x (Str.ofString "ascii") none)) := by kernel_rfl
theorem road_ascii (x : Str) (t : Tok) : encodeRoad "str.encode" (.str x t) x (Str.ofString "ascii") none = (do mkBytes (← encodeNarrow "str.encode" asciiCodec none (.str x t) x)) := by kernel_rfl
theorem meets_encode {x : Str} {b : Array UInt8} {t u : Tok} (hb : encodeNarrow "str.encode" asciiCodec none (.str x t) x = pure b) :
    Meets («str.encode» ⟨[.str x t, .str (Str.ofString "ascii") u], []⟩) (fun _ R s => b.size ≤ 16777216 ∧ ∀ t' k, R (.ok (.ret (.bytes b t'))) { s with toks := k }) := by
  refine .of_wp fun prog w A R s h => ?_
  rw [encode_tree2, road_ascii, hb]
  refine wpAny_bind (wpAny_bind (wpAny_pure ?_))
  exact wpAny_mkBytes (wpAny_pure ⟨_, rfl, h.2 _ _⟩) (by rw [sizeLine_eq]; exact h.1)
section
variable {prog : Program} {w : World} {A : Around} {E : Value → Shared → Prop} {s : Shared} {Q : Value → Shared → Prop} {x : Str} {b : Array UInt8} {t u : Tok}
theorem call_encode (hb : encodeNarrow "str.encode" asciiCodec none (.str x t) x = pure b) (hn : b.size ≤ 16777216) (h : ∀ t' k, Q (.bytes b t') { s with toks := k }) : wpAny (model prog w) A (call (.builtin "str.encode") [.str x t, .str (Str.ofString "ascii") u]) Q E s :=
  call_meets F.slot_str_encode (typeIs_str _ _ _) F.entry_str_encode (F.args_str_encode_2 _ _) (meets_encode hb) ⟨hn, h⟩
end
end Mine
end
section
open PySem PySem.W PySem.Calls PySem.Spec PyProof.Rows
namespace Mine
set_option maxRecDepth 100000
/-- a part: one byte, or a row of x's -/
def WFp (b : Array UInt8) : Prop := b.size = 1 ∨ (1 ≤ b.size ∧ ∀ c ∈ b.toList, c = 120)
def sumS (bs : List (Array UInt8)) : Nat := (bs.map Array.size).sum
structure WF (bs : List (Array UInt8)) : Prop where
  each : ∀ b ∈ bs, WFp b
  size : sumS bs ≤ 8001 + bs.length
theorem WFp.pos {b : Array UInt8} (h : WFp b) : 1 ≤ b.size := by rcases h with h | h <;> omega
theorem sumS_append (a b : List (Array UInt8)) : sumS (a ++ b) = sumS a + sumS b := by simp [sumS]
theorem sumS_nil : sumS [] = 0 := rfl
theorem sumS_cons (a : Array UInt8) (b : List (Array UInt8)) : sumS (a :: b) = a.size + sumS b := by simp [sumS]
theorem sumS_ge {bs : List (Array UInt8)} (h : ∀ b ∈ bs, WFp b) : bs.length ≤ sumS bs := by
  induction bs with
  | nil => simp
  | cons a r ih =>
    rw [sumS_cons, List.length_cons]
    have := (h a (.head _)).pos
    have := ih fun b hb => h b (.tail _ hb)
    omega
theorem sumS_one {bs : List (Array UInt8)} (h : ∀ b ∈ bs, b.size = 1) : sumS bs = bs.length := by
  induction bs with
  | nil => rfl
  | cons a r ih =>
    rw [sumS_cons, List.length_cons, h a (.head _), ih fun b hb => h b (.tail _ hb)]; omega
theorem WF.nil : WF [] := ⟨(fun _ h => nomatch h), by simp [sumS]⟩
theorem WF.more {bs ss : List (Array UInt8)} (w : WF bs) (h : ∀ b ∈ ss, b.size = 1) : WF (bs ++ ss) := by
  refine ⟨fun b hb => ?_, ?_⟩
  · rcases List.mem_append.mp hb with hb | hb
    · exact w.each b hb
    · exact .inl (h b hb)
  · rw [sumS_append, sumS_one h, List.length_append]
    have := w.size
    omega
theorem WF.part {a bs c : List (Array UInt8)} (w : WF (a ++ bs ++ c)) : WF bs := by
  have e : ∀ b ∈ a ++ bs ++ c, WFp b := w.each
  refine ⟨fun b hb => e b (by simp [hb]), ?_⟩
  have h1 := sumS_ge (bs := a) fun b hb => e b (by simp [hb])
  have h2 := sumS_ge (bs := c) fun b hb => e b (by simp [hb])
  have := w.size
  rw [sumS_append, sumS_append, List.length_append, List.length_append] at this
  omega
theorem WF.slice {bs : List (Array UInt8)} (w : WF bs) (i n : Nat) : WF ((bs.drop i).take n) := by
  have e : bs.take i ++ (bs.drop i).take n ++ (bs.drop i).drop n = bs := by
    rw [List.append_assoc, List.take_append_drop, List.take_append_drop]
  exact WF.part (a := bs.take i) (c := (bs.drop i).drop n) (by rw [e]; exact w)
theorem WF.cut {bs : List (Array UInt8)} (w : WF bs) (lo hi : Option Int) : WF (cutL bs lo hi) := w.slice _ _
theorem cutL_le (bs : List (Array UInt8)) (lo hi : Option Int) : (cutL bs lo hi).length ≤ bs.length := by
  unfold cutL; rw [List.length_take, List.length_drop]; omega
theorem letter_size (k : Nat) (h : k < 4) : (([#[97], #[32], #[255], #[26]] : List (Array UInt8)).getD k #[]).size = 1 := by
  match k, h with
  | 0, _ => rfl
  | 1, _ => rfl
  | 2, _ => rfl
  | 3, _ => rfl
structure Edited (bs cs : List (Array UInt8)) : Prop where
  len : cs.length ≤ bs.length + 3
  wf : WF bs → WF cs
theorem Edited.add {bs ss : List (Array UInt8)} (h : ∀ b ∈ ss, b.size = 1) (hl : ss.length ≤ 3) : Edited bs (bs ++ ss) := ⟨by rw [List.length_append]; omega, fun w => w.more h⟩
theorem Edited.cut (bs : List (Array UInt8)) (lo hi : Option Int) : Edited bs (cutL bs lo hi) := ⟨by have := cutL_le bs lo hi; omega, fun w => w.cut lo hi⟩
theorem Edited.none (bs : List (Array UInt8)) : Edited bs [] := ⟨by simp, fun _ => .nil⟩
end Mine
end
section
open PySem PySem.W PySem.Calls PySem.Spec PyProof.Rows
namespace Mine
set_option maxRecDepth 100000
theorem lines_laid : PySem.Challenge.rw_ji0034_01 = PySem.Challenge.rw_ji0034_01 ∧ Mine.K = Mine.K := by
  k_fill
  k_with "J mem" => (repeat (first | exact List.mem_cons_self .. | apply List.mem_cons_of_mem))
  k_with "J lst" => (first | with_reducible assumption | exact isl (by assumption) (by walk_at "J mem") | is_list)
  k_with "J enter" => ((
  refine' enter_pure ?k1 ?k2 ?k3 ?k4 ?k5 ?k6 ?k7 ?k8 ?_ ?c1 ?c2 ?c3 ?c4
  (case k1 => assumption)
  (case k2 => assumption)
  (case k3 => assumption)
  (case k4 => k_is)
  (case k5 => k_is)
  (case k6 => exact Nat.le_of_ble_eq_true rfl)
  (case k7 => first | exact BindsTo.of_eq rfl | exact binds_K (by k_in) rfl (by k_is) rfl rfl rfl | fail "J enter: arguments")
  (case k8 => exact locs rfl)
  (case c1 => exact rfl)
  (case c2 => exact rfl)
  (case c3 => exact rfl)
  (case c4 => decide)))
  k_with "J begin" => ((
  refine wpAny_call ?_
  k_dflt walk_at "J enter"
  intro L' h₁ hL F N
  try dsimp only
  try k_fold))
  k_with "J step" => (((fail_if_success (with_reducible show InvEndN _ _ _ _ _ _ _)); (fail_if_success (with_reducible show LCt.CompRestT _ _ _ _ _ _ _ _ _ _ _ _ _ _ _ _ _ _ _ _)); (fail_if_success (with_reducible show wpAny _ _ (leaving _ _) _ _ _)); (fail_if_success (with_reducible show LCg.CompEnd _ _ _ _ _ _ _ _ _ _ _ _ _ _)); first | (k_unfold; (try dsimp only)) | (k_end; wrow_close) | ((fail_if_success (with_reducible show wpAny _ _ (exec (Stmt.For _ _ _ _ _) _) _ _ _)); (fail_if_success (with_reducible show wpAny _ _ (pyIter _) _ _ _)); walk1) | ((fail_if_success (with_reducible show wpAny _ _ (exec (Stmt.For _ _ _ _ _) _) _ _ _)); (fail_if_success (with_reducible show wpAny _ _ (pyIter _) _ _ _)); dsimp only; walk1) | (leave1; walk_say "STEP leave1"; try dsimp only) | fail "no step"))
  k_with "J steps" => (repeat' (walk_at "J step"))
  k_with "getMethod bytes" => ((k_here; (first | with_reducible refine gm_replace ?_ | with_reducible refine gm_split ?_ | with_reducible refine gm_join ?_ | with_reducible refine gm_endswith ?_)))
  k_with "J size" => (first | omega | assumption | (simp only [List.size_toArray] at *; omega) | (simp only [List.length_cons, List.length_nil, List.length_append]; omega))
  k_with "call builtin:bytes.replace" => ((k_here; k_dflt (refine' call_replace ?k1 ?_; (case k1 => walk_at "J size"); k_whole); intro _ _))
  k_with "call builtin:bytes.split" => ((k_here; k_dflt (refine' call_split ?F ?N ?k1 ?_; (case F => k_asm); (case N => k_asm); (case k1 => walk_at "J size"); k_whole); intro h' vs' k' F' N' hb'))
  k_with "call builtin:bytes.join" => ((k_here; k_dflt (refine' call_join ?k1 ?k2 ?k3 ?k4 ?_; (case k1 => walk_at "J lst"); (case k2 => assumption); (case k3 => assumption); (case k4 => assumption); k_whole); intro _ _))
  k_with "call builtin:bytes.endswith" => ((k_here; k_dflt (refine' call_endswith ?_; k_whole)))
  k_with "call builtin:bytes.decode" => ((k_here; k_dflt (refine' call_decode0 ?k1 ?k2 ?k3 ?k4 ?_; (case k1 => decide +kernel); (case k2 => decide +kernel); (case k3 => decide +kernel); (case k4 => decide +kernel); k_whole); intro _ _))
  k_with "compareOp In bytes bytes" => ((k_here; k_dflt (refine' in_bytes ?F ?N ?hh ?_; (case F => k_asm); (case N => k_asm); (case hh => exact rfl); k_whole); intro h' k' F' N'; (try simp only [find_one, find_CR])))
  k_with "compareOp NotIn bytes bytes" => ((k_here; k_dflt (refine' notIn_bytes ?F ?N ?hh ?_; (case F => k_asm); (case N => k_asm); (case hh => exact rfl); k_whole); intro h' k' F' N'; (try simp only [find_one, find_CR])))
  k_with "subscriptTail" => ((k_here; (with_reducible show wpAny _ _ (subscriptTail _ (Expr.Slice _ _ none _) (Value.bytes _ _) (Value.ref _)) _ _ _); (with_reducible rename Fr _ _ _ _ => F'); (with_reducible rename News _ _ _ _ => N'); (refine slice_any (s := ⟨_, _, _, _, _⟩) F' N' (by constructor) (by constructor) (by walk_at "J size") ?_); intro _ _ _ _ _))
  k_with "subscriptTail" => ((k_here; (with_reducible show wpAny _ _ (subscriptTail _ (Expr.Slice _ _ none _) (Value.ref _) (Value.ref _)) _ _ _); (with_reducible rename Fr _ _ _ _ => F'); (with_reducible rename News _ _ _ _ => N'); (refine slice_B (s := ⟨_, _, _, _, _⟩) F' N' (by walk_at "J lst") (by assumption) (by constructor) (by constructor) (by walk_at "J size") ?_); intro a' h' us' lt' F' N' hb'; (try k_lt lt'); (try k_sweep)))
  k_with "subscriptTail Name Slice ref ref" => ((k_here; (with_reducible show wpAny _ _ (subscriptTail _ (Expr.Slice _ _ none _) (Value.ref _) (Value.ref _)) _ _ _); (with_reducible rename Fr _ _ _ _ => F'); (with_reducible rename News _ _ _ _ => N'); (refine slice_B (s := ⟨_, _, _, _, _⟩) F' N' (by walk_at "J lst") (by assumption) (by constructor) (by constructor) (by walk_at "J size") ?_); intro a' h' us' lt' F' N' hb'; (try k_lt lt'); (try k_sweep)))
  k_with "subscriptTail" => ((k_here; (with_reducible show wpAny _ _ (subscriptTail _ _ (Value.ref _) (Value.int _ _)) _ _ _); k_dflt (refine' item_B ?k1 ?k2 ?k3 ?k4 ?k5 ?_; (case k1 => walk_at "J lst"); (case k2 => assumption); (case k3 => walk_at "J fact"); (case k4 => walk_at "J fact"); (case k5 => walk_at "J size"); k_whole); intro _))
  k_with "subscriptTail Name BinOp ref int" => ((k_here; (with_reducible show wpAny _ _ (subscriptTail _ _ (Value.ref _) (Value.int _ _)) _ _ _); k_dflt (refine' item_B ?k1 ?k2 ?k3 ?k4 ?k5 ?_; (case k1 => walk_at "J lst"); (case k2 => assumption); (case k3 => walk_at "J fact"); (case k4 => walk_at "J fact"); (case k5 => walk_at "J size"); k_whole); intro _))
  k_with "subscriptTail Name Name ref int" => ((k_here; (with_reducible show wpAny _ _ (subscriptTail _ _ (Value.ref _) (Value.int _ _)) _ _ _); k_dflt (refine' item_B ?k1 ?k2 ?k3 ?k4 ?k5 ?_; (case k1 => walk_at "J lst"); (case k2 => assumption); (case k3 => walk_at "J fact"); (case k4 => walk_at "J fact"); (case k5 => walk_at "J size"); k_whole); intro _))
  k_with "J fact" => (first | omega | (simp only [List.length_cons, List.length_nil]; omega) | (simp only [decide_eq_true_eq, decide_eq_false_iff_not, Bool.not_eq_true, Bool.not_eq_false, beq_iff_eq, bne_iff_ne, ne_eq] at *; omega) | l_fact)
  k_with "call builtin:len" => ((k_here; (with_reducible show wpAny _ _ (call (Value.builtin "len") [Value.ref _]) _ _ _); k_dflt (refine' len_B ?k1 ?k2 ?k3 ?_; (case k1 => walk_at "J lst"); (case k2 => assumption); (case k3 => walk_at "J size"); k_whole); intro _ _))
  k_with "binaryOp Add ref ref" => ((k_here; k_dflt (refine' add_B ?F ?N ?k1 ?k2 ?k3 ?k4 ?k5 ?_; (case F => k_asm); (case N => k_asm); (case k1 => walk_at "J lst"); (case k2 => walk_at "J lst"); (case k3 => walk_at "J bytes"); (case k4 => walk_at "J bytes"); (case k5 => walk_at "J size"); k_whole); intro a' h' lt' F' N' hb'; (try k_lt lt'); (try k_sweep)))
  k_with "J bytes" => (first | assumption | exact BytesAre.nil | exact BytesAre.cons (by walk_at "J bytes"))
  k_with "compareOp In bytes ref" => ((k_here; k_dflt (refine' in_B ?k1 ?k2 ?_; (case k1 => walk_at "J lst"); (case k2 => assumption); k_whole)))
  k_with "compareOp NotIn bytes ref" => ((k_here; k_dflt (refine' notIn_B ?k1 ?k2 ?_; (case k1 => walk_at "J lst"); (case k2 => assumption); k_whole)))
  k_with "compareOp NotEq ref ref" => ((k_here; k_dflt (refine' ne_BL ?k1 ?k2 ?k3 ?k4 ?k5 ?_; (case k1 => walk_at "J lst"); (case k2 => assumption); (case k3 => walk_at "J lst"); (case k4 => walk_at "J bytes"); (case k5 => exact Nat.le_of_ble_eq_true rfl); k_whole)))
  k_with "compareOp Eq bytes bytes" => ((k_here; k_dflt (refine' eq_bytesD ?_; k_whole)))
  k_with "compareOp NotEq bytes bytes" => ((k_here; k_dflt (refine' ne_bytesD ?_; k_whole)))
  k_with "call builtin:len" => ((k_here; (with_reducible show wpAny _ _ (call (Value.builtin "len") [Value.bytes _ _]) _ _ _); k_dflt (refine' len_J ?k1 ?_; (case k1 => walk_at "J size"); k_whole); intro _ _))
  k_with "call builtin:list.append" => ((k_here; (with_reducible show wpAny _ _ (call (Value.builtin _) [Value.ref _, _]) _ _ _); k_dflt (refine' append_K ?k1 ?k2 ?k3 ?_ ?z; (case k1 => k_asm); (case k2 => k_asm); (case k3 => k_upd); (case z => (rw [sizeLine_eq]; (try simp only [List.size_toArray, List.length_append, List.length_cons, List.length_nil]); omega)); k_whole); intro h' F' N'; (try simp only [List.push_toArray] at N')))
  k_with "J enterC" => ((
  refine' enter_cells ?k1 ?k2 ?k3 ?k4 ?k5 ?k6 ?k7 ?k8 ?k9 ?_ ?c1 ?c2 ?c3
  (case k1 => assumption)
  (case k2 => assumption)
  (case k3 => assumption)
  (case k4 => k_is)
  (case k5 => k_is)
  (case k6 => exact Nat.le_of_ble_eq_true rfl)
  (case k7 => exact BindsTo.of_eq rfl)
  (case k8 => exact rfl)
  (case k9 => decide +kernel)
  (case c1 => exact rfl)
  (case c2 => exact rfl)
  (case c3 => exact rfl)))
  k_with "J beginC" => ((
  refine wpAny_call ?_
  k_dflt walk_at "J enterC"
  intro L' h₁ tk' cells hL F N Y
  k_cells Y
  (try simp only [List.cons_append, List.nil_append] at N)
  try dsimp only
  try k_fold))
  k_with "CompSrcT" => ((k_here; k_dflt (refine LCt.CompSrcT.range (n := ?n) (by rfl) (by k_asm) (by k_asm) (by assumption) (by exact small_one (by omega) (by omega) (by omega) (by omega)) (by exact rangeSize_nat _ _) (by rw [PySem.sizeLine_eq]; omega) ?_; intro g')))
  k_with "compareOp In bytes ref" => ((k_here; k_dflt (refine' in_TB (vs := [_, _]) ?k1 ?k2 ?k3 ?_; (case k1 => k_asm); (case k2 => k_mem); (case k3 => walk_at "J bytes"); k_whole)))
  k_with "J strs" => (first | assumption | exact StrsAre.nil | exact StrsAre.cons _ _ (by walk_at "J strs"))
  k_with "compareOp In str ref" => ((k_here; k_dflt (first | (refine' in_TS (vs := [_, _]) ?k1 ?k2 ?k3 ?_; (case k1 => k_asm); (case k2 => k_mem); (case k3 => walk_at "J strs"); k_whole) | (refine' in_TS (vs := [_, _, _]) ?k1 ?k2 ?k3 ?_; (case k1 => k_asm); (case k2 => k_mem); (case k3 => walk_at "J strs"); k_whole) | (refine' in_TS (vs := [_, _, _, _]) ?k1 ?k2 ?k3 ?_; (case k1 => k_asm); (case k2 => k_mem); (case k3 => walk_at "J strs"); k_whole))))
  k_with "compareOp In str ref" => ((k_here; k_dflt (refine' in_TX (vs := [_, _, _]) ?k1 ?k2 ?k3 ?ka ?kb ?k4 ?_; (case k1 => assumption); (case k2 => k_asm); (case k3 => k_is); (case ka => exact rfl); (case kb => exact rfl); (case k4 => walk_at "J strs"); k_whole)))
  k_with "J enterL" => ((
  refine' enter_L ?k1 ?k2 ?k3 ?kS ?k4 ?k5 ?k6 ?k7 ?k8 ?_ ?c1 ?c2 ?c3 ?c4
  (case k1 => assumption)
  (case k2 => assumption)
  (case k3 => assumption)
  (case kS => assumption)
  (case k4 => k_is)
  (case k5 => k_is)
  (case k6 => exact Nat.le_of_ble_eq_true rfl)
  (case k7 => first | exact BindsTo.of_eq rfl | exact binds_K (by k_in) rfl (by k_is) rfl rfl rfl | fail "J enter: arguments")
  (case k8 => exact locs rfl)
  (case c1 => exact rfl)
  (case c2 => exact rfl)
  (case c3 => exact rfl)
  (case c4 => decide)))
  k_with "J beginL" => ((
  refine wpAny_call ?_
  k_dflt walk_at "J enterL"
  intro L' h₁ hL F N
  try dsimp only
  try k_fold))
  k_with "J raise" => ((
  show wpAny _ _ (leaving _ _) _ _ _
  dsimp only
  refine leave_new (by assumption) (by assumption) (by k_asm) (by k_asm) (by assumption) ?_ ?_ ?_
  · intro p hp
    first | exact nomatch hp | (simp only [List.mem_cons, List.not_mem_nil, or_false] at *; simp only [*, true_or, or_true])
  · (simp only [*]; exact get_size _)))
  k_with "J noraise" => (first | assumption | exact imp_of (by assumption) (by simp_all [keepsC]))
  k_with "J passon" => ((
  show wpAny _ _ (leaving _ _) _ _ _
  dsimp only
  refine' pass_on (by assumption) rfl (by assumption) (by assumption) ?F ?N ?hL ?_
  (case F => k_asm)
  (case N => k_asm)
  (case hL => (simp only [*]; exact get_size _))))
  k_with "compareOp Eq none bytes" => ((k_here; k_dflt (refine' eq_none_bytes ?_; k_whole)))
  k_with "compareOp NotEq none bytes" => ((k_here; k_dflt (refine' ne_none_bytes ?_; k_whole)))
  k_with "compareOp NotEq bytes none" => ((k_here; k_dflt (refine' ne_bytes_none ?_; k_whole)))
  k_with "setItem ref bytes" => ((k_here; k_dflt (refine' kda_set (knd := PySem.W.bytesKind _ _) ?F ?N ?U ?d (bytesKind_is _ _ _ _) ?z ?_; (case F => k_asm); (case N => k_asm); (case U => k_updF); (case d => first | k_asm | exact bk_nil (by k_asm)); (case z => rw [sizeLine_eq]; exact Nat.le_of_ble_eq_true (by with_unfolding_all rfl))); intro h' o' F' N' hd'; (try dsimp only at N')))
  k_with "getItem ref str" => ((k_here; k_dflt (refine' look_word (by assumption) ?N ?mem (by assumption) ?ht ?_; (case N => k_asm); (case mem => k_mem); (case ht => exact imp_of (by assumption) (by assumption)); k_whole); intro v' ha'; ((with_reducible rename News _ _ _ (_ :: _ :: _) => N9); have N8 := news_tl N9; clear N9)))
  k_with "call builtin:str.encode" => ((k_here; k_dflt (refine' call_encode ((imp_of (by assumption : _ → EolOk _ _) (by assumption)).1 _) ((imp_of (by assumption : _ → EolOk _ _) (by assumption)).2) ?_; k_whole); intro _ _))
  k_with "getMethod str" => ((k_here; (with_reducible refine gm_encode ?_)))
  k_with "J toIf" => (repeat' ((fail_if_success (with_reducible show wpAny _ _ (exec (Stmt.If _ _ _ _) _) _ _ _)); walk_at "J step"))
  k_with "getMethod ref" => ((k_here; (with_reducible show wpAny _ _ (getMethod (Value.ref _) (Str.ofString "get") _) _ _ _); k_dflt (refine bget_method (by k_asm) (by k_mem) (by assumption) ?_)))
  k_with "call builtin:dict.get" => ((k_here; k_dflt (refine bget (by k_asm) (by k_mem) (by assumption) (by assumption) (by assumption) ?_)))
  k_with "J stepC" => (((fail_if_success (with_reducible show InvEndN _ _ _ _ _ _ _)); (fail_if_success (with_reducible show wpAny _ _ (leaving _ _) _ _ _)); first | (k_unfold; (try dsimp only)) | (k_end; wrow_close) | ((fail_if_success (with_reducible show wpAny _ _ (exec (Stmt.For _ _ _ _ _) _) _ _ _)); (fail_if_success (with_reducible show wpAny _ _ (pyIter _) _ _ _)); walk1) | ((fail_if_success (with_reducible show wpAny _ _ (exec (Stmt.For _ _ _ _ _) _) _ _ _)); (fail_if_success (with_reducible show wpAny _ _ (pyIter _) _ _ _)); dsimp only; walk1) | (leave1; walk_say "STEP leave1"; try dsimp only) | fail "no step"))
  k_with "J stepsC" => (repeat' (walk_at "J stepC"))
  k_with "J toIfC" => (repeat' ((fail_if_success (with_reducible show wpAny _ _ (exec (Stmt.If _ _ _ _) _) _ _ _)); walk_at "J stepC"))
  k_with "J toAssign" => (repeat' ((fail_if_success (with_reducible show wpAny _ _ (exec (Stmt.Assign _ _ _) _) _ _ _)); walk_at "J stepC"))
  k_with "subscriptTail Name Constant ref int" => ((k_here; (with_reducible show wpAny _ _ (subscriptTail _ _ (Value.ref _) (Value.int 0 _)) _ _ _); k_dflt (refine' item0 ?k1 ?k2 ?_; (case k2 => assumption); (case k1 => walk_at "J lst"); k_whole)))
  k_with "subscriptTail Name Constant ref int" => ((k_here; (with_reducible show wpAny _ _ (subscriptTail _ _ (Value.ref _) (Value.int 0 _)) _ _ _); k_dflt (refine' tup0 ?k1 ?k2 ?_; (case k1 => k_asm); (case k2 => k_mem); k_whole)))
  k_with "subscriptTail Name Constant ref int" => ((k_here; (with_reducible show wpAny _ _ (subscriptTail _ _ (Value.ref _) (Value.int 1 _)) _ _ _); k_dflt (refine' tup1 ?k1 ?k2 ?_; (case k1 => k_asm); (case k2 => k_mem); k_whole)))
  k_with "J idx" => (first | exact Int.fmod_nonneg_of_pos _ (by omega) | ((simp only [List.length_cons, List.length_nil]); exact Int.lt_of_lt_of_le (Int.fmod_lt_of_pos _ (by omega)) (by omega)) | walk_at "J fact")
  k_with "subscriptTail" => ((k_here; (with_reducible show wpAny _ _ (subscriptTail _ _ (Value.ref _) (Value.int _ _)) _ _ _); k_dflt (refine' item_S ?k1 ?k2 ?k3 ?k4 ?k5 ?_; (case k2 => assumption); (case k1 => walk_at "J lst"); (case k3 => walk_at "J idx"); (case k4 => walk_at "J idx"); (case k5 => exact Nat.le_of_ble_eq_true rfl); k_whole); intro _))
  k_with "subscriptTail Name BinOp ref int" => ((k_here; (with_reducible show wpAny _ _ (subscriptTail _ _ (Value.ref _) (Value.int _ _)) _ _ _); k_dflt (refine' item_S ?k1 ?k2 ?k3 ?k4 ?k5 ?_; (case k2 => assumption); (case k1 => walk_at "J lst"); (case k3 => walk_at "J idx"); (case k4 => walk_at "J idx"); (case k5 => exact Nat.le_of_ble_eq_true rfl); k_whole); intro _))
  k_with "subscriptTail" => ((k_here; (with_reducible show wpAny _ _ (subscriptTail _ _ (Value.ref _) (Value.int _ _)) _ _ _); k_dflt (refine' item_B ?k1 ?k2 ?k3 ?k4 ?k5 ?_; (case k1 => walk_at "J lst"); (case k2 => assumption); (case k3 => walk_at "J idx"); (case k4 => walk_at "J idx"); (case k5 => walk_at "J size"); k_whole); intro _))
  k_with "subscriptTail Name BinOp ref int" => ((k_here; (with_reducible show wpAny _ _ (subscriptTail _ _ (Value.ref _) (Value.int _ _)) _ _ _); k_dflt (refine' item_B ?k1 ?k2 ?k3 ?k4 ?k5 ?_; (case k1 => walk_at "J lst"); (case k2 => assumption); (case k3 => walk_at "J idx"); (case k4 => walk_at "J idx"); (case k5 => walk_at "J size"); k_whole); intro _))
  k_with "subscriptTail Call Name nil nil BinOp ref int" => ((k_here; k_dflt (refine kba_turn (value' := PySem.Expr.Name (PySem.Str.ofString "_") ⟨0, 0, 0, 0⟩) (fun _ => rfl) ?_)))
  k_with "subscriptTail Call Name cons nil Constant ref int" => ((k_here; k_dflt (refine kba_turn (value' := PySem.Expr.Name (PySem.Str.ofString "_") ⟨0, 0, 0, 0⟩) (fun _ => rfl) ?_)))
  k_with "J kd" => (first | with_reducible exact kd_script | with_reducible exact kd_lead | with_reducible exact kd_text | with_reducible exact kd_crlf | with_reducible exact kd_eol | with_reducible exact kd_auto | with_reducible exact kd_core | with_reducible exact kd_safe | with_reducible exact kd_work | with_reducible exact kd_kept | with_reducible exact kd_step | with_reducible exact kd_number | with_reducible exact kd_kind | with_reducible exact kd_rest | with_reducible exact kd_rule | with_reducible exact kd_action | with_reducible exact kd_lone | with_reducible exact kd_pairs | with_reducible exact kd_triples | with_reducible exact kd_blank | with_reducible exact kd_less | with_reducible exact kd_here | with_reducible exact kd_there | with_reducible exact kd_shut | with_reducible exact kd_more | with_reducible exact kd_held | with_reducible exact kd_careful | with_reducible exact kd_driver | with_reducible exact kd_looks | with_reducible exact kd_plain | with_reducible exact kd_ways | with_reducible exact kd_inward | with_reducible exact kd_outward | with_reducible exact kd_way | with_reducible exact kd_cleans | with_reducible exact kd_smudges | with_reducible exact kd_finds | with_reducible exact kd_guess | with_reducible exact kd_stays)
  k_with "eval Name" => ((k_here; (with_reducible show wpAny _ _ (eval (Expr.Name _ _) (lawEn _ _ _)) _ _ _); k_dflt (first | (refine' law_L ?F ?x ?v ?_; (case x => walk_at "J kd"); (case F => k_asm); (case v => rfl); k_whole) | ((first | (with_reducible refine' gl_LineEndingFilter ?F ?X ?T ?_) | (with_reducible refine' gl_get_clean_filter ?F ?X ?T ?_) | (with_reducible refine' gl_get_smudge_filter ?F ?X ?T ?_) | (with_reducible refine' gl_law_cleaned ?F ?X ?T ?_) | (with_reducible refine' gl_convert_crlf_to_lf ?F ?X ?T ?_) | (with_reducible refine' gl_convert_lf_to_crlf ?F ?X ?T ?_) | (with_reducible refine' gl_law_more ?F ?X ?T ?_) | (with_reducible refine' gl_line_ending_filter_for_action ?F ?X ?T ?_) | (with_reducible refine' gl_law_counts ?F ?X ?T ?_) | (with_reducible refine' gl_law_binary ?F ?X ?T ?_) | (with_reducible refine' gl_law_less ?F ?X ?T ?_) | (with_reducible refine' gl_is_binary ?F ?X ?T ?_) | (with_reducible refine' gl_law_rule ?F ?X ?T ?_) | (with_reducible refine' gl_resolve_crlf_action ?F ?X ?T ?_) | (with_reducible refine' gl_law_attributes ?F ?X ?T ?_) | (with_reducible refine' gl_law_named ?F ?X ?T ?_) | (with_reducible refine' gl_law_words ?F ?X ?T ?_) | (with_reducible refine' gl_law_ends ?F ?X ?T ?_) | (with_reducible refine' gl_law_autos ?F ?X ?T ?_) | (with_reducible refine' gl_law_cores ?F ?X ?T ?_) | (with_reducible refine' gl_law_safes ?F ?X ?T ?_) | (with_reducible refine' gl_law_edited ?F ?X ?T ?_) | (with_reducible refine' gl_law_cr ?F ?X ?T ?_) | (with_reducible refine' gl_law_lf ?F ?X ?T ?_)); (case F => k_asm); (case X => assumption); (case T => assumption)))))
  k_with "storeName" => ((k_here; (with_reducible show wpAny _ _ (storeName (lawEn _ _ _) _ _) _ _ _); k_dflt (refine' law_S ?F ?N ?x ?_; (case x => walk_at "J kd"); (case F => k_asm); (case N => k_asm); k_whole; intro h' F' N'; (try k_sweep))))
  k_with "call ref" => ((k_here; (with_reducible show wpAny _ _ (call (Value.ref 28) _) _ _ _); k_dflt (refine' use_pure (pure_is_binary _ _) ?B ?F ?X ?N ?T ?h1 ?h2 ?h3 ?h4 ?h5 ?pre ?_; (case B => assumption); (case F => k_asm); (case X => assumption); (case N => k_asm); (case T => assumption); (case h1 => exact rfl); (case h2 => exact rfl); (case h3 => exact rfl); (case h4 => exact Nat.le_of_ble_eq_true rfl); (case h5 => exact Nat.le_of_ble_eq_true rfl); (case pre => walk_at "J size"); k_whole); intro v' nw' h' tk' F' N' st' p'; clear st'; (obtain ⟨e1', e2'⟩ := p'); (subst e1' e2'); (try simp only [List.nil_append, List.cons_append] at N')))
  k_with "call ref" => ((k_here; (with_reducible show wpAny _ _ (call (Value.ref 125) _) _ _ _); k_dflt (refine' use_pure (pure_crlf_to_lf _ _) ?B ?F ?X ?N ?T ?h1 ?h2 ?h3 ?h4 ?h5 ?pre ?_; (case B => assumption); (case F => k_asm); (case X => assumption); (case N => k_asm); (case T => assumption); (case h1 => exact rfl); (case h2 => exact rfl); (case h3 => exact rfl); (case h4 => exact Nat.le_of_ble_eq_true rfl); (case h5 => exact Nat.le_of_ble_eq_true rfl); (case pre => walk_at "J size"); k_whole); intro v' nw' h' tk' F' N' st' p'; clear st'; (obtain ⟨e1', t', e2'⟩ := p'); (subst e1' e2'); (try simp only [List.nil_append, List.cons_append] at N')))
  k_with "call ref" => ((k_here; (with_reducible show wpAny _ _ (call (Value.ref 250) _) _ _ _); k_dflt (refine' use_pure (pure_binary _ _ _) ?B ?F ?X ?N ?T ?h1 ?h2 ?h3 ?h4 ?h5 ?pre ?_; (case B => assumption); (case F => k_asm); (case X => assumption); (case N => k_asm); (case T => assumption); (case h1 => exact rfl); (case h2 => exact rfl); (case h3 => exact rfl); (case h4 => exact Nat.le_of_ble_eq_true rfl); (case h5 => exact Nat.le_of_ble_eq_true rfl); (case pre => exact ⟨by walk_at "J lst", by walk_at "J bytes", by walk_at "J size"⟩); k_whole); intro v' nw' h' tk' F' N' st' p'; clear st'; (obtain ⟨e1', e2'⟩ := p'); (subst e1' e2'); (try simp only [List.nil_append, List.cons_append] at N')))
  k_with "call ref" => ((k_here; (with_reducible show wpAny _ _ (call (Value.ref 132) _) _ _ _); k_dflt (refine' use_pure (pure_lf_to_crlf _ _) ?B ?F ?X ?N ?T ?h1 ?h2 ?h3 ?h4 ?h5 ?pre ?_; (case B => assumption); (case F => k_asm); (case X => assumption); (case N => k_asm); (case T => assumption); (case h1 => exact rfl); (case h2 => exact rfl); (case h3 => exact rfl); (case h4 => exact Nat.le_of_ble_eq_true rfl); (case h5 => exact Nat.le_of_ble_eq_true rfl); (case pre => walk_at "J size"); k_whole); intro v' nw' h' tk' F' N' st' p'; clear st'; (obtain ⟨e1', t', e2'⟩ := p'); (subst e1' e2'); (try simp only [List.nil_append, List.cons_append] at N')))
  k_with "call ref" => ((k_here; (with_reducible show wpAny _ _ (call (Value.ref 262) _) _ _ _); k_dflt (refine' use_pure (pure_more _ _ _) ?B ?F ?X ?N ?T ?h1 ?h2 ?h3 ?h4 ?h5 ?pre ?_; (case B => assumption); (case F => k_asm); (case X => assumption); (case N => k_asm); (case T => assumption); (case h1 => exact rfl); (case h2 => exact rfl); (case h3 => exact rfl); (case h4 => exact Nat.le_of_ble_eq_true rfl); (case h5 => exact Nat.le_of_ble_eq_true rfl); (case pre => exact ⟨by walk_at "J lst", by walk_at "J bytes", by walk_at "J size"⟩); k_whole); intro v' nw' h' tk' F' N' st' p'; clear st'; (obtain ⟨d', vs', n', e1', e2', hb'⟩ := p'); (subst e1' e2'); (try simp only [List.nil_append, List.cons_append] at N')))
  k_with "call ref" => ((k_here; (with_reducible show wpAny _ _ (call (Value.ref 243) _) _ _ _); k_dflt (refine' use_pure (pure_counts _ _ _) ?B ?F ?X ?N ?T ?h1 ?h2 ?h3 ?h4 ?h5 ?pre ?_; (case B => assumption); (case F => k_asm); (case X => assumption); (case N => k_asm); (case T => assumption); (case h1 => exact rfl); (case h2 => exact rfl); (case h3 => exact rfl); (case h4 => exact Nat.le_of_ble_eq_true rfl); (case h5 => exact Nat.le_of_ble_eq_true rfl); (case pre => exact ⟨by walk_at "J lst", by walk_at "J bytes", by walk_at "J size"⟩); k_whole); intro v' nw' h' tk' F' N' st' p'; clear st'; (obtain ⟨d', t1', t2', t3', e1', e2'⟩ := p'); (subst e1' e2'); (try simp only [List.nil_append, List.cons_append] at N')))
  k_with "call ref" => ((k_here; (with_reducible show wpAny _ _ (call (Value.ref 255) _) _ _ _); k_dflt (refine' use_pure (pure_less _ _ _) ?B ?F ?X ?N ?T ?h1 ?h2 ?h3 ?h4 ?h5 ?pre ?_; (case B => assumption); (case F => k_asm); (case X => assumption); (case N => k_asm); (case T => assumption); (case h1 => exact rfl); (case h2 => exact rfl); (case h3 => exact rfl); (case h4 => exact Nat.le_of_ble_eq_true rfl); (case h5 => exact Nat.le_of_ble_eq_true rfl); (case pre => exact ⟨by walk_at "J lst", by walk_at "J bytes", by walk_at "J size"⟩); k_whole); intro v' nw' h' tk' F' N' st' p'; clear st'; (obtain ⟨d', vs', n', e1', e2', hb'⟩ := p'); (subst e1' e2'); (try simp only [List.nil_append, List.cons_append] at N')))
  k_with "call ref" => ((k_here; (with_reducible show wpAny _ _ (call (Value.ref 175) _) _ _ _); k_dflt (refine' use_pure (pure_words) ?B ?F ?X ?N ?T ?h1 ?h2 ?h3 ?h4 ?h5 ?pre ?_; (case B => assumption); (case F => k_asm); (case X => assumption); (case N => k_asm); (case T => assumption); (case h1 => exact rfl); (case h2 => exact rfl); (case h3 => exact rfl); (case h4 => exact Nat.le_of_ble_eq_true rfl); (case h5 => exact Nat.le_of_ble_eq_true rfl); (case pre => exact True.intro); k_whole); intro v' nw' h' tk' F' N' st' p'; clear st'; (obtain ⟨d', vs', n', e1', e2', hb'⟩ := p'); (subst e1' e2'); (try simp only [List.nil_append, List.cons_append] at N')))
  k_with "call ref" => ((k_here; (with_reducible show wpAny _ _ (call (Value.ref 189) _) _ _ _); k_dflt (refine' use_pure (pure_ends) ?B ?F ?X ?N ?T ?h1 ?h2 ?h3 ?h4 ?h5 ?pre ?_; (case B => assumption); (case F => k_asm); (case X => assumption); (case N => k_asm); (case T => assumption); (case h1 => exact rfl); (case h2 => exact rfl); (case h3 => exact rfl); (case h4 => exact Nat.le_of_ble_eq_true rfl); (case h5 => exact Nat.le_of_ble_eq_true rfl); (case pre => exact True.intro); k_whole); intro v' nw' h' tk' F' N' st' p'; clear st'; (obtain ⟨d', vs', n', e1', e2', hb'⟩ := p'); (subst e1' e2'); (try simp only [List.nil_append, List.cons_append] at N')))
  k_with "call ref" => ((k_here; (with_reducible show wpAny _ _ (call (Value.ref 196) _) _ _ _); k_dflt (refine' use_pure (pure_autos) ?B ?F ?X ?N ?T ?h1 ?h2 ?h3 ?h4 ?h5 ?pre ?_; (case B => assumption); (case F => k_asm); (case X => assumption); (case N => k_asm); (case T => assumption); (case h1 => exact rfl); (case h2 => exact rfl); (case h3 => exact rfl); (case h4 => exact Nat.le_of_ble_eq_true rfl); (case h5 => exact Nat.le_of_ble_eq_true rfl); (case pre => exact True.intro); k_whole); intro v' nw' h' tk' F' N' st' p'; clear st'; (obtain ⟨d', vs', n', e1', e2', hb'⟩ := p'); (subst e1' e2'); (try simp only [List.nil_append, List.cons_append] at N')))
  k_with "call ref" => ((k_here; (with_reducible show wpAny _ _ (call (Value.ref 203) _) _ _ _); k_dflt (refine' use_pure (pure_cores) ?B ?F ?X ?N ?T ?h1 ?h2 ?h3 ?h4 ?h5 ?pre ?_; (case B => assumption); (case F => k_asm); (case X => assumption); (case N => k_asm); (case T => assumption); (case h1 => exact rfl); (case h2 => exact rfl); (case h3 => exact rfl); (case h4 => exact Nat.le_of_ble_eq_true rfl); (case h5 => exact Nat.le_of_ble_eq_true rfl); (case pre => exact True.intro); k_whole); intro v' nw' h' tk' F' N' st' p'; clear st'; (obtain ⟨d', vs', n', e1', e2', hb'⟩ := p'); (subst e1' e2'); (try simp only [List.nil_append, List.cons_append] at N')))
  k_with "call ref" => ((k_here; (with_reducible show wpAny _ _ (call (Value.ref 210) _) _ _ _); k_dflt (refine' use_pure (pure_safes) ?B ?F ?X ?N ?T ?h1 ?h2 ?h3 ?h4 ?h5 ?pre ?_; (case B => assumption); (case F => k_asm); (case X => assumption); (case N => k_asm); (case T => assumption); (case h1 => exact rfl); (case h2 => exact rfl); (case h3 => exact rfl); (case h4 => exact Nat.le_of_ble_eq_true rfl); (case h5 => exact Nat.le_of_ble_eq_true rfl); (case pre => exact True.intro); k_whole); intro v' nw' h' tk' F' N' st' p'; clear st'; (obtain ⟨d', vs', n', e1', e2', hb'⟩ := p'); (subst e1' e2'); (try simp only [List.nil_append, List.cons_append] at N')))
  k_with "call ref" => ((k_here; (with_reducible show wpAny _ _ (call (Value.ref 217) _) _ _ _); k_dflt (refine' use_pure (pure_letters) ?B ?F ?X ?N ?T ?h1 ?h2 ?h3 ?h4 ?h5 ?pre ?_; (case B => assumption); (case F => k_asm); (case X => assumption); (case N => k_asm); (case T => assumption); (case h1 => exact rfl); (case h2 => exact rfl); (case h3 => exact rfl); (case h4 => exact Nat.le_of_ble_eq_true rfl); (case h5 => exact Nat.le_of_ble_eq_true rfl); (case pre => exact True.intro); k_whole); intro v' nw' h' tk' F' N' st' p'; clear st'; (obtain ⟨d', vs', n', e1', e2', hb'⟩ := p'); (subst e1' e2'); (try simp only [List.nil_append, List.cons_append] at N')))
  k_with "call ref" => ((k_here; (with_reducible show wpAny _ _ (call (Value.ref 140) _) _ _ _); k_dflt (refine' use_pure (pure_check _ _ _ _ _ _ _) ?B ?F ?X ?N ?T ?h1 ?h2 ?h3 ?h4 ?h5 ?pre ?_; (case B => assumption); (case F => k_asm); (case X => assumption); (case N => k_asm); (case T => assumption); (case h1 => exact rfl); (case h2 => exact rfl); (case h3 => exact rfl); (case h4 => exact Nat.le_of_ble_eq_true rfl); (case h5 => exact Nat.le_of_ble_eq_true rfl); (case pre => exact ⟨by walk_at "J size", by walk_at "J size", by walk_at "J noraise"⟩); k_whole); intro v' nw' h' tk' F' N' st' p'; clear st'; (obtain ⟨e1', e2'⟩ := p'); (subst e1' e2'); (try simp only [List.nil_append, List.cons_append] at N')))
  k_with "call ref" => ((k_here; (with_reducible show wpAny _ _ (call (Value.ref 140) _) _ _ _); k_dflt (refine' use_R (raises_check _ _ _ _ _ _ _) ?B ?F ?X ?N ?T ?h1 ?h2 ?h3 ?h4 ?h5 ?sub ?pre ?_; (case B => assumption); (case F => k_asm); (case X => assumption); (case N => k_asm); (case T => assumption); (case h1 => exact rfl); (case h2 => exact rfl); (case h3 => exact rfl); (case h4 => exact Nat.le_of_ble_eq_true rfl); (case h5 => exact Nat.le_of_ble_eq_true rfl); (case sub => exact fun _ hp => nomatch hp); (case pre => exact ⟨by walk_at "J size", by walk_at "J size", by assumption, by assumption⟩); k_whole); intro e' h' tk' R' U'))
  k_with "call ref" => ((k_here; (with_reducible show wpAny _ _ (call (Value.ref 161) _) _ _ _); k_dflt (refine' use_pure (pure_smf _ _) ?B ?F ?X ?N ?T ?h1 ?h2 ?h3 ?h4 ?h5 ?pre ?_; (case B => assumption); (case F => k_asm); (case X => assumption); (case N => k_asm); (case T => assumption); (case h1 => exact rfl); (case h2 => exact rfl); (case h3 => exact rfl); (case h4 => exact Nat.le_of_ble_eq_true rfl); (case h5 => exact Nat.le_of_ble_eq_true rfl); (case pre => exact True.intro); k_whole); intro v' nw' h' tk' F' N' st' p'; clear st'; (obtain ⟨e1', p1', p2'⟩ := p'); (subst e1'); (try simp only [List.nil_append, List.cons_append] at N')))
  k_with "call ref" => ((k_here; (with_reducible show wpAny _ _ (call (Value.ref 168) _) _ _ _); k_dflt (refine' use_pure (pure_clf _ _) ?B ?F ?X ?N ?T ?h1 ?h2 ?h3 ?h4 ?h5 ?pre ?_; (case B => assumption); (case F => k_asm); (case X => assumption); (case N => k_asm); (case T => assumption); (case h1 => exact rfl); (case h2 => exact rfl); (case h3 => exact rfl); (case h4 => exact Nat.le_of_ble_eq_true rfl); (case h5 => exact Nat.le_of_ble_eq_true rfl); (case pre => exact True.intro); k_whole); intro v' nw' h' tk' F' N' st' p'; clear st'; (obtain ⟨e1', p1', p2'⟩ := p'); (subst e1'); (try simp only [List.nil_append, List.cons_append] at N')))
  k_with "call ref" => ((k_here; (with_reducible show wpAny _ _ (call (Value.ref 50) _) _ _ _); k_dflt (refine' use_pure (pure_actA _ _) ?B ?F ?X ?N ?T ?h1 ?h2 ?h3 ?h4 ?h5 ?pre ?_; (case B => assumption); (case F => k_asm); (case X => assumption); (case N => k_asm); (case T => assumption); (case h1 => exact rfl); (case h2 => exact rfl); (case h3 => exact rfl); (case h4 => exact Nat.le_of_ble_eq_true rfl); (case h5 => exact Nat.le_of_ble_eq_true rfl); (case pre => assumption); k_whole); intro v' nw' h' tk' F' N' st' p'; clear st'; (obtain ⟨e1', t', e2'⟩ := p'); (subst e1' e2'); (try simp only [List.nil_append, List.cons_append] at N')))
  k_with "call ref" => ((k_here; (with_reducible show wpAny _ _ (call (Value.ref 57) _) _ _ _); k_dflt (refine' use_pure (pure_textEol _ _ _ _) ?B ?F ?X ?N ?T ?h1 ?h2 ?h3 ?h4 ?h5 ?pre ?_; (case B => assumption); (case F => k_asm); (case X => assumption); (case N => k_asm); (case T => assumption); (case h1 => exact rfl); (case h2 => exact rfl); (case h3 => exact rfl); (case h4 => exact Nat.le_of_ble_eq_true rfl); (case h5 => exact Nat.le_of_ble_eq_true rfl); (case pre => exact True.intro); k_whole); intro v' nw' h' tk' F' N' st' p'; clear st'; (obtain ⟨e1', e2'⟩ := p'); (subst e1' e2'); (try simp only [List.nil_append, List.cons_append] at N')))
  k_with "call ref" => ((k_here; (with_reducible show wpAny _ _ (call (Value.ref 182) _) _ _ _); k_dflt (refine' use_pure (pure_values) ?B ?F ?X ?N ?T ?h1 ?h2 ?h3 ?h4 ?h5 ?pre ?_; (case B => assumption); (case F => k_asm); (case X => assumption); (case N => k_asm); (case T => assumption); (case h1 => exact rfl); (case h2 => exact rfl); (case h3 => exact rfl); (case h4 => exact Nat.le_of_ble_eq_true rfl); (case h5 => exact Nat.le_of_ble_eq_true rfl); (case pre => exact True.intro); k_whole); intro v' nw' h' tk' F' N' st' p'; clear st'; (obtain ⟨d', o', kv', e1', e2', hd', hall'⟩ := p'); (subst e1' e2'); (try simp only [List.nil_append, List.cons_append] at N')))
  k_with "call ref" => ((k_here; (with_reducible show wpAny _ _ (call (Value.ref 276) _) _ _ _); k_dflt (refine' use_pureF (pure_edited _ _ _ _ _ _ _) ?B ?F ?X ?N ?T ?h1 ?h2 ?h3 ?h4 ?h5 ?pre ?_; (case B => assumption); (case F => k_asm); (case X => assumption); (case N => k_asm); (case T => assumption); (case h1 => exact rfl); (case h2 => exact rfl); (case h3 => exact rfl); (case h4 => exact Nat.le_of_ble_eq_true rfl); (case h5 => exact Nat.le_of_ble_eq_true rfl); (case pre => exact ⟨by walk_at "J lst", by assumption, by walk_at "J size"⟩); k_whole); intro v' nw' h' tk' F' N' fr' p'; (obtain ⟨d', vs', n', cs', e1', e2', hb', hE'⟩ := p'); (subst e1' e2'); (have fd' := fr' _ (List.mem_singleton.mpr rfl)); clear fr'; (try dsimp only at fd'); (try simp only [List.nil_append, List.cons_append] at N')))
  k_with "call ref" => ((k_here; (with_reducible show wpAny _ _ (call (Value.ref 229) _) _ _ _); k_dflt (refine' use_pure (pure_rule _ _ _ _ _ _ _ _ _ _) ?B ?F ?X ?N ?T ?h1 ?h2 ?h3 ?h4 ?h5 ?pre ?_; (case B => assumption); (case F => k_asm); (case X => assumption); (case N => k_asm); (case T => assumption); (case h1 => exact rfl); (case h2 => exact rfl); (case h3 => exact rfl); (case h4 => exact Nat.le_of_ble_eq_true rfl); (case h5 => exact Nat.le_of_ble_eq_true rfl); (case pre => exact True.intro); k_whole); intro v' nw' h' tk' F' N' st' p'; clear st'; (rcases p' with ⟨hR', e1', e2'⟩ | ⟨d', b1', b2', hR', e2', e1'⟩) <;> (subst e1' e2') <;> (try simp only [List.nil_append, List.cons_append] at N')))
  k_with "call ref" => ((k_here; (with_reducible show wpAny _ _ (call (Value.ref 224) _) _ _ _); k_dflt (refine' use_pure (pure_attr _ _ _ _ _ _ _) ?B ?F ?X ?N ?T ?h1 ?h2 ?h3 ?h4 ?h5 ?pre ?_; (case B => assumption); (case F => k_asm); (case X => assumption); (case N => k_asm); (case T => assumption); (case h1 => exact rfl); (case h2 => exact rfl); (case h3 => exact rfl); (case h4 => exact Nat.le_of_ble_eq_true rfl); (case h5 => exact Nat.le_of_ble_eq_true rfl); (case pre => exact ⟨by assumption, by assumption, by assumption⟩); k_whole); intro v' nw' h' tk' F' N' st' p'; clear st'; (obtain ⟨d', o', kvs', e1', e2', hd', lo', hA1', hA2', hE'⟩ := p'); (subst e1' e2'); (replace hE' := eval_of (by assumption) hE'); (try simp only [List.nil_append, List.cons_append] at N')))
  k_with "call ref" => ((k_here; (with_reducible show wpAny _ _ (call (Value.ref 65) _) _ _ _); k_dflt (refine' use_L (L_res2 _ _ (by assumption) (by assumption) (by assumption) (by assumption) (by assumption) (by assumption)) ?B ?F ?X ?N ?T ?h1 ?h2 ?h3 ?h4 ?h5 ?sub ?pre ?_; (case B => assumption); (case F => k_asm); (case X => assumption); (case N => k_asm); (case T => assumption); (case h1 => exact rfl); (case h2 => exact rfl); (case h3 => exact rfl); (case h4 => exact Nat.le_of_ble_eq_true rfl); (case h5 => exact Nat.le_of_ble_eq_true rfl); (case sub => (intro p hp; (rw [List.mem_singleton.mp hp]); k_mem)); (case pre => exact True.intro); k_whole); intro v' nw' h' tk' F' N' st' p'; clear st'; (obtain ⟨e1', t', e2'⟩ := p'); (subst e1' e2'); (try simp only [List.nil_append, List.cons_append] at N')))
  k_with "call ref" => ((k_here; (with_reducible show wpAny _ _ (call (Value.ref 236) [Value.none]) _ _ _); k_dflt (refine' use_pure (pure_named) ?B ?F ?X ?N ?T ?h1 ?h2 ?h3 ?h4 ?h5 ?pre ?_; (case B => assumption); (case F => k_asm); (case X => assumption); (case N => k_asm); (case T => assumption); (case h1 => exact rfl); (case h2 => exact rfl); (case h3 => exact rfl); (case h4 => exact Nat.le_of_ble_eq_true rfl); (case h5 => exact Nat.le_of_ble_eq_true rfl); (case pre => exact True.intro); k_whole); intro v' nw' h' tk' F' N' st' p'; clear st'; (obtain ⟨e1', t', e2'⟩ := p'); (subst e1' e2'); (try simp only [List.nil_append, List.cons_append] at N')))
  k_with "call ref" => ((k_here; (with_reducible show wpAny _ _ (call (Value.ref 236) [Value.ref _]) _ _ _); k_dflt (refine' use_L (L_named _ _ _) ?B ?F ?X ?N ?T ?h1 ?h2 ?h3 ?h4 ?h5 ?sub ?pre ?_; (case B => assumption); (case F => k_asm); (case X => assumption); (case N => k_asm); (case T => assumption); (case h1 => exact rfl); (case h2 => exact rfl); (case h3 => exact rfl); (case h4 => exact Nat.le_of_ble_eq_true rfl); (case h5 => exact Nat.le_of_ble_eq_true rfl); (case sub => (intro p hp; (rw [List.mem_singleton.mp hp]); k_mem)); (case pre => exact True.intro); k_whole); intro v' nw' h' tk' F' N' st' p'; clear st'; (obtain ⟨e1', t', e2'⟩ := p'); (subst e1' e2'); (try simp only [List.nil_append, List.cons_append] at N')))
  k_with "call ref" => ((k_here; (with_reducible show wpAny _ _ (call (Value.ref 73) _) _ _ _); k_dflt (refine' use_pure (pure_lefaN (by assumption) _ _ _ _) ?B ?F ?X ?N ?T ?h1 ?h2 ?h3 ?h4 ?h5 ?pre ?_; (case B => assumption); (case F => k_asm); (case X => assumption); (case N => k_asm); (case T => assumption); (case h1 => exact rfl); (case h2 => exact rfl); (case h3 => exact rfl); (case h4 => exact Nat.le_of_ble_eq_true rfl); (case h5 => exact Nat.le_of_ble_eq_true rfl); (case pre => exact True.intro); k_whole); intro v' nw' h' tk' F' N' st' p'; clear st'; (obtain ⟨e1', e2'⟩ := p'); (subst e1' e2'); (try simp only [List.nil_append, List.cons_append] at N')))
  k_with "call ref" => ((k_here; (with_reducible show wpAny _ _ (call (Value.ref 73) _) _ _ _); k_dflt (refine' use_pure (pure_lefaS (by assumption) _ _ _ _) ?B ?F ?X ?N ?T ?h1 ?h2 ?h3 ?h4 ?h5 ?pre ?_; (case B => assumption); (case F => k_asm); (case X => assumption); (case N => k_asm); (case T => assumption); (case h1 => exact rfl); (case h2 => exact rfl); (case h3 => exact rfl); (case h4 => exact Nat.le_of_ble_eq_true rfl); (case h5 => exact Nat.le_of_ble_eq_true rfl); (case pre => exact True.intro); k_whole); intro v' nw' h' tk' F' N' st' p'; clear st'; (obtain ⟨x', d', k1', k2', k3', k4', k5', k6', e1', e2'⟩ := p'); (subst e1' e2'); (try simp only [List.nil_append, List.cons_append] at N')))
  k_with "call ref" => ((k_here; (with_reducible show wpAny _ _ (call (Value.ref 154) _) _ _ _); k_dflt (refine' use_pure (pure_gcf _ _ _ _) ?B ?F ?X ?N ?T ?h1 ?h2 ?h3 ?h4 ?h5 ?pre ?_; (case B => assumption); (case F => k_asm); (case X => assumption); (case N => k_asm); (case T => assumption); (case h1 => exact rfl); (case h2 => exact rfl); (case h3 => exact rfl); (case h4 => exact Nat.le_of_ble_eq_true rfl); (case h5 => exact Nat.le_of_ble_eq_true rfl); (case pre => exact True.intro); k_whole); intro v' nw' h' tk' F' N' st' p'; clear st'; (obtain ⟨e1', e2'⟩ := p'); (subst e1' e2'); (try simp only [List.nil_append, List.cons_append] at N')))
  k_with "call ref" => ((k_here; (with_reducible show wpAny _ _ (call (Value.ref 147) _) _ _ _); k_dflt (refine' use_pure (pure_gsf _ _ _ _) ?B ?F ?X ?N ?T ?h1 ?h2 ?h3 ?h4 ?h5 ?pre ?_; (case B => assumption); (case F => k_asm); (case X => assumption); (case N => k_asm); (case T => assumption); (case h1 => exact rfl); (case h2 => exact rfl); (case h3 => exact rfl); (case h4 => exact Nat.le_of_ble_eq_true rfl); (case h5 => exact Nat.le_of_ble_eq_true rfl); (case pre => exact True.intro); k_whole); intro v' nw' h' tk' F' N' st' p'; clear st'; (obtain ⟨e1', e2'⟩ := p'); (subst e1' e2'); (try simp only [List.nil_append, List.cons_append] at N')))
  k_with "call builtin:bytes.join" => ((k_here; k_dflt (refine' call_join0 ?k1 ?k2 ?k3 ?_; (case k1 => walk_at "J lst"); (case k2 => assumption); (case k3 => omega); k_whole); intro _ _))
  k_with "call ref" => ((k_here; (with_reducible show wpAny _ _ (call (Value.ref 243) _) _ _ _); k_dflt (refine' use_pure (pure_counts _ _ _) ?B ?F ?X ?N ?T ?h1 ?h2 ?h3 ?h4 ?h5 ?pre ?_; (case B => assumption); (case F => k_asm); (case X => assumption); (case N => k_asm); (case T => assumption); (case h1 => exact rfl); (case h2 => exact rfl); (case h3 => exact rfl); (case h4 => exact Nat.le_of_ble_eq_true rfl); (case h5 => exact Nat.le_of_ble_eq_true rfl); (case pre => exact ⟨by walk_at "J lst", by walk_at "J bytes", by walk_at "J size"⟩); k_whole); intro v' nw' h' tk' F' N' st' p'; clear st'; (obtain ⟨d', t1', t2', t3', e1', e2'⟩ := p'); (subst e1' e2'); (try simp only [List.nil_append, List.cons_append] at N')))
  k_with "call ref" => ((k_here; (with_reducible show wpAny _ _ (call (Value.ref 28) _) _ _ _); k_dflt (refine' use_pure (pure_is_binary _ _) ?B ?F ?X ?N ?T ?h1 ?h2 ?h3 ?h4 ?h5 ?pre ?_; (case B => assumption); (case F => k_asm); (case X => assumption); (case N => k_asm); (case T => assumption); (case h1 => exact rfl); (case h2 => exact rfl); (case h3 => exact rfl); (case h4 => exact Nat.le_of_ble_eq_true rfl); (case h5 => exact Nat.le_of_ble_eq_true rfl); (case pre => walk_at "J size"); k_whole); intro v' nw' h' tk' F' N' st' p'; clear st'; (obtain ⟨e1', e2'⟩ := p'); (subst e1' e2'); (try simp only [List.nil_append, List.cons_append] at N')))
  k_with "call ref" => ((k_here; (with_reducible show wpAny _ _ (call (Value.ref 125) _) _ _ _); k_dflt (refine' use_pure (pure_crlf_to_lf _ _) ?B ?F ?X ?N ?T ?h1 ?h2 ?h3 ?h4 ?h5 ?pre ?_; (case B => assumption); (case F => k_asm); (case X => assumption); (case N => k_asm); (case T => assumption); (case h1 => exact rfl); (case h2 => exact rfl); (case h3 => exact rfl); (case h4 => exact Nat.le_of_ble_eq_true rfl); (case h5 => exact Nat.le_of_ble_eq_true rfl); (case pre => walk_at "J size"); k_whole); intro v' nw' h' tk' F' N' st' p'; clear st'; (obtain ⟨e1', t', e2'⟩ := p'); (subst e1' e2'); (try simp only [List.nil_append, List.cons_append] at N')))
  k_with "call ref" => ((k_here; (with_reducible show wpAny _ _ (call (Value.ref 250) _) _ _ _); k_dflt (refine' use_pure (pure_binary _ _ _) ?B ?F ?X ?N ?T ?h1 ?h2 ?h3 ?h4 ?h5 ?pre ?_; (case B => assumption); (case F => k_asm); (case X => assumption); (case N => k_asm); (case T => assumption); (case h1 => exact rfl); (case h2 => exact rfl); (case h3 => exact rfl); (case h4 => exact Nat.le_of_ble_eq_true rfl); (case h5 => exact Nat.le_of_ble_eq_true rfl); (case pre => exact ⟨by walk_at "J lst", by walk_at "J bytes", by walk_at "J size"⟩); k_whole); intro v' nw' h' tk' F' N' st' p'; clear st'; (obtain ⟨e1', e2'⟩ := p'); (subst e1' e2'); (try simp only [List.nil_append, List.cons_append] at N')))
  k_with "call ref" => ((k_here; (with_reducible show wpAny _ _ (call (Value.ref 132) _) _ _ _); k_dflt (refine' use_pure (pure_lf_to_crlf _ _) ?B ?F ?X ?N ?T ?h1 ?h2 ?h3 ?h4 ?h5 ?pre ?_; (case B => assumption); (case F => k_asm); (case X => assumption); (case N => k_asm); (case T => assumption); (case h1 => exact rfl); (case h2 => exact rfl); (case h3 => exact rfl); (case h4 => exact Nat.le_of_ble_eq_true rfl); (case h5 => exact Nat.le_of_ble_eq_true rfl); (case pre => walk_at "J size"); k_whole); intro v' nw' h' tk' F' N' st' p'; clear st'; (obtain ⟨e1', t', e2'⟩ := p'); (subst e1' e2'); (try simp only [List.nil_append, List.cons_append] at N')))
  k_with "call ref" => ((k_here; (with_reducible show wpAny _ _ (call (Value.ref 255) _) _ _ _); k_dflt (refine' use_pureF (pure_less _ _ _) ?B ?F ?X ?N ?T ?h1 ?h2 ?h3 ?h4 ?h5 ?pre ?_; (case B => assumption); (case F => k_asm); (case X => assumption); (case N => k_asm); (case T => assumption); (case h1 => exact rfl); (case h2 => exact rfl); (case h3 => exact rfl); (case h4 => exact Nat.le_of_ble_eq_true rfl); (case h5 => exact Nat.le_of_ble_eq_true rfl); (case pre => exact ⟨by walk_at "J lst", by walk_at "J bytes", by walk_at "J size"⟩); k_whole); intro v' nw' h' tk' F' N' fr' p'; (obtain ⟨d', vs', n', e1', e2', hb'⟩ := p'); (subst e1' e2'); (rw [lessU_all] at hb'); (have fd' := fr' _ (List.mem_singleton.mpr rfl)); clear fr'; (try dsimp only at fd'); (try simp only [List.nil_append, List.cons_append] at N')))
  k_with "call ref" => ((k_here; (with_reducible show wpAny _ _ (call (Value.ref 262) _) _ _ _); k_dflt (refine' use_pureF (pure_more _ _ _) ?B ?F ?X ?N ?T ?h1 ?h2 ?h3 ?h4 ?h5 ?pre ?_; (case B => assumption); (case F => k_asm); (case X => assumption); (case N => k_asm); (case T => assumption); (case h1 => exact rfl); (case h2 => exact rfl); (case h3 => exact rfl); (case h4 => exact Nat.le_of_ble_eq_true rfl); (case h5 => exact Nat.le_of_ble_eq_true rfl); (case pre => exact ⟨by walk_at "J lst", by walk_at "J bytes", by walk_at "J size"⟩); k_whole); intro v' nw' h' tk' F' N' fr' p'; (obtain ⟨d', vs', n', e1', e2', hb'⟩ := p'); (subst e1' e2'); (have fd' := fr' _ (List.mem_singleton.mpr rfl)); clear fr'; (try dsimp only at fd'); (try simp only [List.nil_append, List.cons_append] at N')))
  k_with "call builtin:bytes.join" => ((k_here; k_dflt (refine' call_join0 ?k1 ?k2 ?k3 ?_; (case k1 => walk_at "J lst"); (case k2 => assumption); (case k3 => omega); k_whole); intro _ _))
  k_with "call ref" => ((k_here; (with_reducible show wpAny _ _ (call (Value.ref 104) _) _ _ _); k_dflt (refine' use_L (sm_any (by assumption)) ?B ?F ?X ?N ?T ?h1 ?h2 ?h3 ?h4 ?h5 ?sub ?pre ?_; (case B => assumption); (case F => k_asm); (case X => assumption); (case N => k_asm); (case T => assumption); (case h1 => exact rfl); (case h2 => exact rfl); (case h3 => exact rfl); (case h4 => exact Nat.le_of_ble_eq_true rfl); (case h5 => exact Nat.le_of_ble_eq_true rfl); (case sub => (intro p hp; (simp only [List.mem_cons, List.not_mem_nil, or_false] at hp); rcases hp with ee | ee <;> (rw [ee]; walk_at "J mem"))); (case pre => exact True.intro); k_whole); intro v' nw' h' tk' F' N' st' p'; clear st'; (obtain ⟨e1', t', e2'⟩ := p'); (subst e1' e2'); (try simp only [List.nil_append, List.cons_append] at N')))
  k_with "call ref" => ((k_here; (with_reducible show wpAny _ _ (call (Value.ref 96) _) _ _ _); k_dflt (refine' use_L (cl_back (by assumption) (by assumption)) ?B ?F ?X ?N ?T ?h1 ?h2 ?h3 ?h4 ?h5 ?sub ?pre ?_; (case B => assumption); (case F => k_asm); (case X => assumption); (case N => k_asm); (case T => assumption); (case h1 => exact rfl); (case h2 => exact rfl); (case h3 => exact rfl); (case h4 => exact Nat.le_of_ble_eq_true rfl); (case h5 => exact Nat.le_of_ble_eq_true rfl); (case sub => (intro p hp; (simp only [List.mem_cons, List.not_mem_nil, or_false] at hp); rcases hp with ee | ee <;> (rw [ee]; walk_at "J mem"))); (case pre => exact True.intro); k_whole); intro v' nw' h' tk' F' N' st' p'; clear st'; (obtain ⟨e1', t', e2'⟩ := p'); (subst e1' e2'); (try simp only [List.nil_append, List.cons_append] at N')))
  k_with "eval ListComp" => ((k_here; (with_reducible show wpAny _ _ (eval _ (lawEn _ _ _)) _ _ _); k_dflt (refine LCt.ListComp_T (F₀ := by k_asm) (cl := []) (by with_unfolding_all rfl) (by decide) (by rfl) (by decide) (by rfl) ?_)))
  k_with "CompSrcT" => ((k_here; k_dflt (refine LCt.CompSrcT.ledger (by rfl) (by k_asm) (by k_asm) (by walk_at "J mem") (by rw [PySem.sizeLine_eq, List.size_toArray]; omega) ?_; intro g')))
  exact ⟨rfl, rfl⟩
end Mine
end
local macro_rules | `(tactic| walk_at $s:str) => `(tactic| k_extra $s)
section
open PySem PySem.W PySem.Calls PySem.Spec PyProof.Rows
namespace Mine
set_option maxRecDepth 100000
variable {prog : Program} {w : World} {mean : ExcName → Option Value} {mg mb : Str → Option Value}
/-- is_binary -/
def binB (b : Array UInt8) : Bool := (b.toList.take 8000).contains 0
set_option maxHeartbeats 8000000 in
theorem pure_is_binary (b : Array UInt8) (t : Nat) : PureF prog w mean mg mb 6 28 [.bytes b t] (fun _ => b.size ≤ 8000000) (fun new v => new = [] ∧ v = .bool (binB b)) := by
  intro gd fr base g gn dr tk os Q E B X T hpre hret
  walk_at "J begin"
  walk_at "J steps"
  exact hret _ [] _ _ (Fr.keep (by k_asm)) (fun _ h => nomatch h) ⟨rfl, by rw [show (KBy.picked b none (some 8000)).toList = b.toList.take 8000 from picked_upto b 8000]; rfl⟩
set_option maxHeartbeats 8000000 in
theorem pure_crlf_to_lf (b : Array UInt8) (t : Nat) : PureF prog w mean mg mb 6 125 [.bytes b t] (fun _ => b.size ≤ 8000000) (fun new v => new = [] ∧ ∃ t, v = .bytes (less b.toList).toArray t) := by
  intro gd fr base g gn dr tk os Q E B X T hpre hret
  walk_at "J begin"
  walk_at "J steps"
  exact hret _ [] _ _ (Fr.keep (by k_asm)) (fun _ h => nomatch h) ⟨rfl, _, rfl⟩
/-- the place of a part -/
def offs (bs : List (Array UInt8)) (i : Nat) : Nat := ((bs.take i).map Array.size).sum
def binP : Nat → List (Array UInt8) → Bool
  | _, [] => false
  | at_, b :: r => if b = #[0] then decide (at_ < 8000) else binP (at_ + b.size) r
theorem offs_succ {bs : List (Array UInt8)} {i : Nat} (hi : i < bs.length) : offs bs (i + 1) = offs bs i + bs[i].size := by
  unfold offs
  rw [List.take_add_one, List.getElem?_eq_getElem hi, List.map_append, List.sum_append]
  simp
set_option maxHeartbeats 8000000 in
theorem pure_binary (l : Addr) (vs : List Value) (bs : List (Array UInt8)) : PureF prog w mean mg mb 5 250 [.ref l] (fun g => g.IsList l vs.toArray ∧ BytesAre vs bs ∧ (bs.map Array.size).sum ≤ 8000000) (fun new v => new = [] ∧ v = .bool (binP 0 bs)) := by
  intro gd fr base g gn dr tk os Q E B X T hpre hret
  obtain ⟨hl, hb, hs⟩ := hpre
  walk_at "J begin"
  walk_at "J steps"
  rename Fr _ _ _ _ => F
  rename News _ _ _ _ => N
  refine For_invVF F rfl rfl ?_
  walk_at "J steps"
  refine iter_vals (fun i m nx => nx = [] ∧ (∃ t, m (Str.ofString "at") = some (.int (offs bs i : Int) t)) ∧ binP 0 bs = binP (offs bs i) (bs.drop i)) rfl hl F N ⟨rfl, ⟨_, rfl⟩, rfl⟩ ?_ ?_
  · rintro i v m₁ nx h tk own hv - - ⟨rfl, ⟨ta, hat⟩, hJ⟩ F₁ N₁
    have hi : i < bs.length := by
      have := List.getElem?_eq_some_iff.mp hv
      rw [← hb.length]; exact this.1
    obtain ⟨tv, hv'⟩ := hb.get (List.getElem?_eq_getElem hi)
    rw [hv] at hv'
    obtain rfl := Option.some.inj hv'
    have F₂ := know1 (Str.ofString "at") F₁ hat
    have h8 : bs[i].size ≤ 8000000 := Nat.le_trans (sum_mem (List.getElem_mem hi)) hs
    have h9 : offs bs i ≤ 8000000 := Nat.le_trans (sum_take i) hs
    rw [List.drop_eq_getElem_cons hi, binP] at hJ
    clear F₁ F N
    rw [List.nil_append] at N₁
    walk_at "J steps"
    · rename bs[i] = #[0] => hc
      rw [if_pos hc] at hJ
      exact hret _ [] _ _ (Fr.keep (by k_asm)) (fun _ h => nomatch h) ⟨rfl, by rw [hJ]; exact congrArg Value.bool (decide_eq_decide.mpr (by omega))⟩
    · rename ¬bs[i] = #[0] => hc
      rw [if_neg hc, ← offs_succ hi] at hJ
      exact InvEndN.intro (nx := []) (by k_asm) (by k_asm) ⟨rfl, ⟨_, by rw [offs_succ hi]; rfl⟩, hJ⟩ rfl (fun _ h => nomatch h) (fun _ h => h)
  · rintro m₁ nx h tk ⟨rfl, ⟨ta, hat⟩, hJ⟩ F₁ N₁
    walk_at "J steps"
    have hv : vs.length = bs.length := hb.length
    rw [hv, List.drop_length, binP] at hJ
    exact hret _ [] _ _ (Fr.keep (by k_asm)) (fun _ h => nomatch h) ⟨rfl, by rw [hJ]⟩

end Mine
end
section
open PySem PySem.W PySem.Calls PySem.Spec PyProof.Rows
namespace Mine
set_option maxRecDepth 100000
variable {prog : Program} {w : World} {mean : ExcName → Option Value} {mg mb : Str → Option Value}
theorem strip_get : ∀ {PS : List (List UInt8)} {i : Nat} (hi : i < PS.length), (stripAll PS)[i]? = some (if i + 1 < PS.length then strip PS[i] else PS[i])
  | [p], 0, _ => by simp [stripAll]
  | p :: q :: r, 0, _ => by simp [stripAll]
  | p :: q :: r, i + 1, hi => by
    rw [stripAll, List.getElem?_cons_succ, strip_get (PS := q :: r) (by simpa using hi)]
    simp
theorem stripAll_length : ∀ PS : List (List UInt8), (stripAll PS).length = PS.length
  | [] => rfl
  | [p] => rfl
  | p :: q :: r => by rw [stripAll, List.length_cons, stripAll_length (q :: r)]; simp
theorem fold_sizes : ∀ (cs : List (Array UInt8)) (k : Nat), cs.foldl (fun n p => n + p.size) k = k + (cs.map Array.size).sum
  | [], k => by simp
  | c :: r, k => by rw [List.foldl_cons, fold_sizes r, List.map_cons, List.sum_cons]; omega
theorem glue_size : ∀ (cs : List (Array UInt8)) {sep : Array UInt8}, (glue sep.toList (cs.map Array.toList)).length = sep.size * (cs.length - 1) + (cs.map Array.size).sum
  | [], sep => by simp [glue]
  | [c], sep => by simp [glue]
  | c :: d :: r, sep => by
    have := glue_size (d :: r) (sep := sep)
    simp only [List.map_cons, glue, List.length_append, List.length_cons, List.sum_cons, Nat.add_sub_cancel] at this ⊢
    rw [this, Nat.mul_succ, Array.length_toList, Array.length_toList]
    omega
set_option maxHeartbeats 8000000 in
theorem pure_lf_to_crlf (b : Array UInt8) (t : Nat) : PureF prog w mean mg mb 6 132 [.bytes b t] (fun _ => b.size ≤ 4000000) (fun new v => new = [] ∧ ∃ t, v = .bytes (more false b.toList).toArray t) := by
  intro gd fr base g gn dr tk os Q E B X T hpre hret
  walk_at "J begin"
  walk_at "J steps"
  rename Fr _ _ _ _ => F
  rename News _ _ _ _ => N
  rename BytesAre _ _ => hb
  refine For_code ?_
  walk_at "J steps"
  rename_i tk2 h2 tk1 lc h1' l1 h0
  have hpl : (splitB b #[10]).length ≤ 4000001 := by
    have h1 := congrArg List.length (split_cut b)
    have := cutLF_length b.toList []
    simp at h1 this; omega
  have hps : ∀ p ∈ splitB b #[10], p.size ≤ 4000000 := by
    intro p hp
    have h1 : p.toList ∈ (splitB b #[10]).map Array.toList := List.mem_map_of_mem hp
    rw [split_cut] at h1
    have := cutLF_sizes _ _ _ h1
    simp at this; omega
  refine enum_call [(lc, W.listOf #[] 0)] (fun i m nx => ∃ us cs n, nx = [(lc, W.listOf us.toArray n)] ∧ BytesAre us cs ∧ cs.map Array.toList = (stripAll ((splitB b #[10]).map Array.toList)).take i ∧ m (Str.ofString "cleaned_parts") = some (.ref lc) ∧ m (Str.ofString "parts") = some (.ref _)) rfl F N (by k_mem) ?_ ?_ rfl rfl rfl ⟨[], [], 0, rfl, rfl, rfl, rfl, rfl⟩ ?_ ?_
  · intro p hp; exact List.mem_cons.mpr (.inl (List.mem_singleton.mp hp))
  · intro p hp; rw [List.mem_singleton.mp hp]; exact (Nat.ne_of_lt l1).symm
  · rintro i v ti m₁ nx h tk e it oe oi hv ⟨us, cs, n, rfl, hus, hcs, hm1, hm2⟩ hap hei hle hli F₁ N₁
    have hi : i < (splitB b #[10]).length := by
      rw [← hb.length]
      have := (Array.getElem?_eq_some_iff.mp hv).1
      simpa using this
    obtain ⟨tv, hv'⟩ := hb.get (List.getElem?_eq_getElem hi)
    rw [List.getElem?_toArray] at hv
    rw [hv] at hv'
    obtain rfl := Option.some.inj hv'
    have F₂ := know1 (Str.ofString "parts") (know1 (Str.ofString "cleaned_parts") F₁ hm1) hm2
    have h8 : (splitB b #[10])[i].size ≤ 4000000 := hps _ (List.getElem_mem hi)
    have hcl : cs.length ≤ 4000001 := by
      have := congrArg List.length hcs
      simp at this; omega
    have hul : us.length ≤ 4000001 := by rw [hus.length]; exact hcl
    simp only [List.cons_append, List.nil_append] at N₁
    have hap1 := hap (lc, _) (.head _)
    simp only [List.mem_cons, List.not_mem_nil, or_false, not_or] at hap1
    have hx1 := neN hap1.1
    have hx2 := neN hap1.2.1
    have hx3 := neN hap1.2.2
    clear F₁ F N
    have hsub : ∀ {x : Array UInt8}, x.toList = (if i + 1 < (splitB b #[10]).length then strip (splitB b #[10])[i].toList else (splitB b #[10])[i].toList) → (cs ++ [x]).map Array.toList = (stripAll ((splitB b #[10]).map Array.toList)).take (i + 1) := by
      intro x hx
      rw [List.map_append, hcs, List.take_add_one, strip_get (by simpa using hi)]
      simp [hx]
    have hmem : ∀ {o : Obj}, ∀ p ∈ [(lc, o)], ∀ q ∈ [(e, oe), (it, oi), (h₁.objs.size, W.listOf vs'.toArray 0)], p.1 ≠ q.1 := by
      intro o p hp q hq
      rw [List.mem_singleton.mp hp]
      simp only [List.mem_cons, List.not_mem_nil, or_false] at hq
      rcases hq with rfl | rfl | rfl
      · exact hap1.1
      · exact hap1.2.1
      · exact hap1.2.2
    have hend : ∀ {x : Array UInt8} {tx : Tok} {h' : Heap} {tk' : Nat}, x.toList = (if i + 1 < (splitB b #[10]).length then strip (splitB b #[10])[i].toList else (splitB b #[10])[i].toList) → True := fun _ => trivial
    walk_at "J steps"
    · rename _ < _ - (1 : Int) => c1
      rename (_ == some 13) = true => c2
      refine enumPost_end [(lc, _)] (by k_asm) (by k_asm) (fun p hp => List.mem_cons.mpr (.inl (List.mem_singleton.mp hp))) (fun p hp => .tail _ hp) hmem ⟨_, cs ++ [_], _, rfl, hus.append BytesAre.nil.cons, hsub ?_, rfl, rfl⟩
      rw [if_pos (by omega), picked_butlast, strip, if_pos (by simpa using c2)]
    · rename _ < _ - (1 : Int) => c1
      rename (_ == some 13) = false => c2
      refine enumPost_end [(lc, _)] (by k_asm) (by k_asm) (fun p hp => List.mem_cons.mpr (.inl (List.mem_singleton.mp hp))) (fun p hp => .tail _ hp) hmem ⟨_, cs ++ [_], _, rfl, hus.append BytesAre.nil.cons, hsub ?_, rfl, rfl⟩
      rw [if_pos (by omega), strip, if_neg (by simpa using c2)]
    · rename ¬(_ < _ - (1 : Int)) => c1
      refine enumPost_end [(lc, _)] (by k_asm) (by k_asm) (fun p hp => List.mem_cons.mpr (.inl (List.mem_singleton.mp hp))) (fun p hp => .tail _ hp) hmem ⟨_, cs ++ [_], _, rfl, hus.append BytesAre.nil.cons, hsub ?_, rfl, rfl⟩
      rw [if_neg (by omega)]
  · rintro h tk m₁ nx F₁ N₁ ⟨us, cs, n, rfl, hus, hcs, hm1, hm2⟩
    have F₂ := know1 (Str.ofString "parts") (know1 (Str.ofString "cleaned_parts") F₁ hm1) hm2
    have hcs2 : cs.map Array.toList = stripAll (cutLF [] b.toList) := by
      rw [hcs, split_cut]
      refine List.take_of_length_le ?_
      rw [stripAll_length, ← split_cut, List.length_map, List.size_toArray, hb.length]
      exact Nat.le_refl _
    have hj : (Builtin.Bytes.joined #[13, 10] cs) = (more false b.toList).toArray := by
      apply Array.ext'
      rw [joined_glue, hcs2]
      show glue [13, 10] _ = _
      rw [glue_cutLF]
      rfl
    have hj2 : (Builtin.Bytes.joined #[13, 10] cs).size ≤ 16777216 := by
      rw [hj]; have := more_length b.toList false; simp at this ⊢; omega
    have hj1 : cs.foldl (fun n p => n + p.size) ((#[13, 10] : Array UInt8).size * (cs.length - 1)) ≤ 16777216 := by
      rw [fold_sizes, ← glue_size, hcs2]
      show (glue [13, 10] _).length ≤ _
      rw [glue_cutLF]
      have := more_length b.toList false
      simp at this ⊢; omega
    clear F₁ F N
    walk_at "J steps"
    exact hret _ [] _ _ (Fr.keep (by k_asm)) (fun _ h => nomatch h) ⟨rfl, _, by rw [hj]⟩

end Mine
end
section
open PySem PySem.W PySem.Calls PySem.Spec PyProof.Rows
namespace Mine
set_option maxRecDepth 100000
variable {prog : Program} {w : World} {mean : ExcName → Option Value} {mg mb : Str → Option Value}
/-- parts: a CR before each LF that has none; `p`: the part ahead is a CR -/
def moreP : Bool → List (Array UInt8) → List (Array UInt8)
  | _, [] => []
  | p, b :: r => if b = #[10] ∧ p = false then #[13] :: b :: moreP false r else b :: moreP (decide (b = #[13])) r
def last13 (cs : List (Array UInt8)) : Bool := decide (cs.getLast? = some #[13])
theorem cut_last (cs : List (Array UInt8)) : cutL cs (some (-1)) none = cs.getLast?.toList := by
  unfold cutL
  have : clipAt cs.length (-1) = cs.length - 1 := clipAt_neg cs.length 1 (by omega)
  simp only [Option.elim, this]
  rcases List.eq_nil_or_concat cs with rfl | ⟨r, x, rfl⟩
  · rfl
  · simp
theorem cut_last_ne (cs : List (Array UInt8)) : (cutL cs (some (-1)) none ≠ [#[13]]) ↔ last13 cs = false := by
  rw [cut_last, last13]
  cases cs.getLast? <;> simp
set_option maxHeartbeats 8000000 in
theorem pure_more (l : Addr) (vs : List Value) (bs : List (Array UInt8)) : PureF prog w mean mg mb 5 262 [.ref l] (fun g => g.IsList l vs.toArray ∧ BytesAre vs bs ∧ bs.length ≤ 1000000) (fun new v => ∃ l vs n, v = .ref l ∧ new = [(l, W.listOf vs.toArray n)] ∧ BytesAre vs (moreP false bs)) := by
  intro gd fr base g gn dr tk os Q E B X T hpre hret
  obtain ⟨hl, hb, hn⟩ := hpre
  walk_at "J begin"
  walk_at "J steps"
  rename Fr _ _ _ _ => F
  rename News _ _ _ _ => N
  rename_i d h1' l1 h0
  refine For_invVF F rfl rfl ?_
  walk_at "J steps"
  refine iter_vals (fun i m nx => ∃ us cs n, nx = [(d, W.listOf us.toArray n)] ∧ BytesAre us cs ∧ cs ++ moreP (last13 cs) (bs.drop i) = moreP false bs ∧ cs.length ≤ 2 * i ∧ m (Str.ofString "out") = some (.ref d)) rfl hl F N ⟨[], [], 0, rfl, rfl, rfl, by simp, rfl⟩ ?_ ?_
  · rintro i v m₁ nx h tk own hv - hown ⟨us, cs, n, rfl, hus, hcs, hcl, hm1⟩ F₁ N₁
    have hi : i < bs.length := by
      have := List.getElem?_eq_some_iff.mp hv
      rw [← hb.length]; exact this.1
    obtain ⟨tv, hv'⟩ := hb.get (List.getElem?_eq_getElem hi)
    rw [hv] at hv'
    obtain rfl := Option.some.inj hv'
    have F₂ := know1 (Str.ofString "out") F₁ hm1
    rw [List.drop_eq_getElem_cons hi, moreP] at hcs
    have hul : us.length ≤ 2000000 := by rw [hus.length]; omega
    have hcl2 : cs.length ≤ 2000000 := by omega
    clear F₁ F N
    simp only [List.cons_append, List.nil_append] at N₁
    have hl3 : ∀ (x : Array UInt8), last13 (cs ++ [x]) = decide (x = #[13]) := fun x => by simp [last13]
    walk_at "J steps"
    · rename bs[i] = #[10] => c1
      rename cutL _ _ _ ≠ _ => c2
      rw [cut_last_ne] at c2
      rw [if_pos ⟨c1, c2⟩] at hcs
      refine invEnd_one (by k_asm) (by k_asm) (by k_mem) ?_ ⟨_, (cs ++ [#[13]]) ++ [bs[i]], _, rfl, (hus.append BytesAre.nil.cons).append BytesAre.nil.cons, ?_, ?_, rfl⟩
      · intro p hp; exact List.mem_append_right [_, _, _] hp
      · rw [← hcs]
        have : last13 ((cs ++ [#[13]]) ++ [bs[i]]) = false := by rw [c1]; simp [last13]
        rw [this]; simp
      · simp; omega
    · rename bs[i] = #[10] => c1
      rename ¬(cutL _ _ _ ≠ _) => c2
      rw [cut_last_ne, Bool.not_eq_false] at c2
      rw [if_neg (by rw [c2]; simp)] at hcs
      refine invEnd_one (by k_asm) (by k_asm) (by k_mem) ?_ ⟨_, cs ++ [bs[i]], _, rfl, hus.append BytesAre.nil.cons, ?_, ?_, rfl⟩
      · intro p hp; exact List.mem_append_right [_, _, _] hp
      · rw [← hcs, hl3]; simp
      · simp; omega
    · rename ¬bs[i] = #[10] => c1
      rw [if_neg (fun q => c1 q.1)] at hcs
      refine invEnd_one (by k_asm) (by k_asm) (by k_mem) ?_ ⟨_, cs ++ [bs[i]], _, rfl, hus.append BytesAre.nil.cons, ?_, ?_, rfl⟩
      · intro p hp; exact List.mem_append_right [_] hp
      · rw [← hcs, hl3]; simp
      · simp; omega
  · rintro m₁ nx h tk ⟨us, cs, n, rfl, hus, hcs, hcl, hm1⟩ F₁ N₁
    have F₂ := know1 (Str.ofString "out") F₁ hm1
    clear F₁ F N
    walk_at "J steps"
    have hv : vs.length = bs.length := hb.length
    rw [hv, List.drop_length, moreP, List.append_nil] at hcs
    exact hret _ [(d, _)] _ _ (Fr.keep (by k_asm)) (fun p hp => ⟨(N₁ p hp).1, (N₁ p hp).2.2⟩) ⟨d, us, n, rfl, rfl, hcs ▸ hus⟩

end Mine
end
section
open PySem PySem.W PySem.Calls PySem.Spec PyProof.Rows
namespace Mine
set_option maxRecDepth 100000
variable {prog : Program} {w : World} {mean : ExcName → Option Value} {mg mb : Str → Option Value}
/-- the counts up to a place -/
def cnt (bs : List (Array UInt8)) : Nat → Nat × Nat × Nat
  | 0 => (0, 0, 0)
  | k + 1 => if bs.getD k #[] = #[10] then (if k = 0 ∨ bs.getD (k - 1) #[] ≠ #[13] then ((cnt bs k).1 + 1, (cnt bs k).2.1, (cnt bs k).2.2)
      else ((cnt bs k).1, (cnt bs k).2.1 + 1, if k > 1 ∧ bs.getD (k - 2) #[] = #[13] then (cnt bs k).2.2 + 1 else (cnt bs k).2.2)) else cnt bs k
theorem cnt_le (bs : List (Array UInt8)) : ∀ k, (cnt bs k).1 ≤ k ∧ (cnt bs k).2.1 ≤ k ∧ (cnt bs k).2.2 ≤ k
  | 0 => by simp [cnt]
  | k + 1 => by
    have := cnt_le bs k
    rw [cnt]
    (repeat' split) <;> (try dsimp only) <;> omega
set_option maxHeartbeats 8000000 in
theorem pure_counts (l : Addr) (vs : List Value) (bs : List (Array UInt8)) : PureF prog w mean mg mb 5 243 [.ref l] (fun g => g.IsList l vs.toArray ∧ BytesAre vs bs ∧ bs.length ≤ 1000000)
    (fun new v => ∃ l t1 t2 t3, v = .ref l ∧ new = [(l, { cls := .type "tuple", data := .seq #[.int (cnt bs bs.length).1 t1, .int (cnt bs bs.length).2.1 t2, .int (cnt bs bs.length).2.2 t3] })]) := by
  intro gd fr base g gn dr tk os Q E B X T hpre hret
  obtain ⟨hl, hb, hn⟩ := hpre
  walk_at "J begin"
  walk_at "J steps"
  rename Fr _ _ _ _ => F
  rename News _ _ _ _ => N
  refine For_invVF F rfl rfl ?_
  walk_at "J steps"
  rename IsRange _ _ _ _ _ _ _ _ => hr
  rename Fr _ _ _ _ => F
  rename News _ _ _ _ => N
  refine iter_range (fun i m nx => nx = [] ∧ (∃ t1 t2 t3, m (Str.ofString "lone") = some (.int ((cnt bs i).1 : Int) t1) ∧ m (Str.ofString "pairs") = some (.int ((cnt bs i).2.1 : Int) t2) ∧ m (Str.ofString "triples") = some (.int ((cnt bs i).2.2 : Int) t3) ∧ m (Str.ofString "parts") = some (.ref l))) rfl hr rfl (by omega) F N ⟨rfl, _, _, _, rfl, rfl, rfl, rfl⟩ ?_ ?_
  · rintro i t m₁ nx h tk own hi - hown ⟨rfl, t1, t2, t3, m1, m2, m3, m4⟩ F₁ N₁
    have F₂ := know1 (Str.ofString "parts") (know1 (Str.ofString "triples") (know1 (Str.ofString "pairs") (know1 (Str.ofString "lone") F₁ m1) m2) m3) m4
    have hle := cnt_le bs i
    clear F₁ F N
    rw [List.nil_append] at N₁
    have e0 : ((i : Int)).toNat = i := by omega
    have e1 : ((i : Int) - 1).toNat = i - 1 := by omega
    have e2 : ((i : Int) - 2).toNat = i - 2 := by omega
    walk_at "J steps"
    all_goals (simp only [e0, e1, e2] at *)
    · rename bs.getD _ _ = #[10] => c1
      rename (_ : Int) = 0 => c2
      have hc : cnt bs (i + 1) = ((cnt bs i).1 + 1, (cnt bs i).2.1, (cnt bs i).2.2) := by rw [cnt, if_pos c1, if_pos (.inl (by omega))]
      exact InvEndN.intro (nx := []) (by k_asm) (by k_asm) ⟨rfl, _, _, _, by rw [hc]; rfl, by rw [hc]; rfl, by rw [hc]; rfl, rfl⟩ rfl (fun _ h => nomatch h) (fun _ h => h)
    · rename bs.getD _ _ = #[10] => c1
      rename bs.getD _ _ ≠ #[13] => c2
      have hc : cnt bs (i + 1) = ((cnt bs i).1 + 1, (cnt bs i).2.1, (cnt bs i).2.2) := by rw [cnt, if_pos c1, if_pos (.inr c2)]
      exact InvEndN.intro (nx := []) (by k_asm) (by k_asm) ⟨rfl, _, _, _, by rw [hc]; rfl, by rw [hc]; rfl, by rw [hc]; rfl, rfl⟩ rfl (fun _ h => nomatch h) (fun _ h => h)
    · rename bs.getD _ _ = #[10] => c1
      rename (_ : Int) ≠ 0 => c2
      rename ¬(bs.getD _ _ ≠ #[13]) => c3
      rename (1 : Int) < _ => c4
      rename bs.getD _ _ = #[13] => c5
      have hc : cnt bs (i + 1) = ((cnt bs i).1, (cnt bs i).2.1 + 1, (cnt bs i).2.2 + 1) := by
        rw [cnt, if_pos c1, if_neg (fun q => q.elim (fun z => c2 (by omega)) c3), if_pos ⟨by omega, c5⟩]
      exact InvEndN.intro (nx := []) (by k_asm) (by k_asm) ⟨rfl, _, _, _, by rw [hc]; rfl, by rw [hc]; rfl, by rw [hc]; rfl, rfl⟩ rfl (fun _ h => nomatch h) (fun _ h => h)
    · rename bs.getD _ _ = #[10] => c1
      rename (_ : Int) ≠ 0 => c2
      rename ¬(bs.getD _ _ ≠ #[13]) => c3
      rename ¬(bs.getD _ _ = #[13]) => c5
      have hc : cnt bs (i + 1) = ((cnt bs i).1, (cnt bs i).2.1 + 1, (cnt bs i).2.2) := by
        rw [cnt, if_pos c1, if_neg (fun q => q.elim (fun z => c2 (by omega)) c3), if_neg (fun q => c5 q.2)]
      exact InvEndN.intro (nx := []) (by k_asm) (by k_asm) ⟨rfl, _, _, _, by rw [hc]; rfl, by rw [hc]; rfl, by rw [hc]; rfl, rfl⟩ rfl (fun _ h => nomatch h) (fun _ h => h)
    · rename bs.getD _ _ = #[10] => c1
      rename (_ : Int) ≠ 0 => c2
      rename ¬(bs.getD _ _ ≠ #[13]) => c3
      rename ¬((1 : Int) < _) => c5
      have hc : cnt bs (i + 1) = ((cnt bs i).1, (cnt bs i).2.1 + 1, (cnt bs i).2.2) := by
        rw [cnt, if_pos c1, if_neg (fun q => q.elim (fun z => c2 (by omega)) c3), if_neg (fun q => c5 (by omega))]
      exact InvEndN.intro (nx := []) (by k_asm) (by k_asm) ⟨rfl, _, _, _, by rw [hc]; rfl, by rw [hc]; rfl, by rw [hc]; rfl, rfl⟩ rfl (fun _ h => nomatch h) (fun _ h => h)
    · rename ¬(bs.getD _ _ = #[10]) => c1
      have hc : cnt bs (i + 1) = cnt bs i := by rw [cnt, if_neg c1]
      exact InvEndN.intro (nx := []) (by k_asm) (by k_asm) ⟨rfl, _, _, _, by rw [hc]; rfl, by rw [hc]; rfl, by rw [hc]; rfl, rfl⟩ rfl (fun _ h => nomatch h) (fun _ h => h)
  · rintro m₁ nx h tk ⟨rfl, t1, t2, t3, m1, m2, m3, m4⟩ F₁ N₁
    have F₂ := know1 (Str.ofString "parts") (know1 (Str.ofString "triples") (know1 (Str.ofString "pairs") (know1 (Str.ofString "lone") F₁ m1) m2) m3) m4
    clear F₁ F N
    walk_at "J steps"
    rename News _ _ _ _ => N₂
    exact hret _ [(_, _)] _ _ (Fr.keep (by k_asm)) (fun p hp => ⟨(N₂ p hp).1, (N₂ p hp).2.2⟩) ⟨_, t1, t2, t3, rfl, rfl⟩

end Mine
end
section
open PySem PySem.W PySem.Calls PySem.Spec PyProof.Rows
namespace Mine
set_option maxRecDepth 100000
variable {prog : Program} {w : World} {mean : ExcName → Option Value} {mg mb : Str → Option Value}
def lessU (bs : List (Array UInt8)) : Nat → List (Array UInt8)
  | 0 => []
  | k + 1 => if bs.getD k #[] ≠ #[13] ∨ cutL bs (some ((k : Int) + 1)) (some ((k : Int) + 2)) ≠ [#[10]] then lessU bs k ++ [bs.getD k #[]] else lessU bs k
theorem lessU_yes {bs : List (Array UInt8)} {ys : List Value} {t : Tok} {k : Nat} (hj : BytesAre ys (lessU bs k)) (h : bs.getD k #[] ≠ #[13] ∨ cutL bs (some ((k : Int) + 1)) (some ((k : Int) + 2)) ≠ [#[10]]) : BytesAre (ys ++ [.bytes (bs.getD k #[]) t]) (lessU bs (k + 1)) := by
  rw [lessU, if_pos h]; exact BytesAre.append hj (BytesAre.cons BytesAre.nil)
theorem lessU_no {bs : List (Array UInt8)} {ys : List Value} {k : Nat} (hj : BytesAre ys (lessU bs k)) (h1 : ¬ (bs.getD k #[] ≠ #[13])) (h2 : ¬ (cutL bs (some ((k : Int) + 1)) (some ((k : Int) + 2)) ≠ [#[10]])) : BytesAre ys (lessU bs (k + 1)) := by
  rw [lessU, if_neg (fun q => q.elim h1 h2)]; exact hj
set_option maxHeartbeats 8000000 in
theorem pure_less (l : Addr) (vs : List Value) (bs : List (Array UInt8)) : PureF prog w mean mg mb 5 255 [.ref l] (fun g => g.IsList l vs.toArray ∧ BytesAre vs bs ∧ bs.length ≤ 1000000)
    (fun new v => ∃ d ys n, v = .ref d ∧ new = [(d, W.listOf ys.toArray n)] ∧ BytesAre ys (lessU bs bs.length)) := by
  intro gd fr base g gn dr tk os Q E B X T hpre hret
  obtain ⟨hl, hb, hn⟩ := hpre
  walk_at "J beginC"
  walk_at "J steps"
  refine comp_vals (fun i ys => BytesAre ys (lessU bs i)) ?_ BytesAre.nil ?_
  · rintro i v I oI C oC D m₂ ys h tk E' hi ⟨t, rfl⟩ hj hC hx F N off ne
    have e0 : ((0 : Int) + (i : Int)) = i := by omega
    rw [e0] at hx
    have hi' : i < bs.length := by omega
    have e1 : ((i : Int)).toNat = i := by omega
    walk_at "J steps"
    all_goals (simp only [e1] at *)
    · rename bs.getD _ _ ≠ #[13] => c1
      exact LCg.CompEnd.intro (by k_asm) (by k_asm) _ (fun p hp => hp) (by assumption) trivial ⟨rfl, lessU_yes hj (.inl c1)⟩
    · rename cutL bs _ _ ≠ [#[10]] => c1
      exact LCg.CompEnd.intro (by k_asm) (by k_asm) _ (fun p hp => List.mem_cons_of_mem _ (List.mem_cons_of_mem _ hp)) (by assumption) trivial ⟨rfl, lessU_yes hj (.inr c1)⟩
    · rename ¬(cutL bs _ _ ≠ [#[10]]) => c1
      rename ¬(bs.getD _ _ ≠ #[13]) => c2
      exact LCg.CompEnd.intro (by k_asm) (by k_asm) _ (fun p hp => List.mem_cons_of_mem _ (List.mem_cons_of_mem _ hp)) (by assumption) trivial ⟨rfl, lessU_no hj c2 c1⟩
  · have e9 : (((bs.length : Nat) : Int) - 0).toNat = bs.length := by omega
    rw [e9]
    intro ys hys
    walk_at "J steps"
    rename News _ _ _ _ => N₂
    exact hret _ [(_, _)] _ _ (Fr.keep (by k_asm)) (fun p hp => by
      have hp' := N₂ p (by rw [List.mem_singleton.mp hp]; exact List.mem_cons.mpr (.inl rfl))
      exact ⟨hp'.1, hp'.2.2⟩) ⟨_, ys, ys.length, rfl, rfl, hys⟩

end Mine
end
section
open PySem PySem.W PySem.Calls PySem.Spec PyProof.Rows
namespace Mine
set_option maxRecDepth 100000
variable {prog : Program} {w : World} {mean : ExcName → Option Value} {mg mb : Str → Option Value}
theorem BytesAre.lits {vs : List Value} {bs : List (Array UInt8)} (h : vs.map bval = bs.map some) : BytesAre vs bs := h
set_option maxHeartbeats 8000000 in
theorem pure_words : PureF prog w mean mg mb 6 175 [] (fun _ => True) (fun new v => ∃ d vs n, v = .ref d ∧ new = [(d, W.listOf vs.toArray n)] ∧ StrsAre vs [Str.ofString "auto", Str.ofString "set", Str.ofString "", Str.ofString "unset", Str.ofString "input", Str.ofString "none", Str.ofString "other"]) := by
  intro gd fr base g gn dr tk os Q E B X T hpre hret
  walk_at "J begin"
  walk_at "J steps"
  rename News _ _ _ _ => N₂
  exact hret _ [(_, _)] _ _ (Fr.keep (by k_asm)) (fun p hp => ⟨(N₂ p hp).1, (N₂ p hp).2.2⟩) ⟨_, [_, _, _, _, _, _, _], 0, rfl, rfl, .cons _ _ (.cons _ _ (.cons _ _ (.cons _ _ (.cons _ _ (.cons _ _ (.cons _ _ .nil))))))⟩
set_option maxHeartbeats 8000000 in
theorem pure_ends : PureF prog w mean mg mb 6 189 [] (fun _ => True) (fun new v => ∃ d vs n, v = .ref d ∧ new = [(d, W.listOf vs.toArray n)] ∧ StrsAre vs [Str.ofString "", Str.ofString "crlf", Str.ofString "lf", Str.ofString "LF"]) := by
  intro gd fr base g gn dr tk os Q E B X T hpre hret
  walk_at "J begin"
  walk_at "J steps"
  rename News _ _ _ _ => N₂
  exact hret _ [(_, _)] _ _ (Fr.keep (by k_asm)) (fun p hp => ⟨(N₂ p hp).1, (N₂ p hp).2.2⟩) ⟨_, [_, _, _, _], 0, rfl, rfl, .cons _ _ (.cons _ _ (.cons _ _ (.cons _ _ .nil)))⟩
set_option maxHeartbeats 8000000 in
theorem pure_autos : PureF prog w mean mg mb 6 196 [] (fun _ => True) (fun new v => ∃ d vs n, v = .ref d ∧ new = [(d, W.listOf vs.toArray n)] ∧ BytesAre vs [#[102, 97, 108, 115, 101], #[116, 114, 117, 101], #[105, 110, 112, 117, 116]]) := by
  intro gd fr base g gn dr tk os Q E B X T hpre hret
  walk_at "J begin"
  walk_at "J steps"
  rename News _ _ _ _ => N₂
  exact hret _ [(_, _)] _ _ (Fr.keep (by k_asm)) (fun p hp => ⟨(N₂ p hp).1, (N₂ p hp).2.2⟩) ⟨_, [_, _, _], 0, rfl, rfl, rfl⟩
set_option maxHeartbeats 8000000 in
theorem pure_cores : PureF prog w mean mg mb 6 203 [] (fun _ => True) (fun new v => ∃ d vs n, v = .ref d ∧ new = [(d, W.listOf vs.toArray n)] ∧ StrsAre vs [Str.ofString "native", Str.ofString "crlf", Str.ofString "lf"]) := by
  intro gd fr base g gn dr tk os Q E B X T hpre hret
  walk_at "J begin"
  walk_at "J steps"
  rename News _ _ _ _ => N₂
  exact hret _ [(_, _)] _ _ (Fr.keep (by k_asm)) (fun p hp => ⟨(N₂ p hp).1, (N₂ p hp).2.2⟩) ⟨_, [_, _, _], 0, rfl, rfl, .cons _ _ (.cons _ _ (.cons _ _ .nil))⟩
set_option maxHeartbeats 8000000 in
theorem pure_safes : PureF prog w mean mg mb 6 210 [] (fun _ => True) (fun new v => ∃ d vs n, v = .ref d ∧ new = [(d, W.listOf vs.toArray n)] ∧ BytesAre vs [#[102, 97, 108, 115, 101], #[116, 114, 117, 101], #[119, 97, 114, 110]]) := by
  intro gd fr base g gn dr tk os Q E B X T hpre hret
  walk_at "J begin"
  walk_at "J steps"
  rename News _ _ _ _ => N₂
  exact hret _ [(_, _)] _ _ (Fr.keep (by k_asm)) (fun p hp => ⟨(N₂ p hp).1, (N₂ p hp).2.2⟩) ⟨_, [_, _, _], 0, rfl, rfl, rfl⟩
set_option maxHeartbeats 8000000 in
theorem pure_letters : PureF prog w mean mg mb 6 217 [] (fun _ => True) (fun new v => ∃ d vs n, v = .ref d ∧ new = [(d, W.listOf vs.toArray n)] ∧ BytesAre vs [#[97], #[32], #[255], #[26]]) := by
  intro gd fr base g gn dr tk os Q E B X T hpre hret
  walk_at "J begin"
  walk_at "J steps"
  rename News _ _ _ _ => N₂
  exact hret _ [(_, _)] _ _ (Fr.keep (by k_asm)) (fun p hp => ⟨(N₂ p hp).1, (N₂ p hp).2.2⟩) ⟨_, [_, _, _, _], 0, rfl, rfl, rfl⟩

end Mine
end
section
open PySem PySem.W PySem.Calls PySem.Spec PyProof.Rows
namespace Mine
set_option maxRecDepth 100000
variable {prog : Program} {w : World} {mean : ExcName → Option Value} {mg mb : Str → Option Value}
abbrev bTrue : Array UInt8 := #[116, 114, 117, 101]
abbrev bFalse : Array UInt8 := #[102, 97, 108, 115, 101]
abbrev bWarn : Array UInt8 := #[119, 97, 114, 110]
abbrev bInput : Array UInt8 := #[105, 110, 112, 117, 116]
def raiseC (a b : Array UInt8) : Bool := (hasCR a.toList && !hasCR b.toList && decide ((more false b.toList).toArray ≠ a)) || (a.toList.contains 10 && hasCR b.toList && !hasCR a.toList && decide ((less b.toList).toArray ≠ a))
set_option maxHeartbeats 8000000 in
theorem pure_check (a b sc : Array UInt8) (t1 t2 t3 t4 : Tok) : PureF prog w mean mg mb 5 140 [.bytes a t1, .bytes b t2, .bytes sc t3, .bytes #[] t4] (fun _ => a.size ≤ 1000000 ∧ b.size ≤ 1000000 ∧ (sc = bTrue → raiseC a b = false)) (fun new v => new = [] ∧ v = .none) := by
  intro gd fr base g gn dr tk os Q E B X T hpre hret
  obtain ⟨hl, hb, hr⟩ := hpre
  walk_at "J begin"
  walk_at "J steps"
  all_goals first | exact hret _ [] _ _ (Fr.keep (by k_asm)) (fun _ h => nomatch h) ⟨rfl, rfl⟩ | (exfalso; (have hr' := hr (by assumption)); simp_all [raiseC])
set_option maxHeartbeats 8000000 in
theorem raises_check (a b sc : Array UInt8) (t1 t2 t3 t4 : Tok) : RaisesL prog w mean mg mb 5 140 [.bytes a t1, .bytes b t2, .bytes sc t3, .bytes #[] t4] [] (a.size ≤ 1000000 ∧ b.size ≤ 1000000 ∧ sc = bTrue ∧ raiseC a b = true) := by
  intro gd fr base g h gn dr tk os Q E B X T S hpre hret; have XH := X.keeps S.stays
  obtain ⟨hl, hb, rfl, hr⟩ := hpre
  walk_at "J beginL"
  walk_at "J steps"
  all_goals first | (walk_at "J raise"; intro h' R U'; exact hret _ _ _ R U'; done) | (exfalso; simp_all [raiseC])

end Mine
end
section
open PySem PySem.W PySem.Calls PySem.Spec PyProof.Rows
namespace Mine
set_option maxRecDepth 100000
variable {prog : Program} {w : World} {mean : ExcName → Option Value} {mg mb : Str → Option Value}
abbrev filD (w : World) (k1 k2 k3 k4 k5 k6 : Tok) (v1 v2 v3 v4 v5 v6 : Value) : Obj := dictOf
  [{ hash := PyData.keyHash w.params (Str.ofString "clean_conversion"), key := .str (Str.ofString "clean_conversion") k1, val := v1 },
   { hash := PyData.keyHash w.params (Str.ofString "smudge_conversion"), key := .str (Str.ofString "smudge_conversion") k2, val := v2 },
   { hash := PyData.keyHash w.params (Str.ofString "binary_detection"), key := .str (Str.ofString "binary_detection") k3, val := v3 },
   { hash := PyData.keyHash w.params (Str.ofString "safecrlf"), key := .str (Str.ofString "safecrlf") k4, val := v4 },
   { hash := PyData.keyHash w.params (Str.ofString "require_lf_only"), key := .str (Str.ofString "require_lf_only") k5, val := v5 },
   { hash := PyData.keyHash w.params (Str.ofString "index_has_crlf"), key := .str (Str.ofString "index_has_crlf") k6, val := v6 }] 6
abbrev smActs : List Str := [Str.ofString "text-crlf", Str.ofString "auto-crlf"]
abbrev auActs : List Str := [Str.ofString "auto", Str.ofString "auto-input", Str.ofString "auto-crlf"]
set_option maxHeartbeats 8000000 in
theorem pure_lefa (a1 : Str) (t1 t2 : Tok) (b : Bool) (sc : Array UInt8) : PureF prog w mean mg mb 5 73 [.str a1 t1, .bytes sc t2, .bool b] (fun _ => True)
    (fun new v => ((a1 == Str.ofString "binary") = true ∧ new = [] ∧ v = .none) ∨ ((a1 == Str.ofString "binary") = false ∧ ∃ x d k1 k2 k3 k4 k5 k6 sv iv, v = .ref x ∧
      new = [(x, instObj 114 d), (d, filD w k1 k2 k3 k4 k5 k6 (.bool true) sv (.bool true) (.bytes sc t2) (.bool (decide (a1 ∈ auActs))) iv)] ∧
      (a1 ∈ smActs → sv = .bool true) ∧ (a1 ∉ smActs → sv = .none) ∧ (a1 ∈ auActs → iv = .bool b) ∧ (a1 ∉ auActs → iv = .none))) := by
  intro gd fr base g gn dr tk os Q E B X T hpre hret
  walk_at "J begin"
  walk_at "J steps"
  all_goals first
    | exact hret _ [] _ _ (Fr.keep (by k_asm)) (fun _ h => nomatch h) (.inl ⟨by assumption, rfl, rfl⟩)
    | ((with_reducible rename News g _ _ _ => N₂)
       have H := new_two N₂
       refine hret _ _ _ _ (Fr.keep (by k_asm)) H (.inr ⟨by assumption, _, _, _, _, _, _, _, _, _, _, rfl, rfl, ?_, ?_, ?_, ?_⟩)
       all_goals (intro h; first | rfl | exact absurd h ‹_› | exact absurd ‹_› h))
set_option maxHeartbeats 8000000 in
theorem pure_smf (t : Tok) (a : Array UInt8) : PureF prog w mean mg mb 6 161 [.bytes a t] (fun _ => True) (fun new v => new = [] ∧ (a = #[116, 114, 117, 101] → v = .bool true) ∧ (a ≠ #[116, 114, 117, 101] → v = .none)) := by
  intro gd fr base g gn dr tk os Q E B X T hpre hret
  walk_at "J begin"
  walk_at "J steps"
  all_goals exact hret _ [] _ _ (Fr.keep (by k_asm)) (fun _ h => nomatch h) (by refine ⟨rfl, ?_, ?_⟩ <;> (intro h; first | rfl | exact absurd h ‹_› | exact absurd ‹_› h))
set_option maxHeartbeats 8000000 in
theorem pure_clf (t : Tok) (a : Array UInt8) : PureF prog w mean mg mb 6 168 [.bytes a t] (fun _ => True) (fun new v => new = [] ∧ ((a = #[116, 114, 117, 101] ∨ a = #[105, 110, 112, 117, 116]) → v = .bool true) ∧ (a ≠ #[116, 114, 117, 101] → a ≠ #[105, 110, 112, 117, 116] → v = .none)) := by
  intro gd fr base g gn dr tk os Q E B X T hpre hret
  walk_at "J begin"
  walk_at "J steps"
  all_goals exact hret _ [] _ _ (Fr.keep (by k_asm)) (fun _ h => nomatch h) (by refine ⟨rfl, fun h => ?_, fun h1 h2 => ?_⟩ <;> first | rfl | (exfalso; simp_all))
def optT (b : Bool) : Value := if b then .bool true else .none
def ixV : Option Bool → Value
  | none => .none
  | some b => .bool b
theorem optT_f : optT false = .none := rfl
theorem optT_t : optT true = .bool true := rfl
def smudgeF (sm bd rl : Bool) (a : Array UInt8) : Array UInt8 := if sm = false then a else if bd && binB a then a else if rl && a.toList.contains 13 then a else (more false a.toList).toArray
/-- does clean hand its data back as they are -/
def keepsC (cl bd : Bool) (ix : Option Bool) (a : Array UInt8) : Bool := !cl || (bd && binB a) || (decide (ix = some true) && hasCR a.toList)

end Mine
end
section
open PySem PySem.W PySem.Calls PySem.Spec PyProof.Rows
namespace Mine
set_option maxRecDepth 100000
variable {prog : Program} {w : World} {mean : ExcName → Option Value} {mg mb : Str → Option Value}
set_option maxHeartbeats 8000000 in
theorem L_smudge (x d : Addr) (k1 k2 k3 k4 k5 k6 t4 t5 : Tok) (v1 v6 : Value) (sm bd rl : Bool) (sc a : Array UInt8) :
    PureL prog w mean mg mb 4 104 [.ref x, .bytes a t5] [(x, instObj 114 d), (d, filD w k1 k2 k3 k4 k5 k6 v1 (optT sm) (.bool bd) (.bytes sc t4) (.bool rl) v6)] (a.size ≤ 400000 ∧ (more false a.toList).toArray.size ≤ 1000000 ∧ raiseC a (more false a.toList).toArray = false)
      (fun new v => new = [] ∧ ∃ t, v = .bytes (smudgeF sm bd rl a) t) := by
  intro gd fr base g h gn dr tk os Q E B X T S hpre hret; have XH := X.keeps S.stays
  obtain ⟨hn, hn2, hr⟩ := hpre
  have hr2 : sc = bTrue → raiseC a (more false a.toList).toArray = false := fun _ => hr
  cases sm
  · rw [optT_f] at S
    walk_at "J beginL"
    walk_at "J steps"
    all_goals exact hret _ [] _ _ (back_of S (by k_asm) (by k_asm)) (fun _ h => nomatch h) ⟨rfl, _, bytes_eq (by simp_all [smudgeF])⟩
  · rw [optT_t] at S
    walk_at "J beginL"
    walk_at "J steps"
    all_goals exact hret _ [] _ _ (back_of S (by k_asm) (by k_asm)) (fun _ h => nomatch h) ⟨rfl, _, bytes_eq (by simp_all [smudgeF])⟩
set_option maxHeartbeats 8000000 in
theorem L_clean (x d : Addr) (k1 k2 k3 k4 k5 k6 t4 t5 : Tok) (v2 v5 : Value) (cl bd : Bool) (ix : Option Bool) (sc a : Array UInt8) :
    PureL prog w mean mg mb 4 96 [.ref x, .bytes a t5] [(x, instObj 114 d), (d, filD w k1 k2 k3 k4 k5 k6 (optT cl) v2 (.bool bd) (.bytes sc t4) v5 (ixV ix))] (a.size ≤ 400000 ∧ (less a.toList).toArray.size ≤ 1000000 ∧ (keepsC cl bd ix a = false → sc = bTrue → raiseC a (less a.toList).toArray = false))
      (fun new v => new = [] ∧ ∃ t, v = .bytes (if keepsC cl bd ix a then a else (less a.toList).toArray) t) := by
  intro gd fr base g h gn dr tk os Q E B X T S hpre hret; have XH := X.keeps S.stays
  obtain ⟨hn, hn2, hr⟩ := hpre
  cases cl
  · rw [optT_f] at S
    walk_at "J beginL"
    walk_at "J steps"
    all_goals exact hret _ [] _ _ (back_of S (by k_asm) (by k_asm)) (fun _ h => nomatch h) ⟨rfl, _, bytes_eq (by simp_all [keepsC])⟩
  · rw [optT_t] at S
    cases ix with
    | none =>
      rw [ixV] at S
      walk_at "J beginL"
      walk_at "J steps"
      all_goals exact hret _ [] _ _ (back_of S (by k_asm) (by k_asm)) (fun _ h => nomatch h) ⟨rfl, _, bytes_eq (by simp_all [keepsC])⟩
    | some b =>
      rw [ixV] at S
      walk_at "J beginL"
      walk_at "J steps"
      all_goals exact hret _ [] _ _ (back_of S (by k_asm) (by k_asm)) (fun _ h => nomatch h) ⟨rfl, _, bytes_eq (by simp_all [keepsC])⟩

end Mine
end
section
open PySem PySem.W PySem.Calls PySem.Spec PyProof.Rows
namespace Mine
set_option maxRecDepth 100000
variable {prog : Program} {w : World} {mean : ExcName → Option Value} {mg mb : Str → Option Value}
set_option maxHeartbeats 8000000 in
theorem R_clean (x d : Addr) (k1 k2 k3 k4 k5 k6 t4 t5 : Tok) (v2 v5 : Value) (cl bd : Bool) (ix : Option Bool) (sc a : Array UInt8) :
    RaisesL prog w mean mg mb 4 96 [.ref x, .bytes a t5] [(x, instObj 114 d), (d, filD w k1 k2 k3 k4 k5 k6 (optT cl) v2 (.bool bd) (.bytes sc t4) v5 (ixV ix))] (a.size ≤ 400000 ∧ (less a.toList).toArray.size ≤ 1000000 ∧ keepsC cl bd ix a = false ∧ sc = bTrue ∧ raiseC a (less a.toList).toArray = true) := by
  intro gd fr base g h gn dr tk os Q E B X T S hpre hret; have XH := X.keeps S.stays
  obtain ⟨hn, hn2, hk, rfl, hr⟩ := hpre
  have hre : bTrue = bTrue := rfl
  cases cl
  · simp [keepsC] at hk
  · rw [optT_t] at S
    cases ix with
    | none =>
      rw [ixV] at S
      walk_at "J beginL"
      walk_at "J steps"
      all_goals first | (walk_at "J passon"; intro h' R U'; exact hret _ _ _ R U'; done) | (exfalso; simp_all [keepsC]; done)
    | some b =>
      rw [ixV] at S
      walk_at "J beginL"
      walk_at "J steps"
      all_goals first | (walk_at "J passon"; intro h' R U'; exact hret _ _ _ R U'; done) | (exfalso; simp_all [keepsC]; done)

end Mine
end
section
open PySem PySem.W PySem.Calls PySem.Spec PyProof.Rows
namespace Mine
set_option maxRecDepth 100000
variable {prog : Program} {w : World} {mean : ExcName → Option Value} {mg mb : Str → Option Value}
set_option maxHeartbeats 8000000 in
theorem L_cleaned (x d : Addr) (k1 k2 k3 k4 k5 k6 t4 t5 : Tok) (v2 v5 : Value) (cl bd : Bool) (ix : Option Bool) (sc a : Array UInt8) :
    PureL prog w mean mg mb 3 269 [.ref x, .bytes a t5] [(x, instObj 114 d), (d, filD w k1 k2 k3 k4 k5 k6 (optT cl) v2 (.bool bd) (.bytes sc t4) v5 (ixV ix))] (a.size ≤ 400000 ∧ (less a.toList).toArray.size ≤ 1000000 ∧ (keepsC cl bd ix a = false → sc = bTrue → raiseC a (less a.toList).toArray = false))
      (fun new v => new = [] ∧ ∃ t, v = .bytes (if keepsC cl bd ix a then a else (less a.toList).toArray) t) := by
  intro gd fr base g h gn dr tk os Q E B X T S hpre hret; have XH := X.keeps S.stays
  obtain ⟨hn, hn2, hr⟩ := hpre
  walk_at "J beginL"
  walk_at "J steps"
  refine' use_L (L_clean x d k1 k2 k3 k4 k5 k6 t4 t5 v2 v5 cl bd ix sc a) ?B ?F ?X ?N ?T ?h1 ?h2 ?h3 ?h4 ?h5 ?sub ?pre ?_
  (case B => assumption)
  (case F => k_asm)
  (case X => assumption)
  (case N => k_asm)
  (case T => assumption)
  (case h1 => exact rfl)
  (case h2 => exact rfl)
  (case h3 => exact rfl)
  (case h4 => exact Nat.le_of_ble_eq_true rfl)
  (case h5 => exact Nat.le_of_ble_eq_true rfl)
  (case sub => exact fun _ hp => hp)
  (case pre => exact ⟨by assumption, by assumption, by assumption⟩)
  intro v' nw' h' tk' F' N' st' p'
  obtain ⟨e1', t', e2'⟩ := p'
  subst e1' e2'
  simp only [List.nil_append] at N'
  exact hret _ [] _ _ (back_of S F' N') (fun _ h => nomatch h) ⟨rfl, _, rfl⟩
set_option maxHeartbeats 8000000 in
theorem S_cleaned (x d : Addr) (k1 k2 k3 k4 k5 k6 t4 t5 : Tok) (v2 v5 : Value) (cl bd : Bool) (ix : Option Bool) (sc a : Array UInt8) :
    PureS prog w mean mg mb 3 269 [.ref x, .bytes a t5] [(x, instObj 114 d), (d, filD w k1 k2 k3 k4 k5 k6 (optT cl) v2 (.bool bd) (.bytes sc t4) v5 (ixV ix))] (a.size ≤ 400000 ∧ (less a.toList).toArray.size ≤ 1000000 ∧ keepsC cl bd ix a = false ∧ sc = bTrue ∧ raiseC a (less a.toList).toArray = true)
      (fun new v => new = [] ∧ v = .none) := by
  intro gd fr base g h gn dr tk os Q E B X T S XB TB D hpre hret
  have XH := X.keeps S.stays
  walk_at "J beginL"
  walk_at "J steps"
  refine' use_R (R_clean x d k1 k2 k3 k4 k5 k6 t4 t5 v2 v5 cl bd ix sc a) ?B ?F ?X ?N ?T ?h1 ?h2 ?h3 ?h4 ?h5 ?sub ?pre ?_
  (case B => assumption)
  (case F => k_asm)
  (case X => assumption)
  (case N => k_asm)
  (case T => assumption)
  (case h1 => exact rfl)
  (case h2 => exact rfl)
  (case h3 => exact rfl)
  (case h4 => exact Nat.le_of_ble_eq_true rfl)
  (case h5 => exact Nat.le_of_ble_eq_true rfl)
  (case sub => exact fun _ hp => hp)
  (case pre => assumption)
  intro e' h' tk' R' U'
  rename Fr _ _ _ _ => F
  rename News _ _ _ _ => N
  dsimp only at R' U' ⊢
  refine' caught_L (T' := "ValueError") R' F N ?K U' XB TB S D ?ex PyProof.Rows.Boot.«ValueError» ?hn PySem.F.isExc_ValueError PySem.F.notTuple_ValueError ?hs ?_
  (case K => assumption)
  (case ex => k_is)
  (case hn => decide)
  (case hs => kts_sub)
  intro h2 g2 F2 B2 X2 T2 hback N2
  walk_at "J steps"
  have HB := hback _ F2.keep (fun q hq => (N2 q hq).1)
  exact hret .none [] _ _ HB.1 HB.2 (fun _ h => nomatch h) ⟨rfl, rfl⟩

end Mine
end
section
open PySem PySem.W PySem.Calls PySem.Spec PyProof.Rows
namespace Mine
set_option maxRecDepth 100000
variable {prog : Program} {w : World} {mean : ExcName → Option Value} {mg mb : Str → Option Value}
set_option maxHeartbeats 8000000 in
theorem pure_edited (l : Addr) (vs : List Value) (bs : List (Array UInt8)) (kind rest : Int) (t1 t2 : Tok) : PureF prog w mean mg mb 3 276 [.ref l, .int kind t1, .int rest t2] (fun g => g.IsList l vs.toArray ∧ BytesAre vs bs ∧ bs.length ≤ 200000)
    (fun new v => ∃ d vs' n cs, v = .ref d ∧ new = [(d, W.listOf vs'.toArray n)] ∧ BytesAre vs' cs ∧ Edited bs cs) := by
  intro gd fr base g gn dr tk os Q E B X T hpre hret
  obtain ⟨hl, hb, hn⟩ := hpre
  have f1 : 0 ≤ rest.fmod 4 := Int.fmod_nonneg_of_pos _ (by omega)
  have f2 : rest.fmod 4 < 4 := Int.fmod_lt_of_pos _ (by omega)
  have f3 := letter_size (rest.fmod 4).toNat (by omega)
  walk_at "J begin"
  walk_at "J steps"
  all_goals (with_reducible rename News g _ _ _ => N₂)
  all_goals (have H := new_one N₂)
  all_goals first
    | exact hret _ _ _ _ (Fr.keep (by k_asm)) H ⟨_, _, _, _, rfl, rfl, by assumption, Edited.cut _ _ _⟩
    | exact hret _ _ _ _ (Fr.keep (by k_asm)) H ⟨_, [], _, _, rfl, rfl, BytesAre.nil, Edited.none _⟩
    | (refine hret _ _ _ _ (Fr.keep (by k_asm)) H ⟨_, _, _, _, rfl, rfl, by assumption, Edited.add ?_ ?_⟩
       · first | (intro b hb; rw [List.mem_singleton.mp hb]; exact f3) | simp
       · simp)

end Mine
end
section
open PySem PySem.W PySem.Calls PySem.Spec PyProof.Rows
namespace Mine
set_option maxRecDepth 100000
variable {prog : Program} {w : World} {mean : ExcName → Option Value} {mg mb : Str → Option Value}
inductive AV where | none | tru | fls | input | auto | yes
def AVal : AV → Value → Prop
  | .none, v => v = .none
  | .tru, v => v = .bool true
  | .fls, v => v = .bool false
  | .input, v => ∃ t, v = .bytes #[105, 110, 112, 117, 116] t
  | .auto, v => ∃ t, v = .bytes #[97, 117, 116, 111] t
  | .yes, v => ∃ t, v = .bytes #[121, 101, 115] t
def actA : AV → Str
  | .none => Str.ofString "undefined"
  | .tru => Str.ofString "text"
  | .fls => Str.ofString "binary"
  | .input => Str.ofString "text-input"
  | .auto => Str.ofString "auto"
  | .yes => Str.ofString "undefined"
def textEol (core : Str) (auto : Array UInt8) : Bool := decide (auto = #[116, 114, 117, 101]) || (!decide (auto = #[105, 110, 112, 117, 116]) && (core == Str.ofString "crlf"))
set_option maxHeartbeats 8000000 in
theorem pure_actA (a : AV) (v : Value) : PureF prog w mean mg mb 6 50 [v] (fun _ => AVal a v) (fun new v' => new = [] ∧ ∃ t, v' = .str (actA a) t) := by
  intro gd fr base g gn dr tk os Q E B X T hpre hret
  cases a <;> simp only [AVal] at hpre
  all_goals (first | subst hpre | (obtain ⟨tv, hpre⟩ := hpre; subst hpre))
  all_goals (walk_at "J begin")
  all_goals (walk_at "J steps")
  all_goals exact hret _ [] _ _ (Fr.keep (by k_asm)) (fun _ h => nomatch h) ⟨rfl, _, rfl⟩
set_option maxHeartbeats 8000000 in
theorem pure_textEol (core : Str) (auto : Array UInt8) (t1 t2 : Tok) : PureF prog w mean mg mb 6 57 [.str core t1, .bytes auto t2] (fun _ => True) (fun new v => new = [] ∧ v = .bool (textEol core auto)) := by
  intro gd fr base g gn dr tk os Q E B X T hpre hret
  walk_at "J begin"
  walk_at "J steps"
  all_goals exact hret _ [] _ _ (Fr.keep (by k_asm)) (fun _ h => nomatch h) ⟨rfl, by simp_all [textEol]⟩

end Mine
end
section
open PySem PySem.W PySem.Calls PySem.Spec PyProof.Rows
namespace Mine
set_option maxRecDepth 100000
open Builtin._codecs in
def EolOk (eol : Str) (b : Array UInt8) : Prop := (∀ t, encodeNarrow "str.encode" asciiCodec none (.str eol t) eol = pure b) ∧ b.size ≤ 16777216
abbrev kText : List UInt8 := [116, 101, 120, 116]
abbrev kCrlf : List UInt8 := [99, 114, 108, 102]
abbrev kEol : List UInt8 := [101, 111, 108]
abbrev sixWords : List Str := [Str.ofString "auto", Str.ofString "set", Str.ofString "unset", Str.ofString "input", Str.ofString "none", Str.ofString "other"]
def wordA (s : Str) : AV := if s = Str.ofString "auto" then .auto else if s = Str.ofString "set" then .tru else if s = Str.ofString "unset" then .fls else if s = Str.ofString "input" then .input else if s = Str.ofString "none" then .none else if s = Str.ofString "other" then .yes else .none
theorem wordA_auto : wordA (Str.ofString "auto") = .auto := rfl
theorem wordA_set : wordA (Str.ofString "set") = .tru := rfl
theorem wordA_unset : wordA (Str.ofString "unset") = .fls := rfl
theorem wordA_input : wordA (Str.ofString "input") = .input := rfl
theorem wordA_none : wordA (Str.ofString "none") = .none := rfl
theorem wordA_other : wordA (Str.ofString "other") = .yes := rfl
theorem wordA_nil : wordA (Str.ofString "") = .none := rfl
def EVal (eol : Str) (b : Array UInt8) (v : Value) : Prop := ((eol != Str.ofString "") = false ∧ v = .none) ∨ ((eol != Str.ofString "") = true ∧ ∃ t, v = .bytes b t)
section
variable {prog : Program} {w : World} {A : Around} {E : Value → Shared → Prop} {s : Shared} {h₀ : Heap} {L d : Addr} {news : List (Addr × Obj)} {o : Obj}
theorem bk_nil (h : o.IsDictOf (PySem.strKind prog w) []) : o.IsDictOf (bytesKind prog w) [] := by
  obtain ⟨es, ep, h1, h2, h3, h4, h5⟩ := h
  cases he : es.toList with
  | nil =>
    refine ⟨es, ep, h1, h2, ?_, by rw [he]; exact .nil, by simp⟩
    intro e hm
    have : e ∈ es.toList := by simpa using hm
    rw [he] at this; cases this
  | cons a r => rw [he] at h4; cases h4
theorem look_word {kv : List (Str × Value)} {t : Str} {tk : Tok} {Q : Value → Shared → Prop} (hall : ∀ t ∈ sixWords, ∃ v, valueAt kv t = some v ∧ AVal (wordA t) v) (N : News h₀ L s.heap news) (hp : (d, o) ∈ news) (hd : o.IsDictOf (PySem.strKind prog w) kv)
    (ht : t ∈ sixWords) (h : ∀ v, AVal (wordA t) v → Q v { s with toks := s.toks + 1 }) :
    wpAny (model prog w) A (getItem (.ref d) (.str t tk)) Q E s := by
  obtain ⟨v, hv, ha⟩ := hall t ht
  exact wpAny_getItem_of (strKind_is _ _ _ _) (kda_dict N hp hd).mapOf hv (h v ha)
end
theorem gm_encode {prog : Program} {w : World} {A : Around} {E : Value → Shared → Prop} {s : Shared} {x : Str} {t : Tok} {pl : Sem Bool} {Q : Value × List Value → Shared → Prop} (h : Q (.builtin "str.encode", [.str x t]) s) : wpAny (model prog w) A (getMethod (.str x t) "encode" pl) Q E s :=
  getMethod_builtin (typeIs_str _ _ _) F.plainAttrs_str F.slot_str_encode F.type_str_encode nofun h
theorem news_tl {h₀ h : Heap} {L : Addr} {a : Addr × Obj} {r : List (Addr × Obj)} (N : News h₀ L h (a :: r)) : News h₀ L h r := fun p hp => N p (List.mem_cons_of_mem _ hp)
theorem aval_nil {t : Str} (h : (t != Str.ofString "") = false) : AVal (wordA t) .none := by
  have e : t = Str.ofString "" := by simpa using h
  subst e; rfl
end Mine
end
section
open PySem PySem.W PySem.Calls PySem.Spec PyProof.Rows
namespace Mine
set_option maxRecDepth 100000
variable {prog : Program} {w : World} {mean : ExcName → Option Value} {mg mb : Str → Option Value}
set_option maxHeartbeats 8000000 in
theorem pure_values : PureF prog w mean mg mb 6 182 [] (fun _ => True) (fun new v => ∃ d o kv, v = .ref d ∧ new = [(d, o)] ∧ o.IsDictOf (PySem.strKind prog w) kv ∧ ∀ t ∈ sixWords, ∃ v, valueAt kv t = some v ∧ AVal (wordA t) v) := by
  intro gd fr base g gn dr tk os Q E B X T hpre hret
  walk_at "J begin"
  walk_at "J steps"
  rename News _ _ _ _ => N₂
  rename Obj.IsDictOf _ _ _ => hd₂
  refine hret _ [(_, _)] _ _ (Fr.keep (by k_asm)) (fun p hp => ⟨(N₂ p hp).1, (N₂ p hp).2.2⟩) ⟨_, _, _, rfl, rfl, hd₂, ?_⟩
  intro t ht
  simp only [List.mem_cons, List.not_mem_nil, or_false] at ht
  rcases ht with rfl | rfl | rfl | rfl | rfl | rfl
  · exact ⟨_, rfl, _, rfl⟩
  · exact ⟨_, rfl, rfl⟩
  · exact ⟨_, rfl, rfl⟩
  · exact ⟨_, rfl, _, rfl⟩
  · exact ⟨_, rfl, rfl⟩
  · exact ⟨_, rfl, _, rfl⟩

end Mine
end
section
open PySem PySem.W PySem.Calls PySem.Spec PyProof.Rows
namespace Mine
set_option maxRecDepth 100000
variable {prog : Program} {w : World} {mean : ExcName → Option Value} {mg mb : Str → Option Value}
set_option maxHeartbeats 8000000 in
theorem pure_attr (text crlf eol : Str) (eb : Array UInt8) (t1 t2 t3 : Tok) : PureF prog w mean mg mb 3 224 [.str text t1, .str crlf t2, .str eol t3] (fun _ => ((text != Str.ofString "") = true → text ∈ sixWords) ∧ ((crlf != Str.ofString "") = true → crlf ∈ sixWords) ∧ ((eol != Str.ofString "") = true → EolOk eol eb)) (fun new v => ∃ d o kvs, v = .ref d ∧ new = [(d, o)] ∧ o.IsDictOf (bytesKind prog w) kvs ∧ (d == sysModules) = false ∧ AVal (wordA text) ((valueAt kvs kText).getD .none) ∧ AVal (wordA crlf) ((valueAt kvs kCrlf).getD .none) ∧ EVal eol eb ((valueAt kvs kEol).getD .none)) := by
  intro gd fr base g gn dr tk os Q E B X T hpre hret
  obtain ⟨h1, h2, h3⟩ := hpre
  walk_at "J begin"
  walk_at "J steps"
  all_goals (with_reducible rename News g _ _ _ => N₂)
  all_goals (have H := new_one N₂)
  all_goals refine hret _ _ _ _ (Fr.keep (by k_asm)) H ⟨_, _, _, rfl, rfl, (by first | assumption | exact bk_nil (by assumption)), by assumption, ?_, ?_, ?_⟩
  all_goals simp only [valueAt, stored]
  all_goals first
    | exact aval_nil (by assumption)
    | exact .inl ⟨by assumption, rfl⟩
    | exact .inr ⟨by assumption, _, rfl⟩
    | (show AVal _ _; simp; assumption)

end Mine
end
section
open PySem PySem.W PySem.Calls PySem.Spec PyProof.Rows
namespace Mine
set_option maxRecDepth 100000
def SegEnd (P : Prop) : Prop := P
section
variable {prog : Program} {w : World} {A : Around} {E : Value → Shared → Prop} {s : Shared} {h₀ : Heap} {L d : Addr} {news : List (Addr × Obj)} {o : Obj} {kvs : List (List UInt8 × Value)} {k : List UInt8} {v : Value} {t : Tok}
theorem bget_method {pl : Sem Bool} {Q : Value × List Value → Shared → Prop} (N : News h₀ L s.heap news) (hp : (d, o) ∈ news) (hd : o.IsDictOf (bytesKind prog w) kvs) (h : Q (.builtin "dict.get", [.ref d]) s) : wpAny (model prog w) A (getMethod (.ref d) "get" pl) Q E s :=
  kdg_method N hp hd h
theorem bget {Q : Value → Shared → Prop} (N : News h₀ L s.heap news) (hp : (d, o) ∈ news) (hd : o.IsDictOf (bytesKind prog w) kvs) (lo : (d == sysModules) = false) (hv : (valueAt kvs k).getD .none = v) (h : Q v { s with toks := s.toks + 1 }) :
    wpAny (model prog w) A (call (.builtin "dict.get") [.ref d, .bytes k.toArray t]) Q E s :=
  kdg_get1 N hp hd lo (bytesKind_is _ _ _ _) _ rfl (by rw [hv]; exact h)
end
abbrev sUndef : Str := Str.ofString "undefined"
abbrev sBin : Str := Str.ofString "binary"
abbrev sText : Str := Str.ofString "text"
abbrev sTextIn : Str := Str.ofString "text-input"
abbrev sTextCr : Str := Str.ofString "text-crlf"
abbrev sAuto : Str := Str.ofString "auto"
abbrev sAutoIn : Str := Str.ofString "auto-input"
abbrev sAutoCr : Str := Str.ofString "auto-crlf"
def act2 (a1 a2 : AV) : Str := if (actA a1 == sUndef) = true then actA a2 else actA a1
/-- the attribute eol: none or bytes -/
def eVal : Option (Array UInt8) → Value → Prop
  | none, v => v = .none
  | some b, v => ∃ t, v = .bytes b t
def act3 (x : Str) (e : Option (Array UInt8)) : Str :=
  if (x != sBin) = false then x else if (x == sAuto) = true ∧ e = some #[108, 102] then sAutoIn else if (x == sAuto) = true ∧ e = some #[99, 114, 108, 102] then sAutoCr
  else if e = some #[108, 102] then sTextIn else if e = some #[99, 114, 108, 102] then sTextCr else x
def act4 (x : Str) (c : Bool) : Str := if x ∈ [sText, sAuto] then (if (x == sText) = true then (if c then sTextCr else sTextIn) else (if c then sAutoCr else sAutoIn)) else x
def act5 (x : Str) (auto : Array UInt8) : Str := if (x == sUndef) = true then (if auto = #[116, 114, 117, 101] then sAutoCr else if auto = #[105, 110, 112, 117, 116] then sAutoIn else sBin) else x
end Mine
namespace Mine
theorem news_head {h₀ h : Heap} {L : Addr} {a : Addr × Obj} {r : List (Addr × Obj)} (N : News h₀ L h (a :: r)) : News h₀ L h [a] := fun p hp => by
  rw [List.mem_singleton.mp hp]; exact N a (.head _)
theorem item0 {prog : Program} {w : World} {A : Around} {E : Value → Shared → Prop} {s : Shared} {value slice : PySem.Expr} {l : Addr} {x : Value} {ws : List Value} {u : Tok} {Q : Value → Shared → Prop} (hl : s.heap.IsList l (x :: ws).toArray) (hn : ws.length ≤ 1000) (h : Q x s)
    (hs : subscripted slice false (.ref l) (.int 0 u) = operate [.ref l, .int 0 u] (getItem (.ref l) (.int 0 u)) := by with_unfolding_all rfl) (hg : ∀ r, letTemporaryGo value (.ref l) r = pure () := by intro _; with_unfolding_all rfl) :
    wpAny (model prog w) A (subscriptTail value slice (.ref l) (.int 0 u)) Q E s :=
  item_listL hl (by omega) (by omega) rfl h hs hg
def four : List Str := [Str.ofString "auto", Str.ofString "set", Str.ofString "unset", Str.ofString "input"]
def word1 (text crlf : Str) : Str := if text ∈ four then text else if crlf ∈ four then crlf else Str.ofString ""
def pinned (eol : Str) : Bool := decide (eol ∈ [Str.ofString "crlf", Str.ofString "lf"])
def ruleF (w1 : Str) (eol core : Str) (auto : Array UInt8) : Option (Bool × Bool) :=
  if (w1 == Str.ofString "unset") = true then none
  else if (w1 == Str.ofString "") = true ∧ pinned eol = false then (if auto ∈ [#[116, 114, 117, 101], #[105, 110, 112, 117, 116]] then some (true, decide (auto = #[116, 114, 117, 101])) else none)
  else if pinned eol = true then some (w1 == Str.ofString "auto", eol == Str.ofString "crlf")
  else if (w1 == Str.ofString "input") = true then some (false, false)
  else some (w1 == Str.ofString "auto", decide (auto = #[116, 114, 117, 101]) || (decide (auto ≠ #[105, 110, 112, 117, 116]) && (core == Str.ofString "crlf")))
end Mine
namespace Mine
section
variable {prog : Program} {w : World} {A : Around} {E : Value → Shared → Prop} {s : Shared} {h₀ : Heap} {L l : Addr} {news : List (Addr × Obj)} {value slice : PySem.Expr} {x y : Value} {u : Tok} {n : Nat} {Q : Value → Shared → Prop}
theorem tup0 (N : News h₀ L s.heap news) (hm : (l, ({ cls := .type "tuple", data := .seq #[x, y] n } : Obj)) ∈ news) (h : Q x s)
    (hs : subscripted slice false (.ref l) (.int 0 u) = operate [.ref l, .int 0 u] (getItem (.ref l) (.int 0 u)) := by with_unfolding_all rfl) (hg : ∀ r, letTemporaryGo value (.ref l) r = pure () := by intro _; with_unfolding_all rfl) :
    wpAny (model prog w) A (subscriptTail value slice (.ref l) (.int 0 u)) Q E s :=
  item_tupleL (l := [x, y]) (j := 0) ⟨_, (N _ hm).1, rfl, _, rfl⟩ (by decide) (by decide) rfl rfl h hs hg
theorem tup1 (N : News h₀ L s.heap news) (hm : (l, ({ cls := .type "tuple", data := .seq #[x, y] n } : Obj)) ∈ news) (h : Q y s)
    (hs : subscripted slice false (.ref l) (.int 1 u) = operate [.ref l, .int 1 u] (getItem (.ref l) (.int 1 u)) := by with_unfolding_all rfl) (hg : ∀ r, letTemporaryGo value (.ref l) r = pure () := by intro _; with_unfolding_all rfl) :
    wpAny (model prog w) A (subscriptTail value slice (.ref l) (.int 1 u)) Q E s :=
  item_tupleL (l := [x, y]) (j := 1) ⟨_, (N _ hm).1, rfl, _, rfl⟩ (by decide) (by decide) rfl rfl h hs hg
end
end Mine
end
section
open PySem PySem.W PySem.Calls PySem.Spec PyProof.Rows
namespace Mine
set_option maxRecDepth 100000
variable {prog : Program} {w : World} {mean : ExcName → Option Value} {mg mb : Str → Option Value}
def MidR (g : Heap) (L : Addr) (led : List (Addr × Obj)) (d : Addr) (core : Str) (auto : Array UInt8) (t1 t2 : Tok) (gn : Array GenState) (dr : Drawn) (os : OsState) (x : Str) (s' : Shared) : Prop :=
  ∃ h' tk' m' t, s' = ⟨h', gn, dr, tk', os⟩ ∧ Fr g L h' m' ∧ News g L h' led ∧ m' (Str.ofString "action") = some (.str x t) ∧ m' (Str.ofString "attributes") = some (.ref d) ∧ m' (Str.ofString "core_eol") = some (.str core t1) ∧ m' (Str.ofString "autocrlf") = some (.bytes auto t2)
theorem MidR.intro {g h' : Heap} {L : Addr} {led : List (Addr × Obj)} {d : Addr} {core : Str} {auto : Array UInt8} {t1 t2 : Tok} {gn : Array GenState} {dr : Drawn} {os : OsState} {x y : Str} {m' : Str → Option Value} {t tk' : Tok} (F : Fr g L h' m') (N : News g L h' led) (h1 : m' (Str.ofString "action") = some (.str y t))
    (h2 : m' (Str.ofString "attributes") = some (.ref d)) (h3 : m' (Str.ofString "core_eol") = some (.str core t1)) (h4 : m' (Str.ofString "autocrlf") = some (.bytes auto t2)) (hx : y = x) : MidR g L led d core auto t1 t2 gn dr os x ⟨h', gn, dr, tk', os⟩ :=
  ⟨h', tk', m', t, rfl, F, N, hx ▸ h1, h2, h3, h4⟩
set_option maxHeartbeats 8000000 in
theorem L_resolve (d : Addr) (o : Obj) (kvs : List (List UInt8 × Value)) (v1 v2 v3 : Value) (a1 a2 : AV) (e : Option (Array UInt8)) (core : Str) (auto : Array UInt8) (t1 t2 : Tok) : PureL prog w mean mg mb 3 65 [.ref d, .str core t1, .bytes auto t2] [(d, o)]
    (o.IsDictOf (bytesKind prog w) kvs ∧ (d == sysModules) = false ∧ (valueAt kvs kText).getD .none = v1 ∧ AVal a1 v1 ∧ (valueAt kvs kCrlf).getD .none = v2 ∧ AVal a2 v2 ∧ (valueAt kvs kEol).getD .none = v3 ∧ eVal e v3)
    (fun new v => new = [] ∧ ∃ t, v = .str (act5 (act4 (act3 (act2 a1 a2) e) (textEol core auto)) auto) t) := by
  intro gd fr base g h gn dr tk os Q E B X T S hpre hret; have XH := X.keeps S.stays
  obtain ⟨hd, lo, hv1, hA1, hv2, hA2, hv3, hE⟩ := hpre
  refine wpAny_call ?_
  k_dflt walk_at "J enterL"
  intro L h₁ hL F N
  dsimp only
  walk_at "J toIf"
  refine wpAny_mono (Q := fun fl s' => SegEnd (fl = .next ∧ MidR g L [(d, o)] d core auto t1 t2 gn dr os (act2 a1 a2) s')) ?_ ?_ (fun _ _ e => e)
  · walk_at "J steps"
    all_goals (rename Fr _ _ _ _ => F₁)
    all_goals (rename News _ _ _ _ => N₁)
    all_goals exact ⟨rfl, MidR.intro F₁ N₁ rfl rfl rfl rfl (by simp_all [act2])⟩
  rintro fl s' ⟨rfl, h', tk', m', t, rfl, F', N', q1, q2, q3, q4⟩
  have F := know1 (Str.ofString "autocrlf") (know1 (Str.ofString "core_eol") (know1 (Str.ofString "attributes") (know1 (Str.ofString "action") F' q1) q2) q3) q4
  clear F'
  dsimp only
  generalize act2 a1 a2 = x2 at *
  walk_at "J toIf"
  refine wpAny_mono (Q := fun fl s' => SegEnd (fl = .next ∧ MidR g L [(d, o)] d core auto t1 t2 gn dr os (act3 x2 e) s')) ?_ ?_ (fun _ _ e => e)
  · cases e with
    | none =>
      simp only [eVal] at hE
      subst hE
      walk_at "J steps"
      all_goals (rename Fr _ _ _ _ => F₁)
      all_goals (rename News _ _ _ _ => N₁)
      all_goals exact ⟨rfl, MidR.intro F₁ N₁ rfl rfl rfl rfl (by first | rfl | simp_all [act3])⟩
    | some b =>
      simp only [eVal] at hE
      obtain ⟨t3, hE⟩ := hE
      subst hE
      walk_at "J steps"
      all_goals (rename Fr _ _ _ _ => F₁)
      all_goals (rename News _ _ _ _ => N₁)
      all_goals exact ⟨rfl, MidR.intro F₁ N₁ rfl rfl rfl rfl (by first | rfl | simp_all [act3])⟩
  rintro fl s' ⟨rfl, h', tk', m', t, rfl, F', N', q1, q2, q3, q4⟩
  have F := know1 (Str.ofString "autocrlf") (know1 (Str.ofString "core_eol") (know1 (Str.ofString "attributes") (know1 (Str.ofString "action") F' q1) q2) q3) q4
  clear F'
  dsimp only
  generalize act3 x2 e = x3 at *
  walk_at "J toIf"
  refine wpAny_mono (Q := fun fl s' => SegEnd (fl = .next ∧ MidR g L [(d, o)] d core auto t1 t2 gn dr os (act4 x3 (textEol core auto)) s')) ?_ ?_ (fun _ _ e => e)
  · walk_at "J steps"
    all_goals (rename Fr _ _ _ _ => F₁)
    all_goals (rename News _ _ _ _ => N₁)
    all_goals exact ⟨rfl, MidR.intro F₁ (news_tl N₁) rfl rfl rfl rfl (by first | rfl | simp_all [act4])⟩
  rintro fl s' ⟨rfl, h', tk', m', t, rfl, F', N', q1, q2, q3, q4⟩
  have F := know1 (Str.ofString "autocrlf") (know1 (Str.ofString "core_eol") (know1 (Str.ofString "attributes") (know1 (Str.ofString "action") F' q1) q2) q3) q4
  clear F'
  dsimp only
  generalize act4 x3 (textEol core auto) = x4 at *
  walk_at "J toIf"
  refine wpAny_mono (Q := fun fl s' => SegEnd (fl = .next ∧ MidR g L [(d, o)] d core auto t1 t2 gn dr os (act5 x4 auto) s')) ?_ ?_ (fun _ _ e => e)
  · walk_at "J steps"
    all_goals (rename Fr _ _ _ _ => F₁)
    all_goals (rename News _ _ _ _ => N₁)
    all_goals exact ⟨rfl, MidR.intro F₁ N₁ rfl rfl rfl rfl (by first | rfl | simp_all [act5])⟩
  rintro fl s' ⟨rfl, h', tk', m', t, rfl, F', N', q1, q2, q3, q4⟩
  have F := know1 (Str.ofString "autocrlf") (know1 (Str.ofString "core_eol") (know1 (Str.ofString "attributes") (know1 (Str.ofString "action") F' q1) q2) q3) q4
  clear F'
  dsimp only
  walk_at "J steps"
  exact hret _ [] _ _ (back_of S (by k_asm) (by k_asm)) (fun _ h => nomatch h) ⟨rfl, _, rfl⟩

end Mine
end
section
open PySem PySem.W PySem.Calls PySem.Spec PyProof.Rows
namespace Mine
set_option maxRecDepth 100000
variable {prog : Program} {w : World} {mean : ExcName → Option Value} {mg mb : Str → Option Value}
def MidU (g : Heap) (L : Addr) (eol core : Str) (auto : Array UInt8) (t3 t4 t5 : Tok) (gn : Array GenState) (dr : Drawn) (os : OsState) (w1 : Str) (s' : Shared) : Prop :=
  ∃ h' tk' m' ds ws t n, s' = ⟨h', gn, dr, tk', os⟩ ∧ Fr g L h' m' ∧ News g L h' [(ds, W.listOf (.str w1 t :: ws).toArray n)] ∧ ws.length ≤ 1000 ∧ m' (Str.ofString "said") = some (.ref ds) ∧ m' (Str.ofString "eol") = some (.str eol t3) ∧ m' (Str.ofString "core") = some (.str core t4) ∧ m' (Str.ofString "auto") = some (.bytes auto t5)
theorem MidU.intro {g h' : Heap} {L : Addr} {eol core : Str} {auto : Array UInt8} {t3 t4 t5 : Tok} {gn : Array GenState} {dr : Drawn} {os : OsState} {w1 w2 : Str} {m' : Str → Option Value} {ds : Addr} {ws : List Value} {t n tk' : Nat} {r : List (Addr × Obj)} (F : Fr g L h' m') (N : News g L h' ((ds, W.listOf (.str w2 t :: ws).toArray n) :: r))
    (hw : ws.length ≤ 1000) (h1 : m' (Str.ofString "said") = some (.ref ds)) (h2 : m' (Str.ofString "eol") = some (.str eol t3)) (h3 : m' (Str.ofString "core") = some (.str core t4)) (h4 : m' (Str.ofString "auto") = some (.bytes auto t5)) (hx : w2 = w1) : MidU g L eol core auto t3 t4 t5 gn dr os w1 ⟨h', gn, dr, tk', os⟩ :=
  ⟨h', tk', m', ds, ws, t, n, rfl, F, hx ▸ news_head N, hw, h1, h2, h3, h4⟩
set_option maxHeartbeats 8000000 in
theorem pure_rule (text crlf eol core : Str) (auto : Array UInt8) (t1 t2 t3 t4 t5 : Tok) : PureF prog w mean mg mb 3 229 [.str text t1, .str crlf t2, .str eol t3, .str core t4, .bytes auto t5] (fun _ => True) (fun new v => (ruleF (word1 text crlf) eol core auto = none ∧ new = [] ∧ v = .none) ∨ (∃ d b1 b2, ruleF (word1 text crlf) eol core auto = some (b1, b2) ∧ v = .ref d ∧ new = [(d, { cls := .type "tuple", data := .seq #[.bool b1, .bool b2] })])) := by
  intro gd fr base g gn dr tk os Q E B X T hpre hret
  refine wpAny_call ?_
  k_dflt walk_at "J enter"
  intro L h₁ hL F N
  dsimp only
  walk_at "J toAssign"
  refine wpAny_mono (Q := fun fl s' => SegEnd (fl = .next ∧ MidU g L eol core auto t3 t4 t5 gn dr os (word1 text crlf) s')) ?_ ?_ (fun _ _ e => e)
  · walk_at "J stepsC"
    all_goals (with_reducible rename Fr g _ _ _ => F₁)
    all_goals (with_reducible rename News g _ _ _ => N₁)
    all_goals exact ⟨by first | rfl | trivial, MidU.intro F₁ N₁ (Nat.le_of_ble_eq_true rfl) rfl rfl rfl rfl (by simp_all [word1, four])⟩
  rintro fl s' ⟨rfl, h', tk', m', ds, ws, t, n, rfl, F', N', hws, q1, q2, q3, q4⟩
  have F := know1 (Str.ofString "auto") (know1 (Str.ofString "core") (know1 (Str.ofString "eol") (know1 (Str.ofString "said") F' q1) q2) q3) q4
  clear F'
  dsimp only
  generalize word1 text crlf = w1 at *
  walk_at "J steps"
  all_goals first
    | exact hret _ [] _ _ (Fr.keep (by k_asm)) (fun _ h => nomatch h) (.inl ⟨by simp_all [ruleF, pinned], rfl, rfl⟩)
    | ((with_reducible rename News g _ _ _ => N₂)
       have H := new_one N₂
       refine hret _ _ _ _ (Fr.keep (by k_asm)) H (.inr ⟨_, _, _, ?_, rfl, rfl⟩)
       simp_all [ruleF, pinned])

end Mine
end
section
open PySem PySem.W PySem.Calls PySem.Spec PyProof.Rows
namespace Mine
set_option maxRecDepth 100000
variable {prog : Program} {w : World} {mean : ExcName → Option Value} {mg mb : Str → Option Value}
def namedF : Option (Bool × Bool) → Str
  | none => sBin
  | some (b1, b2) => if b1 then (if b2 then sAutoCr else sAutoIn) else (if b2 then sTextCr else sTextIn)
set_option maxHeartbeats 8000000 in
theorem pure_named : PureF prog w mean mg mb 3 236 [.none] (fun _ => True) (fun new v => new = [] ∧ ∃ t, v = .str (namedF none) t) := by
  intro gd fr base g gn dr tk os Q E B X T hpre hret
  walk_at "J begin"
  walk_at "J steps"
  all_goals exact hret _ [] _ _ (Fr.keep (by k_asm)) (fun _ h => nomatch h) ⟨rfl, _, rfl⟩
set_option maxHeartbeats 8000000 in
theorem L_named (d : Addr) (b1 b2 : Bool) : PureL prog w mean mg mb 3 236 [.ref d] [(d, { cls := .type "tuple", data := .seq #[.bool b1, .bool b2] })] True (fun new v => new = [] ∧ ∃ t, v = .str (namedF (some (b1, b2))) t) := by
  intro gd fr base g h gn dr tk os Q E B X T S hpre hret; have XH := X.keeps S.stays
  walk_at "J beginL"
  walk_at "J steps"
  all_goals exact hret _ [] _ _ (back_of S (by k_asm) (by k_asm)) (fun _ h => nomatch h) ⟨rfl, _, by subst_vars; rfl⟩

end Mine
end
section
open PySem PySem.W PySem.Calls PySem.Spec PyProof.Rows
namespace Mine
set_option maxRecDepth 100000
def eolO (eol : Str) : Option (Array UInt8) := if (eol == Str.ofString "crlf") = true then some #[99, 114, 108, 102] else if (eol == Str.ofString "lf") = true then some #[108, 102] else if (eol == Str.ofString "LF") = true then some #[76, 70] else none
abbrev words7 : List Str := [Str.ofString "auto", Str.ofString "set", Str.ofString "", Str.ofString "unset", Str.ofString "input", Str.ofString "none", Str.ofString "other"]
abbrev ends4 : List Str := [Str.ofString "", Str.ofString "crlf", Str.ofString "lf", Str.ofString "LF"]
abbrev autos3 : List (Array UInt8) := [#[102, 97, 108, 115, 101], #[116, 114, 117, 101], #[105, 110, 112, 117, 116]]
abbrev cores3 : List Str := [Str.ofString "native", Str.ofString "crlf", Str.ofString "lf"]
def lawOK (text crlf eol core : Str) (auto : Array UInt8) : Bool :=
  act5 (act4 (act3 (act2 (wordA text) (wordA crlf)) (eolO eol)) (textEol core auto)) auto == namedF (ruleF (word1 text crlf) eol core auto)
theorem lawOK_all : ∀ text ∈ words7, ∀ crlf ∈ words7, ∀ eol ∈ ends4, ∀ core ∈ cores3, ∀ auto ∈ autos3, lawOK text crlf eol core auto = true := by decide +kernel
end Mine
end
section
open PySem PySem.W PySem.Calls PySem.Spec PyProof.Rows Builtin
namespace Mine
set_option maxRecDepth 100000
def flatB (bs : List (Array UInt8)) : List UInt8 := (bs.map Array.toList).flatten
theorem flatB_nil : flatB [] = [] := rfl
theorem flatB_cons (b : Array UInt8) (r : List (Array UInt8)) : flatB (b :: r) = b.toList ++ flatB r := by simp [flatB]
theorem flatB_append (a b : List (Array UInt8)) : flatB (a ++ b) = flatB a ++ flatB b := by simp [flatB]
theorem flatB_length (bs : List (Array UInt8)) : (flatB bs).length = sumS bs := by
  induction bs with
  | nil => rfl
  | cons b r ih => rw [flatB_cons, List.length_append, ih, sumS_cons]; simp
theorem joined_flat (bs : List (Array UInt8)) : (Bytes.joined #[] bs).toList = flatB bs := by
  rw [joined_glue]
  have : ∀ ps : List (List UInt8), glue [] ps = ps.flatten := by
    intro ps
    induction ps with
    | nil => rfl
    | cons p r ih =>
      cases r with
      | nil => simp [glue]
      | cons q t => rw [glue, List.nil_append, ih]; simp
  exact this _
def lessP : List (Array UInt8) → List (Array UInt8)
  | [] => []
  | b :: r => if b = #[13] ∧ r.head? = some #[10] then lessP r else b :: lessP r
theorem cutL_next (bs : List (Array UInt8)) (k : Nat) (hk : k < bs.length) : cutL bs (some ((k : Int) + 1)) (some ((k : Int) + 2)) = (bs.drop (k + 1)).take 1 := by
  unfold cutL
  have h1 : clipAt bs.length ((k : Int) + 1) = min (k + 1) bs.length := by unfold clipAt; split <;> omega
  have h2 : clipAt bs.length ((k : Int) + 2) = min (k + 2) bs.length := by unfold clipAt; split <;> omega
  simp only [Option.elim, h1, h2]
  rw [show min (k + 1) bs.length = k + 1 by omega]
  by_cases h : k + 2 ≤ bs.length
  · rw [show min (k + 2) bs.length - (k + 1) = 1 by omega]
  · have e : bs.drop (k + 1) = [] := List.drop_eq_nil_of_le (by omega)
    rw [e]; simp
theorem lessU_P (bs : List (Array UInt8)) : ∀ k, k ≤ bs.length → lessU bs k ++ lessP (bs.drop k) = lessP bs
  | 0, _ => by simp [lessU]
  | k + 1, h => by
    rw [← lessU_P bs k (by omega)]
    have hk : k < bs.length := by omega
    have e1 : bs.drop k = bs[k] :: bs.drop (k + 1) := List.drop_eq_getElem_cons hk
    have e2 : bs.getD k #[] = bs[k] := by rw [List.getD_eq_getElem?_getD, List.getElem?_eq_getElem hk]; rfl
    rw [lessU, e1, lessP, e2, cutL_next bs k hk]
    have e3 : ((bs.drop (k + 1)).take 1 ≠ [#[10]]) ↔ ¬ ((bs.drop (k + 1)).head? = some #[10]) := by
      cases bs.drop (k + 1) with
      | nil => simp
      | cons a r => simp
    by_cases c1 : bs[k] = #[13]
    · by_cases c2 : (bs.drop (k + 1)).head? = some #[10]
      · rw [if_neg (by rw [e3]; simp [c1, c2]), if_pos ⟨c1, c2⟩]
      · rw [if_pos (by rw [e3]; exact .inr c2), if_neg (fun q => c2 q.2)]
        simp
    · rw [if_pos (.inl c1), if_neg (fun q => c1 q.1)]
      simp
theorem lessU_all (bs : List (Array UInt8)) : lessU bs bs.length = lessP bs := by
  have := lessU_P bs bs.length (Nat.le_refl _)
  rw [List.drop_length] at this
  simpa [lessP] using this
end Mine
end
section
open PySem PySem.W PySem.Calls PySem.Spec PyProof.Rows Builtin
namespace Mine
set_option maxRecDepth 100000
theorem less_head (c : UInt8) (r : List UInt8) : less (c :: r) = if c = 13 ∧ r.head? = some 10 then less r else c :: less r := by
  cases r with
  | nil => simp [less]
  | cons d t =>
    by_cases h : c = 13 ∧ d = 10
    · obtain ⟨rfl, rfl⟩ := h
      rw [if_pos ⟨rfl, rfl⟩, less]
      cases t with
      | nil => simp [less]
      | cons e u => rw [less_cons (by intro q; exact absurd q.1 (by decide))]
    · rw [less_cons h, if_neg (by simpa using h)]
theorem less_xs {r : List UInt8} : ∀ {l : List UInt8}, (∀ c ∈ l, c = 120) → less (l ++ r) = l ++ less r
  | [], _ => rfl
  | c :: l, h => by
    have hc : c = 120 := h c (.head _)
    rw [List.cons_append, less_head, if_neg (fun q => by rw [hc] at q; exact absurd q.1 (by decide)), less_xs fun d hd => h d (.tail _ hd)]
    rfl
theorem more_xs {r : List UInt8} : ∀ {l : List UInt8} (p : Bool), l ≠ [] → (∀ c ∈ l, c = 120) → more p (l ++ r) = l ++ more false r
  | [], _, h, _ => absurd rfl h
  | [c], p, _, h => by
    have hc : c = 120 := h c (.head _)
    subst hc
    simp [more]
  | c :: d :: l, p, _, h => by
    have hc : c = 120 := h c (.head _)
    have := more_xs (r := r) (l := d :: l) false (by simp) fun e he => h e (.tail _ he)
    subst hc
    rw [List.cons_append, more, if_neg (by decide), show ((120 : UInt8) == 13) = false from rfl, this]
    rfl
/-- one byte -/
theorem one_byte {b : Array UInt8} (h : b.size = 1) : ∃ c, b = #[c] := by
  obtain ⟨l⟩ := b
  match l, h with
  | [c], _ => exact ⟨c, rfl⟩
theorem wf_cases {b : Array UInt8} (h : WFp b) : (∃ c, b = #[c]) ∨ (b.toList ≠ [] ∧ (∀ c ∈ b.toList, c = 120) ∧ b ≠ #[10] ∧ b ≠ #[13] ∧ b ≠ #[0]) := by
  rcases h with h | ⟨h1, h2⟩
  · exact .inl (one_byte h)
  · refine .inr ⟨fun e => ?_, h2, ?_, ?_, ?_⟩
    · have := congrArg List.length e; rw [List.length_nil, Array.length_toList] at this; omega
    · intro e; subst e; exact absurd (h2 10 (by simp)) (by decide)
    · intro e; subst e; exact absurd (h2 13 (by simp)) (by decide)
    · intro e; subst e; exact absurd (h2 0 (by simp)) (by decide)
theorem head_flat {bs : List (Array UInt8)} (h : ∀ b ∈ bs, WFp b) (c : UInt8) (hc : c ≠ 120) : (flatB bs).head? = some c ↔ bs.head? = some #[c] := by
  cases bs with
  | nil => simp [flatB]
  | cons b r =>
    rw [flatB_cons]
    rcases wf_cases (h b (.head _)) with ⟨d, rfl⟩ | ⟨h1, h2, _⟩
    · simp
    · cases hb : b.toList with
      | nil => exact absurd hb h1
      | cons d t =>
        have hd : d = 120 := h2 d (by rw [hb]; exact .head _)
        simp only [List.cons_append, List.head?_cons, Option.some.injEq]
        constructor
        · intro e; exact absurd (e ▸ hd) hc
        · intro e; subst e; simp at hb; exact hb.1.symm
theorem less_flat : ∀ {bs : List (Array UInt8)}, (∀ b ∈ bs, WFp b) → less (flatB bs) = flatB (lessP bs)
  | [], _ => by simp [flatB, lessP, less]
  | b :: r, h => by
    have ih := less_flat (bs := r) fun c hc => h c (.tail _ hc)
    have hh := head_flat (bs := r) (fun c hc => h c (.tail _ hc)) 10 (by decide)
    rw [flatB_cons, lessP]
    rcases wf_cases (h b (.head _)) with ⟨d, rfl⟩ | ⟨h1, h2, h3, h4, _⟩
    · rw [show (#[d] : Array UInt8).toList ++ flatB r = d :: flatB r from rfl, less_head]
      by_cases hd : d = 13 ∧ r.head? = some #[10]
      · rw [if_pos ⟨hd.1, hh.mpr hd.2⟩, if_pos ⟨by rw [hd.1], hd.2⟩, ih]
      · rw [if_neg (fun q => hd ⟨q.1, hh.mp q.2⟩), if_neg (fun q => hd ⟨by simpa using q.1, q.2⟩), flatB_cons, ih]
        rfl
    · rw [less_xs h2, if_neg (fun q => h4 q.1), flatB_cons, ih]
theorem more_flat : ∀ {bs : List (Array UInt8)} (p : Bool), (∀ b ∈ bs, WFp b) → more p (flatB bs) = flatB (moreP p bs)
  | [], p, _ => by simp [flatB, moreP, more]
  | b :: r, p, h => by
    have ih := fun p => more_flat (bs := r) p fun c hc => h c (.tail _ hc)
    rw [flatB_cons, moreP]
    rcases wf_cases (h b (.head _)) with ⟨d, rfl⟩ | ⟨h1, h2, h3, h4, _⟩
    · rw [show (#[d] : Array UInt8).toList ++ flatB r = d :: flatB r from rfl, more]
      by_cases hd : d = 10
      · subst hd
        cases p with
        | true => simp [flatB_cons, ih]
        | false => simp [flatB_cons, ih]
      · rw [if_neg hd, if_neg (fun q => hd (by simpa using q.1)), flatB_cons, ih]
        have : (d == 13) = decide ((#[d] : Array UInt8) = #[13]) := by
          by_cases h13 : d = 13
          · subst h13; rfl
          · rw [beq_false_of_ne h13, decide_eq_false (by simpa using h13)]
        rw [this]; rfl
    · rw [more_xs p h1 h2, if_neg (fun q => h3 q.1), flatB_cons, decide_eq_false h4, ih]
end Mine
end
section
open PySem PySem.W PySem.Calls PySem.Spec PyProof.Rows Builtin
namespace Mine
set_option maxRecDepth 100000
/-- is there a zero byte in the first n -/
theorem bin_flat : ∀ {bs : List (Array UInt8)} (a : Nat), (∀ b ∈ bs, WFp b) → binP a bs = ((flatB bs).take (8000 - a)).contains 0
  | [], a, _ => by simp [binP, flatB]
  | b :: r, a, h => by
    have ih := fun a => bin_flat (bs := r) a fun c hc => h c (.tail _ hc)
    rw [flatB_cons, binP]
    rcases wf_cases (h b (.head _)) with ⟨d, rfl⟩ | ⟨h1, h2, h3, h4, h5⟩
    · rw [show (#[d] : Array UInt8).toList ++ flatB r = d :: flatB r from rfl]
      by_cases ha : a < 8000
      · obtain ⟨n, hn⟩ : ∃ n, 8000 - a = n + 1 := ⟨7999 - a, by omega⟩
        rw [hn, List.take_succ_cons, List.contains_cons]
        by_cases hd : d = 0
        · subst hd
          rw [if_pos rfl]; simp [ha]
        · rw [if_neg (by simpa using hd), ih, show ((0 : UInt8) == d) = false from beq_false_of_ne (Ne.symm hd), Bool.false_or, show 8000 - (a + (#[d] : Array UInt8).size) = n from by simp; omega]
      · rw [show 8000 - a = 0 by omega, List.take_zero]
        by_cases hd : d = 0
        · subst hd; rw [if_pos rfl]; simp; omega
        · rw [if_neg (by simpa using hd), ih, show 8000 - (a + (#[d] : Array UInt8).size) = 0 from by omega, List.take_zero]
    · rw [if_neg h5, ih, List.take_append]
      have e : b.toList.length = b.size := by simp
      rw [e, show 8000 - (a + b.size) = 8000 - a - b.size by omega]
      have hz : (b.toList.take (8000 - a)).contains 0 = false := by
        rw [Bool.eq_false_iff]
        intro q
        rw [List.contains_iff_mem] at q
        exact absurd (h2 0 (List.mem_of_mem_take q)) (by decide)
      rw [List.contains_append, hz, Bool.false_or]
theorem binB_flat {bs : List (Array UInt8)} {b : Array UInt8} (h : ∀ b ∈ bs, WFp b) (e : b.toList = flatB bs) : binB b = binP 0 bs := by
  rw [bin_flat 0 h, binB, e]
end Mine
end
section
open PySem PySem.W PySem.Calls PySem.Spec PyProof.Rows Builtin
namespace Mine
set_option maxRecDepth 100000
/-- lone line ends, pairs, triples of a row of bytes; `c1`, `c2`: are the two bytes ahead CR -/
def cntL : Bool → Bool → List UInt8 → Nat × Nat × Nat
  | _, _, [] => (0, 0, 0)
  | c1, c2, c :: r =>
    if c = 10 then
      (if c1 then ((cntL false c1 r).1, (cntL false c1 r).2.1 + 1, (cntL false c1 r).2.2 + (if c2 then 1 else 0)) else ((cntL false c1 r).1 + 1, (cntL false c1 r).2.1, (cntL false c1 r).2.2))
    else cntL (c == 13) c1 r
/-- the same of parts -/
def cntR : Bool → Bool → List (Array UInt8) → Nat × Nat × Nat
  | _, _, [] => (0, 0, 0)
  | c1, c2, b :: r =>
    if b = #[10] then
      (if c1 then ((cntR false c1 r).1, (cntR false c1 r).2.1 + 1, (cntR false c1 r).2.2 + (if c2 then 1 else 0)) else ((cntR false c1 r).1 + 1, (cntR false c1 r).2.1, (cntR false c1 r).2.2))
    else cntR (decide (b = #[13])) c1 r
def addT (a b : Nat × Nat × Nat) : Nat × Nat × Nat := (a.1 + b.1, a.2.1 + b.2.1, a.2.2 + b.2.2)
theorem cnt_R (bs : List (Array UInt8)) : ∀ k, k ≤ bs.length →
    addT (cnt bs k) (cntR (decide (0 < k ∧ bs.getD (k - 1) #[] = #[13])) (decide (1 < k ∧ bs.getD (k - 2) #[] = #[13])) (bs.drop k)) = cntR false false bs
  | 0, _ => by simp [cnt, addT]
  | k + 1, h => by
    rw [← cnt_R bs k (by omega)]
    have hk : k < bs.length := by omega
    have e1 : bs.drop k = bs[k] :: bs.drop (k + 1) := List.drop_eq_getElem_cons hk
    have e2 : bs.getD k #[] = bs[k] := by rw [List.getD_eq_getElem?_getD, List.getElem?_eq_getElem hk]; rfl
    rw [e1, cntR, cnt, e2]
    have f1 : (decide (0 < k + 1 ∧ bs.getD (k + 1 - 1) #[] = #[13])) = decide (bs[k] = #[13]) := by
      rw [Nat.add_sub_cancel, e2]; simp
    have f2 : (decide (1 < k + 1 ∧ bs.getD (k + 1 - 2) #[] = #[13])) = decide (0 < k ∧ bs.getD (k - 1) #[] = #[13]) := by
      rw [show k + 1 - 2 = k - 1 by omega]
      simp
    rw [f1, f2]
    by_cases c1 : bs[k] = #[10]
    · rw [if_pos c1, if_pos c1]
      have g : decide (bs[k] = #[13]) = false := by rw [c1]; decide
      rw [g]
      by_cases c2 : 0 < k ∧ bs.getD (k - 1) #[] = #[13]
      · rw [if_neg (by rintro (q | q); exact absurd c2.1 (by omega); exact q c2.2), decide_eq_true c2, if_pos rfl]
        by_cases c3 : 1 < k ∧ bs.getD (k - 2) #[] = #[13]
        · rw [if_pos c3, decide_eq_true c3]; simp [addT]; omega
        · rw [if_neg c3, decide_eq_false c3]; simp [addT]; omega
      · rw [if_pos (by
          by_cases z : k = 0
          · exact .inl z
          · exact .inr fun q => c2 ⟨by omega, q⟩), decide_eq_false c2, if_neg (by simp)]
        simp [addT]; omega
    · rw [if_neg c1, if_neg c1]
theorem cnt_all (bs : List (Array UInt8)) : cnt bs bs.length = cntR false false bs := by
  have := cnt_R bs bs.length (Nat.le_refl _)
  rw [List.drop_length] at this
  rw [← this]
  simp [addT, cntR]
theorem cntL_false : ∀ (l : List UInt8) (c : Bool), cntL false c l = cntL false false l
  | [], _ => rfl
  | c :: r, d => by simp [cntL]
theorem cntL_xs {r : List UInt8} : ∀ {l : List UInt8} (c1 c2 : Bool), l ≠ [] → (∀ c ∈ l, c = 120) → cntL c1 c2 (l ++ r) = cntL false false r
  | [], _, _, h, _ => absurd rfl h
  | [c], c1, c2, _, h => by
    have hc : c = 120 := h c (.head _)
    subst hc
    show (if (120 : UInt8) = 10 then _ else cntL ((120 : UInt8) == 13) c1 r) = _
    rw [if_neg (by decide), show ((120 : UInt8) == 13) = false from rfl, cntL_false]
  | c :: d :: l, c1, c2, _, h => by
    have hc : c = 120 := h c (.head _)
    have := cntL_xs (r := r) (l := d :: l) ((120 : UInt8) == 13) c1 (by simp) fun e he => h e (.tail _ he)
    subst hc
    rw [List.cons_append, cntL, if_neg (by decide), this]
theorem cntR_false : ∀ (l : List (Array UInt8)) (c : Bool), cntR false c l = cntR false false l
  | [], _ => rfl
  | c :: r, d => by simp [cntR]
theorem cntR_L : ∀ {bs : List (Array UInt8)} (c1 c2 : Bool), (∀ b ∈ bs, WFp b) → cntR c1 c2 bs = cntL c1 c2 (flatB bs)
  | [], _, _, _ => rfl
  | b :: r, c1, c2, h => by
    have ih := fun c1 c2 => cntR_L (bs := r) c1 c2 fun c hc => h c (.tail _ hc)
    rw [flatB_cons, cntR]
    rcases wf_cases (h b (.head _)) with ⟨d, rfl⟩ | ⟨h1, h2, h3, h4, _⟩
    · rw [show (#[d] : Array UInt8).toList ++ flatB r = d :: flatB r from rfl, cntL]
      simp only [ih]
      by_cases hd : d = 10
      · subst hd; rfl
      · rw [if_neg hd, if_neg (fun q => hd (by simpa using q))]
        have : (d == 13) = decide ((#[d] : Array UInt8) = #[13]) := by
          by_cases h13 : d = 13
          · subst h13; rfl
          · rw [beq_false_of_ne h13, decide_eq_false (by simpa using h13)]
        rw [this]
    · rw [cntL_xs _ _ h1 h2, if_neg h3, decide_eq_false h4, ih, cntL_false]

theorem hasCR_head (c : UInt8) (r : List UInt8) : hasCR (c :: r) = ((c == 13 && r.head? == some 10) || hasCR r) := by
  cases r with
  | nil => simp [hasCR]
  | cons d t =>
    by_cases h : c = 13 ∧ d = 10
    · obtain ⟨rfl, rfl⟩ := h; simp [hasCR]
    · rw [hasCR_cons h]
      by_cases h1 : c = 13
      · have h2 : d ≠ 10 := fun q => h ⟨h1, q⟩
        subst h1; simp [h2]
      · simp [h1]
theorem pairs_iff : ∀ (l : List UInt8) (c1 c2 : Bool), 0 < (cntL c1 c2 l).2.1 ↔ (c1 = true ∧ l.head? = some 10) ∨ hasCR l = true
  | [], _, _ => by simp [cntL, hasCR]
  | c :: r, c1, c2 => by
    rw [cntL, hasCR_head]
    have ih := pairs_iff r
    by_cases hc : c = 10
    · subst hc
      rw [if_pos rfl]
      cases c1
      · simp only [Bool.false_eq_true, if_false]
        rw [ih]; simp
      · simp
    · rw [if_neg hc, ih]
      simp [hc]
theorem pairs_CR (l : List UInt8) : decide (0 < (cntL false false l).2.1) = hasCR l := by
  rw [Bool.eq_iff_iff, decide_eq_true_eq, pairs_iff]; simp

theorem n1013 {P : Prop} : ¬ ((10 : UInt8) = 13 ∧ P) := fun q => absurd q.1 (by decide)
/-- the flag behind what less has given -/
def fl (c1 c2 : Bool) (l : List UInt8) : Bool := if c1 = true ∧ l.head? = some 10 then c2 else c1
theorem more_less : ∀ (l : List UInt8) (c1 c2 : Bool), (cntL c1 c2 l).2.2 = 0 → more (fl c1 c2 l) (less l) = (if c1 = true ∧ l.head? = some 10 then 13 :: more c1 l else more c1 l)
  | [], c1, c2, _ => by simp [more, less]
  | c :: r, c1, c2, h => by
    rw [cntL] at h
    rw [less_head, fl]
    by_cases hc : c = 10
    · subst hc
      rw [if_pos rfl] at h
      rw [if_neg n1013]
      cases c1
      · simp only [Bool.false_eq_true, if_false] at h
        have ih := more_less r false false (by rw [← cntL_false]; exact h)
        rw [fl] at ih
        simp at ih ⊢
        simp [more, ih]
      · simp only [if_true] at h
        cases c2
        · have ih := more_less r false true (by simpa using h)
          rw [fl] at ih
          simp at ih ⊢
          simp [more, ih]
        · simp at h
    · rw [if_neg hc] at h
      have ih := more_less r (c == 13) c1 h
      have e : ¬ (c1 = true ∧ (c :: r).head? = some 10) := by simp [hc]
      rw [if_neg e, if_neg e]
      by_cases h13 : c = 13 ∧ r.head? = some 10
      · rw [if_pos h13]
        obtain ⟨rfl, h10⟩ := h13
        rw [fl, if_pos ⟨rfl, h10⟩, if_pos ⟨rfl, h10⟩] at ih
        rw [ih, more, if_neg (by decide)]
      · rw [if_neg h13, more, if_neg hc, more, if_neg hc]
        have e2 : ¬ ((c == 13) = true ∧ r.head? = some 10) := by simpa using h13
        rw [fl, if_neg e2, if_neg e2] at ih
        rw [ih]
theorem more_less0 {l : List UInt8} (h : (cntL false false l).2.2 = 0) : more false (less l) = more false l := by
  have := more_less l false false h
  simpa [fl] using this
theorem less_noCR : ∀ (l : List UInt8) (c1 c2 : Bool), (cntL c1 c2 l).2.2 = 0 → ((fl c1 c2 l) = true ∧ (less l).head? = some 10 → False) ∧ hasCR (less l) = false
  | [], c1, c2, _ => by simp [less, hasCR]
  | c :: r, c1, c2, h => by
    rw [cntL] at h
    rw [less_head, fl]
    by_cases hc : c = 10
    · subst hc
      rw [if_pos rfl] at h
      rw [if_neg n1013]
      cases c1
      · simp only [Bool.false_eq_true, if_false] at h
        have ih := less_noCR r false false (by rw [← cntL_false]; exact h)
        rw [hasCR_head]
        simp [ih.2]
      · simp only [if_true] at h
        cases c2
        · have ih := less_noCR r false true (by simpa using h)
          rw [hasCR_head]
          simp [ih.2]
        · simp at h
    · rw [if_neg hc] at h
      have ih := less_noCR r (c == 13) c1 h
      have e : ¬ (c1 = true ∧ (c :: r).head? = some 10) := by simp [hc]
      rw [if_neg e]
      by_cases h13 : c = 13 ∧ r.head? = some 10
      · rw [if_pos h13]
        obtain ⟨rfl, h10⟩ := h13
        rw [fl, if_pos ⟨rfl, h10⟩] at ih
        exact ih
      · rw [if_neg h13]
        have e2 : ¬ ((c == 13) = true ∧ r.head? = some 10) := by simpa using h13
        rw [fl, if_neg e2] at ih
        refine ⟨by simp [hc], ?_⟩
        rw [hasCR_head, ih.2, Bool.or_false]
        have := ih.1
        by_cases h1 : c = 13
        · subst h1
          simp at this
          simp [this]
        · simp [h1]
theorem less_noCR0 {l : List UInt8} (h : (cntL false false l).2.2 = 0) : hasCR (less l) = false := (less_noCR l false false h).2
theorem more_len : ∀ (l : List UInt8) (c1 c2 : Bool), (more c1 l).length = l.length + (cntL c1 c2 l).1
  | [], _, _ => rfl
  | c :: r, c1, c2 => by
    rw [more, cntL]
    have ih := more_len r
    by_cases hc : c = 10
    · subst hc
      cases c1
      · simp [ih false false]; omega
      · simp [ih false true]; omega
    · rw [if_neg hc, if_neg hc, List.length_cons, ih _ c1, List.length_cons]; omega
theorem more_same : ∀ (l : List UInt8) (c1 c2 : Bool), (cntL c1 c2 l).1 = 0 → more c1 l = l
  | [], _, _, _ => rfl
  | c :: r, c1, c2, h => by
    rw [cntL] at h
    rw [more]
    by_cases hc : c = 10
    · subst hc
      cases c1
      · simp at h
      · simp at h ⊢
        exact more_same r false true h
    · rw [if_neg hc] at h ⊢
      rw [more_same r _ _ h]
theorem more_eq_iff (l : List UInt8) : more false l = l ↔ (cntL false false l).1 = 0 := by
  constructor
  · intro h
    have := more_len l false false
    rw [h] at this; omega
  · exact more_same l false false
theorem less_same : ∀ (l : List UInt8), hasCR l = false → less l = l
  | [], _ => rfl
  | c :: r, h => by
    rw [hasCR_head] at h
    rw [less_head]
    simp only [Bool.or_eq_false_iff] at h
    rw [if_neg (by
      rintro ⟨h1, h2⟩
      have := h.1
      rw [h1, h2] at this
      simp at this), less_same r h.2]
theorem more_hd (c1 : Bool) (l : List UInt8) : (more c1 l).head? = some 10 → c1 = true ∧ l.head? = some 10 := by
  cases l with
  | nil => simp [more]
  | cons c r =>
    rw [more]
    by_cases hc : c = 10
    · subst hc; cases c1 <;> simp
    · simp [hc]
theorem less_more : ∀ (l : List UInt8) (c1 : Bool), hasCR l = false → less (more c1 l) = l
  | [], _, _ => rfl
  | c :: r, c1, h => by
    rw [hasCR_head] at h
    simp only [Bool.or_eq_false_iff] at h
    rw [more]
    by_cases hc : c = 10
    · subst hc
      cases c1
      · simp only [if_true, Bool.false_eq_true, if_false]
        rw [less, less_more r false h.2]
      · simp only [if_true]
        rw [less_head, if_neg n1013, less_more r false h.2]
    · rw [if_neg hc, less_head, less_more r _ h.2, if_neg]
      rintro ⟨rfl, h2⟩
      have := more_hd _ _ h2
      have h1 := h.1
      rw [this.2] at h1
      simp at h1
theorem hasCR_more : ∀ (l : List UInt8) (c1 : Bool), hasCR l = true → hasCR (more c1 l) = true
  | [], _, h => by simp [hasCR] at h
  | c :: r, c1, h => by
    rw [hasCR_head] at h
    rw [more]
    by_cases hc : c = 10
    · subst hc
      have hr : hasCR r = true := by simpa using h
      have ih := hasCR_more r false hr
      cases c1 <;> simp [hasCR_head, ih]
    · rw [if_neg hc, hasCR_head]
      rcases Bool.or_eq_true_iff.mp h with h | h
      · rw [Bool.and_eq_true_iff] at h
        obtain ⟨h1, h2⟩ := h
        have h1 : c = 13 := by simpa using h1
        subst h1
        have h2 : r.head? = some 10 := by simpa using h2
        have : (more ((13 : UInt8) == 13) r).head? = some 10 := by
          cases r with
          | nil => simp at h2
          | cons d t => simp at h2; subst h2; simp [more]
        rw [this]; rfl
      · rw [hasCR_more r _ h]; simp
theorem more_take (z : UInt8) (hz : z ≠ 13) : ∀ (l : List UInt8) (c1 : Bool) (n : Nat), z ∈ (more c1 l).take n → z ∈ l.take n
  | [], _, _, h => by simp [more] at h
  | c :: r, c1, 0, h => by simp at h
  | c :: r, c1, n + 1, h => by
    rw [more] at h
    rw [List.take_succ_cons]
    by_cases hc : c = 10
    · subst hc
      rw [if_pos rfl] at h
      cases c1
      · simp only [Bool.false_eq_true, if_false] at h
        rw [List.take_succ_cons] at h
        rcases List.mem_cons.mp h with q | h
        · exact absurd q hz
        · cases n with
          | zero => simp at h
          | succ n =>
            rw [List.take_succ_cons] at h
            rcases List.mem_cons.mp h with q | h
            · rw [q]; exact .head _
            · have := more_take z hz r false n h
              refine .tail _ ?_
              exact List.mem_of_mem_take (i := n) (by rw [List.take_take, Nat.min_eq_left (Nat.le_succ n)]; exact this)
      · simp only [if_true] at h
        rw [List.take_succ_cons] at h
        rcases List.mem_cons.mp h with q | h
        · rw [q]; exact .head _
        · exact .tail _ (more_take z hz r false n h)
    · rw [if_neg hc, List.take_succ_cons] at h
      rcases List.mem_cons.mp h with q | h
      · rw [q]; exact .head _
      · exact .tail _ (more_take z hz r _ n h)
theorem less_mem : ∀ (l : List UInt8) {z : UInt8}, z ∈ less l → z ∈ l
  | [], _, h => by simp [less] at h
  | c :: r, z, h => by
    rw [less_head] at h
    split at h
    · exact .tail _ (less_mem r h)
    · rcases List.mem_cons.mp h with q | h
      · rw [q]; exact .head _
      · exact .tail _ (less_mem r h)
def b2n (b : Bool) : Nat := if b then 1 else 0
theorem count_less : ∀ (l : List UInt8) (c1 c2 : Bool), (less l).count 13 + (cntL c1 c2 l).2.1 = l.count 13 + b2n (c1 && l.head? == some 10)
  | [], c1, _ => by simp [less, cntL, b2n]
  | c :: r, c1, c2 => by
    rw [less_head, cntL]
    by_cases hc : c = 10
    · subst hc
      rw [if_neg n1013]
      have ih := count_less r false c1
      cases c1
      · simp [b2n] at ih ⊢; omega
      · simp [b2n] at ih ⊢; omega
    · rw [if_neg hc]
      have ih := count_less r (c == 13) c1
      by_cases h1 : c = 13
      · subst h1
        by_cases h2 : r.head? = some 10
        · rw [if_pos ⟨rfl, h2⟩]
          simp [b2n, h2] at ih ⊢; omega
        · rw [if_neg (fun q => h2 q.2)]
          simp [b2n, h2] at ih ⊢; omega
      · rw [if_neg (fun q => h1 q.1)]
        simp [b2n, h1, hc] at ih ⊢; omega
theorem trip_le : ∀ (l : List UInt8) (c1 c2 : Bool), (cntL c1 c2 l).2.2 ≤ b2n (c1 && c2 && l.head? == some 10) + b2n (c1 && l.head? != some 10) + (less l).count 13
  | [], _, _ => by simp [cntL]
  | c :: r, c1, c2 => by
    rw [less_head, cntL]
    by_cases hc : c = 10
    · subst hc
      rw [if_neg n1013]
      have ih := trip_le r false c1
      cases c1
      · simp [b2n] at ih ⊢; omega
      · cases c2 <;> simp [b2n] at ih ⊢ <;> omega
    · rw [if_neg hc]
      have ih := trip_le r (c == 13) c1
      by_cases h1 : c = 13
      · subst h1
        by_cases h2 : r.head? = some 10
        · rw [if_pos ⟨rfl, h2⟩]
          simp [b2n, h2] at ih ⊢; omega
        · rw [if_neg (fun q => h2 q.2)]
          simp [b2n, h2] at ih ⊢; omega
      · rw [if_neg (fun q => h1 q.1)]
        simp [b2n, h1, hc] at ih ⊢; omega
end Mine
end
section
open PySem PySem.W PySem.Calls PySem.Spec PyProof.Rows Builtin
namespace Mine
set_option maxRecDepth 100000
/-- the parts joined -/
def jn (bs : List (Array UInt8)) : Array UInt8 := (flatB bs).toArray
theorem jn_list (bs : List (Array UInt8)) : (jn bs).toList = flatB bs := rfl
theorem joined_jn (bs : List (Array UInt8)) : Bytes.joined #[] bs = jn bs := by
  apply Array.ext'; rw [joined_flat]; rfl
theorem jn_size (bs : List (Array UInt8)) : (jn bs).size = sumS bs := by
  rw [← flatB_length]; simp [jn]
/-- lone, pairs, triples -/
def lone (bs : List (Array UInt8)) : Nat := (cnt bs bs.length).1
def pairs (bs : List (Array UInt8)) : Nat := (cnt bs bs.length).2.1
def triples (bs : List (Array UInt8)) : Nat := (cnt bs bs.length).2.2
section
variable {bs : List (Array UInt8)}
theorem cnt_flat (h : ∀ b ∈ bs, WFp b) : cnt bs bs.length = cntL false false (flatB bs) := by rw [cnt_all, cntR_L _ _ h]
theorem F1 (h : ∀ b ∈ bs, WFp b) : binB (jn bs) = binP 0 bs := binB_flat h rfl
theorem F2 (h : ∀ b ∈ bs, WFp b) : (less (jn bs).toList).toArray = jn (lessP bs) := by rw [jn_list, less_flat h]; rfl
theorem F3 (h : ∀ b ∈ bs, WFp b) : (more false (jn bs).toList).toArray = jn (moreP false bs) := by rw [jn_list, more_flat false h]; rfl
theorem F4 (h : ∀ b ∈ bs, WFp b) : hasCR (jn bs).toList = decide (0 < pairs bs) := by rw [jn_list, ← pairs_CR, pairs, cnt_flat h]
theorem arr_ne {a b : List UInt8} : decide (a.toArray ≠ b.toArray) = decide (a ≠ b) := by
  rw [Bool.eq_iff_iff, decide_eq_true_eq, decide_eq_true_eq]
  constructor
  · intro h q; exact h (by rw [q])
  · intro h q; exact h (by simpa using q)
theorem raise_list (a b : List UInt8) : raiseC a.toArray b.toArray = ((hasCR a && !hasCR b && decide (more false b ≠ a)) || (a.contains 10 && hasCR b && !hasCR a && decide (less b ≠ a))) := by
  unfold raiseC
  rw [arr_ne, arr_ne]
theorem raise_less {l : List UInt8} (h : (cntL false false l).2.2 = 0) : raiseC l.toArray (less l).toArray = decide (0 < (cntL false false l).2.1 ∧ 0 < (cntL false false l).1) := by
  rw [raise_list, less_noCR0 h, more_less0 h]
  have e : decide (more false l ≠ l) = decide (0 < (cntL false false l).1) := by
    rw [Bool.eq_iff_iff, decide_eq_true_eq, decide_eq_true_eq, ne_eq, more_eq_iff]; omega
  rw [e, ← pairs_CR]
  simp
theorem F6 (h : ∀ b ∈ bs, WFp b) (ht : triples bs = 0) : raiseC (jn bs) (less (jn bs).toList).toArray = decide (0 < pairs bs ∧ 0 < lone bs) := by
  unfold triples at ht
  rw [cnt_flat h] at ht
  rw [jn_list]
  show raiseC (flatB bs).toArray _ = _
  rw [raise_less ht, pairs, lone, cnt_flat h]
theorem F7 (a : Array UInt8) : raiseC a (more false a.toList).toArray = false := by
  obtain ⟨l⟩ := a
  rw [raise_list]
  show ((hasCR l && !hasCR (more false l) && decide (more false (more false l) ≠ l)) || (l.contains 10 && hasCR (more false l) && !hasCR l && decide (less (more false l) ≠ l))) = false
  cases hc : hasCR l with
  | true => simp [hasCR_more l false hc]
  | false => simp [less_more l false hc]
theorem raise_plain {l : List UInt8} (h : hasCR l = false) : raiseC l.toArray (less l).toArray = false := by
  rw [raise_list, less_same l h, h]; simp
theorem raise_more {l : List UInt8} (h : hasCR l = false) : raiseC (more false l).toArray (less (more false l)).toArray = false := by
  rw [raise_list, less_more l false h, h]; simp
theorem bin_more {l : List UInt8} (h : binB l.toArray = false) : binB (more false l).toArray = false := by
  unfold binB at *
  rw [Bool.eq_false_iff] at *
  intro q
  apply h
  rw [List.contains_iff_mem] at *
  exact more_take 0 (by decide) l false 8000 q
/-- what comes back from the work tree -/
theorem F8 {a : Array UInt8} (h : hasCR a.toList = false) (sm rl : Bool) (ix : Option Bool) (hix : ix ≠ some true) :
    raiseC (smudgeF sm true rl a) (less (smudgeF sm true rl a).toList).toArray = false ∧ (if keepsC true true ix (smudgeF sm true rl a) then smudgeF sm true rl a else (less (smudgeF sm true rl a).toList).toArray) = a := by
  obtain ⟨l⟩ := a
  have h : hasCR l = false := h
  have same : ∀ k : Bool, raiseC (⟨l⟩ : Array UInt8) (less l).toArray = false ∧ (if k then (⟨l⟩ : Array UInt8) else (less l).toArray) = ⟨l⟩ := by
    intro k
    refine ⟨raise_plain h, ?_⟩
    rw [less_same l h]; cases k <;> rfl
  unfold smudgeF
  by_cases hs : sm = false
  · rw [if_pos hs]; exact same _
  · rw [if_neg hs]
    by_cases hb : (true && binB (⟨l⟩ : Array UInt8)) = true
    · rw [if_pos hb]; exact same _
    · rw [if_neg hb]
      by_cases hr : (rl && (⟨l⟩ : Array UInt8).toList.contains 13) = true
      · rw [if_pos hr]; exact same _
      · rw [if_neg hr]
        refine ⟨raise_more h, ?_⟩
        have hb2 : binB (more false l).toArray = false := bin_more (by simpa using hb)
        have hk : keepsC true true ix (more false l).toArray = false := by
          unfold keepsC
          rw [hb2, decide_eq_false hix]; rfl
        show (if keepsC true true ix (more false l).toArray = true then _ else (less (more false l)).toArray) = _
        rw [hk, less_more l false h]; rfl
/-- a text of CR LF alone -/
theorem F9l {l : List UInt8} (h1 : (cntL false false l).1 = 0) (h2 : l.count 13 = (cntL false false l).2.1) (h0 : 0 ∉ l) (rl : Bool) (ix : Option Bool) (hix : rl = false → ix ≠ some true) :
    raiseC l.toArray (less l).toArray = false ∧ smudgeF true true rl (if keepsC true true ix l.toArray then l.toArray else (less l).toArray) = l.toArray := by
  have hz := count_less l false false
  have hz : (less l).count 13 = 0 := by simp [b2n] at hz; omega
  have ht : (cntL false false l).2.2 = 0 := by
    have := trip_le l false false
    simp [b2n] at this; omega
  refine ⟨by rw [raise_less ht]; simp [h1], ?_⟩
  have nb : ∀ {r : List UInt8}, 0 ∉ r → binB r.toArray = false := by
    intro r hr
    unfold binB
    rw [Bool.eq_false_iff]
    intro q
    rw [List.contains_iff_mem] at q
    exact hr (List.mem_of_mem_take q)
  have ml : more false (less l) = l := by rw [more_less0 ht, (more_eq_iff l).mpr h1]
  cases hk : keepsC true true ix l.toArray with
  | true =>
    unfold keepsC at hk
    rw [nb h0] at hk
    have hk : ix = some true ∧ hasCR l = true := by simpa using hk
    have hr : rl = true := by
      cases rl with
      | true => rfl
      | false => exact absurd hk.1 (hix rfl)
    subst hr
    have h13 : l.contains 13 = true := by
      have hp := pairs_CR l
      rw [hk.2, decide_eq_true_eq] at hp
      rw [List.contains_iff_mem]
      exact List.count_pos_iff.mp (by omega)
    unfold smudgeF
    simp only [if_true]
    rw [nb h0, h13]; rfl
  | false =>
    have hn : 0 ∉ less l := fun q => h0 (less_mem l q)
    have h13 : (less l).contains 13 = false := by
      rw [Bool.eq_false_iff]
      intro q
      rw [List.contains_iff_mem] at q
      have := List.count_pos_iff.mpr q
      omega
    unfold smudgeF
    simp only [Bool.false_eq_true, if_false]
    rw [nb hn, h13, ml]; simp
theorem any_mem (h : ∀ b ∈ bs, WFp b) (c : UInt8) (hc : c ≠ 120) : bs.any (· == #[c]) = true ↔ c ∈ flatB bs := by
  induction bs with
  | nil => simp [flatB]
  | cons b r ih =>
    have ih := ih fun c hc => h c (.tail _ hc)
    rw [List.any_cons, Bool.or_eq_true_iff, ih, flatB_cons, List.mem_append]
    rcases wf_cases (h b (.head _)) with ⟨d, rfl⟩ | ⟨h1, h2, _⟩
    · simp only [beq_iff_eq, List.mem_singleton]
      constructor
      · rintro (q | q)
        · left; simpa using q.symm
        · exact .inr q
      · rintro (q | q)
        · left; simpa using q.symm
        · exact .inr q
    · constructor
      · rintro (q | q)
        · left; rw [eq_of_beq q]; exact .head _
        · exact .inr q
      · rintro (q | q)
        · exact absurd (h2 c q) hc
        · exact .inr q
theorem F5 (h : ∀ b ∈ bs, WFp b) : (jn bs).toList.contains 13 = bs.any (· == #[13]) := by
  rw [Bool.eq_iff_iff, any_mem h 13 (by decide), jn_list, List.contains_iff_mem]
theorem count_parts (h : ∀ b ∈ bs, WFp b) : (bs.filter (fun b => decide (b = #[13]))).length = (flatB bs).count 13 := by
  induction bs with
  | nil => rfl
  | cons b r ih =>
    have ih := ih fun c hc => h c (.tail _ hc)
    rw [flatB_cons, List.count_append, List.filter_cons]
    rcases wf_cases (h b (.head _)) with ⟨d, rfl⟩ | ⟨h1, h2, h3, h4, _⟩
    · by_cases hd : d = 13
      · subst hd; simp [ih]; omega
      · have : ¬ ((#[d] : Array UInt8) = #[13]) := by simpa using hd
        simp [this, hd, ih]
    · rw [decide_eq_false h4]
      have : b.toList.count 13 = 0 := List.count_eq_zero.mpr fun q => absurd (h2 13 q) (by decide)
      simp [this, ih]
theorem F9 (h : ∀ b ∈ bs, WFp b) (h1 : lone bs = 0) (h0 : bs.any (· == #[0]) = false) (h2 : (bs.filter (fun b => decide (b = #[13]))).length = pairs bs) (rl : Bool) (ix : Option Bool) (hix : rl = false → ix ≠ some true) :
    raiseC (jn bs) (less (jn bs).toList).toArray = false ∧ smudgeF true true rl (if keepsC true true ix (jn bs) then jn bs else (less (jn bs).toList).toArray) = jn bs := by
  unfold lone at h1
  unfold pairs at h2
  rw [cnt_flat h] at h1 h2
  refine F9l (l := flatB bs) h1 (by rw [← count_parts h, h2]) (fun q => ?_) rl ix hix
  have := (any_mem h 0 (by decide)).mpr q
  rw [h0] at this
  exact absurd this (by decide)
end
/-- sizes -/
theorem lessP_sizes : ∀ (bs : List (Array UInt8)), (∀ b ∈ lessP bs, b ∈ bs) ∧ (lessP bs).length ≤ bs.length ∧ sumS (lessP bs) + bs.length = sumS bs + (lessP bs).length
  | [] => by simp [lessP]
  | b :: r => by
    have ih := lessP_sizes r
    rw [lessP]
    split
    · rename_i h
      refine ⟨fun c hc => .tail _ (ih.1 c hc), by rw [List.length_cons]; omega, ?_⟩
      rw [sumS_cons, h.1, List.length_cons]
      have : (#[13] : Array UInt8).size = 1 := rfl
      omega
    · refine ⟨fun c hc => ?_, by rw [List.length_cons, List.length_cons]; omega, ?_⟩
      · rcases List.mem_cons.mp hc with rfl | hc
        · exact .head _
        · exact .tail _ (ih.1 c hc)
      · rw [sumS_cons, sumS_cons, List.length_cons, List.length_cons]; omega
theorem moreP_sizes : ∀ (bs : List (Array UInt8)) (p : Bool), (∀ b ∈ moreP p bs, b ∈ bs ∨ b = #[13]) ∧ (moreP p bs).length ≤ 2 * bs.length ∧ sumS (moreP p bs) + bs.length = sumS bs + (moreP p bs).length
  | [], p => by simp [moreP]
  | b :: r, p => by
    rw [moreP]
    split
    · have ih := moreP_sizes r false
      refine ⟨fun c hc => ?_, by simp only [List.length_cons]; omega, ?_⟩
      · rcases List.mem_cons.mp hc with rfl | hc
        · exact .inr rfl
        · rcases List.mem_cons.mp hc with rfl | hc
          · exact .inl (.head _)
          · exact (ih.1 c hc).imp (.tail _) id
      · simp only [sumS_cons, List.length_cons]
        have : (#[13] : Array UInt8).size = 1 := rfl
        omega
    · have ih := moreP_sizes r (decide (b = #[13]))
      refine ⟨fun c hc => ?_, by simp only [List.length_cons]; omega, ?_⟩
      · rcases List.mem_cons.mp hc with rfl | hc
        · exact .inl (.head _)
        · exact (ih.1 c hc).imp (.tail _) id
      · simp only [sumS_cons, List.length_cons]; omega
theorem WF.less {bs : List (Array UInt8)} (w : WF bs) : WF (lessP bs) := by
  have := lessP_sizes bs
  have := w.size
  exact ⟨fun b hb => w.each b ((lessP_sizes bs).1 b hb), by omega⟩
theorem WF.mor {bs : List (Array UInt8)} (w : WF bs) : WF (moreP false bs) := by
  have := moreP_sizes bs false
  have := w.size
  refine ⟨fun b hb => ?_, by omega⟩
  rcases (moreP_sizes bs false).1 b hb with h | h
  · exact w.each b h
  · rw [h]; exact .inl rfl
end Mine
end
section
open PySem PySem.W PySem.Calls PySem.Spec PyProof.Rows
namespace Mine
set_option maxRecDepth 100000
def eolB (eol : Str) : Array UInt8 := (eolO eol).getD #[]
theorem six_of {x : Str} (h : x ∈ words7) (hne : (x != Str.ofString "") = true) : x ∈ sixWords := by
  simp only [words7, List.mem_cons, List.not_mem_nil, or_false] at h
  rcases h with rfl | rfl | rfl | rfl | rfl | rfl | rfl
  · exact .head _
  · exact .tail _ (.head _)
  · exact absurd hne (by decide)
  · exact .tail _ (.tail _ (.head _))
  · exact .tail _ (.tail _ (.tail _ (.head _)))
  · exact .tail _ (.tail _ (.tail _ (.tail _ (.head _))))
  · exact .tail _ (.tail _ (.tail _ (.tail _ (.tail _ (.head _)))))


theorem eol_ok {eol : Str} (h : eol ∈ ends4) (hne : (eol != Str.ofString "") = true) : EolOk eol (eolB eol) := by
  simp only [ends4, List.mem_cons, List.not_mem_nil, or_false] at h
  rcases h with rfl | rfl | rfl | rfl
  · exact absurd hne (by decide)
  · exact ⟨narrow_crlf, by decide⟩
  · exact ⟨narrow_lf, by decide⟩
  · exact ⟨narrow_LF, by decide⟩
theorem eval_of {eol : Str} {v : Value} (h : eol ∈ ends4) (hE : EVal eol (eolB eol) v) : eVal (eolO eol) v := by
  simp only [ends4, List.mem_cons, List.not_mem_nil, or_false] at h
  rcases h with rfl | rfl | rfl | rfl <;> rcases hE with ⟨h1, h2⟩ | ⟨h1, h2⟩
  · exact h2
  · exact absurd h1 (by decide)
  · exact absurd h1 (by decide)
  · exact h2
  · exact absurd h1 (by decide)
  · exact h2
  · exact absurd h1 (by decide)
  · exact h2
theorem law_ok {text crlf eol core : Str} {auto : Array UInt8} (h1 : text ∈ words7) (h2 : crlf ∈ words7) (h3 : eol ∈ ends4) (h4 : core ∈ cores3) (h5 : auto ∈ autos3) :
    act5 (act4 (act3 (act2 (wordA text) (wordA crlf)) (eolO eol)) (textEol core auto)) auto = namedF (ruleF (word1 text crlf) eol core auto) :=
  eq_of_beq (lawOK_all text h1 crlf h2 eol h3 core h4 auto h5)
end Mine
end
section
open PySem PySem.W PySem.Calls PySem.Spec PyProof.Rows
namespace Mine
set_option maxRecDepth 100000
noncomputable def recOf (d : DefRec) : DefRec := d
noncomputable def lawRec : DefRec := recOf (by exact (fun (n : Str) (p : Arguments) (b : List Stmt) (s : Scope) (q : Pos) (_ : recS (dSt 39) = ⟨n, p, b, s, q⟩) => (⟨n, p, b, s, q⟩ : DefRec)) _ _ _ _ _ rfl)
noncomputable abbrev lawEnv (L f cd : Addr) : Env := envOf lawRec.name lawRec.scope L f (.ref cd)
noncomputable def stmtAt (k : Nat) : Stmt := lawRec.body.getD k (.Pass {line := 0, col := 0, endLine := 0, endCol := 0})
noncomputable def forBody : List Stmt := match stmtAt 9 with
  | .For _ _ b _ _ => b
  | _ => []
noncomputable def turnAt (k : Nat) : Stmt := forBody.getD k (.Pass {line := 0, col := 0, endLine := 0, endCol := 0})
/-- an address that is none of these -/
def Off (ow : List (Addr × Obj)) (a : Addr) : Prop := ∀ q ∈ ow, a ≠ q.1
theorem Off.sub {l ow : List (Addr × Obj)} {a : Addr} (h : Off l a) (s : ∀ q ∈ ow, q ∈ l) : Off ow a := fun q hq => h q (s q hq)
section
variable {prog : Program} {w : World} {mean : ExcName → Option Value} {mg mb : Str → Option Value} {lv : Nat} {f : Addr} {vals : List Value} {Pre : Heap → Prop} {Post : List (Addr × Obj) → Value → Prop}
  {A A₀ : Around} {E Q : Value → Shared → Prop} {s : Shared} {base h₀ : Heap} {outer : List Env} {L a : Addr} {m : Str → Option Value} {news : List (Addr × Obj)} {cn : Str} {cs : Scope} {ccd : Value}
/-- the same, and what is new is apart from what stood -/
theorem use_pureF (C : PureF prog w mean mg mb lv f vals Pre Post) (B : Below A₀ base outer h₀) (F : Fr h₀ L s.heap m) (X : (Mine.K w.params).In h₀) (N : News h₀ L s.heap news) (T : Top Mine.V JLo mean mg mb h₀)
    (hA : A.handled = none) (hf : A.frames = some (envOf cn cs L a ccd :: outer)) (hk : cs.kind = .function) (hd : A.depth ≤ 2 + claimMargin + lv) (hu : A.units ≤ 100 + 100 * lv) (hpre : Pre s.heap)
    (h : ∀ v new h' tk', Fr h₀ L h' m → News h₀ L h' (new ++ news) → (∀ p ∈ new, Off news p.1) → Post new v → Q v { s with heap := h', toks := tk' }) :
    wpAny (model prog w) A (call (.ref f) vals) Q E s := by
  refine wpAny_weaken (A' := aTop lv A.guards (envOf cn cs L a ccd :: outer)) hA hd hf rfl hu ?_
  have BB := B.push (name := cn) (scope := cs) (a := a) (cd := ccd) F hk
  have B2 : Below (aTop lv A.guards (envOf cn cs L a ccd :: outer)) base (envOf cn cs L a ccd :: outer) s.heap := ⟨rfl, BB.stays, BB.frames⟩
  refine C A.guards (envOf cn cs L a ccd :: outer) base s.heap s.gens s.drawn s.toks s.os Q E B2 (X.keeps F.keep) (T.keeps F.keep) hpre fun v new h' tk' st nw hp => ?_
  obtain ⟨oL, es, ep, hL, r⟩ := F.ns
  refine h v new h' tk' ⟨⟨oL, es, ep, st _ _ hL, r⟩, fun b o e => st _ _ (F.keep b o e), F.above⟩ (fun q hq => ?_) (fun p hp q hq e => ?_) hp
  · rcases List.mem_append.mp hq with hq | hq
    · refine ⟨(nw q hq).1, fun e => ?_, ?_⟩
      · have := (nw q hq).2; rw [e, hL] at this; cases this
      · cases e : h₀.get? q.1 with
        | none => rfl
        | some o => have := (nw q hq).2; rw [F.keep _ _ e] at this; cases this
    · exact ⟨st _ _ (N q hq).1, (N q hq).2⟩
  · have h1 := (nw p hp).2
    rw [e, (N q hq).1] at h1; cases h1
end
theorem strs_get {vs : List Value} {bs : List Str} (h : StrsAre vs bs) : ∀ {i : Nat} (hi : i < bs.length), ∃ t, vs[i]? = some (.str (bs.getD i (Str.ofString "")) t) := by
  induction h with
  | nil => intro i hi; exact absurd hi (Nat.not_lt_zero i)
  | cons y t _ ih =>
    intro i hi
    cases i with
    | zero => exact ⟨t, rfl⟩
    | succ i => exact ih (Nat.lt_of_succ_lt_succ hi)
theorem strs_length {vs : List Value} {bs : List Str} (h : StrsAre vs bs) : vs.length = bs.length := by
  induction h with
  | nil => rfl
  | cons y t _ ih => simp [ih]
theorem item_S {prog : Program} {w : World} {A : Around} {E : Value → Shared → Prop} {s : Shared} {l : Addr} {vs : List Value} {bs : List Str} {u : Tok} {Q : Value → Shared → Prop} {value slice : PySem.Expr} {k : Int} (hl : s.heap.IsList l vs.toArray) (hb : StrsAre vs bs) (h0 : 0 ≤ k) (h1 : k < bs.length) (hn : bs.length ≤ 16777216) (h : ∀ t, Q (.str (bs.getD k.toNat (Str.ofString "")) t) s)
    (hs : subscripted slice false (.ref l) (.int k u) = operate [.ref l, .int k u] (getItem (.ref l) (.int k u)) := by with_unfolding_all rfl) (hg : ∀ r, letTemporaryGo value (.ref l) r = pure () := by intro _; with_unfolding_all rfl) :
    wpAny (model prog w) A (subscriptTail value slice (.ref l) (.int k u)) Q E s := by
  have hk : k.toNat < bs.length := by omega
  obtain ⟨t, ht⟩ := strs_get hb hk
  exact item_listL hl h0 (by omega) ht (h t) hs hg
theorem isl {h₀ h : Heap} {L a : Addr} {l : List (Addr × Obj)} {vs : List Value} {n : Nat} (N : News h₀ L h l) (hm : (a, PySem.W.listOf vs.toArray n) ∈ l) : h.IsList a vs.toArray := News.isList N hm
theorem getD_mem {α : Type} {bs : List α} {i : Nat} {d : α} (h : i < bs.length) : bs.getD i d ∈ bs := by
  rw [List.getD_eq_getElem?_getD, List.getElem?_eq_getElem h]; exact List.getElem_mem h

abbrev safes3 : List (Array UInt8) := [#[102, 97, 108, 115, 101], #[116, 114, 117, 101], #[119, 97, 114, 110]]
/-- the rules in force -/
structure Rul where
  text : Str
  crlf : Str
  eol : Str
  core : Str
  auto : Array UInt8
  safe : Array UInt8
structure Rul.Ok (r : Rul) : Prop where
  text : r.text ∈ words7
  crlf : r.crlf ∈ words7
  eol : r.eol ∈ ends4
  core : r.core ∈ cores3
  auto : r.auto ∈ autos3
  safe : r.safe ∈ safes3
def IsS (m : Str → Option Value) (x : Str) (s : Str) : Prop := ∃ t, m x = some (.str s t)
def IsB (m : Str → Option Value) (x : Str) (b : Array UInt8) : Prop := ∃ t, m x = some (.bytes b t)
def IsI (m : Str → Option Value) (x : Str) (k : Int) : Prop := ∃ t, m x = some (.int k t)
structure HasR (m : Str → Option Value) (r : Rul) : Prop where
  text : IsS m (Str.ofString "text") r.text
  crlf : IsS m (Str.ofString "crlf") r.crlf
  eol : IsS m (Str.ofString "eol") r.eol
  core : IsS m (Str.ofString "core") r.core
  auto : IsB m (Str.ofString "auto") r.auto
  safe : IsB m (Str.ofString "safe") r.safe
/-- what stands between the turns, beside the rules -/
structure HasW (m : Str → Option Value) (lead step : Int) (W K : Addr) : Prop where
  lead : IsI m (Str.ofString "lead") lead
  step : IsI m (Str.ofString "step") step
  work : m (Str.ofString "work") = some (.ref W)
  kept : m (Str.ofString "kept") = some (.ref K)
end Mine
end
section
open PySem PySem.W PySem.Calls PySem.Spec PyProof.Rows
namespace Mine
set_option maxRecDepth 100000
noncomputable def lawEn (L f cd : Addr) : Env := envOf lawRec.name lawRec.scope L f (.ref cd)
def LK (x : Str) : Prop := lawRec.scope.names.lookup x = some .local ∧ (x == ("__debug__" : Str)) = false
def GK (x : Str) : Prop := lawRec.scope.names.lookup x = some .globalImplicit ∧ (x == ("__debug__" : Str)) = false
theorem kd_script : LK (Str.ofString "script") := ⟨by decide +kernel, by decide +kernel⟩
theorem kd_lead : LK (Str.ofString "lead") := ⟨by decide +kernel, by decide +kernel⟩
theorem kd_text : LK (Str.ofString "text") := ⟨by decide +kernel, by decide +kernel⟩
theorem kd_crlf : LK (Str.ofString "crlf") := ⟨by decide +kernel, by decide +kernel⟩
theorem kd_eol : LK (Str.ofString "eol") := ⟨by decide +kernel, by decide +kernel⟩
theorem kd_auto : LK (Str.ofString "auto") := ⟨by decide +kernel, by decide +kernel⟩
theorem kd_core : LK (Str.ofString "core") := ⟨by decide +kernel, by decide +kernel⟩
theorem kd_safe : LK (Str.ofString "safe") := ⟨by decide +kernel, by decide +kernel⟩
theorem kd_work : LK (Str.ofString "work") := ⟨by decide +kernel, by decide +kernel⟩
theorem kd_kept : LK (Str.ofString "kept") := ⟨by decide +kernel, by decide +kernel⟩
theorem kd_step : LK (Str.ofString "step") := ⟨by decide +kernel, by decide +kernel⟩
theorem kd_number : LK (Str.ofString "number") := ⟨by decide +kernel, by decide +kernel⟩
theorem kd_kind : LK (Str.ofString "kind") := ⟨by decide +kernel, by decide +kernel⟩
theorem kd_rest : LK (Str.ofString "rest") := ⟨by decide +kernel, by decide +kernel⟩
theorem kd_rule : LK (Str.ofString "rule") := ⟨by decide +kernel, by decide +kernel⟩
theorem kd_action : LK (Str.ofString "action") := ⟨by decide +kernel, by decide +kernel⟩
theorem kd_lone : LK (Str.ofString "lone") := ⟨by decide +kernel, by decide +kernel⟩
theorem kd_pairs : LK (Str.ofString "pairs") := ⟨by decide +kernel, by decide +kernel⟩
theorem kd_triples : LK (Str.ofString "triples") := ⟨by decide +kernel, by decide +kernel⟩
theorem kd_blank : LK (Str.ofString "blank") := ⟨by decide +kernel, by decide +kernel⟩
theorem kd_less : LK (Str.ofString "less") := ⟨by decide +kernel, by decide +kernel⟩
theorem kd_here : LK (Str.ofString "here") := ⟨by decide +kernel, by decide +kernel⟩
theorem kd_there : LK (Str.ofString "there") := ⟨by decide +kernel, by decide +kernel⟩
theorem kd_shut : LK (Str.ofString "shut") := ⟨by decide +kernel, by decide +kernel⟩
theorem kd_more : LK (Str.ofString "more") := ⟨by decide +kernel, by decide +kernel⟩
theorem kd_held : LK (Str.ofString "held") := ⟨by decide +kernel, by decide +kernel⟩
theorem kd_careful : LK (Str.ofString "careful") := ⟨by decide +kernel, by decide +kernel⟩
theorem kd_driver : LK (Str.ofString "driver") := ⟨by decide +kernel, by decide +kernel⟩
theorem kd_looks : LK (Str.ofString "looks") := ⟨by decide +kernel, by decide +kernel⟩
theorem kd_plain : LK (Str.ofString "plain") := ⟨by decide +kernel, by decide +kernel⟩
theorem kd_ways : LK (Str.ofString "ways") := ⟨by decide +kernel, by decide +kernel⟩
theorem kd_inward : LK (Str.ofString "inward") := ⟨by decide +kernel, by decide +kernel⟩
theorem kd_outward : LK (Str.ofString "outward") := ⟨by decide +kernel, by decide +kernel⟩
theorem kd_way : LK (Str.ofString "way") := ⟨by decide +kernel, by decide +kernel⟩
theorem kd_cleans : LK (Str.ofString "cleans") := ⟨by decide +kernel, by decide +kernel⟩
theorem kd_smudges : LK (Str.ofString "smudges") := ⟨by decide +kernel, by decide +kernel⟩
theorem kd_finds : LK (Str.ofString "finds") := ⟨by decide +kernel, by decide +kernel⟩
theorem kd_guess : LK (Str.ofString "guess") := ⟨by decide +kernel, by decide +kernel⟩
theorem kd_stays : LK (Str.ofString "stays") := ⟨by decide +kernel, by decide +kernel⟩
theorem gd_LineEndingFilter : GK (Str.ofString "LineEndingFilter") := ⟨by decide +kernel, by decide +kernel⟩
theorem gd_get_clean_filter : GK (Str.ofString "get_clean_filter") := ⟨by decide +kernel, by decide +kernel⟩
theorem gd_get_smudge_filter : GK (Str.ofString "get_smudge_filter") := ⟨by decide +kernel, by decide +kernel⟩
theorem gd_law_cleaned : GK (Str.ofString "_law_cleaned") := ⟨by decide +kernel, by decide +kernel⟩
theorem gd_convert_crlf_to_lf : GK (Str.ofString "convert_crlf_to_lf") := ⟨by decide +kernel, by decide +kernel⟩
theorem gd_convert_lf_to_crlf : GK (Str.ofString "convert_lf_to_crlf") := ⟨by decide +kernel, by decide +kernel⟩
theorem gd_law_more : GK (Str.ofString "_law_more") := ⟨by decide +kernel, by decide +kernel⟩
theorem gd_line_ending_filter_for_action : GK (Str.ofString "line_ending_filter_for_action") := ⟨by decide +kernel, by decide +kernel⟩
theorem gd_law_counts : GK (Str.ofString "_law_counts") := ⟨by decide +kernel, by decide +kernel⟩
theorem gd_law_binary : GK (Str.ofString "_law_binary") := ⟨by decide +kernel, by decide +kernel⟩
theorem gd_law_less : GK (Str.ofString "_law_less") := ⟨by decide +kernel, by decide +kernel⟩
theorem gd_is_binary : GK (Str.ofString "is_binary") := ⟨by decide +kernel, by decide +kernel⟩
theorem gd_law_rule : GK (Str.ofString "_law_rule") := ⟨by decide +kernel, by decide +kernel⟩
theorem gd_resolve_crlf_action : GK (Str.ofString "resolve_crlf_action") := ⟨by decide +kernel, by decide +kernel⟩
theorem gd_law_attributes : GK (Str.ofString "_law_attributes") := ⟨by decide +kernel, by decide +kernel⟩
theorem gd_law_named : GK (Str.ofString "_law_named") := ⟨by decide +kernel, by decide +kernel⟩
theorem gd_law_words : GK (Str.ofString "_law_words") := ⟨by decide +kernel, by decide +kernel⟩
theorem gd_law_ends : GK (Str.ofString "_law_ends") := ⟨by decide +kernel, by decide +kernel⟩
theorem gd_law_autos : GK (Str.ofString "_law_autos") := ⟨by decide +kernel, by decide +kernel⟩
theorem gd_law_cores : GK (Str.ofString "_law_cores") := ⟨by decide +kernel, by decide +kernel⟩
theorem gd_law_safes : GK (Str.ofString "_law_safes") := ⟨by decide +kernel, by decide +kernel⟩
theorem gd_law_edited : GK (Str.ofString "_law_edited") := ⟨by decide +kernel, by decide +kernel⟩
theorem gd_law_cr : GK (Str.ofString "_law_cr") := ⟨by decide +kernel, by decide +kernel⟩
theorem gd_law_lf : GK (Str.ofString "_law_lf") := ⟨by decide +kernel, by decide +kernel⟩
section
variable {M : Model} {A : Around} {E : Value → Shared → Prop} {s : Shared} {h₀ : Heap} {L f cd : Addr} {m mg mb : Str → Option Value} {mean : ExcName → Option Value} {x : Str} {pos : Pos} {v : Value} {Q : Value → Shared → Prop} {news : List (Addr × Obj)} {w : World}
theorem law_L (F : Fr h₀ L s.heap m) (hx : LK x) (hv : m x = some v) (h : Q v s) : wpAny M A (eval (.Name x pos) (lawEn L f cd)) Q E s :=
  nameX_L (cn := lawRec.name) (cs := lawRec.scope) (a := f) (ccd := .ref cd) (cl := []) F hv h rfl hx.1 hx.2
theorem law_S {Q : Unit → Shared → Prop} (F : Fr h₀ L s.heap m) (N : News h₀ L s.heap news) (hx : LK x)
    (h : ∀ h', Fr h₀ L h' (fun y => if y = x then some v else m y) → News h₀ L h' news → Q () { s with heap := h', toks := s.toks + 1 }) : wpAny M A (storeName (lawEn L f cd) x v) Q E s :=
  storeX_L (cn := lawRec.name) (cs := lawRec.scope) (a := f) (ccd := .ref cd) (cl := []) F N h rfl hx.1
theorem gl_LineEndingFilter (F : Fr h₀ L s.heap m) (X : (Mine.K w.params).In h₀) (T : Top Mine.V JLo mean mg mb h₀) (h : Q (.ref 114) s) : wpAny M A (eval (.Name (Str.ofString "LineEndingFilter") pos) (lawEn L f cd)) Q E s :=
  nameX_K (cn := lawRec.name) (cs := lawRec.scope) (a := f) (ccd := .ref cd) (cl := []) F X (topRead_of T) (by k_is) h rfl gd_LineEndingFilter.1 gd_LineEndingFilter.2
theorem gl_get_clean_filter (F : Fr h₀ L s.heap m) (X : (Mine.K w.params).In h₀) (T : Top Mine.V JLo mean mg mb h₀) (h : Q (.ref 154) s) : wpAny M A (eval (.Name (Str.ofString "get_clean_filter") pos) (lawEn L f cd)) Q E s :=
  nameX_K (cn := lawRec.name) (cs := lawRec.scope) (a := f) (ccd := .ref cd) (cl := []) F X (topRead_of T) (by k_is) h rfl gd_get_clean_filter.1 gd_get_clean_filter.2
theorem gl_get_smudge_filter (F : Fr h₀ L s.heap m) (X : (Mine.K w.params).In h₀) (T : Top Mine.V JLo mean mg mb h₀) (h : Q (.ref 147) s) : wpAny M A (eval (.Name (Str.ofString "get_smudge_filter") pos) (lawEn L f cd)) Q E s :=
  nameX_K (cn := lawRec.name) (cs := lawRec.scope) (a := f) (ccd := .ref cd) (cl := []) F X (topRead_of T) (by k_is) h rfl gd_get_smudge_filter.1 gd_get_smudge_filter.2
theorem gl_law_cleaned (F : Fr h₀ L s.heap m) (X : (Mine.K w.params).In h₀) (T : Top Mine.V JLo mean mg mb h₀) (h : Q (.ref 269) s) : wpAny M A (eval (.Name (Str.ofString "_law_cleaned") pos) (lawEn L f cd)) Q E s :=
  nameX_K (cn := lawRec.name) (cs := lawRec.scope) (a := f) (ccd := .ref cd) (cl := []) F X (topRead_of T) (by k_is) h rfl gd_law_cleaned.1 gd_law_cleaned.2
theorem gl_convert_crlf_to_lf (F : Fr h₀ L s.heap m) (X : (Mine.K w.params).In h₀) (T : Top Mine.V JLo mean mg mb h₀) (h : Q (.ref 125) s) : wpAny M A (eval (.Name (Str.ofString "convert_crlf_to_lf") pos) (lawEn L f cd)) Q E s :=
  nameX_K (cn := lawRec.name) (cs := lawRec.scope) (a := f) (ccd := .ref cd) (cl := []) F X (topRead_of T) (by k_is) h rfl gd_convert_crlf_to_lf.1 gd_convert_crlf_to_lf.2
theorem gl_convert_lf_to_crlf (F : Fr h₀ L s.heap m) (X : (Mine.K w.params).In h₀) (T : Top Mine.V JLo mean mg mb h₀) (h : Q (.ref 132) s) : wpAny M A (eval (.Name (Str.ofString "convert_lf_to_crlf") pos) (lawEn L f cd)) Q E s :=
  nameX_K (cn := lawRec.name) (cs := lawRec.scope) (a := f) (ccd := .ref cd) (cl := []) F X (topRead_of T) (by k_is) h rfl gd_convert_lf_to_crlf.1 gd_convert_lf_to_crlf.2
theorem gl_law_more (F : Fr h₀ L s.heap m) (X : (Mine.K w.params).In h₀) (T : Top Mine.V JLo mean mg mb h₀) (h : Q (.ref 262) s) : wpAny M A (eval (.Name (Str.ofString "_law_more") pos) (lawEn L f cd)) Q E s :=
  nameX_K (cn := lawRec.name) (cs := lawRec.scope) (a := f) (ccd := .ref cd) (cl := []) F X (topRead_of T) (by k_is) h rfl gd_law_more.1 gd_law_more.2
theorem gl_line_ending_filter_for_action (F : Fr h₀ L s.heap m) (X : (Mine.K w.params).In h₀) (T : Top Mine.V JLo mean mg mb h₀) (h : Q (.ref 73) s) : wpAny M A (eval (.Name (Str.ofString "line_ending_filter_for_action") pos) (lawEn L f cd)) Q E s :=
  nameX_K (cn := lawRec.name) (cs := lawRec.scope) (a := f) (ccd := .ref cd) (cl := []) F X (topRead_of T) (by k_is) h rfl gd_line_ending_filter_for_action.1 gd_line_ending_filter_for_action.2
theorem gl_law_counts (F : Fr h₀ L s.heap m) (X : (Mine.K w.params).In h₀) (T : Top Mine.V JLo mean mg mb h₀) (h : Q (.ref 243) s) : wpAny M A (eval (.Name (Str.ofString "_law_counts") pos) (lawEn L f cd)) Q E s :=
  nameX_K (cn := lawRec.name) (cs := lawRec.scope) (a := f) (ccd := .ref cd) (cl := []) F X (topRead_of T) (by k_is) h rfl gd_law_counts.1 gd_law_counts.2
theorem gl_law_binary (F : Fr h₀ L s.heap m) (X : (Mine.K w.params).In h₀) (T : Top Mine.V JLo mean mg mb h₀) (h : Q (.ref 250) s) : wpAny M A (eval (.Name (Str.ofString "_law_binary") pos) (lawEn L f cd)) Q E s :=
  nameX_K (cn := lawRec.name) (cs := lawRec.scope) (a := f) (ccd := .ref cd) (cl := []) F X (topRead_of T) (by k_is) h rfl gd_law_binary.1 gd_law_binary.2
theorem gl_law_less (F : Fr h₀ L s.heap m) (X : (Mine.K w.params).In h₀) (T : Top Mine.V JLo mean mg mb h₀) (h : Q (.ref 255) s) : wpAny M A (eval (.Name (Str.ofString "_law_less") pos) (lawEn L f cd)) Q E s :=
  nameX_K (cn := lawRec.name) (cs := lawRec.scope) (a := f) (ccd := .ref cd) (cl := []) F X (topRead_of T) (by k_is) h rfl gd_law_less.1 gd_law_less.2
theorem gl_is_binary (F : Fr h₀ L s.heap m) (X : (Mine.K w.params).In h₀) (T : Top Mine.V JLo mean mg mb h₀) (h : Q (.ref 28) s) : wpAny M A (eval (.Name (Str.ofString "is_binary") pos) (lawEn L f cd)) Q E s :=
  nameX_K (cn := lawRec.name) (cs := lawRec.scope) (a := f) (ccd := .ref cd) (cl := []) F X (topRead_of T) (by k_is) h rfl gd_is_binary.1 gd_is_binary.2
theorem gl_law_rule (F : Fr h₀ L s.heap m) (X : (Mine.K w.params).In h₀) (T : Top Mine.V JLo mean mg mb h₀) (h : Q (.ref 229) s) : wpAny M A (eval (.Name (Str.ofString "_law_rule") pos) (lawEn L f cd)) Q E s :=
  nameX_K (cn := lawRec.name) (cs := lawRec.scope) (a := f) (ccd := .ref cd) (cl := []) F X (topRead_of T) (by k_is) h rfl gd_law_rule.1 gd_law_rule.2
theorem gl_resolve_crlf_action (F : Fr h₀ L s.heap m) (X : (Mine.K w.params).In h₀) (T : Top Mine.V JLo mean mg mb h₀) (h : Q (.ref 65) s) : wpAny M A (eval (.Name (Str.ofString "resolve_crlf_action") pos) (lawEn L f cd)) Q E s :=
  nameX_K (cn := lawRec.name) (cs := lawRec.scope) (a := f) (ccd := .ref cd) (cl := []) F X (topRead_of T) (by k_is) h rfl gd_resolve_crlf_action.1 gd_resolve_crlf_action.2
theorem gl_law_attributes (F : Fr h₀ L s.heap m) (X : (Mine.K w.params).In h₀) (T : Top Mine.V JLo mean mg mb h₀) (h : Q (.ref 224) s) : wpAny M A (eval (.Name (Str.ofString "_law_attributes") pos) (lawEn L f cd)) Q E s :=
  nameX_K (cn := lawRec.name) (cs := lawRec.scope) (a := f) (ccd := .ref cd) (cl := []) F X (topRead_of T) (by k_is) h rfl gd_law_attributes.1 gd_law_attributes.2
theorem gl_law_named (F : Fr h₀ L s.heap m) (X : (Mine.K w.params).In h₀) (T : Top Mine.V JLo mean mg mb h₀) (h : Q (.ref 236) s) : wpAny M A (eval (.Name (Str.ofString "_law_named") pos) (lawEn L f cd)) Q E s :=
  nameX_K (cn := lawRec.name) (cs := lawRec.scope) (a := f) (ccd := .ref cd) (cl := []) F X (topRead_of T) (by k_is) h rfl gd_law_named.1 gd_law_named.2
theorem gl_law_words (F : Fr h₀ L s.heap m) (X : (Mine.K w.params).In h₀) (T : Top Mine.V JLo mean mg mb h₀) (h : Q (.ref 175) s) : wpAny M A (eval (.Name (Str.ofString "_law_words") pos) (lawEn L f cd)) Q E s :=
  nameX_K (cn := lawRec.name) (cs := lawRec.scope) (a := f) (ccd := .ref cd) (cl := []) F X (topRead_of T) (by k_is) h rfl gd_law_words.1 gd_law_words.2
theorem gl_law_ends (F : Fr h₀ L s.heap m) (X : (Mine.K w.params).In h₀) (T : Top Mine.V JLo mean mg mb h₀) (h : Q (.ref 189) s) : wpAny M A (eval (.Name (Str.ofString "_law_ends") pos) (lawEn L f cd)) Q E s :=
  nameX_K (cn := lawRec.name) (cs := lawRec.scope) (a := f) (ccd := .ref cd) (cl := []) F X (topRead_of T) (by k_is) h rfl gd_law_ends.1 gd_law_ends.2
theorem gl_law_autos (F : Fr h₀ L s.heap m) (X : (Mine.K w.params).In h₀) (T : Top Mine.V JLo mean mg mb h₀) (h : Q (.ref 196) s) : wpAny M A (eval (.Name (Str.ofString "_law_autos") pos) (lawEn L f cd)) Q E s :=
  nameX_K (cn := lawRec.name) (cs := lawRec.scope) (a := f) (ccd := .ref cd) (cl := []) F X (topRead_of T) (by k_is) h rfl gd_law_autos.1 gd_law_autos.2
theorem gl_law_cores (F : Fr h₀ L s.heap m) (X : (Mine.K w.params).In h₀) (T : Top Mine.V JLo mean mg mb h₀) (h : Q (.ref 203) s) : wpAny M A (eval (.Name (Str.ofString "_law_cores") pos) (lawEn L f cd)) Q E s :=
  nameX_K (cn := lawRec.name) (cs := lawRec.scope) (a := f) (ccd := .ref cd) (cl := []) F X (topRead_of T) (by k_is) h rfl gd_law_cores.1 gd_law_cores.2
theorem gl_law_safes (F : Fr h₀ L s.heap m) (X : (Mine.K w.params).In h₀) (T : Top Mine.V JLo mean mg mb h₀) (h : Q (.ref 210) s) : wpAny M A (eval (.Name (Str.ofString "_law_safes") pos) (lawEn L f cd)) Q E s :=
  nameX_K (cn := lawRec.name) (cs := lawRec.scope) (a := f) (ccd := .ref cd) (cl := []) F X (topRead_of T) (by k_is) h rfl gd_law_safes.1 gd_law_safes.2
theorem gl_law_edited (F : Fr h₀ L s.heap m) (X : (Mine.K w.params).In h₀) (T : Top Mine.V JLo mean mg mb h₀) (h : Q (.ref 276) s) : wpAny M A (eval (.Name (Str.ofString "_law_edited") pos) (lawEn L f cd)) Q E s :=
  nameX_K (cn := lawRec.name) (cs := lawRec.scope) (a := f) (ccd := .ref cd) (cl := []) F X (topRead_of T) (by k_is) h rfl gd_law_edited.1 gd_law_edited.2
theorem gl_law_cr (F : Fr h₀ L s.heap m) (X : (Mine.K w.params).In h₀) (T : Top Mine.V JLo mean mg mb h₀) (h : Q (.bytes #[13] 463) s) : wpAny M A (eval (.Name (Str.ofString "_law_cr") pos) (lawEn L f cd)) Q E s :=
  nameX_K (cn := lawRec.name) (cs := lawRec.scope) (a := f) (ccd := .ref cd) (cl := []) F X (topRead_of T) (by k_is) h rfl gd_law_cr.1 gd_law_cr.2
theorem gl_law_lf (F : Fr h₀ L s.heap m) (X : (Mine.K w.params).In h₀) (T : Top Mine.V JLo mean mg mb h₀) (h : Q (.bytes #[10] 465) s) : wpAny M A (eval (.Name (Str.ofString "_law_lf") pos) (lawEn L f cd)) Q E s :=
  nameX_K (cn := lawRec.name) (cs := lawRec.scope) (a := f) (ccd := .ref cd) (cl := []) F X (topRead_of T) (by k_is) h rfl gd_law_lf.1 gd_law_lf.2
end
end Mine
end
section
open PySem PySem.W PySem.Calls PySem.Spec PyProof.Rows
namespace Mine
set_option maxRecDepth 100000
variable {prog : Program} {w : World} {mean : ExcName → Option Value} {mg mb : Str → Option Value}
theorem fmod_idx (x : Int) {k : Int} {n : Nat} (h : 0 < k) (hn : k ≤ n) : (x.fmod k).toNat < n := by
  have h1 := Int.fmod_nonneg_of_pos x h
  have h2 := Int.fmod_lt_of_pos x h
  omega
theorem News.sub {h₀ h : Heap} {L : Addr} {l l' : List (Addr × Obj)} (N : News h₀ L h l) (s : ∀ p ∈ l', p ∈ l) : News h₀ L h l' := fun p hp => N p (s p hp)
theorem ok_get {α : Type} {bs : List α} {x k : Int} {d : α} (h : 0 < k) (hn : k ≤ bs.length) : bs.getD (x.fmod k).toNat d ∈ bs := getD_mem (fmod_idx x h hn)
set_option maxHeartbeats 8000000 in
theorem segA {L f cd W : Addr} {h₀ h : Heap} {gn : Array GenState} {dr : Drawn} {os : OsState} {tk : Nat} {m : Str → Option Value} {r : Rul} {vs : List Value} {n : Nat} {bs : List (Array UInt8)} {ow ow2 : List (Addr × Obj)} {lead step number : Int} {K : Addr} {Q : Flow → Shared → Prop} {E : Value → Shared → Prop} {rest : List Stmt}
    (B : Below callerA h₀ [] h₀) (X : (Mine.K w.params).In h₀) (T : Top Mine.V JLo mean mg mb h₀) (F : Fr h₀ L h m) (N : News h₀ L h ((W, PySem.W.listOf vs.toArray n) :: ow)) (hb : BytesAre vs bs) (hn : bs.length ≤ 200000) (off : Off ow2 W) (hs2 : ∀ q ∈ ow2, q ∈ ow)
    (hr : r.Ok) (hm : HasR m r) (hw : HasW m lead step W K) (hnum : IsI m (Str.ofString "number") number)
    (H : ∀ h' tk' m' l', Fr h₀ L h' m' → News h₀ L h' l' → ∀ x1 x2 x3 x4 x5 x6 W' vs' n' cs, IsS m' (Str.ofString "text") x1 → IsS m' (Str.ofString "crlf") x2 → IsS m' (Str.ofString "eol") x3 → IsS m' (Str.ofString "core") x4 → IsB m' (Str.ofString "auto") x5 → IsB m' (Str.ofString "safe") x6 → HasW m' lead step W' K → IsI m' (Str.ofString "kind") (number.fmod 12) → (W', PySem.W.listOf vs'.toArray n') ∈ l' → (∀ q ∈ ow, q ∈ l') → Rul.Ok ⟨x1, x2, x3, x4, x5, x6⟩ → BytesAre vs' cs → Edited bs cs → Off ow2 W' →
      wpAny (model prog w) (callerA.deeper (lawEn L f cd)) (execs rest (lawEn L f cd)) Q E ⟨h', gn, dr, tk', os⟩) :
    wpAny (model prog w) (callerA.deeper (lawEn L f cd)) (execs (turnAt 0 :: turnAt 1 :: turnAt 2 :: rest) (lawEn L f cd)) Q E ⟨h, gn, dr, tk, os⟩ := by
  obtain ⟨⟨t1, q1⟩, ⟨t2, q2⟩, ⟨t3, q3⟩, ⟨t4, q4⟩, ⟨t5, q5⟩, ⟨t6, q6⟩⟩ := hm
  obtain ⟨⟨t7, q7⟩, ⟨t8, q8⟩, q9, q10⟩ := hw
  obtain ⟨t11, q11⟩ := hnum
  have F' := know1 (Str.ofString "text") (know1 (Str.ofString "crlf") (know1 (Str.ofString "eol") (know1 (Str.ofString "core") (know1 (Str.ofString "auto") (know1 (Str.ofString "safe") (know1 (Str.ofString "lead") (know1 (Str.ofString "step") (know1 (Str.ofString "work") (know1 (Str.ofString "kept") (know1 (Str.ofString "number") F q11) q10) q9) q8) q7) q6) q5) q4) q3) q2) q1
  clear F

  simp only [turnAt, forBody, stmtAt, lawRec, recOf, List.getD_cons_zero, List.getD_cons_succ]
  walk_at "J steps"
  all_goals (with_reducible rename Fr _ _ _ _ => F₁)
  all_goals (with_reducible rename News _ _ _ _ => N₁)
  all_goals (try dsimp only)
  all_goals refine H _ _ _ _ F₁ N₁ _ _ _ _ _ _ _ _ _ _ ⟨_, rfl⟩ ⟨_, rfl⟩ ⟨_, rfl⟩ ⟨_, rfl⟩ ⟨_, rfl⟩ ⟨_, rfl⟩ ⟨⟨_, rfl⟩, ⟨_, rfl⟩, rfl, rfl⟩ ⟨_, rfl⟩ (by repeat (first | exact List.mem_cons_self .. | apply List.mem_cons_of_mem)) ?_ ?_ (by assumption) ?_ ?_
  all_goals first
    | (exact ⟨by first | exact hr.text | exact ok_get (by decide) (by decide), by first | exact hr.crlf | exact ok_get (by decide) (by decide), by first | exact hr.eol | exact ok_get (by decide) (by decide), by first | exact hr.core | exact ok_get (by decide) (by decide), by first | exact hr.auto | exact ok_get (by decide) (by decide), by first | exact hr.safe | exact ok_get (by decide) (by decide)⟩; done)
    | assumption
    | exact ⟨Nat.le_add_right _ _, id⟩
    | (refine Off.sub (by assumption) ?_; intro p hp; exact List.mem_cons_of_mem _ (hs2 p hp))
    | (intro p hp; (repeat (first | exact hp | apply List.mem_cons_of_mem)); done)

end Mine
end
section
open PySem PySem.W PySem.Calls PySem.Spec PyProof.Rows
namespace Mine
set_option maxRecDepth 100000
variable {prog : Program} {w : World} {mean : ExcName → Option Value} {mg mb : Str → Option Value}
def tupB (b1 b2 : Bool) : Obj := { cls := .type "tuple", data := .seq #[.bool b1, .bool b2] }
/-- what rule holds -/
def HasRule (m : Str → Option Value) (l : List (Addr × Obj)) (R : Option (Bool × Bool)) : Prop :=
  (R = none ∧ m (Str.ofString "rule") = some .none) ∨ (∃ d b1 b2, R = some (b1, b2) ∧ m (Str.ofString "rule") = some (.ref d) ∧ (d, tupB b1 b2) ∈ l)
def Rul.rule (r : Rul) : Option (Bool × Bool) := ruleF (word1 r.text r.crlf) r.eol r.core r.auto
theorem L_res2 {d : Addr} {o : Obj} {kvs : List (List UInt8 × Value)} {r : Rul} (t1 t2 : Tok) (hd : o.IsDictOf (bytesKind prog w) kvs) (lo : (d == sysModules) = false) (h1 : AVal (wordA r.text) ((valueAt kvs kText).getD .none)) (h2 : AVal (wordA r.crlf) ((valueAt kvs kCrlf).getD .none)) (h3 : eVal (eolO r.eol) ((valueAt kvs kEol).getD .none)) (hr : r.Ok) :
    PureL prog w mean mg mb 3 65 [.ref d, .str r.core t1, .bytes r.auto t2] [(d, o)] True (fun new v => new = [] ∧ ∃ t, v = .str (namedF r.rule) t) := by
  have C := L_resolve (prog := prog) (w := w) (mean := mean) (mg := mg) (mb := mb) d o kvs ((valueAt kvs kText).getD .none) ((valueAt kvs kCrlf).getD .none) ((valueAt kvs kEol).getD .none) (wordA r.text) (wordA r.crlf) (eolO r.eol) r.core r.auto t1 t2
  rw [law_ok hr.text hr.crlf hr.eol hr.core hr.auto] at C
  intro gd fr base g h gn dr tk os Q E B X T S _ hret
  exact C gd fr base g h gn dr tk os Q E B X T S ⟨hd, lo, rfl, h1, rfl, h2, rfl, h3⟩ hret
set_option maxHeartbeats 8000000 in
theorem segB {L f cd W : Addr} {h₀ h : Heap} {gn : Array GenState} {dr : Drawn} {os : OsState} {tk : Nat} {m : Str → Option Value} {r : Rul} {l : List (Addr × Obj)} {lead step kind : Int} {K : Addr} {Q : Flow → Shared → Prop} {E : Value → Shared → Prop} {rest : List Stmt}
    (B : Below callerA h₀ [] h₀) (X : (Mine.K w.params).In h₀) (T : Top Mine.V JLo mean mg mb h₀) (F : Fr h₀ L h m) (N : News h₀ L h l)
    (hr : r.Ok) (hm : HasR m r) (hw : HasW m lead step W K) (hk : IsI m (Str.ofString "kind") kind)
    (H : ∀ h' tk' m' l', Fr h₀ L h' m' → News h₀ L h' l' → HasR m' r → HasW m' lead step W K → IsI m' (Str.ofString "kind") kind → HasRule m' l' r.rule → IsS m' (Str.ofString "action") (namedF r.rule) → (∀ q ∈ l, q ∈ l') →
      wpAny (model prog w) (callerA.deeper (lawEn L f cd)) (execs rest (lawEn L f cd)) Q E ⟨h', gn, dr, tk', os⟩) :
    wpAny (model prog w) (callerA.deeper (lawEn L f cd)) (execs (turnAt 3 :: turnAt 4 :: turnAt 5 :: rest) (lawEn L f cd)) Q E ⟨h, gn, dr, tk, os⟩ := by
  obtain ⟨⟨t1, q1⟩, ⟨t2, q2⟩, ⟨t3, q3⟩, ⟨t4, q4⟩, ⟨t5, q5⟩, ⟨t6, q6⟩⟩ := hm
  obtain ⟨⟨t7, q7⟩, ⟨t8, q8⟩, q9, q10⟩ := hw
  obtain ⟨t11, q11⟩ := hk
  have F' := know1 (Str.ofString "text") (know1 (Str.ofString "crlf") (know1 (Str.ofString "eol") (know1 (Str.ofString "core") (know1 (Str.ofString "auto") (know1 (Str.ofString "safe") (know1 (Str.ofString "lead") (know1 (Str.ofString "step") (know1 (Str.ofString "work") (know1 (Str.ofString "kept") (know1 (Str.ofString "kind") F q11) q10) q9) q8) q7) q6) q5) q4) q3) q2) q1
  clear F
  have hA1 := fun z => six_of hr.text z
  have hA2 := fun z => six_of hr.crlf z
  have hA3 := fun z => eol_ok hr.eol z
  have hA4 := hr.eol
  simp only [turnAt, forBody, stmtAt, lawRec, recOf, List.getD_cons_zero, List.getD_cons_succ]
  walk_at "J steps"
  all_goals (with_reducible rename ruleF _ _ _ _ = _ => hR₁)
  all_goals (replace hR₁ : r.rule = _ := hR₁)
  all_goals (with_reducible rename Fr h₀ _ _ _ => F₁)
  all_goals (with_reducible rename News h₀ _ _ _ => N₁)
  all_goals first
    | (refine H _ _ _ _ F₁ N₁ ⟨⟨_, rfl⟩, ⟨_, rfl⟩, ⟨_, rfl⟩, ⟨_, rfl⟩, ⟨_, rfl⟩, ⟨_, rfl⟩⟩ ⟨⟨_, rfl⟩, ⟨_, rfl⟩, rfl, rfl⟩ ⟨_, rfl⟩ ?_ ⟨_, rfl⟩ ?_
       · first | exact .inl ⟨hR₁, rfl⟩ | exact .inr ⟨_, _, _, hR₁, rfl, by repeat (first | exact List.mem_cons_self .. | apply List.mem_cons_of_mem)⟩
       · intro p hp; (repeat (first | exact hp | apply List.mem_cons_of_mem)); done)
    | ((with_reducible rename (_ != _) = true => hne); rw [hR₁] at hne; exact absurd hne (by simp))
    | skip

end Mine
end
section
open PySem PySem.W PySem.Calls PySem.Spec PyProof.Rows
namespace Mine
set_option maxRecDepth 100000
def IsBo (m : Str → Option Value) (x : Str) (b : Bool) : Prop := m x = some (.bool b)
/-- what the rule is -/
def RuleV (v : Value) (l : List (Addr × Obj)) (R : Option (Bool × Bool)) : Prop :=
  (R = none ∧ v = .none) ∨ (∃ d b1 b2, R = some (b1, b2) ∧ v = .ref d ∧ (d, tupB b1 b2) ∈ l)
theorem HasRule.out {m : Str → Option Value} {l : List (Addr × Obj)} {R : Option (Bool × Bool)} (h : HasRule m l R) : ∃ v, m (Str.ofString "rule") = some v ∧ RuleV v l R := by
  rcases h with ⟨h1, h2⟩ | ⟨d, b1, b2, h1, h2, h3⟩
  · exact ⟨_, h2, .inl ⟨h1, rfl⟩⟩
  · exact ⟨_, h2, .inr ⟨d, b1, b2, h1, rfl, h3⟩⟩
theorem RuleV.mono {v : Value} {l l' : List (Addr × Obj)} {R : Option (Bool × Bool)} (h : RuleV v l R) (s : ∀ q ∈ l, q ∈ l') : RuleV v l' R := by
  rcases h with h | ⟨d, b1, b2, h1, h2, h3⟩
  · exact .inl h
  · exact .inr ⟨d, b1, b2, h1, h2, s _ h3⟩
structure HasT (m : Str → Option Value) (r : Rul) (lead step kind : Int) (W K : Addr) (vr : Value) : Prop where
  rules : HasR m r
  w : HasW m lead step W K
  kind : IsI m (Str.ofString "kind") kind
  rule : m (Str.ofString "rule") = some vr
  action : IsS m (Str.ofString "action") (namedF r.rule)
structure HasC (m : Str → Option Value) (bs : List (Array UInt8)) (Ls : Addr) : Prop where
  lone : IsI m (Str.ofString "lone") (lone bs : Int)
  pairs : IsI m (Str.ofString "pairs") (pairs bs : Int)
  triples : IsI m (Str.ofString "triples") (triples bs : Int)
  blank : IsBo m (Str.ofString "blank") (binP 0 bs)
  less : m (Str.ofString "less") = some (.ref Ls)
  here : IsB m (Str.ofString "here") (jn bs)
def heldB (ks : List (Array UInt8)) : Bool := decide ((0 : Int) < (Mine.pairs ks : Int))
theorem heldB_eq (ks : List (Array UInt8)) : heldB ks = decide (0 < Mine.pairs ks) := decide_eq_decide.mpr (by omega)
structure HasD (m : Str → Option Value) (ks : List (Array UInt8)) (Ms : Addr) : Prop where
  there : IsB m (Str.ofString "there") (jn ks)
  shut : IsBo m (Str.ofString "shut") (binP 0 ks)
  more : m (Str.ofString "more") = some (.ref Ms)
  held : IsBo m (Str.ofString "held") (heldB ks)
theorem HasT.know {h₀ h : Heap} {L : Addr} {m : Str → Option Value} {r : Rul} {lead step kind : Int} {W K : Addr} {vr : Value} (H : HasT m r lead step kind W K vr) (F : Fr h₀ L h m) :
    ∃ t1 t2 t3 t4 t5 t6 t7 t8 t9 t10 : Tok, Fr h₀ L h (fun y => if y = Str.ofString "text" then some (.str r.text t1) else if y = Str.ofString "crlf" then some (.str r.crlf t2) else if y = Str.ofString "eol" then some (.str r.eol t3) else if y = Str.ofString "core" then some (.str r.core t4)
      else if y = Str.ofString "auto" then some (.bytes r.auto t5) else if y = Str.ofString "safe" then some (.bytes r.safe t6) else if y = Str.ofString "lead" then some (.int lead t7) else if y = Str.ofString "step" then some (.int step t8) else if y = Str.ofString "work" then some (.ref W) else if y = Str.ofString "kept" then some (.ref K)
      else if y = Str.ofString "kind" then some (.int kind t9) else if y = Str.ofString "rule" then some vr else if y = Str.ofString "action" then some (.str (namedF r.rule) t10) else m y) := by
  obtain ⟨⟨⟨t1, q1⟩, ⟨t2, q2⟩, ⟨t3, q3⟩, ⟨t4, q4⟩, ⟨t5, q5⟩, ⟨t6, q6⟩⟩, ⟨⟨t7, q7⟩, ⟨t8, q8⟩, q9, q10⟩, ⟨t9, q11⟩, q12, ⟨t10, q13⟩⟩ := H
  exact ⟨t1, t2, t3, t4, t5, t6, t7, t8, t9, t10, know1 (Str.ofString "text") (know1 (Str.ofString "crlf") (know1 (Str.ofString "eol") (know1 (Str.ofString "core") (know1 (Str.ofString "auto") (know1 (Str.ofString "safe") (know1 (Str.ofString "lead") (know1 (Str.ofString "step") (know1 (Str.ofString "work") (know1 (Str.ofString "kept") (know1 (Str.ofString "kind") (know1 (Str.ofString "rule") (know1 (Str.ofString "action") F q13) q12) q11) q10) q9) q8) q7) q6) q5) q4) q3) q2) q1⟩
theorem HasC.know {h₀ h : Heap} {L : Addr} {m : Str → Option Value} {bs : List (Array UInt8)} {Ls : Addr} (H : HasC m bs Ls) (F : Fr h₀ L h m) :
    ∃ t1 t2 t3 t4 : Tok, Fr h₀ L h (fun y => if y = Str.ofString "lone" then some (.int (Mine.lone bs : Int) t1) else if y = Str.ofString "pairs" then some (.int (Mine.pairs bs : Int) t2) else if y = Str.ofString "triples" then some (.int (Mine.triples bs : Int) t3)
      else if y = Str.ofString "blank" then some (.bool (binP 0 bs)) else if y = Str.ofString "less" then some (.ref Ls) else if y = Str.ofString "here" then some (.bytes (jn bs) t4) else m y) := by
  obtain ⟨⟨t1, q1⟩, ⟨t2, q2⟩, ⟨t3, q3⟩, q4, q5, ⟨t4, q6⟩⟩ := H
  exact ⟨t1, t2, t3, t4, know1 (Str.ofString "lone") (know1 (Str.ofString "pairs") (know1 (Str.ofString "triples") (know1 (Str.ofString "blank") (know1 (Str.ofString "less") (know1 (Str.ofString "here") F q6) q5) q4) q3) q2) q1⟩
theorem HasD.know {h₀ h : Heap} {L : Addr} {m : Str → Option Value} {ks : List (Array UInt8)} {Ms : Addr} (H : HasD m ks Ms) (F : Fr h₀ L h m) :
    ∃ t1 : Tok, Fr h₀ L h (fun y => if y = Str.ofString "there" then some (.bytes (jn ks) t1) else if y = Str.ofString "shut" then some (.bool (binP 0 ks)) else if y = Str.ofString "more" then some (.ref Ms) else if y = Str.ofString "held" then some (.bool (heldB ks)) else m y) := by
  obtain ⟨⟨t1, q1⟩, q2, q3, q4⟩ := H
  exact ⟨t1, know1 (Str.ofString "there") (know1 (Str.ofString "shut") (know1 (Str.ofString "more") (know1 (Str.ofString "held") F q4) q3) q2) q1⟩
section
variable {prog : Program} {w : World} {A : Around} {E : Value → Shared → Prop} {s : Shared} {l : Addr} {vs : List Value} {bs : List (Array UInt8)} {t : Tok} {Q : Value → Shared → Prop}
theorem sum_fold : ∀ (bs : List (Array UInt8)) (k : Nat), bs.foldl (fun n p => n + p.size) k = k + sumS bs
  | [], k => by simp [sumS]
  | b :: r, k => by rw [List.foldl_cons, sum_fold r, sumS_cons]; omega
theorem call_join0 (hl : s.heap.IsList l vs.toArray) (hb : BytesAre vs bs) (hs : sumS bs ≤ 1000000) (h : ∀ t' k, Q (.bytes (jn bs) t') { s with toks := k }) : wpAny (model prog w) A (call (.builtin "bytes.join") [.bytes #[] t, .ref l]) Q E s := by
  refine call_join hl hb ?_ ?_ (fun t' k => ?_)
  · rw [sum_fold]
    show 0 * _ + _ ≤ _
    omega
  · rw [joined_jn, jn_size]; omega
  · rw [joined_jn]; exact h t' k
end
/-- the sizes of a list of parts and of what comes of it -/
structure Sized (bs : List (Array UInt8)) : Prop where
  wf : WF bs
  len : bs.length ≤ 70000
theorem Sized.s0 {bs : List (Array UInt8)} (h : Sized bs) : sumS bs ≤ 80000 := by have := h.wf.size; have := h.len; omega
theorem Sized.s1 {bs : List (Array UInt8)} (h : Sized bs) : sumS (lessP bs) ≤ 80000 := by have := h.s0; have := lessP_sizes bs; omega
theorem Sized.s2 {bs : List (Array UInt8)} (h : Sized bs) : sumS (moreP false bs) ≤ 160000 := by have := h.s0; have := moreP_sizes bs false; have := h.len; omega
theorem Sized.z0 {bs : List (Array UInt8)} (h : Sized bs) : (jn bs).size ≤ 80000 := by rw [jn_size]; exact h.s0
end Mine
end
section
open PySem PySem.W PySem.Calls PySem.Spec PyProof.Rows
namespace Mine
set_option maxRecDepth 100000
variable {prog : Program} {w : World} {mean : ExcName → Option Value} {mg mb : Str → Option Value}
set_option maxHeartbeats 8000000 in
theorem segC {L f cd W K : Addr} {h₀ h : Heap} {gn : Array GenState} {dr : Drawn} {os : OsState} {tk : Nat} {m : Str → Option Value} {r : Rul} {l : List (Addr × Obj)} {lead step kind : Int} {vr : Value} {vs : List Value} {n : Nat} {bs : List (Array UInt8)} {Q : Flow → Shared → Prop} {E : Value → Shared → Prop} {rest : List Stmt}
    (B : Below callerA h₀ [] h₀) (X : (Mine.K w.params).In h₀) (T : Top Mine.V JLo mean mg mb h₀) (F : Fr h₀ L h m) (N : News h₀ L h ((W, PySem.W.listOf vs.toArray n) :: l)) (hb : BytesAre vs bs) (hz : Sized bs) (hm : HasT m r lead step kind W K vr)
    (H : ∀ h' tk' m' l' Ls vs' n', Fr h₀ L h' m' → News h₀ L h' l' → HasT m' r lead step kind W K vr → HasC m' bs Ls → (Ls, PySem.W.listOf vs'.toArray n') ∈ l' → BytesAre vs' (lessP bs) → Off l Ls → (∀ q ∈ (W, PySem.W.listOf vs.toArray n) :: l, q ∈ l') →
      wpAny (model prog w) (callerA.deeper (lawEn L f cd)) (execs rest (lawEn L f cd)) Q E ⟨h', gn, dr, tk', os⟩) :
    wpAny (model prog w) (callerA.deeper (lawEn L f cd)) (execs (turnAt 6 :: turnAt 7 :: turnAt 8 :: turnAt 9 :: turnAt 10 :: rest) (lawEn L f cd)) Q E ⟨h, gn, dr, tk, os⟩ := by
  obtain ⟨t1, t2, t3, t4, t5, t6, t7, t8, t9, t10, F'⟩ := hm.know F
  clear F hm
  have z0 := hz.s0
  have z1 := hz.s1
  have z2 := hz.s2
  have z3 := hz.z0
  have z4 := hz.len
  have z5 : (bs.map Array.size).sum ≤ 80000 := z0
  have f1 := F1 hz.wf.each
  have f2 := F2 hz.wf.each
  have f3 := F3 hz.wf.each
  simp only [turnAt, forBody, stmtAt, lawRec, recOf, List.getD_cons_zero, List.getD_cons_succ]
  walk_at "J steps"
  all_goals (with_reducible rename Fr h₀ _ _ _ => F₁)
  all_goals (with_reducible rename News h₀ _ _ _ => N₁)
  all_goals first
    | exact absurd f2 (by assumption)
    | exact absurd f3 (by assumption)
    | ((with_reducible rename (_ != _) = true => hne); rw [f1] at hne; exact absurd hne (by simp))
    | exact H _ _ _ _ _ _ _ F₁ N₁ ⟨⟨⟨_, rfl⟩, ⟨_, rfl⟩, ⟨_, rfl⟩, ⟨_, rfl⟩, ⟨_, rfl⟩, ⟨_, rfl⟩⟩, ⟨⟨_, rfl⟩, ⟨_, rfl⟩, rfl, rfl⟩, ⟨_, rfl⟩, rfl, ⟨_, rfl⟩⟩ ⟨⟨_, rfl⟩, ⟨_, rfl⟩, ⟨_, rfl⟩, rfl, rfl, ⟨_, rfl⟩⟩ (by walk_at "J mem") (by assumption) (by refine Off.sub (by assumption) ?_; intro p hp; (repeat (first | exact hp | apply List.mem_cons_of_mem))) (by intro p hp; (repeat (first | exact hp | apply List.mem_cons_of_mem)))
    | skip

end Mine
end
section
open PySem PySem.W PySem.Calls PySem.Spec PyProof.Rows
namespace Mine
set_option maxRecDepth 100000
variable {prog : Program} {w : World} {mean : ExcName → Option Value} {mg mb : Str → Option Value}
set_option maxHeartbeats 8000000 in
theorem segD {L f cd W K : Addr} {h₀ h : Heap} {gn : Array GenState} {dr : Drawn} {os : OsState} {tk : Nat} {m : Str → Option Value} {r : Rul} {l : List (Addr × Obj)} {lead step kind : Int} {vr : Value} {vs : List Value} {n : Nat} {bs ks : List (Array UInt8)} {Ls : Addr} {Q : Flow → Shared → Prop} {E : Value → Shared → Prop} {rest : List Stmt}
    (B : Below callerA h₀ [] h₀) (X : (Mine.K w.params).In h₀) (T : Top Mine.V JLo mean mg mb h₀) (F : Fr h₀ L h m) (N : News h₀ L h ((K, PySem.W.listOf vs.toArray n) :: l)) (hb : BytesAre vs ks) (hz : Sized ks) (hm : HasT m r lead step kind W K vr) (hc : HasC m bs Ls)
    (H : ∀ h' tk' m' l' Ms vs' n', Fr h₀ L h' m' → News h₀ L h' l' → HasT m' r lead step kind W K vr → HasC m' bs Ls → HasD m' ks Ms → (Ms, PySem.W.listOf vs'.toArray n') ∈ l' → BytesAre vs' (moreP false ks) → Off l Ms → (∀ q ∈ (K, PySem.W.listOf vs.toArray n) :: l, q ∈ l') →
      wpAny (model prog w) (callerA.deeper (lawEn L f cd)) (execs rest (lawEn L f cd)) Q E ⟨h', gn, dr, tk', os⟩) :
    wpAny (model prog w) (callerA.deeper (lawEn L f cd)) (execs (turnAt 11 :: turnAt 12 :: turnAt 13 :: turnAt 14 :: turnAt 15 :: rest) (lawEn L f cd)) Q E ⟨h, gn, dr, tk, os⟩ := by
  obtain ⟨u1, u2, u3, u4, F''⟩ := hc.know F
  obtain ⟨t1, t2, t3, t4, t5, t6, t7, t8, t9, t10, F'⟩ := HasT.know (r := r) (lead := lead) (step := step) (kind := kind) (W := W) (K := K) (vr := vr) (by exact ⟨⟨hm.rules.text, hm.rules.crlf, hm.rules.eol, hm.rules.core, hm.rules.auto, hm.rules.safe⟩, ⟨hm.w.lead, hm.w.step, hm.w.work, hm.w.kept⟩, hm.kind, hm.rule, hm.action⟩) F''
  clear F'' F hm hc
  have z0 := hz.s0
  have z1 := hz.s1
  have z2 := hz.s2
  have z3 := hz.z0
  have z4 := hz.len
  have z5 : (ks.map Array.size).sum ≤ 80000 := z0
  have f1 := F1 hz.wf.each
  simp only [turnAt, forBody, stmtAt, lawRec, recOf, List.getD_cons_zero, List.getD_cons_succ]
  walk_at "J steps"
  all_goals (with_reducible rename Fr h₀ _ _ _ => F₁)
  all_goals (with_reducible rename News h₀ _ _ _ => N₁)
  all_goals first
    | ((with_reducible rename (_ != _) = true => hne); rw [f1] at hne; exact absurd hne (by simp))
    | exact H _ _ _ _ _ _ _ F₁ N₁ ⟨⟨⟨_, rfl⟩, ⟨_, rfl⟩, ⟨_, rfl⟩, ⟨_, rfl⟩, ⟨_, rfl⟩, ⟨_, rfl⟩⟩, ⟨⟨_, rfl⟩, ⟨_, rfl⟩, rfl, rfl⟩, ⟨_, rfl⟩, rfl, ⟨_, rfl⟩⟩ ⟨⟨_, rfl⟩, ⟨_, rfl⟩, ⟨_, rfl⟩, rfl, rfl, ⟨_, rfl⟩⟩ ⟨⟨_, rfl⟩, rfl, rfl, rfl⟩ (by walk_at "J mem") (by assumption) (by refine Off.sub (by assumption) ?_; intro p hp; (repeat (first | exact hp | apply List.mem_cons_of_mem))) (by intro p hp; (repeat (first | exact hp | apply List.mem_cons_of_mem)))
    | skip

end Mine
end
section
open PySem PySem.W PySem.Calls PySem.Spec PyProof.Rows
namespace Mine
set_option maxRecDepth 100000
variable {prog : Program} {w : World} {mean : ExcName → Option Value} {mg mb : Str → Option Value}
/-- the names stored -/
abbrev st (x : Str) (v : Value) (m : Str → Option Value) : Str → Option Value := fun y => if y = x then some v else m y
theorem know_eq {m : Str → Option Value} {x : Str} {v : Value} (hx : m x = some v) : st x v m = m := by
  funext y
  by_cases q : y = x
  · show (if y = x then some v else m y) = _
    rw [if_pos q, q, hx]
  · exact if_neg q
def bW : Array UInt8 := #[119, 97, 114, 110]
def carefulF (safe : Array UInt8) (bs : List (Array UInt8)) : Array UInt8 := if safe = #[116, 114, 117, 101] ∧ 0 < triples bs then bW else safe
/-- a filter and what it holds -/
def FilV (w : World) (l : List (Addr × Obj)) (x : Addr) (cl sm bd : Bool) (sc : Array UInt8) (rl : Bool) (ix : Option Bool) : Prop :=
  ∃ d k1 k2 k3 k4 k5 k6 t4, (x, instObj 114 d) ∈ l ∧ (d, filD w k1 k2 k3 k4 k5 k6 (optT cl) (optT sm) (.bool bd) (.bytes sc t4) (.bool rl) (ixV ix)) ∈ l
theorem FilV.mono {w : World} {l l' : List (Addr × Obj)} {x : Addr} {cl sm bd : Bool} {sc : Array UInt8} {rl : Bool} {ix : Option Bool} (h : FilV w l x cl sm bd sc rl ix) (s : ∀ q ∈ l, q ∈ l') : FilV w l' x cl sm bd sc rl ix := by
  obtain ⟨d, k1, k2, k3, k4, k5, k6, t4, h1, h2⟩ := h
  exact ⟨d, k1, k2, k3, k4, k5, k6, t4, s _ h1, s _ h2⟩
def DrvV (w : World) (vd : Value) (l : List (Addr × Obj)) (R : Option (Bool × Bool)) (c : Array UInt8) (ib : Bool) : Prop :=
  (R = none ∧ vd = .none) ∨ ∃ b1 b2 x, R = some (b1, b2) ∧ vd = .ref x ∧ FilV w l x true b2 true c b1 (if b1 then some ib else none)
theorem DrvV.mono {w : World} {vd : Value} {l l' : List (Addr × Obj)} {R : Option (Bool × Bool)} {c : Array UInt8} {ib : Bool} (h : DrvV w vd l R c ib) (s : ∀ q ∈ l, q ∈ l') : DrvV w vd l' R c ib := by
  rcases h with h | ⟨b1, b2, x, h1, h2, h3⟩
  · exact .inl h
  · exact .inr ⟨b1, b2, x, h1, h2, h3.mono s⟩
set_option maxHeartbeats 8000000 in
theorem pure_gsf (t1 t2 : Tok) (core : Str) (a : Array UInt8) : PureF prog w mean mg mb 5 147 [.str core t1, .bytes a t2] (fun _ => True) (fun new v => new = [] ∧ v = optT (decide (a = #[116, 114, 117, 101]))) := by
  intro gd fr base g gn dr tk os Q E B X T hpre hret
  walk_at "J begin"
  walk_at "J steps"
  refine hret _ [] _ _ (Fr.keep (by k_asm)) (fun _ h => nomatch h) ⟨rfl, ?_⟩
  by_cases ha : a = #[116, 114, 117, 101]
  · rw [decide_eq_true ha]; first | (rename a = _ → _ = _ => q; exact q ha) | (rename _ → _ = Value.bool true => q; exact q ha)
  · rw [decide_eq_false ha]; first | (rename a ≠ _ → _ = _ => q; exact q ha) | (rename _ → _ = Value.none => q; exact q ha)
set_option maxHeartbeats 8000000 in
theorem pure_gcf (t1 t2 : Tok) (core : Str) (a : Array UInt8) : PureF prog w mean mg mb 5 154 [.str core t1, .bytes a t2] (fun _ => True) (fun new v => new = [] ∧ v = optT (decide (a = #[116, 114, 117, 101] ∨ a = #[105, 110, 112, 117, 116]))) := by
  intro gd fr base g gn dr tk os Q E B X T hpre hret
  walk_at "J begin"
  walk_at "J steps"
  refine hret _ [] _ _ (Fr.keep (by k_asm)) (fun _ h => nomatch h) ⟨rfl, ?_⟩
  by_cases ha : a = #[116, 114, 117, 101] ∨ a = #[105, 110, 112, 117, 116]
  · rw [decide_eq_true ha]; (rename _ → _ = Value.bool true => q); exact q ha
  · rw [decide_eq_false ha]; (rename _ → _ → _ = Value.none => q); exact q (fun z => ha (.inl z)) (fun z => ha (.inr z))
theorem pure_lefaN {r : Rul} (hR : r.rule = none) (t1 t2 : Tok) (b : Bool) (sc : Array UInt8) : PureF prog w mean mg mb 5 73 [.str (namedF r.rule) t1, .bytes sc t2, .bool b] (fun _ => True) (fun new v => new = [] ∧ v = .none) := by
  intro gd fr base g gn dr tk os Q E B X T hpre hret
  rw [hR]
  refine pure_lefa (namedF none) t1 t2 b sc gd fr base g gn dr tk os Q E B X T hpre fun v new h' tk' hs hn hp => ?_
  rcases hp with ⟨_, h1, h2⟩ | ⟨h1, _⟩
  · exact hret v new h' tk' hs hn ⟨h1, h2⟩
  · exact absurd h1 (by decide)
theorem pure_lefaS {r : Rul} {b1 b2 : Bool} (hR : r.rule = some (b1, b2)) (t1 t2 : Tok) (b : Bool) (sc : Array UInt8) : PureF prog w mean mg mb 5 73 [.str (namedF r.rule) t1, .bytes sc t2, .bool b] (fun _ => True)
    (fun new v => ∃ x d k1 k2 k3 k4 k5 k6, v = .ref x ∧ new = [(x, instObj 114 d), (d, filD w k1 k2 k3 k4 k5 k6 (optT true) (optT b2) (.bool true) (.bytes sc t2) (.bool b1) (ixV (if b1 then some b else none)))]) := by
  intro gd fr base g gn dr tk os Q E B X T hpre hret
  rw [hR]
  refine pure_lefa (namedF (some (b1, b2))) t1 t2 b sc gd fr base g gn dr tk os Q E B X T hpre fun v new h' tk' hs hn hp => ?_
  rcases hp with ⟨h1, _⟩ | ⟨_, x, d, k1, k2, k3, k4, k5, k6, sv, iv, h1, h2, h3, h4, h5, h6⟩
  · exact absurd h1 (by cases b1 <;> cases b2 <;> decide)
  · refine hret v new h' tk' hs hn ⟨x, d, k1, k2, k3, k4, k5, k6, h1, ?_⟩
    rw [h2]
    cases b1 <;> cases b2
    · rw [h4 (by decide), h6 (by decide)]; rfl
    · rw [h3 (by decide), h6 (by decide)]; rfl
    · rw [h4 (by decide), h5 (by decide)]; rfl
    · rw [h3 (by decide), h5 (by decide)]; rfl

end Mine
end
section
open PySem PySem.W PySem.Calls PySem.Spec PyProof.Rows
namespace Mine
set_option maxRecDepth 100000
variable {prog : Program} {w : World} {mean : ExcName → Option Value} {mg mb : Str → Option Value}
set_option maxHeartbeats 8000000 in
theorem segE1 {L f cd : Addr} {h₀ h : Heap} {gn : Array GenState} {dr : Drawn} {os : OsState} {tk : Nat} {m : Str → Option Value} {l : List (Addr × Obj)} {Q : Flow → Shared → Prop} {E : Value → Shared → Prop} {rest : List Stmt} {r : Rul} {bs : List (Array UInt8)}
    (B : Below callerA h₀ [] h₀) (X : (Mine.K w.params).In h₀) (T : Top Mine.V JLo mean mg mb h₀) (F : Fr h₀ L h m) (N : News h₀ L h l) (h1 : IsB m (Str.ofString "safe") r.safe) (h2 : IsI m (Str.ofString "triples") (triples bs : Int))
    (H : ∀ h' tk' t c, c = carefulF r.safe bs → Fr h₀ L h' (st (Str.ofString "careful") (.bytes c t) m) → News h₀ L h' l → wpAny (model prog w) (callerA.deeper (lawEn L f cd)) (execs rest (lawEn L f cd)) Q E ⟨h', gn, dr, tk', os⟩) :
    wpAny (model prog w) (callerA.deeper (lawEn L f cd)) (execs (turnAt 16 :: rest) (lawEn L f cd)) Q E ⟨h, gn, dr, tk, os⟩ := by
  obtain ⟨t1, q1⟩ := h1
  obtain ⟨t2, q2⟩ := h2
  have em : (st (Str.ofString "safe") (.bytes r.safe t1) (st (Str.ofString "triples") (.int (triples bs : Int) t2) m)) = m := by rw [know_eq q2, know_eq q1]
  have F' : Fr h₀ L h (st (Str.ofString "safe") (.bytes r.safe t1) (st (Str.ofString "triples") (.int (triples bs : Int) t2) m)) := by rw [em]; exact F
  clear F
  simp only [turnAt, forBody, stmtAt, lawRec, recOf, List.getD_cons_zero, List.getD_cons_succ]
  walk_at "J steps"
  all_goals (with_reducible rename Fr h₀ _ _ _ => F₁)
  all_goals (with_reducible rename News h₀ _ _ _ => N₁)
  all_goals refine H _ _ _ _ ?_ (by rw [← em]; exact F₁) N₁
  all_goals first | exact (if_pos ⟨by assumption, by omega⟩).symm | exact (if_neg (fun q => absurd q.1 (by assumption))).symm | exact (if_neg (fun q => by omega)).symm | skip

end Mine
end
section
open PySem PySem.W PySem.Calls PySem.Spec PyProof.Rows
namespace Mine
set_option maxRecDepth 100000
variable {prog : Program} {w : World} {mean : ExcName → Option Value} {mg mb : Str → Option Value}
set_option maxHeartbeats 8000000 in
theorem segE2 {L f cd : Addr} {h₀ h : Heap} {gn : Array GenState} {dr : Drawn} {os : OsState} {tk : Nat} {m : Str → Option Value} {l : List (Addr × Obj)} {Q : Flow → Shared → Prop} {E : Value → Shared → Prop} {rest : List Stmt} {r : Rul} {c : Array UInt8} {hb sb : Bool} {vr : Value}
    (B : Below callerA h₀ [] h₀) (X : (Mine.K w.params).In h₀) (T : Top Mine.V JLo mean mg mb h₀) (F : Fr h₀ L h m) (N : News h₀ L h l) (h1 : IsS m (Str.ofString "action") (namedF r.rule)) (h2 : IsB m (Str.ofString "careful") c) (h3 : IsBo m (Str.ofString "held") hb) (h4 : IsBo m (Str.ofString "shut") sb) (h5 : m (Str.ofString "rule") = some vr) (hR : RuleV vr l r.rule)
    (H : ∀ h' tk' vd l', Fr h₀ L h' (st (Str.ofString "driver") vd m) → News h₀ L h' l' → DrvV w vd l' r.rule c (hb && !sb) → (∀ q ∈ l, q ∈ l') → wpAny (model prog w) (callerA.deeper (lawEn L f cd)) (execs rest (lawEn L f cd)) Q E ⟨h', gn, dr, tk', os⟩) :
    wpAny (model prog w) (callerA.deeper (lawEn L f cd)) (execs (turnAt 17 :: turnAt 18 :: rest) (lawEn L f cd)) Q E ⟨h, gn, dr, tk, os⟩ := by
  obtain ⟨t1, q1⟩ := h1
  obtain ⟨t2, q2⟩ := h2
  rcases hR with ⟨hR, rfl⟩ | ⟨d, b1, b2, hR, rfl, hd⟩ <;> cases hb
  · have em : (st (Str.ofString "action") (.str (namedF r.rule) t1) (st (Str.ofString "careful") (.bytes c t2) (st (Str.ofString "held") (.bool false) (st (Str.ofString "shut") (.bool sb) (st (Str.ofString "rule") .none m))))) = m := by rw [know_eq h5, know_eq h4, know_eq h3, know_eq q2, know_eq q1]
    have F' : Fr h₀ L h (st (Str.ofString "action") (.str (namedF r.rule) t1) (st (Str.ofString "careful") (.bytes c t2) (st (Str.ofString "held") (.bool false) (st (Str.ofString "shut") (.bool sb) (st (Str.ofString "rule") .none m))))) := by rw [em]; exact F
    clear F
    simp only [turnAt, forBody, stmtAt, lawRec, recOf, List.getD_cons_zero, List.getD_cons_succ]
    walk_at "J steps"
    all_goals (with_reducible rename Fr h₀ _ _ _ => F₁)
    all_goals (with_reducible rename News h₀ _ _ _ => N₁)
    all_goals first
      | exact H _ _ _ _ (by rw [← em]; exact F₁) N₁ (.inl ⟨hR, rfl⟩) (by intro p hp; (repeat (first | exact hp | apply List.mem_cons_of_mem)))
      | skip
  · have em : (st (Str.ofString "action") (.str (namedF r.rule) t1) (st (Str.ofString "careful") (.bytes c t2) (st (Str.ofString "held") (.bool true) (st (Str.ofString "shut") (.bool sb) (st (Str.ofString "rule") .none m))))) = m := by rw [know_eq h5, know_eq h4, know_eq h3, know_eq q2, know_eq q1]
    have F' : Fr h₀ L h (st (Str.ofString "action") (.str (namedF r.rule) t1) (st (Str.ofString "careful") (.bytes c t2) (st (Str.ofString "held") (.bool true) (st (Str.ofString "shut") (.bool sb) (st (Str.ofString "rule") .none m))))) := by rw [em]; exact F
    clear F
    simp only [turnAt, forBody, stmtAt, lawRec, recOf, List.getD_cons_zero, List.getD_cons_succ]
    walk_at "J steps"
    all_goals (with_reducible rename Fr h₀ _ _ _ => F₁)
    all_goals (with_reducible rename News h₀ _ _ _ => N₁)
    all_goals first
      | exact H _ _ _ _ (by rw [← em]; exact F₁) N₁ (.inl ⟨hR, rfl⟩) (by intro p hp; (repeat (first | exact hp | apply List.mem_cons_of_mem)))
      | skip
  · have em : (st (Str.ofString "action") (.str (namedF r.rule) t1) (st (Str.ofString "careful") (.bytes c t2) (st (Str.ofString "held") (.bool false) (st (Str.ofString "shut") (.bool sb) (st (Str.ofString "rule") (.ref d) m))))) = m := by rw [know_eq h5, know_eq h4, know_eq h3, know_eq q2, know_eq q1]
    have F' : Fr h₀ L h (st (Str.ofString "action") (.str (namedF r.rule) t1) (st (Str.ofString "careful") (.bytes c t2) (st (Str.ofString "held") (.bool false) (st (Str.ofString "shut") (.bool sb) (st (Str.ofString "rule") (.ref d) m))))) := by rw [em]; exact F
    clear F
    simp only [turnAt, forBody, stmtAt, lawRec, recOf, List.getD_cons_zero, List.getD_cons_succ]
    walk_at "J steps"
    all_goals (with_reducible rename Fr h₀ _ _ _ => F₁)
    all_goals (with_reducible rename News h₀ _ _ _ => N₁)
    all_goals first
      | exact H _ _ _ _ (by rw [← em]; exact F₁) N₁ (.inr ⟨b1, b2, _, hR, rfl, by exact ⟨_, _, _, _, _, _, _, _, by walk_at "J mem", by walk_at "J mem"⟩⟩) (by intro p hp; (repeat (first | exact hp | apply List.mem_cons_of_mem)))
      | skip
  · have em : (st (Str.ofString "action") (.str (namedF r.rule) t1) (st (Str.ofString "careful") (.bytes c t2) (st (Str.ofString "held") (.bool true) (st (Str.ofString "shut") (.bool sb) (st (Str.ofString "rule") (.ref d) m))))) = m := by rw [know_eq h5, know_eq h4, know_eq h3, know_eq q2, know_eq q1]
    have F' : Fr h₀ L h (st (Str.ofString "action") (.str (namedF r.rule) t1) (st (Str.ofString "careful") (.bytes c t2) (st (Str.ofString "held") (.bool true) (st (Str.ofString "shut") (.bool sb) (st (Str.ofString "rule") (.ref d) m))))) := by rw [em]; exact F
    clear F
    simp only [turnAt, forBody, stmtAt, lawRec, recOf, List.getD_cons_zero, List.getD_cons_succ]
    walk_at "J steps"
    all_goals (with_reducible rename Fr h₀ _ _ _ => F₁)
    all_goals (with_reducible rename News h₀ _ _ _ => N₁)
    all_goals first
      | exact H _ _ _ _ (by rw [← em]; exact F₁) N₁ (.inr ⟨b1, b2, _, hR, rfl, by exact ⟨_, _, _, _, _, _, _, _, by walk_at "J mem", by walk_at "J mem"⟩⟩) (by intro p hp; (repeat (first | exact hp | apply List.mem_cons_of_mem)))
      | skip

end Mine
end
section
open PySem PySem.W PySem.Calls PySem.Spec PyProof.Rows
namespace Mine
set_option maxRecDepth 100000
variable {prog : Program} {w : World} {mean : ExcName → Option Value} {mg mb : Str → Option Value}
set_option maxHeartbeats 8000000 in
theorem segE3 {L f cd : Addr} {h₀ h : Heap} {gn : Array GenState} {dr : Drawn} {os : OsState} {tk : Nat} {m : Str → Option Value} {l : List (Addr × Obj)} {Q : Flow → Shared → Prop} {E : Value → Shared → Prop} {rest : List Stmt} {r : Rul} {c : Array UInt8} {lead step : Int}
    (B : Below callerA h₀ [] h₀) (X : (Mine.K w.params).In h₀) (T : Top Mine.V JLo mean mg mb h₀) (F : Fr h₀ L h m) (N : News h₀ L h l) (h1 : IsI m (Str.ofString "lead") lead) (h2 : IsI m (Str.ofString "step") step) (h3 : IsS m (Str.ofString "core") r.core) (h4 : IsB m (Str.ofString "auto") r.auto) (h5 : IsB m (Str.ofString "careful") c)
    (H : ∀ h' tk' lk x l', Fr h₀ L h' (st (Str.ofString "plain") (.ref x) (st (Str.ofString "looks") (.bool lk) m)) → News h₀ L h' l' → FilV w l' x (decide (r.auto = #[116, 114, 117, 101] ∨ r.auto = #[105, 110, 112, 117, 116])) (decide (r.auto = #[116, 114, 117, 101])) lk c false none → (∀ q ∈ l, q ∈ l') → wpAny (model prog w) (callerA.deeper (lawEn L f cd)) (execs rest (lawEn L f cd)) Q E ⟨h', gn, dr, tk', os⟩) :
    wpAny (model prog w) (callerA.deeper (lawEn L f cd)) (execs (turnAt 19 :: turnAt 20 :: rest) (lawEn L f cd)) Q E ⟨h, gn, dr, tk, os⟩ := by
  obtain ⟨t1, q1⟩ := h1
  obtain ⟨t2, q2⟩ := h2
  obtain ⟨t3, q3⟩ := h3
  obtain ⟨t4, q4⟩ := h4
  obtain ⟨t5, q5⟩ := h5
  have em : (st (Str.ofString "lead") (.int lead t1) (st (Str.ofString "step") (.int step t2) (st (Str.ofString "core") (.str r.core t3) (st (Str.ofString "auto") (.bytes r.auto t4) (st (Str.ofString "careful") (.bytes c t5) m))))) = m := by rw [know_eq q5, know_eq q4, know_eq q3, know_eq q2, know_eq q1]
  have F' : Fr h₀ L h (st (Str.ofString "lead") (.int lead t1) (st (Str.ofString "step") (.int step t2) (st (Str.ofString "core") (.str r.core t3) (st (Str.ofString "auto") (.bytes r.auto t4) (st (Str.ofString "careful") (.bytes c t5) m))))) := by rw [em]; exact F
  clear F
  simp only [turnAt, forBody, stmtAt, lawRec, recOf, List.getD_cons_zero, List.getD_cons_succ]
  walk_at "J steps"
  all_goals (with_reducible rename Fr h₀ _ _ _ => F₁)
  all_goals (with_reducible rename News h₀ _ _ _ => N₁)
  all_goals first
    | exact H _ _ _ _ _ (by rw [← em]; exact F₁) N₁ ⟨_, _, _, _, _, _, _, _, by walk_at "J mem", by walk_at "J mem"⟩ (by intro p hp; (repeat (first | exact hp | apply List.mem_cons_of_mem)))
    | skip

end Mine
end
section
open PySem PySem.W PySem.Calls PySem.Spec PyProof.Rows
namespace Mine
set_option maxRecDepth 100000
/-- a way: a filter and five bools -/
abbrev tup6 (x : Addr) (cl sm bd rl sy : Bool) : Obj := { cls := .type "tuple", data := .seq #[.ref x, .bool cl, .bool sm, .bool bd, .bool rl, .bool sy] }
def WayT (l : List (Addr × Obj)) (v : Value) (x : Addr) (cl sm bd rl sy : Bool) : Prop := ∃ t, v = .ref t ∧ (t, tup6 x cl sm bd rl sy) ∈ l
def WaysV (l : List (Addr × Obj)) (wl : Addr) (R : Option (Bool × Bool)) (vd : Value) (x0 : Addr) (c0 s0 lk ib : Bool) : Prop :=
  ∃ n vs, (wl, PySem.W.listOf vs.toArray n) ∈ l ∧ ((R = none ∧ ∃ v1, vs = [v1] ∧ WayT l v1 x0 c0 s0 lk false false) ∨
    (∃ b1 b2 x v1 v2, R = some (b1, b2) ∧ vd = .ref x ∧ vs = [v1, v2] ∧ WayT l v1 x0 c0 s0 lk false false ∧ WayT l v2 x true b2 true b1 (b1 && ib)))
theorem in_two {a x y : Array UInt8} : decide (a ∈ [x, y]) = decide (a = x ∨ a = y) := by simp
theorem News.cons {h₀ h : Heap} {L : Addr} {p : Addr × Obj} {l : List (Addr × Obj)} (N : News h₀ L h l) (hp : p ∈ l) : News h₀ L h (p :: l) := fun q hq => by
  rcases List.mem_cons.mp hq with rfl | hq
  · exact N _ hp
  · exact N _ hq
end Mine
end
section
open PySem PySem.W PySem.Calls PySem.Spec PyProof.Rows
namespace Mine
set_option maxRecDepth 100000
variable {prog : Program} {w : World} {mean : ExcName → Option Value} {mg mb : Str → Option Value}
set_option maxHeartbeats 8000000 in
theorem segF {L f cd : Addr} {h₀ h : Heap} {gn : Array GenState} {dr : Drawn} {os : OsState} {tk : Nat} {m : Str → Option Value} {l : List (Addr × Obj)} {Q : Flow → Shared → Prop} {E : Value → Shared → Prop} {rest : List Stmt} {r : Rul} {c : Array UInt8} {x0 W K : Addr} {lk hb sb : Bool} {vr vd : Value}
    (B : Below callerA h₀ [] h₀) (X : (Mine.K w.params).In h₀) (T : Top Mine.V JLo mean mg mb h₀) (F : Fr h₀ L h m) (N : News h₀ L h l) (h1 : IsB m (Str.ofString "auto") r.auto) (h2 : m (Str.ofString "plain") = some (.ref x0)) (h3 : IsBo m (Str.ofString "looks") lk) (h4 : m (Str.ofString "rule") = some vr) (hR : RuleV vr l r.rule) (h5 : m (Str.ofString "driver") = some vd) (hD : DrvV w vd l r.rule c (hb && !sb)) (h6 : IsBo m (Str.ofString "held") hb) (h7 : IsBo m (Str.ofString "shut") sb)
    (h8 : m (Str.ofString "work") = some (.ref W)) (h9 : m (Str.ofString "kept") = some (.ref K))
    (H : ∀ h' tk' wl l', Fr h₀ L h' (st (Str.ofString "outward") (.ref K) (st (Str.ofString "inward") (.ref W) (st (Str.ofString "ways") (.ref wl) m))) → News h₀ L h' l' → WaysV l' wl r.rule vd x0 (decide (r.auto = #[116, 114, 117, 101] ∨ r.auto = #[105, 110, 112, 117, 116])) (decide (r.auto = #[116, 114, 117, 101])) lk (hb && !sb) → (∀ q ∈ l, q ∈ l') → wpAny (model prog w) (callerA.deeper (lawEn L f cd)) (execs rest (lawEn L f cd)) Q E ⟨h', gn, dr, tk', os⟩) :
    wpAny (model prog w) (callerA.deeper (lawEn L f cd)) (execs (turnAt 21 :: turnAt 22 :: turnAt 23 :: turnAt 24 :: rest) (lawEn L f cd)) Q E ⟨h, gn, dr, tk, os⟩ := by
  obtain ⟨t1, q1⟩ := h1
  rcases hR with ⟨hR, rfl⟩ | ⟨d, b1, b2, hR, rfl, hd⟩
  · have em : (st (Str.ofString "auto") (.bytes r.auto t1) (st (Str.ofString "plain") (.ref x0) (st (Str.ofString "looks") (.bool lk) (st (Str.ofString "rule") .none (st (Str.ofString "driver") vd (st (Str.ofString "held") (.bool hb) (st (Str.ofString "shut") (.bool sb) (st (Str.ofString "work") (.ref W) (st (Str.ofString "kept") (.ref K) m))))))))) = m := by rw [know_eq h9, know_eq h8, know_eq h7, know_eq h6, know_eq h5, know_eq h4, know_eq h3, know_eq h2, know_eq q1]
    have F' : Fr h₀ L h (st (Str.ofString "auto") (.bytes r.auto t1) (st (Str.ofString "plain") (.ref x0) (st (Str.ofString "looks") (.bool lk) (st (Str.ofString "rule") .none (st (Str.ofString "driver") vd (st (Str.ofString "held") (.bool hb) (st (Str.ofString "shut") (.bool sb) (st (Str.ofString "work") (.ref W) (st (Str.ofString "kept") (.ref K) m))))))))) := by rw [em]; exact F
    clear F
    simp only [turnAt, forBody, stmtAt, lawRec, recOf, List.getD_cons_zero, List.getD_cons_succ]
    walk_at "J steps"
    all_goals (with_reducible rename Fr h₀ _ _ _ => F₁)
    all_goals (with_reducible rename News h₀ _ _ _ => N₁)
    all_goals first
      | (exact H _ _ _ _ (by rw [← em]; exact F₁) N₁ ⟨_, _, by walk_at "J mem", .inl ⟨hR, _, rfl, ⟨_, rfl, by rw [← in_two]; walk_at "J mem"⟩⟩⟩ (by intro p hp; (repeat (first | exact hp | apply List.mem_cons_of_mem))))
      | skip
  · rcases hD with ⟨hR', _⟩ | ⟨b1', b2', x, hR', rfl, _⟩
    · rw [hR] at hR'; cases hR'
    replace N := News.cons N hd
    rw [show tupB b1 b2 = { cls := .type "tuple", data := .seq #[.bool b1, .bool b2] } from rfl] at N hd
    clear hd
    cases b1 <;> cases hb
    · have em : (st (Str.ofString "auto") (.bytes r.auto t1) (st (Str.ofString "plain") (.ref x0) (st (Str.ofString "looks") (.bool lk) (st (Str.ofString "rule") (.ref d) (st (Str.ofString "driver") (.ref x) (st (Str.ofString "held") (.bool false) (st (Str.ofString "shut") (.bool sb) (st (Str.ofString "work") (.ref W) (st (Str.ofString "kept") (.ref K) m))))))))) = m := by rw [know_eq h9, know_eq h8, know_eq h7, know_eq h6, know_eq h5, know_eq h4, know_eq h3, know_eq h2, know_eq q1]
      have F' : Fr h₀ L h (st (Str.ofString "auto") (.bytes r.auto t1) (st (Str.ofString "plain") (.ref x0) (st (Str.ofString "looks") (.bool lk) (st (Str.ofString "rule") (.ref d) (st (Str.ofString "driver") (.ref x) (st (Str.ofString "held") (.bool false) (st (Str.ofString "shut") (.bool sb) (st (Str.ofString "work") (.ref W) (st (Str.ofString "kept") (.ref K) m))))))))) := by rw [em]; exact F
      clear F
      simp only [turnAt, forBody, stmtAt, lawRec, recOf, List.getD_cons_zero, List.getD_cons_succ]
      walk_at "J steps"
      all_goals (with_reducible rename Fr h₀ _ _ _ => F₁)
      all_goals (with_reducible rename News h₀ _ _ _ => N₁)
      all_goals first
        | (exact H _ _ _ _ (by rw [← em]; exact F₁) N₁ ⟨_, _, by walk_at "J mem", .inr ⟨false, b2, x, _, _, hR, rfl, rfl, ⟨_, rfl, by rw [← in_two]; walk_at "J mem"⟩, ⟨_, rfl, by walk_at "J mem"⟩⟩⟩ (by intro p hp; (repeat (first | exact hp | apply List.mem_cons_of_mem))))
        | skip
    · have em : (st (Str.ofString "auto") (.bytes r.auto t1) (st (Str.ofString "plain") (.ref x0) (st (Str.ofString "looks") (.bool lk) (st (Str.ofString "rule") (.ref d) (st (Str.ofString "driver") (.ref x) (st (Str.ofString "held") (.bool true) (st (Str.ofString "shut") (.bool sb) (st (Str.ofString "work") (.ref W) (st (Str.ofString "kept") (.ref K) m))))))))) = m := by rw [know_eq h9, know_eq h8, know_eq h7, know_eq h6, know_eq h5, know_eq h4, know_eq h3, know_eq h2, know_eq q1]
      have F' : Fr h₀ L h (st (Str.ofString "auto") (.bytes r.auto t1) (st (Str.ofString "plain") (.ref x0) (st (Str.ofString "looks") (.bool lk) (st (Str.ofString "rule") (.ref d) (st (Str.ofString "driver") (.ref x) (st (Str.ofString "held") (.bool true) (st (Str.ofString "shut") (.bool sb) (st (Str.ofString "work") (.ref W) (st (Str.ofString "kept") (.ref K) m))))))))) := by rw [em]; exact F
      clear F
      simp only [turnAt, forBody, stmtAt, lawRec, recOf, List.getD_cons_zero, List.getD_cons_succ]
      walk_at "J steps"
      all_goals (with_reducible rename Fr h₀ _ _ _ => F₁)
      all_goals (with_reducible rename News h₀ _ _ _ => N₁)
      all_goals first
        | (exact H _ _ _ _ (by rw [← em]; exact F₁) N₁ ⟨_, _, by walk_at "J mem", .inr ⟨false, b2, x, _, _, hR, rfl, rfl, ⟨_, rfl, by rw [← in_two]; walk_at "J mem"⟩, ⟨_, rfl, by walk_at "J mem"⟩⟩⟩ (by intro p hp; (repeat (first | exact hp | apply List.mem_cons_of_mem))))
        | skip
    · have em : (st (Str.ofString "auto") (.bytes r.auto t1) (st (Str.ofString "plain") (.ref x0) (st (Str.ofString "looks") (.bool lk) (st (Str.ofString "rule") (.ref d) (st (Str.ofString "driver") (.ref x) (st (Str.ofString "held") (.bool false) (st (Str.ofString "shut") (.bool sb) (st (Str.ofString "work") (.ref W) (st (Str.ofString "kept") (.ref K) m))))))))) = m := by rw [know_eq h9, know_eq h8, know_eq h7, know_eq h6, know_eq h5, know_eq h4, know_eq h3, know_eq h2, know_eq q1]
      have F' : Fr h₀ L h (st (Str.ofString "auto") (.bytes r.auto t1) (st (Str.ofString "plain") (.ref x0) (st (Str.ofString "looks") (.bool lk) (st (Str.ofString "rule") (.ref d) (st (Str.ofString "driver") (.ref x) (st (Str.ofString "held") (.bool false) (st (Str.ofString "shut") (.bool sb) (st (Str.ofString "work") (.ref W) (st (Str.ofString "kept") (.ref K) m))))))))) := by rw [em]; exact F
      clear F
      simp only [turnAt, forBody, stmtAt, lawRec, recOf, List.getD_cons_zero, List.getD_cons_succ]
      walk_at "J steps"
      all_goals (with_reducible rename Fr h₀ _ _ _ => F₁)
      all_goals (with_reducible rename News h₀ _ _ _ => N₁)
      all_goals first
        | (exact H _ _ _ _ (by rw [← em]; exact F₁) N₁ ⟨_, _, by walk_at "J mem", .inr ⟨true, b2, x, _, _, hR, rfl, rfl, ⟨_, rfl, by rw [← in_two]; walk_at "J mem"⟩, ⟨_, rfl, by walk_at "J mem"⟩⟩⟩ (by intro p hp; (repeat (first | exact hp | apply List.mem_cons_of_mem))))
        | skip
    · have em : (st (Str.ofString "auto") (.bytes r.auto t1) (st (Str.ofString "plain") (.ref x0) (st (Str.ofString "looks") (.bool lk) (st (Str.ofString "rule") (.ref d) (st (Str.ofString "driver") (.ref x) (st (Str.ofString "held") (.bool true) (st (Str.ofString "shut") (.bool sb) (st (Str.ofString "work") (.ref W) (st (Str.ofString "kept") (.ref K) m))))))))) = m := by rw [know_eq h9, know_eq h8, know_eq h7, know_eq h6, know_eq h5, know_eq h4, know_eq h3, know_eq h2, know_eq q1]
      have F' : Fr h₀ L h (st (Str.ofString "auto") (.bytes r.auto t1) (st (Str.ofString "plain") (.ref x0) (st (Str.ofString "looks") (.bool lk) (st (Str.ofString "rule") (.ref d) (st (Str.ofString "driver") (.ref x) (st (Str.ofString "held") (.bool true) (st (Str.ofString "shut") (.bool sb) (st (Str.ofString "work") (.ref W) (st (Str.ofString "kept") (.ref K) m))))))))) := by rw [em]; exact F
      clear F
      simp only [turnAt, forBody, stmtAt, lawRec, recOf, List.getD_cons_zero, List.getD_cons_succ]
      walk_at "J steps"
      all_goals (with_reducible rename Fr h₀ _ _ _ => F₁)
      all_goals (with_reducible rename News h₀ _ _ _ => N₁)
      all_goals first
        | (exact H _ _ _ _ (by rw [← em]; exact F₁) N₁ ⟨_, _, by walk_at "J mem", .inr ⟨true, b2, x, _, _, hR, rfl, rfl, ⟨_, rfl, by rw [← in_two]; walk_at "J mem"⟩, ⟨_, rfl, by walk_at "J mem"⟩⟩⟩ (by intro p hp; (repeat (first | exact hp | apply List.mem_cons_of_mem))))
        | skip

end Mine
end
section
open PySem PySem.W PySem.Calls PySem.Spec PyProof.Rows
namespace Mine
set_option maxRecDepth 100000
variable {prog : Program} {w : World} {mean : ExcName → Option Value} {mg mb : Str → Option Value}
noncomputable def wayBody : List Stmt := match turnAt 25 with
  | .For _ _ b _ _ => b
  | _ => []
noncomputable def wayAt (k : Nat) : Stmt := wayBody.getD k (.Pass {line := 0, col := 0, endLine := 0, endCol := 0})
/-- what goes in -/
def InV (vi : Value) (W Ls : Addr) (cl bd sy : Bool) (c : Array UInt8) (bs : List (Array UInt8)) : Prop :=
  ((!cl || (bd && binP 0 bs) || (sy && decide (0 < pairs bs))) = true ∧ vi = .ref W) ∨
  ((!cl || (bd && binP 0 bs) || (sy && decide (0 < pairs bs))) = false ∧ (c = #[116, 114, 117, 101] ∧ 0 < pairs bs ∧ 0 < lone bs) ∧ vi = .none) ∨
  ((!cl || (bd && binP 0 bs) || (sy && decide (0 < pairs bs))) = false ∧ ¬ (c = #[116, 114, 117, 101] ∧ 0 < pairs bs ∧ 0 < lone bs) ∧ vi = .ref Ls)
def OutV (vo : Value) (K Ms : Addr) (sm bd rl : Bool) (ks : List (Array UInt8)) : Prop :=
  ((!sm || (bd && binP 0 ks) || (rl && ks.any (· == #[13]))) = true ∧ vo = .ref K) ∨
  ((!sm || (bd && binP 0 ks) || (rl && ks.any (· == #[13]))) = false ∧ vo = .ref Ms)
theorem keeps_eq {bs : List (Array UInt8)} (h : ∀ b ∈ bs, WFp b) (cl bd : Bool) (ix : Option Bool) : keepsC cl bd ix (jn bs) = (!cl || (bd && binP 0 bs) || (decide (ix = some true) && decide (0 < pairs bs))) := by
  unfold keepsC
  rw [F1 h, F4 h]
theorem smudge_eq {ks : List (Array UInt8)} (h : ∀ b ∈ ks, WFp b) (sm bd rl : Bool) : smudgeF sm bd rl (jn ks) = if (!sm || (bd && binP 0 ks) || (rl && ks.any (· == #[13]))) then jn ks else jn (moreP false ks) := by
  unfold smudgeF
  rw [F1 h, F5 h, F3 h]
  generalize binP 0 ks = a
  generalize ks.any (· == #[13]) = b
  cases sm <;> cases bd <;> cases rl <;> cases a <;> cases b <;> rfl
section
variable {x d : Addr} {k1 k2 k3 k4 k5 k6 t4 : Tok} {v2 v5 : Value} {cl bd : Bool} {ix : Option Bool} {sc : Array UInt8} {bs : List (Array UInt8)} {t5 : Tok}
theorem cl_keep (hz : Sized bs) (hk : keepsC cl bd ix (jn bs) = true) : PureL prog w mean mg mb 3 269 [.ref x, .bytes (jn bs) t5] [(x, instObj 114 d), (d, filD w k1 k2 k3 k4 k5 k6 (optT cl) v2 (.bool bd) (.bytes sc t4) v5 (ixV ix))] True
    (fun new v => new = [] ∧ ∃ t, v = .bytes (jn bs) t) := by
  have C := L_cleaned (prog := prog) (w := w) (mean := mean) (mg := mg) (mb := mb) x d k1 k2 k3 k4 k5 k6 t4 t5 v2 v5 cl bd ix sc (jn bs)
  rw [hk] at C
  intro gd fr base g h gn dr tk os Q E B X T S _ hret
  have z0 := hz.z0
  have z1 := hz.s1
  refine C gd fr base g h gn dr tk os Q E B X T S ⟨by omega, ?_, fun q => by cases q⟩ hret
  rw [F2 hz.wf.each, jn_size]; omega
theorem cl_less (hz : Sized bs) (hk : keepsC cl bd ix (jn bs) = false) (hr : sc = bTrue → raiseC (jn bs) (less (jn bs).toList).toArray = false) : PureL prog w mean mg mb 3 269 [.ref x, .bytes (jn bs) t5] [(x, instObj 114 d), (d, filD w k1 k2 k3 k4 k5 k6 (optT cl) v2 (.bool bd) (.bytes sc t4) v5 (ixV ix))] True
    (fun new v => new = [] ∧ ∃ t, v = .bytes (jn (lessP bs)) t) := by
  have C := L_cleaned (prog := prog) (w := w) (mean := mean) (mg := mg) (mb := mb) x d k1 k2 k3 k4 k5 k6 t4 t5 v2 v5 cl bd ix sc (jn bs)
  rw [hk] at C
  intro gd fr base g h gn dr tk os Q E B X T S _ hret
  have z0 := hz.z0
  have z1 := hz.s1
  refine C gd fr base g h gn dr tk os Q E B X T S ⟨by omega, ?_, fun _ => hr⟩ fun v new h' tk' st' hn hp => hret v new h' tk' st' hn ?_
  · rw [F2 hz.wf.each, jn_size]; omega
  · rw [F2 hz.wf.each] at hp; exact hp
theorem cl_raise (hz : Sized bs) (hk : keepsC cl bd ix (jn bs) = false) (hs : sc = bTrue) (hr : raiseC (jn bs) (less (jn bs).toList).toArray = true) : PureS prog w mean mg mb 3 269 [.ref x, .bytes (jn bs) t5] [(x, instObj 114 d), (d, filD w k1 k2 k3 k4 k5 k6 (optT cl) v2 (.bool bd) (.bytes sc t4) v5 (ixV ix))] True
    (fun new v => new = [] ∧ v = .none) := by
  have C := S_cleaned (prog := prog) (w := w) (mean := mean) (mg := mg) (mb := mb) x d k1 k2 k3 k4 k5 k6 t4 t5 v2 v5 cl bd ix sc (jn bs)
  intro gd fr base g h gn dr tk os Q E B X T S XB TB D _ hret
  have z0 := hz.z0
  have z1 := hz.s1
  refine C gd fr base g h gn dr tk os Q E B X T S XB TB D ⟨by omega, ?_, hk, hs, hr⟩ hret
  rw [F2 hz.wf.each, jn_size]; omega
end
theorem sm_any {x d : Addr} {k1 k2 k3 k4 k5 k6 t4 : Tok} {v1 v6 : Value} {sm bd rl : Bool} {sc : Array UInt8} {ks : List (Array UInt8)} {t5 : Tok} (hz : Sized ks) : PureL prog w mean mg mb 4 104 [.ref x, .bytes (jn ks) t5] [(x, instObj 114 d), (d, filD w k1 k2 k3 k4 k5 k6 v1 (optT sm) (.bool bd) (.bytes sc t4) (.bool rl) v6)] True
    (fun new v => new = [] ∧ ∃ t, v = .bytes (smudgeF sm bd rl (jn ks)) t) := by
  have C := L_smudge (prog := prog) (w := w) (mean := mean) (mg := mg) (mb := mb) x d k1 k2 k3 k4 k5 k6 t4 t5 v1 v6 sm bd rl sc (jn ks)
  intro gd fr base g h gn dr tk os Q E B X T S _ hret
  have z0 := hz.z0
  have z2 := hz.s2
  refine C gd fr base g h gn dr tk os Q E B X T S ⟨by omega, ?_, F7 _⟩ hret
  rw [F3 hz.wf.each, jn_size]; omega

end Mine
end
section
open PySem PySem.W PySem.Calls PySem.Spec PyProof.Rows
namespace Mine
set_option maxRecDepth 100000
variable {prog : Program} {w : World} {mean : ExcName → Option Value} {mg mb : Str → Option Value}
set_option maxHeartbeats 8000000 in
theorem segG0 {L f cd : Addr} {h₀ h : Heap} {gn : Array GenState} {dr : Drawn} {os : OsState} {tk : Nat} {m : Str → Option Value} {l : List (Addr × Obj)} {Q : Flow → Shared → Prop} {E : Value → Shared → Prop} {rest : List Stmt} {W Ls : Addr} {cl bd sy : Bool} {c : Array UInt8} {bs : List (Array UInt8)}
    (B : Below callerA h₀ [] h₀) (X : (Mine.K w.params).In h₀) (T : Top Mine.V JLo mean mg mb h₀) (F : Fr h₀ L h m) (N : News h₀ L h l) (h1 : IsBo m (Str.ofString "cleans") cl) (h2 : IsBo m (Str.ofString "finds") bd) (h3 : IsBo m (Str.ofString "blank") (binP 0 bs)) (h4 : IsBo m (Str.ofString "stays") sy) (h5 : IsI m (Str.ofString "pairs") (pairs bs : Int)) (h6 : IsI m (Str.ofString "lone") (lone bs : Int)) (h7 : IsB m (Str.ofString "careful") c)
    (h8 : m (Str.ofString "work") = some (.ref W)) (h9 : m (Str.ofString "less") = some (.ref Ls))
    (H : ∀ h' tk' vi, Fr h₀ L h' (st (Str.ofString "inward") vi m) → News h₀ L h' l → InV vi W Ls cl bd sy c bs → wpAny (model prog w) (callerA.deeper (lawEn L f cd)) (execs rest (lawEn L f cd)) Q E ⟨h', gn, dr, tk', os⟩) :
    wpAny (model prog w) (callerA.deeper (lawEn L f cd)) (execs (wayAt 0 :: rest) (lawEn L f cd)) Q E ⟨h, gn, dr, tk, os⟩ := by
  obtain ⟨t1, q1⟩ := h5
  obtain ⟨t2, q2⟩ := h6
  obtain ⟨t3, q3⟩ := h7
  have e1 : ((0 : Int) < (pairs bs : Int)) ↔ 0 < pairs bs := by omega
  have e2 : ((0 : Int) < (lone bs : Int)) ↔ 0 < lone bs := by omega
  have em : (st (Str.ofString "cleans") (.bool cl) (st (Str.ofString "finds") (.bool bd) (st (Str.ofString "blank") (.bool (binP 0 bs)) (st (Str.ofString "stays") (.bool sy) (st (Str.ofString "pairs") (.int (pairs bs : Int) t1) (st (Str.ofString "lone") (.int (lone bs : Int) t2) (st (Str.ofString "careful") (.bytes c t3) (st (Str.ofString "work") (.ref W) (st (Str.ofString "less") (.ref Ls) m))))))))) = m := by rw [know_eq h9, know_eq h8, know_eq q3, know_eq q2, know_eq q1, know_eq h4, know_eq h3, know_eq h2, know_eq h1]
  have F' : Fr h₀ L h (st (Str.ofString "cleans") (.bool cl) (st (Str.ofString "finds") (.bool bd) (st (Str.ofString "blank") (.bool (binP 0 bs)) (st (Str.ofString "stays") (.bool sy) (st (Str.ofString "pairs") (.int (pairs bs : Int) t1) (st (Str.ofString "lone") (.int (lone bs : Int) t2) (st (Str.ofString "careful") (.bytes c t3) (st (Str.ofString "work") (.ref W) (st (Str.ofString "less") (.ref Ls) m))))))))) := by rw [em]; exact F
  clear F
  simp only [wayAt, wayBody, turnAt, forBody, stmtAt, lawRec, recOf, List.getD_cons_zero, List.getD_cons_succ]
  walk_at "J steps"
  all_goals (with_reducible rename Fr h₀ _ _ _ => F₁)
  all_goals (with_reducible rename News h₀ _ _ _ => N₁)
  all_goals refine H _ _ _ (by rw [← em]; exact F₁) N₁ ?_
  all_goals first
    | (refine Or.inl ⟨?_, rfl⟩; simp_all; done)
    | (refine Or.inr (Or.inl ⟨?_, ?_, rfl⟩) <;> simp_all <;> done)
    | (refine Or.inr (Or.inr ⟨?_, ?_, rfl⟩) <;> simp_all <;> done)
    | skip

end Mine
end
section
open PySem PySem.W PySem.Calls PySem.Spec PyProof.Rows
namespace Mine
set_option maxRecDepth 100000
variable {prog : Program} {w : World} {mean : ExcName → Option Value} {mg mb : Str → Option Value}
set_option maxHeartbeats 8000000 in
theorem segG1 {L f cd : Addr} {h₀ h : Heap} {gn : Array GenState} {dr : Drawn} {os : OsState} {tk : Nat} {m : Str → Option Value} {l : List (Addr × Obj)} {Q : Flow → Shared → Prop} {E : Value → Shared → Prop} {rest : List Stmt} {x d W Ls : Addr} {k1 k2 k3 k4 k5 k6 t0 : Tok} {cl sm bd rl : Bool} {ix : Option Bool} {c : Array UInt8} {bs : List (Array UInt8)} {vs vs' : List Value} {n n' : Nat} {vi : Value}
    (B : Below callerA h₀ [] h₀) (X : (Mine.K w.params).In h₀) (T : Top Mine.V JLo mean mg mb h₀) (F : Fr h₀ L h m) (N : News h₀ L h ((x, instObj 114 d) :: (d, filD w k1 k2 k3 k4 k5 k6 (optT cl) (optT sm) (.bool bd) (.bytes c t0) (.bool rl) (ixV ix)) :: (W, PySem.W.listOf vs.toArray n) :: (Ls, PySem.W.listOf vs'.toArray n') :: l)) (hb : BytesAre vs bs) (hb' : BytesAre vs' (lessP bs)) (hz : Sized bs) (hc : c = #[116, 114, 117, 101] → triples bs = 0)
    (h1 : m (Str.ofString "way") = some (.ref x)) (h2 : IsB m (Str.ofString "here") (jn bs)) (h3 : m (Str.ofString "inward") = some vi) (hI : InV vi W Ls cl bd (decide (ix = some true)) c bs)
    (H : ∀ h' tk', Fr h₀ L h' m → News h₀ L h' ((x, instObj 114 d) :: (d, filD w k1 k2 k3 k4 k5 k6 (optT cl) (optT sm) (.bool bd) (.bytes c t0) (.bool rl) (ixV ix)) :: (W, PySem.W.listOf vs.toArray n) :: (Ls, PySem.W.listOf vs'.toArray n') :: l) → wpAny (model prog w) (callerA.deeper (lawEn L f cd)) (execs rest (lawEn L f cd)) Q E ⟨h', gn, dr, tk', os⟩) :
    wpAny (model prog w) (callerA.deeper (lawEn L f cd)) (execs (wayAt 1 :: rest) (lawEn L f cd)) Q E ⟨h, gn, dr, tk, os⟩ := by
  obtain ⟨t2, q2⟩ := h2
  have z0 := hz.s0
  have z1 := hz.s1
  unfold InV at hI
  rw [← keeps_eq hz.wf.each] at hI
  rcases hI with ⟨hk, rfl⟩ | ⟨hk, hq, rfl⟩ | ⟨hk, hq, rfl⟩
  · have em : (st (Str.ofString "way") (.ref x) (st (Str.ofString "here") (.bytes (jn bs) t2) (st (Str.ofString "inward") (.ref W) m))) = m := by rw [know_eq h3, know_eq q2, know_eq h1]
    have F' : Fr h₀ L h (st (Str.ofString "way") (.ref x) (st (Str.ofString "here") (.bytes (jn bs) t2) (st (Str.ofString "inward") (.ref W) m))) := by rw [em]; exact F
    clear F
    simp only [wayAt, wayBody, turnAt, forBody, stmtAt, lawRec, recOf, List.getD_cons_zero, List.getD_cons_succ]
    repeat' ((fail_if_success (with_reducible show wpAny _ _ (call (Value.ref 269) _) _ _ _)); walk_at "J step")
    refine' use_L (cl_keep (d := d) (k1 := k1) (k2 := k2) (k3 := k3) (k4 := k4) (k5 := k5) (k6 := k6) (t4 := t0) (v2 := optT sm) (v5 := .bool rl) hz hk) ?B ?F ?X ?N ?T ?h1 ?h2 ?h3 ?h4 ?h5 ?sub ?pre ?_
    (case B => assumption)
    (case F => k_asm)
    (case X => assumption)
    (case N => k_asm)
    (case T => assumption)
    (case h1 => exact rfl)
    (case h2 => exact rfl)
    (case h3 => exact rfl)
    (case h4 => exact Nat.le_of_ble_eq_true rfl)
    (case h5 => exact Nat.le_of_ble_eq_true rfl)
    (case sub => intro p hp; simp only [List.mem_cons, List.not_mem_nil, or_false] at hp; rcases hp with rfl | rfl <;> walk_at "J mem")
    (case pre => trivial)
    intro v' nw' h' tk' F' N' st' p'
    clear st'
    obtain ⟨e1', t', e2'⟩ := p'
    subst e1' e2'
    try simp only [List.nil_append] at N'
    walk_at "J steps"
    all_goals (with_reducible rename Fr h₀ _ _ _ => F₁)
    all_goals (with_reducible rename News h₀ _ _ _ => N₁)
    all_goals first
      | (rename (_ : Array UInt8) ≠ _ => hne; exact absurd rfl hne)
      | (exact H _ _ (by rw [← em]; exact F₁) (News.sub N₁ (fun p hp => by first | exact hp | (repeat (first | exact hp | apply List.mem_cons_of_mem)))))
      | skip
  · have em : (st (Str.ofString "way") (.ref x) (st (Str.ofString "here") (.bytes (jn bs) t2) (st (Str.ofString "inward") .none m))) = m := by rw [know_eq h3, know_eq q2, know_eq h1]
    have F' : Fr h₀ L h (st (Str.ofString "way") (.ref x) (st (Str.ofString "here") (.bytes (jn bs) t2) (st (Str.ofString "inward") .none m))) := by rw [em]; exact F
    clear F
    simp only [wayAt, wayBody, turnAt, forBody, stmtAt, lawRec, recOf, List.getD_cons_zero, List.getD_cons_succ]
    repeat' ((fail_if_success (with_reducible show wpAny _ _ (call (Value.ref 269) _) _ _ _)); walk_at "J step")
    refine' use_S (cl_raise (d := d) (k1 := k1) (k2 := k2) (k3 := k3) (k4 := k4) (k5 := k5) (k6 := k6) (t4 := t0) (v2 := optT sm) (v5 := .bool rl) hz hk hq.1 (by rw [F6 hz.wf.each (hc hq.1), decide_eq_true hq.2])) ?B ?F ?X ?N ?T ?h1 ?h2 ?h3 ?h4 ?h5 ?sub ?pre ?_
    (case B => assumption)
    (case F => k_asm)
    (case X => assumption)
    (case N => k_asm)
    (case T => assumption)
    (case h1 => exact rfl)
    (case h2 => exact rfl)
    (case h3 => exact rfl)
    (case h4 => exact Nat.le_of_ble_eq_true rfl)
    (case h5 => exact Nat.le_of_ble_eq_true rfl)
    (case sub => intro p hp; simp only [List.mem_cons, List.not_mem_nil, or_false] at hp; rcases hp with rfl | rfl <;> walk_at "J mem")
    (case pre => trivial)
    intro v' nw' h' tk' F' N' p'
    skip
    obtain ⟨e1', e2'⟩ := p'
    subst e1' e2'
    try simp only [List.nil_append] at N'
    walk_at "J steps"
    all_goals (with_reducible rename Fr h₀ _ _ _ => F₁)
    all_goals (with_reducible rename News h₀ _ _ _ => N₁)
    all_goals first
      | (rename (_ : Array UInt8) ≠ _ => hne; exact absurd rfl hne)
      | (exact H _ _ (by rw [← em]; exact F₁) (News.sub N₁ (fun p hp => by first | exact hp | (repeat (first | exact hp | apply List.mem_cons_of_mem)))))
      | skip
  · have em : (st (Str.ofString "way") (.ref x) (st (Str.ofString "here") (.bytes (jn bs) t2) (st (Str.ofString "inward") (.ref Ls) m))) = m := by rw [know_eq h3, know_eq q2, know_eq h1]
    have F' : Fr h₀ L h (st (Str.ofString "way") (.ref x) (st (Str.ofString "here") (.bytes (jn bs) t2) (st (Str.ofString "inward") (.ref Ls) m))) := by rw [em]; exact F
    clear F
    simp only [wayAt, wayBody, turnAt, forBody, stmtAt, lawRec, recOf, List.getD_cons_zero, List.getD_cons_succ]
    repeat' ((fail_if_success (with_reducible show wpAny _ _ (call (Value.ref 269) _) _ _ _)); walk_at "J step")
    refine' use_L (cl_less (d := d) (k1 := k1) (k2 := k2) (k3 := k3) (k4 := k4) (k5 := k5) (k6 := k6) (t4 := t0) (v2 := optT sm) (v5 := .bool rl) hz hk (fun e => by rw [F6 hz.wf.each (hc e), decide_eq_false (fun q => hq ⟨e, q⟩)])) ?B ?F ?X ?N ?T ?h1 ?h2 ?h3 ?h4 ?h5 ?sub ?pre ?_
    (case B => assumption)
    (case F => k_asm)
    (case X => assumption)
    (case N => k_asm)
    (case T => assumption)
    (case h1 => exact rfl)
    (case h2 => exact rfl)
    (case h3 => exact rfl)
    (case h4 => exact Nat.le_of_ble_eq_true rfl)
    (case h5 => exact Nat.le_of_ble_eq_true rfl)
    (case sub => intro p hp; simp only [List.mem_cons, List.not_mem_nil, or_false] at hp; rcases hp with rfl | rfl <;> walk_at "J mem")
    (case pre => trivial)
    intro v' nw' h' tk' F' N' st' p'
    clear st'
    obtain ⟨e1', t', e2'⟩ := p'
    subst e1' e2'
    try simp only [List.nil_append] at N'
    walk_at "J steps"
    all_goals (with_reducible rename Fr h₀ _ _ _ => F₁)
    all_goals (with_reducible rename News h₀ _ _ _ => N₁)
    all_goals first
      | (rename (_ : Array UInt8) ≠ _ => hne; exact absurd rfl hne)
      | (exact H _ _ (by rw [← em]; exact F₁) (News.sub N₁ (fun p hp => by first | exact hp | (repeat (first | exact hp | apply List.mem_cons_of_mem)))))
      | skip

end Mine
end
section
open PySem PySem.W PySem.Calls PySem.Spec PyProof.Rows
namespace Mine
set_option maxRecDepth 100000
variable {prog : Program} {w : World} {mean : ExcName → Option Value} {mg mb : Str → Option Value}
set_option maxHeartbeats 8000000 in
theorem segG2 {L f cd : Addr} {h₀ h : Heap} {gn : Array GenState} {dr : Drawn} {os : OsState} {tk : Nat} {m : Str → Option Value} {l : List (Addr × Obj)} {Q : Flow → Shared → Prop} {E : Value → Shared → Prop} {rest : List Stmt} {K Ms : Addr} {sm bd rl : Bool} {ks : List (Array UInt8)} {vs : List Value} {n : Nat}
    (B : Below callerA h₀ [] h₀) (X : (Mine.K w.params).In h₀) (T : Top Mine.V JLo mean mg mb h₀) (F : Fr h₀ L h m) (N : News h₀ L h ((K, PySem.W.listOf vs.toArray n) :: l)) (hb : BytesAre vs ks) (h1 : IsBo m (Str.ofString "smudges") sm) (h2 : IsBo m (Str.ofString "finds") bd) (h3 : IsBo m (Str.ofString "shut") (binP 0 ks)) (h4 : IsBo m (Str.ofString "guess") rl)
    (h8 : m (Str.ofString "kept") = some (.ref K)) (h9 : m (Str.ofString "more") = some (.ref Ms))
    (H : ∀ h' tk' vo, Fr h₀ L h' (st (Str.ofString "outward") vo m) → News h₀ L h' l → OutV vo K Ms sm bd rl ks → wpAny (model prog w) (callerA.deeper (lawEn L f cd)) (execs rest (lawEn L f cd)) Q E ⟨h', gn, dr, tk', os⟩) :
    wpAny (model prog w) (callerA.deeper (lawEn L f cd)) (execs (wayAt 2 :: rest) (lawEn L f cd)) Q E ⟨h, gn, dr, tk, os⟩ := by
  have em : (st (Str.ofString "smudges") (.bool sm) (st (Str.ofString "finds") (.bool bd) (st (Str.ofString "shut") (.bool (binP 0 ks)) (st (Str.ofString "guess") (.bool rl) (st (Str.ofString "kept") (.ref K) (st (Str.ofString "more") (.ref Ms) m)))))) = m := by rw [know_eq h9, know_eq h8, know_eq h4, know_eq h3, know_eq h2, know_eq h1]
  have F' : Fr h₀ L h (st (Str.ofString "smudges") (.bool sm) (st (Str.ofString "finds") (.bool bd) (st (Str.ofString "shut") (.bool (binP 0 ks)) (st (Str.ofString "guess") (.bool rl) (st (Str.ofString "kept") (.ref K) (st (Str.ofString "more") (.ref Ms) m)))))) := by rw [em]; exact F
  clear F
  simp only [wayAt, wayBody, turnAt, forBody, stmtAt, lawRec, recOf, List.getD_cons_zero, List.getD_cons_succ]
  walk_at "J steps"
  all_goals (with_reducible rename Fr h₀ _ _ _ => F₁)
  all_goals (with_reducible rename News h₀ _ _ _ => N₁)
  all_goals refine H _ _ _ (by rw [← em]; exact F₁) (News.sub N₁ (fun p hp => .tail _ hp)) ?_
  all_goals first
    | (refine Or.inl ⟨?_, rfl⟩; simp_all; done)
    | (refine Or.inr ⟨?_, rfl⟩; simp_all; done)
    | skip

end Mine
end
section
open PySem PySem.W PySem.Calls PySem.Spec PyProof.Rows
namespace Mine
set_option maxRecDepth 100000
variable {prog : Program} {w : World} {mean : ExcName → Option Value} {mg mb : Str → Option Value}
set_option maxHeartbeats 8000000 in
theorem segG3 {L f cd : Addr} {h₀ h : Heap} {gn : Array GenState} {dr : Drawn} {os : OsState} {tk : Nat} {m : Str → Option Value} {l : List (Addr × Obj)} {Q : Flow → Shared → Prop} {E : Value → Shared → Prop} {rest : List Stmt} {x d K Ms : Addr} {k1 k2 k3 k4 k5 k6 t0 : Tok} {v1 v6 : Value} {sm bd rl : Bool} {c : Array UInt8} {ks : List (Array UInt8)} {vs vs' : List Value} {n n' : Nat} {vo : Value}
    (B : Below callerA h₀ [] h₀) (X : (Mine.K w.params).In h₀) (T : Top Mine.V JLo mean mg mb h₀) (F : Fr h₀ L h m) (N : News h₀ L h ((x, instObj 114 d) :: (d, filD w k1 k2 k3 k4 k5 k6 v1 (optT sm) (.bool bd) (.bytes c t0) (.bool rl) v6) :: (K, PySem.W.listOf vs.toArray n) :: (Ms, PySem.W.listOf vs'.toArray n') :: l)) (hb : BytesAre vs ks) (hb' : BytesAre vs' (moreP false ks)) (hz : Sized ks)
    (h1 : m (Str.ofString "way") = some (.ref x)) (h2 : IsB m (Str.ofString "there") (jn ks)) (h3 : m (Str.ofString "outward") = some vo) (hO : OutV vo K Ms sm bd rl ks)
    (H : ∀ h' tk', Fr h₀ L h' m → News h₀ L h' ((x, instObj 114 d) :: (d, filD w k1 k2 k3 k4 k5 k6 v1 (optT sm) (.bool bd) (.bytes c t0) (.bool rl) v6) :: (K, PySem.W.listOf vs.toArray n) :: (Ms, PySem.W.listOf vs'.toArray n') :: l) → wpAny (model prog w) (callerA.deeper (lawEn L f cd)) (execs rest (lawEn L f cd)) Q E ⟨h', gn, dr, tk', os⟩) :
    wpAny (model prog w) (callerA.deeper (lawEn L f cd)) (execs (wayAt 3 :: rest) (lawEn L f cd)) Q E ⟨h, gn, dr, tk, os⟩ := by
  obtain ⟨t2, q2⟩ := h2
  have z0 := hz.s0
  have z2 := hz.s2
  have hs := smudge_eq hz.wf.each sm bd rl
  rcases hO with ⟨hk, rfl⟩ | ⟨hk, rfl⟩
  · have em : (st (Str.ofString "way") (.ref x) (st (Str.ofString "there") (.bytes (jn ks) t2) (st (Str.ofString "outward") (.ref K) m))) = m := by rw [know_eq h3, know_eq q2, know_eq h1]
    have F' : Fr h₀ L h (st (Str.ofString "way") (.ref x) (st (Str.ofString "there") (.bytes (jn ks) t2) (st (Str.ofString "outward") (.ref K) m))) := by rw [em]; exact F
    clear F
    rw [hk] at hs
    simp only [wayAt, wayBody, turnAt, forBody, stmtAt, lawRec, recOf, List.getD_cons_zero, List.getD_cons_succ]
    repeat' ((fail_if_success (with_reducible show wpAny _ _ (call (Value.ref 104) _) _ _ _)); walk_at "J step")
    refine' use_L (sm_any (d := d) (k1 := k1) (k2 := k2) (k3 := k3) (k4 := k4) (k5 := k5) (k6 := k6) (t4 := t0) (v1 := v1) (v6 := v6) (sm := sm) (bd := bd) (rl := rl) (sc := c) hz) ?B ?F ?X ?N ?T ?h1 ?h2 ?h3 ?h4 ?h5 ?sub ?pre ?_
    (case B => assumption)
    (case F => k_asm)
    (case X => assumption)
    (case N => k_asm)
    (case T => assumption)
    (case h1 => exact rfl)
    (case h2 => exact rfl)
    (case h3 => exact rfl)
    (case h4 => exact Nat.le_of_ble_eq_true rfl)
    (case h5 => exact Nat.le_of_ble_eq_true rfl)
    (case sub => intro p hp; simp only [List.mem_cons, List.not_mem_nil, or_false] at hp; rcases hp with rfl | rfl <;> walk_at "J mem")
    (case pre => trivial)
    intro v' nw' h' tk' F' N' st' p'
    clear st'
    obtain ⟨e1', t', e2'⟩ := p'
    subst e1' e2'
    try simp only [List.nil_append] at N'
    rw [hs]
    walk_at "J steps"
    all_goals (with_reducible rename Fr h₀ _ _ _ => F₁)
    all_goals (with_reducible rename News h₀ _ _ _ => N₁)
    all_goals first
      | (rename (_ : Array UInt8) ≠ _ => hne; exact absurd rfl hne)
      | (exact H _ _ (by rw [← em]; exact F₁) (News.sub N₁ (fun p hp => by first | exact hp | (repeat (first | exact hp | apply List.mem_cons_of_mem)))))
      | skip
  · have em : (st (Str.ofString "way") (.ref x) (st (Str.ofString "there") (.bytes (jn ks) t2) (st (Str.ofString "outward") (.ref Ms) m))) = m := by rw [know_eq h3, know_eq q2, know_eq h1]
    have F' : Fr h₀ L h (st (Str.ofString "way") (.ref x) (st (Str.ofString "there") (.bytes (jn ks) t2) (st (Str.ofString "outward") (.ref Ms) m))) := by rw [em]; exact F
    clear F
    rw [hk] at hs
    simp only [wayAt, wayBody, turnAt, forBody, stmtAt, lawRec, recOf, List.getD_cons_zero, List.getD_cons_succ]
    repeat' ((fail_if_success (with_reducible show wpAny _ _ (call (Value.ref 104) _) _ _ _)); walk_at "J step")
    refine' use_L (sm_any (d := d) (k1 := k1) (k2 := k2) (k3 := k3) (k4 := k4) (k5 := k5) (k6 := k6) (t4 := t0) (v1 := v1) (v6 := v6) (sm := sm) (bd := bd) (rl := rl) (sc := c) hz) ?B ?F ?X ?N ?T ?h1 ?h2 ?h3 ?h4 ?h5 ?sub ?pre ?_
    (case B => assumption)
    (case F => k_asm)
    (case X => assumption)
    (case N => k_asm)
    (case T => assumption)
    (case h1 => exact rfl)
    (case h2 => exact rfl)
    (case h3 => exact rfl)
    (case h4 => exact Nat.le_of_ble_eq_true rfl)
    (case h5 => exact Nat.le_of_ble_eq_true rfl)
    (case sub => intro p hp; simp only [List.mem_cons, List.not_mem_nil, or_false] at hp; rcases hp with rfl | rfl <;> walk_at "J mem")
    (case pre => trivial)
    intro v' nw' h' tk' F' N' st' p'
    clear st'
    obtain ⟨e1', t', e2'⟩ := p'
    subst e1' e2'
    try simp only [List.nil_append] at N'
    rw [hs]
    walk_at "J steps"
    all_goals (with_reducible rename Fr h₀ _ _ _ => F₁)
    all_goals (with_reducible rename News h₀ _ _ _ => N₁)
    all_goals first
      | (rename (_ : Array UInt8) ≠ _ => hne; exact absurd rfl hne)
      | (exact H _ _ (by rw [← em]; exact F₁) (News.sub N₁ (fun p hp => by first | exact hp | (repeat (first | exact hp | apply List.mem_cons_of_mem)))))
      | skip

end Mine
end
section
open PySem PySem.W PySem.Calls PySem.Spec PyProof.Rows
namespace Mine
set_option maxRecDepth 100000
structure WayP where
  x : Addr
  cl : Bool
  sm : Bool
  bd : Bool
  rl : Bool
  sy : Bool
abbrev WayP.obj (p : WayP) : Obj := tup6 p.x p.cl p.sm p.bd p.rl p.sy
/-- the names of a way, stored -/
abbrev st6 (p : WayP) (m : Str → Option Value) : Str → Option Value :=
  st (Str.ofString "stays") (.bool p.sy) (st (Str.ofString "guess") (.bool p.rl) (st (Str.ofString "finds") (.bool p.bd) (st (Str.ofString "smudges") (.bool p.sm) (st (Str.ofString "cleans") (.bool p.cl) (st (Str.ofString "way") (.ref p.x) m)))))
theorem for25 : ∃ p1 p2 p3 p4 p5 p6 p7 x1 pt pos, turnAt 25 = .For (.Tuple [.Name (Str.ofString "way") p1, .Name (Str.ofString "cleans") p2, .Name (Str.ofString "smudges") p3, .Name (Str.ofString "finds") p4, .Name (Str.ofString "guess") p5, .Name (Str.ofString "stays") p6] x1 pt) (.Name (Str.ofString "ways") p7) [wayAt 0, wayAt 1, wayAt 2, wayAt 3] [] pos :=
  ⟨_, _, _, _, _, _, _, _, _, _, rfl⟩
section
variable {prog : Program} {w : World} {A : Around} {E : Value → Shared → Prop} {s : Shared} {h₀ h : Heap} {L f cd t : Addr} {m : Str → Option Value} {l : List (Addr × Obj)} {Q : Unit → Shared → Prop} {p : WayP} {p1 p2 p3 p4 p5 p6 pt : Pos} {x1 : Nat}
theorem assign6 (hh : A.handled = none) (F : Fr h₀ L s.heap m) (N : News h₀ L s.heap l) (ht : (t, p.obj) ∈ l)
    (H : ∀ h' tk', Fr h₀ L h' (st6 p m) → News h₀ L h' l → Q () { s with heap := h', toks := tk' }) :
    wpAny (model prog w) A (assign (.Tuple [.Name (Str.ofString "way") p1, .Name (Str.ofString "cleans") p2, .Name (Str.ofString "smudges") p3, .Name (Str.ofString "finds") p4, .Name (Str.ofString "guess") p5, .Name (Str.ofString "stays") p6] x1 pt) (lawEn L f cd) (.ref t)) Q E s := by
  refine wpAny_assign_Tuple hh (items := #[Value.ref p.x, .bool p.cl, .bool p.sm, .bool p.bd, .bool p.rl, .bool p.sy]) (News.isTup N ht) rfl rfl fun h₃ hx₃ => ?_
  replace hx₃ : Heap.ExtBut s.heap.objs.size s.heap h₃ := hx₃
  have up₃ : ∀ b o, s.heap.get? b = some o → h₃.get? b = some o := fun b o x => hx₃ b o (Nat.ne_of_lt (Heap.lt_size x)) x
  have F₀ : Fr h₀ L h₃ m := ⟨F.ns.at' fun o q => up₃ _ _ q, fun b o q => up₃ b o (F.keep b o q), F.above⟩
  have N₀ : News h₀ L h₃ l := fun q hq => ⟨up₃ _ _ (N q hq).1, (N q hq).2⟩
  show wpAny _ A (do holding [.bool p.cl, .bool p.sm, .bool p.bd, .bool p.rl, .bool p.sy] (assign (.Name (Str.ofString "way") p1) (lawEn L f cd) (.ref p.x)); holding [.bool p.sm, .bool p.bd, .bool p.rl, .bool p.sy] (assign (.Name (Str.ofString "cleans") p2) (lawEn L f cd) (.bool p.cl)); holding [.bool p.bd, .bool p.rl, .bool p.sy] (assign (.Name (Str.ofString "smudges") p3) (lawEn L f cd) (.bool p.sm)); holding [.bool p.rl, .bool p.sy] (assign (.Name (Str.ofString "finds") p4) (lawEn L f cd) (.bool p.bd)); holding [.bool p.sy] (assign (.Name (Str.ofString "guess") p5) (lawEn L f cd) (.bool p.rl)); holding [] (assign (.Name (Str.ofString "stays") p6) (lawEn L f cd) (.bool p.sy)); pure ()) _ _ _
  refine wpAny_bind (wpAny_holding (wpAny_assign_Name (law_S F₀ N₀ kd_way fun g1 F1 N1 => ?_)))
  refine wpAny_bind (wpAny_holding (wpAny_assign_Name (law_S F1 N1 kd_cleans fun g2 F2 N2 => ?_)))
  refine wpAny_bind (wpAny_holding (wpAny_assign_Name (law_S F2 N2 kd_smudges fun g3 F3 N3 => ?_)))
  refine wpAny_bind (wpAny_holding (wpAny_assign_Name (law_S F3 N3 kd_finds fun g4 F4 N4 => ?_)))
  refine wpAny_bind (wpAny_holding (wpAny_assign_Name (law_S F4 N4 kd_guess fun g5 F5 N5 => ?_)))
  refine wpAny_bind (wpAny_holding (wpAny_assign_Name (law_S F5 N5 kd_stays fun g6 F6 N6 => wpAny_pure ?_)))
  exact H g6 _ F6 N6
end
section
variable {prog : Program} {w : World} {E : Value → Shared → Prop} {h₀ h : Heap} {L f cd wl : Addr} {gn : Array GenState} {dr : Drawn} {tk : Nat} {os : OsState} {m : Str → Option Value} {l : List (Addr × Obj)} {Q : Flow → Shared → Prop} {rest : List Stmt} {vs : List Value} {nn : Nat} {ws : List WayP}
theorem ways_for (F : Fr h₀ L h m) (N : News h₀ L h l) (hm : m (Str.ofString "ways") = some (.ref wl)) (hl : (wl, PySem.W.listOf vs.toArray nn) ∈ l) (hlen : vs.length = ws.length)
    (hv : ∀ (i : Nat) (p : WayP), ws[i]? = some p → ∃ t : Addr, vs[i]? = some (Value.ref t) ∧ (t, p.obj) ∈ l) (J : Nat → (Str → Option Value) → Prop) (h0 : J 0 m)
    (turn : ∀ (i : Nat) (p : WayP) m₁ h gn dr tk os l', ws[i]? = some p → J i m₁ → Fr h₀ L h (st6 p m₁) → News h₀ L h l' → (∀ q ∈ l, q ∈ l') →
      wpAny (model prog w) (callerA.deeper (lawEn L f cd)) (execs [wayAt 0, wayAt 1, wayAt 2, wayAt 3] (lawEn L f cd)) (fun fl s' => fl = .next ∧ ∃ h' tk' m', s' = ⟨h', gn, dr, tk', os⟩ ∧ Fr h₀ L h' m' ∧ News h₀ L h' l' ∧ J (i + 1) m') E ⟨h, gn, dr, tk, os⟩)
    (done : ∀ h' tk' m', J ws.length m' → Fr h₀ L h' m' → News h₀ L h' l → wpAny (model prog w) (callerA.deeper (lawEn L f cd)) (execs rest (lawEn L f cd)) Q E ⟨h', gn, dr, tk', os⟩)
    (hE : PassesOwn (model prog w) (callerA.deeper (lawEn L f cd)) (lawEn L f cd) E) :
    wpAny (model prog w) (callerA.deeper (lawEn L f cd)) (execs (turnAt 25 :: rest) (lawEn L f cd)) Q E ⟨h, gn, dr, tk, os⟩ := by
  obtain ⟨p1, p2, p3, p4, p5, p6, p7, x1, pt, pos, e25⟩ := for25
  rw [e25]
  refine wpAny_execs_cons ?_
  refine For_invT h₀ ?_ (by intro _; rfl) hE
  refine law_L F kd_ways hm ?_
  have hwl := (N _ hl).1
  have hls : h.IsList wl vs.toArray := News.isList N hl
  have hlt : wl < h.objs.size := Heap.lt_size hwl
  have hne : wl ≠ h.objs.size := Nat.ne_of_lt hlt
  refine wpAny_pyIter_list hls ?_
  have W := Walks.list (prog := prog) (w := w) (A := callerA.deeper (lawEn L f cd)) rfl h.objs.size wl hne vs.toArray
  have hsz : vs.toArray.size = ws.length := by simp [hlen]
  rw [hsz] at W
  refine ⟨h.objs.size, _, _, ws.length, _, _, m, l, (fun i m₁ nx => nx = l ∧ J i m₁), rfl, W, ?_, ?_, ?_, ⟨⟨_, Heap.get?_push_size _ rfl, rfl, rfl⟩, hls.at fun o e => Heap.get?_push_of_some _ e⟩, F.push _, (fun p hp => ⟨Heap.get?_push_of_some _ (N p hp).1, (N p hp).2⟩), (fun i s' v Q' st' hQ' => letGo_listiter st'.1 hQ'), ⟨rfl, h0⟩, ?_, ?_⟩
  · intro hmm
    rcases List.mem_cons.mp hmm with e | hmm
    · exact absurd F.ns.lt (e ▸ Nat.lt_irrefl _)
    · exact (N _ hl).2.1 (List.mem_singleton.mp hmm).symm
  · intro b hb
    rw [List.mem_singleton.mp hb]
    exact next_is_new F
  · intro p hp hI
    exact absurd (Heap.lt_size (N p hp).1) ((List.mem_singleton.mp hI) ▸ Nat.lt_irrefl _)
  · rintro i v m₁ news₁ ⟨h1, gn1, dr1, tk1, os1⟩ own hi hP ⟨rfl, hJ⟩ hoff hsub hget hall hst F₁ N₁
    obtain ⟨t, ht, hmem⟩ := hv i ws[i] (List.getElem?_eq_getElem hi)
    have hP' : vs[i]? = some v := by simpa using hP
    rw [ht] at hP'
    obtain rfl := Option.some.inj hP'
    refine assign6 (p := ws[i]) rfl F₁ N₁ (List.mem_append_right _ hmem) fun h' tk' F₂ N₂ => ?_
    refine wpAny_mono (turn i ws[i] m₁ h' gn1 dr1 tk' os1 (own ++ news₁) (List.getElem?_eq_getElem hi) hJ F₂ N₂ (fun q hq => List.mem_append_right _ hq)) (fun fl s' hq => ?_) fun _ _ e => e
    obtain ⟨rfl, h'', tk'', m'', rfl, F₃, N₃, hJ'⟩ := hq
    exact ⟨rfl, h'', tk'', m'', news₁, rfl, F₃, N₃, hoff, rfl, hJ'⟩
  · rintro h' tk' m' news' F' N' _ ⟨rfl, hJ⟩
    exact done h' tk' m' hJ F' N'
end
end Mine
end
section
open PySem PySem.W PySem.Calls PySem.Spec PyProof.Rows
namespace Mine
set_option maxRecDepth 100000
def Agree (ns : List Str) (m m₀ : Str → Option Value) : Prop := ∀ y, y ∉ ns → m y = m₀ y
theorem Agree.st {x : Str} {v : Value} {m : Str → Option Value} : Agree [x] (Mine.st x v m) m := fun y hy => if_neg (c := y = x) fun e => hy (by rw [e]; exact .head _)
theorem Agree.trans {a b : List Str} {m1 m2 m3 : Str → Option Value} (h1 : Agree a m1 m2) (h2 : Agree b m2 m3) : Agree (a ++ b) m1 m3 := fun y hy =>
  (h1 y fun q => hy (List.mem_append_left _ q)).trans (h2 y fun q => hy (List.mem_append_right _ q))
theorem Agree.refl {m : Str → Option Value} : Agree [] m m := fun _ _ => rfl
section
variable {m m₀ : Str → Option Value} {ns : List Str} {x : Str}
theorem IsS.agree {s : Str} (h : IsS m₀ x s) (a : Agree ns m m₀) (hx : x ∉ ns) : IsS m x s := by obtain ⟨t, q⟩ := h; exact ⟨t, (a x hx).trans q⟩
theorem IsB.agree {b : Array UInt8} (h : IsB m₀ x b) (a : Agree ns m m₀) (hx : x ∉ ns) : IsB m x b := by obtain ⟨t, q⟩ := h; exact ⟨t, (a x hx).trans q⟩
theorem IsI.agree {k : Int} (h : IsI m₀ x k) (a : Agree ns m m₀) (hx : x ∉ ns) : IsI m x k := by obtain ⟨t, q⟩ := h; exact ⟨t, (a x hx).trans q⟩
theorem IsBo.agree {b : Bool} (h : IsBo m₀ x b) (a : Agree ns m m₀) (hx : x ∉ ns) : IsBo m x b := (a x hx).trans h
theorem HasR.agree {r : Rul} (h : HasR m₀ r) (a : Agree ns m m₀) (hn : ∀ y ∈ [Str.ofString "text", Str.ofString "crlf", Str.ofString "eol", Str.ofString "core", Str.ofString "auto", Str.ofString "safe"], y ∉ ns) : HasR m r :=
  ⟨h.text.agree a (hn _ (by simp)), h.crlf.agree a (hn _ (by simp)), h.eol.agree a (hn _ (by simp)), h.core.agree a (hn _ (by simp)), h.auto.agree a (hn _ (by simp)), h.safe.agree a (hn _ (by simp))⟩
theorem HasW.agree {lead step : Int} {W K : Addr} (h : HasW m₀ lead step W K) (a : Agree ns m m₀) (hn : ∀ y ∈ [Str.ofString "lead", Str.ofString "step", Str.ofString "work", Str.ofString "kept"], y ∉ ns) : HasW m lead step W K :=
  ⟨h.lead.agree a (hn _ (by simp)), h.step.agree a (hn _ (by simp)), (a _ (hn _ (by simp))).trans h.work, (a _ (hn _ (by simp))).trans h.kept⟩
/-- what the ways ask for -/
structure HasG (m : Str → Option Value) (bs ks : List (Array UInt8)) (c : Array UInt8) (W K Ls Ms : Addr) : Prop where
  blank : IsBo m (Str.ofString "blank") (binP 0 bs)
  pairs : IsI m (Str.ofString "pairs") (pairs bs : Int)
  lone : IsI m (Str.ofString "lone") (lone bs : Int)
  careful : IsB m (Str.ofString "careful") c
  work : m (Str.ofString "work") = some (.ref W)
  kept : m (Str.ofString "kept") = some (.ref K)
  less : m (Str.ofString "less") = some (.ref Ls)
  more : m (Str.ofString "more") = some (.ref Ms)
  here : IsB m (Str.ofString "here") (jn bs)
  there : IsB m (Str.ofString "there") (jn ks)
  shut : IsBo m (Str.ofString "shut") (binP 0 ks)
theorem HasG.agree {bs ks : List (Array UInt8)} {c : Array UInt8} {W K Ls Ms : Addr} (h : HasG m₀ bs ks c W K Ls Ms) (a : Agree ns m m₀)
    (hn : ∀ y ∈ [Str.ofString "blank", Str.ofString "pairs", Str.ofString "lone", Str.ofString "careful", Str.ofString "work", Str.ofString "kept", Str.ofString "less", Str.ofString "more", Str.ofString "here", Str.ofString "there", Str.ofString "shut"], y ∉ ns) : HasG m bs ks c W K Ls Ms :=
  ⟨h.blank.agree a (hn _ (by simp)), h.pairs.agree a (hn _ (by simp)), h.lone.agree a (hn _ (by simp)), h.careful.agree a (hn _ (by simp)), (a _ (hn _ (by simp))).trans h.work, (a _ (hn _ (by simp))).trans h.kept,
    (a _ (hn _ (by simp))).trans h.less, (a _ (hn _ (by simp))).trans h.more, h.here.agree a (hn _ (by simp)), h.there.agree a (hn _ (by simp)), h.shut.agree a (hn _ (by simp))⟩
end
/-- the four lists of parts -/
structure Lists (l : List (Addr × Obj)) (bs ks : List (Array UInt8)) (W K Ls Ms : Addr) : Prop where
  work : ∃ vs n, (W, PySem.W.listOf vs.toArray n) ∈ l ∧ BytesAre vs bs
  less : ∃ vs n, (Ls, PySem.W.listOf vs.toArray n) ∈ l ∧ BytesAre vs (lessP bs)
  kept : ∃ vs n, (K, PySem.W.listOf vs.toArray n) ∈ l ∧ BytesAre vs ks
  more : ∃ vs n, (Ms, PySem.W.listOf vs.toArray n) ∈ l ∧ BytesAre vs (moreP false ks)
theorem Lists.mono {l l' : List (Addr × Obj)} {bs ks : List (Array UInt8)} {W K Ls Ms : Addr} (h : Lists l bs ks W K Ls Ms) (s : ∀ q ∈ l, q ∈ l') : Lists l' bs ks W K Ls Ms := by
  obtain ⟨⟨v1, n1, h1, b1⟩, ⟨v2, n2, h2, b2⟩, ⟨v3, n3, h3, b3⟩, ⟨v4, n4, h4, b4⟩⟩ := h
  exact ⟨⟨v1, n1, s _ h1, b1⟩, ⟨v2, n2, s _ h2, b2⟩, ⟨v3, n3, s _ h3, b3⟩, ⟨v4, n4, s _ h4, b4⟩⟩
section
variable {prog : Program} {w : World} {mean : ExcName → Option Value} {mg mb : Str → Option Value} {E : Value → Shared → Prop} {h₀ h : Heap} {L f cd W K Ls Ms : Addr} {gn : Array GenState} {dr : Drawn} {tk : Nat} {os : OsState} {m : Str → Option Value} {l : List (Addr × Obj)} {bs ks : List (Array UInt8)} {c : Array UInt8}
theorem turnG {p : WayP} {ix : Option Bool} (B : Below callerA h₀ [] h₀) (X : (Mine.K w.params).In h₀) (T : Top Mine.V JLo mean mg mb h₀) (F : Fr h₀ L h (st6 p m)) (N : News h₀ L h l)
    (hg : HasG m bs ks c W K Ls Ms) (hl : Lists l bs ks W K Ls Ms) (hz : Sized bs) (hz' : Sized ks) (hc : c = #[116, 114, 117, 101] → triples bs = 0) (hf : FilV w l p.x p.cl p.sm p.bd c p.rl ix) (hs : p.sy = decide (ix = some true)) :
    wpAny (model prog w) (callerA.deeper (lawEn L f cd)) (execs [wayAt 0, wayAt 1, wayAt 2, wayAt 3] (lawEn L f cd)) (fun fl s' => fl = .next ∧ ∃ h' tk' vi vo, s' = ⟨h', gn, dr, tk', os⟩ ∧ Fr h₀ L h' (st (Str.ofString "outward") vo (st (Str.ofString "inward") vi (st6 p m))) ∧ News h₀ L h' l ∧ InV vi W Ls p.cl p.bd p.sy c bs ∧ OutV vo K Ms p.sm p.bd p.rl ks) E ⟨h, gn, dr, tk, os⟩ := by
  obtain ⟨⟨v1, n1, h1, b1⟩, ⟨v2, n2, h2, b2⟩, ⟨v3, n3, h3, b3⟩, ⟨v4, n4, h4, b4⟩⟩ := hl
  obtain ⟨d, k1, k2, k3, k4, k5, k6, t4, hx, hd⟩ := hf
  have A6 : Agree [Str.ofString "stays", Str.ofString "guess", Str.ofString "finds", Str.ofString "smudges", Str.ofString "cleans", Str.ofString "way"] (st6 p m) m := Agree.st.trans (Agree.st.trans (Agree.st.trans (Agree.st.trans (Agree.st.trans Agree.st))))
  have hg6 := hg.agree A6 (by decide)
  refine segG0 B X T F N rfl rfl hg6.blank rfl hg6.pairs hg6.lone hg6.careful hg6.work hg6.less fun h1' tk1 vi F1 N1 hI => ?_
  have hg7 := hg6.agree (Agree.st (x := Str.ofString "inward") (v := vi)) (by decide)
  refine segG1 (ix := ix) (cl := p.cl) (sm := p.sm) (bd := p.bd) (rl := p.rl) (c := c) (d := d) (k1 := k1) (k2 := k2) (k3 := k3) (k4 := k4) (k5 := k5) (k6 := k6) (t0 := t4) B X T F1 (News.cons (News.cons (News.cons (News.cons N1 h2) (.tail _ h1)) (.tail _ (.tail _ hd))) (.tail _ (.tail _ (.tail _ hx)))) b1 b2 hz hc rfl hg7.here rfl (hs ▸ hI) fun h2' tk2 F2 N2 => ?_
  replace N2 : News h₀ L h2' l := News.sub N2 fun q hq => .tail _ (.tail _ (.tail _ (.tail _ hq)))
  refine segG2 (sm := p.sm) (bd := p.bd) (rl := p.rl) (ks := ks) B X T F2 (News.cons N2 h3) b3 rfl rfl hg7.shut rfl hg7.kept hg7.more fun h3' tk3 vo F3 N3 hO => ?_
  have hg8 := hg7.agree (Agree.st (x := Str.ofString "outward") (v := vo)) (by decide)
  refine segG3 (sm := p.sm) (bd := p.bd) (rl := p.rl) (c := c) (d := d) (k1 := k1) (k2 := k2) (k3 := k3) (k4 := k4) (k5 := k5) (k6 := k6) (t0 := t4) (v1 := optT p.cl) (v6 := ixV ix) B X T F3 (News.cons (News.cons (News.cons (News.cons N3 h4) (.tail _ h3)) (.tail _ (.tail _ hd))) (.tail _ (.tail _ (.tail _ hx)))) b3 b4 hz' rfl hg8.there rfl hO fun h4' tk4 F4 N4 => ?_
  refine wpAny_execs_nil ⟨rfl, h4', tk4, vi, vo, rfl, F4, ?_, hI, hO⟩
  exact News.sub N4 fun q hq => .tail _ (.tail _ (.tail _ (.tail _ hq)))
abbrev eight : List Str := [Str.ofString "outward", Str.ofString "inward", Str.ofString "stays", Str.ofString "guess", Str.ofString "finds", Str.ofString "smudges", Str.ofString "cleans", Str.ofString "way"]
theorem Agree.idem {ns : List Str} {m1 m2 m3 : Str → Option Value} (h1 : Agree ns m1 m2) (h2 : Agree ns m2 m3) : Agree ns m1 m3 := fun y hy => (h1 y hy).trans (h2 y hy)
theorem segG {Q : Flow → Shared → Prop} {rest : List Stmt} {wl x0 : Addr} {R : Option (Bool × Bool)} {vd : Value} {c0 s0 lk ib : Bool}
    (B : Below callerA h₀ [] h₀) (X : (Mine.K w.params).In h₀) (T : Top Mine.V JLo mean mg mb h₀) (F : Fr h₀ L h m) (N : News h₀ L h l)
    (hg : HasG m bs ks c W K Ls Ms) (hl : Lists l bs ks W K Ls Ms) (hz : Sized bs) (hz' : Sized ks) (hc : c = #[116, 114, 117, 101] → triples bs = 0)
    (hm : m (Str.ofString "ways") = some (.ref wl)) (hW : WaysV l wl R vd x0 c0 s0 lk ib) (hP : FilV w l x0 c0 s0 lk c false none) (hD : DrvV w vd l R c ib)
    (H : ∀ h' tk' m', Fr h₀ L h' m' → News h₀ L h' l → Agree eight m' m →
      (∀ b1 b2, R = some (b1, b2) → ∃ vi vo, m' (Str.ofString "inward") = some vi ∧ m' (Str.ofString "outward") = some vo ∧ InV vi W Ls true true (b1 && ib) c bs ∧ OutV vo K Ms b2 true b1 ks) →
      wpAny (model prog w) (callerA.deeper (lawEn L f cd)) (execs rest (lawEn L f cd)) Q E ⟨h', gn, dr, tk', os⟩)
    (hE : PassesOwn (model prog w) (callerA.deeper (lawEn L f cd)) (lawEn L f cd) E) :
    wpAny (model prog w) (callerA.deeper (lawEn L f cd)) (execs (turnAt 25 :: rest) (lawEn L f cd)) Q E ⟨h, gn, dr, tk, os⟩ := by
  obtain ⟨nn, vs, hwl, hV⟩ := hW
  have go : ∀ (ws : List WayP), vs.length = ws.length → (∀ (i : Nat) (p : WayP), ws[i]? = some p → ∃ t : Addr, vs[i]? = some (Value.ref t) ∧ (t, p.obj) ∈ l) →
      (∀ p ∈ ws, ∃ ix, FilV w l p.x p.cl p.sm p.bd c p.rl ix ∧ p.sy = decide (ix = some true)) →
      (∀ h' tk' m', Fr h₀ L h' m' → News h₀ L h' l → Agree eight m' m → (∀ (j : Nat) p, ws.length = j + 1 → ws[j]? = some p → ∃ vi vo, m' (Str.ofString "inward") = some vi ∧ m' (Str.ofString "outward") = some vo ∧ InV vi W Ls p.cl p.bd p.sy c bs ∧ OutV vo K Ms p.sm p.bd p.rl ks) →
        wpAny (model prog w) (callerA.deeper (lawEn L f cd)) (execs rest (lawEn L f cd)) Q E ⟨h', gn, dr, tk', os⟩) →
      wpAny (model prog w) (callerA.deeper (lawEn L f cd)) (execs (turnAt 25 :: rest) (lawEn L f cd)) Q E ⟨h, gn, dr, tk, os⟩ := by
    intro ws hlen hv hf hfin
    refine ways_for F N hm hwl hlen hv (fun i m₁ => Agree eight m₁ m ∧ ∀ (j : Nat) p, i = j + 1 → ws[j]? = some p → ∃ vi vo, m₁ (Str.ofString "inward") = some vi ∧ m₁ (Str.ofString "outward") = some vo ∧ InV vi W Ls p.cl p.bd p.sy c bs ∧ OutV vo K Ms p.sm p.bd p.rl ks)
      ⟨fun _ _ => rfl, fun j p e => by omega⟩ ?_ ?_ hE
    · intro i p m₁ g gn1 dr1 tk1 os1 l' hp hJ F1 N1 hsub
      obtain ⟨ix, hf1, hs1⟩ := hf p (List.mem_of_getElem? hp)
      refine wpAny_mono (turnG B X T F1 N1 (hg.agree hJ.1 (by decide)) (hl.mono hsub) hz hz' hc (hf1.mono hsub) hs1) (fun fl s' hq => ?_) fun _ _ e => e
      obtain ⟨rfl, h', tk', vi, vo, rfl, F2, N2, hI, hO⟩ := hq
      refine ⟨rfl, h', tk', _, rfl, F2, N2, ?_, ?_⟩
      · refine Agree.idem ?_ hJ.1
        exact Agree.st.trans (Agree.st.trans (Agree.st.trans (Agree.st.trans (Agree.st.trans (Agree.st.trans (Agree.st.trans Agree.st))))))
      · intro j q e hq
        have e : i = j := by omega
        subst e
        rw [hp] at hq
        obtain rfl := Option.some.inj hq
        exact ⟨vi, vo, rfl, rfl, hI, hO⟩
    · intro h' tk' m' hJ F' N'
      exact hfin h' tk' m' F' N' hJ.1 hJ.2
  rcases hV with ⟨hR, v1, rfl, t1, rfl, ht1⟩ | ⟨b1, b2, x, v1, v2, hR, rfl, rfl, ⟨t1, rfl, ht1⟩, t2, rfl, ht2⟩
  · refine go [⟨x0, c0, s0, lk, false, false⟩] rfl ?_ ?_ ?_
    · intro i p hp
      match i, hp with
      | 0, hp => obtain rfl := Option.some.inj hp; exact ⟨t1, rfl, ht1⟩
    · intro p hp
      rw [List.mem_singleton.mp hp]
      exact ⟨none, hP, rfl⟩
    · intro h' tk' m' F' N' ha _
      exact H h' tk' m' F' N' ha fun b1 b2 e => by rw [hR] at e; cases e
  · rcases hD with ⟨hR', _⟩ | ⟨b1', b2', x', hR', hx', hf'⟩
    · rw [hR] at hR'; cases hR'
    rw [hR] at hR'
    obtain ⟨rfl, rfl⟩ := Prod.mk.inj (Option.some.inj hR')
    obtain rfl : x = x' := Value.ref.inj hx'
    refine go [⟨x0, c0, s0, lk, false, false⟩, ⟨x, true, b2, true, b1, b1 && ib⟩] rfl ?_ ?_ ?_
    · intro i p hp
      match i, hp with
      | 0, hp => obtain rfl := Option.some.inj hp; exact ⟨t1, rfl, ht1⟩
      | 1, hp => obtain rfl := Option.some.inj hp; exact ⟨t2, rfl, ht2⟩
    · intro p hp
      rcases List.mem_cons.mp hp with rfl | hp
      · exact ⟨none, hP, rfl⟩
      · rw [List.mem_singleton.mp hp]
        exact ⟨_, hf', by cases b1 <;> cases ib <;> rfl⟩
    · intro h' tk' m' F' N' ha hlast
      refine H h' tk' m' F' N' ha fun c1 c2 e => ?_
      rw [hR] at e
      obtain ⟨rfl, rfl⟩ := Prod.mk.inj (Option.some.inj e)
      exact hlast 1 _ rfl rfl
end
end Mine
end
section
open PySem PySem.W PySem.Calls PySem.Spec PyProof.Rows
namespace Mine
set_option maxRecDepth 100000
section
variable {prog : Program} {w : World} {mean : ExcName → Option Value} {mg mb : Str → Option Value} {x d : Addr} {k1 k2 k3 k4 k5 k6 t4 t5 : Tok} {v1 v2 v5 v6 : Value} {sm rl : Bool} {ix : Option Bool} {sc : Array UInt8} {bs ks : List (Array UInt8)}
theorem less_size (a : Array UInt8) : (less a.toList).toArray.size ≤ a.size := by
  have := less_length a.toList
  simpa using this
theorem smudge_size (sm bd rl : Bool) (a : Array UInt8) : (smudgeF sm bd rl a).size ≤ 2 * a.size := by
  have h := more_length a.toList false
  have h : (more false a.toList).toArray.size ≤ 2 * a.size := by simpa using h
  unfold smudgeF
  split
  · omega
  · split
    · omega
    · split
      · omega
      · exact h
/-- checking in what was checked out -/
theorem cl_back (hz : Sized ks) (hcr : hasCR (jn ks).toList = false) : PureL prog w mean mg mb 4 96 [.ref x, .bytes (smudgeF sm true rl (jn ks)) t5] [(x, instObj 114 d), (d, filD w k1 k2 k3 k4 k5 k6 (optT true) v2 (.bool true) (.bytes sc t4) v5 (ixV (if rl then some false else none)))] True
    (fun new v => new = [] ∧ ∃ t, v = .bytes (jn ks) t) := by
  have h8 := F8 hcr sm rl (if rl then some false else none) (by cases rl <;> simp)
  have C := L_clean (prog := prog) (w := w) (mean := mean) (mg := mg) (mb := mb) x d k1 k2 k3 k4 k5 k6 t4 t5 v2 v5 true true (if rl then some false else none) sc (smudgeF sm true rl (jn ks))
  rw [h8.2] at C
  intro gd fr base g h gn dr tk os Q E B X T S _ hret
  have z0 := hz.z0
  have z1 := smudge_size sm true rl (jn ks)
  have z2 := less_size (smudgeF sm true rl (jn ks))
  exact C gd fr base g h gn dr tk os Q E B X T S ⟨by omega, by omega, fun _ _ => h8.1⟩ hret
/-- checking in, then out -/
def fwdB (bs : List (Array UInt8)) (ix : Option Bool) : Array UInt8 := if keepsC true true ix (jn bs) then jn bs else (less (jn bs).toList).toArray
theorem fwd_size (hz : Sized bs) : (fwdB bs ix).size ≤ 80000 := by
  have z0 := hz.z0
  have z2 := less_size (jn bs)
  unfold fwdB; split <;> omega
theorem cl_fwd (hz : Sized bs) (hr : raiseC (jn bs) (less (jn bs).toList).toArray = false) : PureL prog w mean mg mb 4 96 [.ref x, .bytes (jn bs) t5] [(x, instObj 114 d), (d, filD w k1 k2 k3 k4 k5 k6 (optT true) v2 (.bool true) (.bytes sc t4) v5 (ixV ix))] True
    (fun new v => new = [] ∧ ∃ t, v = .bytes (fwdB bs ix) t) := by
  have C := L_clean (prog := prog) (w := w) (mean := mean) (mg := mg) (mb := mb) x d k1 k2 k3 k4 k5 k6 t4 t5 v2 v5 true true ix sc (jn bs)
  intro gd fr base g h gn dr tk os Q E B X T S _ hret
  have z0 := hz.z0
  have z2 := less_size (jn bs)
  exact C gd fr base g h gn dr tk os Q E B X T S ⟨by omega, by omega, fun _ _ => hr⟩ hret
theorem sm_fwd (hz : Sized bs) (hs : smudgeF true true rl (fwdB bs ix) = jn bs) : PureL prog w mean mg mb 4 104 [.ref x, .bytes (fwdB bs ix) t5] [(x, instObj 114 d), (d, filD w k1 k2 k3 k4 k5 k6 v1 (optT true) (.bool true) (.bytes sc t4) (.bool rl) v6)] True
    (fun new v => new = [] ∧ ∃ t, v = .bytes (jn bs) t) := by
  have C := L_smudge (prog := prog) (w := w) (mean := mean) (mg := mg) (mb := mb) x d k1 k2 k3 k4 k5 k6 t4 t5 v1 v6 true true rl sc (fwdB bs ix)
  rw [hs] at C
  intro gd fr base g h gn dr tk os Q E B X T S _ hret
  have z0 := fwd_size (ix := ix) hz
  have z1 : (more false (fwdB bs ix).toList).toArray.size ≤ 2 * (fwdB bs ix).size := by
    have h := more_length (fwdB bs ix).toList false
    simpa using h
  exact C gd fr base g h gn dr tk os Q E B X T S ⟨by omega, by omega, F7 _⟩ hret
end
end Mine
namespace Mine
open PySem PySem.W PySem.Calls PySem.Spec PyProof.Rows
noncomputable def elseBody : List Stmt := match turnAt 26 with
  | .If _ _ e _ => e
  | _ => []
noncomputable def elseAt (k : Nat) : Stmt := elseBody.getD k (.Pass {line := 0, col := 0, endLine := 0, endCol := 0})
end Mine
end
section
open PySem PySem.W PySem.Calls PySem.Spec PyProof.Rows
namespace Mine
set_option maxRecDepth 100000
variable {prog : Program} {w : World} {mean : ExcName → Option Value} {mg mb : Str → Option Value}
set_option maxHeartbeats 8000000 in
theorem segH0 {L f cd : Addr} {h₀ h : Heap} {gn : Array GenState} {dr : Drawn} {os : OsState} {tk : Nat} {m : Str → Option Value} {l : List (Addr × Obj)} {Q : Flow → Shared → Prop} {E : Value → Shared → Prop} {rest : List Stmt} {W K : Addr}
    (B : Below callerA h₀ [] h₀) (X : (Mine.K w.params).In h₀) (T : Top Mine.V JLo mean mg mb h₀) (F : Fr h₀ L h m) (N : News h₀ L h l) (h1 : m (Str.ofString "rule") = some .none) (h2 : m (Str.ofString "work") = some (.ref W)) (h3 : m (Str.ofString "kept") = some (.ref K))
    (H : ∀ h' tk', Fr h₀ L h' (st (Str.ofString "outward") (.ref K) (st (Str.ofString "inward") (.ref W) m)) → News h₀ L h' l → wpAny (model prog w) (callerA.deeper (lawEn L f cd)) (execs rest (lawEn L f cd)) Q E ⟨h', gn, dr, tk', os⟩) :
    wpAny (model prog w) (callerA.deeper (lawEn L f cd)) (execs (turnAt 26 :: rest) (lawEn L f cd)) Q E ⟨h, gn, dr, tk, os⟩ := by
  have em : (st (Str.ofString "rule") .none (st (Str.ofString "work") (.ref W) (st (Str.ofString "kept") (.ref K) m))) = m := by rw [know_eq h3, know_eq h2, know_eq h1]
  have F' : Fr h₀ L h (st (Str.ofString "rule") .none (st (Str.ofString "work") (.ref W) (st (Str.ofString "kept") (.ref K) m))) := by rw [em]; exact F
  clear F
  simp only [turnAt, forBody, stmtAt, lawRec, recOf, List.getD_cons_zero, List.getD_cons_succ]
  walk_at "J steps"
  all_goals (with_reducible rename Fr h₀ _ _ _ => F₁)
  all_goals (with_reducible rename News h₀ _ _ _ => N₁)
  all_goals first
    | (exact H _ _ (by rw [← em]; exact F₁) N₁)
    | skip

end Mine
end
section
open PySem PySem.W PySem.Calls PySem.Spec PyProof.Rows
namespace Mine
set_option maxRecDepth 100000
variable {prog : Program} {w : World} {mean : ExcName → Option Value} {mg mb : Str → Option Value}
set_option maxHeartbeats 8000000 in
theorem segH1 {L f cd : Addr} {h₀ h : Heap} {gn : Array GenState} {dr : Drawn} {os : OsState} {tk : Nat} {m : Str → Option Value} {l : List (Addr × Obj)} {Q : Flow → Shared → Prop} {E : Value → Shared → Prop} {rest : List Stmt} {x d : Addr} {k1 k2 k3 k4 k5 k6 t0 : Tok} {b1 b2 hb sb : Bool} {c : Array UInt8} {ks : List (Array UInt8)}
    (B : Below callerA h₀ [] h₀) (X : (Mine.K w.params).In h₀) (T : Top Mine.V JLo mean mg mb h₀) (F : Fr h₀ L h m) (N : News h₀ L h ((x, instObj 114 d) :: (d, filD w k1 k2 k3 k4 k5 k6 (optT true) (optT b2) (.bool true) (.bytes c t0) (.bool b1) (ixV (if b1 then some (hb && sb) else none))) :: l)) (hz : Sized ks) (hcr : hb = false → hasCR (jn ks).toList = false)
    (h1 : IsBo m (Str.ofString "held") hb) (h2 : m (Str.ofString "driver") = some (.ref x)) (h3 : IsB m (Str.ofString "there") (jn ks))
    (H : ∀ h' tk', Fr h₀ L h' m → News h₀ L h' l → wpAny (model prog w) (callerA.deeper (lawEn L f cd)) (execs rest (lawEn L f cd)) Q E ⟨h', gn, dr, tk', os⟩) :
    wpAny (model prog w) (callerA.deeper (lawEn L f cd)) (execs (elseAt 0 :: rest) (lawEn L f cd)) Q E ⟨h, gn, dr, tk, os⟩ := by
  obtain ⟨t2, q3⟩ := h3
  have z0 := hz.z0
  cases hb
  · replace hcr := hcr rfl
    rw [show (false && sb) = false from rfl] at N
    have em : (st (Str.ofString "held") (.bool false) (st (Str.ofString "driver") (.ref x) (st (Str.ofString "there") (.bytes (jn ks) t2) m))) = m := by rw [know_eq q3, know_eq h2, know_eq h1]
    have F' : Fr h₀ L h (st (Str.ofString "held") (.bool false) (st (Str.ofString "driver") (.ref x) (st (Str.ofString "there") (.bytes (jn ks) t2) m))) := by rw [em]; exact F
    clear F
    simp only [elseAt, elseBody, turnAt, forBody, stmtAt, lawRec, recOf, List.getD_cons_zero, List.getD_cons_succ]
    walk_at "J steps"
    all_goals (with_reducible rename Fr h₀ _ _ _ => F₁)
    all_goals (with_reducible rename News h₀ _ _ _ => N₁)
    all_goals first
      | (rename (_ : Array UInt8) ≠ _ => hne; exact absurd rfl hne)
      | (exact H _ _ (by rw [← em]; exact F₁) (News.sub N₁ (fun p hp => by first | exact hp | (repeat (first | exact hp | apply List.mem_cons_of_mem)))))
      | skip
  · have em : (st (Str.ofString "held") (.bool true) (st (Str.ofString "driver") (.ref x) (st (Str.ofString "there") (.bytes (jn ks) t2) m))) = m := by rw [know_eq q3, know_eq h2, know_eq h1]
    have F' : Fr h₀ L h (st (Str.ofString "held") (.bool true) (st (Str.ofString "driver") (.ref x) (st (Str.ofString "there") (.bytes (jn ks) t2) m))) := by rw [em]; exact F
    clear F
    simp only [elseAt, elseBody, turnAt, forBody, stmtAt, lawRec, recOf, List.getD_cons_zero, List.getD_cons_succ]
    walk_at "J steps"
    all_goals (with_reducible rename Fr h₀ _ _ _ => F₁)
    all_goals (with_reducible rename News h₀ _ _ _ => N₁)
    all_goals first
      | (rename (_ : Array UInt8) ≠ _ => hne; exact absurd rfl hne)
      | (exact H _ _ (by rw [← em]; exact F₁) (News.sub N₁ (fun p hp => by first | exact hp | (repeat (first | exact hp | apply List.mem_cons_of_mem)))))
      | skip

end Mine
end
section
open PySem PySem.W PySem.Calls PySem.Spec PyProof.Rows
namespace Mine
set_option maxRecDepth 100000
variable {prog : Program} {w : World} {mean : ExcName → Option Value} {mg mb : Str → Option Value}
set_option maxHeartbeats 8000000 in
theorem segH2 {L f cd : Addr} {h₀ h : Heap} {gn : Array GenState} {dr : Drawn} {os : OsState} {tk : Nat} {m : Str → Option Value} {l : List (Addr × Obj)} {Q : Flow → Shared → Prop} {E : Value → Shared → Prop} {rest : List Stmt} {x d d0 W : Addr} {k1 k2 k3 k4 k5 k6 t0 : Tok} {b1 b2 ib : Bool} {c : Array UInt8} {bs : List (Array UInt8)} {vs : List Value} {n : Nat}
    (B : Below callerA h₀ [] h₀) (X : (Mine.K w.params).In h₀) (T : Top Mine.V JLo mean mg mb h₀) (F : Fr h₀ L h m) (N : News h₀ L h ((x, instObj 114 d) :: (d, filD w k1 k2 k3 k4 k5 k6 (optT true) (optT b2) (.bool true) (.bytes c t0) (.bool b1) (ixV (if b1 then some ib else none))) :: (d0, { cls := .type "tuple", data := .seq #[.bool b1, .bool b2] }) :: (W, PySem.W.listOf vs.toArray n) :: l)) (hb : BytesAre vs bs) (hz : Sized bs)
    (h1 : m (Str.ofString "rule") = some (.ref d0)) (h2 : m (Str.ofString "driver") = some (.ref x)) (h3 : IsB m (Str.ofString "here") (jn bs)) (h4 : IsI m (Str.ofString "lone") (lone bs : Int)) (h5 : IsI m (Str.ofString "pairs") (pairs bs : Int)) (h6 : m (Str.ofString "work") = some (.ref W))
    (H : ∀ h' tk', Fr h₀ L h' m → News h₀ L h' l → wpAny (model prog w) (callerA.deeper (lawEn L f cd)) (execs rest (lawEn L f cd)) Q E ⟨h', gn, dr, tk', os⟩) :
    wpAny (model prog w) (callerA.deeper (lawEn L f cd)) (execs (elseAt 1 :: rest) (lawEn L f cd)) Q E ⟨h, gn, dr, tk, os⟩ := by
  obtain ⟨t2, q3⟩ := h3
  obtain ⟨t4, q4⟩ := h4
  obtain ⟨t5, q5⟩ := h5
  have z0 := hz.z0
  have z4 := hz.len
  have z5 : vs.length ≤ 70000 := by rw [hb.length]; exact z4
  have em : (st (Str.ofString "rule") (.ref d0) (st (Str.ofString "driver") (.ref x) (st (Str.ofString "here") (.bytes (jn bs) t2) (st (Str.ofString "lone") (.int (lone bs : Int) t4) (st (Str.ofString "pairs") (.int (pairs bs : Int) t5) (st (Str.ofString "work") (.ref W) m)))))) = m := by rw [know_eq h6, know_eq q5, know_eq q4, know_eq q3, know_eq h2, know_eq h1]
  have F' : Fr h₀ L h (st (Str.ofString "rule") (.ref d0) (st (Str.ofString "driver") (.ref x) (st (Str.ofString "here") (.bytes (jn bs) t2) (st (Str.ofString "lone") (.int (lone bs : Int) t4) (st (Str.ofString "pairs") (.int (pairs bs : Int) t5) (st (Str.ofString "work") (.ref W) m)))))) := by rw [em]; exact F
  clear F
  simp only [elseAt, elseBody, turnAt, forBody, stmtAt, lawRec, recOf, List.getD_cons_zero, List.getD_cons_succ]
  repeat' ((fail_if_success (with_reducible show wpAny _ _ (call (Value.ref 96) _) _ _ _)); walk_at "J step")
  all_goals (with_reducible rename Fr h₀ _ _ _ => F₁)
  all_goals (with_reducible rename News h₀ _ _ _ => N₁)
  all_goals try exact H _ _ (by rw [← em]; exact F₁) (News.sub N₁ (fun p hp => by first | exact hp | (repeat (first | exact hp | apply List.mem_cons_of_mem))))
  clear F₁
  refine comp_vals (fun i ys => BytesAre ys ((bs.take i).filter (fun b => decide (b = #[13])))) ?_ BytesAre.nil ?_
  · rintro i v I oI C oC D m₂ ys h tk E' hi hv hj hC hx F N off ne
    have hi' : i < bs.length := by rw [← hb.length]; simpa using hi
    obtain ⟨tv, hv'⟩ := hb.get (List.getElem?_eq_getElem hi')
    have hv2 : vs[i]? = some v := by simpa using hv
    rw [hv'] at hv2
    obtain rfl := Option.some.inj hv2
    have hyes : bs[i] = #[13] → ∀ t, BytesAre (ys ++ [.bytes bs[i] t]) ((bs.take (i + 1)).filter (fun b => decide (b = #[13]))) := by
      intro e t
      rw [List.take_add_one, List.getElem?_eq_getElem hi', List.filter_append]
      refine BytesAre.append hj ?_
      simp only [Option.toList, List.filter_cons, List.filter_nil, decide_eq_true e, if_true]
      exact BytesAre.nil.cons
    have hno : ¬ bs[i] = #[13] → BytesAre ys ((bs.take (i + 1)).filter (fun b => decide (b = #[13]))) := by
      intro e
      rw [List.take_add_one, List.getElem?_eq_getElem hi', List.filter_append]
      simp only [Option.toList, List.filter_cons, List.filter_nil, decide_eq_false e, Bool.false_eq_true, if_false, List.append_nil]
      exact hj
    walk_at "J steps"
    · exact LCg.CompEnd.intro (by k_asm) (by k_asm) _ (fun p hp => by repeat (first | exact hp | apply List.mem_cons_of_mem)) (by assumption) (.inr ⟨_, by walk_at "J mem", rfl, _, rfl⟩) ⟨rfl, hyes (by assumption) _⟩
    · exact LCg.CompEnd.intro (by k_asm) (by k_asm) _ (fun p hp => by repeat (first | exact hp | apply List.mem_cons_of_mem)) (by assumption) (.inr ⟨_, by walk_at "J mem", rfl, _, rfl⟩) ⟨rfl, hno (by assumption)⟩
  · rw [List.size_toArray, hb.length]
    intro ys hys
    rw [List.take_length] at hys
    have z6 : (bs.filter (fun b => decide (b = #[13]))).length ≤ bs.length := List.length_filter_le _ _
    repeat' ((fail_if_success (with_reducible show wpAny _ _ (call (Value.ref 96) _) _ _ _)); walk_at "J step")
    · rename b2 = true => hb2
      subst hb2
      rename bs.any _ = false => ha0
      rename (_ : Int) = (pairs bs : Int) => hcp
      rename (lone bs : Int) = 0 => hl0
      have h9 := F9 hz.wf.each (by omega) ha0 (by omega) b1 (if b1 then some ib else none) (fun e => by rw [e]; simp)
      refine' use_L (cl_fwd (d := d) (k1 := k1) (k2 := k2) (k3 := k3) (k4 := k4) (k5 := k5) (k6 := k6) (t4 := t0) (v2 := optT true) (v5 := .bool b1) (ix := if b1 then some ib else none) hz h9.1) ?B ?F ?X ?N ?T ?h1 ?h2 ?h3 ?h4 ?h5 ?sub ?pre ?_
      (case B => assumption)
      (case F => k_asm)
      (case X => assumption)
      (case N => k_asm)
      (case T => assumption)
      (case h1 => exact rfl)
      (case h2 => exact rfl)
      (case h3 => exact rfl)
      (case h4 => exact Nat.le_of_ble_eq_true rfl)
      (case h5 => exact Nat.le_of_ble_eq_true rfl)
      (case sub => intro p hp; simp only [List.mem_cons, List.not_mem_nil, or_false] at hp; rcases hp with rfl | rfl <;> walk_at "J mem")
      (case pre => trivial)
      intro v' nw' h' tk' F' N' st' p'
      clear st'
      obtain ⟨e1', t', e2'⟩ := p'
      subst e1' e2'
      try simp only [List.nil_append] at N'


      repeat' ((fail_if_success (with_reducible show wpAny _ _ (call (Value.ref 104) _) _ _ _)); walk_at "J step")
      refine' use_L (sm_fwd (d := d) (k1 := k1) (k2 := k2) (k3 := k3) (k4 := k4) (k5 := k5) (k6 := k6) (t4 := t0) (v1 := optT true) (rl := b1) (v6 := ixV (if b1 then some ib else none)) (ix := if b1 then some ib else none) hz h9.2) ?B ?F ?X ?N ?T ?h1 ?h2 ?h3 ?h4 ?h5 ?sub ?pre ?_
      (case B => assumption)
      (case F => k_asm)
      (case X => assumption)
      (case N => k_asm)
      (case T => assumption)
      (case h1 => exact rfl)
      (case h2 => exact rfl)
      (case h3 => exact rfl)
      (case h4 => exact Nat.le_of_ble_eq_true rfl)
      (case h5 => exact Nat.le_of_ble_eq_true rfl)
      (case sub => intro p hp; simp only [List.mem_cons, List.not_mem_nil, or_false] at hp; rcases hp with rfl | rfl <;> walk_at "J mem")
      (case pre => trivial)
      intro v' nw' h' tk' F' N' st' p'
      clear st'
      obtain ⟨e1', t', e2'⟩ := p'
      subst e1' e2'
      try simp only [List.nil_append] at N'


      walk_at "J steps"
      all_goals (with_reducible rename Fr h₀ _ _ _ => F₁)
      all_goals (with_reducible rename News h₀ _ _ _ => N₁)
      all_goals first
        | (rename (_ : Array UInt8) ≠ _ => hne; exact absurd rfl hne)
        | (exact H _ _ (by rw [← em]; exact F₁) (News.sub N₁ (fun p hp => by first | exact hp | (repeat (first | exact hp | apply List.mem_cons_of_mem)))))
        | skip


    all_goals (with_reducible rename Fr h₀ _ _ _ => F₁)
    all_goals (with_reducible rename News h₀ _ _ _ => N₁)
    all_goals exact H _ _ (by rw [← em]; exact F₁) (News.sub N₁ (fun p hp => by first | exact hp | (repeat (first | exact hp | apply List.mem_cons_of_mem))))


end Mine
end
section
open PySem PySem.W PySem.Calls PySem.Spec PyProof.Rows
namespace Mine
set_option maxRecDepth 100000
variable {prog : Program} {w : World} {mean : ExcName → Option Value} {mg mb : Str → Option Value}
set_option maxHeartbeats 8000000 in
theorem segHe {L f cd : Addr} {h₀ h : Heap} {gn : Array GenState} {dr : Drawn} {os : OsState} {tk : Nat} {m : Str → Option Value} {l : List (Addr × Obj)} {Q : Flow → Shared → Prop} {E : Value → Shared → Prop} {rest : List Stmt} {d0 : Addr}
    (B : Below callerA h₀ [] h₀) (X : (Mine.K w.params).In h₀) (T : Top Mine.V JLo mean mg mb h₀) (F : Fr h₀ L h m) (N : News h₀ L h l) (h1 : m (Str.ofString "rule") = some (.ref d0))
    (H : ∀ h' tk', Fr h₀ L h' m → News h₀ L h' l → wpAny (model prog w) (callerA.deeper (lawEn L f cd)) (execs [elseAt 0, elseAt 1] (lawEn L f cd)) (fun fl s' => match fl with | .next => wpAny (model prog w) (callerA.deeper (lawEn L f cd)) (execs rest (lawEn L f cd)) Q E s' | f => Q f s') E ⟨h', gn, dr, tk', os⟩) :
    wpAny (model prog w) (callerA.deeper (lawEn L f cd)) (execs (turnAt 26 :: rest) (lawEn L f cd)) Q E ⟨h, gn, dr, tk, os⟩ := by
  have em : (st (Str.ofString "rule") (.ref d0) m) = m := by rw [know_eq h1]
  have F' : Fr h₀ L h (st (Str.ofString "rule") (.ref d0) m) := by rw [em]; exact F
  clear F
  simp only [turnAt, forBody, stmtAt, lawRec, recOf, List.getD_cons_zero, List.getD_cons_succ]
  repeat' ((fail_if_success (with_reducible show wpAny _ _ (execs [_, _] _) _ _ _)); walk_at "J step")
  all_goals (with_reducible rename Fr h₀ _ _ _ => F₁)
  all_goals (with_reducible rename News h₀ _ _ _ => N₁)
  refine wpAny_mono (H _ _ (by rw [← em]; exact F₁) N₁) (fun fl s' hq => ?_) fun _ _ e => e
  cases fl <;> exact hq

end Mine
end
section
open PySem PySem.W PySem.Calls PySem.Spec PyProof.Rows
namespace Mine
set_option maxRecDepth 100000
variable {prog : Program} {w : World} {mean : ExcName → Option Value} {mg mb : Str → Option Value}
set_option maxHeartbeats 8000000 in
theorem segI {L f cd : Addr} {h₀ h : Heap} {gn : Array GenState} {dr : Drawn} {os : OsState} {tk : Nat} {m : Str → Option Value} {l : List (Addr × Obj)} {Q : Flow → Shared → Prop} {E : Value → Shared → Prop} {rest : List Stmt} {k : Int} {vi : Value} {o : Addr}
    (B : Below callerA h₀ [] h₀) (X : (Mine.K w.params).In h₀) (T : Top Mine.V JLo mean mg mb h₀) (F : Fr h₀ L h m) (N : News h₀ L h l) (h1 : IsI m (Str.ofString "kind") k) (h2 : m (Str.ofString "inward") = some vi) (hv : vi = .none ∨ ∃ a, vi = .ref a) (h3 : m (Str.ofString "outward") = some (.ref o))
    (H : ∀ h' tk' m', Fr h₀ L h' m' → News h₀ L h' l → ((∃ a, vi = .ref a ∧ m' = st (Str.ofString "kept") (.ref a) m) ∨ m' = st (Str.ofString "work") (.ref o) m ∨ m' = m) → wpAny (model prog w) (callerA.deeper (lawEn L f cd)) (execs rest (lawEn L f cd)) Q E ⟨h', gn, dr, tk', os⟩) :
    wpAny (model prog w) (callerA.deeper (lawEn L f cd)) (execs (turnAt 27 :: rest) (lawEn L f cd)) Q E ⟨h, gn, dr, tk, os⟩ := by
  obtain ⟨t1, q1⟩ := h1
  rcases hv with rfl | ⟨a, rfl⟩
  · have em : (st (Str.ofString "kind") (.int k t1) (st (Str.ofString "inward") .none (st (Str.ofString "outward") (.ref o) m))) = m := by rw [know_eq h3, know_eq h2, know_eq q1]
    have F' : Fr h₀ L h (st (Str.ofString "kind") (.int k t1) (st (Str.ofString "inward") .none (st (Str.ofString "outward") (.ref o) m))) := by rw [em]; exact F
    clear F
    simp only [turnAt, forBody, stmtAt, lawRec, recOf, List.getD_cons_zero, List.getD_cons_succ]
    walk_at "J steps"
    all_goals (with_reducible rename Fr h₀ _ _ _ => F₁)
    all_goals (with_reducible rename News h₀ _ _ _ => N₁)
    all_goals first
      | (exact H _ _ _ (by rw [← em]; exact F₁) N₁ (.inr (.inr rfl)))
      | (exact H _ _ _ (by rw [← em]; exact F₁) N₁ (.inr (.inl rfl)))
      | (exact H _ _ _ (by rw [← em]; exact F₁) N₁ (.inr (.inr rfl)))
      | skip
  · have em : (st (Str.ofString "kind") (.int k t1) (st (Str.ofString "inward") (.ref a) (st (Str.ofString "outward") (.ref o) m))) = m := by rw [know_eq h3, know_eq h2, know_eq q1]
    have F' : Fr h₀ L h (st (Str.ofString "kind") (.int k t1) (st (Str.ofString "inward") (.ref a) (st (Str.ofString "outward") (.ref o) m))) := by rw [em]; exact F
    clear F
    simp only [turnAt, forBody, stmtAt, lawRec, recOf, List.getD_cons_zero, List.getD_cons_succ]
    walk_at "J steps"
    all_goals (with_reducible rename Fr h₀ _ _ _ => F₁)
    all_goals (with_reducible rename News h₀ _ _ _ => N₁)
    all_goals first
      | (exact H _ _ _ (by rw [← em]; exact F₁) N₁ (.inl ⟨a, rfl, rfl⟩))
      | (exact H _ _ _ (by rw [← em]; exact F₁) N₁ (.inr (.inl rfl)))
      | (exact H _ _ _ (by rw [← em]; exact F₁) N₁ (.inr (.inr rfl)))
      | skip

end Mine
end
section
open PySem PySem.W PySem.Calls PySem.Spec PyProof.Rows
namespace Mine
set_option maxRecDepth 100000
theorem st_at {x : Str} {v : Value} {m : Str → Option Value} : st x v m x = some v := if_pos rfl
section
variable {prog : Program} {w : World} {mean : ExcName → Option Value} {mg mb : Str → Option Value} {E : Value → Shared → Prop} {h₀ h : Heap} {L f cd W K Ls Ms : Addr} {gn : Array GenState} {dr : Drawn} {tk : Nat} {os : OsState} {m : Str → Option Value} {l : List (Addr × Obj)} {bs ks : List (Array UInt8)} {c : Array UInt8} {Q : Flow → Shared → Prop} {rest : List Stmt}
theorem InV.val {vi : Value} {cl bd sy : Bool} (h : InV vi W Ls cl bd sy c bs) : vi = .none ∨ vi = .ref W ∨ vi = .ref Ls := by
  rcases h with ⟨_, h⟩ | ⟨_, _, h⟩ | ⟨_, _, h⟩
  · exact .inr (.inl h)
  · exact .inl h
  · exact .inr (.inr h)
theorem OutV.val {vo : Value} {sm bd rl : Bool} (h : OutV vo K Ms sm bd rl ks) : vo = .ref K ∨ vo = .ref Ms := by
  rcases h with ⟨_, h⟩ | ⟨_, h⟩
  · exact .inl h
  · exact .inr h
theorem segH {R : Option (Bool × Bool)} {vr vd : Value} {sb : Bool}
    (B : Below callerA h₀ [] h₀) (X : (Mine.K w.params).In h₀) (T : Top Mine.V JLo mean mg mb h₀) (F : Fr h₀ L h m) (N : News h₀ L h l)
    (hr : m (Str.ofString "rule") = some vr) (RV : RuleV vr l R) (hd : m (Str.ofString "driver") = some vd) (DV : DrvV w vd l R c (heldB ks && sb)) (hheld : IsBo m (Str.ofString "held") (heldB ks))
    (hg : HasG m bs ks c W K Ls Ms) (hl : Lists l bs ks W K Ls Ms) (hz : Sized bs) (hz' : Sized ks)
    (hio : ∀ b1 b2, R = some (b1, b2) → ∃ vi vo, m (Str.ofString "inward") = some vi ∧ m (Str.ofString "outward") = some vo ∧ (vi = .none ∨ vi = .ref W ∨ vi = .ref Ls) ∧ (vo = .ref K ∨ vo = .ref Ms))
    (H : ∀ h' tk' m' vi vo, Fr h₀ L h' m' → News h₀ L h' l → Agree [Str.ofString "outward", Str.ofString "inward"] m' m → m' (Str.ofString "inward") = some vi → m' (Str.ofString "outward") = some vo → (vi = .none ∨ vi = .ref W ∨ vi = .ref Ls) → (vo = .ref K ∨ vo = .ref Ms) →
      wpAny (model prog w) (callerA.deeper (lawEn L f cd)) (execs rest (lawEn L f cd)) Q E ⟨h', gn, dr, tk', os⟩) :
    wpAny (model prog w) (callerA.deeper (lawEn L f cd)) (execs (turnAt 26 :: rest) (lawEn L f cd)) Q E ⟨h, gn, dr, tk, os⟩ := by
  rcases RV with ⟨hR, rfl⟩ | ⟨d0, b1, b2, hR, rfl, hd0⟩
  · refine segH0 B X T F N hr hg.work hg.kept fun h' tk' F' N' => ?_
    exact H h' tk' _ _ _ F' N' (Agree.st.trans Agree.st) rfl rfl (.inr (.inl rfl)) (.inl rfl)
  · rcases DV with ⟨hR', _⟩ | ⟨b1', b2', x, hR', rfl, d, k1, k2, k3, k4, k5, k6, t4, hx, hdd⟩
    · rw [hR] at hR'; cases hR'
    rw [hR] at hR'
    obtain ⟨rfl, rfl⟩ := Prod.mk.inj (Option.some.inj hR')
    obtain ⟨vi, vo, hi, ho, hvi, hvo⟩ := hio b1 b2 hR
    obtain ⟨v1, n1, hW, bW⟩ := hl.work
    refine segHe B X T F N hr fun h1 tk1 F1 N1 => ?_
    refine segH1 (hb := heldB ks) (sb := sb) (b1 := b1) (b2 := b2) (c := c) (d := d) (k1 := k1) (k2 := k2) (k3 := k3) (k4 := k4) (k5 := k5) (k6 := k6) (t0 := t4) B X T F1 (News.cons (News.cons N1 hdd) (.tail _ hx)) hz' (fun e => ?_) hheld hd hg.there fun h2 tk2 F2 N2 => ?_
    · rw [F4 hz'.wf.each, ← heldB_eq, e]
    refine segH2 (b1 := b1) (b2 := b2) (ib := heldB ks && sb) (c := c) (d := d) (d0 := d0) (k1 := k1) (k2 := k2) (k3 := k3) (k4 := k4) (k5 := k5) (k6 := k6) (t0 := t4) B X T F2 (News.cons (News.cons (News.cons (News.cons N2 hW) (.tail _ hd0)) (.tail _ (.tail _ hdd))) (.tail _ (.tail _ (.tail _ hx)))) bW hz hr hd hg.here hg.lone hg.pairs hg.work fun h3 tk3 F3 N3 => ?_
    refine wpAny_execs_nil ?_
    exact H h3 tk3 m vi vo F3 N3 (fun _ _ => rfl) hi ho hvi hvo
theorem careful_ok {safe : Array UInt8} (hc : c = carefulF safe bs) (h : c = #[116, 114, 117, 101]) : triples bs = 0 := by
  unfold carefulF at hc
  split at hc
  · rw [hc] at h; exact absurd h (by decide)
  · rename_i q
    rw [← hc] at q
    have : ¬ 0 < triples bs := fun z => q ⟨h, z⟩
    omega
noncomputable abbrev turnAll (rest : List Stmt) : List Stmt := turnAt 0 :: turnAt 1 :: turnAt 2 :: turnAt 3 :: turnAt 4 :: turnAt 5 :: turnAt 6 :: turnAt 7 :: turnAt 8 :: turnAt 9 :: turnAt 10 :: turnAt 11 :: turnAt 12 :: turnAt 13 :: turnAt 14 :: turnAt 15 :: turnAt 16 :: turnAt 17 :: turnAt 18 :: turnAt 19 :: turnAt 20 :: turnAt 21 :: turnAt 22 :: turnAt 23 :: turnAt 24 :: turnAt 25 :: turnAt 26 :: turnAt 27 :: rest
theorem turn_law {r : Rul} {lead step num : Int} {ow : List (Addr × Obj)} {v1 v2 : List Value} {n1 n2 : Nat}
    (B : Below callerA h₀ [] h₀) (X : (Mine.K w.params).In h₀) (T : Top Mine.V JLo mean mg mb h₀) (F : Fr h₀ L h m) (N : News h₀ L h ((W, PySem.W.listOf v1.toArray n1) :: (K, PySem.W.listOf v2.toArray n2) :: ow))
    (hr : r.Ok) (hm : HasR m r) (hw : HasW m lead step W K) (hnum : IsI m (Str.ofString "number") num) (b1 : BytesAre v1 bs) (b2 : BytesAre v2 ks) (w1 : WF bs) (w2 : WF ks) (z1 : bs.length ≤ 33000) (z2 : ks.length ≤ 33000) (o1 : Off ow W) (o2 : Off ow K)
    (hE : PassesOwn (model prog w) (callerA.deeper (lawEn L f cd)) (lawEn L f cd) E)
    (H : ∀ h' tk' m' r' W' K' v1' n1' v2' n2' bs' ks', Fr h₀ L h' m' → News h₀ L h' ((W', PySem.W.listOf v1'.toArray n1') :: (K', PySem.W.listOf v2'.toArray n2') :: ow) → r'.Ok → HasR m' r' → HasW m' lead step W' K' → BytesAre v1' bs' → BytesAre v2' ks' → WF bs' → WF ks' →
      bs'.length ≤ max (bs.length + 3) (2 * ks.length) → ks'.length ≤ max (bs.length + 3) ks.length → Off ow W' → Off ow K' → wpAny (model prog w) (callerA.deeper (lawEn L f cd)) (execs rest (lawEn L f cd)) Q E ⟨h', gn, dr, tk', os⟩) :
    wpAny (model prog w) (callerA.deeper (lawEn L f cd)) (execs (turnAll rest) (lawEn L f cd)) Q E ⟨h, gn, dr, tk, os⟩ := by
  refine segA (ow2 := ow) B X T F N b1 (by omega) o1 (fun q hq => .tail _ hq) hr hm hw hnum fun hA tkA mA lA FA NA x1 x2 x3 x4 x5 x6 W1 vA nA cs i1 i2 i3 i4 i5 i6 hwA hkA memW subA okA bA eA oA => ?_
  have szA : Sized cs := ⟨eA.wf w1, by have := eA.len; omega⟩
  have szK : Sized ks := ⟨w2, by omega⟩
  refine segB B X T FA NA okA ⟨i1, i2, i3, i4, i5, i6⟩ hwA hkA fun hB tkB mB lB FB NB hmB hwB hkB ruB acB subB => ?_
  obtain ⟨vr, hvr, RV⟩ := ruB.out
  refine segC B X T FB (News.cons NB (subB _ memW)) bA szA ⟨hmB, hwB, hkB, hvr, acB⟩ fun hC tkC mC lC Ls vL nL FC NC hTC hCC memL bL oL subC => ?_
  have subBC : ∀ q ∈ lB, q ∈ lC := fun q hq => subC q (.tail _ hq)
  have memK : (K, PySem.W.listOf v2.toArray n2) ∈ lC := subBC _ (subB _ (subA _ (.head _)))
  refine segD B X T FC (News.cons NC memK) b2 szK hTC hCC fun hD tkD mD lD Ms vM nM FD ND hTD hCD hDD memM bM oM subD => ?_
  have subCD : ∀ q ∈ lC, q ∈ lD := fun q hq => subD q (.tail _ hq)
  refine segE1 (r := ⟨x1, x2, x3, x4, x5, x6⟩) B X T FD ND hTD.rules.safe hCD.triples fun h1 tk1 tE c hc F1 N1 => ?_
  have a1 : Agree [Str.ofString "careful"] (st (Str.ofString "careful") (.bytes c tE) mD) mD := Agree.st
  refine segE2 (r := ⟨x1, x2, x3, x4, x5, x6⟩) (c := c) (hb := heldB ks) (sb := binP 0 ks) (vr := vr) B X T F1 N1 (hTD.action.agree a1 (by decide)) ⟨tE, st_at⟩ (hDD.held.agree a1 (by decide)) (hDD.shut.agree a1 (by decide)) ((a1 _ (by decide)).trans hTD.rule) (RV.mono fun q hq => subCD _ (subBC _ hq)) fun h2 tk2 vd l2 F2 N2 DV sub2 => ?_
  have a2 : Agree [Str.ofString "driver", Str.ofString "careful"] (st (Str.ofString "driver") vd (st (Str.ofString "careful") (.bytes c tE) mD)) mD := Agree.st.trans a1
  refine segE3 (r := ⟨x1, x2, x3, x4, x5, x6⟩) (c := c) (lead := lead) (step := step) B X T F2 N2 (hTD.w.lead.agree a2 (by decide)) (hTD.w.step.agree a2 (by decide)) (hTD.rules.core.agree a2 (by decide)) (hTD.rules.auto.agree a2 (by decide)) ⟨tE, rfl⟩ fun h3 tk3 lk x0 l3 F3 N3 PV sub3 => ?_
  have a3 : Agree [Str.ofString "plain", Str.ofString "looks", Str.ofString "driver", Str.ofString "careful"] (st (Str.ofString "plain") (.ref x0) (st (Str.ofString "looks") (.bool lk) (st (Str.ofString "driver") vd (st (Str.ofString "careful") (.bytes c tE) mD)))) mD := Agree.st.trans (Agree.st.trans a2)
  have RV3 := (RV.mono fun q hq => subCD _ (subBC _ hq)).mono fun q hq => sub3 _ (sub2 _ hq)
  refine segF (r := ⟨x1, x2, x3, x4, x5, x6⟩) (c := c) (x0 := x0) (W := W1) (K := K) (lk := lk) (hb := heldB ks) (sb := binP 0 ks) (vr := vr) (vd := vd) B X T F3 N3 (hTD.rules.auto.agree a3 (by decide)) rfl rfl ((a3 _ (by decide)).trans hTD.rule) RV3 rfl (DV.mono sub3) (hDD.held.agree a3 (by decide)) (hDD.shut.agree a3 (by decide)) ((a3 _ (by decide)).trans hTD.w.work) ((a3 _ (by decide)).trans hTD.w.kept) fun hF tkF wl lF FF NF WV subF => ?_
  have s3F : ∀ q ∈ lD, q ∈ lF := fun q hq => subF _ (sub3 _ (sub2 _ hq))
  have a5 : Agree ([Str.ofString "outward", Str.ofString "inward", Str.ofString "ways"] ++ [Str.ofString "plain", Str.ofString "looks", Str.ofString "driver", Str.ofString "careful"]) (st (Str.ofString "outward") (.ref K) (st (Str.ofString "inward") (.ref W1) (st (Str.ofString "ways") (.ref wl) (st (Str.ofString "plain") (.ref x0) (st (Str.ofString "looks") (.bool lk) (st (Str.ofString "driver") vd (st (Str.ofString "careful") (.bytes c tE) mD))))))) mD :=
    Agree.st.trans (Agree.st.trans (Agree.st.trans a3))
  have hLists : Lists lF cs ks W1 K Ls Ms := ⟨⟨_, _, s3F _ (subCD _ (subBC _ (subB _ memW))), bA⟩, ⟨_, _, s3F _ (subCD _ memL), bL⟩, ⟨_, _, s3F _ (subCD _ memK), b2⟩, ⟨_, _, s3F _ memM, bM⟩⟩
  have hG5 : HasG (st (Str.ofString "outward") (.ref K) (st (Str.ofString "inward") (.ref W1) (st (Str.ofString "ways") (.ref wl) (st (Str.ofString "plain") (.ref x0) (st (Str.ofString "looks") (.bool lk) (st (Str.ofString "driver") vd (st (Str.ofString "careful") (.bytes c tE) mD))))))) cs ks c W1 K Ls Ms :=
    ⟨hCD.blank.agree a5 (by decide), hCD.pairs.agree a5 (by decide), hCD.lone.agree a5 (by decide), ⟨tE, rfl⟩, (a5 _ (by decide)).trans hTD.w.work, (a5 _ (by decide)).trans hTD.w.kept, (a5 _ (by decide)).trans hCD.less, (a5 _ (by decide)).trans hDD.more, hCD.here.agree a5 (by decide), hDD.there.agree a5 (by decide), hDD.shut.agree a5 (by decide)⟩
  refine segG (c := c) (x0 := x0) (vd := vd) B X T FF NF hG5 hLists szA szK (careful_ok hc) rfl WV (PV.mono subF) ((DV.mono sub3).mono subF) (fun hG tkG mG FG NG aG hIO => ?_) hE
  have aGD := aG.trans a5
  refine segH (vd := vd) (sb := !binP 0 ks) B X T FG NG ((aGD _ (by decide)).trans hTD.rule) (RV3.mono subF) ((aG _ (by decide)).trans rfl) ((DV.mono sub3).mono subF) (hDD.held.agree aGD (by decide)) (hG5.agree aG (by decide)) hLists szA szK ?_ ?_
  · intro c1 c2 e
    obtain ⟨vi, vo, q1, q2, q3, q4⟩ := hIO c1 c2 e
    exact ⟨vi, vo, q1, q2, q3.val, q4.val⟩
  intro hH tkH mH vi vo FH NH aH qi qo vvi vvo
  have aHD := aH.trans aGD
  obtain ⟨o, rfl, ho⟩ : ∃ o, vo = .ref o ∧ (o = K ∨ o = Ms) := by rcases vvo with rfl | rfl; exact ⟨_, rfl, .inl rfl⟩; exact ⟨_, rfl, .inr rfl⟩
  have hmH : HasR mH ⟨x1, x2, x3, x4, x5, x6⟩ := hTD.rules.agree aHD (by decide)
  have hwH : HasW mH lead step W1 K := hTD.w.agree aHD (by decide)
  have how : ∀ q ∈ ow, q ∈ lF := fun q hq => s3F _ (subCD _ (subBC _ (subB _ (subA _ (.tail _ hq)))))
  have oLs : Off ow Ls := oL.sub fun q hq => subB _ (subA _ (.tail _ hq))
  have oMs : Off ow Ms := oM.sub fun q hq => subBC _ (subB _ (subA _ (.tail _ hq)))
  have lenA := eA.len
  have lenL := (lessP_sizes cs).2.1
  have lenM := (moreP_sizes ks false).2.1
  obtain ⟨⟨u1, k1, g1, c1⟩, ⟨u2, k2, g2, c2⟩, ⟨u3, k3, g3, c3⟩, ⟨u4, k4, g4, c4⟩⟩ := hLists
  refine segI B X T FH NH (hTD.kind.agree aHD (by decide)) qi ?_ qo fun hI tkI mI FI NI hmI => ?_
  · rcases vvi with rfl | rfl | rfl
    · exact .inl rfl
    · exact .inr ⟨_, rfl⟩
    · exact .inr ⟨_, rfl⟩
  have nws : ∀ {a b : Addr} {va vb : List Value} {na nb : Nat}, (a, PySem.W.listOf va.toArray na) ∈ lF → (b, PySem.W.listOf vb.toArray nb) ∈ lF → News h₀ L hI ((a, PySem.W.listOf va.toArray na) :: (b, PySem.W.listOf vb.toArray nb) :: ow) := fun ha hb =>
    News.sub NI fun q hq => by
      rcases List.mem_cons.mp hq with rfl | hq
      · exact ha
      · rcases List.mem_cons.mp hq with rfl | hq
        · exact hb
        · exact how q hq
  rcases hmI with ⟨a, ea, rfl⟩ | rfl | rfl
  · have aI : Agree [Str.ofString "kept"] (st (Str.ofString "kept") (.ref a) mH) mH := Agree.st
    have hwI : HasW (st (Str.ofString "kept") (.ref a) mH) lead step W1 a := ⟨hwH.lead.agree aI (by decide), hwH.step.agree aI (by decide), (aI _ (by decide)).trans hwH.work, st_at⟩
    rcases vvi with rfl | rfl | rfl
    · cases ea
    · obtain rfl : W1 = a := Value.ref.inj ea
      exact H _ _ _ _ _ _ _ _ _ _ _ _ FI (nws g1 g1) okA (hmH.agree aI (by decide)) hwI c1 c1 szA.wf szA.wf (by omega) (by omega) oA oA
    · obtain rfl : Ls = a := Value.ref.inj ea
      exact H _ _ _ _ _ _ _ _ _ _ _ _ FI (nws g1 g2) okA (hmH.agree aI (by decide)) hwI c1 c2 szA.wf szA.wf.less (by omega) (by omega) oA oLs
  · have aI : Agree [Str.ofString "work"] (st (Str.ofString "work") (.ref o) mH) mH := Agree.st
    have hwI : HasW (st (Str.ofString "work") (.ref o) mH) lead step o K := ⟨hwH.lead.agree aI (by decide), hwH.step.agree aI (by decide), st_at, (aI _ (by decide)).trans hwH.kept⟩
    rcases ho with rfl | rfl
    · exact H _ _ _ _ _ _ _ _ _ _ _ _ FI (nws g3 g3) okA (hmH.agree aI (by decide)) hwI c3 c3 w2 w2 (by omega) (by omega) o2 o2
    · exact H _ _ _ _ _ _ _ _ _ _ _ _ FI (nws g4 g3) okA (hmH.agree aI (by decide)) hwI c4 c3 w2.mor w2 (by omega) (by omega) oMs o2
  · exact H _ _ _ _ _ _ _ _ _ _ _ _ FI (nws g1 g3) okA hmH hwH c1 c3 szA.wf w2 (by omega) (by omega) oA o2
end
end Mine
end
section
open PySem PySem.W PySem.Calls PySem.Spec PyProof.Rows
namespace Mine
set_option maxRecDepth 100000
variable {prog : Program} {w : World} {mean : ExcName → Option Value} {mg mb : Str → Option Value}
set_option maxHeartbeats 8000000 in
theorem segS0 {L f cd : Addr} {h₀ h : Heap} {gn : Array GenState} {dr : Drawn} {os : OsState} {tk : Nat} {m : Str → Option Value} {l : List (Addr × Obj)} {Q : Flow → Shared → Prop} {E : Value → Shared → Prop} {rest : List Stmt} {ls : Addr} {vs : List Value} {ns : List Int}
    (B : Below callerA h₀ [] h₀) (X : (Mine.K w.params).In h₀) (T : Top Mine.V JLo mean mg mb h₀) (F : Fr h₀ L h m) (N : News h₀ L h l) (hL : h₀.IsList ls vs.toArray) (hI : IntsAre vs ns) (hB : ns.length ≤ 63) (h1 : m (Str.ofString "script") = some (.ref ls))
    (H : ∀ h' tk' lead t, Fr h₀ L h' (st (Str.ofString "lead") (.int lead t) m) → News h₀ L h' l → wpAny (model prog w) (callerA.deeper (lawEn L f cd)) (execs rest (lawEn L f cd)) Q E ⟨h', gn, dr, tk', os⟩) :
    wpAny (model prog w) (callerA.deeper (lawEn L f cd)) (execs (stmtAt 0 :: rest) (lawEn L f cd)) Q E ⟨h, gn, dr, tk, os⟩ := by
  have em : (st (Str.ofString "script") (.ref ls) m) = m := by rw [know_eq h1]
  have F' : Fr h₀ L h (st (Str.ofString "script") (.ref ls) m) := by rw [em]; exact F
  clear F
  simp only [stmtAt, lawRec, recOf, List.getD_cons_zero, List.getD_cons_succ]
  walk_at "J steps"
  all_goals (with_reducible rename Fr h₀ _ _ _ => F₁)
  all_goals (with_reducible rename News h₀ _ _ _ => N₁)
  all_goals first
    | (exact H _ _ _ _ (by rw [← em]; exact F₁) N₁)
    | skip

end Mine
end
section
open PySem PySem.W PySem.Calls PySem.Spec PyProof.Rows
namespace Mine
set_option maxRecDepth 100000
variable {prog : Program} {w : World} {mean : ExcName → Option Value} {mg mb : Str → Option Value}
set_option maxHeartbeats 8000000 in
theorem segS1 {L f cd : Addr} {h₀ h : Heap} {gn : Array GenState} {dr : Drawn} {os : OsState} {tk : Nat} {m : Str → Option Value} {l : List (Addr × Obj)} {Q : Flow → Shared → Prop} {E : Value → Shared → Prop} {rest : List Stmt} {lead : Int}
    (B : Below callerA h₀ [] h₀) (X : (Mine.K w.params).In h₀) (T : Top Mine.V JLo mean mg mb h₀) (F : Fr h₀ L h m) (N : News h₀ L h l) (h1 : IsI m (Str.ofString "lead") lead)
    (H : ∀ h' tk' l' x1 x2 x3 x4 x5 x6 t1 t2 t3 t4 t5 t6, Fr h₀ L h' (st (Str.ofString "safe") (.bytes x6 t6) (st (Str.ofString "core") (.str x4 t4) (st (Str.ofString "auto") (.bytes x5 t5) (st (Str.ofString "eol") (.str x3 t3) (st (Str.ofString "crlf") (.str x2 t2) (st (Str.ofString "text") (.str x1 t1) m)))))) → News h₀ L h' l' → Rul.Ok ⟨x1, x2, x3, x4, x5, x6⟩ → (∀ q ∈ l, q ∈ l') → wpAny (model prog w) (callerA.deeper (lawEn L f cd)) (execs rest (lawEn L f cd)) Q E ⟨h', gn, dr, tk', os⟩) :
    wpAny (model prog w) (callerA.deeper (lawEn L f cd)) (execs (stmtAt 1 :: stmtAt 2 :: stmtAt 3 :: stmtAt 4 :: stmtAt 5 :: stmtAt 6 :: rest) (lawEn L f cd)) Q E ⟨h, gn, dr, tk, os⟩ := by
  obtain ⟨t1, q1⟩ := h1
  have em : (st (Str.ofString "lead") (.int lead t1) m) = m := by rw [know_eq q1]
  have F' : Fr h₀ L h (st (Str.ofString "lead") (.int lead t1) m) := by rw [em]; exact F
  clear F
  simp only [stmtAt, lawRec, recOf, List.getD_cons_zero, List.getD_cons_succ]
  walk_at "J steps"
  all_goals (with_reducible rename Fr h₀ _ _ _ => F₁)
  all_goals (with_reducible rename News h₀ _ _ _ => N₁)
  all_goals first
    | (exact H _ _ _ _ _ _ _ _ _ _ _ _ _ _ _ (by rw [← em]; exact F₁) N₁ ⟨ok_get (by decide) (by decide), (by show Str.ofString "" ∈ words7; decide), ok_get (by decide) (by decide), ok_get (by decide) (by decide), ok_get (by decide) (by decide), ok_get (by decide) (by decide)⟩ (by intro p hp; (repeat (first | exact hp | apply List.mem_cons_of_mem))))
    | skip

end Mine
end
section
open PySem PySem.W PySem.Calls PySem.Spec PyProof.Rows
namespace Mine
set_option maxRecDepth 100000
variable {prog : Program} {w : World} {mean : ExcName → Option Value} {mg mb : Str → Option Value}
theorem xs_list (n : Nat) : (List.replicate n [(120 : UInt8)]).flatten = List.replicate n 120 := by
  induction n with
  | zero => rfl
  | succ n ih => rw [List.replicate_succ, List.flatten_cons, ih, List.replicate_succ]; rfl
theorem xs_wf {n : Nat} (h1 : 1 ≤ n) (h2 : n ≤ 8001) : WF [(List.replicate n [(120 : UInt8)]).flatten.toArray, #[13], #[10], #[98], #[10]] := by
  rw [xs_list]
  refine ⟨fun b hb => ?_, ?_⟩
  · simp only [List.mem_cons, List.not_mem_nil, or_false] at hb
    rcases hb with rfl | rfl | rfl | rfl | rfl
    · exact .inr ⟨by simp; omega, fun c hc => by simp at hc; exact hc.2⟩
    all_goals exact .inl rfl
  · simp [sumS]; omega
theorem a_wf : WF [#[97], #[13], #[10], #[98], #[10]] := by
  refine ⟨fun b hb => ?_, by simp [sumS]⟩
  simp only [List.mem_cons, List.not_mem_nil, or_false] at hb
  rcases hb with rfl | rfl | rfl | rfl | rfl
  all_goals exact .inl rfl
set_option maxHeartbeats 8000000 in
theorem segS2 {L f cd : Addr} {h₀ h : Heap} {gn : Array GenState} {dr : Drawn} {os : OsState} {tk : Nat} {m : Str → Option Value} {l : List (Addr × Obj)} {Q : Flow → Shared → Prop} {E : Value → Shared → Prop} {rest : List Stmt} {lead : Int}
    (B : Below callerA h₀ [] h₀) (X : (Mine.K w.params).In h₀) (T : Top Mine.V JLo mean mg mb h₀) (F : Fr h₀ L h m) (N : News h₀ L h l) (h1 : IsI m (Str.ofString "lead") lead)
    (H : ∀ h' tk' l' W K v1 v2 n1 n2 bs, Fr h₀ L h' (st (Str.ofString "kept") (.ref K) (st (Str.ofString "work") (.ref W) m)) → News h₀ L h' l' → (W, PySem.W.listOf v1 n1) ∈ l' → (K, PySem.W.listOf v2 n2) ∈ l' → BytesAre v1.toList bs → BytesAre v2.toList [#[99], #[10]] → WF bs → bs.length = 5 → (∀ q ∈ l, q ∈ l') → wpAny (model prog w) (callerA.deeper (lawEn L f cd)) (execs rest (lawEn L f cd)) Q E ⟨h', gn, dr, tk', os⟩) :
    wpAny (model prog w) (callerA.deeper (lawEn L f cd)) (execs (stmtAt 7 :: stmtAt 8 :: rest) (lawEn L f cd)) Q E ⟨h, gn, dr, tk, os⟩ := by
  obtain ⟨t1, q1⟩ := h1
  have f1 : 0 ≤ (lead.fdiv 8).fmod 8 := Int.fmod_nonneg_of_pos _ (by omega)
  have f2 : (lead.fdiv 8).fmod 8 < 8 := Int.fmod_lt_of_pos _ (by omega)
  have em : (st (Str.ofString "lead") (.int lead t1) m) = m := by rw [know_eq q1]
  have F' : Fr h₀ L h (st (Str.ofString "lead") (.int lead t1) m) := by rw [em]; exact F
  clear F
  simp only [stmtAt, lawRec, recOf, List.getD_cons_zero, List.getD_cons_succ]
  walk_at "J steps"
  all_goals (with_reducible rename Fr h₀ _ _ _ => F₁)
  all_goals (with_reducible rename News h₀ _ _ _ => N₁)
  all_goals refine H _ _ _ _ _ _ _ _ _ _ (by rw [← em]; exact F₁) N₁ (by walk_at "J mem") (by walk_at "J mem") (by exact BytesAre.nil.cons.cons.cons.cons.cons) (by exact BytesAre.nil.cons.cons) ?_ ?_ (by intro p hp; (repeat (first | exact hp | apply List.mem_cons_of_mem)))
  all_goals first
    | exact a_wf
    | exact xs_wf (by omega) (by omega)
    | rfl
    | skip

end Mine
end
section
open PySem PySem.W PySem.Calls PySem.Spec PyProof.Rows
namespace Mine
set_option maxRecDepth 100000
variable {prog : Program} {w : World} {mean : ExcName → Option Value} {mg mb : Str → Option Value}
theorem allLt_mem {d : Addr} : ∀ {l : List (Addr × Obj)}, AllLt d l → ∀ {q : Addr × Obj}, q ∈ l → @LT.lt Nat _ q.1 d
  | [], _, _, h => nomatch h
  | p :: r, h, q, hq => by
    rcases List.mem_cons.mp hq with rfl | hq
    · exact h.1
    · exact allLt_mem h.2 hq
noncomputable def iterE : Expr := match stmtAt 9 with
  | .For _ it _ _ _ => it
  | _ => .Name (Str.ofString "_") {line := 0, col := 0, endLine := 0, endCol := 0}
set_option maxHeartbeats 8000000 in
theorem segL {L f cd : Addr} {h₀ h : Heap} {gn : Array GenState} {dr : Drawn} {os : OsState} {tk : Nat} {m : Str → Option Value} {l : List (Addr × Obj)} {Q : Value → Shared → Prop} {E : Value → Shared → Prop} {ls : Addr} {vs : List Value} {ns : List Int}
    (B : Below callerA h₀ [] h₀) (X : (Mine.K w.params).In h₀) (T : Top Mine.V JLo mean mg mb h₀) (F : Fr h₀ L h m) (N : News h₀ L h l) (hL : h₀.IsList ls vs.toArray) (hI : IntsAre vs ns) (hB : ns.length ≤ 63) (h1 : m (Str.ofString "script") = some (.ref ls))
    (H : ∀ h' tk' l' la vs' n ns', Fr h₀ L h' m → News h₀ L h' l' → (la, PySem.W.listOf vs' n) ∈ l' → IntsAre vs'.toList ns' → vs'.size ≤ 13 → (∀ q ∈ l, la ≠ q.1) → (∀ q ∈ l, q ∈ l') → wpAny (model prog w) (callerA.deeper (lawEn L f cd)) (call (.type "enumerate") [.ref la]) Q E ⟨h', gn, dr, tk', os⟩) :
    wpAny (model prog w) (callerA.deeper (lawEn L f cd)) (eval iterE (lawEn L f cd)) Q E ⟨h, gn, dr, tk, os⟩ := by
  have em : (st (Str.ofString "script") (.ref ls) m) = m := by rw [know_eq h1]
  have F' : Fr h₀ L h (st (Str.ofString "script") (.ref ls) m) := by rw [em]; exact F
  clear F
  simp only [iterE, stmtAt, lawRec, recOf, List.getD_cons_zero, List.getD_cons_succ]
  repeat' ((fail_if_success (with_reducible show wpAny _ _ (call (Value.type "enumerate") _) _ _ _)); walk_at "J step")
  all_goals (with_reducible rename Fr h₀ _ _ _ => F₁)
  all_goals (with_reducible rename News h₀ _ _ _ => N₁)
  have hlen := IntsAre.length (by assumption : IntsAre _ ([10] ++ ns.take 12))
  rw [List.length_append, List.length_take] at hlen
  have hlen2 : ([10] : List Int).length = 1 := rfl
  rename _ ∧ _ ∧ AllLt _ l => hal
  refine H _ _ _ _ _ _ _ (by rw [← em]; exact F₁) N₁ (.head _) (by assumption) (by rw [List.size_toArray]; omega) ?_ (by intro p hp; (repeat (first | exact hp | apply List.mem_cons_of_mem)))
  intro q hq e
  have := allLt_mem hal.2.2 hq
  rw [← e] at this
  exact absurd this (Nat.lt_irrefl _)

end Mine
end
section
open PySem PySem.W PySem.Calls PySem.Spec PyProof.Rows
namespace Mine
set_option maxRecDepth 100000
variable {prog : Program} {w : World} {mean : ExcName → Option Value} {mg mb : Str → Option Value}
set_option maxHeartbeats 8000000 in
theorem segR {L f cd : Addr} {h₀ h : Heap} {gn : Array GenState} {dr : Drawn} {os : OsState} {tk : Nat} {m : Str → Option Value} {l : List (Addr × Obj)} {Q : Flow → Shared → Prop} {E : Value → Shared → Prop}
    (B : Below callerA h₀ [] h₀) (X : (Mine.K w.params).In h₀) (T : Top Mine.V JLo mean mg mb h₀) (F : Fr h₀ L h m) (N : News h₀ L h l) (hQ : ∀ h' tk', Fr h₀ L h' m → Q (.ret (.bool true)) ⟨h', gn, dr, tk', os⟩) :
    wpAny (model prog w) (callerA.deeper (lawEn L f cd)) (execs [stmtAt 10] (lawEn L f cd)) Q E ⟨h, gn, dr, tk, os⟩ := by
  simp only [stmtAt, lawRec, recOf, List.getD_cons_zero, List.getD_cons_succ]
  walk_at "J steps"
  with_reducible rename Fr h₀ _ _ _ => F₁
  exact hQ _ _ F₁

end Mine
end
section
open PySem PySem.W PySem.Calls PySem.Spec PyProof.Rows
namespace Mine
set_option maxRecDepth 100000
theorem for9 : ∃ p1 p2 x1 pt pos, stmtAt 9 = .For (.Tuple [.Name (Str.ofString "step") p1, .Name (Str.ofString "number") p2] x1 pt) iterE (turnAll []) [] pos := ⟨_, _, _, _, _, rfl⟩
theorem law_body : lawRec.body = [stmtAt 0, stmtAt 1, stmtAt 2, stmtAt 3, stmtAt 4, stmtAt 5, stmtAt 6, stmtAt 7, stmtAt 8, stmtAt 9, stmtAt 10] := rfl
theorem ints_get {vs : List Value} {ns : List Int} (h : IntsAre vs ns) : ∀ {i : Nat} {v : Value}, vs[i]? = some v → ∃ k t, v = .int k t := by
  induction h with
  | nil => intro i v hv; simp at hv
  | cons k t _ ih =>
    intro i v hv
    cases i with
    | zero => simp at hv; exact ⟨k, t, hv.symm⟩
    | succ i => exact ih (by simpa using hv)
/-- the law's state between its turns -/
def Between (lead : Int) (i : Nat) (m : Str → Option Value) (nx : List (Addr × Obj)) : Prop :=
  ∃ r W K v1 n1 v2 n2 bs ks, nx = [(W, PySem.W.listOf v1.toArray n1), (K, PySem.W.listOf v2.toArray n2)] ∧ Rul.Ok r ∧ HasR m r ∧ IsI m (Str.ofString "lead") lead ∧ m (Str.ofString "work") = some (.ref W) ∧ m (Str.ofString "kept") = some (.ref K) ∧
    BytesAre v1 bs ∧ BytesAre v2 ks ∧ WF bs ∧ WF ks ∧ bs.length + 3 ≤ 8 * 2 ^ i ∧ ks.length + 3 ≤ 8 * 2 ^ i
section
variable {prog : Program} {w : World} {mean : ExcName → Option Value} {mg mb : Str → Option Value} {E : Value → Shared → Prop} {h₀ h : Heap} {L f cd : Addr} {gn : Array GenState} {dr : Drawn} {tk : Nat} {os : OsState} {m : Str → Option Value} {l : List (Addr × Obj)} {Q : Flow → Shared → Prop} {ls : Addr} {vs : List Value} {ns : List Int} {lead : Int}
theorem law_loop (B : Below callerA h₀ [] h₀) (X : (Mine.K w.params).In h₀) (T : Top Mine.V JLo mean mg mb h₀) (hL : h₀.IsList ls vs.toArray) (hI : IntsAre vs ns) (hB : ns.length ≤ 63) (F : Fr h₀ L h m) (N : News h₀ L h l)
    (hs : m (Str.ofString "script") = some (.ref ls)) (nx : List (Addr × Obj)) (hnx : ∀ p ∈ nx, p ∈ l) (hj : Between lead 0 m nx)
    (hQ : ∀ h' tk' m', Fr h₀ L h' m' → Q (.ret (.bool true)) ⟨h', gn, dr, tk', os⟩)
    (hE : PassesOwn (model prog w) (callerA.deeper (lawEn L f cd)) (lawEn L f cd) E) :
    wpAny (model prog w) (callerA.deeper (lawEn L f cd)) (execs [stmtAt 9, stmtAt 10] (lawEn L f cd)) Q E ⟨h, gn, dr, tk, os⟩ := by
  obtain ⟨p1, p2, x1, pt, pos, e9⟩ := for9
  rw [e9]
  refine wpAny_execs_cons ?_
  refine For_code ?_
  refine segL B X T F N hL hI hB hs fun h1 tk1 l1 la vs' n ns' F1 N1 hmem hI' hsz hoff hsub => ?_
  refine enum_call (h₀ := h₀) (xi := Str.ofString "step") (xc := Str.ofString "number") nx (Between lead) rfl F1 N1 hmem (fun p hp => hsub p (hnx p hp)) (fun p hp e => hoff p (hnx p hp) e.symm) kd_step.1 kd_number.1 (by rfl) hj ?_ ?_ hE
  · intro i v t m₁ nx₁ g tk2 e it oe oi hv hJ hap hne1 hne2 hne3 F2 N2
    obtain ⟨r, W, K, v1, n1, v2, n2, bs, ks, rfl, hr, hm, hl, hW, hK, b1, b2, w1, w2, z1, z2⟩ := hJ
    have hv' : vs'.toList[i]? = some v := by simpa using hv
    obtain ⟨k, tt, rfl⟩ := ints_get hI' hv'
    have hi : i < vs'.size := by
      have := (List.getElem?_eq_some_iff.mp hv').1
      simpa using this
    have hp : 2 ^ i ≤ 2 ^ 12 := Nat.pow_le_pow_right (by decide) (by omega)
    have hp1 : 1 ≤ 2 ^ i := Nat.one_le_two_pow
    have hpe : (2 : Nat) ^ 12 = 4096 := rfl
    have hps : (2 : Nat) ^ (i + 1) = 2 ^ i * 2 := Nat.pow_succ ..
    have a : Agree [Str.ofString "number", Str.ofString "step"] (st (Str.ofString "number") (.int k tt) (st (Str.ofString "step") (.int (i : Int) t) m₁)) m₁ := Agree.st.trans Agree.st
    have off : ∀ {x : Addr}, (∀ y : Addr, y ∈ [e, it, la] → x ≠ y) → Off [(e, oe), (it, oi), (la, PySem.W.listOf vs' n)] x := fun hx q hq => by
      simp only [List.mem_cons, List.not_mem_nil, or_false] at hq
      rcases hq with rfl | rfl | rfl
      · exact hx _ (by simp)
      · exact hx _ (by simp)
      · exact hx _ (by simp)
    have hapW : ∀ y : Addr, y ∈ [e, it, la] → W ≠ y := fun y hy q => hap _ (.head _) (by rw [q]; exact hy)
    have hapK : ∀ y : Addr, y ∈ [e, it, la] → K ≠ y := fun y hy q => hap _ (.tail _ (.head _)) (by rw [q]; exact hy)
    refine turn_law (r := r) (lead := lead) (step := (i : Int)) (num := k) (ow := [(e, oe), (it, oi), (la, PySem.W.listOf vs' n)]) (bs := bs) (ks := ks) B X T F2 N2 hr (hm.agree a (by decide)) ⟨hl.agree a (by decide), ⟨t, rfl⟩, (a _ (by decide)).trans hW, (a _ (by decide)).trans hK⟩ ⟨tt, rfl⟩ b1 b2 w1 w2 (by omega) (by omega) (off hapW) (off hapK) hE ?_
    intro h' tk' m' r' W' K' v1' n1' v2' n2' bs' ks' F' N' hr' hm' hw' c1 c2 w1' w2' l1' l2' o1' o2'
    refine wpAny_execs_nil ?_
    refine ⟨h', tk', m', [(W', PySem.W.listOf v1'.toArray n1'), (K', PySem.W.listOf v2'.toArray n2')], rfl, F', N', ?_, r', W', K', v1', n1', v2', n2', bs', ks', rfl, hr', hm', hw'.lead, hw'.work, hw'.kept, c1, c2, w1', w2', ?_, ?_⟩
    · intro p hp q hq
      simp only [List.mem_cons, List.not_mem_nil, or_false] at hp
      rcases hp with rfl | rfl
      · exact o1' q hq
      · exact o2' q hq
    · rw [hps]; omega
    · rw [hps]; omega
  · intro h' tk' m' nx' F' N' _
    exact segR B X T F' N' fun h'' tk'' F'' => hQ h'' tk'' m' F''
theorem lawT (B : Below callerA h₀ [] h₀) (X : (Mine.K w.params).In h₀) (T : Top Mine.V JLo mean mg mb h₀) (hL : h₀.IsList ls vs.toArray) (hI : IntsAre vs ns) (hB : ns.length ≤ 63) (F : Fr h₀ L h m) (N : News h₀ L h [])
    (hs : m (Str.ofString "script") = some (.ref ls))
    (hQ : ∀ h' tk' m', Fr h₀ L h' m' → Q (.ret (.bool true)) ⟨h', gn, dr, tk', os⟩)
    (hE : PassesOwn (model prog w) (callerA.deeper (lawEn L f cd)) (lawEn L f cd) E) :
    wpAny (model prog w) (callerA.deeper (lawEn L f cd)) (execs lawRec.body (lawEn L f cd)) Q E ⟨h, gn, dr, tk, os⟩ := by
  rw [law_body]
  refine segS0 B X T F N hL hI hB hs fun h1 tk1 lead t F1 N1 => ?_
  refine segS1 B X T F1 N1 (lead := lead) ⟨t, st_at⟩ fun h2 tk2 l2 x1 x2 x3 x4 x5 x6 t1 t2 t3 t4 t5 t6 F2 N2 hok sub2 => ?_
  refine segS2 B X T F2 N2 (lead := lead) ⟨t, rfl⟩ fun h3 tk3 l3 W K v1 v2 n1 n2 bs F3 N3 mW mK b1 b2 w1 z1 sub3 => ?_
  refine law_loop (lead := lead) B X T hL hI hB F3 N3 hs [(W, PySem.W.listOf v1 n1), (K, PySem.W.listOf v2 n2)] ?_ ?_ hQ hE
  · intro p hp
    simp only [List.mem_cons, List.not_mem_nil, or_false] at hp
    rcases hp with rfl | rfl
    · exact mW
    · exact mK
  · refine ⟨⟨x1, x2, x3, x4, x5, x6⟩, W, K, v1.toList, n1, v2.toList, n2, bs, _, rfl, hok, ⟨⟨t1, rfl⟩, ⟨t2, rfl⟩, ⟨t3, rfl⟩, ⟨t4, rfl⟩, ⟨t5, rfl⟩, ⟨t6, rfl⟩⟩, ⟨t, rfl⟩, rfl, rfl, b1, b2, w1, ?_, by omega, ?_⟩
    · refine ⟨fun b hb => ?_, by simp [sumS]⟩
      simp only [List.mem_cons, List.not_mem_nil, or_false] at hb
      rcases hb with rfl | rfl <;> exact .inl rfl
    · decide
end
end Mine
end
section
open PySem PySem.W PySem.Calls PySem.Spec PyProof.Rows
namespace Mine
set_option maxRecDepth 100000
theorem said : PySem.Challenge.rw_ji0034_01.wellSaid = true := by
  unfold OpenLaw.wellSaid OpenRow.wellSaid OpenRow.partSaid looksOpen
  repeat' with_reducible apply look_both
  all_goals decide +kernel
end Mine
end
open PySem PySem.W PySem.Calls PySem.Spec PyProof.Rows
set_option maxRecDepth 100000 in
set_option maxHeartbeats 8000000 in
theorem PySem.Challenge.cw_ji0034_01_holds : PySem.Challenge.rw_ji0034_01.Holds := by
  w_on
  refine holds_law Mine.said fun said => ?_
  refine holds_open (q := Mine.V) (loose := Mine.LO) (Xt := fun s => xlAt Mine.V [] s && recOk (RowW.records Mine.R0) s) (XP := XL Mine.V []) (Yf := Hook.obs Mine.HK) (Ya := Hook.val Mine.HK) (YP := Hook.says Mine.HK) (N := 3280) Mine.left0 (Hook.of Mine.HK) (Hook.keeps Mine.HK) (fun s e => xl_of s (Bool.and_eq_true_iff.mp e).1) XL.keeps (by rfl) (by rfl) (by rfl) (fun s e => recFacts_of (Bool.and_eq_true_iff.mp e).2) (by rfl) said (by decide +kernel) ⟨rfl, rfl, rfl, rfl, rfl, by decide +kernel⟩ ?hw ?hc
  case hw => w_witness2
  case hc =>
    w_strict (
    intro w s₀ s₁ mg mb G Y fa o pm cd doc dV kV ho hd hcd hD hmg hg args vals as hpre hlay hrd hwl hlo
    have KX := kIn_of Y
    refine Ground.open G ?_
    intro T B D TE TW
    (try (refine guard_noD D (by decide +kernel) ?_; clear D))
    (obtain ⟨_, _, M⟩ := bmod_of_top T)
    (have TA := at_of_top T)
    (try (obtain ⟨_, _, he, B0⟩ := based_of_top T rfl hmg ho hd; have he' : cd = _ := he; subst he'; clear he))
    clear hmg
    wrow_args hpre hlay hrd hwl hlo
    all_goals (
      first | refine callC_kw (enter_call ?_) | refine enter_call ?_ | refine callC_kw (enter_callW ?_) | refine enter_callW ?_ | w_how
      w_top on
      (try refine codeAny_mono ?_ (fun _ _ g => GoodW.toG g))
      have K0 := below_caller (Top.heap T)
      w_call any ho hd hcd hD T F
      clear hd TA
      k_drop
      skip)
    (with_reducible rename Heap.IsList _ _ _ => hL)
    (with_reducible rename IntsAre _ _ => hI)
    (with_reducible rename Fr _ _ _ _ => F₁)
    (with_reducible rename News _ _ _ _ => N₁)
    refine Mine.lawT K0 KX T hL hI ?_ F₁ N₁ rfl ?_ ?_
    · (rename ¬ (_ : Int) < _ => hc); omega
    · intro h' tk' m' F'
      dsimp only
      k_end
      wrow_close
    · passes_own)
